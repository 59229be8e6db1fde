import JvmDerived
import JvmDerived.Pilot.@@N@@Statement
import JvmDerived.Pilot.@@N@@Code
set_option linter.unusedVariables false
set_option linter.unusedSimpArgs false
namespace Jvm.RoadKit
open Sem ClassFile Op Lib Jvm.Stand Jvm.Free Jvm.LawKit
section New
variable {p : Program} {l : Launch} {e : Env} {R : Room} {s : State} {m : MethodId} {args : Array Value} {below : List Frame} {meth : Method} {c : Code} {T : State} {locs : List Loc} {cells slots : Nat}
theorem retI (X : Stand p l e R s m args below meth c T locs cells slots) (hx : p.tables.exec = Jvm.exec) {pc : Nat} {Ls : Array Slot} {z : Int32} {rest : List Value} (hret : meth.sig.returnType = some .int) (hd : decode c.code pc = .ok (.ireturn, 1)) {fs : List Frame}
    (hl : ∀ (f : JFrame) (acts : List Action), f.method = m → f.locked = none → f.entered = [] → (doReturn e (T.setTop f) acts (some (.int z))).1 = T.setFrames fs) : Steps p.tables e below (T.setTop (mkF m pc Ls (.int z :: rest))) (T.setFrames fs) := by
  have hm' : T.vm.method? m = some meth := X.method'
  have hn : narrow .int (.int z) = .int z := rfl
  show Steps p.tables e below (T.setTop { method := m, pc := pc, locals := Ls, stack := _ :: rest, locked := none }) _
  jvm_step X.here [X.here.top, hx, hd, hm', hret, hn]
  first | (intro acts; rw [hl _ acts rfl rfl rfl]) | rw [hl _ _ rfl rfl rfl]
  exact Steps.refl _
end New
end Jvm.RoadKit
@@BLOCK:TracedD.lean.txt@@
namespace Jvm.Pilot.@@N@@
open Jvm Jvm.ClassFile Sem Op Lib Jvm.Free Jvm.Stand Jvm.LawKit Jvm.RoadKit Bundle Jvm.Pilot.@@N@@.Jvm.D
section OwnKit
/-! The own kit: a walk as one relation 'Rn' on (pc, locals, stack, heap): "from here the body runs to its promise". Each row is a library law read backwards, so that a walk may fork anywhere. -/
abbrev Wk : Type := Program × Env × State × MethodId × Array Value × List Frame × Method × Code
abbrev Wk.p (w : Wk) : Program := w.1
abbrev Wk.e (w : Wk) : Env := w.2.1
abbrev Wk.s (w : Wk) : State := w.2.2.1
abbrev Wk.m (w : Wk) : MethodId := w.2.2.2.1
abbrev Wk.a (w : Wk) : Array Value := w.2.2.2.2.1
abbrev Wk.b (w : Wk) : List Frame := w.2.2.2.2.2.1
abbrev Wk.t (w : Wk) : Method := w.2.2.2.2.2.2.1
abbrev Wk.c (w : Wk) : Code := w.2.2.2.2.2.2.2
/-- the run from (pc, Ls, S) over the heap h, with cs cells and ss slots made so far, ends in Q -/
def Rn (w : Wk) (l : Launch) (R : Room) (n0 : Nat) (Q : Option Value → Heap → Prop) (pc : Nat) (Ls : Array Slot) (S : List Value) (h : Heap) (cs ss : Nat) : Prop :=
  ∀ (T : State) (locs : List Loc), Stand w.p l w.e R w.s w.m w.a w.b w.t w.c T locs cs ss → T.heap = h → Fr n0 locs →
    ∃ s₂ o, Steps w.p.tables w.e w.b (T.setTop (mkF w.m pc Ls S)) s₂ ∧ s₂.status = .running ∧ Ended s₂ w.b o ∧ ∃ v L, o = .returned v ∧ (Fr n0 L ∧ Q v s₂.heap) ∧ FrameEnd w.s o s₂ L R.cells R.slots
/-- what stands throughout the walk of one body -/
def Cx (w : Wk) (Z : State) (a0 : Array Value) (own : String) (bytes : ByteArray) (ml : Nat) (rt : Option FieldType) (nm : String) : Prop :=
  w.p.tables.exec = Jvm.exec ∧ w.c.code = bytes ∧ w.c.maxLocals = ml ∧ w.s.vm.findClass own = some w.m.cls ∧ Z.Warmed39 w.s.vm ∧ w.t.sig.returnType = rt ∧ w.t.locks = false ∧ w.t.name = nm ∧ ∀ d ∈ tables_1, d.before a0 Z = true
/-- a body's contract at the arguments as' over the heap h0 -/
def Met (l : Launch) (Z : State) (y : MethodName) (bytes : ByteArray) (ml : Nat) (rt : Option FieldType) (rm : Room) (n0 : Nat) (ws : List Jvm.Cond) (as' : Array Value) (h0 : Heap) (Q : Option Value → Heap → Prop) : Prop :=
  MetFree l y (head1 (Jvm.Cond.code y bytes ml rt :: ws) rm) (fun a U => a = as' ∧ Z.Warmed39 U.vm ∧ U.heap = h0) (fun _ _ _ _ _ => True) (fun _ U o U' => ∃ v L, o = .returned v ∧ (Fr n0 L ∧ Q v U'.heap) ∧ FrameEnd U o U' L rm.cells rm.slots)
variable {w : Wk} {l : Launch} {R : Room} {n0 : Nat} {Q : Option Value → Heap → Prop} {pc q : Nat} {Ls Ls' : Array Slot} {S : List Value} {h : Heap} {cs ss : Nat} {Z : State} {a0 : Array Value} {own : String} {bytes : ByteArray} {ml : Nat} {rt : Option FieldType} {nm : String}
theorem Cx.x (K : Cx w Z a0 own bytes ml rt nm) : w.p.tables.exec = Jvm.exec := K.1
theorem Cx.cd (K : Cx w Z a0 own bytes ml rt nm) : w.c.code = bytes := K.2.1
theorem Cx.mx (K : Cx w Z a0 own bytes ml rt nm) : w.c.maxLocals = ml := K.2.2.1
theorem Cx.ow (K : Cx w Z a0 own bytes ml rt nm) : w.s.vm.findClass own = some w.m.cls := K.2.2.2.1
theorem Cx.z (K : Cx w Z a0 own bytes ml rt nm) : Z.Warmed39 w.s.vm := K.2.2.2.2.1
theorem Cx.ret (K : Cx w Z a0 own bytes ml rt nm) : w.t.sig.returnType = rt := K.2.2.2.2.2.1
theorem Cx.lk (K : Cx w Z a0 own bytes ml rt nm) : w.t.locks = false := K.2.2.2.2.2.2.1
theorem Cx.nme (K : Cx w Z a0 own bytes ml rt nm) : w.t.name = nm := K.2.2.2.2.2.2.2.1
theorem Cx.hw (K : Cx w Z a0 own bytes ml rt nm) : ∀ d ∈ tables_1, d.before a0 Z = true := K.2.2.2.2.2.2.2.2
theorem Met.intro {y : MethodName} {as' : Array Value} {h0 : Heap} {rm : Room} {ws : List Jvm.Cond} (hp : plainFor y = true) (hw : ∀ d ∈ tables_1, d.before a0 Z = true) (ef : ∀ m, entryFrame m as' ml = mkF m 0 Ls [])
    (k : ∀ w : Wk, Cx w Z a0 y.cls bytes ml rt y.name → Rn w l rm n0 Q 0 Ls [] h0 0 0) : Met l Z y bytes ml rt rm n0 ws as' h0 Q := by
  refine MetFree.of_bodySF hp hisR ?_
  intro p e s m args below meth c s₁ Bd hml0 hP hK
  obtain ⟨ha, hZ, hh⟩ := hP
  subst ha
  have e0 : s₁.heap = h0 := by rw [← hh, Bd.state]; rfl
  obtain ⟨s₂, o, h1, h2, h3, h4⟩ := k (p, e, s, m, args, below, meth, c) ⟨Bd.exec, Bd.bytes, hml0, findClass_of_methodNamed Bd.named, hZ, Bd.returns, Bd.notSynchronized, (name_of_methodNamed Bd.named Bd.method).1, hw⟩ s₁ [] (Stand.of_body Bd) e0 (Fr.nil n0)
  exact ⟨s₂, o, castTop (ef m) h1, h2, h3, h4⟩
theorem Rn.step {S' : List Value} (st : ∀ (T : State) (locs : List Loc), Stand w.p l w.e R w.s w.m w.a w.b w.t w.c T locs cs ss → ∀ t, Steps w.p.tables w.e w.b (T.setTop (mkF w.m q Ls' S')) t → Steps w.p.tables w.e w.b (T.setTop (mkF w.m pc Ls S)) t)
    (k : Rn w l R n0 Q q Ls' S' h cs ss) : Rn w l R n0 Q pc Ls S h cs ss := fun T locs X eT N => by
  obtain ⟨s₂, o, h1, r⟩ := k T locs X eT N
  exact ⟨s₂, o, st T locs X _ h1, r⟩
/-! plain steps -/
theorem Rn.iloadN (K : Cx w Z a0 own bytes ml rt nm) {k : Fin 4} {v : Int32} (hd : decode bytes pc = .ok (.iload_n k, 1)) (hl : Ls[k.val]? = some (.val (.int v))) (hq : pc + 1 = q) (r : Rn w l R n0 Q q Ls (.int v :: S) h cs ss) : Rn w l R n0 Q pc Ls S h cs ss := by
  subst hq; exact Rn.step (fun T locs X t k => XS.iloadN X.here K.x rfl (hb K.cd hd) hl k) r
theorem Rn.iload (K : Cx w Z a0 own bytes ml rt nm) {k : Nat} {v : Int32} (hd : decode bytes pc = .ok (.iload k, 2)) (hl : Ls[k]? = some (.val (.int v))) (hq : pc + 2 = q) (r : Rn w l R n0 Q q Ls (.int v :: S) h cs ss) : Rn w l R n0 Q pc Ls S h cs ss := by
  subst hq; exact Rn.step (fun T locs X t k => XS.iload X.here K.x rfl (hb K.cd hd) hl k) r
theorem Rn.lloadN (K : Cx w Z a0 own bytes ml rt nm) {k : Fin 4} {v : Int64} (hd : decode bytes pc = .ok (.lload_n k, 1)) (hl : Ls[k.val]? = some (.val (.long v))) (hq : pc + 1 = q) (r : Rn w l R n0 Q q Ls (.long v :: S) h cs ss) : Rn w l R n0 Q pc Ls S h cs ss := by
  subst hq; exact Rn.step (fun T locs X t k => XS.lloadN X.here K.x rfl (hb K.cd hd) hl k) r
theorem Rn.lload (K : Cx w Z a0 own bytes ml rt nm) {k : Nat} {v : Int64} (hd : decode bytes pc = .ok (.lload k, 2)) (hl : Ls[k]? = some (.val (.long v))) (hq : pc + 2 = q) (r : Rn w l R n0 Q q Ls (.long v :: S) h cs ss) : Rn w l R n0 Q pc Ls S h cs ss := by
  subst hq; exact Rn.step (fun T locs X t k => XS.lload X.here K.x rfl (hb K.cd hd) hl k) r
theorem Rn.aloadN (K : Cx w Z a0 own bytes ml rt nm) {k : Fin 4} {v : Value} (hd : decode bytes pc = .ok (.aload_n k, 1)) (hl : Ls[k.val]? = some (.val v)) (hv : v.isRef = true) (hq : pc + 1 = q) (r : Rn w l R n0 Q q Ls (v :: S) h cs ss) : Rn w l R n0 Q pc Ls S h cs ss := by
  subst hq; exact Rn.step (fun T locs X t k => XS.aloadN X.here K.x rfl (hb K.cd hd) hl hv k) r
theorem Rn.aload (K : Cx w Z a0 own bytes ml rt nm) {k : Nat} {v : Value} (hd : decode bytes pc = .ok (.aload k, 2)) (hl : Ls[k]? = some (.val v)) (hv : v.isRef = true) (hq : pc + 2 = q) (r : Rn w l R n0 Q q Ls (v :: S) h cs ss) : Rn w l R n0 Q pc Ls S h cs ss := by
  subst hq; exact Rn.step (fun T locs X t k => XS.aload X.here K.x rfl (hb K.cd hd) hl hv k) r
theorem Rn.istoreN (K : Cx w Z a0 own bytes ml rt nm) {k : Fin 4} {v : Int32} (hd : decode bytes pc = .ok (.istore_n k, 1)) (hl : storeLocals Ls k.val (.int v) = some Ls') (hq : pc + 1 = q) (r : Rn w l R n0 Q q Ls' S h cs ss) : Rn w l R n0 Q pc Ls (.int v :: S) h cs ss := by
  subst hq; exact Rn.step (fun T locs X t k => XS.istoreN X.here K.x rfl (hb K.cd hd) rfl hl k) r
theorem Rn.istore (K : Cx w Z a0 own bytes ml rt nm) {k : Nat} {v : Int32} (hd : decode bytes pc = .ok (.istore k, 2)) (hl : storeLocals Ls k (.int v) = some Ls') (hq : pc + 2 = q) (r : Rn w l R n0 Q q Ls' S h cs ss) : Rn w l R n0 Q pc Ls (.int v :: S) h cs ss := by
  subst hq; exact Rn.step (fun T locs X t k => XS.istore X.here K.x rfl (hb K.cd hd) rfl hl k) r
theorem Rn.lstoreN (K : Cx w Z a0 own bytes ml rt nm) {k : Fin 4} {v : Int64} (hd : decode bytes pc = .ok (.lstore_n k, 1)) (hl : storeLocals Ls k.val (.long v) = some Ls') (hq : pc + 1 = q) (r : Rn w l R n0 Q q Ls' S h cs ss) : Rn w l R n0 Q pc Ls (.long v :: S) h cs ss := by
  subst hq; exact Rn.step (fun T locs X t k => XS.lstoreN X.here K.x rfl (hb K.cd hd) rfl hl k) r
theorem Rn.lstore (K : Cx w Z a0 own bytes ml rt nm) {k : Nat} {v : Int64} (hd : decode bytes pc = .ok (.lstore k, 2)) (hl : storeLocals Ls k (.long v) = some Ls') (hq : pc + 2 = q) (r : Rn w l R n0 Q q Ls' S h cs ss) : Rn w l R n0 Q pc Ls (.long v :: S) h cs ss := by
  subst hq; exact Rn.step (fun T locs X t k => XS.lstore X.here K.x rfl (hb K.cd hd) rfl hl k) r
theorem Rn.astoreN (K : Cx w Z a0 own bytes ml rt nm) {k : Fin 4} {v : Value} (hd : decode bytes pc = .ok (.astore_n k, 1)) (hv : v.isRef = true) (hl : storeLocals Ls k.val v = some Ls') (hq : pc + 1 = q) (r : Rn w l R n0 Q q Ls' S h cs ss) : Rn w l R n0 Q pc Ls (v :: S) h cs ss := by
  subst hq; exact Rn.step (fun T locs X t k => XS.astoreN X.here K.x rfl (hb K.cd hd) rfl hv hl k) r
theorem Rn.astore (K : Cx w Z a0 own bytes ml rt nm) {k : Nat} {v : Value} (hd : decode bytes pc = .ok (.astore k, 2)) (hv : v.isRef = true) (hl : storeLocals Ls k v = some Ls') (hq : pc + 2 = q) (r : Rn w l R n0 Q q Ls' S h cs ss) : Rn w l R n0 Q pc Ls (v :: S) h cs ss := by
  subst hq; exact Rn.step (fun T locs X t k => XS.astore X.here K.x rfl (hb K.cd hd) rfl hv hl k) r
theorem Rn.iconst (K : Cx w Z a0 own bytes ml rt nm) {i : Int} (v : Int32) (hd : decode bytes pc = .ok (.iconst i, 1)) (hv : Int32.ofInt i = v) (hq : pc + 1 = q) (r : Rn w l R n0 Q q Ls (.int v :: S) h cs ss) : Rn w l R n0 Q pc Ls S h cs ss := by
  subst hq hv; exact Rn.step (fun T locs X t k => XS.iconst X.here K.x rfl (hb K.cd hd) k) r
theorem Rn.bipush (K : Cx w Z a0 own bytes ml rt nm) {i : Int} (v : Int32) (hd : decode bytes pc = .ok (.bipush i, 2)) (hv : (Int8.ofInt i).toInt32 = v) (hq : pc + 2 = q) (r : Rn w l R n0 Q q Ls (.int v :: S) h cs ss) : Rn w l R n0 Q pc Ls S h cs ss := by
  subst hq hv; exact Rn.step (fun T locs X t k => XS.bipush X.here K.x rfl (hb K.cd hd) k) r
theorem Rn.sipush (K : Cx w Z a0 own bytes ml rt nm) {i : Int} (v : Int32) (hd : decode bytes pc = .ok (.sipush i, 3)) (hv : (Int16.ofInt i).toInt32 = v) (hq : pc + 3 = q) (r : Rn w l R n0 Q q Ls (.int v :: S) h cs ss) : Rn w l R n0 Q pc Ls S h cs ss := by
  subst hq hv; exact Rn.step (fun T locs X t k => XS.sipush X.here K.x rfl (hb K.cd hd) k) r
theorem Rn.lconst (K : Cx w Z a0 own bytes ml rt nm) {i : Fin 2} (v : Int64) (hd : decode bytes pc = .ok (.lconst i, 1)) (hv : Int64.ofNat i = v) (hq : pc + 1 = q) (r : Rn w l R n0 Q q Ls (.long v :: S) h cs ss) : Rn w l R n0 Q pc Ls S h cs ss := by
  subst hq hv; exact Rn.step (fun T locs X t k => XS.lconst X.here K.x rfl (hb K.cd hd) k) r
theorem Rn.aconst_null (K : Cx w Z a0 own bytes ml rt nm) (hd : decode bytes pc = .ok (.aconst_null, 1)) (hq : pc + 1 = q) (r : Rn w l R n0 Q q Ls (.null :: S) h cs ss) : Rn w l R n0 Q pc Ls S h cs ss := by
  subst hq; exact Rn.step (fun T locs X t k => XS.aconstNull X.here K.x rfl (hb K.cd hd) k) r
theorem Rn.ldcI (K : Cx w Z a0 own bytes ml rt nm) {i : Nat} (v : Int32) (hi : Jvm.Cond.constant own i v ∈ tables_1) (hd : decode bytes pc = .ok (.ldc i, 2)) (hq : pc + 2 = q) (r : Rn w l R n0 Q q Ls (.int v :: S) h cs ss) : Rn w l R n0 Q pc Ls S h cs ss := by
  subst hq; exact Rn.step (fun T locs X t k => X.ldcI K.x K.ow (mvT K.z (K.hw _ hi)) rfl (hb K.cd hd) k) r
theorem Rn.ldc2J (K : Cx w Z a0 own bytes ml rt nm) {i : Nat} (v : Int64) (hi : Jvm.Cond.constantLong own i v ∈ tables_1) (hd : decode bytes pc = .ok (.ldc2_w i, 3)) (hq : pc + 3 = q) (r : Rn w l R n0 Q q Ls (.long v :: S) h cs ss) : Rn w l R n0 Q pc Ls S h cs ss := by
  subst hq; exact Rn.step (fun T locs X t k => X.ldc2J K.x K.ow (mvT K.z (K.hw _ hi)) rfl (hb K.cd hd) k) r
theorem Rn.iadd (K : Cx w Z a0 own bytes ml rt nm) {x y : Int32} (hd : decode bytes pc = .ok (.iadd, 1)) (hq : pc + 1 = q) (r : Rn w l R n0 Q q Ls (.int (x + y) :: S) h cs ss) : Rn w l R n0 Q pc Ls (.int y :: .int x :: S) h cs ss := by
  subst hq; exact Rn.step (fun T locs X t k => XS.iadd X.here K.x rfl (hb K.cd hd) rfl k) r
theorem Rn.isub (K : Cx w Z a0 own bytes ml rt nm) {x y : Int32} (hd : decode bytes pc = .ok (.isub, 1)) (hq : pc + 1 = q) (r : Rn w l R n0 Q q Ls (.int (x - y) :: S) h cs ss) : Rn w l R n0 Q pc Ls (.int y :: .int x :: S) h cs ss := by
  subst hq; exact Rn.step (fun T locs X t k => XS.isub X.here K.x rfl (hb K.cd hd) rfl k) r
theorem Rn.imul (K : Cx w Z a0 own bytes ml rt nm) {x y : Int32} (hd : decode bytes pc = .ok (.imul, 1)) (hq : pc + 1 = q) (r : Rn w l R n0 Q q Ls (.int (x * y) :: S) h cs ss) : Rn w l R n0 Q pc Ls (.int y :: .int x :: S) h cs ss := by
  subst hq; exact Rn.step (fun T locs X t k => XS.imul X.here K.x rfl (hb K.cd hd) rfl k) r
theorem Rn.iand (K : Cx w Z a0 own bytes ml rt nm) {x y : Int32} (hd : decode bytes pc = .ok (.iand, 1)) (hq : pc + 1 = q) (r : Rn w l R n0 Q q Ls (.int (x &&& y) :: S) h cs ss) : Rn w l R n0 Q pc Ls (.int y :: .int x :: S) h cs ss := by
  subst hq; exact Rn.step (fun T locs X t k => XS.iand X.here K.x rfl (hb K.cd hd) rfl k) r
theorem Rn.ior (K : Cx w Z a0 own bytes ml rt nm) {x y : Int32} (hd : decode bytes pc = .ok (.ior, 1)) (hq : pc + 1 = q) (r : Rn w l R n0 Q q Ls (.int (x ||| y) :: S) h cs ss) : Rn w l R n0 Q pc Ls (.int y :: .int x :: S) h cs ss := by
  subst hq; exact Rn.step (fun T locs X t k => XS.ior X.here K.x rfl (hb K.cd hd) rfl k) r
theorem Rn.iushr (K : Cx w Z a0 own bytes ml rt nm) {x y : Int32} (hd : decode bytes pc = .ok (.iushr, 1)) (hq : pc + 1 = q) (r : Rn w l R n0 Q q Ls (.int ((x.toUInt32 >>> (y &&& 31).toUInt32).toInt32) :: S) h cs ss) : Rn w l R n0 Q pc Ls (.int y :: .int x :: S) h cs ss := by
  subst hq; exact Rn.step (fun T locs X t k => XS.iushr X.here K.x rfl (hb K.cd hd) rfl k) r
theorem Rn.ishr (K : Cx w Z a0 own bytes ml rt nm) {x y : Int32} (hd : decode bytes pc = .ok (.ishr, 1)) (hq : pc + 1 = q) (r : Rn w l R n0 Q q Ls (.int (x >>> (y &&& 31)) :: S) h cs ss) : Rn w l R n0 Q pc Ls (.int y :: .int x :: S) h cs ss := by
  subst hq; exact Rn.step (fun T locs X t k => XS.ishr X.here K.x rfl (hb K.cd hd) rfl k) r
theorem Rn.irem (K : Cx w Z a0 own bytes ml rt nm) {x y : Int32} (hd : decode bytes pc = .ok (.irem, 1)) (hy : y ≠ 0) (hq : pc + 1 = q) (r : Rn w l R n0 Q q Ls (.int (x % y) :: S) h cs ss) : Rn w l R n0 Q pc Ls (.int y :: .int x :: S) h cs ss := by
  subst hq; exact Rn.step (fun T locs X t k => iremM X K.x rfl (hb K.cd hd) rfl hy k) r
theorem Rn.land (K : Cx w Z a0 own bytes ml rt nm) {x y : Int64} (hd : decode bytes pc = .ok (.land, 1)) (hq : pc + 1 = q) (r : Rn w l R n0 Q q Ls (.long (x &&& y) :: S) h cs ss) : Rn w l R n0 Q pc Ls (.long y :: .long x :: S) h cs ss := by
  subst hq; exact Rn.step (fun T locs X t k => XS.land X.here K.x rfl (hb K.cd hd) rfl k) r
theorem Rn.lmul (K : Cx w Z a0 own bytes ml rt nm) {x y : Int64} (hd : decode bytes pc = .ok (.lmul, 1)) (hq : pc + 1 = q) (r : Rn w l R n0 Q q Ls (.long (x * y) :: S) h cs ss) : Rn w l R n0 Q pc Ls (.long y :: .long x :: S) h cs ss := by
  subst hq; exact Rn.step (fun T locs X t k => XS.lmul X.here K.x rfl (hb K.cd hd) rfl k) r
theorem Rn.lneg (K : Cx w Z a0 own bytes ml rt nm) {x : Int64} (hd : decode bytes pc = .ok (.lneg, 1)) (hq : pc + 1 = q) (r : Rn w l R n0 Q q Ls (.long (-x) :: S) h cs ss) : Rn w l R n0 Q pc Ls (.long x :: S) h cs ss := by
  subst hq; exact Rn.step (fun T locs X t k => XS.lneg X.here K.x rfl (hb K.cd hd) rfl k) r
theorem Rn.lcmp (K : Cx w Z a0 own bytes ml rt nm) {x y : Int64} (hd : decode bytes pc = .ok (.lcmp, 1)) (hq : pc + 1 = q) (r : Rn w l R n0 Q q Ls (.int (lcmpW x y) :: S) h cs ss) : Rn w l R n0 Q pc Ls (.long y :: .long x :: S) h cs ss := by
  subst hq; exact Rn.step (fun T locs X t k => XS.lcmp X.here K.x rfl (hb K.cd hd) rfl k) r
theorem Rn.i2l (K : Cx w Z a0 own bytes ml rt nm) {x : Int32} (hd : decode bytes pc = .ok (.i2l, 1)) (hq : pc + 1 = q) (r : Rn w l R n0 Q q Ls (.long x.toInt64 :: S) h cs ss) : Rn w l R n0 Q pc Ls (.int x :: S) h cs ss := by
  subst hq; exact Rn.step (fun T locs X t k => XS.i2l X.here K.x rfl (hb K.cd hd) rfl k) r
theorem Rn.i2c (K : Cx w Z a0 own bytes ml rt nm) {x : Int32} (hd : decode bytes pc = .ok (.i2c, 1)) (hq : pc + 1 = q) (r : Rn w l R n0 Q q Ls (.int x.toUInt32.toUInt16.toUInt32.toInt32 :: S) h cs ss) : Rn w l R n0 Q pc Ls (.int x :: S) h cs ss := by
  subst hq; exact Rn.step (fun T locs X t k => XS.i2c X.here K.x rfl (hb K.cd hd) rfl k) r
theorem Rn.dup (K : Cx w Z a0 own bytes ml rt nm) {x : Value} (hd : decode bytes pc = .ok (.dup, 1)) (hc : x.category = 1) (hq : pc + 1 = q) (r : Rn w l R n0 Q q Ls (x :: x :: S) h cs ss) : Rn w l R n0 Q pc Ls (x :: S) h cs ss := by
  subst hq; exact Rn.step (fun T locs X t k => XS.dup X.here K.x rfl (hb K.cd hd) rfl hc k) r
theorem Rn.pop (K : Cx w Z a0 own bytes ml rt nm) {x : Value} (hd : decode bytes pc = .ok (.pop, 1)) (hc : x.category = 1) (hq : pc + 1 = q) (r : Rn w l R n0 Q q Ls S h cs ss) : Rn w l R n0 Q pc Ls (x :: S) h cs ss := by
  subst hq; exact Rn.step (fun T locs X t k => XS.pop X.here K.x rfl (hb K.cd hd) rfl hc k) r
theorem Rn.dup_x1 (K : Cx w Z a0 own bytes ml rt nm) {x y : Value} (hd : decode bytes pc = .ok (.dup_x1, 1)) (hc : x.category = 1) (hc' : y.category = 1) (hq : pc + 1 = q) (r : Rn w l R n0 Q q Ls (x :: y :: x :: S) h cs ss) : Rn w l R n0 Q pc Ls (x :: y :: S) h cs ss := by
  subst hq; exact Rn.step (fun T locs X t k => XS.dupX1 X.here K.x rfl (hb K.cd hd) rfl hc hc' k) r
theorem Rn.dup2L (K : Cx w Z a0 own bytes ml rt nm) {x : Int64} (hd : decode bytes pc = .ok (.dup2, 1)) (hq : pc + 1 = q) (r : Rn w l R n0 Q q Ls (.long x :: .long x :: S) h cs ss) : Rn w l R n0 Q pc Ls (.long x :: S) h cs ss := by
  subst hq; exact Rn.step (fun T locs X t k => XT.dup2L X.here K.x rfl (hb K.cd hd) rfl k) r
theorem Rn.iinc (K : Cx w Z a0 own bytes ml rt nm) {k : Nat} {i : Int} {x : Int32} (v : Int32) (hd : decode bytes pc = .ok (.iinc k i, 3)) (hv : Int32.ofInt i = v) (hl : Ls[k]? = some (.val (.int x))) (hl' : storeLocals Ls k (.int (x + v)) = some Ls') (hq : pc + 3 = q) (r : Rn w l R n0 Q q Ls' S h cs ss) : Rn w l R n0 Q pc Ls S h cs ss := by
  subst hq hv; exact Rn.step (fun T locs X t k => XS.iinc X.here K.x rfl (hb K.cd hd) hl hl' k) r
theorem Rn.goto (K : Cx w Z a0 own bytes ml rt nm) {o : Int} (hd : decode bytes pc = .ok (.goto o, 3)) (ho : 0 ≤ (pc : Int) + o) (hq : ((pc : Int) + o).toNat = q) (r : Rn w l R n0 Q q Ls S h cs ss) : Rn w l R n0 Q pc Ls S h cs ss :=
  Rn.step (fun T locs X t k => XS.goto X.here K.x rfl rfl (hb K.cd hd) ho hq k) r
theorem Rn.ifY (K : Cx w Z a0 own bytes ml rt nm) {cd : ClassFile.Cond} {x : Int32} {o : Int} (hd : decode bytes pc = .ok (.ifCond cd o, 3)) (hc : ifCond.holds cd x = true) (ho : 0 ≤ (pc : Int) + o) (hq : ((pc : Int) + o).toNat = q) (r : Rn w l R n0 Q q Ls S h cs ss) : Rn w l R n0 Q pc Ls (.int x :: S) h cs ss :=
  Rn.step (fun T locs X t k => XS.ifYes X.here K.x rfl rfl (hb K.cd hd) rfl hc ho hq k) r
theorem Rn.ifN (K : Cx w Z a0 own bytes ml rt nm) {cd : ClassFile.Cond} {x : Int32} {o : Int} (hd : decode bytes pc = .ok (.ifCond cd o, 3)) (hc : ifCond.holds cd x = false) (hq : pc + 3 = q) (r : Rn w l R n0 Q q Ls S h cs ss) : Rn w l R n0 Q pc Ls (.int x :: S) h cs ss := by
  subst hq; exact Rn.step (fun T locs X t k => XS.ifNo X.here K.x rfl (hb K.cd hd) rfl hc k) r
theorem Rn.icY (K : Cx w Z a0 own bytes ml rt nm) {cd : ClassFile.Cond} {x y : Int32} {o : Int} (hd : decode bytes pc = .ok (.if_icmp cd o, 3)) (hc : if_icmp.holds cd x y = true) (ho : 0 ≤ (pc : Int) + o) (hq : ((pc : Int) + o).toNat = q) (r : Rn w l R n0 Q q Ls S h cs ss) : Rn w l R n0 Q pc Ls (.int y :: .int x :: S) h cs ss :=
  Rn.step (fun T locs X t k => XS.icmpYes X.here K.x rfl rfl (hb K.cd hd) rfl hc ho hq k) r
theorem Rn.icN (K : Cx w Z a0 own bytes ml rt nm) {cd : ClassFile.Cond} {x y : Int32} {o : Int} (hd : decode bytes pc = .ok (.if_icmp cd o, 3)) (hc : if_icmp.holds cd x y = false) (hq : pc + 3 = q) (r : Rn w l R n0 Q q Ls S h cs ss) : Rn w l R n0 Q pc Ls (.int y :: .int x :: S) h cs ss := by
  subst hq; exact Rn.step (fun T locs X t k => XS.icmpNo X.here K.x rfl (hb K.cd hd) rfl hc k) r
theorem Rn.acY (K : Cx w Z a0 own bytes ml rt nm) {cd : ClassFile.ACond} {x y : Value} {o : Int} (hd : decode bytes pc = .ok (.if_acmp cd o, 3)) (h1 : x.isRef = true) (h2 : y.isRef = true) (hc : XT.acmp cd x y = true) (ho : 0 ≤ (pc : Int) + o) (hq : ((pc : Int) + o).toNat = q) (r : Rn w l R n0 Q q Ls S h cs ss) : Rn w l R n0 Q pc Ls (y :: x :: S) h cs ss :=
  Rn.step (fun T locs X t k => XT.acmpYes X.here K.x rfl rfl (hb K.cd hd) rfl h1 h2 hc ho hq k) r
theorem Rn.acN (K : Cx w Z a0 own bytes ml rt nm) {cd : ClassFile.ACond} {x y : Value} {o : Int} (hd : decode bytes pc = .ok (.if_acmp cd o, 3)) (h1 : x.isRef = true) (h2 : y.isRef = true) (hc : XT.acmp cd x y = false) (hq : pc + 3 = q) (r : Rn w l R n0 Q q Ls S h cs ss) : Rn w l R n0 Q pc Ls (y :: x :: S) h cs ss := by
  subst hq; exact Rn.step (fun T locs X t k => XT.acmpNo X.here K.x rfl (hb K.cd hd) rfl h1 h2 hc k) r
theorem Rn.nullY (K : Cx w Z a0 own bytes ml rt nm) {o : Int} (hd : decode bytes pc = .ok (.ifnull o, 3)) (ho : 0 ≤ (pc : Int) + o) (hq : ((pc : Int) + o).toNat = q) (r : Rn w l R n0 Q q Ls S h cs ss) : Rn w l R n0 Q pc Ls (.null :: S) h cs ss :=
  Rn.step (fun T locs X t k => XS.ifnullYes X.here K.x rfl rfl (hb K.cd hd) rfl ho hq k) r
theorem Rn.nullN (K : Cx w Z a0 own bytes ml rt nm) {o : Int} {b : Addr} (hd : decode bytes pc = .ok (.ifnull o, 3)) (hq : pc + 3 = q) (r : Rn w l R n0 Q q Ls S h cs ss) : Rn w l R n0 Q pc Ls (.ref b :: S) h cs ss := by
  subst hq; exact Rn.step (fun T locs X t k => XS.ifnullNo X.here K.x rfl (hb K.cd hd) rfl k) r
theorem Rn.nonnullY (K : Cx w Z a0 own bytes ml rt nm) {o : Int} {b : Addr} (hd : decode bytes pc = .ok (.ifnonnull o, 3)) (ho : 0 ≤ (pc : Int) + o) (hq : ((pc : Int) + o).toNat = q) (r : Rn w l R n0 Q q Ls S h cs ss) : Rn w l R n0 Q pc Ls (.ref b :: S) h cs ss :=
  Rn.step (fun T locs X t k => XS.ifnonnullYes X.here K.x rfl rfl (hb K.cd hd) rfl ho hq k) r
theorem Rn.nonnullN (K : Cx w Z a0 own bytes ml rt nm) {o : Int} (hd : decode bytes pc = .ok (.ifnonnull o, 3)) (hq : pc + 3 = q) (r : Rn w l R n0 Q q Ls S h cs ss) : Rn w l R n0 Q pc Ls (.null :: S) h cs ss := by
  subst hq; exact Rn.step (fun T locs X t k => XS.ifnonnullNo X.here K.x rfl (hb K.cd hd) rfl k) r
/-! the ends -/
theorem Rn.retN (K : Cx w Z a0 own bytes ml rt nm) {x : Int32} (t : FieldType) (ht : rt = some t) (ht' : t = .boolean ∨ t = .byte ∨ t = .char ∨ t = .short) (hd : decode bytes pc = .ok (.ireturn, 1)) (hc : cs ≤ R.cells) (hs : ss ≤ R.slots) (hQ : Q (some (.int (nar t x))) h) : Rn w l R n0 Q pc Ls (.int x :: S) h cs ss := fun T locs X eT N => by
  obtain ⟨fs, hr, hrun, hended, hW, hsame⟩ := X.leave (v := some (.int (nar t x))) (fun h => by rw [K.ret, ht] at h; cases h) K.lk
  exact ⟨_, _, Jvm.RoadKit.retN X K.x (K.ret.trans ht) ht' (hb K.cd hd) hr, hrun, hended, _, _, rfl, ⟨N, by rw [← eT] at hQ; exact hQ⟩, ⟨_, rfl⟩, hW, hsame.mono hc hs⟩
theorem Rn.retI (K : Cx w Z a0 own bytes ml rt nm) {x : Int32} (ht : rt = some .int) (hd : decode bytes pc = .ok (.ireturn, 1)) (hc : cs ≤ R.cells) (hs : ss ≤ R.slots) (hQ : Q (some (.int x)) h) : Rn w l R n0 Q pc Ls (.int x :: S) h cs ss := fun T locs X eT N => by
  obtain ⟨fs, hr, hrun, hended, hW, hsame⟩ := X.leave (v := some (.int x)) (fun h => by rw [K.ret, ht] at h; cases h) K.lk
  exact ⟨_, _, Jvm.RoadKit.retI X K.x (K.ret.trans ht) (hb K.cd hd) hr, hrun, hended, _, _, rfl, ⟨N, by rw [← eT] at hQ; exact hQ⟩, ⟨_, rfl⟩, hW, hsame.mono hc hs⟩
theorem Rn.retJ (K : Cx w Z a0 own bytes ml rt nm) {x : Int64} (ht : rt = some .long) (hd : decode bytes pc = .ok (.lreturn, 1)) (hc : cs ≤ R.cells) (hs : ss ≤ R.slots) (hQ : Q (some (.long x)) h) : Rn w l R n0 Q pc Ls [.long x] h cs ss := fun T locs X eT N => by
  obtain ⟨fs, hr, hrun, hended, hW, hsame⟩ := X.leave (v := some (.long x)) (fun h => by rw [K.ret, ht] at h; cases h) K.lk
  exact ⟨_, _, X.lreturnOut K.x (K.ret.trans ht) (hb K.cd hd) hr, hrun, hended, _, _, rfl, ⟨N, by rw [← eT] at hQ; exact hQ⟩, ⟨_, rfl⟩, hW, hsame.mono hc hs⟩
theorem Rn.retA (K : Cx w Z a0 own bytes ml rt nm) {v : Value} (t : FieldType) (hv : v.isRef = true) (ht : rt = some t) (ht' : t.isReference = true) (hd : decode bytes pc = .ok (.areturn, 1)) (hc : cs ≤ R.cells) (hs : ss ≤ R.slots) (hQ : Q (some v) h) : Rn w l R n0 Q pc Ls [v] h cs ss := fun T locs X eT N => by
  obtain ⟨fs, hr, hrun, hended, hW, hsame⟩ := X.leave (v := some v) (fun h => by rw [K.ret, ht] at h; cases h) K.lk
  exact ⟨_, _, X.areturnOut K.x hv (K.ret.trans ht) ht' (hb K.cd hd) hr, hrun, hended, _, _, rfl, ⟨N, by rw [← eT] at hQ; exact hQ⟩, ⟨_, rfl⟩, hW, hsame.mono hc hs⟩
theorem Rn.retV (K : Cx w Z a0 own bytes ml rt nm) (ht : rt = none) (hd : decode bytes pc = .ok (.return_, 1)) (hc : cs ≤ R.cells) (hs : ss ≤ R.slots) (hQ : Q none h) : Rn w l R n0 Q pc Ls [] h cs ss := fun T locs X eT N => by
  obtain ⟨fs, hr, hrun, hended, hW, hsame⟩ := X.leave (v := none) (fun _ => rfl) K.lk
  exact ⟨_, _, X.returnOut K.x (K.ret.trans ht) (hb K.cd hd) hr, hrun, hended, _, _, rfl, ⟨N, by rw [← eT] at hQ; exact hQ⟩, ⟨_, rfl⟩, hW, hsame.mono hc hs⟩
/-! fields and statics -/
theorem Rn.getS (K : Cx w Z a0 own bytes ml rt nm) {i : Nat} {C n d : String} {v : Value} (hi : Jvm.Cond.fieldLink own i C n d ∈ tables_1) (F : Sta Z h C n d v) (hd : decode bytes pc = .ok (.getstatic i, 3)) (hq : pc + 3 = q) (r : Rn w l R n0 Q q Ls (v :: S) h cs ss) : Rn w l R n0 Q pc Ls S h cs ss := fun T locs X eT N => by
  subst hq
  obtain ⟨T', X', e', st⟩ := getS2 X K.x K.z K.ow (host := "") (Or.inl (K.hw _ hi)) Via.refl eT F (g := mkF w.m pc Ls S) rfl (hb K.cd hd)
  obtain ⟨s₂, o, h1, r'⟩ := r T' locs X' e' N
  exact ⟨s₂, o, st _ h1, r'⟩
theorem Rn.getF (K : Cx w Z a0 own bytes ml rt nm) {i : Nat} {C O n d : String} {a : Addr} {v : Value} (hi : Jvm.Cond.fieldLink own i C n d ∈ tables_1) (via : Via Z C O n d) (F : Fld Z h a O n d v) (hd : decode bytes pc = .ok (.getfield i, 3)) (hq : pc + 3 = q) (r : Rn w l R n0 Q q Ls (v :: S) h cs ss) : Rn w l R n0 Q pc Ls (.ref a :: S) h cs ss := fun T locs X eT N => by
  subst hq
  obtain ⟨T', X', e', st⟩ := Jvm.RoadKit.getF X K.x K.z K.ow (host := "") (Or.inl (K.hw _ hi)) via eT F (g := mkF w.m pc Ls (.ref a :: S)) rfl rfl (hb K.cd hd)
  obtain ⟨s₂, o, h1, r'⟩ := r T' locs X' e' N
  exact ⟨s₂, o, st _ h1, r'⟩
theorem Rn.putF (K : Cx w Z a0 own bytes ml rt nm) {i kk : Nat} {C0 O n d C : String} {ty : FieldType} {a : Addr} {v v' old : Value} (hi : Jvm.Cond.fieldLink own i C0 n d ∈ tables_1) (via : Via Z C0 O n d) (F : Fld Z h a O n d old) (E : Exa Z h a C)
    (hl : Jvm.Cond.lays C O n d ∈ tables_1 ∨ (Jvm.Cond.laysFinal C O n d ∈ tables_1 ∧ own = O ∧ nm = "<init>")) (hin : Jvm.Cond.instantiable C kk ∈ tables_1) (hty : parseFieldDescriptor d = some ty) (hn : narrow ty v = v') (hf : fits ty v' = true) (hg : n0 ≤ a)
    (hd : decode bytes pc = .ok (.putfield i, 3)) (hq : pc + 3 = q) (r : ∀ h', Wr h h' a (Jvm.RoadKit.slotOf Z O n d) v' → Rn w l R n0 Q q Ls S h' cs ss) : Rn w l R n0 Q pc Ls (v :: .ref a :: S) h cs ss := fun T locs X eT N => by
  subst hq
  obtain ⟨T', h', X', e', W, st⟩ := putFN X K.x K.z K.ow (K.hw _ hi) via eT F E (hl.elim (fun z => Or.inl (K.hw _ z)) (fun z => Or.inr ⟨K.hw _ z.1, z.2.1, K.nme.trans z.2.2⟩)) (K.hw _ hin) hty hn hf (g := mkF w.m pc Ls (v :: .ref a :: S)) rfl rfl (hb K.cd hd)
  obtain ⟨s₂, o, h1, r'⟩ := r h' W T' _ X' e' (Fr.snoc X' N hg)
  exact ⟨s₂, o, st _ h1, r'⟩
/-! making -/
theorem Rn.newO (K : Cx w Z a0 own bytes ml rt nm) {i k : Nat} {C : String} (hi : Jvm.Cond.classLink own i C ∈ tables_1) (hin : Jvm.Cond.instantiable C k ∈ tables_1) (hz : Jvm.Cond.initialized C ∈ tables_1) (hc : cs + 1 ≤ R.cells) (hs : ss + k ≤ R.slots) (hd : decode bytes pc = .ok (.new i, 3)) (hq : pc + 3 = q)
    (r : ∀ b h', b = h.size → Ext h h' → Exa Z h' b C → (∀ {O n d : String} {ty : FieldType}, Laid Z a0 C O n d → parseFieldDescriptor d = some ty → Fld Z h' b O n d (defaultValue ty)) → Rn w l R n0 Q q Ls (.ref b :: S) h' (cs + 1) (ss + k)) : Rn w l R n0 Q pc Ls S h cs ss := fun T locs X eT N => by
  subst hq
  obtain ⟨T', h', X', e', E, A, D, -, st⟩ := Jvm.RoadKit.newO X K.x K.z K.ow (K.hw _ hi) (K.hw _ hin) (K.hw _ hz) eT (g := mkF w.m pc Ls S) rfl (hb K.cd hd) hc hs
  obtain ⟨s₂, o, h1, r'⟩ := r _ h' rfl E A D T' _ X' e' N
  exact ⟨s₂, o, st _ h1, r'⟩
theorem Rn.newP (K : Cx w Z a0 own bytes ml rt nm) {aty : ArrayType} {x : Int32} {cap : Nat} (hi : Jvm.Cond.arrayClass (newarray.typeOf aty) ∈ tables_1) (hn : ¬ x < 0) (hcap : x.toNatClampNeg ≤ cap) (hb8 : cap * 8 ≤ 536870912) (hc : cs + 1 ≤ R.cells) (hs : ss + cap ≤ R.slots) {ad : String} (had : "[" ++ (newarray.typeOf aty).toString = ad) (hd : decode bytes pc = .ok (.newarray aty, 2)) (hq : pc + 2 = q)
    (r : ∀ b h' k, b = h.size → Ext h h' → Arv Z h' b k (newarray.typeOf aty) x [] (defaultValue (newarray.typeOf aty)) → Exa Z h' b ad → Rn w l R n0 Q q Ls (.ref b :: S) h' (cs + 1) (ss + cap)) : Rn w l R n0 Q pc Ls (.int x :: S) h cs ss := fun T locs X eT N => by
  subst hq
  obtain ⟨T', h', k, X', e', E, A, EA, st⟩ := newPE X K.x K.z (K.hw _ hi) eT (g := mkF w.m pc Ls (.int x :: S)) rfl (hb K.cd hd) rfl hn hcap hb8 hc hs had
  obtain ⟨s₂, o, h1, r'⟩ := r _ h' k rfl E (Arv.new A hn) EA T' _ X' e' N
  exact ⟨s₂, o, st _ h1, r'⟩
/-! calls -/
theorem nfs (K : Cx w Z a0 own bytes ml rt nm) {C : String} {y : MethodName} (i : Jvm.Cond.selects C y y ∈ tables_1) : NotFace w.s y := notFace_of_selects (args := #[]) (mvT K.z (K.hw _ i))
theorem Rn.virt (K : Cx w Z a0 own bytes ml rt nm) {index W : Nat} {y z : MethodName} {C : String} {b : Addr} {argsL rest : List Value} {bz : ByteArray} {mz : Nat} {rz : Option FieldType} {rm : Room} {Q' : Option Value → Heap → Prop}
    (i1 : Jvm.Cond.methodLink own index y ∈ tables_1) (i2 : Jvm.Cond.declares y ∈ tables_1) (nf : NotFace w.s y) (i3 : Jvm.Cond.selects C y z ∈ tables_1) (i4 : Jvm.Cond.instanceMethod z ∈ tables_1) (i5 : Jvm.Cond.code z bz mz rz ∈ tables_1) (i6 : Jvm.Cond.initialized z.cls ∈ tables_1)
    (hy : y.cls ≠ "java/lang/invoke/MethodHandle" ∧ y.cls ≠ "java/lang/invoke/VarHandle") (M : Met l Z z bz mz rz rm n0 [] (.ref b :: argsL).toArray h Q') (E : Exa Z h b C) (hf : rm.frames + 1 ≤ R.frames) (hlo : W + (mz + 11) + rm.locals ≤ R.locals)
    (hsz : Ls.size = ml) (hlen : ∀ sig, parseMethodDescriptor y.desc = some sig → argsL.length = sig.parameters.length) (hS : S = argsL.reverse ++ .ref b :: rest) (hW : (rest.map fun v => v.category).sum ≤ W)
    (hd : decode bytes pc = .ok (.invokevirtual index, 3)) (hq : pc + 3 = q) (hc : cs + rm.cells ≤ R.cells) (hs : ss + rm.slots ≤ R.slots)
    (r : ∀ v h', Q' v h' → Rn w l R n0 Q q Ls (v.toList ++ rest) h' (cs + rm.cells) (ss + rm.slots)) : Rn w l R n0 Q pc Ls S h cs ss := fun T locs X eT N => by
  subst hq hS
  obtain ⟨cq, kq, qa, qb, qc⟩ := isOf K.z eT E
  obtain ⟨v, _, ⟨T', L', k', n'⟩, -, X', ⟨Lc, hQ, l', y', z'⟩, st⟩ := X.virtualBack K.x (y := y) (z := z) K.ow (mvT K.z (K.hw _ i1)) (mvT K.z (K.hw _ i2)) nf (mvT K.z (K.hw _ i3)) (mvT K.z (K.hw _ i4)) hy (backOf (Q := fun v h L => Fr n0 L ∧ Q' v h) (W := W) M K.z (K.hw _ i5) (K.hw _ i6) hf hlo) qa qc (g := mkF w.m pc Ls (argsL.reverse ++ .ref b :: rest)) rfl (hsz.trans K.mx.symm) (Steps.refl _) (argsL := argsL) (rest := rest) hlen rfl (by show 2 * 0 + _ ≤ _; rw [Nat.mul_zero, Nat.zero_add]; exact hW) (hb K.cd hd) (fun _ _ => ⟨rfl, eT, hc, hs⟩)
  dsimp only [Pt.U, Pt.locs, Pt.cells, Pt.slots] at X' l' y' z' st hQ
  subst l' y' z'
  obtain ⟨s₂, o, h1, r'⟩ := r v T'.heap hQ.2 T' _ X' rfl (Fr.app N hQ.1)
  exact ⟨s₂, o, st.trans h1, r'⟩
theorem Rn.face (K : Cx w Z a0 own bytes ml rt nm) {index count W : Nat} {y z : MethodName} {C : String} {b : Addr} {argsL rest : List Value} {bz : ByteArray} {mz : Nat} {rz : Option FieldType} {rm : Room} {Q' : Option Value → Heap → Prop}
    (i1 : Jvm.Cond.methodLink own index y ∈ tables_1) (i2 : Jvm.Cond.declares y ∈ tables_1) (i2' : (Jvm.Cond.interfaceMethod y.cls y.cls y.name y.desc).before w.a w.s = true) (i3 : Jvm.Cond.selects C y z ∈ tables_1) (i4 : Jvm.Cond.instanceMethod z ∈ tables_1) (i7 : Jvm.Cond.publicMethod z ∈ tables_1) (i8 : Jvm.Cond.unhidden C y.name y.desc ∈ tables_1) (i9 : Jvm.Cond.castable C y.cls ∈ tables_1) (i5 : Jvm.Cond.code z bz mz rz ∈ tables_1) (i6 : Jvm.Cond.initialized z.cls ∈ tables_1)
    (hy : y.cls ≠ "java/lang/invoke/MethodHandle" ∧ y.cls ≠ "java/lang/invoke/VarHandle") (M : Met l Z z bz mz rz rm n0 [] (.ref b :: argsL).toArray h Q') (E : Exa Z h b C) (hf : rm.frames + 1 ≤ R.frames) (hlo : W + (mz + 11) + rm.locals ≤ R.locals)
    (hsz : Ls.size = ml) (hlen : ∀ sig, parseMethodDescriptor y.desc = some sig → argsL.length = sig.parameters.length) (hS : S = argsL.reverse ++ .ref b :: rest) (hW : (rest.map fun v => v.category).sum ≤ W)
    (hd : decode bytes pc = .ok (.invokeinterface index count, 5)) (hq : pc + 5 = q) (hc : cs + rm.cells ≤ R.cells) (hs : ss + rm.slots ≤ R.slots)
    (r : ∀ v h', Q' v h' → Rn w l R n0 Q q Ls (v.toList ++ rest) h' (cs + rm.cells) (ss + rm.slots)) : Rn w l R n0 Q pc Ls S h cs ss := fun T locs X eT N => by
  subst hq hS
  obtain ⟨cq, kq, qa, qb, qc⟩ := isOf K.z eT E
  obtain ⟨v, _, ⟨T', L', k', n'⟩, -, X', ⟨Lc, hQ, l', y', z'⟩, st⟩ := X.interfaceBack K.x (xi := y) (y := z) K.ow (mvT K.z (K.hw _ i1)) (mvT K.z (K.hw _ i2)) i2' (mvT K.z (K.hw _ i3)) (mvT K.z (K.hw _ i4)) (mvT K.z (K.hw _ i7)) (mvT K.z (K.hw _ i8)) (mvT K.z (K.hw _ i9)) hy (backOf (Q := fun v h L => Fr n0 L ∧ Q' v h) (W := W) M K.z (K.hw _ i5) (K.hw _ i6) hf hlo) qa qb qc (g := mkF w.m pc Ls (argsL.reverse ++ .ref b :: rest)) rfl (hsz.trans K.mx.symm) (Steps.refl _) (argsL := argsL) (rest := rest) hlen rfl (by show 2 * 0 + _ ≤ _; rw [Nat.mul_zero, Nat.zero_add]; exact hW) (hb K.cd hd) (fun _ _ => ⟨rfl, eT, hc, hs⟩)
  dsimp only [Pt.U, Pt.locs, Pt.cells, Pt.slots] at X' l' y' z' st hQ
  subst l' y' z'
  obtain ⟨s₂, o, h1, r'⟩ := r v T'.heap hQ.2 T' _ X' rfl (Fr.app N hQ.1)
  exact ⟨s₂, o, st.trans h1, r'⟩
theorem Rn.stat (K : Cx w Z a0 own bytes ml rt nm) {index W : Nat} {y : MethodName} {argsL rest : List Value} {bz : ByteArray} {mz : Nat} {rz : Option FieldType} {rm : Room} {Q' : Option Value → Heap → Prop}
    (i1 : Jvm.Cond.methodLink own index y ∈ tables_1) (i2 : Jvm.Cond.static y ∈ tables_1) (i5 : Jvm.Cond.code y bz mz rz ∈ tables_1) (i6 : Jvm.Cond.initialized y.cls ∈ tables_1)
    (hy : y.cls ≠ "java/lang/invoke/MethodHandle" ∧ y.cls ≠ "java/lang/invoke/VarHandle") (M : Met l Z y bz mz rz rm n0 [] argsL.toArray h Q') (hf : rm.frames + 1 ≤ R.frames) (hlo : W + (mz + 11) + rm.locals ≤ R.locals)
    (hsz : Ls.size = ml) (hlen : ∀ sig, parseMethodDescriptor y.desc = some sig → argsL.length = sig.parameters.length) (hS : S = argsL.reverse ++ rest) (hW : (rest.map fun v => v.category).sum ≤ W)
    (hd : decode bytes pc = .ok (.invokestatic index, 3)) (hq : pc + 3 = q) (hc : cs + rm.cells ≤ R.cells) (hs : ss + rm.slots ≤ R.slots)
    (r : ∀ v h', Q' v h' → Rn w l R n0 Q q Ls (v.toList ++ rest) h' (cs + rm.cells) (ss + rm.slots)) : Rn w l R n0 Q pc Ls S h cs ss := fun T locs X eT N => by
  subst hq hS
  obtain ⟨v, _, ⟨T', L', k', n'⟩, -, X', ⟨Lc, hQ, l', y', z'⟩, st⟩ := Jvm.LawKit.callS X K.x (y := y) K.ow (mvT K.z (K.hw _ i1)) (mvT K.z (K.hw _ i2)) (mvT K.z (K.hw _ i6)) (mvT K.z (K.hw _ i5)) hy (backOf (Q := fun v h L => Fr n0 L ∧ Q' v h) (W := W) M K.z (K.hw _ i5) (K.hw _ i6) hf hlo) (g := mkF w.m pc Ls (argsL.reverse ++ rest)) rfl (hsz.trans K.mx.symm) (argsL := argsL) (rest := rest) hlen rfl (by show 2 * 0 + _ ≤ _; rw [Nat.mul_zero, Nat.zero_add]; exact hW) (hb K.cd hd) (fun _ _ => ⟨rfl, eT, hc, hs⟩)
  dsimp only [Pt.U, Pt.locs, Pt.cells, Pt.slots] at X' l' y' z' st hQ
  subst l' y' z'
  obtain ⟨s₂, o, h1, r'⟩ := r v T'.heap hQ.2 T' _ X' rfl (Fr.app N hQ.1)
  exact ⟨s₂, o, st _ h1, r'⟩
theorem Rn.spec (K : Cx w Z a0 own bytes ml rt nm) {index W : Nat} {y : MethodName} {b : Addr} {argsL rest : List Value} {bz : ByteArray} {mz : Nat} {rm : Room} {Q' : Option Value → Heap → Prop}
    (hn : y.name = "<init>") (i1 : Jvm.Cond.methodLink own index y ∈ tables_1) (i4 : Jvm.Cond.instanceMethod y ∈ tables_1) (i5 : Jvm.Cond.code y bz mz none ∈ tables_1) (i6 : Jvm.Cond.initialized y.cls ∈ tables_1)
    (hy : y.cls ≠ "java/lang/invoke/MethodHandle" ∧ y.cls ≠ "java/lang/invoke/VarHandle") (M : Met l Z y bz mz none rm n0 [] (.ref b :: argsL).toArray h Q') (hf : rm.frames + 1 ≤ R.frames) (hlo : W + (mz + 11) + rm.locals ≤ R.locals)
    (hsz : Ls.size = ml) (hlen : ∀ sig, parseMethodDescriptor y.desc = some sig → argsL.length = sig.parameters.length) (hS : S = argsL.reverse ++ .ref b :: rest) (hW : (rest.map fun v => v.category).sum ≤ W)
    (hd : decode bytes pc = .ok (.invokespecial index, 3)) (hq : pc + 3 = q) (hc : cs + rm.cells ≤ R.cells) (hs : ss + rm.slots ≤ R.slots)
    (r : ∀ v h', Q' v h' → Rn w l R n0 Q q Ls (v.toList ++ rest) h' (cs + rm.cells) (ss + rm.slots)) : Rn w l R n0 Q pc Ls S h cs ss := fun T locs X eT N => by
  subst hq hS
  obtain ⟨v, _, ⟨T', L', k', n'⟩, -, X', ⟨Lc, hQ, l', y', z'⟩, st⟩ := X.specialBack K.x (y := y) hn K.ow (mvT K.z (K.hw _ i1)) (mvT K.z (K.hw _ i4)) (mvT K.z (K.hw _ i5)) hy (backOf (Q := fun v h L => Fr n0 L ∧ Q' v h) (W := W) M K.z (K.hw _ i5) (K.hw _ i6) hf hlo) (g := mkF w.m pc Ls (argsL.reverse ++ .ref b :: rest)) rfl (hsz.trans K.mx.symm) (Steps.refl _) (a := b) (argsL := argsL) (rest := rest) hlen rfl (by show 2 * 0 + _ ≤ _; rw [Nat.mul_zero, Nat.zero_add]; exact hW) (hb K.cd hd) (fun _ _ => ⟨rfl, eT, hc, hs⟩)
  dsimp only [Pt.U, Pt.locs, Pt.cells, Pt.slots] at X' l' y' z' st hQ
  subst l' y' z'
  obtain ⟨s₂, o, h1, r'⟩ := r v T'.heap hQ.2 T' _ X' rfl (Fr.app N hQ.1)
  exact ⟨s₂, o, st.trans h1, r'⟩
theorem Rn.initO (K : Cx w Z a0 own bytes ml rt nm) {index W : Nat} {b : Addr} (i1 : Jvm.Cond.methodLink own index Lib.objectInit ∈ tables_1) (i4 : Jvm.Cond.instanceMethod Lib.objectInit ∈ tables_1) (i5 : Jvm.Cond.code Lib.objectInit ⟨#[0xb1]⟩ 1 none ∈ tables_1)
    (hf : 1 ≤ R.frames) (hlo : W + 12 ≤ R.locals) (hsz : Ls.size = ml) (hW : (S.map fun v => v.category).sum ≤ W) (hd : decode bytes pc = .ok (.invokespecial index, 3)) (hq : pc + 3 = q) (r : Rn w l R n0 Q q Ls S h cs ss) : Rn w l R n0 Q pc Ls (.ref b :: S) h cs ss := fun T locs X eT N => by
  subst hq
  obtain ⟨T', X', e', st⟩ := Jvm.RoadKit.initO X K.x K.z K.ow (K.hw _ i1) (K.hw _ i4) (K.hw _ i5) eT (g := mkF w.m pc Ls (.ref b :: S)) rfl (hsz.trans K.mx.symm) rfl (hb K.cd hd) hf (W := W) (by show 2 * 0 + _ ≤ _; rw [Nat.mul_zero, Nat.zero_add]; exact hW) hlo
  obtain ⟨s₂, o, h1, r'⟩ := r T' locs X' e' N
  exact ⟨s₂, o, st _ h1, r'⟩
end OwnKit
theorem own_eqI {args : Array Value} {s : State} {t : Term} {k : Int32} (h : (Jvm.Cond.eq t (.int k)).value args s none s [] = some true) : t.eval args s none [] s = some (.int k) := by
  obtain ⟨x, y, hx, hy, hk, hk'⟩ := cmp_v (Or.inl h)
  rw [Term.int_eval] at hy
  cases hy
  obtain ⟨z, rfl⟩ := hk'
  have e : z = k := by simpa [Cond.value, hx, Term.eval] using h
  rw [hx, e]
theorem own_ord {args : Array Value} {s : State} {C n d : String} {a : Addr} {k : Int32} (ev : (Term.static C n d).eval args s none [] s = some (.ref a)) (h : (Jvm.Cond.eq (.field (.static C n d) "java/lang/Enum" "ordinal" "I") (.int k)).value args s none s [] = some true) : Fld s s.heap a "java/lang/Enum" "ordinal" "I" (.int k) := by
  have h2 := own_eqI h
  rw [fld_at ev] at h2
  exact Fld.start h2
theorem own_fref {args : Array Value} {s : State} {C n d C' n' d' O f e : String} {a b : Addr} (ev : (Term.static C n d).eval args s none [] s = some (.ref a)) (ev' : (Term.static C' n' d').eval args s none [] s = some (.ref b)) (h : (Jvm.Cond.eq (.field (.static C n d) O f e) (.static C' n' d')).value args s none s [] = some true) : Fld s s.heap a O f e (.ref b) := by
  obtain ⟨x, y, hx, hy, hk, hk'⟩ := cmp_v (Or.inl h)
  rw [ev'] at hy
  cases hy
  have e1 : x = .ref b := gotT (eq_R hx ev' hk'.2 rfl) h
  subst e1
  rw [fld_at ev] at hx
  exact Fld.start hx
theorem own_fnull {args : Array Value} {s : State} {C n d O f e : String} {a : Addr} (ev : (Term.static C n d).eval args s none [] s = some (.ref a)) (h : (Jvm.Cond.eq (.field (.static C n d) O f e) .null).value args s none s [] = some true) : Fld s s.heap a O f e .null := by
  have hx := null_v h
  rw [fld_at ev] at hx
  exact Fld.start hx
theorem own_mask (x : Int32) : 0 ≤ (x &&& (2147483647 : Int32)).toInt := by
  have h : ¬ (x &&& (2147483647 : Int32)) < 0 := fun q => by
    have := (XT.and_neg32 _ _).mp q
    exact absurd this.2 (by decide)
  rw [Int32.lt_iff_toInt_lt] at h
  have e0 : (0 : Int32).toInt = 0 := rfl
  omega
theorem own_mod (x : Int32) {n : Int32} {k : Int} (hn : n.toInt = k) (hk : 0 < k) : 0 ≤ ((x &&& (2147483647 : Int32)) % n).toInt ∧ ((x &&& (2147483647 : Int32)) % n).toInt < k := by
  have h := own_mask x
  rw [Int32.toInt_mod, hn]
  exact ⟨Int.tmod_nonneg _ h, Int.tmod_lt_of_pos _ hk⟩
theorem own_lit {x : Int32} {k : Int} {v : Int32} (h : x.toInt = k) (hv : v.toInt = k) : x = v := Int32.toInt_inj.mp (h.trans hv.symm)
def Enm (Z : State) (h : Heap) (C : String) (a : Addr) (k : Int32) : Prop := Exa Z h a C ∧ Fld Z h a "java/lang/Enum" "ordinal" "I" (.int k)
theorem Enm.ne {Z : State} {h : Heap} {C D : String} {a b : Addr} {k j : Int32} (A : Enm Z h C a k) (B : Enm Z h D b j) (q : k ≠ j) : a ≠ b := Fld.ne A.2 B.2 (fun e => q (Value.int.inj e))
theorem own_lc_lt (x y : Int64) : lcmpW x y < 0 ↔ x < y := by rw [lcW]; exact lc_lt x y
theorem own_lc_gt (x y : Int64) : 0 < lcmpW x y ↔ y < x := by rw [lcW]; exact lc_gt x y
theorem own_lc_eq (x y : Int64) : lcmpW x y = 0 ↔ x = y := by rw [lcW]; exact lc_eq x y
theorem own_eqL {args : Array Value} {s : State} {t : Term} {k : Int64} (h : (Jvm.Cond.eq t (.long k)).value args s none s [] = some true) : t.eval args s none [] s = some (.long k) := by
  obtain ⟨x, y, hx, hy, hk, hk'⟩ := cmp_v (Or.inl h)
  have hy2 : (Term.long k).eval args s none [] s = some (.long k) := rfl
  rw [hy2] at hy
  cases hy
  obtain ⟨z, rfl⟩ := hk'
  have e : z = k := gotT (eq_L hx hy2) h
  rw [hx, e]
section OwnKit2
variable {w : Wk} {l : Launch} {R : Room} {n0 : Nat} {Q : Option Value → Heap → Prop} {pc q : Nat} {Ls Ls' : Array Slot} {S : List Value} {h : Heap} {cs ss : Nat} {Z : State} {a0 : Array Value} {own : String} {bytes : ByteArray} {ml : Nat} {rt : Option FieldType} {nm : String}
theorem Rn.stepH {S' : List Value} (st : ∀ (T : State) (locs : List Loc), Stand w.p l w.e R w.s w.m w.a w.b w.t w.c T locs cs ss → T.heap = h → ∀ t, Steps w.p.tables w.e w.b (T.setTop (mkF w.m q Ls' S')) t → Steps w.p.tables w.e w.b (T.setTop (mkF w.m pc Ls S)) t)
    (k : Rn w l R n0 Q q Ls' S' h cs ss) : Rn w l R n0 Q pc Ls S h cs ss := fun T locs X eT N => by
  obtain ⟨s₂, o, h1, r⟩ := k T locs X eT N
  exact ⟨s₂, o, st T locs X eT _ h1, r⟩
/-! arrays, by Arv -/
section Arrays
variable {a : Addr} {k : ClassId} {z j : Int32} {vs : List Value} {d v : Value} {ty : FieldType}
theorem Rn.arraylength (K : Cx w Z a0 own bytes ml rt nm) (A : Arv Z h a k ty z vs d) (hd : decode bytes pc = .ok (.arraylength, 1)) (hq : pc + 1 = q) (r : Rn w l R n0 Q q Ls (.int z :: S) h cs ss) : Rn w l R n0 Q pc Ls (.ref a :: S) h cs ss := by
  subst hq
  obtain ⟨c, A1, A2, A3, A4, A5, A6⟩ := A
  refine Rn.stepH (fun T locs X eT t kt => ?_) r
  refine X.arraylength K.x (by rw [eT]; exact A1.1) (State.isArrayOf_alike K.z.alike A1.2.1) (g := mkF w.m pc Ls (.ref a :: S)) rfl rfl (hb K.cd hd) _ ?_
  rw [len_of A3 A4]
  exact kt
theorem Rn.iaload (K : Cx w Z a0 own bytes ml rt nm) (A : Arv Z h a k .int z vs d) (hj : ¬ j < 0 ∧ j < z) (hv : vs.getD j.toNatClampNeg d = v) (hd : decode bytes pc = .ok (.iaload, 1)) (hq : pc + 1 = q) (r : Rn w l R n0 Q q Ls (v :: S) h cs ss) : Rn w l R n0 Q pc Ls (.int j :: .ref a :: S) h cs ss := by
  subst hq
  obtain ⟨c, A1, A2, A3, A4, A5, A6⟩ := A
  exact Rn.stepH (fun T locs X eT t kt => X.iaload K.x (by rw [eT]; exact A1.1) (State.isArrayOf_alike K.z.alike A1.2.1) A1.2.2 (inb_of A3 hj) (A5.at (inb_of A3 hj) hv) (g := mkF w.m pc Ls (.int j :: .ref a :: S)) rfl rfl (hb K.cd hd) _ kt) r
theorem Rn.laload (K : Cx w Z a0 own bytes ml rt nm) (A : Arv Z h a k .long z vs d) (hj : ¬ j < 0 ∧ j < z) (hv : vs.getD j.toNatClampNeg d = v) (hd : decode bytes pc = .ok (.laload, 1)) (hq : pc + 1 = q) (r : Rn w l R n0 Q q Ls (v :: S) h cs ss) : Rn w l R n0 Q pc Ls (.int j :: .ref a :: S) h cs ss := by
  subst hq
  obtain ⟨c, A1, A2, A3, A4, A5, A6⟩ := A
  exact Rn.stepH (fun T locs X eT t kt => X.laload K.x (by rw [eT]; exact A1.1) (State.isArrayOf_alike K.z.alike A1.2.1) A1.2.2 (inb_of A3 hj) (A5.at (inb_of A3 hj) hv) (g := mkF w.m pc Ls (.int j :: .ref a :: S)) rfl rfl (hb K.cd hd) _ kt) r
theorem Rn.caload (K : Cx w Z a0 own bytes ml rt nm) (A : Arv Z h a k .char z vs d) (hj : ¬ j < 0 ∧ j < z) (hv : vs.getD j.toNatClampNeg d = v) (hd : decode bytes pc = .ok (.caload, 1)) (hq : pc + 1 = q) (r : Rn w l R n0 Q q Ls (v :: S) h cs ss) : Rn w l R n0 Q pc Ls (.int j :: .ref a :: S) h cs ss := by
  subst hq
  obtain ⟨c, A1, A2, A3, A4, A5, A6⟩ := A
  exact Rn.stepH (fun T locs X eT t kt => X.caload K.x (by rw [eT]; exact A1.1) (State.isArrayOf_alike K.z.alike A1.2.1) A1.2.2 (inb_of A3 hj) (A5.at (inb_of A3 hj) hv) (g := mkF w.m pc Ls (.int j :: .ref a :: S)) rfl rfl (hb K.cd hd) _ kt) r
theorem Rn.baloadZ (K : Cx w Z a0 own bytes ml rt nm) (A : Arv Z h a k .boolean z vs d) (hj : ¬ j < 0 ∧ j < z) (hv : vs.getD j.toNatClampNeg d = v) (hd : decode bytes pc = .ok (.baload, 1)) (hq : pc + 1 = q) (r : Rn w l R n0 Q q Ls (v :: S) h cs ss) : Rn w l R n0 Q pc Ls (.int j :: .ref a :: S) h cs ss := by
  subst hq
  obtain ⟨c, A1, A2, A3, A4, A5, A6⟩ := A
  exact Rn.stepH (fun T locs X eT t kt => X.baloadBooleans K.x (by rw [eT]; exact A1.1) (State.isArrayOf_alike K.z.alike A1.2.1) A1.2.2 (inb_of A3 hj) (A5.at (inb_of A3 hj) hv) (g := mkF w.m pc Ls (.int j :: .ref a :: S)) rfl rfl (hb K.cd hd) _ kt) r
theorem Rn.baloadB (K : Cx w Z a0 own bytes ml rt nm) (A : Arv Z h a k .byte z vs d) (hj : ¬ j < 0 ∧ j < z) (hv : vs.getD j.toNatClampNeg d = v) (hd : decode bytes pc = .ok (.baload, 1)) (hq : pc + 1 = q) (r : Rn w l R n0 Q q Ls (v :: S) h cs ss) : Rn w l R n0 Q pc Ls (.int j :: .ref a :: S) h cs ss := by
  subst hq
  obtain ⟨c, A1, A2, A3, A4, A5, A6⟩ := A
  exact Rn.stepH (fun T locs X eT t kt => X.baloadBytes K.x (by rw [eT]; exact A1.1) (State.isArrayOf_alike K.z.alike A1.2.1) A1.2.2 (inb_of A3 hj) (A5.at (inb_of A3 hj) hv) (g := mkF w.m pc Ls (.int j :: .ref a :: S)) rfl rfl (hb K.cd hd) _ kt) r
theorem Rn.aaload (K : Cx w Z a0 own bytes ml rt nm) (A : Arv Z h a k ty z vs d) (hty : ty.isReference = true) (hj : ¬ j < 0 ∧ j < z) (hv : vs.getD j.toNatClampNeg d = v) (hd : decode bytes pc = .ok (.aaload, 1)) (hq : pc + 1 = q) (r : Rn w l R n0 Q q Ls (v :: S) h cs ss) : Rn w l R n0 Q pc Ls (.int j :: .ref a :: S) h cs ss := by
  subst hq
  obtain ⟨c, A1, A2, A3, A4, A5, A6⟩ := A
  exact Rn.stepH (fun T locs X eT t kt => X.aaload K.x (by rw [eT]; exact A1.1) (State.isArrayOf_alike K.z.alike A1.2.1) hty A1.2.2 (inb_of A3 hj) (A5.at (inb_of A3 hj) hv) (g := mkF w.m pc Ls (.int j :: .ref a :: S)) rfl rfl (hb K.cd hd) _ kt) r
theorem Rn.iastore (K : Cx w Z a0 own bytes ml rt nm) (A : Arv Z h a k .int z vs d) {x : Int32} (hj : ¬ j < 0 ∧ j < z) {i : Nat} (hi : j.toNatClampNeg = i) (hi' : i < vs.length) (hg : n0 ≤ a) (hd : decode bytes pc = .ok (.iastore, 1)) (hq : pc + 1 = q)
    (r : ∀ h', Wr h h' a i (.int x) → Arv Z h' a k .int z (vs.set i (.int x)) d → Rn w l R n0 Q q Ls S h' cs ss) : Rn w l R n0 Q pc Ls (.int x :: .int j :: .ref a :: S) h cs ss := fun T locs X eT N => by
  subst hq hi
  obtain ⟨c, A1, A2, A3, A4, A5, A6⟩ := A
  obtain ⟨T', h', X', e', W, st⟩ := stI X K.x K.z eT A1 (inb_of A3 hj) (g := mkF w.m pc Ls (.int x :: .int j :: .ref a :: S)) rfl rfl (hb K.cd hd)
  obtain ⟨s₂, o, h1, r'⟩ := r h' W (Arv.set A1 A2 A3 A4 A5 A6 rfl W _ rfl hi') T' _ X' e' (Fr.snoc X' N hg)
  exact ⟨s₂, o, st _ h1, r'⟩
theorem Rn.lastore (K : Cx w Z a0 own bytes ml rt nm) (A : Arv Z h a k .long z vs d) {x : Int64} (hj : ¬ j < 0 ∧ j < z) {i : Nat} (hi : j.toNatClampNeg = i) (hi' : i < vs.length) (hg : n0 ≤ a) (hd : decode bytes pc = .ok (.lastore, 1)) (hq : pc + 1 = q)
    (r : ∀ h', Wr h h' a i (.long x) → Arv Z h' a k .long z (vs.set i (.long x)) d → Rn w l R n0 Q q Ls S h' cs ss) : Rn w l R n0 Q pc Ls (.long x :: .int j :: .ref a :: S) h cs ss := fun T locs X eT N => by
  subst hq hi
  obtain ⟨c, A1, A2, A3, A4, A5, A6⟩ := A
  obtain ⟨T', h', X', e', W, st⟩ := stJ X K.x K.z eT A1 (inb_of A3 hj) (g := mkF w.m pc Ls (.long x :: .int j :: .ref a :: S)) rfl rfl (hb K.cd hd)
  obtain ⟨s₂, o, h1, r'⟩ := r h' W (Arv.set A1 A2 A3 A4 A5 A6 rfl W _ rfl hi') T' _ X' e' (Fr.snoc X' N hg)
  exact ⟨s₂, o, st _ h1, r'⟩
theorem Rn.castore (K : Cx w Z a0 own bytes ml rt nm) (A : Arv Z h a k .char z vs d) {x : Int32} (hj : ¬ j < 0 ∧ j < z) {i : Nat} (hi : j.toNatClampNeg = i) (hi' : i < vs.length) (hg : n0 ≤ a) (hd : decode bytes pc = .ok (.castore, 1)) (hq : pc + 1 = q)
    (r : ∀ h', Wr h h' a i (.int (nar .char x)) → Arv Z h' a k .char z (vs.set i (.int (nar .char x))) d → Rn w l R n0 Q q Ls S h' cs ss) : Rn w l R n0 Q pc Ls (.int x :: .int j :: .ref a :: S) h cs ss := fun T locs X eT N => by
  subst hq hi
  obtain ⟨c, A1, A2, A3, A4, A5, A6⟩ := A
  obtain ⟨T', h', X', e', W, st⟩ := Jvm.RoadKit.stC X K.x K.z eT A1 (inb_of A3 hj) (g := mkF w.m pc Ls (.int x :: .int j :: .ref a :: S)) rfl rfl (hb K.cd hd)
  obtain ⟨s₂, o, h1, r'⟩ := r h' W (Arv.set A1 A2 A3 A4 A5 A6 (fits_nar_char _) W _ rfl hi') T' _ X' e' (Fr.snoc X' N hg)
  exact ⟨s₂, o, st _ h1, r'⟩
theorem Rn.bastoreZ (K : Cx w Z a0 own bytes ml rt nm) (A : Arv Z h a k .boolean z vs d) {x : Int32} (hj : ¬ j < 0 ∧ j < z) {i : Nat} (hi : j.toNatClampNeg = i) (hi' : i < vs.length) (hg : n0 ≤ a) (hd : decode bytes pc = .ok (.bastore, 1)) (hq : pc + 1 = q)
    (r : ∀ h', Wr h h' a i (.int (nar .boolean x)) → Arv Z h' a k .boolean z (vs.set i (.int (nar .boolean x))) d → Rn w l R n0 Q q Ls S h' cs ss) : Rn w l R n0 Q pc Ls (.int x :: .int j :: .ref a :: S) h cs ss := fun T locs X eT N => by
  subst hq hi
  obtain ⟨c, A1, A2, A3, A4, A5, A6⟩ := A
  obtain ⟨T', h', X', e', W, st⟩ := stZ X K.x K.z eT A1 (inb_of A3 hj) (g := mkF w.m pc Ls (.int x :: .int j :: .ref a :: S)) rfl rfl (hb K.cd hd)
  obtain ⟨s₂, o, h1, r'⟩ := r h' W (Arv.set A1 A2 A3 A4 A5 A6 (fits_nar_bool _) W _ rfl hi') T' _ X' e' (Fr.snoc X' N hg)
  exact ⟨s₂, o, st _ h1, r'⟩
theorem Rn.aastore (K : Cx w Z a0 own bytes ml rt nm) (A : Arv Z h a k ty z vs d) (hty : ty.isReference = true) (F : ∀ c : Cell, Arr Z h a c ty → c.cls = k → Sto Z h a v) (hfit : fits ty v = true) (hj : ¬ j < 0 ∧ j < z) {i : Nat} (hi : j.toNatClampNeg = i) (hi' : i < vs.length) (hg : n0 ≤ a) (hd : decode bytes pc = .ok (.aastore, 1)) (hq : pc + 1 = q)
    (r : ∀ h', Wr h h' a i v → Arv Z h' a k ty z (vs.set i v) d → Rn w l R n0 Q q Ls S h' cs ss) : Rn w l R n0 Q pc Ls (v :: .int j :: .ref a :: S) h cs ss := fun T locs X eT N => by
  subst hq hi
  obtain ⟨c, A1, A2, A3, A4, A5, A6⟩ := A
  obtain ⟨T', h', X', e', W, st⟩ := Jvm.RoadKit.stR X K.x K.z eT A1 (inb_of A3 hj) hty (F c A1 A2) (g := mkF w.m pc Ls (v :: .int j :: .ref a :: S)) rfl rfl (hb K.cd hd)
  obtain ⟨s₂, o, h1, r'⟩ := r h' W (Arv.set A1 A2 A3 A4 A5 A6 hfit W _ rfl hi') T' _ X' e' (Fr.snoc X' N hg)
  exact ⟨s₂, o, st _ h1, r'⟩
theorem Rn.newR (K : Cx w Z a0 own bytes ml rt nm) {i cap : Nat} {C : String} {x : Int32} (hi : Jvm.Cond.classLink own i C ∈ tables_1) (ho : Jvm.Cond.arrayOver (.object C) ∈ tables_1) (hn : ¬ x < 0) (hcap : x.toNatClampNeg ≤ cap) (hb8 : cap * 8 ≤ 536870912) (hc : cs + 1 ≤ R.cells) (hs : ss + cap ≤ R.slots) {ad : String} (had : "[" ++ (FieldType.object C).toString = ad) (hd : decode bytes pc = .ok (.anewarray i, 3)) (hq : pc + 3 = q)
    (r : ∀ b h' k, b = h.size → Ext h h' → Arv Z h' b k (.object C) x [] .null → Exa Z h' b ad → Ovr Z k C → Rn w l R n0 Q q Ls (.ref b :: S) h' (cs + 1) (ss + cap)) : Rn w l R n0 Q pc Ls (.int x :: S) h cs ss := fun T locs X eT N => by
  subst hq
  obtain ⟨T', h', k, X', e', E, A, EA, O, st⟩ := newRE X K.x K.z K.ow (K.hw _ hi) (K.hw _ ho) eT (g := mkF w.m pc Ls (.int x :: S)) rfl (hb K.cd hd) rfl hn hcap hb8 hc hs had
  obtain ⟨s₂, o, h1, r'⟩ := r _ h' k rfl E (Arv.new A hn) EA O T' _ X' e' N
  exact ⟨s₂, o, st _ h1, r'⟩
end Arrays
/-! switches -/
theorem own_lsw {tb : Tables} [Ours tb] {e : Env} {below : List Frame} {T target : State} {m : MethodId} {c : Code} {g : JFrame} (h : At T m c below) (hx : tb.exec = Jvm.exec) (hg : g.method = m) {dflt : Int} {ps : Array (Int × Int)} {len : Nat} {o : Int} {pc0 pc' : Nat} (hpc : g.pc = pc0) (hd : decode c.code g.pc = .ok (.lookupswitch dflt ps, len)) {i : Int32} {rest : List Value} (hs : g.stack = .int i :: rest)
    (hsort : (ps.toList.zip (ps.toList.drop 1)).all (fun (a, next) => a.1 < next.1) = true) (hoff : lookupswitch.offset ps.toList dflt i.toInt = o) (ho : 0 ≤ (pc0 : Int) + o) (hp : ((pc0 : Int) + o).toNat = pc')
    (hr : Steps tb e below (T.setTop { g with pc := pc', stack := rest }) target) : Steps tb e below (T.setTop g) target := by
  subst hg hpc hp hoff
  jvm_step h [h.top, hx, hd, hs, ho, lookupswitch.wp_chain, hsort]
  first | exact hr | exact ⟨by simpa using hsort, hr⟩
theorem Rn.lsw (K : Cx w Z a0 own bytes ml rt nm) {dflt o : Int} {ps : Array (Int × Int)} {len : Nat} {x : Int32} (hd : decode bytes pc = .ok (.lookupswitch dflt ps, len)) (hsort : (ps.toList.zip (ps.toList.drop 1)).all (fun (a, next) => a.1 < next.1) = true) (hoff : lookupswitch.offset ps.toList dflt x.toInt = o) (ho : 0 ≤ (pc : Int) + o) (hq : ((pc : Int) + o).toNat = q) (r : Rn w l R n0 Q q Ls S h cs ss) : Rn w l R n0 Q pc Ls (.int x :: S) h cs ss :=
  Rn.step (fun T locs X t k => own_lsw X.here K.x rfl rfl (hb K.cd hd) rfl hsort hoff ho hq k) r
theorem Rn.tswIn (K : Cx w Z a0 own bytes ml rt nm) {dflt low high o : Int} {offs : Array Int} {len : Nat} {x : Int32} (hd : decode bytes pc = .ok (.tableswitch dflt low high offs, len)) (hin : ¬ (x.toInt < low ∨ x.toInt > high)) (hoff : offs[(x.toInt - low).toNat]? = some o) (ho : 0 ≤ (pc : Int) + o) (hq : ((pc : Int) + o).toNat = q) (r : Rn w l R n0 Q q Ls S h cs ss) : Rn w l R n0 Q pc Ls (.int x :: S) h cs ss :=
  Rn.step (fun T locs X t k => XS.tswIn X.here K.x rfl rfl (hb K.cd hd) rfl hin hoff ho hq k) r
theorem Rn.tswOut (K : Cx w Z a0 own bytes ml rt nm) {dflt low high : Int} {offs : Array Int} {len : Nat} {x : Int32} (hd : decode bytes pc = .ok (.tableswitch dflt low high offs, len)) (hout : x.toInt < low ∨ x.toInt > high) (ho : 0 ≤ (pc : Int) + dflt) (hq : ((pc : Int) + dflt).toNat = q) (r : Rn w l R n0 Q q Ls S h cs ss) : Rn w l R n0 Q pc Ls (.int x :: S) h cs ss :=
  Rn.step (fun T locs X t k => XS.tswOut X.here K.x rfl rfl (hb K.cd hd) rfl hout ho hq k) r
/-! more calls -/
theorem Rn.virtUp (K : Cx w Z a0 own bytes ml rt nm) {index W : Nat} {y z : MethodName} {C owner : String} {b : Addr} {argsL rest : List Value} {bz : ByteArray} {mz : Nat} {rz : Option FieldType} {rm : Room} {Q' : Option Value → Heap → Prop}
    (i1 : Jvm.Cond.methodLink own index y ∈ tables_1) (i2 : Jvm.Cond.sameMethod y.cls owner y.name y.desc ∈ tables_1) (i2' : Jvm.Cond.declares ⟨owner, y.name, y.desc⟩ ∈ tables_1) (i3 : Jvm.Cond.selects C y z ∈ tables_1) (i4 : Jvm.Cond.instanceMethod z ∈ tables_1) (i5 : Jvm.Cond.code z bz mz rz ∈ tables_1) (i6 : Jvm.Cond.initialized z.cls ∈ tables_1)
    (hy : owner ≠ "java/lang/invoke/MethodHandle" ∧ owner ≠ "java/lang/invoke/VarHandle") (M : Met l Z z bz mz rz rm n0 [] (.ref b :: argsL).toArray h Q') (E : Exa Z h b C) (hf : rm.frames + 1 ≤ R.frames) (hlo : W + (mz + 11) + rm.locals ≤ R.locals)
    (hsz : Ls.size = ml) (hlen : ∀ sig, parseMethodDescriptor y.desc = some sig → argsL.length = sig.parameters.length) (hS : S = argsL.reverse ++ .ref b :: rest) (hW : (rest.map fun v => v.category).sum ≤ W)
    (hd : decode bytes pc = .ok (.invokevirtual index, 3)) (hq : pc + 3 = q) (hc : cs + rm.cells ≤ R.cells) (hs : ss + rm.slots ≤ R.slots)
    (r : ∀ v h', Q' v h' → Rn w l R n0 Q q Ls (v.toList ++ rest) h' (cs + rm.cells) (ss + rm.slots)) : Rn w l R n0 Q pc Ls S h cs ss := fun T locs X eT N => by
  subst hq hS
  obtain ⟨cq, kq, qa, qb, qc⟩ := isOf K.z eT E
  obtain ⟨v, _, ⟨T', L', k', n'⟩, -, X', ⟨Lc, hQ, l', y', z'⟩, st⟩ := X.virtualBackUp K.x (x := y) (y := z) K.ow (mvT K.z (K.hw _ i1)) (mvT K.z (K.hw _ i2)) (mvT K.z (K.hw _ i2')) hy (mvT K.z (K.hw _ i3)) (mvT K.z (K.hw _ i4)) (backOf (Q := fun v h L => Fr n0 L ∧ Q' v h) (W := W) M K.z (K.hw _ i5) (K.hw _ i6) hf hlo) qa qc (g := mkF w.m pc Ls (argsL.reverse ++ .ref b :: rest)) rfl (hsz.trans K.mx.symm) (Steps.refl _) (argsL := argsL) (rest := rest) hlen rfl (by show 2 * 0 + _ ≤ _; rw [Nat.mul_zero, Nat.zero_add]; exact hW) (hb K.cd hd) (fun _ _ => ⟨rfl, eT, hc, hs⟩)
  dsimp only [Pt.U, Pt.locs, Pt.cells, Pt.slots] at X' l' y' z' st hQ
  subst l' y' z'
  obtain ⟨s₂, o, h1, r'⟩ := r v T'.heap hQ.2 T' _ X' rfl (Fr.app N hQ.1)
  exact ⟨s₂, o, st.trans h1, r'⟩
theorem Rn.priv (K : Cx w Z a0 own bytes ml rt nm) {index W : Nat} {y : MethodName} {C : String} {b : Addr} {argsL rest : List Value} {bz : ByteArray} {mz : Nat} {rz : Option FieldType} {rm : Room} {Q' : Option Value → Heap → Prop}
    (i1 : Jvm.Cond.methodLink own index y ∈ tables_1) (i4 : Jvm.Cond.instanceMethod y ∈ tables_1) (i3 : Jvm.Cond.selects y.cls y y ∈ tables_1) (i7 : Jvm.Cond.privateMethod y ∈ tables_1) (i5 : Jvm.Cond.code y bz mz rz ∈ tables_1) (i6 : Jvm.Cond.initialized y.cls ∈ tables_1)
    (hy : y.cls ≠ "java/lang/invoke/MethodHandle" ∧ y.cls ≠ "java/lang/invoke/VarHandle") (M : Met l Z y bz mz rz rm n0 [] (.ref b :: argsL).toArray h Q') (E : Exa Z h b C) (hf : rm.frames + 1 ≤ R.frames) (hlo : W + (mz + 11) + rm.locals ≤ R.locals)
    (hsz : Ls.size = ml) (hlen : ∀ sig, parseMethodDescriptor y.desc = some sig → argsL.length = sig.parameters.length) (hS : S = argsL.reverse ++ .ref b :: rest) (hW : (rest.map fun v => v.category).sum ≤ W)
    (hd : decode bytes pc = .ok (.invokevirtual index, 3)) (hq : pc + 3 = q) (hc : cs + rm.cells ≤ R.cells) (hs : ss + rm.slots ≤ R.slots)
    (r : ∀ v h', Q' v h' → Rn w l R n0 Q q Ls (v.toList ++ rest) h' (cs + rm.cells) (ss + rm.slots)) : Rn w l R n0 Q pc Ls S h cs ss := fun T locs X eT N => by
  subst hq hS
  obtain ⟨cq, q1, q2⟩ := E.cell
  obtain ⟨v, _, ⟨T', L', k', n'⟩, -, X', ⟨Lc, hQ, l', y', z'⟩, st⟩ := X.privateBack K.x (y := y) K.ow (mvT K.z (K.hw _ i1)) (mvT K.z (K.hw _ i4)) (mvT K.z (K.hw _ i3)) (Cond.privateMethod_at (mvP K.z (K.hw _ i7) (args := #[]))) (mvT K.z (K.hw _ i5)) hy (backOf (Q := fun v h L => Fr n0 L ∧ Q' v h) (W := W) M K.z (K.hw _ i5) (K.hw _ i6) hf hlo) (g := mkF w.m pc Ls (argsL.reverse ++ .ref b :: rest)) rfl (hsz.trans K.mx.symm) (Steps.refl _) (a := b) (by rw [eT]; exact q1) q2 (argsL := argsL) (rest := rest) hlen rfl (by show 2 * 0 + _ ≤ _; rw [Nat.mul_zero, Nat.zero_add]; exact hW) (hb K.cd hd) (fun _ _ => ⟨rfl, eT, hc, hs⟩)
  dsimp only [Pt.U, Pt.locs, Pt.cells, Pt.slots] at X' l' y' z' st hQ
  subst l' y' z'
  obtain ⟨s₂, o, h1, r'⟩ := r v T'.heap hQ.2 T' _ X' rfl (Fr.app N hQ.1)
  exact ⟨s₂, o, st.trans h1, r'⟩
theorem Rn.castY (K : Cx w Z a0 own bytes ml rt nm) {i : Nat} {C : String} {a : Addr} (hi : Jvm.Cond.classLink own i C ∈ tables_1) (I : Ins Z h a C true) (hd : decode bytes pc = .ok (.checkcast i, 3)) (hq : pc + 3 = q) (r : Rn w l R n0 Q q Ls (.ref a :: S) h cs ss) : Rn w l R n0 Q pc Ls (.ref a :: S) h cs ss := fun T locs X eT N => by
  subst hq
  obtain ⟨T', X', e', st⟩ := Jvm.RoadKit.castY X K.x K.z K.ow (K.hw _ hi) eT I (g := mkF w.m pc Ls (.ref a :: S)) rfl rfl (hb K.cd hd)
  obtain ⟨s₂, o, h1, r'⟩ := r T' locs X' e' N
  exact ⟨s₂, o, st _ h1, r'⟩
end OwnKit2
section OwnKit3
variable {w : Wk} {l : Launch} {R : Room} {n0 : Nat} {Q : Option Value → Heap → Prop} {pc q : Nat} {Ls Ls' : Array Slot} {S : List Value} {h : Heap} {cs ss : Nat} {Z : State} {a0 : Array Value} {own : String} {bytes : ByteArray} {ml : Nat} {rt : Option FieldType} {nm : String}
/-- a callee that a law of the library pays -/
def Pay (w : Wk) (l : Launch) (R : Room) (y : MethodName) (len W : Nat) (as' : Array Value) (h : Heap) (kc ks : Nat) (Qf : Option Value → Heap → List Loc → Prop) : Prop :=
  Back l R w.p w.e w.b w.s w.a y len W (fun P a => a = as' ∧ P.U.heap = h ∧ P.cells + kc ≤ R.cells ∧ P.slots + ks ≤ R.slots) (fun P _ v B => ∃ L, Qf v B.U.heap L ∧ B.locs = P.locs ++ L ∧ B.cells = P.cells + kc ∧ B.slots = P.slots + ks)
theorem Rn.virtB (K : Cx w Z a0 own bytes ml rt nm) {index W kc ks : Nat} {y z : MethodName} {C : String} {b : Addr} {argsL rest : List Value} {Qf : Option Value → Heap → List Loc → Prop}
    (i1 : Jvm.Cond.methodLink own index y ∈ tables_1) (i2 : Jvm.Cond.declares y ∈ tables_1) (nf : NotFace w.s y) (i3 : Jvm.Cond.selects C y z ∈ tables_1) (i4 : Jvm.Cond.instanceMethod z ∈ tables_1)
    (hy : y.cls ≠ "java/lang/invoke/MethodHandle" ∧ y.cls ≠ "java/lang/invoke/VarHandle") (M : Pay w l R z 3 W (.ref b :: argsL).toArray h kc ks Qf) (hF : ∀ v h' L, Qf v h' L → Fr n0 L) (E : Exa Z h b C)
    (hsz : Ls.size = ml) (hlen : ∀ sig, parseMethodDescriptor y.desc = some sig → argsL.length = sig.parameters.length) (hS : S = argsL.reverse ++ .ref b :: rest) (hW : (rest.map fun v => v.category).sum ≤ W)
    (hd : decode bytes pc = .ok (.invokevirtual index, 3)) (hq : pc + 3 = q) (hc : cs + kc ≤ R.cells) (hs : ss + ks ≤ R.slots)
    (r : ∀ v h' L, Qf v h' L → Rn w l R n0 Q q Ls (v.toList ++ rest) h' (cs + kc) (ss + ks)) : Rn w l R n0 Q pc Ls S h cs ss := fun T locs X eT N => by
  subst hq hS
  obtain ⟨cq, kq, qa, qb, qc⟩ := isOf K.z eT E
  obtain ⟨v, _, ⟨T', L', k', n'⟩, -, X', ⟨Lc, hQ, l', y', z'⟩, st⟩ := X.virtualBack K.x (y := y) (z := z) K.ow (mvT K.z (K.hw _ i1)) (mvT K.z (K.hw _ i2)) nf (mvT K.z (K.hw _ i3)) (mvT K.z (K.hw _ i4)) hy M qa qc (g := mkF w.m pc Ls (argsL.reverse ++ .ref b :: rest)) rfl (hsz.trans K.mx.symm) (Steps.refl _) (argsL := argsL) (rest := rest) hlen rfl (by show 2 * 0 + _ ≤ _; rw [Nat.mul_zero, Nat.zero_add]; exact hW) (hb K.cd hd) (fun _ _ => ⟨rfl, eT, hc, hs⟩)
  dsimp only [Pt.U, Pt.locs, Pt.cells, Pt.slots] at X' l' y' z' st hQ
  subst l' y' z'
  obtain ⟨s₂, o, h1, r'⟩ := r v T'.heap Lc hQ T' _ X' rfl (Fr.app N (hF _ _ _ hQ))
  exact ⟨s₂, o, st.trans h1, r'⟩
theorem Rn.specB (K : Cx w Z a0 own bytes ml rt nm) {index W kc ks : Nat} {y : MethodName} {b : Addr} {argsL rest : List Value} {bz : ByteArray} {mz : Nat} {Qf : Option Value → Heap → List Loc → Prop}
    (hn : y.name = "<init>") (i1 : Jvm.Cond.methodLink own index y ∈ tables_1) (i4 : Jvm.Cond.instanceMethod y ∈ tables_1) (i5 : Jvm.Cond.code y bz mz none ∈ tables_1)
    (hy : y.cls ≠ "java/lang/invoke/MethodHandle" ∧ y.cls ≠ "java/lang/invoke/VarHandle") (M : Pay w l R y 3 W (.ref b :: argsL).toArray h kc ks Qf) (hF : ∀ v h' L, Qf v h' L → Fr n0 L)
    (hsz : Ls.size = ml) (hlen : ∀ sig, parseMethodDescriptor y.desc = some sig → argsL.length = sig.parameters.length) (hS : S = argsL.reverse ++ .ref b :: rest) (hW : (rest.map fun v => v.category).sum ≤ W)
    (hd : decode bytes pc = .ok (.invokespecial index, 3)) (hq : pc + 3 = q) (hc : cs + kc ≤ R.cells) (hs : ss + ks ≤ R.slots)
    (r : ∀ v h' L, Qf v h' L → Rn w l R n0 Q q Ls (v.toList ++ rest) h' (cs + kc) (ss + ks)) : Rn w l R n0 Q pc Ls S h cs ss := fun T locs X eT N => by
  subst hq hS
  obtain ⟨v, _, ⟨T', L', k', n'⟩, -, X', ⟨Lc, hQ, l', y', z'⟩, st⟩ := X.specialBack K.x (y := y) hn K.ow (mvT K.z (K.hw _ i1)) (mvT K.z (K.hw _ i4)) (mvT K.z (K.hw _ i5)) hy M (g := mkF w.m pc Ls (argsL.reverse ++ .ref b :: rest)) rfl (hsz.trans K.mx.symm) (Steps.refl _) (a := b) (argsL := argsL) (rest := rest) hlen rfl (by show 2 * 0 + _ ≤ _; rw [Nat.mul_zero, Nat.zero_add]; exact hW) (hb K.cd hd) (fun _ _ => ⟨rfl, eT, hc, hs⟩)
  dsimp only [Pt.U, Pt.locs, Pt.cells, Pt.slots] at X' l' y' z' st hQ
  subst l' y' z'
  obtain ⟨s₂, o, h1, r'⟩ := r v T'.heap Lc hQ T' _ X' rfl (Fr.app N (hF _ _ _ hQ))
  exact ⟨s₂, o, st.trans h1, r'⟩
/-! arrays of arrays, clone, constants of floats, instanceof -/
theorem Rn.newRA (K : Cx w Z a0 own bytes ml rt nm) {i cap : Nat} {C : String} {ty : FieldType} {x : Int32} (hC : (FieldType.array ty).toString = C) (hi : Jvm.Cond.classLink own i C ∈ tables_1) (ho : Jvm.Cond.arrayOver (.array ty) ∈ tables_1) (hn : ¬ x < 0) (hcap : x.toNatClampNeg ≤ cap) (hb8 : cap * 8 ≤ 536870912) (hc : cs + 1 ≤ R.cells) (hs : ss + cap ≤ R.slots) {ad : String} (had : "[" ++ C = ad) (hd : decode bytes pc = .ok (.anewarray i, 3)) (hq : pc + 3 = q)
    (r : ∀ b h' k, b = h.size → Ext h h' → Arv Z h' b k (.array ty) x [] .null → Exa Z h' b ad → OvrA Z k ty C → Rn w l R n0 Q q Ls (.ref b :: S) h' (cs + 1) (ss + cap)) : Rn w l R n0 Q pc Ls (.int x :: S) h cs ss := fun T locs X eT N => by
  subst hq
  obtain ⟨T', h', k, X', e', E, A, EA, O, st⟩ := Jvm.RoadKit.newRA X K.x K.z K.ow hC (K.hw _ hi) (K.hw _ ho) eT (g := mkF w.m pc Ls (.int x :: S)) rfl (hb K.cd hd) rfl hn hcap hb8 hc hs had
  obtain ⟨s₂, o, h1, r'⟩ := r _ h' k rfl E (Arv.new A hn) EA O T' _ X' e' N
  exact ⟨s₂, o, st _ h1, r'⟩
theorem Rn.clone (K : Cx w Z a0 own bytes ml rt nm) {i W cap : Nat} {ad : String} {a : Addr} {k : ClassId} {ty : FieldType} {z : Int32} {vs : List Value} {d : Value}
    (w1 : Jvm.Cond.methodLink own i ⟨ad, "clone", "()Ljava/lang/Object;"⟩ ∈ tables_1) (w2 : Jvm.Cond.sameMethod ad "java/lang/Object" "clone" "()Ljava/lang/Object;" ∈ tables_1) (w3 : Jvm.Cond.native ⟨"java/lang/Object", "clone", "()Ljava/lang/Object;"⟩ ∈ tables_1) (w4 : Jvm.Cond.instanceMethod ⟨"java/lang/Object", "clone", "()Ljava/lang/Object;"⟩ ∈ tables_1)
    (w5 : Jvm.Cond.selects ad ⟨ad, "clone", "()Ljava/lang/Object;"⟩ ⟨"java/lang/Object", "clone", "()Ljava/lang/Object;"⟩ ∈ tables_1) (w6 : Jvm.Cond.castable ad "java/lang/Cloneable" ∈ tables_1) (A : Arv Z h a k ty z vs d) (E : Exa Z h a ad) (hsz : Ls.size = ml) (hf : 1 ≤ R.frames) (hW : (S.map fun v => v.category).sum ≤ W) (hl : W + 14 ≤ R.locals) (hcap : z.toNatClampNeg ≤ cap) (hc : cs + 1 ≤ R.cells) (hs : ss + cap ≤ R.slots)
    (hd : decode bytes pc = .ok (.invokevirtual i, 3)) (hq : pc + 3 = q) (r : ∀ b h', b = h.size → Ext h h' → Arv Z h' b k ty z vs d → Exa Z h' b ad → Rn w l R n0 Q q Ls (.ref b :: S) h' (cs + 1) (ss + cap)) : Rn w l R n0 Q pc Ls (.ref a :: S) h cs ss := fun T locs X eT N => by
  subst hq
  obtain ⟨cl, A1, A2, A3, A4, A5, A6⟩ := A
  have FC : FitC Z cl := fitC_of A1 fun i hi v hv => by rw [A5 i hi] at hv; cases hv; exact A6 i hi
  obtain ⟨T', h', X', e', ex, A', E', st⟩ := cloneA X K.x K.z K.ow (K.hw _ w1) (K.hw _ w2) (K.hw _ w3) (K.hw _ w4) (K.hw _ w5) (K.hw _ w6) eT A1 E FC (g := mkF w.m pc Ls (.ref a :: S)) rfl (hsz.trans K.mx.symm) rfl (hb K.cd hd) hf (W := W) (by show 2 * 0 + _ ≤ _; rw [Nat.mul_zero, Nat.zero_add]; exact hW) hl (by rw [A3]; exact hcap) hc hs
  obtain ⟨s₂, o, h1, r'⟩ := r _ h' rfl ex ⟨cloneOf cl, A', A2, A3, A4, A5, A6⟩ E' T' _ X' e' N
  exact ⟨s₂, o, st _ h1, r'⟩
theorem Rn.ldcF (K : Cx w Z a0 own bytes ml rt nm) {i : Nat} (v : UInt32) (hi : Jvm.Cond.constantFloat own i v ∈ tables_1) (hd : decode bytes pc = .ok (.ldc i, 2)) (hq : pc + 2 = q) (r : Rn w l R n0 Q q Ls (.float v :: S) h cs ss) : Rn w l R n0 Q pc Ls S h cs ss := by
  subst hq; exact Rn.step (fun T locs X t k => X.ldcFloatC K.x K.ow (mvT K.z (K.hw _ hi)) (g := mkF w.m pc Ls S) rfl (hb K.cd hd) _ k) r
theorem Rn.instY (K : Cx w Z a0 own bytes ml rt nm) {i : Nat} {C : String} {a : Addr} (hi : Jvm.Cond.classLink own i C ∈ tables_1) (I : Ins Z h a C true) (hd : decode bytes pc = .ok (.instanceof i, 3)) (hq : pc + 3 = q) (r : Rn w l R n0 Q q Ls (.int 1 :: S) h cs ss) : Rn w l R n0 Q pc Ls (.ref a :: S) h cs ss := fun T locs X eT N => by
  subst hq
  obtain ⟨T', X', e', st⟩ := Jvm.RoadKit.instY X K.x K.z K.ow (K.hw _ hi) eT I (g := mkF w.m pc Ls (.ref a :: S)) rfl rfl (hb K.cd hd)
  obtain ⟨s₂, o, h1, r'⟩ := r T' locs X' e' N
  exact ⟨s₂, o, st _ h1, r'⟩
end OwnKit3
section OwnKitK
variable {w : Wk} {l : Launch} {R : Room} {n0 : Nat} {Q : Option Value → Heap → Prop} {pc q : Nat} {Ls Ls' : Array Slot} {S : List Value} {h : Heap} {cs ss : Nat} {Z : State} {a0 : Array Value} {own : String} {bytes : ByteArray} {ml : Nat} {rt : Option FieldType} {nm : String}
/-- a contract that asks besides that the tables' methods and the frames beneath are known (a stack trace is filled in) -/
def MetK (l : Launch) (Z : State) (y : MethodName) (bytes : ByteArray) (ml : Nat) (rt : Option FieldType) (rm : Room) (n0 : Nat) (ws : List Jvm.Cond) (as' : Array Value) (h0 : Heap) (Q : Option Value → Heap → Prop) : Prop :=
  MetFree l y (head1 (Jvm.Cond.code y bytes ml rt :: ws) rm) (fun a U => a = as' ∧ Z.Warmed39 U.vm ∧ U.heap = h0) (fun _ _ bl s _ => s.vm.MethodsKnown ∧ s.vm.FramesKnown bl) (fun _ U o U' => ∃ v L, o = .returned v ∧ (Fr n0 L ∧ Q v U'.heap) ∧ FrameEnd U o U' L rm.cells rm.slots)
theorem MetK.intro {y : MethodName} {as' : Array Value} {h0 : Heap} {rm : Room} {ws : List Jvm.Cond} (hp : plainFor y = true) (hw : ∀ d ∈ tables_1, d.before a0 Z = true) (ef : ∀ m, entryFrame m as' ml = mkF m 0 Ls [])
    (k : ∀ w : Wk, Cx w Z a0 y.cls bytes ml rt y.name → w.s.vm.MethodsKnown → w.s.vm.FramesKnown w.b → Rn w l rm n0 Q 0 Ls [] h0 0 0) : MetK l Z y bytes ml rt rm n0 ws as' h0 Q := by
  refine MetFree.of_bodySF hp hisR ?_
  intro p e s m args below meth c s₁ Bd hml0 hP hK
  obtain ⟨ha, hZ, hh⟩ := hP
  subst ha
  have e0 : s₁.heap = h0 := by rw [← hh, Bd.state]; rfl
  obtain ⟨s₂, o, h1, h2, h3, h4⟩ := k (p, e, s, m, args, below, meth, c) ⟨Bd.exec, Bd.bytes, hml0, findClass_of_methodNamed Bd.named, hZ, Bd.returns, Bd.notSynchronized, (name_of_methodNamed Bd.named Bd.method).1, hw⟩ hK.1 hK.2 s₁ [] (Stand.of_body Bd) e0 (Fr.nil n0)
  exact ⟨s₂, o, castTop (ef m) h1, h2, h3, h4⟩
theorem Rn.specK (K : Cx w Z a0 own bytes ml rt nm) (hTK : w.s.vm.MethodsKnown) (hBelow : w.s.vm.FramesKnown w.b) {index W : Nat} {y : MethodName} {b : Addr} {argsL rest : List Value} {bz : ByteArray} {mz : Nat} {rm : Room} {Q' : Option Value → Heap → Prop}
    (hn : y.name = "<init>") (i1 : Jvm.Cond.methodLink own index y ∈ tables_1) (i4 : Jvm.Cond.instanceMethod y ∈ tables_1) (i5 : Jvm.Cond.code y bz mz none ∈ tables_1) (i6 : Jvm.Cond.initialized y.cls ∈ tables_1)
    (hy : y.cls ≠ "java/lang/invoke/MethodHandle" ∧ y.cls ≠ "java/lang/invoke/VarHandle") (M : MetK l Z y bz mz none rm n0 [] (.ref b :: argsL).toArray h Q') (hf : rm.frames + 1 ≤ R.frames) (hlo : W + (mz + 11) + rm.locals ≤ R.locals)
    (hsz : Ls.size = ml) (hlen : ∀ sig, parseMethodDescriptor y.desc = some sig → argsL.length = sig.parameters.length) (hS : S = argsL.reverse ++ .ref b :: rest) (hW : (rest.map fun v => v.category).sum ≤ W)
    (hd : decode bytes pc = .ok (.invokespecial index, 3)) (hq : pc + 3 = q) (hc : cs + rm.cells ≤ R.cells) (hs : ss + rm.slots ≤ R.slots)
    (r : ∀ v h', Q' v h' → Rn w l R n0 Q q Ls (v.toList ++ rest) h' (cs + rm.cells) (ss + rm.slots)) : Rn w l R n0 Q pc Ls S h cs ss := fun T locs X eT N => by
  subst hq hS
  obtain ⟨v, _, ⟨T', L', k', n'⟩, -, X', ⟨Lc, hQ, l', y', z'⟩, st⟩ := X.specialBack K.x (y := y) hn K.ow (mvT K.z (K.hw _ i1)) (mvT K.z (K.hw _ i4)) (mvT K.z (K.hw _ i5)) hy (backOfKL (Q := fun v h L => Fr n0 L ∧ Q' v h) (W := W) M K.z (K.hw _ i5) (K.hw _ i6) hf hlo hTK hBelow) (g := mkF w.m pc Ls (argsL.reverse ++ .ref b :: rest)) rfl (hsz.trans K.mx.symm) (Steps.refl _) (a := b) (argsL := argsL) (rest := rest) hlen rfl (by show 2 * 0 + _ ≤ _; rw [Nat.mul_zero, Nat.zero_add]; exact hW) (hb K.cd hd) (fun _ _ => ⟨rfl, eT, hc, hs⟩)
  dsimp only [Pt.U, Pt.locs, Pt.cells, Pt.slots] at X' l' y' z' st hQ
  subst l' y' z'
  obtain ⟨s₂, o, h1, r'⟩ := r v T'.heap hQ.2 T' _ X' rfl (Fr.app N hQ.1)
  exact ⟨s₂, o, st.trans h1, r'⟩
theorem Rn.newU (K : Cx w Z a0 own bytes ml rt nm) {i k : Nat} {C : String} (hi : Jvm.Cond.classLink own i C ∈ tables_1) (hin : Jvm.Cond.instantiable C k ∈ tables_1) (hz : Jvm.Cond.initialized C ∈ tables_1) (hc : cs + 1 ≤ R.cells) (hs : ss + k ≤ R.slots) (hd : decode bytes pc = .ok (.new i, 3)) (hq : pc + 3 = q)
    (r : ∀ b h', b = h.size → Ext h h' → Exa Z h' b C → (∀ {O n d : String} {ty : FieldType}, Laid Z a0 C O n d → parseFieldDescriptor d = some ty → Fld Z h' b O n d (defaultValue ty)) → Unt h' b → Rn w l R n0 Q q Ls (.ref b :: S) h' (cs + 1) (ss + k)) : Rn w l R n0 Q pc Ls S h cs ss := fun T locs X eT N => by
  subst hq
  obtain ⟨T', h', X', e', E, A, D, U, st⟩ := Jvm.RoadKit.newO X K.x K.z K.ow (K.hw _ hi) (K.hw _ hin) (K.hw _ hz) eT (g := mkF w.m pc Ls S) rfl (hb K.cd hd) hc hs
  obtain ⟨s₂, o, h1, r'⟩ := r _ h' rfl E A D U T' _ X' e' N
  exact ⟨s₂, o, st _ h1, r'⟩
end OwnKitK
theorem own_ti {k : Nat} (hk : k < 2147483648) : (Int32.ofNat k).toInt = k := len_toInt (n := k) hk
theorem own_cl {k : Nat} (hk : k < 2147483648) : (Int32.ofNat k).toNatClampNeg = k := by simp only [Int32.toNatClampNeg, own_ti hk]; omega
theorem own_sub {a b : Nat} (h : b ≤ a) (ha : a < 2147483648) : Int32.ofNat a - Int32.ofNat b = Int32.ofNat (a - b) := by
  apply Int32.toInt_inj.mp
  rw [XT.sub32 (by rw [own_ti ha, own_ti (by omega)]; exact ⟨by omega, by omega⟩), own_ti ha, own_ti (by omega), own_ti (by omega)]
  omega
theorem own_add {a b : Nat} (h : a + b < 2147483648) : Int32.ofNat a + Int32.ofNat b = Int32.ofNat (a + b) := by
  apply Int32.toInt_inj.mp
  rw [XT.add32 (by rw [own_ti (by omega), own_ti (by omega)]; exact ⟨by omega, by omega⟩), own_ti (by omega), own_ti (by omega), own_ti (by omega)]
  omega
theorem own_lt {a b : Nat} (h : a < b) (hb : b < 2147483648) : Int32.ofNat a < Int32.ofNat b := by rw [Int32.lt_iff_toInt_lt, own_ti (by omega), own_ti hb]; omega
theorem own_nlt {a b : Nat} (h : b ≤ a) (ha : a < 2147483648) : ¬ Int32.ofNat a < Int32.ofNat b := by rw [Int32.lt_iff_toInt_lt, own_ti ha, own_ti (k := b) (by omega)]; omega
theorem own_nn {a : Nat} (ha : a < 2147483648) : ¬ Int32.ofNat a < 0 := own_nlt (b := 0) (Nat.zero_le _) ha
theorem own_in {a b : Nat} (h : a < b) (hb : b < 2147483648) : ¬ Int32.ofNat a < 0 ∧ Int32.ofNat a < Int32.ofNat b := ⟨own_nn (by omega), own_lt h hb⟩
theorem own_of {x : Int32} (h : 0 ≤ x.toInt) : x = Int32.ofNat x.toInt.toNat := by
  have h2 := Int32.toInt_lt x
  apply Int32.toInt_inj.mp
  rw [own_ti (by omega)]
  omega
theorem own_ex {x : Int32} {lo hi : Nat} (h1 : (lo : Int) ≤ x.toInt) (h2 : x.toInt ≤ hi) : ∃ k : Nat, lo ≤ k ∧ k ≤ hi ∧ x = Int32.ofNat k := ⟨x.toInt.toNat, by omega, by omega, own_of (by omega)⟩
theorem own_15 (x : Int32) : 0 ≤ (x &&& (15 : Int32)).toInt ∧ (x &&& (15 : Int32)).toInt ≤ 15 := by
  have e : (x &&& (15 : Int32)).toInt = (x.toBitVec.toNat % 16 : Nat) := by
    have h : (x &&& (15 : Int32)).toBitVec.toNat = x.toBitVec.toNat % 16 := by
      show (x.toBitVec &&& (15 : Int32).toBitVec).toNat = _
      rw [BitVec.toNat_and]
      exact Nat.and_two_pow_sub_one_eq_mod _ 4
    show (x &&& (15 : Int32)).toBitVec.toInt = _
    rw [BitVec.toInt_eq_toNat_of_lt (by omega), h]
  rw [e]
  omega
theorem own_n (x : Int32) : ∃ N : Nat, 2 ≤ N ∧ N ≤ 17 ∧ (2 : Int32) + (x &&& (15 : Int32)) = Int32.ofNat N := by
  obtain ⟨h1, h2⟩ := own_15 x
  obtain ⟨k, k1, k2, e⟩ := own_ex (lo := 0) (hi := 15) (by omega) (by omega : (x &&& (15 : Int32)).toInt ≤ (15 : Nat))
  refine ⟨2 + k, by omega, by omega, ?_⟩
  rw [e, ← own_add (by omega)]
  rfl
theorem own_rem (x : Int32) {m : Nat} (hm : 0 < m) (hb : m < 2147483648) : ∃ k : Nat, k < m ∧ (x &&& (2147483647 : Int32)) % Int32.ofNat m = Int32.ofNat k := by
  obtain ⟨h1, h2⟩ := own_mod x (own_ti hb) (by omega : (0 : Int) < (m : Int))
  obtain ⟨k, -, k2, e⟩ := own_ex (lo := 0) (hi := m - 1) (by omega) (by omega : ((x &&& (2147483647 : Int32)) % Int32.ofNat m).toInt ≤ ((m - 1 : Nat) : Int))
  exact ⟨k, by omega, e⟩
theorem own_nz {m : Nat} (hm : 0 < m) (hb : m < 2147483648) : Int32.ofNat m ≠ 0 := fun e => by
  have h : (Int32.ofNat m).toInt = (0 : Int32).toInt := by rw [e]
  rw [own_ti hb] at h
  have e0 : (0 : Int32).toInt = 0 := rfl
  omega

def KeepC (Z : State) (h h' : Heap) (n0 : Nat) (Cs : List String) : Prop := ∃ ws, Keep h h' ws ∧ (∀ x ∈ ws, n0 ≤ x) ∧ ∀ y C, Exa Z h y C → C ∉ Cs → y ∉ ws
section KeepCLaws
variable {Z : State} {h h' h2 : Heap} {n0 : Nat} {Cs : List String} {a : Addr} {C O f d : String} {v : Value}
theorem Old.keepc (X : Old Z n0 h) (K : KeepC Z h h' n0 Cs) : Old Z n0 h' := by
  obtain ⟨ws, k1, k2, -⟩ := K
  exact X.keep k1 k2
theorem Exa.keepc (E : Exa Z h a C) (K : KeepC Z h h' n0 Cs) : Exa Z h' a C := by
  obtain ⟨ws, k1, -⟩ := K
  exact E.keep k1
theorem Fld.keepc (F : Fld Z h a O f d v) (E : Exa Z h a C) (hC : C ∉ Cs) (K : KeepC Z h h' n0 Cs) : Fld Z h' a O f d v := by
  obtain ⟨ws, k1, k2, k3⟩ := K
  exact F.keep k1 (k3 a C E hC)
theorem Arv.keepc {k : ClassId} {ty : FieldType} {z : Int32} {vs : List Value} {dv : Value} (F : Arv Z h a k ty z vs dv) (E : Exa Z h a C) (hC : C ∉ Cs) (K : KeepC Z h h' n0 Cs) : Arv Z h' a k ty z vs dv := by
  obtain ⟨ws, k1, k2, k3⟩ := K
  exact F.keep k1 (k3 a C E hC)
theorem KeepC.pre {b : Addr} {B : String} (K : Keep h h2 [b]) (E : Exa Z h b B) (hB : B ∈ Cs) (g : n0 ≤ b) (L : KeepC Z h2 h' n0 Cs) : KeepC Z h h' n0 Cs := by
  obtain ⟨ws, k1, k2, k3⟩ := L
  have K2 : Keep h h2 (b :: ws) := ⟨K.1, fun x c q r => K.2.1 x c q (fun z => r (by rw [List.mem_singleton.mp z]; exact List.mem_cons_self ..)), K.2.2⟩
  refine ⟨b :: ws, K2.trans k1 (fun x hx => Or.inl (List.mem_cons_of_mem _ hx)), allS g k2, fun y C F hC => ninS (fun e => ?_) (k3 y C (F.keep K) hC)⟩
  subst e
  exact ne_exa F E (fun e => hC (e ▸ hB)) rfl
end KeepCLaws
def Arg (Z : State) (h : Heap) (e : Value) : Prop := e = .null ∨ ∃ t, e = .ref t ∧ Exa Z h t "java/lang/Throwable"
section ArgLaws
variable {Z : State} {h h' : Heap} {n0 : Nat} {Cs : List String} {e : Value}
theorem Arg.isr (A : Arg Z h e) : e.isRef = true := by rcases A with rfl | ⟨t, rfl, -⟩ <;> rfl
theorem Arg.ext (A : Arg Z h e) (E : Ext h h') : Arg Z h' e := A.imp id fun ⟨t, q, F⟩ => ⟨t, q, F.ext E⟩
theorem Arg.wr {o : Addr} {sl : Nat} {v : Value} (A : Arg Z h e) (W : Wr h h' o sl v) : Arg Z h' e := A.imp id fun ⟨t, q, F⟩ => ⟨t, q, F.wr W⟩
theorem Arg.keep {ws : List Addr} (A : Arg Z h e) (K : Keep h h' ws) : Arg Z h' e := A.imp id fun ⟨t, q, F⟩ => ⟨t, q, F.keep K⟩
theorem Arg.fit {C : String} (A : Arg Z h e) : fits (.object C) e = true := by rcases A with rfl | ⟨t, rfl, -⟩ <;> rfl
theorem Arg.nar {C : String} (A : Arg Z h e) : narrow (.object C) e = e := by rcases A with rfl | ⟨t, rfl, -⟩ <;> rfl
theorem Arg.sto {a0 : Array Value} {a : Addr} {c : Cell} {ty : FieldType} {k : ClassId} (A : Arg Z h e) (wc : (Jvm.Cond.castable "java/lang/Throwable" "java/lang/Object").before a0 Z = true) (R : Arr Z h a c ty) (q : c.cls = k) (O : Ovr Z k "java/lang/Object") : Sto Z h a e := by
  rcases A with rfl | ⟨t, rfl, F⟩
  · exact Or.inl rfl
  · exact Sto.ofV R q O (Ins.of_exa F wc)
end ArgLaws
/-- an ArrayList of n elements, n at most 10, made by 'new ArrayList()' and 'add' alone -/
def ALs (Z : State) (h : Heap) (n0 : Nat) (dc lst : Addr) (n : Nat) : Prop := Exa Z h lst "java/util/ArrayList" ∧ n0 ≤ lst ∧ Fld Z h lst "java/util/ArrayList" "size" "I" (.int (Int32.ofNat n)) ∧ (∃ m : Int32, Fld Z h lst "java/util/AbstractList" "modCount" "I" (.int m)) ∧
  ((n = 0 ∧ Fld Z h lst "java/util/ArrayList" "elementData" "[Ljava/lang/Object;" (.ref dc)) ∨ (0 < n ∧ ∃ (ed : Addr) (k : ClassId) (vs : List Value), Fld Z h lst "java/util/ArrayList" "elementData" "[Ljava/lang/Object;" (.ref ed) ∧ n0 ≤ ed ∧ Exa Z h ed "[Ljava/lang/Object;" ∧ Arv Z h ed k (.object "java/lang/Object") (10 : Int32) vs .null ∧ vs.length = 10 ∧ Ovr Z k "java/lang/Object"))

section ALsLaws
variable {Z : State} {h h' : Heap} {n0 n : Nat} {dc lst o : Addr} {C : String}
theorem ALs.wr {sl : Nat} {v : Value} (L : ALs Z h n0 dc lst n) (W : Wr h h' o sl v) (E : Exa Z h o C) (h1 : "java/util/ArrayList" ≠ C) (h2 : "[Ljava/lang/Object;" ≠ C) : ALs Z h' n0 dc lst n := by
  obtain ⟨q1, q2, q3, ⟨m, q4⟩, q5⟩ := L
  have ne := ne_exa q1 E h1
  refine ⟨q1.wr W, q2, Fld.other W q3 (Or.inl ne), ⟨m, Fld.other W q4 (Or.inl ne)⟩, q5.imp (fun ⟨a, b⟩ => ⟨a, Fld.other W b (Or.inl ne)⟩) (fun ⟨a, ed, k, vs, b, c, d, e, f, g⟩ => ⟨a, ed, k, vs, Fld.other W b (Or.inl ne), c, d.wr W, e.other W (ne_exa d E h2), f, g⟩)⟩
theorem ALs.ext (L : ALs Z h n0 dc lst n) (E : Ext h h') : ALs Z h' n0 dc lst n := by
  obtain ⟨q1, q2, q3, ⟨m, q4⟩, q5⟩ := L
  exact ⟨q1.ext E, q2, q3.ext E, ⟨m, q4.ext E⟩, q5.imp (fun ⟨a, b⟩ => ⟨a, b.ext E⟩) (fun ⟨a, ed, k, vs, b, c, d, e, f, g⟩ => ⟨a, ed, k, vs, b.ext E, c, d.ext E, e.ext E, f, g⟩)⟩
theorem ALs.keep (L : ALs Z h n0 dc lst n) (K : Keep h h' [o]) (E : Exa Z h o C) (h1 : "java/util/ArrayList" ≠ C) (h2 : "[Ljava/lang/Object;" ≠ C) : ALs Z h' n0 dc lst n := by
  obtain ⟨q1, q2, q3, ⟨m, q4⟩, q5⟩ := L
  have ne : lst ∉ [o] := ninS (ne_exa q1 E h1) nin0
  exact ⟨q1.keep K, q2, q3.keep K ne, ⟨m, q4.keep K ne⟩, q5.imp (fun ⟨a, b⟩ => ⟨a, b.keep K ne⟩) (fun ⟨a, ed, k, vs, b, c, d, e, f, g⟩ => ⟨a, ed, k, vs, b.keep K ne, c, d.keep K, e.keep K (ninS (ne_exa d E h2) nin0), f, g⟩)⟩
end ALsLaws
theorem own_neq {a b : Nat} (h : a < b) (ha : a < 2147483648) (hb : b < 2147483648) : ¬ Int32.ofNat a = Int32.ofNat b := fun e => by
  have q := own_lt h hb
  rw [e] at q
  exact Int32.lt_irrefl q
/-- the law's own state between two steps: a list of n failures, the two flags -/
def Inv (Z : State) (h : Heap) (n0 : Nat) (dc t o lst st : Addr) (n : Nat) : Prop := Exa Z h o "com/example/verdict/verdict/outcome/TestOutcome" ∧ n0 ≤ o ∧ Exa Z h t "java/lang/Throwable" ∧ Fld Z h o "com/example/verdict/verdict/outcome/TestOutcome" "_failures" "Ljava/util/List;" (.ref lst) ∧ ALs Z h n0 dc lst n ∧ Exa Z h st "[Z" ∧ n0 ≤ st ∧
  ∃ (k : ClassId) (v : Value) (b0 b1 : Int32), Fld Z h o "com/example/verdict/verdict/outcome/TestOutcome" "_violation" "Ljava/lang/Throwable;" v ∧ Arv Z h st k .boolean (2 : Int32) [.int b0, .int b1] (.int (0 : Int32)) ∧ ((n = 0 ∧ b0 = 0) ∨ (0 < n ∧ b0 = 1)) ∧ ((v = .null ∧ b1 = 0) ∨ ∃ x, v = .ref x ∧ b1 = 1)

theorem own_arr0 {args : Array Value} {s : State} {t : Term} {a : Addr} {ty : FieldType} (hf : Fit s) (ev : t.eval args s none [] s = some (.ref a)) (h1 : (Jvm.Cond.arrayOf t ty).value args s none s [] = some true) (h2 : (Jvm.Cond.eq (.length t) (.int 0)).value args s none s [] = some true) : ∃ k, Arv s s.heap a k ty (0 : Int32) [] .null := by
  obtain ⟨cl, A⟩ := Arr.start ev h1
  have e2 := own_eqI h2
  have hA := Arr.fin (U := s) (State.Warmed39.refl s).alike A
  have q : cl.slots.size < 2 ^ 31 := by
    by_cases hq : cl.slots.size < 2 ^ 31
    · exact hq
    · simp [Term.eval, ev, hA, hq] at e2
  rw [len_f ev hA q] at e2
  have e3 : cl.slots.size.toInt32 = 0 := Value.int.inj (Option.some.inj e2)
  exact ⟨cl.cls, Arv.start hf A q e3 (by decide) rfl trivial⟩

theorem pd_0 : parseMethodDescriptor "()V" = some ⟨[], none⟩ := by decide +kernel
theorem pd_1 : parseMethodDescriptor "()Z" = some ⟨[], some .boolean⟩ := by decide +kernel
theorem pd_2 : parseMethodDescriptor "(II)I" = some ⟨[.int, .int], some .int⟩ := by decide +kernel
theorem pd_3 : parseMethodDescriptor "(I)[Ljava/lang/Object;" = some ⟨[.int], some (.array (.object "java/lang/Object"))⟩ := by decide +kernel
theorem pd_4 : parseMethodDescriptor "()[Ljava/lang/Object;" = some ⟨[], some (.array (.object "java/lang/Object"))⟩ := by decide +kernel
theorem pd_5 : parseMethodDescriptor "(Ljava/lang/Object;[Ljava/lang/Object;I)V" = some ⟨[(.object "java/lang/Object"), (.array (.object "java/lang/Object")), .int], none⟩ := by decide +kernel
theorem pd_6 : parseMethodDescriptor "(Ljava/lang/Object;)Z" = some ⟨[(.object "java/lang/Object")], some .boolean⟩ := by decide +kernel
theorem pd_7 : parseMethodDescriptor "(Ljava/lang/Throwable;)V" = some ⟨[(.object "java/lang/Throwable")], none⟩ := by decide +kernel
theorem pd_8 : parseMethodDescriptor "()Lcom/example/verdict/verdict/outcome/TestOutcome$Kind;" = some ⟨[], some (.object "com/example/verdict/verdict/outcome/TestOutcome$Kind")⟩ := by decide +kernel
theorem pd_9 : parseMethodDescriptor "(Lcom/example/verdict/verdict/outcome/TestOutcome;ILjava/lang/Throwable;[Z)Z" = some ⟨[(.object "com/example/verdict/verdict/outcome/TestOutcome"), .int, (.object "java/lang/Throwable"), (.array .boolean)], some .boolean⟩ := by decide +kernel
theorem d7_0 : decode jdk_22_method_1_code 0 = .ok (.aload_n 0, 1) := by decide +kernel
theorem d7_1 : decode jdk_22_method_1_code 1 = .ok (.invokespecial 1, 3) := by decide +kernel
theorem d7_4 : decode jdk_22_method_1_code 4 = .ok (.return_, 1) := by decide +kernel
theorem pn_m_ac : plainName "java/util/AbstractCollection" = true := by first | (simp [plainName, overriddenIn]; done) | decide +kernel
set_option maxRecDepth 65536 in
set_option maxHeartbeats 40000000 in
theorem m_ac (l : Launch) (Z : State) (a0 : Array Value) (hw : ∀ d ∈ tables_1, d.before a0 Z = true) (n0 : Nat) (h0 : Heap) (b : Addr) :
    Met l Z (⟨"java/util/AbstractCollection", "<init>", "()V"⟩ : MethodName) jdk_22_method_1_code 1 none ({ frames := 1, cells := 0, slots := 0, locals := 12 } : Room) n0 [] #[(.ref b)] h0 (fun v h => v = none ∧ h0 = h) := by
  refine Met.intro (Ls := #[.val (.ref b)]) (plainFor_of_name pn_m_ac) hw (fun m => by first | rfl | (simp [entryFrame, mkF, argsToLocals, Value.category]; done)) ?_
  intro w K0
  have K : Cx w Z a0 "java/util/AbstractCollection" jdk_22_method_1_code 1 none "<init>" := K0
  refine Rn.aloadN K (q := 1) d7_0 rfl rfl rfl ?_
  refine Rn.initO K (q := 4) (W := 0) (List.mem_of_getElem? (i := 63) rfl) (List.mem_of_getElem? (i := 7) rfl) (List.mem_of_getElem? (i := 8) rfl) (by decide) (by decide) rfl (Nat.le_of_ble_eq_true rfl) d7_1 rfl ?_
  exact Rn.retV K rfl d7_4 (by decide) (by decide) ⟨rfl, rfl⟩
theorem d6_0 : decode jdk_39_method_1_code 0 = .ok (.aload_n 0, 1) := by decide +kernel
theorem d6_1 : decode jdk_39_method_1_code 1 = .ok (.invokespecial 1, 3) := by decide +kernel
theorem d6_4 : decode jdk_39_method_1_code 4 = .ok (.aload_n 0, 1) := by decide +kernel
theorem d6_5 : decode jdk_39_method_1_code 5 = .ok (.iconst 0, 1) := by decide +kernel
theorem d6_6 : decode jdk_39_method_1_code 6 = .ok (.putfield 7, 3) := by decide +kernel
theorem d6_9 : decode jdk_39_method_1_code 9 = .ok (.return_, 1) := by decide +kernel
theorem pn_m_al0 : plainName "java/util/AbstractList" = true := by first | (simp [plainName, overriddenIn]; done) | decide +kernel
set_option maxRecDepth 65536 in
set_option maxHeartbeats 40000000 in
theorem m_al0 (l : Launch) (Z : State) (a0 : Array Value) (hw : ∀ d ∈ tables_1, d.before a0 Z = true) (n0 : Nat) (h0 : Heap) (b : Addr) (X0 : Old Z n0 h0) (E : Exa Z h0 b "java/util/ArrayList") (g : n0 ≤ b) (FelementData : Fld Z h0 b "java/util/ArrayList" "elementData" "[Ljava/lang/Object;" .null) (Fsize : Fld Z h0 b "java/util/ArrayList" "size" "I" (.int (0 : Int32))) (FmodCount : Fld Z h0 b "java/util/AbstractList" "modCount" "I" (.int (0 : Int32))) :
    Met l Z (⟨"java/util/AbstractList", "<init>", "()V"⟩ : MethodName) jdk_39_method_1_code 1 none ({ frames := 2, cells := 0, slots := 0, locals := 24 } : Room) n0 [] #[(.ref b)] h0 (fun v h => v = none ∧ Keep h0 h [b] ∧ Fld Z h b "java/util/ArrayList" "elementData" "[Ljava/lang/Object;" .null ∧ Fld Z h b "java/util/ArrayList" "size" "I" (.int (0 : Int32)) ∧ Fld Z h b "java/util/AbstractList" "modCount" "I" (.int (0 : Int32))) := by
  refine Met.intro (Ls := #[.val (.ref b)]) (plainFor_of_name pn_m_al0) hw (fun m => by first | rfl | (simp [entryFrame, mkF, argsToLocals, Value.category]; done)) ?_
  intro w K0
  have K : Cx w Z a0 "java/util/AbstractList" jdk_39_method_1_code 1 none "<init>" := K0
  have K1 := Keep.refl h0 [b]
  refine Rn.aloadN K (q := 1) d6_0 rfl rfl rfl ?_
  refine Rn.spec K (q := 4) (W := 0) (y := (⟨"java/util/AbstractCollection", "<init>", "()V"⟩ : MethodName)) (b := b) (argsL := []) (rest := []) rfl (List.mem_of_getElem? (i := 57) rfl) (List.mem_of_getElem? (i := 58) rfl) (List.mem_of_getElem? (i := 62) rfl) (List.mem_of_getElem? (i := 61) rfl) (by decide) (m_ac l Z a0 hw n0 h0 b) (by decide) (by decide) rfl (lenOf pd_0 rfl) rfl (Nat.le_of_ble_eq_true rfl) d6_1 rfl (by decide) (by decide) ?_
  rintro _ _ ⟨rfl, rfl⟩
  show Rn w l _ n0 _ 4 #[.val (.ref b)] [] h0 0 0
  refine Rn.aloadN K (q := 5) d6_4 rfl rfl rfl ?_
  refine Rn.iconst K (q := 6) (0 : Int32) d6_5 rfl rfl ?_
  refine Rn.putF K (q := 9) (ty := .int) (List.mem_of_getElem? (i := 64) rfl) Via.refl FmodCount E (Or.inl (List.mem_of_getElem? (i := 65) rfl)) (List.mem_of_getElem? (i := 46) rfl) (by decide) rfl rfl g d6_6 rfl ?_
  intro h1 W2
  have f3 := X0.wr W2 g
  have f4 := K1.wr W2 (Or.inl (List.mem_of_getElem? (i := 0) rfl))
  have f5 := E.wr W2
  have f6 := Fld.other W2 FelementData (Or.inr (slot_ne (Or.inl (K.hw _ (List.mem_of_getElem? (i := 68) rfl))) (Or.inl (K.hw _ (List.mem_of_getElem? (i := 65) rfl))) (by decide) (t := (.array (.object "java/lang/Object"))) (t' := .int) (by decide) (by decide)))
  have f7 := Fld.other W2 Fsize (Or.inr (slot_ne (Or.inl (K.hw _ (List.mem_of_getElem? (i := 87) rfl))) (Or.inl (K.hw _ (List.mem_of_getElem? (i := 65) rfl))) (by decide) (t := .int) (t' := .int) (by decide) (by decide)))
  have f8 := Fld.same W2 FmodCount
  exact Rn.retV K rfl d6_9 (by decide) (by decide) ⟨rfl, f4, f6, f7, f8⟩
theorem d5_0 : decode jdk_38_method_2_code 0 = .ok (.aload_n 0, 1) := by decide +kernel
theorem d5_1 : decode jdk_38_method_2_code 1 = .ok (.invokespecial 1, 3) := by decide +kernel
theorem d5_4 : decode jdk_38_method_2_code 4 = .ok (.aload_n 0, 1) := by decide +kernel
theorem d5_5 : decode jdk_38_method_2_code 5 = .ok (.getstatic 39, 3) := by decide +kernel
theorem d5_8 : decode jdk_38_method_2_code 8 = .ok (.putfield 9, 3) := by decide +kernel
theorem d5_11 : decode jdk_38_method_2_code 11 = .ok (.return_, 1) := by decide +kernel
theorem pn_m_al : plainName "java/util/ArrayList" = true := by first | (simp [plainName, overriddenIn]; done) | decide +kernel
set_option maxRecDepth 65536 in
set_option maxHeartbeats 40000000 in
theorem m_al (l : Launch) (Z : State) (a0 : Array Value) (hw : ∀ d ∈ tables_1, d.before a0 Z = true) (n0 : Nat) (h0 : Heap) (b dc : Addr) (X0 : Old Z n0 h0) (E : Exa Z h0 b "java/util/ArrayList") (g : n0 ≤ b) (FelementData : Fld Z h0 b "java/util/ArrayList" "elementData" "[Ljava/lang/Object;" .null) (Fsize : Fld Z h0 b "java/util/ArrayList" "size" "I" (.int (0 : Int32))) (FmodCount : Fld Z h0 b "java/util/AbstractList" "modCount" "I" (.int (0 : Int32))) (SD : Sta Z Z.heap "java/util/ArrayList" "DEFAULTCAPACITY_EMPTY_ELEMENTDATA" "[Ljava/lang/Object;" (.ref dc)) :
    Met l Z (⟨"java/util/ArrayList", "<init>", "()V"⟩ : MethodName) jdk_38_method_2_code 1 none ({ frames := 3, cells := 0, slots := 0, locals := 36 } : Room) n0 [] #[(.ref b)] h0 (fun v h => v = none ∧ Keep h0 h [b] ∧ Fld Z h b "java/util/ArrayList" "elementData" "[Ljava/lang/Object;" (.ref dc) ∧ Fld Z h b "java/util/ArrayList" "size" "I" (.int (0 : Int32)) ∧ Fld Z h b "java/util/AbstractList" "modCount" "I" (.int (0 : Int32))) := by
  refine Met.intro (Ls := #[.val (.ref b)]) (plainFor_of_name pn_m_al) hw (fun m => by first | rfl | (simp [entryFrame, mkF, argsToLocals, Value.category]; done)) ?_
  intro w K0
  have K : Cx w Z a0 "java/util/ArrayList" jdk_38_method_2_code 1 none "<init>" := K0
  have K1 := Keep.refl h0 [b]
  refine Rn.aloadN K (q := 1) d5_0 rfl rfl rfl ?_
  refine Rn.spec K (q := 4) (W := 0) (y := (⟨"java/util/AbstractList", "<init>", "()V"⟩ : MethodName)) (b := b) (argsL := []) (rest := []) rfl (List.mem_of_getElem? (i := 51) rfl) (List.mem_of_getElem? (i := 52) rfl) (List.mem_of_getElem? (i := 56) rfl) (List.mem_of_getElem? (i := 55) rfl) (by decide) (m_al0 l Z a0 hw n0 h0 b X0 E g FelementData Fsize FmodCount) (by decide) (by decide) rfl (lenOf pd_0 rfl) rfl (Nat.le_of_ble_eq_true rfl) d5_1 rfl (by decide) (by decide) ?_
  rintro _ h1 ⟨rfl, Kp2, F3, F4, F5⟩
  have f6 := X0.keep Kp2 (allS g all0)
  have f7 := K1.trans Kp2 (allS (Or.inl (List.mem_of_getElem? (i := 0) rfl)) all0)
  have f8 := E.keep Kp2
  show Rn w l _ n0 _ 4 #[.val (.ref b)] [] h1 0 0
  refine Rn.aloadN K (q := 5) d5_4 rfl rfl rfl ?_
  refine Rn.getS K (q := 8) (List.mem_of_getElem? (i := 66) rfl) (SD.ext f6.2) d5_5 rfl ?_
  refine Rn.putF K (q := 11) (ty := (.array (.object "java/lang/Object"))) (List.mem_of_getElem? (i := 67) rfl) Via.refl F3 f8 (Or.inl (List.mem_of_getElem? (i := 68) rfl)) (List.mem_of_getElem? (i := 46) rfl) (by decide) rfl rfl g d5_8 rfl ?_
  intro h9 W10
  have f11 := f6.wr W10 g
  have f12 := f7.wr W10 (Or.inl (List.mem_of_getElem? (i := 0) rfl))
  have f13 := f8.wr W10
  have f14 := Fld.same W10 F3
  have f15 := Fld.other W10 F4 (Or.inr (slot_ne (Or.inl (K.hw _ (List.mem_of_getElem? (i := 87) rfl))) (Or.inl (K.hw _ (List.mem_of_getElem? (i := 68) rfl))) (by decide) (t := .int) (t' := (.array (.object "java/lang/Object"))) (by decide) (by decide)))
  have f16 := Fld.other W10 F5 (Or.inr (slot_ne (Or.inl (K.hw _ (List.mem_of_getElem? (i := 65) rfl))) (Or.inl (K.hw _ (List.mem_of_getElem? (i := 68) rfl))) (by decide) (t := .int) (t' := (.array (.object "java/lang/Object"))) (by decide) (by decide)))
  exact Rn.retV K rfl d5_11 (by decide) (by decide) ⟨rfl, f12, f14, f15, f16⟩
theorem d4_0 : decode prog_29_method_1_code 0 = .ok (.aload_n 0, 1) := by decide +kernel
theorem d4_1 : decode prog_29_method_1_code 1 = .ok (.invokespecial 1, 3) := by decide +kernel
theorem d4_4 : decode prog_29_method_1_code 4 = .ok (.aload_n 0, 1) := by decide +kernel
theorem d4_5 : decode prog_29_method_1_code 5 = .ok (.new 7, 3) := by decide +kernel
theorem d4_8 : decode prog_29_method_1_code 8 = .ok (.dup, 1) := by decide +kernel
theorem d4_9 : decode prog_29_method_1_code 9 = .ok (.invokespecial 9, 3) := by decide +kernel
theorem d4_12 : decode prog_29_method_1_code 12 = .ok (.putfield 10, 3) := by decide +kernel
theorem d4_15 : decode prog_29_method_1_code 15 = .ok (.return_, 1) := by decide +kernel
theorem pn_m_to : plainName "com/example/verdict/verdict/outcome/TestOutcome" = true := by first | (simp [plainName, overriddenIn]; done) | decide +kernel
set_option maxRecDepth 65536 in
set_option maxHeartbeats 40000000 in
theorem m_to (l : Launch) (Z : State) (a0 : Array Value) (hw : ∀ d ∈ tables_1, d.before a0 Z = true) (n0 : Nat) (h0 : Heap) (o dc : Addr) (X0 : Old Z n0 h0) (E : Exa Z h0 o "com/example/verdict/verdict/outcome/TestOutcome") (g : n0 ≤ o) (F_failures : Fld Z h0 o "com/example/verdict/verdict/outcome/TestOutcome" "_failures" "Ljava/util/List;" .null) (F_violation : Fld Z h0 o "com/example/verdict/verdict/outcome/TestOutcome" "_violation" "Ljava/lang/Throwable;" .null) (SD : Sta Z Z.heap "java/util/ArrayList" "DEFAULTCAPACITY_EMPTY_ELEMENTDATA" "[Ljava/lang/Object;" (.ref dc)) :
    Met l Z (⟨"com/example/verdict/verdict/outcome/TestOutcome", "<init>", "()V"⟩ : MethodName) prog_29_method_1_code 1 none ({ frames := 4, cells := 1, slots := 3, locals := 50 } : Room) n0 [] #[(.ref o)] h0 (fun v h => v = none ∧ Keep h0 h [o] ∧ ∃ lst, h0.size ≤ lst ∧ Fld Z h o "com/example/verdict/verdict/outcome/TestOutcome" "_failures" "Ljava/util/List;" (.ref lst) ∧ Fld Z h o "com/example/verdict/verdict/outcome/TestOutcome" "_violation" "Ljava/lang/Throwable;" .null ∧ ALs Z h n0 dc lst 0) := by
  refine Met.intro (Ls := #[.val (.ref o)]) (plainFor_of_name pn_m_to) hw (fun m => by first | rfl | (simp [entryFrame, mkF, argsToLocals, Value.category]; done)) ?_
  intro w K0
  have K : Cx w Z a0 "com/example/verdict/verdict/outcome/TestOutcome" prog_29_method_1_code 1 none "<init>" := K0
  have K1 := Keep.refl h0 [o]
  refine Rn.aloadN K (q := 1) d4_0 rfl rfl rfl ?_
  refine Rn.initO K (q := 4) (W := 0) (List.mem_of_getElem? (i := 44) rfl) (List.mem_of_getElem? (i := 7) rfl) (List.mem_of_getElem? (i := 8) rfl) (by decide) (by decide) rfl (Nat.le_of_ble_eq_true rfl) d4_1 rfl ?_
  refine Rn.aloadN K (q := 5) d4_4 rfl rfl rfl ?_
  refine Rn.newO K (q := 8) (List.mem_of_getElem? (i := 45) rfl) (List.mem_of_getElem? (i := 46) rfl) (List.mem_of_getElem? (i := 47) rfl) (by decide) (by decide) d4_5 rfl ?_
  intro b1 h2 gb1_ X3 A_b1 D4
  have ne_o_b1 : o ≠ b1 := fun e => absurd E.lt (by rw [e, gb1_]; exact Nat.lt_irrefl _)
  have g_b1 : n0 ≤ b1 := by rw [gb1_]; exact X0.1 ▸ X0.2.1
  have sz_b1 : h0.size ≤ b1 := by rw [gb1_]; exact K1.1
  have f5 := X0.ext X3
  have f6 := K1.ext X3
  have f7 := E.ext X3
  have f8 := F_failures.ext X3
  have f9 := F_violation.ext X3
  have f10 : Fld Z h2 b1 "java/util/AbstractList" "modCount" "I" (.int (0 : Int32)) := D4 (Or.inl (K.hw _ (List.mem_of_getElem? (i := 65) rfl))) (ty := .int) (by decide)
  have f11 : Fld Z h2 b1 "java/util/ArrayList" "elementData" "[Ljava/lang/Object;" .null := D4 (Or.inl (K.hw _ (List.mem_of_getElem? (i := 68) rfl))) (ty := (.array (.object "java/lang/Object"))) (by decide)
  have f12 : Fld Z h2 b1 "java/util/ArrayList" "size" "I" (.int (0 : Int32)) := D4 (Or.inl (K.hw _ (List.mem_of_getElem? (i := 87) rfl))) (ty := .int) (by decide)
  show Rn w l _ n0 _ 8 #[.val (.ref o)] [(.ref b1), (.ref o)] h2 1 3
  refine Rn.dup K (q := 9) d4_8 rfl rfl ?_
  refine Rn.spec K (q := 12) (W := 2) (y := (⟨"java/util/ArrayList", "<init>", "()V"⟩ : MethodName)) (b := b1) (argsL := []) (rest := [(.ref b1), (.ref o)]) rfl (List.mem_of_getElem? (i := 48) rfl) (List.mem_of_getElem? (i := 49) rfl) (List.mem_of_getElem? (i := 50) rfl) (List.mem_of_getElem? (i := 47) rfl) (by decide) (m_al l Z a0 hw n0 h2 b1 dc f5 A_b1 g_b1 f11 f12 f10 SD) (by decide) (by decide) rfl (lenOf pd_0 rfl) rfl (Nat.le_of_ble_eq_true rfl) d4_9 rfl (by decide) (by decide) ?_
  rintro _ h13 ⟨rfl, Kp14, F15, F16, F17⟩
  have f18 := f5.keep Kp14 (allS g_b1 all0)
  have f19 := f6.trans Kp14 (allS (Or.inr sz_b1) all0)
  have f20 := f7.keep Kp14
  have f21 := f8.keep Kp14 (ninS ne_o_b1 nin0)
  have f22 := f9.keep Kp14 (ninS ne_o_b1 nin0)
  have f23 := A_b1.keep Kp14
  show Rn w l _ n0 _ 12 #[.val (.ref o)] [(.ref b1), (.ref o)] h13 1 3
  refine Rn.putF K (q := 15) (ty := (.object "java/util/List")) (List.mem_of_getElem? (i := 69) rfl) Via.refl f21 f20 (Or.inr ⟨(List.mem_of_getElem? (i := 70) rfl), rfl, rfl⟩) (List.mem_of_getElem? (i := 39) rfl) (by decide) rfl rfl g d4_12 rfl ?_
  intro h24 W25
  have f26 := f18.wr W25 g
  have f27 := f19.wr W25 (Or.inl (List.mem_of_getElem? (i := 0) rfl))
  have f28 := f20.wr W25
  have f29 := Fld.same W25 f21
  have f30 := Fld.other W25 f22 (Or.inr (slot_ne (Or.inl (K.hw _ (List.mem_of_getElem? (i := 89) rfl))) (Or.inr (K.hw _ (List.mem_of_getElem? (i := 70) rfl))) (by decide) (t := (.object "java/lang/Throwable")) (t' := (.object "java/util/List")) (by decide) (by decide)))
  have f31 := f23.wr W25
  have f32 := Fld.other W25 F15 (Or.inl (Ne.symm ne_o_b1))
  have f33 := Fld.other W25 F16 (Or.inl (Ne.symm ne_o_b1))
  have f34 := Fld.other W25 F17 (Or.inl (Ne.symm ne_o_b1))
  exact Rn.retV K rfl d4_15 (by decide) (by decide) ⟨rfl, f27, b1, sz_b1, f29, f30, ⟨f31, g_b1, f33, ⟨_, f34⟩, Or.inl ⟨rfl, f32⟩⟩⟩
theorem d9_0 : decode jdk_38_method_9_code 0 = .ok (.aload_n 0, 1) := by decide +kernel
theorem d9_1 : decode jdk_38_method_9_code 1 = .ok (.getfield 48, 3) := by decide +kernel
theorem d9_4 : decode jdk_38_method_9_code 4 = .ok (.ifCond .ne 7, 3) := by decide +kernel
theorem d9_7 : decode jdk_38_method_9_code 7 = .ok (.iconst 1, 1) := by decide +kernel
theorem d9_8 : decode jdk_38_method_9_code 8 = .ok (.goto 4, 3) := by decide +kernel
theorem d9_11 : decode jdk_38_method_9_code 11 = .ok (.iconst 0, 1) := by decide +kernel
theorem d9_12 : decode jdk_38_method_9_code 12 = .ok (.ireturn, 1) := by decide +kernel
theorem pn_m_emp : plainName "java/util/ArrayList" = true := by first | (simp [plainName, overriddenIn]; done) | decide +kernel
set_option maxRecDepth 65536 in
set_option maxHeartbeats 40000000 in
theorem m_emp (l : Launch) (Z : State) (a0 : Array Value) (hw : ∀ d ∈ tables_1, d.before a0 Z = true) (n0 : Nat) (h0 : Heap) (b : Addr) (sz r : Int32) (F : Fld Z h0 b "java/util/ArrayList" "size" "I" (.int sz)) (hr : r = if sz = 0 then (1 : Int32) else 0) :
    Met l Z (⟨"java/util/ArrayList", "isEmpty", "()Z"⟩ : MethodName) jdk_38_method_9_code 1 (some .boolean) ({ frames := 0, cells := 0, slots := 0, locals := 0 } : Room) n0 [] #[(.ref b)] h0 (fun v h => v = some (.int r) ∧ h0 = h) := by
  refine Met.intro (Ls := #[.val (.ref b)]) (plainFor_of_name pn_m_emp) hw (fun m => by first | rfl | (simp [entryFrame, mkF, argsToLocals, Value.category]; done)) ?_
  intro w K0
  have K : Cx w Z a0 "java/util/ArrayList" jdk_38_method_9_code 1 (some .boolean) "isEmpty" := K0
  refine Rn.aloadN K (q := 1) d9_0 rfl rfl rfl ?_
  refine Rn.getF K (q := 4) (List.mem_of_getElem? (i := 86) rfl) Via.refl F d9_1 rfl ?_
  by_cases hc4 : sz = (0 : Int32)
  · refine Rn.ifN K (q := 7) d9_4 (XT.i0_ne_f hc4) rfl ?_
    refine Rn.iconst K (q := 8) (1 : Int32) d9_7 rfl rfl ?_
    refine Rn.goto K (q := 12) d9_8 (by decide) (by decide) ?_
    exact Rn.retN K .boolean rfl (by simp) d9_12 (by decide) (by decide) ⟨congrArg (fun z => some (Value.int z)) (show (1 : Int32) = r by rw [hr]; simp [hc4]), rfl⟩
  · refine Rn.ifY K (q := 11) d9_4 (XT.i0_ne_t hc4) (by decide) (by decide) ?_
    refine Rn.iconst K (q := 12) (0 : Int32) d9_11 rfl rfl ?_
    exact Rn.retN K .boolean rfl (by simp) d9_12 (by decide) (by decide) ⟨congrArg (fun z => some (Value.int z)) (show (0 : Int32) = r by rw [hr]; simp [hc4]), rfl⟩
theorem d8_0 : decode prog_29_method_4_code 0 = .ok (.aload_n 0, 1) := by decide +kernel
theorem d8_1 : decode prog_29_method_4_code 1 = .ok (.getfield 10, 3) := by decide +kernel
theorem d8_4 : decode prog_29_method_4_code 4 = .ok (.invokeinterface 26 1, 5) := by decide +kernel
theorem d8_9 : decode prog_29_method_4_code 9 = .ok (.ifCond .ne 10, 3) := by decide +kernel
theorem d8_19 : decode prog_29_method_4_code 19 = .ok (.aload_n 0, 1) := by decide +kernel
theorem d8_20 : decode prog_29_method_4_code 20 = .ok (.getfield 22, 3) := by decide +kernel
theorem d8_23 : decode prog_29_method_4_code 23 = .ok (.ifnull 10, 3) := by decide +kernel
theorem d8_33 : decode prog_29_method_4_code 33 = .ok (.getstatic 39, 3) := by decide +kernel
theorem d8_36 : decode prog_29_method_4_code 36 = .ok (.astore_n 1, 1) := by decide +kernel
theorem d8_37 : decode prog_29_method_4_code 37 = .ok (.aload_n 1, 1) := by decide +kernel
theorem d8_38 : decode prog_29_method_4_code 38 = .ok (.areturn, 1) := by decide +kernel
theorem pn_m_kindN0 : plainName "com/example/verdict/verdict/outcome/TestOutcome" = true := by first | (simp [plainName, overriddenIn]; done) | decide +kernel
set_option maxRecDepth 65536 in
set_option maxHeartbeats 40000000 in
theorem m_kindN0 (l : Launch) (Z : State) (a0 : Array Value) (hw : ∀ d ∈ tables_1, d.before a0 Z = true) (n0 : Nat) (h0 : Heap) (o lst aPASSED aSKIPPED aFAILED : Addr) (sz : Int32) (X0 : Old Z n0 h0) (SPASSED : Sta Z Z.heap "com/example/verdict/verdict/outcome/TestOutcome$Kind" "PASSED" "Lcom/example/verdict/verdict/outcome/TestOutcome$Kind;" (.ref aPASSED)) (SSKIPPED : Sta Z Z.heap "com/example/verdict/verdict/outcome/TestOutcome$Kind" "SKIPPED" "Lcom/example/verdict/verdict/outcome/TestOutcome$Kind;" (.ref aSKIPPED)) (SFAILED : Sta Z Z.heap "com/example/verdict/verdict/outcome/TestOutcome$Kind" "FAILED" "Lcom/example/verdict/verdict/outcome/TestOutcome$Kind;" (.ref aFAILED)) (F1 : Fld Z h0 o "com/example/verdict/verdict/outcome/TestOutcome" "_failures" "Ljava/util/List;" (.ref lst)) (F3 : Fld Z h0 o "com/example/verdict/verdict/outcome/TestOutcome" "_violation" "Ljava/lang/Throwable;" .null) (E2 : Exa Z h0 lst "java/util/ArrayList") (F2 : Fld Z h0 lst "java/util/ArrayList" "size" "I" (.int sz)) (hz : sz = 0) :
    Met l Z (⟨"com/example/verdict/verdict/outcome/TestOutcome", "kind", "()Lcom/example/verdict/verdict/outcome/TestOutcome$Kind;"⟩ : MethodName) prog_29_method_4_code 2 (some (.object "com/example/verdict/verdict/outcome/TestOutcome$Kind")) ({ frames := 1, cells := 0, slots := 0, locals := 12 } : Room) n0 [] #[(.ref o)] h0 (fun v h => v = some (.ref aPASSED) ∧ h0 = h) := by
  refine Met.intro (Ls := #[.val (.ref o), .unset]) (plainFor_of_name pn_m_kindN0) hw (fun m => by first | rfl | (simp [entryFrame, mkF, argsToLocals, Value.category]; done)) ?_
  intro w K0
  have K : Cx w Z a0 "com/example/verdict/verdict/outcome/TestOutcome" prog_29_method_4_code 2 (some (.object "com/example/verdict/verdict/outcome/TestOutcome$Kind")) "kind" := K0
  refine Rn.aloadN K (q := 1) d8_0 rfl rfl rfl ?_
  refine Rn.getF K (q := 4) (List.mem_of_getElem? (i := 69) rfl) Via.refl F1 d8_1 rfl ?_
  refine Rn.face K (q := 9) (W := 0) (y := (⟨"java/util/List", "isEmpty", "()Z"⟩ : MethodName)) (z := (⟨"java/util/ArrayList", "isEmpty", "()Z"⟩ : MethodName)) (b := lst) (argsL := []) (rest := []) (List.mem_of_getElem? (i := 77) rfl) (List.mem_of_getElem? (i := 78) rfl) (mvT K.z (K.hw _ (List.mem_of_getElem? (i := 79) rfl))) (List.mem_of_getElem? (i := 80) rfl) (List.mem_of_getElem? (i := 81) rfl) (List.mem_of_getElem? (i := 82) rfl) (List.mem_of_getElem? (i := 83) rfl) (List.mem_of_getElem? (i := 84) rfl) (List.mem_of_getElem? (i := 85) rfl) (List.mem_of_getElem? (i := 47) rfl) (by decide) (m_emp l Z a0 hw n0 h0 lst sz (1 : Int32) F2 (by simp [hz])) E2 (by decide) (by decide) rfl (lenOf pd_1 rfl) rfl (Nat.le_of_ble_eq_true rfl) d8_4 rfl (by decide) (by decide) ?_
  rintro _ _ ⟨rfl, rfl⟩
  show Rn w l _ n0 _ 9 #[.val (.ref o), .unset] [(.int (1 : Int32))] h0 0 0
  refine Rn.ifY K (q := 19) d8_9 (XT.i0_ne_t (by decide)) (by decide) (by decide) ?_
  refine Rn.aloadN K (q := 20) d8_19 rfl rfl rfl ?_
  refine Rn.getF K (q := 23) (List.mem_of_getElem? (i := 88) rfl) Via.refl F3 d8_20 rfl ?_
  refine Rn.nullY K (q := 33) d8_23 (by decide) (by decide) ?_
  refine Rn.getS K (q := 36) (List.mem_of_getElem? (i := 90) rfl) (SPASSED.ext X0.2) d8_33 rfl ?_
  refine Rn.astoreN K (q := 37) (Ls' := #[.val (.ref o), .val (.ref aPASSED)]) d8_36 rfl rfl rfl ?_
  refine Rn.aloadN K (q := 38) d8_37 rfl rfl rfl ?_
  exact Rn.retA K (.object "com/example/verdict/verdict/outcome/TestOutcome$Kind") rfl rfl rfl d8_38 (by decide) (by decide) ⟨rfl, rfl⟩
theorem d8_12 : decode prog_29_method_4_code 12 = .ok (.getstatic 30, 3) := by decide +kernel
theorem d8_15 : decode prog_29_method_4_code 15 = .ok (.astore_n 1, 1) := by decide +kernel
theorem d8_16 : decode prog_29_method_4_code 16 = .ok (.goto 21, 3) := by decide +kernel
theorem pn_m_kindN1 : plainName "com/example/verdict/verdict/outcome/TestOutcome" = true := by first | (simp [plainName, overriddenIn]; done) | decide +kernel
set_option maxRecDepth 65536 in
set_option maxHeartbeats 40000000 in
theorem m_kindN1 (l : Launch) (Z : State) (a0 : Array Value) (hw : ∀ d ∈ tables_1, d.before a0 Z = true) (n0 : Nat) (h0 : Heap) (o lst aPASSED aSKIPPED aFAILED : Addr) (sz : Int32) (X0 : Old Z n0 h0) (SPASSED : Sta Z Z.heap "com/example/verdict/verdict/outcome/TestOutcome$Kind" "PASSED" "Lcom/example/verdict/verdict/outcome/TestOutcome$Kind;" (.ref aPASSED)) (SSKIPPED : Sta Z Z.heap "com/example/verdict/verdict/outcome/TestOutcome$Kind" "SKIPPED" "Lcom/example/verdict/verdict/outcome/TestOutcome$Kind;" (.ref aSKIPPED)) (SFAILED : Sta Z Z.heap "com/example/verdict/verdict/outcome/TestOutcome$Kind" "FAILED" "Lcom/example/verdict/verdict/outcome/TestOutcome$Kind;" (.ref aFAILED)) (F1 : Fld Z h0 o "com/example/verdict/verdict/outcome/TestOutcome" "_failures" "Ljava/util/List;" (.ref lst)) (F3 : Fld Z h0 o "com/example/verdict/verdict/outcome/TestOutcome" "_violation" "Ljava/lang/Throwable;" .null) (E2 : Exa Z h0 lst "java/util/ArrayList") (F2 : Fld Z h0 lst "java/util/ArrayList" "size" "I" (.int sz)) (hz : ¬ sz = 0) :
    Met l Z (⟨"com/example/verdict/verdict/outcome/TestOutcome", "kind", "()Lcom/example/verdict/verdict/outcome/TestOutcome$Kind;"⟩ : MethodName) prog_29_method_4_code 2 (some (.object "com/example/verdict/verdict/outcome/TestOutcome$Kind")) ({ frames := 1, cells := 0, slots := 0, locals := 12 } : Room) n0 [] #[(.ref o)] h0 (fun v h => v = some (.ref aFAILED) ∧ h0 = h) := by
  refine Met.intro (Ls := #[.val (.ref o), .unset]) (plainFor_of_name pn_m_kindN1) hw (fun m => by first | rfl | (simp [entryFrame, mkF, argsToLocals, Value.category]; done)) ?_
  intro w K0
  have K : Cx w Z a0 "com/example/verdict/verdict/outcome/TestOutcome" prog_29_method_4_code 2 (some (.object "com/example/verdict/verdict/outcome/TestOutcome$Kind")) "kind" := K0
  refine Rn.aloadN K (q := 1) d8_0 rfl rfl rfl ?_
  refine Rn.getF K (q := 4) (List.mem_of_getElem? (i := 69) rfl) Via.refl F1 d8_1 rfl ?_
  refine Rn.face K (q := 9) (W := 0) (y := (⟨"java/util/List", "isEmpty", "()Z"⟩ : MethodName)) (z := (⟨"java/util/ArrayList", "isEmpty", "()Z"⟩ : MethodName)) (b := lst) (argsL := []) (rest := []) (List.mem_of_getElem? (i := 77) rfl) (List.mem_of_getElem? (i := 78) rfl) (mvT K.z (K.hw _ (List.mem_of_getElem? (i := 79) rfl))) (List.mem_of_getElem? (i := 80) rfl) (List.mem_of_getElem? (i := 81) rfl) (List.mem_of_getElem? (i := 82) rfl) (List.mem_of_getElem? (i := 83) rfl) (List.mem_of_getElem? (i := 84) rfl) (List.mem_of_getElem? (i := 85) rfl) (List.mem_of_getElem? (i := 47) rfl) (by decide) (m_emp l Z a0 hw n0 h0 lst sz (0 : Int32) F2 (by simp [hz])) E2 (by decide) (by decide) rfl (lenOf pd_1 rfl) rfl (Nat.le_of_ble_eq_true rfl) d8_4 rfl (by decide) (by decide) ?_
  rintro _ _ ⟨rfl, rfl⟩
  show Rn w l _ n0 _ 9 #[.val (.ref o), .unset] [(.int (0 : Int32))] h0 0 0
  refine Rn.ifN K (q := 12) d8_9 (XT.i0_ne_f rfl) rfl ?_
  refine Rn.getS K (q := 15) (List.mem_of_getElem? (i := 144) rfl) (SFAILED.ext X0.2) d8_12 rfl ?_
  refine Rn.astoreN K (q := 16) (Ls' := #[.val (.ref o), .val (.ref aFAILED)]) d8_15 rfl rfl rfl ?_
  refine Rn.goto K (q := 37) d8_16 (by decide) (by decide) ?_
  refine Rn.aloadN K (q := 38) d8_37 rfl rfl rfl ?_
  exact Rn.retA K (.object "com/example/verdict/verdict/outcome/TestOutcome$Kind") rfl rfl rfl d8_38 (by decide) (by decide) ⟨rfl, rfl⟩
theorem d8_26 : decode prog_29_method_4_code 26 = .ok (.getstatic 36, 3) := by decide +kernel
theorem d8_29 : decode prog_29_method_4_code 29 = .ok (.astore_n 1, 1) := by decide +kernel
theorem d8_30 : decode prog_29_method_4_code 30 = .ok (.goto 7, 3) := by decide +kernel
theorem pn_m_kindR0 : plainName "com/example/verdict/verdict/outcome/TestOutcome" = true := by first | (simp [plainName, overriddenIn]; done) | decide +kernel
set_option maxRecDepth 65536 in
set_option maxHeartbeats 40000000 in
theorem m_kindR0 (l : Launch) (Z : State) (a0 : Array Value) (hw : ∀ d ∈ tables_1, d.before a0 Z = true) (n0 : Nat) (h0 : Heap) (o lst x aPASSED aSKIPPED aFAILED : Addr) (sz : Int32) (X0 : Old Z n0 h0) (SPASSED : Sta Z Z.heap "com/example/verdict/verdict/outcome/TestOutcome$Kind" "PASSED" "Lcom/example/verdict/verdict/outcome/TestOutcome$Kind;" (.ref aPASSED)) (SSKIPPED : Sta Z Z.heap "com/example/verdict/verdict/outcome/TestOutcome$Kind" "SKIPPED" "Lcom/example/verdict/verdict/outcome/TestOutcome$Kind;" (.ref aSKIPPED)) (SFAILED : Sta Z Z.heap "com/example/verdict/verdict/outcome/TestOutcome$Kind" "FAILED" "Lcom/example/verdict/verdict/outcome/TestOutcome$Kind;" (.ref aFAILED)) (F1 : Fld Z h0 o "com/example/verdict/verdict/outcome/TestOutcome" "_failures" "Ljava/util/List;" (.ref lst)) (F3 : Fld Z h0 o "com/example/verdict/verdict/outcome/TestOutcome" "_violation" "Ljava/lang/Throwable;" (.ref x)) (E2 : Exa Z h0 lst "java/util/ArrayList") (F2 : Fld Z h0 lst "java/util/ArrayList" "size" "I" (.int sz)) (hz : sz = 0) :
    Met l Z (⟨"com/example/verdict/verdict/outcome/TestOutcome", "kind", "()Lcom/example/verdict/verdict/outcome/TestOutcome$Kind;"⟩ : MethodName) prog_29_method_4_code 2 (some (.object "com/example/verdict/verdict/outcome/TestOutcome$Kind")) ({ frames := 1, cells := 0, slots := 0, locals := 12 } : Room) n0 [] #[(.ref o)] h0 (fun v h => v = some (.ref aSKIPPED) ∧ h0 = h) := by
  refine Met.intro (Ls := #[.val (.ref o), .unset]) (plainFor_of_name pn_m_kindR0) hw (fun m => by first | rfl | (simp [entryFrame, mkF, argsToLocals, Value.category]; done)) ?_
  intro w K0
  have K : Cx w Z a0 "com/example/verdict/verdict/outcome/TestOutcome" prog_29_method_4_code 2 (some (.object "com/example/verdict/verdict/outcome/TestOutcome$Kind")) "kind" := K0
  refine Rn.aloadN K (q := 1) d8_0 rfl rfl rfl ?_
  refine Rn.getF K (q := 4) (List.mem_of_getElem? (i := 69) rfl) Via.refl F1 d8_1 rfl ?_
  refine Rn.face K (q := 9) (W := 0) (y := (⟨"java/util/List", "isEmpty", "()Z"⟩ : MethodName)) (z := (⟨"java/util/ArrayList", "isEmpty", "()Z"⟩ : MethodName)) (b := lst) (argsL := []) (rest := []) (List.mem_of_getElem? (i := 77) rfl) (List.mem_of_getElem? (i := 78) rfl) (mvT K.z (K.hw _ (List.mem_of_getElem? (i := 79) rfl))) (List.mem_of_getElem? (i := 80) rfl) (List.mem_of_getElem? (i := 81) rfl) (List.mem_of_getElem? (i := 82) rfl) (List.mem_of_getElem? (i := 83) rfl) (List.mem_of_getElem? (i := 84) rfl) (List.mem_of_getElem? (i := 85) rfl) (List.mem_of_getElem? (i := 47) rfl) (by decide) (m_emp l Z a0 hw n0 h0 lst sz (1 : Int32) F2 (by simp [hz])) E2 (by decide) (by decide) rfl (lenOf pd_1 rfl) rfl (Nat.le_of_ble_eq_true rfl) d8_4 rfl (by decide) (by decide) ?_
  rintro _ _ ⟨rfl, rfl⟩
  show Rn w l _ n0 _ 9 #[.val (.ref o), .unset] [(.int (1 : Int32))] h0 0 0
  refine Rn.ifY K (q := 19) d8_9 (XT.i0_ne_t (by decide)) (by decide) (by decide) ?_
  refine Rn.aloadN K (q := 20) d8_19 rfl rfl rfl ?_
  refine Rn.getF K (q := 23) (List.mem_of_getElem? (i := 88) rfl) Via.refl F3 d8_20 rfl ?_
  refine Rn.nullN K (q := 26) d8_23 rfl ?_
  refine Rn.getS K (q := 29) (List.mem_of_getElem? (i := 105) rfl) (SSKIPPED.ext X0.2) d8_26 rfl ?_
  refine Rn.astoreN K (q := 30) (Ls' := #[.val (.ref o), .val (.ref aSKIPPED)]) d8_29 rfl rfl rfl ?_
  refine Rn.goto K (q := 37) d8_30 (by decide) (by decide) ?_
  refine Rn.aloadN K (q := 38) d8_37 rfl rfl rfl ?_
  exact Rn.retA K (.object "com/example/verdict/verdict/outcome/TestOutcome$Kind") rfl rfl rfl d8_38 (by decide) (by decide) ⟨rfl, rfl⟩
theorem pn_m_kindR1 : plainName "com/example/verdict/verdict/outcome/TestOutcome" = true := by first | (simp [plainName, overriddenIn]; done) | decide +kernel
set_option maxRecDepth 65536 in
set_option maxHeartbeats 40000000 in
theorem m_kindR1 (l : Launch) (Z : State) (a0 : Array Value) (hw : ∀ d ∈ tables_1, d.before a0 Z = true) (n0 : Nat) (h0 : Heap) (o lst x aPASSED aSKIPPED aFAILED : Addr) (sz : Int32) (X0 : Old Z n0 h0) (SPASSED : Sta Z Z.heap "com/example/verdict/verdict/outcome/TestOutcome$Kind" "PASSED" "Lcom/example/verdict/verdict/outcome/TestOutcome$Kind;" (.ref aPASSED)) (SSKIPPED : Sta Z Z.heap "com/example/verdict/verdict/outcome/TestOutcome$Kind" "SKIPPED" "Lcom/example/verdict/verdict/outcome/TestOutcome$Kind;" (.ref aSKIPPED)) (SFAILED : Sta Z Z.heap "com/example/verdict/verdict/outcome/TestOutcome$Kind" "FAILED" "Lcom/example/verdict/verdict/outcome/TestOutcome$Kind;" (.ref aFAILED)) (F1 : Fld Z h0 o "com/example/verdict/verdict/outcome/TestOutcome" "_failures" "Ljava/util/List;" (.ref lst)) (F3 : Fld Z h0 o "com/example/verdict/verdict/outcome/TestOutcome" "_violation" "Ljava/lang/Throwable;" (.ref x)) (E2 : Exa Z h0 lst "java/util/ArrayList") (F2 : Fld Z h0 lst "java/util/ArrayList" "size" "I" (.int sz)) (hz : ¬ sz = 0) :
    Met l Z (⟨"com/example/verdict/verdict/outcome/TestOutcome", "kind", "()Lcom/example/verdict/verdict/outcome/TestOutcome$Kind;"⟩ : MethodName) prog_29_method_4_code 2 (some (.object "com/example/verdict/verdict/outcome/TestOutcome$Kind")) ({ frames := 1, cells := 0, slots := 0, locals := 12 } : Room) n0 [] #[(.ref o)] h0 (fun v h => v = some (.ref aFAILED) ∧ h0 = h) := by
  refine Met.intro (Ls := #[.val (.ref o), .unset]) (plainFor_of_name pn_m_kindR1) hw (fun m => by first | rfl | (simp [entryFrame, mkF, argsToLocals, Value.category]; done)) ?_
  intro w K0
  have K : Cx w Z a0 "com/example/verdict/verdict/outcome/TestOutcome" prog_29_method_4_code 2 (some (.object "com/example/verdict/verdict/outcome/TestOutcome$Kind")) "kind" := K0
  refine Rn.aloadN K (q := 1) d8_0 rfl rfl rfl ?_
  refine Rn.getF K (q := 4) (List.mem_of_getElem? (i := 69) rfl) Via.refl F1 d8_1 rfl ?_
  refine Rn.face K (q := 9) (W := 0) (y := (⟨"java/util/List", "isEmpty", "()Z"⟩ : MethodName)) (z := (⟨"java/util/ArrayList", "isEmpty", "()Z"⟩ : MethodName)) (b := lst) (argsL := []) (rest := []) (List.mem_of_getElem? (i := 77) rfl) (List.mem_of_getElem? (i := 78) rfl) (mvT K.z (K.hw _ (List.mem_of_getElem? (i := 79) rfl))) (List.mem_of_getElem? (i := 80) rfl) (List.mem_of_getElem? (i := 81) rfl) (List.mem_of_getElem? (i := 82) rfl) (List.mem_of_getElem? (i := 83) rfl) (List.mem_of_getElem? (i := 84) rfl) (List.mem_of_getElem? (i := 85) rfl) (List.mem_of_getElem? (i := 47) rfl) (by decide) (m_emp l Z a0 hw n0 h0 lst sz (0 : Int32) F2 (by simp [hz])) E2 (by decide) (by decide) rfl (lenOf pd_1 rfl) rfl (Nat.le_of_ble_eq_true rfl) d8_4 rfl (by decide) (by decide) ?_
  rintro _ _ ⟨rfl, rfl⟩
  show Rn w l _ n0 _ 9 #[.val (.ref o), .unset] [(.int (0 : Int32))] h0 0 0
  refine Rn.ifN K (q := 12) d8_9 (XT.i0_ne_f rfl) rfl ?_
  refine Rn.getS K (q := 15) (List.mem_of_getElem? (i := 144) rfl) (SFAILED.ext X0.2) d8_12 rfl ?_
  refine Rn.astoreN K (q := 16) (Ls' := #[.val (.ref o), .val (.ref aFAILED)]) d8_15 rfl rfl rfl ?_
  refine Rn.goto K (q := 37) d8_16 (by decide) (by decide) ?_
  refine Rn.aloadN K (q := 38) d8_37 rfl rfl rfl ?_
  exact Rn.retA K (.object "com/example/verdict/verdict/outcome/TestOutcome$Kind") rfl rfl rfl d8_38 (by decide) (by decide) ⟨rfl, rfl⟩
theorem d17_0 : decode jdk_29_method_65_code 0 = .ok (.iload_n 0, 1) := by decide +kernel
theorem d17_1 : decode jdk_29_method_65_code 1 = .ok (.iload_n 1, 1) := by decide +kernel
theorem d17_2 : decode jdk_29_method_65_code 2 = .ok (.if_icmp .lt 7, 3) := by decide +kernel
theorem d17_5 : decode jdk_29_method_65_code 5 = .ok (.iload_n 0, 1) := by decide +kernel
theorem d17_6 : decode jdk_29_method_65_code 6 = .ok (.goto 4, 3) := by decide +kernel
theorem d17_9 : decode jdk_29_method_65_code 9 = .ok (.iload_n 1, 1) := by decide +kernel
theorem d17_10 : decode jdk_29_method_65_code 10 = .ok (.ireturn, 1) := by decide +kernel
set_option maxRecDepth 65536 in
set_option maxHeartbeats 40000000 in
theorem m_max (l : Launch) (Z : State) (a0 : Array Value) (hw : ∀ d ∈ tables_1, d.before a0 Z = true) (n0 : Nat) (h0 : Heap) (p1 p2 r : Int32) (hr : r = if p1 < p2 then p2 else p1) :
    Met l Z (⟨"java/lang/Math", "max", "(II)I"⟩ : MethodName) jdk_29_method_65_code 2 (some .int) ({ frames := 0, cells := 0, slots := 0, locals := 0 } : Room) n0 [] #[(.int p1), (.int p2)] h0 (fun v h => v = some (.int r) ∧ h0 = h) := by
  refine Met.intro (Ls := #[.val (.int p1), .val (.int p2)]) (Jvm.Free.JP.mathPlain rfl (by decide +kernel)) hw (fun m => by first | rfl | (simp [entryFrame, mkF, argsToLocals, Value.category]; done)) ?_
  intro w K0
  have K : Cx w Z a0 "java/lang/Math" jdk_29_method_65_code 2 (some .int) "max" := K0
  refine Rn.iloadN K (q := 1) d17_0 rfl rfl ?_
  refine Rn.iloadN K (q := 2) d17_1 rfl rfl ?_
  by_cases hc2 : p1 < p2
  · refine Rn.icY K (q := 9) d17_2 (XT.ii_lt_t hc2) (by decide) (by decide) ?_
    refine Rn.iloadN K (q := 10) d17_9 rfl rfl ?_
    exact Rn.retI K rfl d17_10 (by decide) (by decide) ⟨congrArg (fun z => some (Value.int z)) (by rw [hr]; simp [hc2]), rfl⟩
  · refine Rn.icN K (q := 5) d17_2 (XT.ii_lt_f hc2) rfl ?_
    refine Rn.iloadN K (q := 6) d17_5 rfl rfl ?_
    refine Rn.goto K (q := 10) d17_6 (by decide) (by decide) ?_
    exact Rn.retI K rfl d17_10 (by decide) (by decide) ⟨congrArg (fun z => some (Value.int z)) (by rw [hr]; simp [hc2]), rfl⟩
theorem d16_0 : decode jdk_38_method_6_code 0 = .ok (.aload_n 0, 1) := by decide +kernel
theorem d16_1 : decode jdk_38_method_6_code 1 = .ok (.getfield 9, 3) := by decide +kernel
theorem d16_4 : decode jdk_38_method_6_code 4 = .ok (.arraylength, 1) := by decide +kernel
theorem d16_5 : decode jdk_38_method_6_code 5 = .ok (.istore_n 2, 1) := by decide +kernel
theorem d16_6 : decode jdk_38_method_6_code 6 = .ok (.iload_n 2, 1) := by decide +kernel
theorem d16_7 : decode jdk_38_method_6_code 7 = .ok (.ifCond .gt 13, 3) := by decide +kernel
theorem d16_10 : decode jdk_38_method_6_code 10 = .ok (.aload_n 0, 1) := by decide +kernel
theorem d16_11 : decode jdk_38_method_6_code 11 = .ok (.getfield 9, 3) := by decide +kernel
theorem d16_14 : decode jdk_38_method_6_code 14 = .ok (.getstatic 39, 3) := by decide +kernel
theorem d16_17 : decode jdk_38_method_6_code 17 = .ok (.if_acmp .eq 28, 3) := by decide +kernel
theorem d16_45 : decode jdk_38_method_6_code 45 = .ok (.aload_n 0, 1) := by decide +kernel
theorem d16_46 : decode jdk_38_method_6_code 46 = .ok (.bipush 10, 2) := by decide +kernel
theorem d16_48 : decode jdk_38_method_6_code 48 = .ok (.iload_n 1, 1) := by decide +kernel
theorem d16_49 : decode jdk_38_method_6_code 49 = .ok (.invokestatic 79, 3) := by decide +kernel
theorem d16_52 : decode jdk_38_method_6_code 52 = .ok (.anewarray 7, 3) := by decide +kernel
theorem d16_55 : decode jdk_38_method_6_code 55 = .ok (.dup_x1, 1) := by decide +kernel
theorem d16_56 : decode jdk_38_method_6_code 56 = .ok (.putfield 9, 3) := by decide +kernel
theorem d16_59 : decode jdk_38_method_6_code 59 = .ok (.areturn, 1) := by decide +kernel
theorem pn_m_grow1 : plainName "java/util/ArrayList" = true := by first | (simp [plainName, overriddenIn]; done) | decide +kernel
set_option maxRecDepth 65536 in
set_option maxHeartbeats 40000000 in
theorem m_grow1 (l : Launch) (Z : State) (a0 : Array Value) (hw : ∀ d ∈ tables_1, d.before a0 Z = true) (n0 : Nat) (h0 : Heap) (b dc : Addr) (kd : ClassId) (m : Int32) (X0 : Old Z n0 h0) (E : Exa Z h0 b "java/util/ArrayList") (g : n0 ≤ b) (FelementData : Fld Z h0 b "java/util/ArrayList" "elementData" "[Ljava/lang/Object;" (.ref dc)) (Fsize : Fld Z h0 b "java/util/ArrayList" "size" "I" (.int (0 : Int32))) (FmodCount : Fld Z h0 b "java/util/AbstractList" "modCount" "I" (.int m)) (SD : Sta Z Z.heap "java/util/ArrayList" "DEFAULTCAPACITY_EMPTY_ELEMENTDATA" "[Ljava/lang/Object;" (.ref dc)) (AD : Arv Z h0 dc kd (.object "java/lang/Object") (0 : Int32) [] .null) (ED : Exa Z h0 dc "[Ljava/lang/Object;") :
    Met l Z (⟨"java/util/ArrayList", "grow", "(I)[Ljava/lang/Object;"⟩ : MethodName) jdk_38_method_6_code 4 (some (.array (.object "java/lang/Object"))) ({ frames := 1, cells := 1, slots := 10, locals := 20 } : Room) n0 [] #[(.ref b), (.int (1 : Int32))] h0 (fun v h => ∃ (ed : Addr) (k : ClassId), v = some (.ref ed) ∧ n0 ≤ ed ∧ h0.size ≤ ed ∧ Keep h0 h [b] ∧ Exa Z h ed "[Ljava/lang/Object;" ∧ Arv Z h ed k (.object "java/lang/Object") (10 : Int32) [.null, .null, .null, .null, .null, .null, .null, .null, .null, .null] .null ∧ Ovr Z k "java/lang/Object" ∧ Fld Z h b "java/util/ArrayList" "elementData" "[Ljava/lang/Object;" (.ref ed) ∧ Fld Z h b "java/util/ArrayList" "size" "I" (.int (0 : Int32)) ∧ Fld Z h b "java/util/AbstractList" "modCount" "I" (.int m)) := by
  refine Met.intro (Ls := #[.val (.ref b), .val (.int (1 : Int32)), .unset, .unset]) (plainFor_of_name pn_m_grow1) hw (fun m => by first | rfl | (simp [entryFrame, mkF, argsToLocals, Value.category]; done)) ?_
  intro w K0
  have K : Cx w Z a0 "java/util/ArrayList" jdk_38_method_6_code 4 (some (.array (.object "java/lang/Object"))) "grow" := K0
  have K1 := Keep.refl h0 [b]
  refine Rn.aloadN K (q := 1) d16_0 rfl rfl rfl ?_
  refine Rn.getF K (q := 4) (List.mem_of_getElem? (i := 67) rfl) Via.refl FelementData d16_1 rfl ?_
  refine Rn.arraylength K (q := 5) AD d16_4 rfl ?_
  refine Rn.istoreN K (q := 6) (Ls' := #[.val (.ref b), .val (.int (1 : Int32)), .val (.int (0 : Int32)), .unset]) d16_5 rfl rfl ?_
  refine Rn.iloadN K (q := 7) d16_6 rfl rfl ?_
  refine Rn.ifN K (q := 10) d16_7 (XT.i0_gt_f (by decide)) rfl ?_
  refine Rn.aloadN K (q := 11) d16_10 rfl rfl rfl ?_
  refine Rn.getF K (q := 14) (List.mem_of_getElem? (i := 67) rfl) Via.refl FelementData d16_11 rfl ?_
  refine Rn.getS K (q := 17) (List.mem_of_getElem? (i := 66) rfl) (SD.ext X0.2) d16_14 rfl ?_
  refine Rn.acY K (q := 45) d16_17 rfl rfl (XT.aa_eq_t rfl) (by decide) (by decide) ?_
  refine Rn.aloadN K (q := 46) d16_45 rfl rfl rfl ?_
  refine Rn.bipush K (q := 48) (10 : Int32) d16_46 rfl rfl ?_
  refine Rn.iloadN K (q := 49) d16_48 rfl rfl ?_
  refine Rn.stat K (q := 52) (W := 1) (y := (⟨"java/lang/Math", "max", "(II)I"⟩ : MethodName)) (argsL := [(.int (10 : Int32)), (.int (1 : Int32))]) (rest := [(.ref b)]) (List.mem_of_getElem? (i := 136) rfl) (List.mem_of_getElem? (i := 137) rfl) (List.mem_of_getElem? (i := 139) rfl) (List.mem_of_getElem? (i := 138) rfl) (by decide) (m_max l Z a0 hw n0 h0 (10 : Int32) (1 : Int32) (10 : Int32) (by decide)) (by decide) (by decide) rfl (lenOf pd_2 rfl) rfl (Nat.le_of_ble_eq_true rfl) d16_49 rfl (by decide) (by decide) ?_
  rintro _ _ ⟨rfl, rfl⟩
  show Rn w l _ n0 _ 52 #[.val (.ref b), .val (.int (1 : Int32)), .val (.int (0 : Int32)), .unset] [(.int (10 : Int32)), (.ref b)] h0 0 0
  refine Rn.newR K (q := 55) (cap := 10) (List.mem_of_getElem? (i := 140) rfl) (List.mem_of_getElem? (i := 21) rfl) (by decide) (by decide) (by decide) (by decide) (by decide) (ad := "[Ljava/lang/Object;") (by decide) d16_52 rfl ?_
  intro b1 h2 k4 gb1_ X3 A_b1 EA_b1 O_b1
  have ne_b_b1 : b ≠ b1 := fun e => absurd E.lt (by rw [e, gb1_]; exact Nat.lt_irrefl _)
  have ne_dc_b1 : dc ≠ b1 := fun e => absurd ED.lt (by rw [e, gb1_]; exact Nat.lt_irrefl _)
  have ne_dc_b1 : dc ≠ b1 := fun e => absurd ED.lt (by rw [e, gb1_]; exact Nat.lt_irrefl _)
  have g_b1 : n0 ≤ b1 := by rw [gb1_]; exact X0.1 ▸ X0.2.1
  have sz_b1 : h0.size ≤ b1 := by rw [gb1_]; exact K1.1
  have f5 := X0.ext X3
  have f6 := K1.ext X3
  have f7 := E.ext X3
  have f8 := FelementData.ext X3
  have f9 := Fsize.ext X3
  have f10 := FmodCount.ext X3
  have f11 := AD.ext X3
  have f12 := ED.ext X3
  replace A_b1 : Arv Z h2 b1 k4 (.object "java/lang/Object") (10 : Int32) [.null, .null, .null, .null, .null, .null, .null, .null, .null, .null] .null := A_b1.pad (pad_rep [] .null 10)
  show Rn w l _ n0 _ 55 #[.val (.ref b), .val (.int (1 : Int32)), .val (.int (0 : Int32)), .unset] [(.ref b1), (.ref b)] h2 1 10
  refine Rn.dup_x1 K (q := 56) d16_55 rfl rfl rfl ?_
  refine Rn.putF K (q := 59) (ty := (.array (.object "java/lang/Object"))) (List.mem_of_getElem? (i := 67) rfl) Via.refl f8 f7 (Or.inl (List.mem_of_getElem? (i := 68) rfl)) (List.mem_of_getElem? (i := 46) rfl) (by decide) rfl rfl g d16_56 rfl ?_
  intro h13 W14
  have f15 := f5.wr W14 g
  have f16 := f6.wr W14 (Or.inl (List.mem_of_getElem? (i := 0) rfl))
  have f17 := f7.wr W14
  have f18 := Fld.same W14 f8
  have f19 := Fld.other W14 f9 (Or.inr (slot_ne (Or.inl (K.hw _ (List.mem_of_getElem? (i := 87) rfl))) (Or.inl (K.hw _ (List.mem_of_getElem? (i := 68) rfl))) (by decide) (t := .int) (t' := (.array (.object "java/lang/Object"))) (by decide) (by decide)))
  have f20 := Fld.other W14 f10 (Or.inr (slot_ne (Or.inl (K.hw _ (List.mem_of_getElem? (i := 65) rfl))) (Or.inl (K.hw _ (List.mem_of_getElem? (i := 68) rfl))) (by decide) (t := .int) (t' := (.array (.object "java/lang/Object"))) (by decide) (by decide)))
  have f21 := f11.other W14 (ne_exa f12 f7 (by decide))
  have f22 := f12.wr W14
  have f23 := A_b1.other W14 (Ne.symm ne_b_b1)
  have f24 := EA_b1.wr W14
  exact Rn.retA K (.array (.object "java/lang/Object")) rfl rfl rfl d16_59 (by decide) (by decide) ⟨b1, _, rfl, g_b1, sz_b1, f16, f24, f23, O_b1, f18, f19, f20⟩
theorem d15_0 : decode jdk_38_method_7_code 0 = .ok (.aload_n 0, 1) := by decide +kernel
theorem d15_1 : decode jdk_38_method_7_code 1 = .ok (.aload_n 0, 1) := by decide +kernel
theorem d15_2 : decode jdk_38_method_7_code 2 = .ok (.getfield 48, 3) := by decide +kernel
theorem d15_5 : decode jdk_38_method_7_code 5 = .ok (.iconst 1, 1) := by decide +kernel
theorem d15_6 : decode jdk_38_method_7_code 6 = .ok (.iadd, 1) := by decide +kernel
theorem d15_7 : decode jdk_38_method_7_code 7 = .ok (.invokevirtual 69, 3) := by decide +kernel
theorem d15_10 : decode jdk_38_method_7_code 10 = .ok (.areturn, 1) := by decide +kernel
theorem pn_m_grow0 : plainName "java/util/ArrayList" = true := by first | (simp [plainName, overriddenIn]; done) | decide +kernel
set_option maxRecDepth 65536 in
set_option maxHeartbeats 40000000 in
theorem m_grow0 (l : Launch) (Z : State) (a0 : Array Value) (hw : ∀ d ∈ tables_1, d.before a0 Z = true) (n0 : Nat) (h0 : Heap) (b dc : Addr) (kd : ClassId) (m : Int32) (X0 : Old Z n0 h0) (E : Exa Z h0 b "java/util/ArrayList") (g : n0 ≤ b) (FelementData : Fld Z h0 b "java/util/ArrayList" "elementData" "[Ljava/lang/Object;" (.ref dc)) (Fsize : Fld Z h0 b "java/util/ArrayList" "size" "I" (.int (0 : Int32))) (FmodCount : Fld Z h0 b "java/util/AbstractList" "modCount" "I" (.int m)) (SD : Sta Z Z.heap "java/util/ArrayList" "DEFAULTCAPACITY_EMPTY_ELEMENTDATA" "[Ljava/lang/Object;" (.ref dc)) (AD : Arv Z h0 dc kd (.object "java/lang/Object") (0 : Int32) [] .null) (ED : Exa Z h0 dc "[Ljava/lang/Object;") :
    Met l Z (⟨"java/util/ArrayList", "grow", "()[Ljava/lang/Object;"⟩ : MethodName) jdk_38_method_7_code 1 (some (.array (.object "java/lang/Object"))) ({ frames := 2, cells := 1, slots := 10, locals := 40 } : Room) n0 [] #[(.ref b)] h0 (fun v h => ∃ (ed : Addr) (k : ClassId), v = some (.ref ed) ∧ n0 ≤ ed ∧ h0.size ≤ ed ∧ Keep h0 h [b] ∧ Exa Z h ed "[Ljava/lang/Object;" ∧ Arv Z h ed k (.object "java/lang/Object") (10 : Int32) [.null, .null, .null, .null, .null, .null, .null, .null, .null, .null] .null ∧ Ovr Z k "java/lang/Object" ∧ Fld Z h b "java/util/ArrayList" "elementData" "[Ljava/lang/Object;" (.ref ed) ∧ Fld Z h b "java/util/ArrayList" "size" "I" (.int (0 : Int32)) ∧ Fld Z h b "java/util/AbstractList" "modCount" "I" (.int m)) := by
  refine Met.intro (Ls := #[.val (.ref b)]) (plainFor_of_name pn_m_grow0) hw (fun m => by first | rfl | (simp [entryFrame, mkF, argsToLocals, Value.category]; done)) ?_
  intro w K0
  have K : Cx w Z a0 "java/util/ArrayList" jdk_38_method_7_code 1 (some (.array (.object "java/lang/Object"))) "grow" := K0
  refine Rn.aloadN K (q := 1) d15_0 rfl rfl rfl ?_
  refine Rn.aloadN K (q := 2) d15_1 rfl rfl rfl ?_
  refine Rn.getF K (q := 5) (List.mem_of_getElem? (i := 86) rfl) Via.refl Fsize d15_2 rfl ?_
  refine Rn.iconst K (q := 6) (1 : Int32) d15_5 rfl rfl ?_
  refine Rn.iadd K (q := 7) d15_6 rfl ?_
  rw [show (0 : Int32) + (1 : Int32) = (1 : Int32) from by decide]
  refine Rn.priv K (q := 10) (W := 0) (y := (⟨"java/util/ArrayList", "grow", "(I)[Ljava/lang/Object;"⟩ : MethodName)) (b := b) (argsL := [(.int (1 : Int32))]) (rest := []) (List.mem_of_getElem? (i := 131) rfl) (List.mem_of_getElem? (i := 132) rfl) (List.mem_of_getElem? (i := 134) rfl) (List.mem_of_getElem? (i := 133) rfl) (List.mem_of_getElem? (i := 135) rfl) (List.mem_of_getElem? (i := 47) rfl) (by decide) (m_grow1 l Z a0 hw n0 h0 b dc kd m X0 E g FelementData Fsize FmodCount SD AD ED) E (by decide) (by decide) rfl (lenOf pd_3 rfl) rfl (Nat.le_of_ble_eq_true rfl) d15_7 rfl (by decide) (by decide) ?_
  rintro _ h1 ⟨ed, ke, rfl, ge, se, K1, Ee, Ae, Oe, Fe1, Fe2, Fe3⟩
  show Rn w l _ n0 _ 10 #[.val (.ref b)] [(.ref ed)] h1 1 10
  exact Rn.retA K (.array (.object "java/lang/Object")) rfl rfl rfl d15_10 (by decide) (by decide) ⟨ed, ke, rfl, ge, se, K1, Ee, Ae, Oe, Fe1, Fe2, Fe3⟩
theorem d14_0 : decode jdk_38_method_24_code 0 = .ok (.iload_n 3, 1) := by decide +kernel
theorem d14_1 : decode jdk_38_method_24_code 1 = .ok (.aload_n 2, 1) := by decide +kernel
theorem d14_2 : decode jdk_38_method_24_code 2 = .ok (.arraylength, 1) := by decide +kernel
theorem d14_3 : decode jdk_38_method_24_code 3 = .ok (.if_icmp .ne 8, 3) := by decide +kernel
theorem d14_6 : decode jdk_38_method_24_code 6 = .ok (.aload_n 0, 1) := by decide +kernel
theorem d14_7 : decode jdk_38_method_24_code 7 = .ok (.invokevirtual 129, 3) := by decide +kernel
theorem d14_10 : decode jdk_38_method_24_code 10 = .ok (.astore_n 2, 1) := by decide +kernel
theorem d14_11 : decode jdk_38_method_24_code 11 = .ok (.aload_n 2, 1) := by decide +kernel
theorem d14_12 : decode jdk_38_method_24_code 12 = .ok (.iload_n 3, 1) := by decide +kernel
theorem d14_13 : decode jdk_38_method_24_code 13 = .ok (.aload_n 1, 1) := by decide +kernel
theorem d14_14 : decode jdk_38_method_24_code 14 = .ok (.aastore, 1) := by decide +kernel
theorem d14_15 : decode jdk_38_method_24_code 15 = .ok (.aload_n 0, 1) := by decide +kernel
theorem d14_16 : decode jdk_38_method_24_code 16 = .ok (.iload_n 3, 1) := by decide +kernel
theorem d14_17 : decode jdk_38_method_24_code 17 = .ok (.iconst 1, 1) := by decide +kernel
theorem d14_18 : decode jdk_38_method_24_code 18 = .ok (.iadd, 1) := by decide +kernel
theorem d14_19 : decode jdk_38_method_24_code 19 = .ok (.putfield 48, 3) := by decide +kernel
theorem d14_22 : decode jdk_38_method_24_code 22 = .ok (.return_, 1) := by decide +kernel
theorem pn_m_add3A : plainName "java/util/ArrayList" = true := by first | (simp [plainName, overriddenIn]; done) | decide +kernel
set_option maxRecDepth 65536 in
set_option maxHeartbeats 40000000 in
theorem m_add3A (l : Launch) (Z : State) (a0 : Array Value) (hw : ∀ d ∈ tables_1, d.before a0 Z = true) (n0 : Nat) (h0 : Heap) (b dc : Addr) (e : Value) (kd : ClassId) (m : Int32) (X0 : Old Z n0 h0) (E : Exa Z h0 b "java/util/ArrayList") (g : n0 ≤ b) (FelementData : Fld Z h0 b "java/util/ArrayList" "elementData" "[Ljava/lang/Object;" (.ref dc)) (Fsize : Fld Z h0 b "java/util/ArrayList" "size" "I" (.int (0 : Int32))) (FmodCount : Fld Z h0 b "java/util/AbstractList" "modCount" "I" (.int m)) (SD : Sta Z Z.heap "java/util/ArrayList" "DEFAULTCAPACITY_EMPTY_ELEMENTDATA" "[Ljava/lang/Object;" (.ref dc)) (AD : Arv Z h0 dc kd (.object "java/lang/Object") (0 : Int32) [] .null) (ED : Exa Z h0 dc "[Ljava/lang/Object;") (AG : Arg Z h0 e) :
    Met l Z (⟨"java/util/ArrayList", "add", "(Ljava/lang/Object;[Ljava/lang/Object;I)V"⟩ : MethodName) jdk_38_method_24_code 4 none ({ frames := 3, cells := 1, slots := 10, locals := 60 } : Room) n0 [] #[(.ref b), e, (.ref dc), (.int (0 : Int32))] h0 (fun v h => v = none ∧ KeepC Z h0 h n0 ["java/util/ArrayList", "[Ljava/lang/Object;"] ∧ ALs Z h n0 dc b (0 + 1)) := by
  have he := AG.isr
  refine Met.intro (Ls := #[.val (.ref b), .val e, .val (.ref dc), .val (.int (0 : Int32))]) (plainFor_of_name pn_m_add3A) hw (fun m => by (rcases XT.refc he with qe | ⟨_, qe⟩ <;> rw [qe]) <;> rfl) ?_
  intro w K0
  have K : Cx w Z a0 "java/util/ArrayList" jdk_38_method_24_code 4 none "add" := K0
  have K1 := Keep.refl h0 [b]
  refine Rn.iloadN K (q := 1) d14_0 rfl rfl ?_
  refine Rn.aloadN K (q := 2) d14_1 rfl rfl rfl ?_
  refine Rn.arraylength K (q := 3) AD d14_2 rfl ?_
  refine Rn.icN K (q := 6) d14_3 (XT.ii_ne_f rfl) rfl ?_
  refine Rn.aloadN K (q := 7) d14_6 rfl rfl rfl ?_
  refine Rn.priv K (q := 10) (W := 0) (y := (⟨"java/util/ArrayList", "grow", "()[Ljava/lang/Object;"⟩ : MethodName)) (b := b) (argsL := []) (rest := []) (List.mem_of_getElem? (i := 126) rfl) (List.mem_of_getElem? (i := 127) rfl) (List.mem_of_getElem? (i := 129) rfl) (List.mem_of_getElem? (i := 128) rfl) (List.mem_of_getElem? (i := 130) rfl) (List.mem_of_getElem? (i := 47) rfl) (by decide) (m_grow0 l Z a0 hw n0 h0 b dc kd m X0 E g FelementData Fsize FmodCount SD AD ED) E (by decide) (by decide) rfl (lenOf pd_4 rfl) rfl (Nat.le_of_ble_eq_true rfl) d14_7 rfl (by decide) (by decide) ?_
  rintro _ hg ⟨ed, ke, rfl, ge, se, Kg, Ee, Ae, Oe, Fe1, Fe2, Fe3⟩
  have f1 := X0.keep Kg (allS g all0)
  have f2 := K1.trans Kg (allS (Or.inl (List.mem_of_getElem? (i := 0) rfl)) all0)
  have f3 := E.keep Kg
  have f4 := Arg.keep AG Kg
  show Rn w l _ n0 _ 10 #[.val (.ref b), .val e, .val (.ref dc), .val (.int (0 : Int32))] [(.ref ed)] hg 1 10
  refine Rn.astoreN K (q := 11) (Ls' := #[.val (.ref b), .val e, .val (.ref ed), .val (.int (0 : Int32))]) d14_10 rfl rfl rfl ?_
  refine Rn.aloadN K (q := 12) d14_11 rfl rfl rfl ?_
  refine Rn.iloadN K (q := 13) d14_12 rfl rfl ?_
  refine Rn.aloadN K (q := 14) d14_13 rfl he rfl ?_
  refine Rn.aastore K (q := 15) (i := 0) Ae rfl (fun c a1 a2 => Arg.sto f4 (K.hw _ (List.mem_of_getElem? (i := 141) rfl)) a1 a2 Oe) (Arg.fit f4) (by decide) rfl (Nat.le_of_ble_eq_true rfl) ge d14_14 rfl ?_
  intro h5 W6 A7
  have f8 := f1.wr W6 ge
  have f9 := f2.wr W6 (Or.inr se)
  have f10 := f3.wr W6
  have f11 := Arg.wr f4 W6
  have f12 := Fld.other W6 Fe1 (Or.inl (ne_exa f3 Ee (by decide)))
  have f13 := Fld.other W6 Fe2 (Or.inl (ne_exa f3 Ee (by decide)))
  have f14 := Fld.other W6 Fe3 (Or.inl (ne_exa f3 Ee (by decide)))
  have f15 := Ee.wr W6
  refine Rn.aloadN K (q := 16) d14_15 rfl rfl rfl ?_
  refine Rn.iloadN K (q := 17) d14_16 rfl rfl ?_
  refine Rn.iconst K (q := 18) (1 : Int32) d14_17 rfl rfl ?_
  refine Rn.iadd K (q := 19) d14_18 rfl ?_
  rw [show (0 : Int32) + (1 : Int32) = Int32.ofNat (0 + 1) from rfl]
  refine Rn.putF K (q := 22) (ty := .int) (List.mem_of_getElem? (i := 86) rfl) Via.refl f13 f10 (Or.inl (List.mem_of_getElem? (i := 87) rfl)) (List.mem_of_getElem? (i := 46) rfl) (by decide) rfl rfl g d14_19 rfl ?_
  intro h16 W17
  have f18 := f8.wr W17 g
  have f19 := f9.wr W17 (Or.inl (List.mem_of_getElem? (i := 0) rfl))
  have f20 := f10.wr W17
  have f21 := Arg.wr f11 W17
  have f22 := Fld.other W17 f12 (Or.inr (slot_ne (Or.inl (K.hw _ (List.mem_of_getElem? (i := 68) rfl))) (Or.inl (K.hw _ (List.mem_of_getElem? (i := 87) rfl))) (by decide) (t := (.array (.object "java/lang/Object"))) (t' := .int) (by decide) (by decide)))
  have f23 := Fld.same W17 f13
  have f24 := Fld.other W17 f14 (Or.inr (slot_ne (Or.inl (K.hw _ (List.mem_of_getElem? (i := 65) rfl))) (Or.inl (K.hw _ (List.mem_of_getElem? (i := 87) rfl))) (by decide) (t := .int) (t' := .int) (by decide) (by decide)))
  have f25 := A7.other W17 (ne_exa f15 f10 (by decide))
  have f26 := f15.wr W17
  exact Rn.retV K rfl d14_22 (by decide) (by decide) ⟨rfl, ⟨_, f19, allS g all0, fun y C q hC => ninS (ne_exa q E (fun e => hC (by simp [e]))) nin0⟩, f20, g, f23, ⟨_, f24⟩, Or.inr ⟨by omega, ed, ke, _, f22, ge, f26, f25, by simp, Oe⟩⟩
theorem pn_m_add3B : plainName "java/util/ArrayList" = true := by first | (simp [plainName, overriddenIn]; done) | decide +kernel
set_option maxRecDepth 65536 in
set_option maxHeartbeats 40000000 in
theorem m_add3B (l : Launch) (Z : State) (a0 : Array Value) (hw : ∀ d ∈ tables_1, d.before a0 Z = true) (n0 : Nat) (h0 : Heap) (b dc ed : Addr) (e : Value) (ke : ClassId) (us : List Value) (m : Int32) (n : Nat) (X0 : Old Z n0 h0) (E : Exa Z h0 b "java/util/ArrayList") (g : n0 ≤ b) (FelementData : Fld Z h0 b "java/util/ArrayList" "elementData" "[Ljava/lang/Object;" (.ref ed)) (Fsize : Fld Z h0 b "java/util/ArrayList" "size" "I" (.int (Int32.ofNat n))) (FmodCount : Fld Z h0 b "java/util/AbstractList" "modCount" "I" (.int m)) (Ae : Arv Z h0 ed ke (.object "java/lang/Object") (10 : Int32) us .null) (hul : us.length = 10) (Ee : Exa Z h0 ed "[Ljava/lang/Object;") (ge : n0 ≤ ed) (Oe : Ovr Z ke "java/lang/Object") (hn : 0 < n) (hn9 : n < 10) (AG : Arg Z h0 e) :
    Met l Z (⟨"java/util/ArrayList", "add", "(Ljava/lang/Object;[Ljava/lang/Object;I)V"⟩ : MethodName) jdk_38_method_24_code 4 none ({ frames := 0, cells := 0, slots := 0, locals := 0 } : Room) n0 [] #[(.ref b), e, (.ref ed), (.int (Int32.ofNat n))] h0 (fun v h => v = none ∧ KeepC Z h0 h n0 ["java/util/ArrayList", "[Ljava/lang/Object;"] ∧ ALs Z h n0 dc b (n + 1)) := by
  have he := AG.isr
  refine Met.intro (Ls := #[.val (.ref b), .val e, .val (.ref ed), .val (.int (Int32.ofNat n))]) (plainFor_of_name pn_m_add3B) hw (fun m => by (rcases XT.refc he with qe | ⟨_, qe⟩ <;> rw [qe]) <;> rfl) ?_
  intro w K0
  have K : Cx w Z a0 "java/util/ArrayList" jdk_38_method_24_code 4 none "add" := K0
  have K1 := Keep.refl h0 [b, ed]
  refine Rn.iloadN K (q := 1) d14_0 rfl rfl ?_
  refine Rn.aloadN K (q := 2) d14_1 rfl rfl rfl ?_
  refine Rn.arraylength K (q := 3) Ae d14_2 rfl ?_
  refine Rn.icY K (q := 11) d14_3 (XT.ii_ne_t (own_neq (b := 10) (by omega) (by omega) (by omega))) (by decide) (by decide) ?_
  refine Rn.aloadN K (q := 12) d14_11 rfl rfl rfl ?_
  refine Rn.iloadN K (q := 13) d14_12 rfl rfl ?_
  refine Rn.aloadN K (q := 14) d14_13 rfl he rfl ?_
  refine Rn.aastore K (q := 15) (i := n) Ae rfl (fun c a1 a2 => Arg.sto AG (K.hw _ (List.mem_of_getElem? (i := 141) rfl)) a1 a2 Oe) (Arg.fit AG) (own_in (b := 10) (by omega) (by omega)) (own_cl (by omega)) (by omega) ge d14_14 rfl ?_
  intro h1 W2 A3
  have f4 := X0.wr W2 ge
  have f5 := K1.wr W2 (Or.inl (List.mem_of_getElem? (i := 1) rfl))
  have f6 := E.wr W2
  have f7 := Fld.other W2 FelementData (Or.inl (ne_exa E Ee (by decide)))
  have f8 := Fld.other W2 Fsize (Or.inl (ne_exa E Ee (by decide)))
  have f9 := Fld.other W2 FmodCount (Or.inl (ne_exa E Ee (by decide)))
  have f10 := Ee.wr W2
  have f11 := Arg.wr AG W2
  refine Rn.aloadN K (q := 16) d14_15 rfl rfl rfl ?_
  refine Rn.iloadN K (q := 17) d14_16 rfl rfl ?_
  refine Rn.iconst K (q := 18) (1 : Int32) d14_17 rfl rfl ?_
  refine Rn.iadd K (q := 19) d14_18 rfl ?_
  rw [show (Int32.ofNat n) + (1 : Int32) = Int32.ofNat (n + 1) from own_add (b := 1) (by omega)]
  refine Rn.putF K (q := 22) (ty := .int) (List.mem_of_getElem? (i := 86) rfl) Via.refl f8 f6 (Or.inl (List.mem_of_getElem? (i := 87) rfl)) (List.mem_of_getElem? (i := 46) rfl) (by decide) rfl rfl g d14_19 rfl ?_
  intro h12 W13
  have f14 := f4.wr W13 g
  have f15 := f5.wr W13 (Or.inl (List.mem_of_getElem? (i := 0) rfl))
  have f16 := f6.wr W13
  have f17 := Fld.other W13 f7 (Or.inr (slot_ne (Or.inl (K.hw _ (List.mem_of_getElem? (i := 68) rfl))) (Or.inl (K.hw _ (List.mem_of_getElem? (i := 87) rfl))) (by decide) (t := (.array (.object "java/lang/Object"))) (t' := .int) (by decide) (by decide)))
  have f18 := Fld.same W13 f8
  have f19 := Fld.other W13 f9 (Or.inr (slot_ne (Or.inl (K.hw _ (List.mem_of_getElem? (i := 65) rfl))) (Or.inl (K.hw _ (List.mem_of_getElem? (i := 87) rfl))) (by decide) (t := .int) (t' := .int) (by decide) (by decide)))
  have f20 := A3.other W13 (ne_exa f10 f6 (by decide))
  have f21 := f10.wr W13
  have f22 := Arg.wr f11 W13
  exact Rn.retV K rfl d14_22 (by decide) (by decide) ⟨rfl, ⟨_, f15, allS g (allS ge all0), fun y C q hC => ninS (ne_exa q E (fun e => hC (by simp [e]))) (ninS (ne_exa q Ee (fun e => hC (by simp [e]))) nin0)⟩, f16, g, f18, ⟨_, f19⟩, Or.inr ⟨by omega, ed, ke, _, f17, ge, f21, f20, by rw [List.length_set]; exact hul, Oe⟩⟩
theorem d13_0 : decode jdk_38_method_25_code 0 = .ok (.aload_n 0, 1) := by decide +kernel
theorem d13_1 : decode jdk_38_method_25_code 1 = .ok (.dup, 1) := by decide +kernel
theorem d13_2 : decode jdk_38_method_25_code 2 = .ok (.getfield 63, 3) := by decide +kernel
theorem d13_5 : decode jdk_38_method_25_code 5 = .ok (.iconst 1, 1) := by decide +kernel
theorem d13_6 : decode jdk_38_method_25_code 6 = .ok (.iadd, 1) := by decide +kernel
theorem d13_7 : decode jdk_38_method_25_code 7 = .ok (.putfield 63, 3) := by decide +kernel
theorem d13_10 : decode jdk_38_method_25_code 10 = .ok (.aload_n 0, 1) := by decide +kernel
theorem d13_11 : decode jdk_38_method_25_code 11 = .ok (.aload_n 1, 1) := by decide +kernel
theorem d13_12 : decode jdk_38_method_25_code 12 = .ok (.aload_n 0, 1) := by decide +kernel
theorem d13_13 : decode jdk_38_method_25_code 13 = .ok (.getfield 9, 3) := by decide +kernel
theorem d13_16 : decode jdk_38_method_25_code 16 = .ok (.aload_n 0, 1) := by decide +kernel
theorem d13_17 : decode jdk_38_method_25_code 17 = .ok (.getfield 48, 3) := by decide +kernel
theorem d13_20 : decode jdk_38_method_25_code 20 = .ok (.invokevirtual 131, 3) := by decide +kernel
theorem d13_23 : decode jdk_38_method_25_code 23 = .ok (.iconst 1, 1) := by decide +kernel
theorem d13_24 : decode jdk_38_method_25_code 24 = .ok (.ireturn, 1) := by decide +kernel
theorem pn_m_addA : plainName "java/util/ArrayList" = true := by first | (simp [plainName, overriddenIn]; done) | decide +kernel
set_option maxRecDepth 65536 in
set_option maxHeartbeats 40000000 in
theorem m_addA (l : Launch) (Z : State) (a0 : Array Value) (hw : ∀ d ∈ tables_1, d.before a0 Z = true) (n0 : Nat) (h0 : Heap) (b dc : Addr) (e : Value) (kd : ClassId) (m : Int32) (X0 : Old Z n0 h0) (E : Exa Z h0 b "java/util/ArrayList") (g : n0 ≤ b) (FelementData : Fld Z h0 b "java/util/ArrayList" "elementData" "[Ljava/lang/Object;" (.ref dc)) (Fsize : Fld Z h0 b "java/util/ArrayList" "size" "I" (.int (0 : Int32))) (FmodCount : Fld Z h0 b "java/util/AbstractList" "modCount" "I" (.int m)) (SD : Sta Z Z.heap "java/util/ArrayList" "DEFAULTCAPACITY_EMPTY_ELEMENTDATA" "[Ljava/lang/Object;" (.ref dc)) (AD : Arv Z h0 dc kd (.object "java/lang/Object") (0 : Int32) [] .null) (ED : Exa Z h0 dc "[Ljava/lang/Object;") (AG : Arg Z h0 e) :
    Met l Z (⟨"java/util/ArrayList", "add", "(Ljava/lang/Object;)Z"⟩ : MethodName) jdk_38_method_25_code 2 (some .boolean) ({ frames := 4, cells := 1, slots := 10, locals := 90 } : Room) n0 [] #[(.ref b), e] h0 (fun v h => v = some (.int (1 : Int32)) ∧ KeepC Z h0 h n0 ["java/util/ArrayList", "[Ljava/lang/Object;"] ∧ ALs Z h n0 dc b (0 + 1)) := by
  have he := AG.isr
  refine Met.intro (Ls := #[.val (.ref b), .val e]) (plainFor_of_name pn_m_addA) hw (fun m => by (rcases XT.refc he with qe | ⟨_, qe⟩ <;> rw [qe]) <;> rfl) ?_
  intro w K0
  have K : Cx w Z a0 "java/util/ArrayList" jdk_38_method_25_code 2 (some .boolean) "add" := K0
  have K1 := Keep.refl h0 [b]
  refine Rn.aloadN K (q := 1) d13_0 rfl rfl rfl ?_
  refine Rn.dup K (q := 2) d13_1 rfl rfl ?_
  refine Rn.getF K (q := 5) (List.mem_of_getElem? (i := 119) rfl) (Via.of (K.hw _ (List.mem_of_getElem? (i := 120) rfl))) FmodCount d13_2 rfl ?_
  refine Rn.iconst K (q := 6) (1 : Int32) d13_5 rfl rfl ?_
  refine Rn.iadd K (q := 7) d13_6 rfl ?_
  refine Rn.putF K (q := 10) (ty := .int) (List.mem_of_getElem? (i := 119) rfl) (Via.of (K.hw _ (List.mem_of_getElem? (i := 120) rfl))) FmodCount E (Or.inl (List.mem_of_getElem? (i := 65) rfl)) (List.mem_of_getElem? (i := 46) rfl) (by decide) rfl rfl g d13_7 rfl ?_
  intro h1 W2
  have f3 := X0.wr W2 g
  have f4 := K1.wr W2 (Or.inl (List.mem_of_getElem? (i := 0) rfl))
  have f5 := E.wr W2
  have f6 := Fld.other W2 FelementData (Or.inr (slot_ne (Or.inl (K.hw _ (List.mem_of_getElem? (i := 68) rfl))) (Or.inl (K.hw _ (List.mem_of_getElem? (i := 65) rfl))) (by decide) (t := (.array (.object "java/lang/Object"))) (t' := .int) (by decide) (by decide)))
  have f7 := Fld.other W2 Fsize (Or.inr (slot_ne (Or.inl (K.hw _ (List.mem_of_getElem? (i := 87) rfl))) (Or.inl (K.hw _ (List.mem_of_getElem? (i := 65) rfl))) (by decide) (t := .int) (t' := .int) (by decide) (by decide)))
  have f8 := Fld.same W2 FmodCount
  have f9 := AD.other W2 (ne_exa ED E (by decide))
  have f10 := ED.wr W2
  have f11 := Arg.wr AG W2
  refine Rn.aloadN K (q := 11) d13_10 rfl rfl rfl ?_
  refine Rn.aloadN K (q := 12) d13_11 rfl he rfl ?_
  refine Rn.aloadN K (q := 13) d13_12 rfl rfl rfl ?_
  refine Rn.getF K (q := 16) (List.mem_of_getElem? (i := 67) rfl) Via.refl f6 d13_13 rfl ?_
  refine Rn.aloadN K (q := 17) d13_16 rfl rfl rfl ?_
  refine Rn.getF K (q := 20) (List.mem_of_getElem? (i := 86) rfl) Via.refl f7 d13_17 rfl ?_
  refine Rn.priv K (q := 23) (W := 0) (y := (⟨"java/util/ArrayList", "add", "(Ljava/lang/Object;[Ljava/lang/Object;I)V"⟩ : MethodName)) (b := b) (argsL := [e, (.ref dc), (.int (0 : Int32))]) (rest := []) (List.mem_of_getElem? (i := 121) rfl) (List.mem_of_getElem? (i := 122) rfl) (List.mem_of_getElem? (i := 124) rfl) (List.mem_of_getElem? (i := 123) rfl) (List.mem_of_getElem? (i := 125) rfl) (List.mem_of_getElem? (i := 47) rfl) (by decide) (m_add3A l Z a0 hw n0 h1 b dc e kd (m + (1 : Int32)) f3 f5 g f6 f7 f8 SD f9 f10 f11) f5 (by decide) (by decide) rfl (lenOf pd_5 rfl) rfl (Nat.le_of_ble_eq_true rfl) d13_20 rfl (by decide) (by decide) ?_
  rintro _ hz ⟨rfl, Kz, Lz⟩
  show Rn w l _ n0 _ 23 #[.val (.ref b), .val e] [] hz 1 10
  refine Rn.iconst K (q := 24) (1 : Int32) d13_23 rfl rfl ?_
  exact Rn.retN K .boolean rfl (by simp) d13_24 (by decide) (by decide) ⟨rfl, KeepC.pre f4 E (by simp) g Kz, Lz⟩
theorem pn_m_addB : plainName "java/util/ArrayList" = true := by first | (simp [plainName, overriddenIn]; done) | decide +kernel
set_option maxRecDepth 65536 in
set_option maxHeartbeats 40000000 in
theorem m_addB (l : Launch) (Z : State) (a0 : Array Value) (hw : ∀ d ∈ tables_1, d.before a0 Z = true) (n0 : Nat) (h0 : Heap) (b dc ed : Addr) (e : Value) (ke : ClassId) (us : List Value) (m : Int32) (n : Nat) (X0 : Old Z n0 h0) (E : Exa Z h0 b "java/util/ArrayList") (g : n0 ≤ b) (FelementData : Fld Z h0 b "java/util/ArrayList" "elementData" "[Ljava/lang/Object;" (.ref ed)) (Fsize : Fld Z h0 b "java/util/ArrayList" "size" "I" (.int (Int32.ofNat n))) (FmodCount : Fld Z h0 b "java/util/AbstractList" "modCount" "I" (.int m)) (Ae : Arv Z h0 ed ke (.object "java/lang/Object") (10 : Int32) us .null) (hul : us.length = 10) (Ee : Exa Z h0 ed "[Ljava/lang/Object;") (ge : n0 ≤ ed) (Oe : Ovr Z ke "java/lang/Object") (hn : 0 < n) (hn9 : n < 10) (AG : Arg Z h0 e) :
    Met l Z (⟨"java/util/ArrayList", "add", "(Ljava/lang/Object;)Z"⟩ : MethodName) jdk_38_method_25_code 2 (some .boolean) ({ frames := 4, cells := 1, slots := 10, locals := 90 } : Room) n0 [] #[(.ref b), e] h0 (fun v h => v = some (.int (1 : Int32)) ∧ KeepC Z h0 h n0 ["java/util/ArrayList", "[Ljava/lang/Object;"] ∧ ALs Z h n0 dc b (n + 1)) := by
  have he := AG.isr
  refine Met.intro (Ls := #[.val (.ref b), .val e]) (plainFor_of_name pn_m_addB) hw (fun m => by (rcases XT.refc he with qe | ⟨_, qe⟩ <;> rw [qe]) <;> rfl) ?_
  intro w K0
  have K : Cx w Z a0 "java/util/ArrayList" jdk_38_method_25_code 2 (some .boolean) "add" := K0
  have K1 := Keep.refl h0 [b]
  refine Rn.aloadN K (q := 1) d13_0 rfl rfl rfl ?_
  refine Rn.dup K (q := 2) d13_1 rfl rfl ?_
  refine Rn.getF K (q := 5) (List.mem_of_getElem? (i := 119) rfl) (Via.of (K.hw _ (List.mem_of_getElem? (i := 120) rfl))) FmodCount d13_2 rfl ?_
  refine Rn.iconst K (q := 6) (1 : Int32) d13_5 rfl rfl ?_
  refine Rn.iadd K (q := 7) d13_6 rfl ?_
  refine Rn.putF K (q := 10) (ty := .int) (List.mem_of_getElem? (i := 119) rfl) (Via.of (K.hw _ (List.mem_of_getElem? (i := 120) rfl))) FmodCount E (Or.inl (List.mem_of_getElem? (i := 65) rfl)) (List.mem_of_getElem? (i := 46) rfl) (by decide) rfl rfl g d13_7 rfl ?_
  intro h1 W2
  have f3 := X0.wr W2 g
  have f4 := K1.wr W2 (Or.inl (List.mem_of_getElem? (i := 0) rfl))
  have f5 := E.wr W2
  have f6 := Fld.other W2 FelementData (Or.inr (slot_ne (Or.inl (K.hw _ (List.mem_of_getElem? (i := 68) rfl))) (Or.inl (K.hw _ (List.mem_of_getElem? (i := 65) rfl))) (by decide) (t := (.array (.object "java/lang/Object"))) (t' := .int) (by decide) (by decide)))
  have f7 := Fld.other W2 Fsize (Or.inr (slot_ne (Or.inl (K.hw _ (List.mem_of_getElem? (i := 87) rfl))) (Or.inl (K.hw _ (List.mem_of_getElem? (i := 65) rfl))) (by decide) (t := .int) (t' := .int) (by decide) (by decide)))
  have f8 := Fld.same W2 FmodCount
  have f9 := Ae.other W2 (ne_exa Ee E (by decide))
  have f10 := Ee.wr W2
  have f11 := Arg.wr AG W2
  refine Rn.aloadN K (q := 11) d13_10 rfl rfl rfl ?_
  refine Rn.aloadN K (q := 12) d13_11 rfl he rfl ?_
  refine Rn.aloadN K (q := 13) d13_12 rfl rfl rfl ?_
  refine Rn.getF K (q := 16) (List.mem_of_getElem? (i := 67) rfl) Via.refl f6 d13_13 rfl ?_
  refine Rn.aloadN K (q := 17) d13_16 rfl rfl rfl ?_
  refine Rn.getF K (q := 20) (List.mem_of_getElem? (i := 86) rfl) Via.refl f7 d13_17 rfl ?_
  refine Rn.priv K (q := 23) (W := 0) (y := (⟨"java/util/ArrayList", "add", "(Ljava/lang/Object;[Ljava/lang/Object;I)V"⟩ : MethodName)) (b := b) (argsL := [e, (.ref ed), (.int (Int32.ofNat n))]) (rest := []) (List.mem_of_getElem? (i := 121) rfl) (List.mem_of_getElem? (i := 122) rfl) (List.mem_of_getElem? (i := 124) rfl) (List.mem_of_getElem? (i := 123) rfl) (List.mem_of_getElem? (i := 125) rfl) (List.mem_of_getElem? (i := 47) rfl) (by decide) (m_add3B l Z a0 hw n0 h1 b dc ed e ke us (m + (1 : Int32)) n f3 f5 g f6 f7 f8 f9 hul f10 ge Oe hn hn9 f11) f5 (by decide) (by decide) rfl (lenOf pd_5 rfl) rfl (Nat.le_of_ble_eq_true rfl) d13_20 rfl (by decide) (by decide) ?_
  rintro _ hz ⟨rfl, Kz, Lz⟩
  show Rn w l _ n0 _ 23 #[.val (.ref b), .val e] [] hz 0 0
  refine Rn.iconst K (q := 24) (1 : Int32) d13_23 rfl rfl ?_
  exact Rn.retN K .boolean rfl (by simp) d13_24 (by decide) (by decide) ⟨rfl, KeepC.pre f4 E (by simp) g Kz, Lz⟩
theorem m_add (l : Launch) (Z : State) (a0 : Array Value) (hw : ∀ d ∈ tables_1, d.before a0 Z = true) (n0 : Nat) (h0 : Heap) (b dc : Addr) (e : Value) (kd : ClassId) (n : Nat) (hn9 : n < 10) (X0 : Old Z n0 h0) (L : ALs Z h0 n0 dc b n) (SD : Sta Z Z.heap "java/util/ArrayList" "DEFAULTCAPACITY_EMPTY_ELEMENTDATA" "[Ljava/lang/Object;" (.ref dc)) (AD : Arv Z Z.heap dc kd (.object "java/lang/Object") (0 : Int32) [] .null) (ED : Exa Z Z.heap dc "[Ljava/lang/Object;") (AG : Arg Z h0 e) :
    Met l Z (⟨"java/util/ArrayList", "add", "(Ljava/lang/Object;)Z"⟩ : MethodName) jdk_38_method_25_code 2 (some .boolean) ({ frames := 4, cells := 1, slots := 10, locals := 90 } : Room) n0 [] #[(.ref b), e] h0 (fun v h => v = some (.int (1 : Int32)) ∧ KeepC Z h0 h n0 ["java/util/ArrayList", "[Ljava/lang/Object;"] ∧ ALs Z h n0 dc b (n + 1)) := by
  obtain ⟨E, g, Fs, ⟨m, Fm⟩, hd⟩ := L
  rcases hd with ⟨rfl, Fe⟩ | ⟨hp, ed, ke, us, Fe, ge, Ee, Ae, hul, Oe⟩
  · exact m_addA l Z a0 hw n0 h0 b dc e kd m X0 E g Fe Fs Fm SD (AD.ext X0.2) (ED.ext X0.2) AG
  · exact m_addB l Z a0 hw n0 h0 b dc ed e ke us m n X0 E g Fe Fs Fm Ae hul Ee ge Oe hp hn9 AG
theorem d12_0 : decode prog_29_method_2_code 0 = .ok (.aload_n 0, 1) := by decide +kernel
theorem d12_1 : decode prog_29_method_2_code 1 = .ok (.getfield 10, 3) := by decide +kernel
theorem d12_4 : decode prog_29_method_2_code 4 = .ok (.aload_n 1, 1) := by decide +kernel
theorem d12_5 : decode prog_29_method_2_code 5 = .ok (.invokeinterface 16 2, 5) := by decide +kernel
theorem d12_10 : decode prog_29_method_2_code 10 = .ok (.pop, 1) := by decide +kernel
theorem d12_11 : decode prog_29_method_2_code 11 = .ok (.return_, 1) := by decide +kernel
theorem pn_m_af : plainName "com/example/verdict/verdict/outcome/TestOutcome" = true := by first | (simp [plainName, overriddenIn]; done) | decide +kernel
set_option maxRecDepth 65536 in
set_option maxHeartbeats 40000000 in
theorem m_af (l : Launch) (Z : State) (a0 : Array Value) (hw : ∀ d ∈ tables_1, d.before a0 Z = true) (n0 : Nat) (h0 : Heap) (o lst dc : Addr) (e : Value) (kd : ClassId) (n : Nat) (F1 : Fld Z h0 o "com/example/verdict/verdict/outcome/TestOutcome" "_failures" "Ljava/util/List;" (.ref lst)) (hn9 : n < 10) (X0 : Old Z n0 h0) (L : ALs Z h0 n0 dc lst n) (SD : Sta Z Z.heap "java/util/ArrayList" "DEFAULTCAPACITY_EMPTY_ELEMENTDATA" "[Ljava/lang/Object;" (.ref dc)) (AD : Arv Z Z.heap dc kd (.object "java/lang/Object") (0 : Int32) [] .null) (ED : Exa Z Z.heap dc "[Ljava/lang/Object;") (AG : Arg Z h0 e) :
    Met l Z (⟨"com/example/verdict/verdict/outcome/TestOutcome", "addFailure", "(Ljava/lang/Throwable;)V"⟩ : MethodName) prog_29_method_2_code 2 none ({ frames := 5, cells := 1, slots := 10, locals := 110 } : Room) n0 [] #[(.ref o), e] h0 (fun v h => v = none ∧ KeepC Z h0 h n0 ["java/util/ArrayList", "[Ljava/lang/Object;"] ∧ ALs Z h n0 dc lst (n + 1)) := by
  have he := AG.isr
  refine Met.intro (Ls := #[.val (.ref o), .val e]) (plainFor_of_name pn_m_af) hw (fun m => by (rcases XT.refc he with qe | ⟨_, qe⟩ <;> rw [qe]) <;> rfl) ?_
  intro w K0
  have K : Cx w Z a0 "com/example/verdict/verdict/outcome/TestOutcome" prog_29_method_2_code 2 none "addFailure" := K0
  refine Rn.aloadN K (q := 1) d12_0 rfl rfl rfl ?_
  refine Rn.getF K (q := 4) (List.mem_of_getElem? (i := 69) rfl) Via.refl F1 d12_1 rfl ?_
  refine Rn.aloadN K (q := 5) d12_4 rfl he rfl ?_
  refine Rn.face K (q := 10) (W := 0) (y := (⟨"java/util/List", "add", "(Ljava/lang/Object;)Z"⟩ : MethodName)) (z := (⟨"java/util/ArrayList", "add", "(Ljava/lang/Object;)Z"⟩ : MethodName)) (b := lst) (argsL := [e]) (rest := []) (List.mem_of_getElem? (i := 111) rfl) (List.mem_of_getElem? (i := 112) rfl) (mvT K.z (K.hw _ (List.mem_of_getElem? (i := 113) rfl))) (List.mem_of_getElem? (i := 114) rfl) (List.mem_of_getElem? (i := 115) rfl) (List.mem_of_getElem? (i := 116) rfl) (List.mem_of_getElem? (i := 117) rfl) (List.mem_of_getElem? (i := 84) rfl) (List.mem_of_getElem? (i := 118) rfl) (List.mem_of_getElem? (i := 47) rfl) (by decide) (m_add l Z a0 hw n0 h0 lst dc e kd n hn9 X0 L SD AD ED AG) L.1 (by decide) (by decide) rfl (lenOf pd_6 rfl) rfl (Nat.le_of_ble_eq_true rfl) d12_5 rfl (by decide) (by decide) ?_
  rintro _ h1 ⟨rfl, K1, L1⟩
  show Rn w l _ n0 _ 10 #[.val (.ref o), .val e] [(.int (1 : Int32))] h1 1 10
  refine Rn.pop K (q := 11) d12_10 rfl rfl ?_
  exact Rn.retV K rfl d12_11 (by decide) (by decide) ⟨rfl, K1, L1⟩
theorem d11_0 : decode prog_29_method_3_code 0 = .ok (.aload_n 0, 1) := by decide +kernel
theorem d11_1 : decode prog_29_method_3_code 1 = .ok (.getfield 22, 3) := by decide +kernel
theorem d11_4 : decode prog_29_method_3_code 4 = .ok (.ifnonnull 8, 3) := by decide +kernel
theorem d11_7 : decode prog_29_method_3_code 7 = .ok (.aload_n 0, 1) := by decide +kernel
theorem d11_8 : decode prog_29_method_3_code 8 = .ok (.aload_n 1, 1) := by decide +kernel
theorem d11_9 : decode prog_29_method_3_code 9 = .ok (.putfield 22, 3) := by decide +kernel
theorem d11_12 : decode prog_29_method_3_code 12 = .ok (.return_, 1) := by decide +kernel
theorem pn_m_aaN : plainName "com/example/verdict/verdict/outcome/TestOutcome" = true := by first | (simp [plainName, overriddenIn]; done) | decide +kernel
set_option maxRecDepth 65536 in
set_option maxHeartbeats 40000000 in
theorem m_aaN (l : Launch) (Z : State) (a0 : Array Value) (hw : ∀ d ∈ tables_1, d.before a0 Z = true) (n0 : Nat) (h0 : Heap) (o lst : Addr) (e : Value) (X0 : Old Z n0 h0) (E : Exa Z h0 o "com/example/verdict/verdict/outcome/TestOutcome") (g : n0 ≤ o) (F1 : Fld Z h0 o "com/example/verdict/verdict/outcome/TestOutcome" "_failures" "Ljava/util/List;" (.ref lst)) (F2 : Fld Z h0 o "com/example/verdict/verdict/outcome/TestOutcome" "_violation" "Ljava/lang/Throwable;" .null) (AG : Arg Z h0 e) :
    Met l Z (⟨"com/example/verdict/verdict/outcome/TestOutcome", "addAssumptionFailure", "(Ljava/lang/Throwable;)V"⟩ : MethodName) prog_29_method_3_code 2 none ({ frames := 0, cells := 0, slots := 0, locals := 0 } : Room) n0 [] #[(.ref o), e] h0 (fun v h => v = none ∧ Keep h0 h [o] ∧ Fld Z h o "com/example/verdict/verdict/outcome/TestOutcome" "_failures" "Ljava/util/List;" (.ref lst) ∧ Fld Z h o "com/example/verdict/verdict/outcome/TestOutcome" "_violation" "Ljava/lang/Throwable;" e) := by
  have he := AG.isr
  refine Met.intro (Ls := #[.val (.ref o), .val e]) (plainFor_of_name pn_m_aaN) hw (fun m => by (rcases XT.refc he with qe | ⟨_, qe⟩ <;> rw [qe]) <;> rfl) ?_
  intro w K0
  have K : Cx w Z a0 "com/example/verdict/verdict/outcome/TestOutcome" prog_29_method_3_code 2 none "addAssumptionFailure" := K0
  have K1 := Keep.refl h0 [o]
  have e_nar := AG.nar (C := "java/lang/Throwable")
  have e_fit := AG.fit (C := "java/lang/Throwable")
  refine Rn.aloadN K (q := 1) d11_0 rfl rfl rfl ?_
  refine Rn.getF K (q := 4) (List.mem_of_getElem? (i := 88) rfl) Via.refl F2 d11_1 rfl ?_
  refine Rn.nonnullN K (q := 7) d11_4 rfl ?_
  refine Rn.aloadN K (q := 8) d11_7 rfl rfl rfl ?_
  refine Rn.aloadN K (q := 9) d11_8 rfl he rfl ?_
  refine Rn.putF K (q := 12) (ty := (.object "java/lang/Throwable")) (List.mem_of_getElem? (i := 88) rfl) Via.refl F2 E (Or.inl (List.mem_of_getElem? (i := 89) rfl)) (List.mem_of_getElem? (i := 39) rfl) (by decide) (e_nar) (e_fit) g d11_9 rfl ?_
  intro h1 W2
  have f3 := X0.wr W2 g
  have f4 := K1.wr W2 (Or.inl (List.mem_of_getElem? (i := 0) rfl))
  have f5 := E.wr W2
  have f6 := Fld.other W2 F1 (Or.inr (slot_ne (Or.inr (K.hw _ (List.mem_of_getElem? (i := 70) rfl))) (Or.inl (K.hw _ (List.mem_of_getElem? (i := 89) rfl))) (by decide) (t := (.object "java/util/List")) (t' := (.object "java/lang/Throwable")) (by decide) (by decide)))
  have f7 := Fld.same W2 F2
  exact Rn.retV K rfl d11_12 (by decide) (by decide) ⟨rfl, f4, f6, f7⟩
theorem pn_m_aaR : plainName "com/example/verdict/verdict/outcome/TestOutcome" = true := by first | (simp [plainName, overriddenIn]; done) | decide +kernel
set_option maxRecDepth 65536 in
set_option maxHeartbeats 40000000 in
theorem m_aaR (l : Launch) (Z : State) (a0 : Array Value) (hw : ∀ d ∈ tables_1, d.before a0 Z = true) (n0 : Nat) (h0 : Heap) (o x : Addr) (e : Value) (he : e.isRef = true) (F2 : Fld Z h0 o "com/example/verdict/verdict/outcome/TestOutcome" "_violation" "Ljava/lang/Throwable;" (.ref x)) :
    Met l Z (⟨"com/example/verdict/verdict/outcome/TestOutcome", "addAssumptionFailure", "(Ljava/lang/Throwable;)V"⟩ : MethodName) prog_29_method_3_code 2 none ({ frames := 0, cells := 0, slots := 0, locals := 0 } : Room) n0 [] #[(.ref o), e] h0 (fun v h => v = none ∧ h0 = h) := by
  refine Met.intro (Ls := #[.val (.ref o), .val e]) (plainFor_of_name pn_m_aaR) hw (fun m => by (rcases XT.refc he with qe | ⟨_, qe⟩ <;> rw [qe]) <;> rfl) ?_
  intro w K0
  have K : Cx w Z a0 "com/example/verdict/verdict/outcome/TestOutcome" prog_29_method_3_code 2 none "addAssumptionFailure" := K0
  refine Rn.aloadN K (q := 1) d11_0 rfl rfl rfl ?_
  refine Rn.getF K (q := 4) (List.mem_of_getElem? (i := 88) rfl) Via.refl F2 d11_1 rfl ?_
  refine Rn.nonnullY K (q := 12) d11_4 (by decide) (by decide) ?_
  exact Rn.retV K rfl d11_12 (by decide) (by decide) ⟨rfl, rfl⟩
theorem d10_0 : decode method_3_code 0 = .ok (.iload_n 1, 1) := by decide +kernel
theorem d10_1 : decode method_3_code 1 = .ok (.iconst 3, 1) := by decide +kernel
theorem d10_2 : decode method_3_code 2 = .ok (.iand, 1) := by decide +kernel
theorem d10_3 : decode method_3_code 3 = .ok (.istore 4, 2) := by decide +kernel
theorem d10_5 : decode method_3_code 5 = .ok (.iload_n 1, 1) := by decide +kernel
theorem d10_6 : decode method_3_code 6 = .ok (.iconst 4, 1) := by decide +kernel
theorem d10_7 : decode method_3_code 7 = .ok (.iand, 1) := by decide +kernel
theorem d10_8 : decode method_3_code 8 = .ok (.ifCond .ne 7, 3) := by decide +kernel
theorem d10_11 : decode method_3_code 11 = .ok (.aload_n 2, 1) := by decide +kernel
theorem d10_12 : decode method_3_code 12 = .ok (.goto 4, 3) := by decide +kernel
theorem d10_15 : decode method_3_code 15 = .ok (.aconst_null, 1) := by decide +kernel
theorem d10_16 : decode method_3_code 16 = .ok (.astore 5, 2) := by decide +kernel
theorem d10_18 : decode method_3_code 18 = .ok (.iload 4, 2) := by decide +kernel
theorem d10_20 : decode method_3_code 20 = .ok (.iconst 1, 1) := by decide +kernel
theorem d10_21 : decode method_3_code 21 = .ok (.if_icmp .ne 16, 3) := by decide +kernel
theorem d10_24 : decode method_3_code 24 = .ok (.aload_n 0, 1) := by decide +kernel
theorem d10_25 : decode method_3_code 25 = .ok (.aload 5, 2) := by decide +kernel
theorem d10_27 : decode method_3_code 27 = .ok (.invokevirtual 29, 3) := by decide +kernel
theorem d10_30 : decode method_3_code 30 = .ok (.aload_n 3, 1) := by decide +kernel
theorem d10_31 : decode method_3_code 31 = .ok (.iconst 0, 1) := by decide +kernel
theorem d10_32 : decode method_3_code 32 = .ok (.iconst 1, 1) := by decide +kernel
theorem d10_33 : decode method_3_code 33 = .ok (.bastore, 1) := by decide +kernel
theorem d10_34 : decode method_3_code 34 = .ok (.goto 24, 3) := by decide +kernel
theorem d10_37 : decode method_3_code 37 = .ok (.iload 4, 2) := by decide +kernel
theorem d10_39 : decode method_3_code 39 = .ok (.iconst 2, 1) := by decide +kernel
theorem d10_40 : decode method_3_code 40 = .ok (.if_icmp .lt 18, 3) := by decide +kernel
theorem d10_43 : decode method_3_code 43 = .ok (.aload_n 0, 1) := by decide +kernel
theorem d10_44 : decode method_3_code 44 = .ok (.aload 5, 2) := by decide +kernel
theorem d10_46 : decode method_3_code 46 = .ok (.invokevirtual 33, 3) := by decide +kernel
theorem d10_49 : decode method_3_code 49 = .ok (.aload 5, 2) := by decide +kernel
theorem d10_51 : decode method_3_code 51 = .ok (.ifnull 7, 3) := by decide +kernel
theorem d10_54 : decode method_3_code 54 = .ok (.aload_n 3, 1) := by decide +kernel
theorem d10_55 : decode method_3_code 55 = .ok (.iconst 1, 1) := by decide +kernel
theorem d10_56 : decode method_3_code 56 = .ok (.iconst 1, 1) := by decide +kernel
theorem d10_57 : decode method_3_code 57 = .ok (.bastore, 1) := by decide +kernel
theorem d10_58 : decode method_3_code 58 = .ok (.aload_n 3, 1) := by decide +kernel
theorem d10_59 : decode method_3_code 59 = .ok (.iconst 0, 1) := by decide +kernel
theorem d10_60 : decode method_3_code 60 = .ok (.baload, 1) := by decide +kernel
theorem d10_61 : decode method_3_code 61 = .ok (.ifCond .eq 11, 3) := by decide +kernel
theorem d10_64 : decode method_3_code 64 = .ok (.getstatic 36, 3) := by decide +kernel
theorem d10_67 : decode method_3_code 67 = .ok (.astore 6, 2) := by decide +kernel
theorem d10_69 : decode method_3_code 69 = .ok (.goto 22, 3) := by decide +kernel
theorem d10_72 : decode method_3_code 72 = .ok (.aload_n 3, 1) := by decide +kernel
theorem d10_73 : decode method_3_code 73 = .ok (.iconst 1, 1) := by decide +kernel
theorem d10_74 : decode method_3_code 74 = .ok (.baload, 1) := by decide +kernel
theorem d10_75 : decode method_3_code 75 = .ok (.ifCond .eq 11, 3) := by decide +kernel
theorem d10_78 : decode method_3_code 78 = .ok (.getstatic 39, 3) := by decide +kernel
theorem d10_81 : decode method_3_code 81 = .ok (.astore 6, 2) := by decide +kernel
theorem d10_83 : decode method_3_code 83 = .ok (.goto 8, 3) := by decide +kernel
theorem d10_86 : decode method_3_code 86 = .ok (.getstatic 17, 3) := by decide +kernel
theorem d10_89 : decode method_3_code 89 = .ok (.astore 6, 2) := by decide +kernel
theorem d10_91 : decode method_3_code 91 = .ok (.aload_n 0, 1) := by decide +kernel
theorem d10_92 : decode method_3_code 92 = .ok (.invokevirtual 13, 3) := by decide +kernel
theorem d10_95 : decode method_3_code 95 = .ok (.aload 6, 2) := by decide +kernel
theorem d10_97 : decode method_3_code 97 = .ok (.if_acmp .ne 7, 3) := by decide +kernel
theorem d10_100 : decode method_3_code 100 = .ok (.iconst 1, 1) := by decide +kernel
theorem d10_101 : decode method_3_code 101 = .ok (.goto 4, 3) := by decide +kernel
theorem d10_105 : decode method_3_code 105 = .ok (.ireturn, 1) := by decide +kernel
theorem pn_m_step : plainName "com/example/verdict/verdict/outcome/TestOutcomeKindPinLaw" = true := by first | (simp [plainName, overriddenIn]; done) | decide +kernel
set_option maxRecDepth 65536 in
set_option maxHeartbeats 40000000 in
theorem m_step (l : Launch) (Z : State) (a0 : Array Value) (hw : ∀ d ∈ tables_1, d.before a0 Z = true) (n0 : Nat) (h0 : Heap) (o t lst st dc aPASSED aSKIPPED aFAILED : Addr) (p1 : Int32) (kd : ClassId) (n : Nat) (hn : n < 5) (X0 : Old Z n0 h0) (SPASSED : Sta Z Z.heap "com/example/verdict/verdict/outcome/TestOutcome$Kind" "PASSED" "Lcom/example/verdict/verdict/outcome/TestOutcome$Kind;" (.ref aPASSED)) (SSKIPPED : Sta Z Z.heap "com/example/verdict/verdict/outcome/TestOutcome$Kind" "SKIPPED" "Lcom/example/verdict/verdict/outcome/TestOutcome$Kind;" (.ref aSKIPPED)) (SFAILED : Sta Z Z.heap "com/example/verdict/verdict/outcome/TestOutcome$Kind" "FAILED" "Lcom/example/verdict/verdict/outcome/TestOutcome$Kind;" (.ref aFAILED)) (SD : Sta Z Z.heap "java/util/ArrayList" "DEFAULTCAPACITY_EMPTY_ELEMENTDATA" "[Ljava/lang/Object;" (.ref dc)) (AD : Arv Z Z.heap dc kd (.object "java/lang/Object") (0 : Int32) [] .null) (ED : Exa Z Z.heap dc "[Ljava/lang/Object;") (IV : Inv Z h0 n0 dc t o lst st n) :
    Met l Z (⟨"com/example/verdict/verdict/outcome/TestOutcomeKindPinLaw", "step", "(Lcom/example/verdict/verdict/outcome/TestOutcome;ILjava/lang/Throwable;[Z)Z"⟩ : MethodName) method_3_code 7 (some .boolean) ({ frames := 6, cells := 1, slots := 10, locals := 140 } : Room) n0 [] #[(.ref o), (.int p1), (.ref t), (.ref st)] h0 (fun v h => v = some (.int (1 : Int32)) ∧ Old Z n0 h ∧ ∃ n', n' ≤ n + 1 ∧ Inv Z h n0 dc t o lst st n') := by
  obtain ⟨Eo, go, Et, Ff, L, Es, gs, k, v, b0, b1, Fv, As, hb0, hb1⟩ := IV
  refine Met.intro (Ls := #[.val (.ref o), .val (.int p1), .val (.ref t), .val (.ref st), .unset, .unset, .unset]) (plainFor_of_name pn_m_step) hw (fun m => by first | rfl | (simp [entryFrame, mkF, argsToLocals, Value.category]; done)) ?_
  intro w K0
  have K : Cx w Z a0 "com/example/verdict/verdict/outcome/TestOutcomeKindPinLaw" method_3_code 7 (some .boolean) "step" := K0
  rcases hb0 with ⟨rfl, rfl⟩ | ⟨hp, rfl⟩ <;> rcases hb1 with ⟨rfl, rfl⟩ | ⟨x, rfl, rfl⟩
  · refine Rn.iloadN K (q := 1) d10_0 rfl rfl ?_
    refine Rn.iconst K (q := 2) (3 : Int32) d10_1 rfl rfl ?_
    refine Rn.iand K (q := 3) d10_2 rfl ?_
    refine Rn.istore K (q := 5) (Ls' := #[.val (.ref o), .val (.int p1), .val (.ref t), .val (.ref st), .val (.int (p1 &&& (3 : Int32))), .unset, .unset]) d10_3 rfl rfl ?_
    refine Rn.iloadN K (q := 6) d10_5 rfl rfl ?_
    refine Rn.iconst K (q := 7) (4 : Int32) d10_6 rfl rfl ?_
    refine Rn.iand K (q := 8) d10_7 rfl ?_
    by_cases hc8 : (p1 &&& (4 : Int32)) = (0 : Int32)
    · refine Rn.ifN K (q := 11) d10_8 (XT.i0_ne_f hc8) rfl ?_
      refine Rn.aloadN K (q := 12) d10_11 rfl rfl rfl ?_
      refine Rn.goto K (q := 16) d10_12 (by decide) (by decide) ?_
      refine Rn.astore K (q := 18) (Ls' := #[.val (.ref o), .val (.int p1), .val (.ref t), .val (.ref st), .val (.int (p1 &&& (3 : Int32))), .val (.ref t), .unset]) d10_16 rfl rfl rfl ?_
      refine Rn.iload K (q := 20) d10_18 rfl rfl ?_
      refine Rn.iconst K (q := 21) (1 : Int32) d10_20 rfl rfl ?_
      by_cases hc21 : (p1 &&& (3 : Int32)) = (1 : Int32)
      · refine Rn.icN K (q := 24) d10_21 (XT.ii_ne_f hc21) rfl ?_
        refine Rn.aloadN K (q := 25) d10_24 rfl rfl rfl ?_
        refine Rn.aload K (q := 27) d10_25 rfl rfl rfl ?_
        refine Rn.virt K (q := 30) (W := 0) (y := (⟨"com/example/verdict/verdict/outcome/TestOutcome", "addFailure", "(Ljava/lang/Throwable;)V"⟩ : MethodName)) (z := (⟨"com/example/verdict/verdict/outcome/TestOutcome", "addFailure", "(Ljava/lang/Throwable;)V"⟩ : MethodName)) (b := o) (argsL := [(.ref t)]) (rest := []) (List.mem_of_getElem? (i := 106) rfl) (List.mem_of_getElem? (i := 107) rfl) (nfs K (List.mem_of_getElem? (i := 109) rfl)) (List.mem_of_getElem? (i := 109) rfl) (List.mem_of_getElem? (i := 108) rfl) (List.mem_of_getElem? (i := 110) rfl) (List.mem_of_getElem? (i := 40) rfl) (by decide) (m_af l Z a0 hw n0 h0 o lst dc (.ref t) kd 0 Ff (by omega) X0 L SD AD ED (Or.inr ⟨_, rfl, Et⟩)) Eo (by decide) (by decide) rfl (lenOf pd_7 rfl) rfl (Nat.le_of_ble_eq_true rfl) d10_27 rfl (by decide) (by decide) ?_
        rintro _ h1 ⟨rfl, K2, L3⟩
        have f4 := Old.keepc X0 K2
        have f5 := Exa.keepc Eo K2
        have f6 := Exa.keepc Et K2
        have f7 := Fld.keepc Ff Eo (by decide) K2
        have f8 := Fld.keepc Fv Eo (by decide) K2
        have f9 := Exa.keepc Es K2
        have f10 := Arv.keepc As Es (by decide) K2
        show Rn w l _ n0 _ 30 #[.val (.ref o), .val (.int p1), .val (.ref t), .val (.ref st), .val (.int (p1 &&& (3 : Int32))), .val (.ref t), .unset] [] h1 1 10
        refine Rn.aloadN K (q := 31) d10_30 rfl rfl rfl ?_
        refine Rn.iconst K (q := 32) (0 : Int32) d10_31 rfl rfl ?_
        refine Rn.iconst K (q := 33) (1 : Int32) d10_32 rfl rfl ?_
        refine Rn.bastoreZ K (q := 34) (i := 0) f10 (by decide) rfl (Nat.le_of_ble_eq_true rfl) gs d10_33 rfl ?_
        intro h11 W12 A13
        have f14 := f4.wr W12 gs
        have f15 := f5.wr W12
        have f16 := f6.wr W12
        have f17 := Fld.other W12 f7 (Or.inl (ne_exa f5 f9 (by decide)))
        have f18 := Fld.other W12 f8 (Or.inl (ne_exa f5 f9 (by decide)))
        have f19 := f9.wr W12
        have f20 := ALs.wr L3 W12 f9 (by decide) (by decide)
        replace A13 : Arv Z h11 st k .boolean (2 : Int32) [(.int (1 : Int32)), (.int (0 : Int32))] (.int (0 : Int32)) := A13
        refine Rn.goto K (q := 58) d10_34 (by decide) (by decide) ?_
        refine Rn.aloadN K (q := 59) d10_58 rfl rfl rfl ?_
        refine Rn.iconst K (q := 60) (0 : Int32) d10_59 rfl rfl ?_
        refine Rn.baloadZ K (q := 61) (v := (.int (1 : Int32))) A13 (by decide) rfl d10_60 rfl ?_
        refine Rn.ifN K (q := 64) d10_61 (XT.i0_eq_f (by decide)) rfl ?_
        refine Rn.getS K (q := 67) (List.mem_of_getElem? (i := 142) rfl) (SFAILED.ext f14.2) d10_64 rfl ?_
        refine Rn.astore K (q := 69) (Ls' := #[.val (.ref o), .val (.int p1), .val (.ref t), .val (.ref st), .val (.int (p1 &&& (3 : Int32))), .val (.ref t), .val (.ref aFAILED)]) d10_67 rfl rfl rfl ?_
        refine Rn.goto K (q := 91) d10_69 (by decide) (by decide) ?_
        refine Rn.aloadN K (q := 92) d10_91 rfl rfl rfl ?_
        refine Rn.virt K (q := 95) (W := 0) (y := (⟨"com/example/verdict/verdict/outcome/TestOutcome", "kind", "()Lcom/example/verdict/verdict/outcome/TestOutcome$Kind;"⟩ : MethodName)) (z := (⟨"com/example/verdict/verdict/outcome/TestOutcome", "kind", "()Lcom/example/verdict/verdict/outcome/TestOutcome$Kind;"⟩ : MethodName)) (b := o) (argsL := []) (rest := []) (List.mem_of_getElem? (i := 72) rfl) (List.mem_of_getElem? (i := 73) rfl) (nfs K (List.mem_of_getElem? (i := 75) rfl)) (List.mem_of_getElem? (i := 75) rfl) (List.mem_of_getElem? (i := 74) rfl) (List.mem_of_getElem? (i := 76) rfl) (List.mem_of_getElem? (i := 40) rfl) (by decide) (m_kindN1 l Z a0 hw n0 h11 o lst aPASSED aSKIPPED aFAILED (Int32.ofNat (0 + 1)) f14 SPASSED SSKIPPED SFAILED f17 f18 f20.1 f20.2.2.1 (own_nz (by omega) (by omega))) f15 (by decide) (by decide) rfl (lenOf pd_8 rfl) rfl (Nat.le_of_ble_eq_true rfl) d10_92 rfl (by decide) (by decide) ?_
        rintro _ _ ⟨rfl, rfl⟩
        show Rn w l _ n0 _ 95 #[.val (.ref o), .val (.int p1), .val (.ref t), .val (.ref st), .val (.int (p1 &&& (3 : Int32))), .val (.ref t), .val (.ref aFAILED)] [(.ref aFAILED)] h11 1 10
        refine Rn.aload K (q := 97) d10_95 rfl rfl rfl ?_
        refine Rn.acN K (q := 100) d10_97 rfl rfl (XT.aa_ne_f rfl) rfl ?_
        refine Rn.iconst K (q := 101) (1 : Int32) d10_100 rfl rfl ?_
        refine Rn.goto K (q := 105) d10_101 (by decide) (by decide) ?_
        exact Rn.retN K .boolean rfl (by simp) d10_105 (by decide) (by decide) ⟨rfl, f14, (0 + 1), by omega, f15, go, f16, f17, f20, f19, gs, _, _, _, _, f18, A13, Or.inr ⟨by omega, rfl⟩, Or.inl ⟨rfl, rfl⟩⟩
      · refine Rn.icY K (q := 37) d10_21 (XT.ii_ne_t hc21) (by decide) (by decide) ?_
        refine Rn.iload K (q := 39) d10_37 rfl rfl ?_
        refine Rn.iconst K (q := 40) (2 : Int32) d10_39 rfl rfl ?_
        by_cases hc40 : (p1 &&& (3 : Int32)) < (2 : Int32)
        · refine Rn.icY K (q := 58) d10_40 (XT.ii_lt_t hc40) (by decide) (by decide) ?_
          refine Rn.aloadN K (q := 59) d10_58 rfl rfl rfl ?_
          refine Rn.iconst K (q := 60) (0 : Int32) d10_59 rfl rfl ?_
          refine Rn.baloadZ K (q := 61) (v := (.int (0 : Int32))) As (by decide) rfl d10_60 rfl ?_
          refine Rn.ifY K (q := 72) d10_61 (XT.i0_eq_t rfl) (by decide) (by decide) ?_
          refine Rn.aloadN K (q := 73) d10_72 rfl rfl rfl ?_
          refine Rn.iconst K (q := 74) (1 : Int32) d10_73 rfl rfl ?_
          refine Rn.baloadZ K (q := 75) (v := (.int (0 : Int32))) As (by decide) rfl d10_74 rfl ?_
          refine Rn.ifY K (q := 86) d10_75 (XT.i0_eq_t rfl) (by decide) (by decide) ?_
          refine Rn.getS K (q := 89) (List.mem_of_getElem? (i := 93) rfl) (SPASSED.ext X0.2) d10_86 rfl ?_
          refine Rn.astore K (q := 91) (Ls' := #[.val (.ref o), .val (.int p1), .val (.ref t), .val (.ref st), .val (.int (p1 &&& (3 : Int32))), .val (.ref t), .val (.ref aPASSED)]) d10_89 rfl rfl rfl ?_
          refine Rn.aloadN K (q := 92) d10_91 rfl rfl rfl ?_
          refine Rn.virt K (q := 95) (W := 0) (y := (⟨"com/example/verdict/verdict/outcome/TestOutcome", "kind", "()Lcom/example/verdict/verdict/outcome/TestOutcome$Kind;"⟩ : MethodName)) (z := (⟨"com/example/verdict/verdict/outcome/TestOutcome", "kind", "()Lcom/example/verdict/verdict/outcome/TestOutcome$Kind;"⟩ : MethodName)) (b := o) (argsL := []) (rest := []) (List.mem_of_getElem? (i := 72) rfl) (List.mem_of_getElem? (i := 73) rfl) (nfs K (List.mem_of_getElem? (i := 75) rfl)) (List.mem_of_getElem? (i := 75) rfl) (List.mem_of_getElem? (i := 74) rfl) (List.mem_of_getElem? (i := 76) rfl) (List.mem_of_getElem? (i := 40) rfl) (by decide) (m_kindN0 l Z a0 hw n0 h0 o lst aPASSED aSKIPPED aFAILED (Int32.ofNat 0) X0 SPASSED SSKIPPED SFAILED Ff Fv L.1 L.2.2.1 rfl) Eo (by decide) (by decide) rfl (lenOf pd_8 rfl) rfl (Nat.le_of_ble_eq_true rfl) d10_92 rfl (by decide) (by decide) ?_
          rintro _ _ ⟨rfl, rfl⟩
          show Rn w l _ n0 _ 95 #[.val (.ref o), .val (.int p1), .val (.ref t), .val (.ref st), .val (.int (p1 &&& (3 : Int32))), .val (.ref t), .val (.ref aPASSED)] [(.ref aPASSED)] h0 0 0
          refine Rn.aload K (q := 97) d10_95 rfl rfl rfl ?_
          refine Rn.acN K (q := 100) d10_97 rfl rfl (XT.aa_ne_f rfl) rfl ?_
          refine Rn.iconst K (q := 101) (1 : Int32) d10_100 rfl rfl ?_
          refine Rn.goto K (q := 105) d10_101 (by decide) (by decide) ?_
          exact Rn.retN K .boolean rfl (by simp) d10_105 (by decide) (by decide) ⟨rfl, X0, 0, by omega, Eo, go, Et, Ff, L, Es, gs, _, _, _, _, Fv, As, Or.inl ⟨rfl, rfl⟩, Or.inl ⟨rfl, rfl⟩⟩
        · refine Rn.icN K (q := 43) d10_40 (XT.ii_lt_f hc40) rfl ?_
          refine Rn.aloadN K (q := 44) d10_43 rfl rfl rfl ?_
          refine Rn.aload K (q := 46) d10_44 rfl rfl rfl ?_
          refine Rn.virt K (q := 49) (W := 0) (y := (⟨"com/example/verdict/verdict/outcome/TestOutcome", "addAssumptionFailure", "(Ljava/lang/Throwable;)V"⟩ : MethodName)) (z := (⟨"com/example/verdict/verdict/outcome/TestOutcome", "addAssumptionFailure", "(Ljava/lang/Throwable;)V"⟩ : MethodName)) (b := o) (argsL := [(.ref t)]) (rest := []) (List.mem_of_getElem? (i := 98) rfl) (List.mem_of_getElem? (i := 99) rfl) (nfs K (List.mem_of_getElem? (i := 101) rfl)) (List.mem_of_getElem? (i := 101) rfl) (List.mem_of_getElem? (i := 100) rfl) (List.mem_of_getElem? (i := 102) rfl) (List.mem_of_getElem? (i := 40) rfl) (by decide) (m_aaN l Z a0 hw n0 h0 o lst (.ref t) X0 Eo go Ff Fv (Or.inr ⟨_, rfl, Et⟩)) Eo (by decide) (by decide) rfl (lenOf pd_7 rfl) rfl (Nat.le_of_ble_eq_true rfl) d10_46 rfl (by decide) (by decide) ?_
          rintro _ h21 ⟨rfl, K22, F23, F24⟩
          have f25 := X0.keep K22 (allS go all0)
          have f26 := Eo.keep K22
          have f27 := Et.keep K22
          have f28 := Es.keep K22
          have f29 := As.keep K22 (ninS (ne_exa Es Eo (by decide)) nin0)
          have f30 := ALs.keep L K22 Eo (by decide) (by decide)
          show Rn w l _ n0 _ 49 #[.val (.ref o), .val (.int p1), .val (.ref t), .val (.ref st), .val (.int (p1 &&& (3 : Int32))), .val (.ref t), .unset] [] h21 0 0
          refine Rn.aload K (q := 51) d10_49 rfl rfl rfl ?_
          refine Rn.nullN K (q := 54) d10_51 rfl ?_
          refine Rn.aloadN K (q := 55) d10_54 rfl rfl rfl ?_
          refine Rn.iconst K (q := 56) (1 : Int32) d10_55 rfl rfl ?_
          refine Rn.iconst K (q := 57) (1 : Int32) d10_56 rfl rfl ?_
          refine Rn.bastoreZ K (q := 58) (i := 1) f29 (by decide) rfl (Nat.le_of_ble_eq_true rfl) gs d10_57 rfl ?_
          intro h31 W32 A33
          have f34 := f25.wr W32 gs
          have f35 := f26.wr W32
          have f36 := f27.wr W32
          have f37 := f28.wr W32
          have f38 := ALs.wr f30 W32 f28 (by decide) (by decide)
          have f39 := Fld.other W32 F23 (Or.inl (ne_exa f26 f28 (by decide)))
          have f40 := Fld.other W32 F24 (Or.inl (ne_exa f26 f28 (by decide)))
          replace A33 : Arv Z h31 st k .boolean (2 : Int32) [(.int (0 : Int32)), (.int (1 : Int32))] (.int (0 : Int32)) := A33
          refine Rn.aloadN K (q := 59) d10_58 rfl rfl rfl ?_
          refine Rn.iconst K (q := 60) (0 : Int32) d10_59 rfl rfl ?_
          refine Rn.baloadZ K (q := 61) (v := (.int (0 : Int32))) A33 (by decide) rfl d10_60 rfl ?_
          refine Rn.ifY K (q := 72) d10_61 (XT.i0_eq_t rfl) (by decide) (by decide) ?_
          refine Rn.aloadN K (q := 73) d10_72 rfl rfl rfl ?_
          refine Rn.iconst K (q := 74) (1 : Int32) d10_73 rfl rfl ?_
          refine Rn.baloadZ K (q := 75) (v := (.int (1 : Int32))) A33 (by decide) rfl d10_74 rfl ?_
          refine Rn.ifN K (q := 78) d10_75 (XT.i0_eq_f (by decide)) rfl ?_
          refine Rn.getS K (q := 81) (List.mem_of_getElem? (i := 103) rfl) (SSKIPPED.ext f34.2) d10_78 rfl ?_
          refine Rn.astore K (q := 83) (Ls' := #[.val (.ref o), .val (.int p1), .val (.ref t), .val (.ref st), .val (.int (p1 &&& (3 : Int32))), .val (.ref t), .val (.ref aSKIPPED)]) d10_81 rfl rfl rfl ?_
          refine Rn.goto K (q := 91) d10_83 (by decide) (by decide) ?_
          refine Rn.aloadN K (q := 92) d10_91 rfl rfl rfl ?_
          refine Rn.virt K (q := 95) (W := 0) (y := (⟨"com/example/verdict/verdict/outcome/TestOutcome", "kind", "()Lcom/example/verdict/verdict/outcome/TestOutcome$Kind;"⟩ : MethodName)) (z := (⟨"com/example/verdict/verdict/outcome/TestOutcome", "kind", "()Lcom/example/verdict/verdict/outcome/TestOutcome$Kind;"⟩ : MethodName)) (b := o) (argsL := []) (rest := []) (List.mem_of_getElem? (i := 72) rfl) (List.mem_of_getElem? (i := 73) rfl) (nfs K (List.mem_of_getElem? (i := 75) rfl)) (List.mem_of_getElem? (i := 75) rfl) (List.mem_of_getElem? (i := 74) rfl) (List.mem_of_getElem? (i := 76) rfl) (List.mem_of_getElem? (i := 40) rfl) (by decide) (m_kindR0 l Z a0 hw n0 h31 o lst t aPASSED aSKIPPED aFAILED (Int32.ofNat 0) f34 SPASSED SSKIPPED SFAILED f39 f40 f38.1 f38.2.2.1 rfl) f35 (by decide) (by decide) rfl (lenOf pd_8 rfl) rfl (Nat.le_of_ble_eq_true rfl) d10_92 rfl (by decide) (by decide) ?_
          rintro _ _ ⟨rfl, rfl⟩
          show Rn w l _ n0 _ 95 #[.val (.ref o), .val (.int p1), .val (.ref t), .val (.ref st), .val (.int (p1 &&& (3 : Int32))), .val (.ref t), .val (.ref aSKIPPED)] [(.ref aSKIPPED)] h31 0 0
          refine Rn.aload K (q := 97) d10_95 rfl rfl rfl ?_
          refine Rn.acN K (q := 100) d10_97 rfl rfl (XT.aa_ne_f rfl) rfl ?_
          refine Rn.iconst K (q := 101) (1 : Int32) d10_100 rfl rfl ?_
          refine Rn.goto K (q := 105) d10_101 (by decide) (by decide) ?_
          exact Rn.retN K .boolean rfl (by simp) d10_105 (by decide) (by decide) ⟨rfl, f34, 0, by omega, f35, go, f36, f39, f38, f37, gs, _, _, _, _, f40, A33, Or.inl ⟨rfl, rfl⟩, Or.inr ⟨_, rfl, rfl⟩⟩
    · refine Rn.ifY K (q := 15) d10_8 (XT.i0_ne_t hc8) (by decide) (by decide) ?_
      refine Rn.aconst_null K (q := 16) d10_15 rfl ?_
      refine Rn.astore K (q := 18) (Ls' := #[.val (.ref o), .val (.int p1), .val (.ref t), .val (.ref st), .val (.int (p1 &&& (3 : Int32))), .val .null, .unset]) d10_16 rfl rfl rfl ?_
      refine Rn.iload K (q := 20) d10_18 rfl rfl ?_
      refine Rn.iconst K (q := 21) (1 : Int32) d10_20 rfl rfl ?_
      by_cases hc21 : (p1 &&& (3 : Int32)) = (1 : Int32)
      · refine Rn.icN K (q := 24) d10_21 (XT.ii_ne_f hc21) rfl ?_
        refine Rn.aloadN K (q := 25) d10_24 rfl rfl rfl ?_
        refine Rn.aload K (q := 27) d10_25 rfl rfl rfl ?_
        refine Rn.virt K (q := 30) (W := 0) (y := (⟨"com/example/verdict/verdict/outcome/TestOutcome", "addFailure", "(Ljava/lang/Throwable;)V"⟩ : MethodName)) (z := (⟨"com/example/verdict/verdict/outcome/TestOutcome", "addFailure", "(Ljava/lang/Throwable;)V"⟩ : MethodName)) (b := o) (argsL := [.null]) (rest := []) (List.mem_of_getElem? (i := 106) rfl) (List.mem_of_getElem? (i := 107) rfl) (nfs K (List.mem_of_getElem? (i := 109) rfl)) (List.mem_of_getElem? (i := 109) rfl) (List.mem_of_getElem? (i := 108) rfl) (List.mem_of_getElem? (i := 110) rfl) (List.mem_of_getElem? (i := 40) rfl) (by decide) (m_af l Z a0 hw n0 h0 o lst dc .null kd 0 Ff (by omega) X0 L SD AD ED (Or.inl rfl)) Eo (by decide) (by decide) rfl (lenOf pd_7 rfl) rfl (Nat.le_of_ble_eq_true rfl) d10_27 rfl (by decide) (by decide) ?_
        rintro _ h41 ⟨rfl, K42, L43⟩
        have f44 := Old.keepc X0 K42
        have f45 := Exa.keepc Eo K42
        have f46 := Exa.keepc Et K42
        have f47 := Fld.keepc Ff Eo (by decide) K42
        have f48 := Fld.keepc Fv Eo (by decide) K42
        have f49 := Exa.keepc Es K42
        have f50 := Arv.keepc As Es (by decide) K42
        show Rn w l _ n0 _ 30 #[.val (.ref o), .val (.int p1), .val (.ref t), .val (.ref st), .val (.int (p1 &&& (3 : Int32))), .val .null, .unset] [] h41 1 10
        refine Rn.aloadN K (q := 31) d10_30 rfl rfl rfl ?_
        refine Rn.iconst K (q := 32) (0 : Int32) d10_31 rfl rfl ?_
        refine Rn.iconst K (q := 33) (1 : Int32) d10_32 rfl rfl ?_
        refine Rn.bastoreZ K (q := 34) (i := 0) f50 (by decide) rfl (Nat.le_of_ble_eq_true rfl) gs d10_33 rfl ?_
        intro h51 W52 A53
        have f54 := f44.wr W52 gs
        have f55 := f45.wr W52
        have f56 := f46.wr W52
        have f57 := Fld.other W52 f47 (Or.inl (ne_exa f45 f49 (by decide)))
        have f58 := Fld.other W52 f48 (Or.inl (ne_exa f45 f49 (by decide)))
        have f59 := f49.wr W52
        have f60 := ALs.wr L43 W52 f49 (by decide) (by decide)
        replace A53 : Arv Z h51 st k .boolean (2 : Int32) [(.int (1 : Int32)), (.int (0 : Int32))] (.int (0 : Int32)) := A53
        refine Rn.goto K (q := 58) d10_34 (by decide) (by decide) ?_
        refine Rn.aloadN K (q := 59) d10_58 rfl rfl rfl ?_
        refine Rn.iconst K (q := 60) (0 : Int32) d10_59 rfl rfl ?_
        refine Rn.baloadZ K (q := 61) (v := (.int (1 : Int32))) A53 (by decide) rfl d10_60 rfl ?_
        refine Rn.ifN K (q := 64) d10_61 (XT.i0_eq_f (by decide)) rfl ?_
        refine Rn.getS K (q := 67) (List.mem_of_getElem? (i := 142) rfl) (SFAILED.ext f54.2) d10_64 rfl ?_
        refine Rn.astore K (q := 69) (Ls' := #[.val (.ref o), .val (.int p1), .val (.ref t), .val (.ref st), .val (.int (p1 &&& (3 : Int32))), .val .null, .val (.ref aFAILED)]) d10_67 rfl rfl rfl ?_
        refine Rn.goto K (q := 91) d10_69 (by decide) (by decide) ?_
        refine Rn.aloadN K (q := 92) d10_91 rfl rfl rfl ?_
        refine Rn.virt K (q := 95) (W := 0) (y := (⟨"com/example/verdict/verdict/outcome/TestOutcome", "kind", "()Lcom/example/verdict/verdict/outcome/TestOutcome$Kind;"⟩ : MethodName)) (z := (⟨"com/example/verdict/verdict/outcome/TestOutcome", "kind", "()Lcom/example/verdict/verdict/outcome/TestOutcome$Kind;"⟩ : MethodName)) (b := o) (argsL := []) (rest := []) (List.mem_of_getElem? (i := 72) rfl) (List.mem_of_getElem? (i := 73) rfl) (nfs K (List.mem_of_getElem? (i := 75) rfl)) (List.mem_of_getElem? (i := 75) rfl) (List.mem_of_getElem? (i := 74) rfl) (List.mem_of_getElem? (i := 76) rfl) (List.mem_of_getElem? (i := 40) rfl) (by decide) (m_kindN1 l Z a0 hw n0 h51 o lst aPASSED aSKIPPED aFAILED (Int32.ofNat (0 + 1)) f54 SPASSED SSKIPPED SFAILED f57 f58 f60.1 f60.2.2.1 (own_nz (by omega) (by omega))) f55 (by decide) (by decide) rfl (lenOf pd_8 rfl) rfl (Nat.le_of_ble_eq_true rfl) d10_92 rfl (by decide) (by decide) ?_
        rintro _ _ ⟨rfl, rfl⟩
        show Rn w l _ n0 _ 95 #[.val (.ref o), .val (.int p1), .val (.ref t), .val (.ref st), .val (.int (p1 &&& (3 : Int32))), .val .null, .val (.ref aFAILED)] [(.ref aFAILED)] h51 1 10
        refine Rn.aload K (q := 97) d10_95 rfl rfl rfl ?_
        refine Rn.acN K (q := 100) d10_97 rfl rfl (XT.aa_ne_f rfl) rfl ?_
        refine Rn.iconst K (q := 101) (1 : Int32) d10_100 rfl rfl ?_
        refine Rn.goto K (q := 105) d10_101 (by decide) (by decide) ?_
        exact Rn.retN K .boolean rfl (by simp) d10_105 (by decide) (by decide) ⟨rfl, f54, (0 + 1), by omega, f55, go, f56, f57, f60, f59, gs, _, _, _, _, f58, A53, Or.inr ⟨by omega, rfl⟩, Or.inl ⟨rfl, rfl⟩⟩
      · refine Rn.icY K (q := 37) d10_21 (XT.ii_ne_t hc21) (by decide) (by decide) ?_
        refine Rn.iload K (q := 39) d10_37 rfl rfl ?_
        refine Rn.iconst K (q := 40) (2 : Int32) d10_39 rfl rfl ?_
        by_cases hc40 : (p1 &&& (3 : Int32)) < (2 : Int32)
        · refine Rn.icY K (q := 58) d10_40 (XT.ii_lt_t hc40) (by decide) (by decide) ?_
          refine Rn.aloadN K (q := 59) d10_58 rfl rfl rfl ?_
          refine Rn.iconst K (q := 60) (0 : Int32) d10_59 rfl rfl ?_
          refine Rn.baloadZ K (q := 61) (v := (.int (0 : Int32))) As (by decide) rfl d10_60 rfl ?_
          refine Rn.ifY K (q := 72) d10_61 (XT.i0_eq_t rfl) (by decide) (by decide) ?_
          refine Rn.aloadN K (q := 73) d10_72 rfl rfl rfl ?_
          refine Rn.iconst K (q := 74) (1 : Int32) d10_73 rfl rfl ?_
          refine Rn.baloadZ K (q := 75) (v := (.int (0 : Int32))) As (by decide) rfl d10_74 rfl ?_
          refine Rn.ifY K (q := 86) d10_75 (XT.i0_eq_t rfl) (by decide) (by decide) ?_
          refine Rn.getS K (q := 89) (List.mem_of_getElem? (i := 93) rfl) (SPASSED.ext X0.2) d10_86 rfl ?_
          refine Rn.astore K (q := 91) (Ls' := #[.val (.ref o), .val (.int p1), .val (.ref t), .val (.ref st), .val (.int (p1 &&& (3 : Int32))), .val .null, .val (.ref aPASSED)]) d10_89 rfl rfl rfl ?_
          refine Rn.aloadN K (q := 92) d10_91 rfl rfl rfl ?_
          refine Rn.virt K (q := 95) (W := 0) (y := (⟨"com/example/verdict/verdict/outcome/TestOutcome", "kind", "()Lcom/example/verdict/verdict/outcome/TestOutcome$Kind;"⟩ : MethodName)) (z := (⟨"com/example/verdict/verdict/outcome/TestOutcome", "kind", "()Lcom/example/verdict/verdict/outcome/TestOutcome$Kind;"⟩ : MethodName)) (b := o) (argsL := []) (rest := []) (List.mem_of_getElem? (i := 72) rfl) (List.mem_of_getElem? (i := 73) rfl) (nfs K (List.mem_of_getElem? (i := 75) rfl)) (List.mem_of_getElem? (i := 75) rfl) (List.mem_of_getElem? (i := 74) rfl) (List.mem_of_getElem? (i := 76) rfl) (List.mem_of_getElem? (i := 40) rfl) (by decide) (m_kindN0 l Z a0 hw n0 h0 o lst aPASSED aSKIPPED aFAILED (Int32.ofNat 0) X0 SPASSED SSKIPPED SFAILED Ff Fv L.1 L.2.2.1 rfl) Eo (by decide) (by decide) rfl (lenOf pd_8 rfl) rfl (Nat.le_of_ble_eq_true rfl) d10_92 rfl (by decide) (by decide) ?_
          rintro _ _ ⟨rfl, rfl⟩
          show Rn w l _ n0 _ 95 #[.val (.ref o), .val (.int p1), .val (.ref t), .val (.ref st), .val (.int (p1 &&& (3 : Int32))), .val .null, .val (.ref aPASSED)] [(.ref aPASSED)] h0 0 0
          refine Rn.aload K (q := 97) d10_95 rfl rfl rfl ?_
          refine Rn.acN K (q := 100) d10_97 rfl rfl (XT.aa_ne_f rfl) rfl ?_
          refine Rn.iconst K (q := 101) (1 : Int32) d10_100 rfl rfl ?_
          refine Rn.goto K (q := 105) d10_101 (by decide) (by decide) ?_
          exact Rn.retN K .boolean rfl (by simp) d10_105 (by decide) (by decide) ⟨rfl, X0, 0, by omega, Eo, go, Et, Ff, L, Es, gs, _, _, _, _, Fv, As, Or.inl ⟨rfl, rfl⟩, Or.inl ⟨rfl, rfl⟩⟩
        · refine Rn.icN K (q := 43) d10_40 (XT.ii_lt_f hc40) rfl ?_
          refine Rn.aloadN K (q := 44) d10_43 rfl rfl rfl ?_
          refine Rn.aload K (q := 46) d10_44 rfl rfl rfl ?_
          refine Rn.virt K (q := 49) (W := 0) (y := (⟨"com/example/verdict/verdict/outcome/TestOutcome", "addAssumptionFailure", "(Ljava/lang/Throwable;)V"⟩ : MethodName)) (z := (⟨"com/example/verdict/verdict/outcome/TestOutcome", "addAssumptionFailure", "(Ljava/lang/Throwable;)V"⟩ : MethodName)) (b := o) (argsL := [.null]) (rest := []) (List.mem_of_getElem? (i := 98) rfl) (List.mem_of_getElem? (i := 99) rfl) (nfs K (List.mem_of_getElem? (i := 101) rfl)) (List.mem_of_getElem? (i := 101) rfl) (List.mem_of_getElem? (i := 100) rfl) (List.mem_of_getElem? (i := 102) rfl) (List.mem_of_getElem? (i := 40) rfl) (by decide) (m_aaN l Z a0 hw n0 h0 o lst .null X0 Eo go Ff Fv (Or.inl rfl)) Eo (by decide) (by decide) rfl (lenOf pd_7 rfl) rfl (Nat.le_of_ble_eq_true rfl) d10_46 rfl (by decide) (by decide) ?_
          rintro _ h61 ⟨rfl, K62, F63, F64⟩
          have f65 := X0.keep K62 (allS go all0)
          have f66 := Eo.keep K62
          have f67 := Et.keep K62
          have f68 := Es.keep K62
          have f69 := As.keep K62 (ninS (ne_exa Es Eo (by decide)) nin0)
          have f70 := ALs.keep L K62 Eo (by decide) (by decide)
          show Rn w l _ n0 _ 49 #[.val (.ref o), .val (.int p1), .val (.ref t), .val (.ref st), .val (.int (p1 &&& (3 : Int32))), .val .null, .unset] [] h61 0 0
          refine Rn.aload K (q := 51) d10_49 rfl rfl rfl ?_
          refine Rn.nullY K (q := 58) d10_51 (by decide) (by decide) ?_
          refine Rn.aloadN K (q := 59) d10_58 rfl rfl rfl ?_
          refine Rn.iconst K (q := 60) (0 : Int32) d10_59 rfl rfl ?_
          refine Rn.baloadZ K (q := 61) (v := (.int (0 : Int32))) f69 (by decide) rfl d10_60 rfl ?_
          refine Rn.ifY K (q := 72) d10_61 (XT.i0_eq_t rfl) (by decide) (by decide) ?_
          refine Rn.aloadN K (q := 73) d10_72 rfl rfl rfl ?_
          refine Rn.iconst K (q := 74) (1 : Int32) d10_73 rfl rfl ?_
          refine Rn.baloadZ K (q := 75) (v := (.int (0 : Int32))) f69 (by decide) rfl d10_74 rfl ?_
          refine Rn.ifY K (q := 86) d10_75 (XT.i0_eq_t rfl) (by decide) (by decide) ?_
          refine Rn.getS K (q := 89) (List.mem_of_getElem? (i := 93) rfl) (SPASSED.ext f65.2) d10_86 rfl ?_
          refine Rn.astore K (q := 91) (Ls' := #[.val (.ref o), .val (.int p1), .val (.ref t), .val (.ref st), .val (.int (p1 &&& (3 : Int32))), .val .null, .val (.ref aPASSED)]) d10_89 rfl rfl rfl ?_
          refine Rn.aloadN K (q := 92) d10_91 rfl rfl rfl ?_
          refine Rn.virt K (q := 95) (W := 0) (y := (⟨"com/example/verdict/verdict/outcome/TestOutcome", "kind", "()Lcom/example/verdict/verdict/outcome/TestOutcome$Kind;"⟩ : MethodName)) (z := (⟨"com/example/verdict/verdict/outcome/TestOutcome", "kind", "()Lcom/example/verdict/verdict/outcome/TestOutcome$Kind;"⟩ : MethodName)) (b := o) (argsL := []) (rest := []) (List.mem_of_getElem? (i := 72) rfl) (List.mem_of_getElem? (i := 73) rfl) (nfs K (List.mem_of_getElem? (i := 75) rfl)) (List.mem_of_getElem? (i := 75) rfl) (List.mem_of_getElem? (i := 74) rfl) (List.mem_of_getElem? (i := 76) rfl) (List.mem_of_getElem? (i := 40) rfl) (by decide) (m_kindN0 l Z a0 hw n0 h61 o lst aPASSED aSKIPPED aFAILED (Int32.ofNat 0) f65 SPASSED SSKIPPED SFAILED F63 F64 f70.1 f70.2.2.1 rfl) f66 (by decide) (by decide) rfl (lenOf pd_8 rfl) rfl (Nat.le_of_ble_eq_true rfl) d10_92 rfl (by decide) (by decide) ?_
          rintro _ _ ⟨rfl, rfl⟩
          show Rn w l _ n0 _ 95 #[.val (.ref o), .val (.int p1), .val (.ref t), .val (.ref st), .val (.int (p1 &&& (3 : Int32))), .val .null, .val (.ref aPASSED)] [(.ref aPASSED)] h61 0 0
          refine Rn.aload K (q := 97) d10_95 rfl rfl rfl ?_
          refine Rn.acN K (q := 100) d10_97 rfl rfl (XT.aa_ne_f rfl) rfl ?_
          refine Rn.iconst K (q := 101) (1 : Int32) d10_100 rfl rfl ?_
          refine Rn.goto K (q := 105) d10_101 (by decide) (by decide) ?_
          exact Rn.retN K .boolean rfl (by simp) d10_105 (by decide) (by decide) ⟨rfl, f65, 0, by omega, f66, go, f67, F63, f70, f68, gs, _, _, _, _, F64, f69, Or.inl ⟨rfl, rfl⟩, Or.inl ⟨rfl, rfl⟩⟩
  · refine Rn.iloadN K (q := 1) d10_0 rfl rfl ?_
    refine Rn.iconst K (q := 2) (3 : Int32) d10_1 rfl rfl ?_
    refine Rn.iand K (q := 3) d10_2 rfl ?_
    refine Rn.istore K (q := 5) (Ls' := #[.val (.ref o), .val (.int p1), .val (.ref t), .val (.ref st), .val (.int (p1 &&& (3 : Int32))), .unset, .unset]) d10_3 rfl rfl ?_
    refine Rn.iloadN K (q := 6) d10_5 rfl rfl ?_
    refine Rn.iconst K (q := 7) (4 : Int32) d10_6 rfl rfl ?_
    refine Rn.iand K (q := 8) d10_7 rfl ?_
    by_cases hc8 : (p1 &&& (4 : Int32)) = (0 : Int32)
    · refine Rn.ifN K (q := 11) d10_8 (XT.i0_ne_f hc8) rfl ?_
      refine Rn.aloadN K (q := 12) d10_11 rfl rfl rfl ?_
      refine Rn.goto K (q := 16) d10_12 (by decide) (by decide) ?_
      refine Rn.astore K (q := 18) (Ls' := #[.val (.ref o), .val (.int p1), .val (.ref t), .val (.ref st), .val (.int (p1 &&& (3 : Int32))), .val (.ref t), .unset]) d10_16 rfl rfl rfl ?_
      refine Rn.iload K (q := 20) d10_18 rfl rfl ?_
      refine Rn.iconst K (q := 21) (1 : Int32) d10_20 rfl rfl ?_
      by_cases hc21 : (p1 &&& (3 : Int32)) = (1 : Int32)
      · refine Rn.icN K (q := 24) d10_21 (XT.ii_ne_f hc21) rfl ?_
        refine Rn.aloadN K (q := 25) d10_24 rfl rfl rfl ?_
        refine Rn.aload K (q := 27) d10_25 rfl rfl rfl ?_
        refine Rn.virt K (q := 30) (W := 0) (y := (⟨"com/example/verdict/verdict/outcome/TestOutcome", "addFailure", "(Ljava/lang/Throwable;)V"⟩ : MethodName)) (z := (⟨"com/example/verdict/verdict/outcome/TestOutcome", "addFailure", "(Ljava/lang/Throwable;)V"⟩ : MethodName)) (b := o) (argsL := [(.ref t)]) (rest := []) (List.mem_of_getElem? (i := 106) rfl) (List.mem_of_getElem? (i := 107) rfl) (nfs K (List.mem_of_getElem? (i := 109) rfl)) (List.mem_of_getElem? (i := 109) rfl) (List.mem_of_getElem? (i := 108) rfl) (List.mem_of_getElem? (i := 110) rfl) (List.mem_of_getElem? (i := 40) rfl) (by decide) (m_af l Z a0 hw n0 h0 o lst dc (.ref t) kd 0 Ff (by omega) X0 L SD AD ED (Or.inr ⟨_, rfl, Et⟩)) Eo (by decide) (by decide) rfl (lenOf pd_7 rfl) rfl (Nat.le_of_ble_eq_true rfl) d10_27 rfl (by decide) (by decide) ?_
        rintro _ h1 ⟨rfl, K2, L3⟩
        have f4 := Old.keepc X0 K2
        have f5 := Exa.keepc Eo K2
        have f6 := Exa.keepc Et K2
        have f7 := Fld.keepc Ff Eo (by decide) K2
        have f8 := Fld.keepc Fv Eo (by decide) K2
        have f9 := Exa.keepc Es K2
        have f10 := Arv.keepc As Es (by decide) K2
        show Rn w l _ n0 _ 30 #[.val (.ref o), .val (.int p1), .val (.ref t), .val (.ref st), .val (.int (p1 &&& (3 : Int32))), .val (.ref t), .unset] [] h1 1 10
        refine Rn.aloadN K (q := 31) d10_30 rfl rfl rfl ?_
        refine Rn.iconst K (q := 32) (0 : Int32) d10_31 rfl rfl ?_
        refine Rn.iconst K (q := 33) (1 : Int32) d10_32 rfl rfl ?_
        refine Rn.bastoreZ K (q := 34) (i := 0) f10 (by decide) rfl (Nat.le_of_ble_eq_true rfl) gs d10_33 rfl ?_
        intro h11 W12 A13
        have f14 := f4.wr W12 gs
        have f15 := f5.wr W12
        have f16 := f6.wr W12
        have f17 := Fld.other W12 f7 (Or.inl (ne_exa f5 f9 (by decide)))
        have f18 := Fld.other W12 f8 (Or.inl (ne_exa f5 f9 (by decide)))
        have f19 := f9.wr W12
        have f20 := ALs.wr L3 W12 f9 (by decide) (by decide)
        replace A13 : Arv Z h11 st k .boolean (2 : Int32) [(.int (1 : Int32)), (.int (1 : Int32))] (.int (0 : Int32)) := A13
        refine Rn.goto K (q := 58) d10_34 (by decide) (by decide) ?_
        refine Rn.aloadN K (q := 59) d10_58 rfl rfl rfl ?_
        refine Rn.iconst K (q := 60) (0 : Int32) d10_59 rfl rfl ?_
        refine Rn.baloadZ K (q := 61) (v := (.int (1 : Int32))) A13 (by decide) rfl d10_60 rfl ?_
        refine Rn.ifN K (q := 64) d10_61 (XT.i0_eq_f (by decide)) rfl ?_
        refine Rn.getS K (q := 67) (List.mem_of_getElem? (i := 142) rfl) (SFAILED.ext f14.2) d10_64 rfl ?_
        refine Rn.astore K (q := 69) (Ls' := #[.val (.ref o), .val (.int p1), .val (.ref t), .val (.ref st), .val (.int (p1 &&& (3 : Int32))), .val (.ref t), .val (.ref aFAILED)]) d10_67 rfl rfl rfl ?_
        refine Rn.goto K (q := 91) d10_69 (by decide) (by decide) ?_
        refine Rn.aloadN K (q := 92) d10_91 rfl rfl rfl ?_
        refine Rn.virt K (q := 95) (W := 0) (y := (⟨"com/example/verdict/verdict/outcome/TestOutcome", "kind", "()Lcom/example/verdict/verdict/outcome/TestOutcome$Kind;"⟩ : MethodName)) (z := (⟨"com/example/verdict/verdict/outcome/TestOutcome", "kind", "()Lcom/example/verdict/verdict/outcome/TestOutcome$Kind;"⟩ : MethodName)) (b := o) (argsL := []) (rest := []) (List.mem_of_getElem? (i := 72) rfl) (List.mem_of_getElem? (i := 73) rfl) (nfs K (List.mem_of_getElem? (i := 75) rfl)) (List.mem_of_getElem? (i := 75) rfl) (List.mem_of_getElem? (i := 74) rfl) (List.mem_of_getElem? (i := 76) rfl) (List.mem_of_getElem? (i := 40) rfl) (by decide) (m_kindR1 l Z a0 hw n0 h11 o lst x aPASSED aSKIPPED aFAILED (Int32.ofNat (0 + 1)) f14 SPASSED SSKIPPED SFAILED f17 f18 f20.1 f20.2.2.1 (own_nz (by omega) (by omega))) f15 (by decide) (by decide) rfl (lenOf pd_8 rfl) rfl (Nat.le_of_ble_eq_true rfl) d10_92 rfl (by decide) (by decide) ?_
        rintro _ _ ⟨rfl, rfl⟩
        show Rn w l _ n0 _ 95 #[.val (.ref o), .val (.int p1), .val (.ref t), .val (.ref st), .val (.int (p1 &&& (3 : Int32))), .val (.ref t), .val (.ref aFAILED)] [(.ref aFAILED)] h11 1 10
        refine Rn.aload K (q := 97) d10_95 rfl rfl rfl ?_
        refine Rn.acN K (q := 100) d10_97 rfl rfl (XT.aa_ne_f rfl) rfl ?_
        refine Rn.iconst K (q := 101) (1 : Int32) d10_100 rfl rfl ?_
        refine Rn.goto K (q := 105) d10_101 (by decide) (by decide) ?_
        exact Rn.retN K .boolean rfl (by simp) d10_105 (by decide) (by decide) ⟨rfl, f14, (0 + 1), by omega, f15, go, f16, f17, f20, f19, gs, _, _, _, _, f18, A13, Or.inr ⟨by omega, rfl⟩, Or.inr ⟨_, rfl, rfl⟩⟩
      · refine Rn.icY K (q := 37) d10_21 (XT.ii_ne_t hc21) (by decide) (by decide) ?_
        refine Rn.iload K (q := 39) d10_37 rfl rfl ?_
        refine Rn.iconst K (q := 40) (2 : Int32) d10_39 rfl rfl ?_
        by_cases hc40 : (p1 &&& (3 : Int32)) < (2 : Int32)
        · refine Rn.icY K (q := 58) d10_40 (XT.ii_lt_t hc40) (by decide) (by decide) ?_
          refine Rn.aloadN K (q := 59) d10_58 rfl rfl rfl ?_
          refine Rn.iconst K (q := 60) (0 : Int32) d10_59 rfl rfl ?_
          refine Rn.baloadZ K (q := 61) (v := (.int (0 : Int32))) As (by decide) rfl d10_60 rfl ?_
          refine Rn.ifY K (q := 72) d10_61 (XT.i0_eq_t rfl) (by decide) (by decide) ?_
          refine Rn.aloadN K (q := 73) d10_72 rfl rfl rfl ?_
          refine Rn.iconst K (q := 74) (1 : Int32) d10_73 rfl rfl ?_
          refine Rn.baloadZ K (q := 75) (v := (.int (1 : Int32))) As (by decide) rfl d10_74 rfl ?_
          refine Rn.ifN K (q := 78) d10_75 (XT.i0_eq_f (by decide)) rfl ?_
          refine Rn.getS K (q := 81) (List.mem_of_getElem? (i := 103) rfl) (SSKIPPED.ext X0.2) d10_78 rfl ?_
          refine Rn.astore K (q := 83) (Ls' := #[.val (.ref o), .val (.int p1), .val (.ref t), .val (.ref st), .val (.int (p1 &&& (3 : Int32))), .val (.ref t), .val (.ref aSKIPPED)]) d10_81 rfl rfl rfl ?_
          refine Rn.goto K (q := 91) d10_83 (by decide) (by decide) ?_
          refine Rn.aloadN K (q := 92) d10_91 rfl rfl rfl ?_
          refine Rn.virt K (q := 95) (W := 0) (y := (⟨"com/example/verdict/verdict/outcome/TestOutcome", "kind", "()Lcom/example/verdict/verdict/outcome/TestOutcome$Kind;"⟩ : MethodName)) (z := (⟨"com/example/verdict/verdict/outcome/TestOutcome", "kind", "()Lcom/example/verdict/verdict/outcome/TestOutcome$Kind;"⟩ : MethodName)) (b := o) (argsL := []) (rest := []) (List.mem_of_getElem? (i := 72) rfl) (List.mem_of_getElem? (i := 73) rfl) (nfs K (List.mem_of_getElem? (i := 75) rfl)) (List.mem_of_getElem? (i := 75) rfl) (List.mem_of_getElem? (i := 74) rfl) (List.mem_of_getElem? (i := 76) rfl) (List.mem_of_getElem? (i := 40) rfl) (by decide) (m_kindR0 l Z a0 hw n0 h0 o lst x aPASSED aSKIPPED aFAILED (Int32.ofNat 0) X0 SPASSED SSKIPPED SFAILED Ff Fv L.1 L.2.2.1 rfl) Eo (by decide) (by decide) rfl (lenOf pd_8 rfl) rfl (Nat.le_of_ble_eq_true rfl) d10_92 rfl (by decide) (by decide) ?_
          rintro _ _ ⟨rfl, rfl⟩
          show Rn w l _ n0 _ 95 #[.val (.ref o), .val (.int p1), .val (.ref t), .val (.ref st), .val (.int (p1 &&& (3 : Int32))), .val (.ref t), .val (.ref aSKIPPED)] [(.ref aSKIPPED)] h0 0 0
          refine Rn.aload K (q := 97) d10_95 rfl rfl rfl ?_
          refine Rn.acN K (q := 100) d10_97 rfl rfl (XT.aa_ne_f rfl) rfl ?_
          refine Rn.iconst K (q := 101) (1 : Int32) d10_100 rfl rfl ?_
          refine Rn.goto K (q := 105) d10_101 (by decide) (by decide) ?_
          exact Rn.retN K .boolean rfl (by simp) d10_105 (by decide) (by decide) ⟨rfl, X0, 0, by omega, Eo, go, Et, Ff, L, Es, gs, _, _, _, _, Fv, As, Or.inl ⟨rfl, rfl⟩, Or.inr ⟨_, rfl, rfl⟩⟩
        · refine Rn.icN K (q := 43) d10_40 (XT.ii_lt_f hc40) rfl ?_
          refine Rn.aloadN K (q := 44) d10_43 rfl rfl rfl ?_
          refine Rn.aload K (q := 46) d10_44 rfl rfl rfl ?_
          refine Rn.virt K (q := 49) (W := 0) (y := (⟨"com/example/verdict/verdict/outcome/TestOutcome", "addAssumptionFailure", "(Ljava/lang/Throwable;)V"⟩ : MethodName)) (z := (⟨"com/example/verdict/verdict/outcome/TestOutcome", "addAssumptionFailure", "(Ljava/lang/Throwable;)V"⟩ : MethodName)) (b := o) (argsL := [(.ref t)]) (rest := []) (List.mem_of_getElem? (i := 98) rfl) (List.mem_of_getElem? (i := 99) rfl) (nfs K (List.mem_of_getElem? (i := 101) rfl)) (List.mem_of_getElem? (i := 101) rfl) (List.mem_of_getElem? (i := 100) rfl) (List.mem_of_getElem? (i := 102) rfl) (List.mem_of_getElem? (i := 40) rfl) (by decide) (m_aaR l Z a0 hw n0 h0 o x (.ref t) rfl Fv) Eo (by decide) (by decide) rfl (lenOf pd_7 rfl) rfl (Nat.le_of_ble_eq_true rfl) d10_46 rfl (by decide) (by decide) ?_
          rintro _ _ ⟨rfl, rfl⟩
          show Rn w l _ n0 _ 49 #[.val (.ref o), .val (.int p1), .val (.ref t), .val (.ref st), .val (.int (p1 &&& (3 : Int32))), .val (.ref t), .unset] [] h0 0 0
          refine Rn.aload K (q := 51) d10_49 rfl rfl rfl ?_
          refine Rn.nullN K (q := 54) d10_51 rfl ?_
          refine Rn.aloadN K (q := 55) d10_54 rfl rfl rfl ?_
          refine Rn.iconst K (q := 56) (1 : Int32) d10_55 rfl rfl ?_
          refine Rn.iconst K (q := 57) (1 : Int32) d10_56 rfl rfl ?_
          refine Rn.bastoreZ K (q := 58) (i := 1) As (by decide) rfl (Nat.le_of_ble_eq_true rfl) gs d10_57 rfl ?_
          intro h21 W22 A23
          have f24 := X0.wr W22 gs
          have f25 := Eo.wr W22
          have f26 := Et.wr W22
          have f27 := Fld.other W22 Ff (Or.inl (ne_exa Eo Es (by decide)))
          have f28 := Fld.other W22 Fv (Or.inl (ne_exa Eo Es (by decide)))
          have f29 := Es.wr W22
          have f30 := ALs.wr L W22 Es (by decide) (by decide)
          replace A23 : Arv Z h21 st k .boolean (2 : Int32) [(.int (0 : Int32)), (.int (1 : Int32))] (.int (0 : Int32)) := A23
          refine Rn.aloadN K (q := 59) d10_58 rfl rfl rfl ?_
          refine Rn.iconst K (q := 60) (0 : Int32) d10_59 rfl rfl ?_
          refine Rn.baloadZ K (q := 61) (v := (.int (0 : Int32))) A23 (by decide) rfl d10_60 rfl ?_
          refine Rn.ifY K (q := 72) d10_61 (XT.i0_eq_t rfl) (by decide) (by decide) ?_
          refine Rn.aloadN K (q := 73) d10_72 rfl rfl rfl ?_
          refine Rn.iconst K (q := 74) (1 : Int32) d10_73 rfl rfl ?_
          refine Rn.baloadZ K (q := 75) (v := (.int (1 : Int32))) A23 (by decide) rfl d10_74 rfl ?_
          refine Rn.ifN K (q := 78) d10_75 (XT.i0_eq_f (by decide)) rfl ?_
          refine Rn.getS K (q := 81) (List.mem_of_getElem? (i := 103) rfl) (SSKIPPED.ext f24.2) d10_78 rfl ?_
          refine Rn.astore K (q := 83) (Ls' := #[.val (.ref o), .val (.int p1), .val (.ref t), .val (.ref st), .val (.int (p1 &&& (3 : Int32))), .val (.ref t), .val (.ref aSKIPPED)]) d10_81 rfl rfl rfl ?_
          refine Rn.goto K (q := 91) d10_83 (by decide) (by decide) ?_
          refine Rn.aloadN K (q := 92) d10_91 rfl rfl rfl ?_
          refine Rn.virt K (q := 95) (W := 0) (y := (⟨"com/example/verdict/verdict/outcome/TestOutcome", "kind", "()Lcom/example/verdict/verdict/outcome/TestOutcome$Kind;"⟩ : MethodName)) (z := (⟨"com/example/verdict/verdict/outcome/TestOutcome", "kind", "()Lcom/example/verdict/verdict/outcome/TestOutcome$Kind;"⟩ : MethodName)) (b := o) (argsL := []) (rest := []) (List.mem_of_getElem? (i := 72) rfl) (List.mem_of_getElem? (i := 73) rfl) (nfs K (List.mem_of_getElem? (i := 75) rfl)) (List.mem_of_getElem? (i := 75) rfl) (List.mem_of_getElem? (i := 74) rfl) (List.mem_of_getElem? (i := 76) rfl) (List.mem_of_getElem? (i := 40) rfl) (by decide) (m_kindR0 l Z a0 hw n0 h21 o lst x aPASSED aSKIPPED aFAILED (Int32.ofNat 0) f24 SPASSED SSKIPPED SFAILED f27 f28 f30.1 f30.2.2.1 rfl) f25 (by decide) (by decide) rfl (lenOf pd_8 rfl) rfl (Nat.le_of_ble_eq_true rfl) d10_92 rfl (by decide) (by decide) ?_
          rintro _ _ ⟨rfl, rfl⟩
          show Rn w l _ n0 _ 95 #[.val (.ref o), .val (.int p1), .val (.ref t), .val (.ref st), .val (.int (p1 &&& (3 : Int32))), .val (.ref t), .val (.ref aSKIPPED)] [(.ref aSKIPPED)] h21 0 0
          refine Rn.aload K (q := 97) d10_95 rfl rfl rfl ?_
          refine Rn.acN K (q := 100) d10_97 rfl rfl (XT.aa_ne_f rfl) rfl ?_
          refine Rn.iconst K (q := 101) (1 : Int32) d10_100 rfl rfl ?_
          refine Rn.goto K (q := 105) d10_101 (by decide) (by decide) ?_
          exact Rn.retN K .boolean rfl (by simp) d10_105 (by decide) (by decide) ⟨rfl, f24, 0, by omega, f25, go, f26, f27, f30, f29, gs, _, _, _, _, f28, A23, Or.inl ⟨rfl, rfl⟩, Or.inr ⟨_, rfl, rfl⟩⟩
    · refine Rn.ifY K (q := 15) d10_8 (XT.i0_ne_t hc8) (by decide) (by decide) ?_
      refine Rn.aconst_null K (q := 16) d10_15 rfl ?_
      refine Rn.astore K (q := 18) (Ls' := #[.val (.ref o), .val (.int p1), .val (.ref t), .val (.ref st), .val (.int (p1 &&& (3 : Int32))), .val .null, .unset]) d10_16 rfl rfl rfl ?_
      refine Rn.iload K (q := 20) d10_18 rfl rfl ?_
      refine Rn.iconst K (q := 21) (1 : Int32) d10_20 rfl rfl ?_
      by_cases hc21 : (p1 &&& (3 : Int32)) = (1 : Int32)
      · refine Rn.icN K (q := 24) d10_21 (XT.ii_ne_f hc21) rfl ?_
        refine Rn.aloadN K (q := 25) d10_24 rfl rfl rfl ?_
        refine Rn.aload K (q := 27) d10_25 rfl rfl rfl ?_
        refine Rn.virt K (q := 30) (W := 0) (y := (⟨"com/example/verdict/verdict/outcome/TestOutcome", "addFailure", "(Ljava/lang/Throwable;)V"⟩ : MethodName)) (z := (⟨"com/example/verdict/verdict/outcome/TestOutcome", "addFailure", "(Ljava/lang/Throwable;)V"⟩ : MethodName)) (b := o) (argsL := [.null]) (rest := []) (List.mem_of_getElem? (i := 106) rfl) (List.mem_of_getElem? (i := 107) rfl) (nfs K (List.mem_of_getElem? (i := 109) rfl)) (List.mem_of_getElem? (i := 109) rfl) (List.mem_of_getElem? (i := 108) rfl) (List.mem_of_getElem? (i := 110) rfl) (List.mem_of_getElem? (i := 40) rfl) (by decide) (m_af l Z a0 hw n0 h0 o lst dc .null kd 0 Ff (by omega) X0 L SD AD ED (Or.inl rfl)) Eo (by decide) (by decide) rfl (lenOf pd_7 rfl) rfl (Nat.le_of_ble_eq_true rfl) d10_27 rfl (by decide) (by decide) ?_
        rintro _ h31 ⟨rfl, K32, L33⟩
        have f34 := Old.keepc X0 K32
        have f35 := Exa.keepc Eo K32
        have f36 := Exa.keepc Et K32
        have f37 := Fld.keepc Ff Eo (by decide) K32
        have f38 := Fld.keepc Fv Eo (by decide) K32
        have f39 := Exa.keepc Es K32
        have f40 := Arv.keepc As Es (by decide) K32
        show Rn w l _ n0 _ 30 #[.val (.ref o), .val (.int p1), .val (.ref t), .val (.ref st), .val (.int (p1 &&& (3 : Int32))), .val .null, .unset] [] h31 1 10
        refine Rn.aloadN K (q := 31) d10_30 rfl rfl rfl ?_
        refine Rn.iconst K (q := 32) (0 : Int32) d10_31 rfl rfl ?_
        refine Rn.iconst K (q := 33) (1 : Int32) d10_32 rfl rfl ?_
        refine Rn.bastoreZ K (q := 34) (i := 0) f40 (by decide) rfl (Nat.le_of_ble_eq_true rfl) gs d10_33 rfl ?_
        intro h41 W42 A43
        have f44 := f34.wr W42 gs
        have f45 := f35.wr W42
        have f46 := f36.wr W42
        have f47 := Fld.other W42 f37 (Or.inl (ne_exa f35 f39 (by decide)))
        have f48 := Fld.other W42 f38 (Or.inl (ne_exa f35 f39 (by decide)))
        have f49 := f39.wr W42
        have f50 := ALs.wr L33 W42 f39 (by decide) (by decide)
        replace A43 : Arv Z h41 st k .boolean (2 : Int32) [(.int (1 : Int32)), (.int (1 : Int32))] (.int (0 : Int32)) := A43
        refine Rn.goto K (q := 58) d10_34 (by decide) (by decide) ?_
        refine Rn.aloadN K (q := 59) d10_58 rfl rfl rfl ?_
        refine Rn.iconst K (q := 60) (0 : Int32) d10_59 rfl rfl ?_
        refine Rn.baloadZ K (q := 61) (v := (.int (1 : Int32))) A43 (by decide) rfl d10_60 rfl ?_
        refine Rn.ifN K (q := 64) d10_61 (XT.i0_eq_f (by decide)) rfl ?_
        refine Rn.getS K (q := 67) (List.mem_of_getElem? (i := 142) rfl) (SFAILED.ext f44.2) d10_64 rfl ?_
        refine Rn.astore K (q := 69) (Ls' := #[.val (.ref o), .val (.int p1), .val (.ref t), .val (.ref st), .val (.int (p1 &&& (3 : Int32))), .val .null, .val (.ref aFAILED)]) d10_67 rfl rfl rfl ?_
        refine Rn.goto K (q := 91) d10_69 (by decide) (by decide) ?_
        refine Rn.aloadN K (q := 92) d10_91 rfl rfl rfl ?_
        refine Rn.virt K (q := 95) (W := 0) (y := (⟨"com/example/verdict/verdict/outcome/TestOutcome", "kind", "()Lcom/example/verdict/verdict/outcome/TestOutcome$Kind;"⟩ : MethodName)) (z := (⟨"com/example/verdict/verdict/outcome/TestOutcome", "kind", "()Lcom/example/verdict/verdict/outcome/TestOutcome$Kind;"⟩ : MethodName)) (b := o) (argsL := []) (rest := []) (List.mem_of_getElem? (i := 72) rfl) (List.mem_of_getElem? (i := 73) rfl) (nfs K (List.mem_of_getElem? (i := 75) rfl)) (List.mem_of_getElem? (i := 75) rfl) (List.mem_of_getElem? (i := 74) rfl) (List.mem_of_getElem? (i := 76) rfl) (List.mem_of_getElem? (i := 40) rfl) (by decide) (m_kindR1 l Z a0 hw n0 h41 o lst x aPASSED aSKIPPED aFAILED (Int32.ofNat (0 + 1)) f44 SPASSED SSKIPPED SFAILED f47 f48 f50.1 f50.2.2.1 (own_nz (by omega) (by omega))) f45 (by decide) (by decide) rfl (lenOf pd_8 rfl) rfl (Nat.le_of_ble_eq_true rfl) d10_92 rfl (by decide) (by decide) ?_
        rintro _ _ ⟨rfl, rfl⟩
        show Rn w l _ n0 _ 95 #[.val (.ref o), .val (.int p1), .val (.ref t), .val (.ref st), .val (.int (p1 &&& (3 : Int32))), .val .null, .val (.ref aFAILED)] [(.ref aFAILED)] h41 1 10
        refine Rn.aload K (q := 97) d10_95 rfl rfl rfl ?_
        refine Rn.acN K (q := 100) d10_97 rfl rfl (XT.aa_ne_f rfl) rfl ?_
        refine Rn.iconst K (q := 101) (1 : Int32) d10_100 rfl rfl ?_
        refine Rn.goto K (q := 105) d10_101 (by decide) (by decide) ?_
        exact Rn.retN K .boolean rfl (by simp) d10_105 (by decide) (by decide) ⟨rfl, f44, (0 + 1), by omega, f45, go, f46, f47, f50, f49, gs, _, _, _, _, f48, A43, Or.inr ⟨by omega, rfl⟩, Or.inr ⟨_, rfl, rfl⟩⟩
      · refine Rn.icY K (q := 37) d10_21 (XT.ii_ne_t hc21) (by decide) (by decide) ?_
        refine Rn.iload K (q := 39) d10_37 rfl rfl ?_
        refine Rn.iconst K (q := 40) (2 : Int32) d10_39 rfl rfl ?_
        by_cases hc40 : (p1 &&& (3 : Int32)) < (2 : Int32)
        · refine Rn.icY K (q := 58) d10_40 (XT.ii_lt_t hc40) (by decide) (by decide) ?_
          refine Rn.aloadN K (q := 59) d10_58 rfl rfl rfl ?_
          refine Rn.iconst K (q := 60) (0 : Int32) d10_59 rfl rfl ?_
          refine Rn.baloadZ K (q := 61) (v := (.int (0 : Int32))) As (by decide) rfl d10_60 rfl ?_
          refine Rn.ifY K (q := 72) d10_61 (XT.i0_eq_t rfl) (by decide) (by decide) ?_
          refine Rn.aloadN K (q := 73) d10_72 rfl rfl rfl ?_
          refine Rn.iconst K (q := 74) (1 : Int32) d10_73 rfl rfl ?_
          refine Rn.baloadZ K (q := 75) (v := (.int (1 : Int32))) As (by decide) rfl d10_74 rfl ?_
          refine Rn.ifN K (q := 78) d10_75 (XT.i0_eq_f (by decide)) rfl ?_
          refine Rn.getS K (q := 81) (List.mem_of_getElem? (i := 103) rfl) (SSKIPPED.ext X0.2) d10_78 rfl ?_
          refine Rn.astore K (q := 83) (Ls' := #[.val (.ref o), .val (.int p1), .val (.ref t), .val (.ref st), .val (.int (p1 &&& (3 : Int32))), .val .null, .val (.ref aSKIPPED)]) d10_81 rfl rfl rfl ?_
          refine Rn.goto K (q := 91) d10_83 (by decide) (by decide) ?_
          refine Rn.aloadN K (q := 92) d10_91 rfl rfl rfl ?_
          refine Rn.virt K (q := 95) (W := 0) (y := (⟨"com/example/verdict/verdict/outcome/TestOutcome", "kind", "()Lcom/example/verdict/verdict/outcome/TestOutcome$Kind;"⟩ : MethodName)) (z := (⟨"com/example/verdict/verdict/outcome/TestOutcome", "kind", "()Lcom/example/verdict/verdict/outcome/TestOutcome$Kind;"⟩ : MethodName)) (b := o) (argsL := []) (rest := []) (List.mem_of_getElem? (i := 72) rfl) (List.mem_of_getElem? (i := 73) rfl) (nfs K (List.mem_of_getElem? (i := 75) rfl)) (List.mem_of_getElem? (i := 75) rfl) (List.mem_of_getElem? (i := 74) rfl) (List.mem_of_getElem? (i := 76) rfl) (List.mem_of_getElem? (i := 40) rfl) (by decide) (m_kindR0 l Z a0 hw n0 h0 o lst x aPASSED aSKIPPED aFAILED (Int32.ofNat 0) X0 SPASSED SSKIPPED SFAILED Ff Fv L.1 L.2.2.1 rfl) Eo (by decide) (by decide) rfl (lenOf pd_8 rfl) rfl (Nat.le_of_ble_eq_true rfl) d10_92 rfl (by decide) (by decide) ?_
          rintro _ _ ⟨rfl, rfl⟩
          show Rn w l _ n0 _ 95 #[.val (.ref o), .val (.int p1), .val (.ref t), .val (.ref st), .val (.int (p1 &&& (3 : Int32))), .val .null, .val (.ref aSKIPPED)] [(.ref aSKIPPED)] h0 0 0
          refine Rn.aload K (q := 97) d10_95 rfl rfl rfl ?_
          refine Rn.acN K (q := 100) d10_97 rfl rfl (XT.aa_ne_f rfl) rfl ?_
          refine Rn.iconst K (q := 101) (1 : Int32) d10_100 rfl rfl ?_
          refine Rn.goto K (q := 105) d10_101 (by decide) (by decide) ?_
          exact Rn.retN K .boolean rfl (by simp) d10_105 (by decide) (by decide) ⟨rfl, X0, 0, by omega, Eo, go, Et, Ff, L, Es, gs, _, _, _, _, Fv, As, Or.inl ⟨rfl, rfl⟩, Or.inr ⟨_, rfl, rfl⟩⟩
        · refine Rn.icN K (q := 43) d10_40 (XT.ii_lt_f hc40) rfl ?_
          refine Rn.aloadN K (q := 44) d10_43 rfl rfl rfl ?_
          refine Rn.aload K (q := 46) d10_44 rfl rfl rfl ?_
          refine Rn.virt K (q := 49) (W := 0) (y := (⟨"com/example/verdict/verdict/outcome/TestOutcome", "addAssumptionFailure", "(Ljava/lang/Throwable;)V"⟩ : MethodName)) (z := (⟨"com/example/verdict/verdict/outcome/TestOutcome", "addAssumptionFailure", "(Ljava/lang/Throwable;)V"⟩ : MethodName)) (b := o) (argsL := [.null]) (rest := []) (List.mem_of_getElem? (i := 98) rfl) (List.mem_of_getElem? (i := 99) rfl) (nfs K (List.mem_of_getElem? (i := 101) rfl)) (List.mem_of_getElem? (i := 101) rfl) (List.mem_of_getElem? (i := 100) rfl) (List.mem_of_getElem? (i := 102) rfl) (List.mem_of_getElem? (i := 40) rfl) (by decide) (m_aaR l Z a0 hw n0 h0 o x .null rfl Fv) Eo (by decide) (by decide) rfl (lenOf pd_7 rfl) rfl (Nat.le_of_ble_eq_true rfl) d10_46 rfl (by decide) (by decide) ?_
          rintro _ _ ⟨rfl, rfl⟩
          show Rn w l _ n0 _ 49 #[.val (.ref o), .val (.int p1), .val (.ref t), .val (.ref st), .val (.int (p1 &&& (3 : Int32))), .val .null, .unset] [] h0 0 0
          refine Rn.aload K (q := 51) d10_49 rfl rfl rfl ?_
          refine Rn.nullY K (q := 58) d10_51 (by decide) (by decide) ?_
          refine Rn.aloadN K (q := 59) d10_58 rfl rfl rfl ?_
          refine Rn.iconst K (q := 60) (0 : Int32) d10_59 rfl rfl ?_
          refine Rn.baloadZ K (q := 61) (v := (.int (0 : Int32))) As (by decide) rfl d10_60 rfl ?_
          refine Rn.ifY K (q := 72) d10_61 (XT.i0_eq_t rfl) (by decide) (by decide) ?_
          refine Rn.aloadN K (q := 73) d10_72 rfl rfl rfl ?_
          refine Rn.iconst K (q := 74) (1 : Int32) d10_73 rfl rfl ?_
          refine Rn.baloadZ K (q := 75) (v := (.int (1 : Int32))) As (by decide) rfl d10_74 rfl ?_
          refine Rn.ifN K (q := 78) d10_75 (XT.i0_eq_f (by decide)) rfl ?_
          refine Rn.getS K (q := 81) (List.mem_of_getElem? (i := 103) rfl) (SSKIPPED.ext X0.2) d10_78 rfl ?_
          refine Rn.astore K (q := 83) (Ls' := #[.val (.ref o), .val (.int p1), .val (.ref t), .val (.ref st), .val (.int (p1 &&& (3 : Int32))), .val .null, .val (.ref aSKIPPED)]) d10_81 rfl rfl rfl ?_
          refine Rn.goto K (q := 91) d10_83 (by decide) (by decide) ?_
          refine Rn.aloadN K (q := 92) d10_91 rfl rfl rfl ?_
          refine Rn.virt K (q := 95) (W := 0) (y := (⟨"com/example/verdict/verdict/outcome/TestOutcome", "kind", "()Lcom/example/verdict/verdict/outcome/TestOutcome$Kind;"⟩ : MethodName)) (z := (⟨"com/example/verdict/verdict/outcome/TestOutcome", "kind", "()Lcom/example/verdict/verdict/outcome/TestOutcome$Kind;"⟩ : MethodName)) (b := o) (argsL := []) (rest := []) (List.mem_of_getElem? (i := 72) rfl) (List.mem_of_getElem? (i := 73) rfl) (nfs K (List.mem_of_getElem? (i := 75) rfl)) (List.mem_of_getElem? (i := 75) rfl) (List.mem_of_getElem? (i := 74) rfl) (List.mem_of_getElem? (i := 76) rfl) (List.mem_of_getElem? (i := 40) rfl) (by decide) (m_kindR0 l Z a0 hw n0 h0 o lst x aPASSED aSKIPPED aFAILED (Int32.ofNat 0) X0 SPASSED SSKIPPED SFAILED Ff Fv L.1 L.2.2.1 rfl) Eo (by decide) (by decide) rfl (lenOf pd_8 rfl) rfl (Nat.le_of_ble_eq_true rfl) d10_92 rfl (by decide) (by decide) ?_
          rintro _ _ ⟨rfl, rfl⟩
          show Rn w l _ n0 _ 95 #[.val (.ref o), .val (.int p1), .val (.ref t), .val (.ref st), .val (.int (p1 &&& (3 : Int32))), .val .null, .val (.ref aSKIPPED)] [(.ref aSKIPPED)] h0 0 0
          refine Rn.aload K (q := 97) d10_95 rfl rfl rfl ?_
          refine Rn.acN K (q := 100) d10_97 rfl rfl (XT.aa_ne_f rfl) rfl ?_
          refine Rn.iconst K (q := 101) (1 : Int32) d10_100 rfl rfl ?_
          refine Rn.goto K (q := 105) d10_101 (by decide) (by decide) ?_
          exact Rn.retN K .boolean rfl (by simp) d10_105 (by decide) (by decide) ⟨rfl, X0, 0, by omega, Eo, go, Et, Ff, L, Es, gs, _, _, _, _, Fv, As, Or.inl ⟨rfl, rfl⟩, Or.inr ⟨_, rfl, rfl⟩⟩
  · refine Rn.iloadN K (q := 1) d10_0 rfl rfl ?_
    refine Rn.iconst K (q := 2) (3 : Int32) d10_1 rfl rfl ?_
    refine Rn.iand K (q := 3) d10_2 rfl ?_
    refine Rn.istore K (q := 5) (Ls' := #[.val (.ref o), .val (.int p1), .val (.ref t), .val (.ref st), .val (.int (p1 &&& (3 : Int32))), .unset, .unset]) d10_3 rfl rfl ?_
    refine Rn.iloadN K (q := 6) d10_5 rfl rfl ?_
    refine Rn.iconst K (q := 7) (4 : Int32) d10_6 rfl rfl ?_
    refine Rn.iand K (q := 8) d10_7 rfl ?_
    by_cases hc8 : (p1 &&& (4 : Int32)) = (0 : Int32)
    · refine Rn.ifN K (q := 11) d10_8 (XT.i0_ne_f hc8) rfl ?_
      refine Rn.aloadN K (q := 12) d10_11 rfl rfl rfl ?_
      refine Rn.goto K (q := 16) d10_12 (by decide) (by decide) ?_
      refine Rn.astore K (q := 18) (Ls' := #[.val (.ref o), .val (.int p1), .val (.ref t), .val (.ref st), .val (.int (p1 &&& (3 : Int32))), .val (.ref t), .unset]) d10_16 rfl rfl rfl ?_
      refine Rn.iload K (q := 20) d10_18 rfl rfl ?_
      refine Rn.iconst K (q := 21) (1 : Int32) d10_20 rfl rfl ?_
      by_cases hc21 : (p1 &&& (3 : Int32)) = (1 : Int32)
      · refine Rn.icN K (q := 24) d10_21 (XT.ii_ne_f hc21) rfl ?_
        refine Rn.aloadN K (q := 25) d10_24 rfl rfl rfl ?_
        refine Rn.aload K (q := 27) d10_25 rfl rfl rfl ?_
        refine Rn.virt K (q := 30) (W := 0) (y := (⟨"com/example/verdict/verdict/outcome/TestOutcome", "addFailure", "(Ljava/lang/Throwable;)V"⟩ : MethodName)) (z := (⟨"com/example/verdict/verdict/outcome/TestOutcome", "addFailure", "(Ljava/lang/Throwable;)V"⟩ : MethodName)) (b := o) (argsL := [(.ref t)]) (rest := []) (List.mem_of_getElem? (i := 106) rfl) (List.mem_of_getElem? (i := 107) rfl) (nfs K (List.mem_of_getElem? (i := 109) rfl)) (List.mem_of_getElem? (i := 109) rfl) (List.mem_of_getElem? (i := 108) rfl) (List.mem_of_getElem? (i := 110) rfl) (List.mem_of_getElem? (i := 40) rfl) (by decide) (m_af l Z a0 hw n0 h0 o lst dc (.ref t) kd n Ff (by omega) X0 L SD AD ED (Or.inr ⟨_, rfl, Et⟩)) Eo (by decide) (by decide) rfl (lenOf pd_7 rfl) rfl (Nat.le_of_ble_eq_true rfl) d10_27 rfl (by decide) (by decide) ?_
        rintro _ h1 ⟨rfl, K2, L3⟩
        have f4 := Old.keepc X0 K2
        have f5 := Exa.keepc Eo K2
        have f6 := Exa.keepc Et K2
        have f7 := Fld.keepc Ff Eo (by decide) K2
        have f8 := Fld.keepc Fv Eo (by decide) K2
        have f9 := Exa.keepc Es K2
        have f10 := Arv.keepc As Es (by decide) K2
        show Rn w l _ n0 _ 30 #[.val (.ref o), .val (.int p1), .val (.ref t), .val (.ref st), .val (.int (p1 &&& (3 : Int32))), .val (.ref t), .unset] [] h1 1 10
        refine Rn.aloadN K (q := 31) d10_30 rfl rfl rfl ?_
        refine Rn.iconst K (q := 32) (0 : Int32) d10_31 rfl rfl ?_
        refine Rn.iconst K (q := 33) (1 : Int32) d10_32 rfl rfl ?_
        refine Rn.bastoreZ K (q := 34) (i := 0) f10 (by decide) rfl (Nat.le_of_ble_eq_true rfl) gs d10_33 rfl ?_
        intro h11 W12 A13
        have f14 := f4.wr W12 gs
        have f15 := f5.wr W12
        have f16 := f6.wr W12
        have f17 := Fld.other W12 f7 (Or.inl (ne_exa f5 f9 (by decide)))
        have f18 := Fld.other W12 f8 (Or.inl (ne_exa f5 f9 (by decide)))
        have f19 := f9.wr W12
        have f20 := ALs.wr L3 W12 f9 (by decide) (by decide)
        replace A13 : Arv Z h11 st k .boolean (2 : Int32) [(.int (1 : Int32)), (.int (0 : Int32))] (.int (0 : Int32)) := A13
        refine Rn.goto K (q := 58) d10_34 (by decide) (by decide) ?_
        refine Rn.aloadN K (q := 59) d10_58 rfl rfl rfl ?_
        refine Rn.iconst K (q := 60) (0 : Int32) d10_59 rfl rfl ?_
        refine Rn.baloadZ K (q := 61) (v := (.int (1 : Int32))) A13 (by decide) rfl d10_60 rfl ?_
        refine Rn.ifN K (q := 64) d10_61 (XT.i0_eq_f (by decide)) rfl ?_
        refine Rn.getS K (q := 67) (List.mem_of_getElem? (i := 142) rfl) (SFAILED.ext f14.2) d10_64 rfl ?_
        refine Rn.astore K (q := 69) (Ls' := #[.val (.ref o), .val (.int p1), .val (.ref t), .val (.ref st), .val (.int (p1 &&& (3 : Int32))), .val (.ref t), .val (.ref aFAILED)]) d10_67 rfl rfl rfl ?_
        refine Rn.goto K (q := 91) d10_69 (by decide) (by decide) ?_
        refine Rn.aloadN K (q := 92) d10_91 rfl rfl rfl ?_
        refine Rn.virt K (q := 95) (W := 0) (y := (⟨"com/example/verdict/verdict/outcome/TestOutcome", "kind", "()Lcom/example/verdict/verdict/outcome/TestOutcome$Kind;"⟩ : MethodName)) (z := (⟨"com/example/verdict/verdict/outcome/TestOutcome", "kind", "()Lcom/example/verdict/verdict/outcome/TestOutcome$Kind;"⟩ : MethodName)) (b := o) (argsL := []) (rest := []) (List.mem_of_getElem? (i := 72) rfl) (List.mem_of_getElem? (i := 73) rfl) (nfs K (List.mem_of_getElem? (i := 75) rfl)) (List.mem_of_getElem? (i := 75) rfl) (List.mem_of_getElem? (i := 74) rfl) (List.mem_of_getElem? (i := 76) rfl) (List.mem_of_getElem? (i := 40) rfl) (by decide) (m_kindN1 l Z a0 hw n0 h11 o lst aPASSED aSKIPPED aFAILED (Int32.ofNat (n + 1)) f14 SPASSED SSKIPPED SFAILED f17 f18 f20.1 f20.2.2.1 (own_nz (by omega) (by omega))) f15 (by decide) (by decide) rfl (lenOf pd_8 rfl) rfl (Nat.le_of_ble_eq_true rfl) d10_92 rfl (by decide) (by decide) ?_
        rintro _ _ ⟨rfl, rfl⟩
        show Rn w l _ n0 _ 95 #[.val (.ref o), .val (.int p1), .val (.ref t), .val (.ref st), .val (.int (p1 &&& (3 : Int32))), .val (.ref t), .val (.ref aFAILED)] [(.ref aFAILED)] h11 1 10
        refine Rn.aload K (q := 97) d10_95 rfl rfl rfl ?_
        refine Rn.acN K (q := 100) d10_97 rfl rfl (XT.aa_ne_f rfl) rfl ?_
        refine Rn.iconst K (q := 101) (1 : Int32) d10_100 rfl rfl ?_
        refine Rn.goto K (q := 105) d10_101 (by decide) (by decide) ?_
        exact Rn.retN K .boolean rfl (by simp) d10_105 (by decide) (by decide) ⟨rfl, f14, (n + 1), by omega, f15, go, f16, f17, f20, f19, gs, _, _, _, _, f18, A13, Or.inr ⟨by omega, rfl⟩, Or.inl ⟨rfl, rfl⟩⟩
      · refine Rn.icY K (q := 37) d10_21 (XT.ii_ne_t hc21) (by decide) (by decide) ?_
        refine Rn.iload K (q := 39) d10_37 rfl rfl ?_
        refine Rn.iconst K (q := 40) (2 : Int32) d10_39 rfl rfl ?_
        by_cases hc40 : (p1 &&& (3 : Int32)) < (2 : Int32)
        · refine Rn.icY K (q := 58) d10_40 (XT.ii_lt_t hc40) (by decide) (by decide) ?_
          refine Rn.aloadN K (q := 59) d10_58 rfl rfl rfl ?_
          refine Rn.iconst K (q := 60) (0 : Int32) d10_59 rfl rfl ?_
          refine Rn.baloadZ K (q := 61) (v := (.int (1 : Int32))) As (by decide) rfl d10_60 rfl ?_
          refine Rn.ifN K (q := 64) d10_61 (XT.i0_eq_f (by decide)) rfl ?_
          refine Rn.getS K (q := 67) (List.mem_of_getElem? (i := 142) rfl) (SFAILED.ext X0.2) d10_64 rfl ?_
          refine Rn.astore K (q := 69) (Ls' := #[.val (.ref o), .val (.int p1), .val (.ref t), .val (.ref st), .val (.int (p1 &&& (3 : Int32))), .val (.ref t), .val (.ref aFAILED)]) d10_67 rfl rfl rfl ?_
          refine Rn.goto K (q := 91) d10_69 (by decide) (by decide) ?_
          refine Rn.aloadN K (q := 92) d10_91 rfl rfl rfl ?_
          refine Rn.virt K (q := 95) (W := 0) (y := (⟨"com/example/verdict/verdict/outcome/TestOutcome", "kind", "()Lcom/example/verdict/verdict/outcome/TestOutcome$Kind;"⟩ : MethodName)) (z := (⟨"com/example/verdict/verdict/outcome/TestOutcome", "kind", "()Lcom/example/verdict/verdict/outcome/TestOutcome$Kind;"⟩ : MethodName)) (b := o) (argsL := []) (rest := []) (List.mem_of_getElem? (i := 72) rfl) (List.mem_of_getElem? (i := 73) rfl) (nfs K (List.mem_of_getElem? (i := 75) rfl)) (List.mem_of_getElem? (i := 75) rfl) (List.mem_of_getElem? (i := 74) rfl) (List.mem_of_getElem? (i := 76) rfl) (List.mem_of_getElem? (i := 40) rfl) (by decide) (m_kindN1 l Z a0 hw n0 h0 o lst aPASSED aSKIPPED aFAILED (Int32.ofNat n) X0 SPASSED SSKIPPED SFAILED Ff Fv L.1 L.2.2.1 (own_nz (by omega) (by omega))) Eo (by decide) (by decide) rfl (lenOf pd_8 rfl) rfl (Nat.le_of_ble_eq_true rfl) d10_92 rfl (by decide) (by decide) ?_
          rintro _ _ ⟨rfl, rfl⟩
          show Rn w l _ n0 _ 95 #[.val (.ref o), .val (.int p1), .val (.ref t), .val (.ref st), .val (.int (p1 &&& (3 : Int32))), .val (.ref t), .val (.ref aFAILED)] [(.ref aFAILED)] h0 0 0
          refine Rn.aload K (q := 97) d10_95 rfl rfl rfl ?_
          refine Rn.acN K (q := 100) d10_97 rfl rfl (XT.aa_ne_f rfl) rfl ?_
          refine Rn.iconst K (q := 101) (1 : Int32) d10_100 rfl rfl ?_
          refine Rn.goto K (q := 105) d10_101 (by decide) (by decide) ?_
          exact Rn.retN K .boolean rfl (by simp) d10_105 (by decide) (by decide) ⟨rfl, X0, n, by omega, Eo, go, Et, Ff, L, Es, gs, _, _, _, _, Fv, As, Or.inr ⟨by omega, rfl⟩, Or.inl ⟨rfl, rfl⟩⟩
        · refine Rn.icN K (q := 43) d10_40 (XT.ii_lt_f hc40) rfl ?_
          refine Rn.aloadN K (q := 44) d10_43 rfl rfl rfl ?_
          refine Rn.aload K (q := 46) d10_44 rfl rfl rfl ?_
          refine Rn.virt K (q := 49) (W := 0) (y := (⟨"com/example/verdict/verdict/outcome/TestOutcome", "addAssumptionFailure", "(Ljava/lang/Throwable;)V"⟩ : MethodName)) (z := (⟨"com/example/verdict/verdict/outcome/TestOutcome", "addAssumptionFailure", "(Ljava/lang/Throwable;)V"⟩ : MethodName)) (b := o) (argsL := [(.ref t)]) (rest := []) (List.mem_of_getElem? (i := 98) rfl) (List.mem_of_getElem? (i := 99) rfl) (nfs K (List.mem_of_getElem? (i := 101) rfl)) (List.mem_of_getElem? (i := 101) rfl) (List.mem_of_getElem? (i := 100) rfl) (List.mem_of_getElem? (i := 102) rfl) (List.mem_of_getElem? (i := 40) rfl) (by decide) (m_aaN l Z a0 hw n0 h0 o lst (.ref t) X0 Eo go Ff Fv (Or.inr ⟨_, rfl, Et⟩)) Eo (by decide) (by decide) rfl (lenOf pd_7 rfl) rfl (Nat.le_of_ble_eq_true rfl) d10_46 rfl (by decide) (by decide) ?_
          rintro _ h21 ⟨rfl, K22, F23, F24⟩
          have f25 := X0.keep K22 (allS go all0)
          have f26 := Eo.keep K22
          have f27 := Et.keep K22
          have f28 := Es.keep K22
          have f29 := As.keep K22 (ninS (ne_exa Es Eo (by decide)) nin0)
          have f30 := ALs.keep L K22 Eo (by decide) (by decide)
          show Rn w l _ n0 _ 49 #[.val (.ref o), .val (.int p1), .val (.ref t), .val (.ref st), .val (.int (p1 &&& (3 : Int32))), .val (.ref t), .unset] [] h21 0 0
          refine Rn.aload K (q := 51) d10_49 rfl rfl rfl ?_
          refine Rn.nullN K (q := 54) d10_51 rfl ?_
          refine Rn.aloadN K (q := 55) d10_54 rfl rfl rfl ?_
          refine Rn.iconst K (q := 56) (1 : Int32) d10_55 rfl rfl ?_
          refine Rn.iconst K (q := 57) (1 : Int32) d10_56 rfl rfl ?_
          refine Rn.bastoreZ K (q := 58) (i := 1) f29 (by decide) rfl (Nat.le_of_ble_eq_true rfl) gs d10_57 rfl ?_
          intro h31 W32 A33
          have f34 := f25.wr W32 gs
          have f35 := f26.wr W32
          have f36 := f27.wr W32
          have f37 := f28.wr W32
          have f38 := ALs.wr f30 W32 f28 (by decide) (by decide)
          have f39 := Fld.other W32 F23 (Or.inl (ne_exa f26 f28 (by decide)))
          have f40 := Fld.other W32 F24 (Or.inl (ne_exa f26 f28 (by decide)))
          replace A33 : Arv Z h31 st k .boolean (2 : Int32) [(.int (1 : Int32)), (.int (1 : Int32))] (.int (0 : Int32)) := A33
          refine Rn.aloadN K (q := 59) d10_58 rfl rfl rfl ?_
          refine Rn.iconst K (q := 60) (0 : Int32) d10_59 rfl rfl ?_
          refine Rn.baloadZ K (q := 61) (v := (.int (1 : Int32))) A33 (by decide) rfl d10_60 rfl ?_
          refine Rn.ifN K (q := 64) d10_61 (XT.i0_eq_f (by decide)) rfl ?_
          refine Rn.getS K (q := 67) (List.mem_of_getElem? (i := 142) rfl) (SFAILED.ext f34.2) d10_64 rfl ?_
          refine Rn.astore K (q := 69) (Ls' := #[.val (.ref o), .val (.int p1), .val (.ref t), .val (.ref st), .val (.int (p1 &&& (3 : Int32))), .val (.ref t), .val (.ref aFAILED)]) d10_67 rfl rfl rfl ?_
          refine Rn.goto K (q := 91) d10_69 (by decide) (by decide) ?_
          refine Rn.aloadN K (q := 92) d10_91 rfl rfl rfl ?_
          refine Rn.virt K (q := 95) (W := 0) (y := (⟨"com/example/verdict/verdict/outcome/TestOutcome", "kind", "()Lcom/example/verdict/verdict/outcome/TestOutcome$Kind;"⟩ : MethodName)) (z := (⟨"com/example/verdict/verdict/outcome/TestOutcome", "kind", "()Lcom/example/verdict/verdict/outcome/TestOutcome$Kind;"⟩ : MethodName)) (b := o) (argsL := []) (rest := []) (List.mem_of_getElem? (i := 72) rfl) (List.mem_of_getElem? (i := 73) rfl) (nfs K (List.mem_of_getElem? (i := 75) rfl)) (List.mem_of_getElem? (i := 75) rfl) (List.mem_of_getElem? (i := 74) rfl) (List.mem_of_getElem? (i := 76) rfl) (List.mem_of_getElem? (i := 40) rfl) (by decide) (m_kindR1 l Z a0 hw n0 h31 o lst t aPASSED aSKIPPED aFAILED (Int32.ofNat n) f34 SPASSED SSKIPPED SFAILED f39 f40 f38.1 f38.2.2.1 (own_nz (by omega) (by omega))) f35 (by decide) (by decide) rfl (lenOf pd_8 rfl) rfl (Nat.le_of_ble_eq_true rfl) d10_92 rfl (by decide) (by decide) ?_
          rintro _ _ ⟨rfl, rfl⟩
          show Rn w l _ n0 _ 95 #[.val (.ref o), .val (.int p1), .val (.ref t), .val (.ref st), .val (.int (p1 &&& (3 : Int32))), .val (.ref t), .val (.ref aFAILED)] [(.ref aFAILED)] h31 0 0
          refine Rn.aload K (q := 97) d10_95 rfl rfl rfl ?_
          refine Rn.acN K (q := 100) d10_97 rfl rfl (XT.aa_ne_f rfl) rfl ?_
          refine Rn.iconst K (q := 101) (1 : Int32) d10_100 rfl rfl ?_
          refine Rn.goto K (q := 105) d10_101 (by decide) (by decide) ?_
          exact Rn.retN K .boolean rfl (by simp) d10_105 (by decide) (by decide) ⟨rfl, f34, n, by omega, f35, go, f36, f39, f38, f37, gs, _, _, _, _, f40, A33, Or.inr ⟨by omega, rfl⟩, Or.inr ⟨_, rfl, rfl⟩⟩
    · refine Rn.ifY K (q := 15) d10_8 (XT.i0_ne_t hc8) (by decide) (by decide) ?_
      refine Rn.aconst_null K (q := 16) d10_15 rfl ?_
      refine Rn.astore K (q := 18) (Ls' := #[.val (.ref o), .val (.int p1), .val (.ref t), .val (.ref st), .val (.int (p1 &&& (3 : Int32))), .val .null, .unset]) d10_16 rfl rfl rfl ?_
      refine Rn.iload K (q := 20) d10_18 rfl rfl ?_
      refine Rn.iconst K (q := 21) (1 : Int32) d10_20 rfl rfl ?_
      by_cases hc21 : (p1 &&& (3 : Int32)) = (1 : Int32)
      · refine Rn.icN K (q := 24) d10_21 (XT.ii_ne_f hc21) rfl ?_
        refine Rn.aloadN K (q := 25) d10_24 rfl rfl rfl ?_
        refine Rn.aload K (q := 27) d10_25 rfl rfl rfl ?_
        refine Rn.virt K (q := 30) (W := 0) (y := (⟨"com/example/verdict/verdict/outcome/TestOutcome", "addFailure", "(Ljava/lang/Throwable;)V"⟩ : MethodName)) (z := (⟨"com/example/verdict/verdict/outcome/TestOutcome", "addFailure", "(Ljava/lang/Throwable;)V"⟩ : MethodName)) (b := o) (argsL := [.null]) (rest := []) (List.mem_of_getElem? (i := 106) rfl) (List.mem_of_getElem? (i := 107) rfl) (nfs K (List.mem_of_getElem? (i := 109) rfl)) (List.mem_of_getElem? (i := 109) rfl) (List.mem_of_getElem? (i := 108) rfl) (List.mem_of_getElem? (i := 110) rfl) (List.mem_of_getElem? (i := 40) rfl) (by decide) (m_af l Z a0 hw n0 h0 o lst dc .null kd n Ff (by omega) X0 L SD AD ED (Or.inl rfl)) Eo (by decide) (by decide) rfl (lenOf pd_7 rfl) rfl (Nat.le_of_ble_eq_true rfl) d10_27 rfl (by decide) (by decide) ?_
        rintro _ h41 ⟨rfl, K42, L43⟩
        have f44 := Old.keepc X0 K42
        have f45 := Exa.keepc Eo K42
        have f46 := Exa.keepc Et K42
        have f47 := Fld.keepc Ff Eo (by decide) K42
        have f48 := Fld.keepc Fv Eo (by decide) K42
        have f49 := Exa.keepc Es K42
        have f50 := Arv.keepc As Es (by decide) K42
        show Rn w l _ n0 _ 30 #[.val (.ref o), .val (.int p1), .val (.ref t), .val (.ref st), .val (.int (p1 &&& (3 : Int32))), .val .null, .unset] [] h41 1 10
        refine Rn.aloadN K (q := 31) d10_30 rfl rfl rfl ?_
        refine Rn.iconst K (q := 32) (0 : Int32) d10_31 rfl rfl ?_
        refine Rn.iconst K (q := 33) (1 : Int32) d10_32 rfl rfl ?_
        refine Rn.bastoreZ K (q := 34) (i := 0) f50 (by decide) rfl (Nat.le_of_ble_eq_true rfl) gs d10_33 rfl ?_
        intro h51 W52 A53
        have f54 := f44.wr W52 gs
        have f55 := f45.wr W52
        have f56 := f46.wr W52
        have f57 := Fld.other W52 f47 (Or.inl (ne_exa f45 f49 (by decide)))
        have f58 := Fld.other W52 f48 (Or.inl (ne_exa f45 f49 (by decide)))
        have f59 := f49.wr W52
        have f60 := ALs.wr L43 W52 f49 (by decide) (by decide)
        replace A53 : Arv Z h51 st k .boolean (2 : Int32) [(.int (1 : Int32)), (.int (0 : Int32))] (.int (0 : Int32)) := A53
        refine Rn.goto K (q := 58) d10_34 (by decide) (by decide) ?_
        refine Rn.aloadN K (q := 59) d10_58 rfl rfl rfl ?_
        refine Rn.iconst K (q := 60) (0 : Int32) d10_59 rfl rfl ?_
        refine Rn.baloadZ K (q := 61) (v := (.int (1 : Int32))) A53 (by decide) rfl d10_60 rfl ?_
        refine Rn.ifN K (q := 64) d10_61 (XT.i0_eq_f (by decide)) rfl ?_
        refine Rn.getS K (q := 67) (List.mem_of_getElem? (i := 142) rfl) (SFAILED.ext f54.2) d10_64 rfl ?_
        refine Rn.astore K (q := 69) (Ls' := #[.val (.ref o), .val (.int p1), .val (.ref t), .val (.ref st), .val (.int (p1 &&& (3 : Int32))), .val .null, .val (.ref aFAILED)]) d10_67 rfl rfl rfl ?_
        refine Rn.goto K (q := 91) d10_69 (by decide) (by decide) ?_
        refine Rn.aloadN K (q := 92) d10_91 rfl rfl rfl ?_
        refine Rn.virt K (q := 95) (W := 0) (y := (⟨"com/example/verdict/verdict/outcome/TestOutcome", "kind", "()Lcom/example/verdict/verdict/outcome/TestOutcome$Kind;"⟩ : MethodName)) (z := (⟨"com/example/verdict/verdict/outcome/TestOutcome", "kind", "()Lcom/example/verdict/verdict/outcome/TestOutcome$Kind;"⟩ : MethodName)) (b := o) (argsL := []) (rest := []) (List.mem_of_getElem? (i := 72) rfl) (List.mem_of_getElem? (i := 73) rfl) (nfs K (List.mem_of_getElem? (i := 75) rfl)) (List.mem_of_getElem? (i := 75) rfl) (List.mem_of_getElem? (i := 74) rfl) (List.mem_of_getElem? (i := 76) rfl) (List.mem_of_getElem? (i := 40) rfl) (by decide) (m_kindN1 l Z a0 hw n0 h51 o lst aPASSED aSKIPPED aFAILED (Int32.ofNat (n + 1)) f54 SPASSED SSKIPPED SFAILED f57 f58 f60.1 f60.2.2.1 (own_nz (by omega) (by omega))) f55 (by decide) (by decide) rfl (lenOf pd_8 rfl) rfl (Nat.le_of_ble_eq_true rfl) d10_92 rfl (by decide) (by decide) ?_
        rintro _ _ ⟨rfl, rfl⟩
        show Rn w l _ n0 _ 95 #[.val (.ref o), .val (.int p1), .val (.ref t), .val (.ref st), .val (.int (p1 &&& (3 : Int32))), .val .null, .val (.ref aFAILED)] [(.ref aFAILED)] h51 1 10
        refine Rn.aload K (q := 97) d10_95 rfl rfl rfl ?_
        refine Rn.acN K (q := 100) d10_97 rfl rfl (XT.aa_ne_f rfl) rfl ?_
        refine Rn.iconst K (q := 101) (1 : Int32) d10_100 rfl rfl ?_
        refine Rn.goto K (q := 105) d10_101 (by decide) (by decide) ?_
        exact Rn.retN K .boolean rfl (by simp) d10_105 (by decide) (by decide) ⟨rfl, f54, (n + 1), by omega, f55, go, f56, f57, f60, f59, gs, _, _, _, _, f58, A53, Or.inr ⟨by omega, rfl⟩, Or.inl ⟨rfl, rfl⟩⟩
      · refine Rn.icY K (q := 37) d10_21 (XT.ii_ne_t hc21) (by decide) (by decide) ?_
        refine Rn.iload K (q := 39) d10_37 rfl rfl ?_
        refine Rn.iconst K (q := 40) (2 : Int32) d10_39 rfl rfl ?_
        by_cases hc40 : (p1 &&& (3 : Int32)) < (2 : Int32)
        · refine Rn.icY K (q := 58) d10_40 (XT.ii_lt_t hc40) (by decide) (by decide) ?_
          refine Rn.aloadN K (q := 59) d10_58 rfl rfl rfl ?_
          refine Rn.iconst K (q := 60) (0 : Int32) d10_59 rfl rfl ?_
          refine Rn.baloadZ K (q := 61) (v := (.int (1 : Int32))) As (by decide) rfl d10_60 rfl ?_
          refine Rn.ifN K (q := 64) d10_61 (XT.i0_eq_f (by decide)) rfl ?_
          refine Rn.getS K (q := 67) (List.mem_of_getElem? (i := 142) rfl) (SFAILED.ext X0.2) d10_64 rfl ?_
          refine Rn.astore K (q := 69) (Ls' := #[.val (.ref o), .val (.int p1), .val (.ref t), .val (.ref st), .val (.int (p1 &&& (3 : Int32))), .val .null, .val (.ref aFAILED)]) d10_67 rfl rfl rfl ?_
          refine Rn.goto K (q := 91) d10_69 (by decide) (by decide) ?_
          refine Rn.aloadN K (q := 92) d10_91 rfl rfl rfl ?_
          refine Rn.virt K (q := 95) (W := 0) (y := (⟨"com/example/verdict/verdict/outcome/TestOutcome", "kind", "()Lcom/example/verdict/verdict/outcome/TestOutcome$Kind;"⟩ : MethodName)) (z := (⟨"com/example/verdict/verdict/outcome/TestOutcome", "kind", "()Lcom/example/verdict/verdict/outcome/TestOutcome$Kind;"⟩ : MethodName)) (b := o) (argsL := []) (rest := []) (List.mem_of_getElem? (i := 72) rfl) (List.mem_of_getElem? (i := 73) rfl) (nfs K (List.mem_of_getElem? (i := 75) rfl)) (List.mem_of_getElem? (i := 75) rfl) (List.mem_of_getElem? (i := 74) rfl) (List.mem_of_getElem? (i := 76) rfl) (List.mem_of_getElem? (i := 40) rfl) (by decide) (m_kindN1 l Z a0 hw n0 h0 o lst aPASSED aSKIPPED aFAILED (Int32.ofNat n) X0 SPASSED SSKIPPED SFAILED Ff Fv L.1 L.2.2.1 (own_nz (by omega) (by omega))) Eo (by decide) (by decide) rfl (lenOf pd_8 rfl) rfl (Nat.le_of_ble_eq_true rfl) d10_92 rfl (by decide) (by decide) ?_
          rintro _ _ ⟨rfl, rfl⟩
          show Rn w l _ n0 _ 95 #[.val (.ref o), .val (.int p1), .val (.ref t), .val (.ref st), .val (.int (p1 &&& (3 : Int32))), .val .null, .val (.ref aFAILED)] [(.ref aFAILED)] h0 0 0
          refine Rn.aload K (q := 97) d10_95 rfl rfl rfl ?_
          refine Rn.acN K (q := 100) d10_97 rfl rfl (XT.aa_ne_f rfl) rfl ?_
          refine Rn.iconst K (q := 101) (1 : Int32) d10_100 rfl rfl ?_
          refine Rn.goto K (q := 105) d10_101 (by decide) (by decide) ?_
          exact Rn.retN K .boolean rfl (by simp) d10_105 (by decide) (by decide) ⟨rfl, X0, n, by omega, Eo, go, Et, Ff, L, Es, gs, _, _, _, _, Fv, As, Or.inr ⟨by omega, rfl⟩, Or.inl ⟨rfl, rfl⟩⟩
        · refine Rn.icN K (q := 43) d10_40 (XT.ii_lt_f hc40) rfl ?_
          refine Rn.aloadN K (q := 44) d10_43 rfl rfl rfl ?_
          refine Rn.aload K (q := 46) d10_44 rfl rfl rfl ?_
          refine Rn.virt K (q := 49) (W := 0) (y := (⟨"com/example/verdict/verdict/outcome/TestOutcome", "addAssumptionFailure", "(Ljava/lang/Throwable;)V"⟩ : MethodName)) (z := (⟨"com/example/verdict/verdict/outcome/TestOutcome", "addAssumptionFailure", "(Ljava/lang/Throwable;)V"⟩ : MethodName)) (b := o) (argsL := [.null]) (rest := []) (List.mem_of_getElem? (i := 98) rfl) (List.mem_of_getElem? (i := 99) rfl) (nfs K (List.mem_of_getElem? (i := 101) rfl)) (List.mem_of_getElem? (i := 101) rfl) (List.mem_of_getElem? (i := 100) rfl) (List.mem_of_getElem? (i := 102) rfl) (List.mem_of_getElem? (i := 40) rfl) (by decide) (m_aaN l Z a0 hw n0 h0 o lst .null X0 Eo go Ff Fv (Or.inl rfl)) Eo (by decide) (by decide) rfl (lenOf pd_7 rfl) rfl (Nat.le_of_ble_eq_true rfl) d10_46 rfl (by decide) (by decide) ?_
          rintro _ h61 ⟨rfl, K62, F63, F64⟩
          have f65 := X0.keep K62 (allS go all0)
          have f66 := Eo.keep K62
          have f67 := Et.keep K62
          have f68 := Es.keep K62
          have f69 := As.keep K62 (ninS (ne_exa Es Eo (by decide)) nin0)
          have f70 := ALs.keep L K62 Eo (by decide) (by decide)
          show Rn w l _ n0 _ 49 #[.val (.ref o), .val (.int p1), .val (.ref t), .val (.ref st), .val (.int (p1 &&& (3 : Int32))), .val .null, .unset] [] h61 0 0
          refine Rn.aload K (q := 51) d10_49 rfl rfl rfl ?_
          refine Rn.nullY K (q := 58) d10_51 (by decide) (by decide) ?_
          refine Rn.aloadN K (q := 59) d10_58 rfl rfl rfl ?_
          refine Rn.iconst K (q := 60) (0 : Int32) d10_59 rfl rfl ?_
          refine Rn.baloadZ K (q := 61) (v := (.int (1 : Int32))) f69 (by decide) rfl d10_60 rfl ?_
          refine Rn.ifN K (q := 64) d10_61 (XT.i0_eq_f (by decide)) rfl ?_
          refine Rn.getS K (q := 67) (List.mem_of_getElem? (i := 142) rfl) (SFAILED.ext f65.2) d10_64 rfl ?_
          refine Rn.astore K (q := 69) (Ls' := #[.val (.ref o), .val (.int p1), .val (.ref t), .val (.ref st), .val (.int (p1 &&& (3 : Int32))), .val .null, .val (.ref aFAILED)]) d10_67 rfl rfl rfl ?_
          refine Rn.goto K (q := 91) d10_69 (by decide) (by decide) ?_
          refine Rn.aloadN K (q := 92) d10_91 rfl rfl rfl ?_
          refine Rn.virt K (q := 95) (W := 0) (y := (⟨"com/example/verdict/verdict/outcome/TestOutcome", "kind", "()Lcom/example/verdict/verdict/outcome/TestOutcome$Kind;"⟩ : MethodName)) (z := (⟨"com/example/verdict/verdict/outcome/TestOutcome", "kind", "()Lcom/example/verdict/verdict/outcome/TestOutcome$Kind;"⟩ : MethodName)) (b := o) (argsL := []) (rest := []) (List.mem_of_getElem? (i := 72) rfl) (List.mem_of_getElem? (i := 73) rfl) (nfs K (List.mem_of_getElem? (i := 75) rfl)) (List.mem_of_getElem? (i := 75) rfl) (List.mem_of_getElem? (i := 74) rfl) (List.mem_of_getElem? (i := 76) rfl) (List.mem_of_getElem? (i := 40) rfl) (by decide) (m_kindN1 l Z a0 hw n0 h61 o lst aPASSED aSKIPPED aFAILED (Int32.ofNat n) f65 SPASSED SSKIPPED SFAILED F63 F64 f70.1 f70.2.2.1 (own_nz (by omega) (by omega))) f66 (by decide) (by decide) rfl (lenOf pd_8 rfl) rfl (Nat.le_of_ble_eq_true rfl) d10_92 rfl (by decide) (by decide) ?_
          rintro _ _ ⟨rfl, rfl⟩
          show Rn w l _ n0 _ 95 #[.val (.ref o), .val (.int p1), .val (.ref t), .val (.ref st), .val (.int (p1 &&& (3 : Int32))), .val .null, .val (.ref aFAILED)] [(.ref aFAILED)] h61 0 0
          refine Rn.aload K (q := 97) d10_95 rfl rfl rfl ?_
          refine Rn.acN K (q := 100) d10_97 rfl rfl (XT.aa_ne_f rfl) rfl ?_
          refine Rn.iconst K (q := 101) (1 : Int32) d10_100 rfl rfl ?_
          refine Rn.goto K (q := 105) d10_101 (by decide) (by decide) ?_
          exact Rn.retN K .boolean rfl (by simp) d10_105 (by decide) (by decide) ⟨rfl, f65, n, by omega, f66, go, f67, F63, f70, f68, gs, _, _, _, _, F64, f69, Or.inr ⟨by omega, rfl⟩, Or.inl ⟨rfl, rfl⟩⟩
  · refine Rn.iloadN K (q := 1) d10_0 rfl rfl ?_
    refine Rn.iconst K (q := 2) (3 : Int32) d10_1 rfl rfl ?_
    refine Rn.iand K (q := 3) d10_2 rfl ?_
    refine Rn.istore K (q := 5) (Ls' := #[.val (.ref o), .val (.int p1), .val (.ref t), .val (.ref st), .val (.int (p1 &&& (3 : Int32))), .unset, .unset]) d10_3 rfl rfl ?_
    refine Rn.iloadN K (q := 6) d10_5 rfl rfl ?_
    refine Rn.iconst K (q := 7) (4 : Int32) d10_6 rfl rfl ?_
    refine Rn.iand K (q := 8) d10_7 rfl ?_
    by_cases hc8 : (p1 &&& (4 : Int32)) = (0 : Int32)
    · refine Rn.ifN K (q := 11) d10_8 (XT.i0_ne_f hc8) rfl ?_
      refine Rn.aloadN K (q := 12) d10_11 rfl rfl rfl ?_
      refine Rn.goto K (q := 16) d10_12 (by decide) (by decide) ?_
      refine Rn.astore K (q := 18) (Ls' := #[.val (.ref o), .val (.int p1), .val (.ref t), .val (.ref st), .val (.int (p1 &&& (3 : Int32))), .val (.ref t), .unset]) d10_16 rfl rfl rfl ?_
      refine Rn.iload K (q := 20) d10_18 rfl rfl ?_
      refine Rn.iconst K (q := 21) (1 : Int32) d10_20 rfl rfl ?_
      by_cases hc21 : (p1 &&& (3 : Int32)) = (1 : Int32)
      · refine Rn.icN K (q := 24) d10_21 (XT.ii_ne_f hc21) rfl ?_
        refine Rn.aloadN K (q := 25) d10_24 rfl rfl rfl ?_
        refine Rn.aload K (q := 27) d10_25 rfl rfl rfl ?_
        refine Rn.virt K (q := 30) (W := 0) (y := (⟨"com/example/verdict/verdict/outcome/TestOutcome", "addFailure", "(Ljava/lang/Throwable;)V"⟩ : MethodName)) (z := (⟨"com/example/verdict/verdict/outcome/TestOutcome", "addFailure", "(Ljava/lang/Throwable;)V"⟩ : MethodName)) (b := o) (argsL := [(.ref t)]) (rest := []) (List.mem_of_getElem? (i := 106) rfl) (List.mem_of_getElem? (i := 107) rfl) (nfs K (List.mem_of_getElem? (i := 109) rfl)) (List.mem_of_getElem? (i := 109) rfl) (List.mem_of_getElem? (i := 108) rfl) (List.mem_of_getElem? (i := 110) rfl) (List.mem_of_getElem? (i := 40) rfl) (by decide) (m_af l Z a0 hw n0 h0 o lst dc (.ref t) kd n Ff (by omega) X0 L SD AD ED (Or.inr ⟨_, rfl, Et⟩)) Eo (by decide) (by decide) rfl (lenOf pd_7 rfl) rfl (Nat.le_of_ble_eq_true rfl) d10_27 rfl (by decide) (by decide) ?_
        rintro _ h1 ⟨rfl, K2, L3⟩
        have f4 := Old.keepc X0 K2
        have f5 := Exa.keepc Eo K2
        have f6 := Exa.keepc Et K2
        have f7 := Fld.keepc Ff Eo (by decide) K2
        have f8 := Fld.keepc Fv Eo (by decide) K2
        have f9 := Exa.keepc Es K2
        have f10 := Arv.keepc As Es (by decide) K2
        show Rn w l _ n0 _ 30 #[.val (.ref o), .val (.int p1), .val (.ref t), .val (.ref st), .val (.int (p1 &&& (3 : Int32))), .val (.ref t), .unset] [] h1 1 10
        refine Rn.aloadN K (q := 31) d10_30 rfl rfl rfl ?_
        refine Rn.iconst K (q := 32) (0 : Int32) d10_31 rfl rfl ?_
        refine Rn.iconst K (q := 33) (1 : Int32) d10_32 rfl rfl ?_
        refine Rn.bastoreZ K (q := 34) (i := 0) f10 (by decide) rfl (Nat.le_of_ble_eq_true rfl) gs d10_33 rfl ?_
        intro h11 W12 A13
        have f14 := f4.wr W12 gs
        have f15 := f5.wr W12
        have f16 := f6.wr W12
        have f17 := Fld.other W12 f7 (Or.inl (ne_exa f5 f9 (by decide)))
        have f18 := Fld.other W12 f8 (Or.inl (ne_exa f5 f9 (by decide)))
        have f19 := f9.wr W12
        have f20 := ALs.wr L3 W12 f9 (by decide) (by decide)
        replace A13 : Arv Z h11 st k .boolean (2 : Int32) [(.int (1 : Int32)), (.int (1 : Int32))] (.int (0 : Int32)) := A13
        refine Rn.goto K (q := 58) d10_34 (by decide) (by decide) ?_
        refine Rn.aloadN K (q := 59) d10_58 rfl rfl rfl ?_
        refine Rn.iconst K (q := 60) (0 : Int32) d10_59 rfl rfl ?_
        refine Rn.baloadZ K (q := 61) (v := (.int (1 : Int32))) A13 (by decide) rfl d10_60 rfl ?_
        refine Rn.ifN K (q := 64) d10_61 (XT.i0_eq_f (by decide)) rfl ?_
        refine Rn.getS K (q := 67) (List.mem_of_getElem? (i := 142) rfl) (SFAILED.ext f14.2) d10_64 rfl ?_
        refine Rn.astore K (q := 69) (Ls' := #[.val (.ref o), .val (.int p1), .val (.ref t), .val (.ref st), .val (.int (p1 &&& (3 : Int32))), .val (.ref t), .val (.ref aFAILED)]) d10_67 rfl rfl rfl ?_
        refine Rn.goto K (q := 91) d10_69 (by decide) (by decide) ?_
        refine Rn.aloadN K (q := 92) d10_91 rfl rfl rfl ?_
        refine Rn.virt K (q := 95) (W := 0) (y := (⟨"com/example/verdict/verdict/outcome/TestOutcome", "kind", "()Lcom/example/verdict/verdict/outcome/TestOutcome$Kind;"⟩ : MethodName)) (z := (⟨"com/example/verdict/verdict/outcome/TestOutcome", "kind", "()Lcom/example/verdict/verdict/outcome/TestOutcome$Kind;"⟩ : MethodName)) (b := o) (argsL := []) (rest := []) (List.mem_of_getElem? (i := 72) rfl) (List.mem_of_getElem? (i := 73) rfl) (nfs K (List.mem_of_getElem? (i := 75) rfl)) (List.mem_of_getElem? (i := 75) rfl) (List.mem_of_getElem? (i := 74) rfl) (List.mem_of_getElem? (i := 76) rfl) (List.mem_of_getElem? (i := 40) rfl) (by decide) (m_kindR1 l Z a0 hw n0 h11 o lst x aPASSED aSKIPPED aFAILED (Int32.ofNat (n + 1)) f14 SPASSED SSKIPPED SFAILED f17 f18 f20.1 f20.2.2.1 (own_nz (by omega) (by omega))) f15 (by decide) (by decide) rfl (lenOf pd_8 rfl) rfl (Nat.le_of_ble_eq_true rfl) d10_92 rfl (by decide) (by decide) ?_
        rintro _ _ ⟨rfl, rfl⟩
        show Rn w l _ n0 _ 95 #[.val (.ref o), .val (.int p1), .val (.ref t), .val (.ref st), .val (.int (p1 &&& (3 : Int32))), .val (.ref t), .val (.ref aFAILED)] [(.ref aFAILED)] h11 1 10
        refine Rn.aload K (q := 97) d10_95 rfl rfl rfl ?_
        refine Rn.acN K (q := 100) d10_97 rfl rfl (XT.aa_ne_f rfl) rfl ?_
        refine Rn.iconst K (q := 101) (1 : Int32) d10_100 rfl rfl ?_
        refine Rn.goto K (q := 105) d10_101 (by decide) (by decide) ?_
        exact Rn.retN K .boolean rfl (by simp) d10_105 (by decide) (by decide) ⟨rfl, f14, (n + 1), by omega, f15, go, f16, f17, f20, f19, gs, _, _, _, _, f18, A13, Or.inr ⟨by omega, rfl⟩, Or.inr ⟨_, rfl, rfl⟩⟩
      · refine Rn.icY K (q := 37) d10_21 (XT.ii_ne_t hc21) (by decide) (by decide) ?_
        refine Rn.iload K (q := 39) d10_37 rfl rfl ?_
        refine Rn.iconst K (q := 40) (2 : Int32) d10_39 rfl rfl ?_
        by_cases hc40 : (p1 &&& (3 : Int32)) < (2 : Int32)
        · refine Rn.icY K (q := 58) d10_40 (XT.ii_lt_t hc40) (by decide) (by decide) ?_
          refine Rn.aloadN K (q := 59) d10_58 rfl rfl rfl ?_
          refine Rn.iconst K (q := 60) (0 : Int32) d10_59 rfl rfl ?_
          refine Rn.baloadZ K (q := 61) (v := (.int (1 : Int32))) As (by decide) rfl d10_60 rfl ?_
          refine Rn.ifN K (q := 64) d10_61 (XT.i0_eq_f (by decide)) rfl ?_
          refine Rn.getS K (q := 67) (List.mem_of_getElem? (i := 142) rfl) (SFAILED.ext X0.2) d10_64 rfl ?_
          refine Rn.astore K (q := 69) (Ls' := #[.val (.ref o), .val (.int p1), .val (.ref t), .val (.ref st), .val (.int (p1 &&& (3 : Int32))), .val (.ref t), .val (.ref aFAILED)]) d10_67 rfl rfl rfl ?_
          refine Rn.goto K (q := 91) d10_69 (by decide) (by decide) ?_
          refine Rn.aloadN K (q := 92) d10_91 rfl rfl rfl ?_
          refine Rn.virt K (q := 95) (W := 0) (y := (⟨"com/example/verdict/verdict/outcome/TestOutcome", "kind", "()Lcom/example/verdict/verdict/outcome/TestOutcome$Kind;"⟩ : MethodName)) (z := (⟨"com/example/verdict/verdict/outcome/TestOutcome", "kind", "()Lcom/example/verdict/verdict/outcome/TestOutcome$Kind;"⟩ : MethodName)) (b := o) (argsL := []) (rest := []) (List.mem_of_getElem? (i := 72) rfl) (List.mem_of_getElem? (i := 73) rfl) (nfs K (List.mem_of_getElem? (i := 75) rfl)) (List.mem_of_getElem? (i := 75) rfl) (List.mem_of_getElem? (i := 74) rfl) (List.mem_of_getElem? (i := 76) rfl) (List.mem_of_getElem? (i := 40) rfl) (by decide) (m_kindR1 l Z a0 hw n0 h0 o lst x aPASSED aSKIPPED aFAILED (Int32.ofNat n) X0 SPASSED SSKIPPED SFAILED Ff Fv L.1 L.2.2.1 (own_nz (by omega) (by omega))) Eo (by decide) (by decide) rfl (lenOf pd_8 rfl) rfl (Nat.le_of_ble_eq_true rfl) d10_92 rfl (by decide) (by decide) ?_
          rintro _ _ ⟨rfl, rfl⟩
          show Rn w l _ n0 _ 95 #[.val (.ref o), .val (.int p1), .val (.ref t), .val (.ref st), .val (.int (p1 &&& (3 : Int32))), .val (.ref t), .val (.ref aFAILED)] [(.ref aFAILED)] h0 0 0
          refine Rn.aload K (q := 97) d10_95 rfl rfl rfl ?_
          refine Rn.acN K (q := 100) d10_97 rfl rfl (XT.aa_ne_f rfl) rfl ?_
          refine Rn.iconst K (q := 101) (1 : Int32) d10_100 rfl rfl ?_
          refine Rn.goto K (q := 105) d10_101 (by decide) (by decide) ?_
          exact Rn.retN K .boolean rfl (by simp) d10_105 (by decide) (by decide) ⟨rfl, X0, n, by omega, Eo, go, Et, Ff, L, Es, gs, _, _, _, _, Fv, As, Or.inr ⟨by omega, rfl⟩, Or.inr ⟨_, rfl, rfl⟩⟩
        · refine Rn.icN K (q := 43) d10_40 (XT.ii_lt_f hc40) rfl ?_
          refine Rn.aloadN K (q := 44) d10_43 rfl rfl rfl ?_
          refine Rn.aload K (q := 46) d10_44 rfl rfl rfl ?_
          refine Rn.virt K (q := 49) (W := 0) (y := (⟨"com/example/verdict/verdict/outcome/TestOutcome", "addAssumptionFailure", "(Ljava/lang/Throwable;)V"⟩ : MethodName)) (z := (⟨"com/example/verdict/verdict/outcome/TestOutcome", "addAssumptionFailure", "(Ljava/lang/Throwable;)V"⟩ : MethodName)) (b := o) (argsL := [(.ref t)]) (rest := []) (List.mem_of_getElem? (i := 98) rfl) (List.mem_of_getElem? (i := 99) rfl) (nfs K (List.mem_of_getElem? (i := 101) rfl)) (List.mem_of_getElem? (i := 101) rfl) (List.mem_of_getElem? (i := 100) rfl) (List.mem_of_getElem? (i := 102) rfl) (List.mem_of_getElem? (i := 40) rfl) (by decide) (m_aaR l Z a0 hw n0 h0 o x (.ref t) rfl Fv) Eo (by decide) (by decide) rfl (lenOf pd_7 rfl) rfl (Nat.le_of_ble_eq_true rfl) d10_46 rfl (by decide) (by decide) ?_
          rintro _ _ ⟨rfl, rfl⟩
          show Rn w l _ n0 _ 49 #[.val (.ref o), .val (.int p1), .val (.ref t), .val (.ref st), .val (.int (p1 &&& (3 : Int32))), .val (.ref t), .unset] [] h0 0 0
          refine Rn.aload K (q := 51) d10_49 rfl rfl rfl ?_
          refine Rn.nullN K (q := 54) d10_51 rfl ?_
          refine Rn.aloadN K (q := 55) d10_54 rfl rfl rfl ?_
          refine Rn.iconst K (q := 56) (1 : Int32) d10_55 rfl rfl ?_
          refine Rn.iconst K (q := 57) (1 : Int32) d10_56 rfl rfl ?_
          refine Rn.bastoreZ K (q := 58) (i := 1) As (by decide) rfl (Nat.le_of_ble_eq_true rfl) gs d10_57 rfl ?_
          intro h21 W22 A23
          have f24 := X0.wr W22 gs
          have f25 := Eo.wr W22
          have f26 := Et.wr W22
          have f27 := Fld.other W22 Ff (Or.inl (ne_exa Eo Es (by decide)))
          have f28 := Fld.other W22 Fv (Or.inl (ne_exa Eo Es (by decide)))
          have f29 := Es.wr W22
          have f30 := ALs.wr L W22 Es (by decide) (by decide)
          replace A23 : Arv Z h21 st k .boolean (2 : Int32) [(.int (1 : Int32)), (.int (1 : Int32))] (.int (0 : Int32)) := A23
          refine Rn.aloadN K (q := 59) d10_58 rfl rfl rfl ?_
          refine Rn.iconst K (q := 60) (0 : Int32) d10_59 rfl rfl ?_
          refine Rn.baloadZ K (q := 61) (v := (.int (1 : Int32))) A23 (by decide) rfl d10_60 rfl ?_
          refine Rn.ifN K (q := 64) d10_61 (XT.i0_eq_f (by decide)) rfl ?_
          refine Rn.getS K (q := 67) (List.mem_of_getElem? (i := 142) rfl) (SFAILED.ext f24.2) d10_64 rfl ?_
          refine Rn.astore K (q := 69) (Ls' := #[.val (.ref o), .val (.int p1), .val (.ref t), .val (.ref st), .val (.int (p1 &&& (3 : Int32))), .val (.ref t), .val (.ref aFAILED)]) d10_67 rfl rfl rfl ?_
          refine Rn.goto K (q := 91) d10_69 (by decide) (by decide) ?_
          refine Rn.aloadN K (q := 92) d10_91 rfl rfl rfl ?_
          refine Rn.virt K (q := 95) (W := 0) (y := (⟨"com/example/verdict/verdict/outcome/TestOutcome", "kind", "()Lcom/example/verdict/verdict/outcome/TestOutcome$Kind;"⟩ : MethodName)) (z := (⟨"com/example/verdict/verdict/outcome/TestOutcome", "kind", "()Lcom/example/verdict/verdict/outcome/TestOutcome$Kind;"⟩ : MethodName)) (b := o) (argsL := []) (rest := []) (List.mem_of_getElem? (i := 72) rfl) (List.mem_of_getElem? (i := 73) rfl) (nfs K (List.mem_of_getElem? (i := 75) rfl)) (List.mem_of_getElem? (i := 75) rfl) (List.mem_of_getElem? (i := 74) rfl) (List.mem_of_getElem? (i := 76) rfl) (List.mem_of_getElem? (i := 40) rfl) (by decide) (m_kindR1 l Z a0 hw n0 h21 o lst x aPASSED aSKIPPED aFAILED (Int32.ofNat n) f24 SPASSED SSKIPPED SFAILED f27 f28 f30.1 f30.2.2.1 (own_nz (by omega) (by omega))) f25 (by decide) (by decide) rfl (lenOf pd_8 rfl) rfl (Nat.le_of_ble_eq_true rfl) d10_92 rfl (by decide) (by decide) ?_
          rintro _ _ ⟨rfl, rfl⟩
          show Rn w l _ n0 _ 95 #[.val (.ref o), .val (.int p1), .val (.ref t), .val (.ref st), .val (.int (p1 &&& (3 : Int32))), .val (.ref t), .val (.ref aFAILED)] [(.ref aFAILED)] h21 0 0
          refine Rn.aload K (q := 97) d10_95 rfl rfl rfl ?_
          refine Rn.acN K (q := 100) d10_97 rfl rfl (XT.aa_ne_f rfl) rfl ?_
          refine Rn.iconst K (q := 101) (1 : Int32) d10_100 rfl rfl ?_
          refine Rn.goto K (q := 105) d10_101 (by decide) (by decide) ?_
          exact Rn.retN K .boolean rfl (by simp) d10_105 (by decide) (by decide) ⟨rfl, f24, n, by omega, f25, go, f26, f27, f30, f29, gs, _, _, _, _, f28, A23, Or.inr ⟨by omega, rfl⟩, Or.inr ⟨_, rfl, rfl⟩⟩
    · refine Rn.ifY K (q := 15) d10_8 (XT.i0_ne_t hc8) (by decide) (by decide) ?_
      refine Rn.aconst_null K (q := 16) d10_15 rfl ?_
      refine Rn.astore K (q := 18) (Ls' := #[.val (.ref o), .val (.int p1), .val (.ref t), .val (.ref st), .val (.int (p1 &&& (3 : Int32))), .val .null, .unset]) d10_16 rfl rfl rfl ?_
      refine Rn.iload K (q := 20) d10_18 rfl rfl ?_
      refine Rn.iconst K (q := 21) (1 : Int32) d10_20 rfl rfl ?_
      by_cases hc21 : (p1 &&& (3 : Int32)) = (1 : Int32)
      · refine Rn.icN K (q := 24) d10_21 (XT.ii_ne_f hc21) rfl ?_
        refine Rn.aloadN K (q := 25) d10_24 rfl rfl rfl ?_
        refine Rn.aload K (q := 27) d10_25 rfl rfl rfl ?_
        refine Rn.virt K (q := 30) (W := 0) (y := (⟨"com/example/verdict/verdict/outcome/TestOutcome", "addFailure", "(Ljava/lang/Throwable;)V"⟩ : MethodName)) (z := (⟨"com/example/verdict/verdict/outcome/TestOutcome", "addFailure", "(Ljava/lang/Throwable;)V"⟩ : MethodName)) (b := o) (argsL := [.null]) (rest := []) (List.mem_of_getElem? (i := 106) rfl) (List.mem_of_getElem? (i := 107) rfl) (nfs K (List.mem_of_getElem? (i := 109) rfl)) (List.mem_of_getElem? (i := 109) rfl) (List.mem_of_getElem? (i := 108) rfl) (List.mem_of_getElem? (i := 110) rfl) (List.mem_of_getElem? (i := 40) rfl) (by decide) (m_af l Z a0 hw n0 h0 o lst dc .null kd n Ff (by omega) X0 L SD AD ED (Or.inl rfl)) Eo (by decide) (by decide) rfl (lenOf pd_7 rfl) rfl (Nat.le_of_ble_eq_true rfl) d10_27 rfl (by decide) (by decide) ?_
        rintro _ h31 ⟨rfl, K32, L33⟩
        have f34 := Old.keepc X0 K32
        have f35 := Exa.keepc Eo K32
        have f36 := Exa.keepc Et K32
        have f37 := Fld.keepc Ff Eo (by decide) K32
        have f38 := Fld.keepc Fv Eo (by decide) K32
        have f39 := Exa.keepc Es K32
        have f40 := Arv.keepc As Es (by decide) K32
        show Rn w l _ n0 _ 30 #[.val (.ref o), .val (.int p1), .val (.ref t), .val (.ref st), .val (.int (p1 &&& (3 : Int32))), .val .null, .unset] [] h31 1 10
        refine Rn.aloadN K (q := 31) d10_30 rfl rfl rfl ?_
        refine Rn.iconst K (q := 32) (0 : Int32) d10_31 rfl rfl ?_
        refine Rn.iconst K (q := 33) (1 : Int32) d10_32 rfl rfl ?_
        refine Rn.bastoreZ K (q := 34) (i := 0) f40 (by decide) rfl (Nat.le_of_ble_eq_true rfl) gs d10_33 rfl ?_
        intro h41 W42 A43
        have f44 := f34.wr W42 gs
        have f45 := f35.wr W42
        have f46 := f36.wr W42
        have f47 := Fld.other W42 f37 (Or.inl (ne_exa f35 f39 (by decide)))
        have f48 := Fld.other W42 f38 (Or.inl (ne_exa f35 f39 (by decide)))
        have f49 := f39.wr W42
        have f50 := ALs.wr L33 W42 f39 (by decide) (by decide)
        replace A43 : Arv Z h41 st k .boolean (2 : Int32) [(.int (1 : Int32)), (.int (1 : Int32))] (.int (0 : Int32)) := A43
        refine Rn.goto K (q := 58) d10_34 (by decide) (by decide) ?_
        refine Rn.aloadN K (q := 59) d10_58 rfl rfl rfl ?_
        refine Rn.iconst K (q := 60) (0 : Int32) d10_59 rfl rfl ?_
        refine Rn.baloadZ K (q := 61) (v := (.int (1 : Int32))) A43 (by decide) rfl d10_60 rfl ?_
        refine Rn.ifN K (q := 64) d10_61 (XT.i0_eq_f (by decide)) rfl ?_
        refine Rn.getS K (q := 67) (List.mem_of_getElem? (i := 142) rfl) (SFAILED.ext f44.2) d10_64 rfl ?_
        refine Rn.astore K (q := 69) (Ls' := #[.val (.ref o), .val (.int p1), .val (.ref t), .val (.ref st), .val (.int (p1 &&& (3 : Int32))), .val .null, .val (.ref aFAILED)]) d10_67 rfl rfl rfl ?_
        refine Rn.goto K (q := 91) d10_69 (by decide) (by decide) ?_
        refine Rn.aloadN K (q := 92) d10_91 rfl rfl rfl ?_
        refine Rn.virt K (q := 95) (W := 0) (y := (⟨"com/example/verdict/verdict/outcome/TestOutcome", "kind", "()Lcom/example/verdict/verdict/outcome/TestOutcome$Kind;"⟩ : MethodName)) (z := (⟨"com/example/verdict/verdict/outcome/TestOutcome", "kind", "()Lcom/example/verdict/verdict/outcome/TestOutcome$Kind;"⟩ : MethodName)) (b := o) (argsL := []) (rest := []) (List.mem_of_getElem? (i := 72) rfl) (List.mem_of_getElem? (i := 73) rfl) (nfs K (List.mem_of_getElem? (i := 75) rfl)) (List.mem_of_getElem? (i := 75) rfl) (List.mem_of_getElem? (i := 74) rfl) (List.mem_of_getElem? (i := 76) rfl) (List.mem_of_getElem? (i := 40) rfl) (by decide) (m_kindR1 l Z a0 hw n0 h41 o lst x aPASSED aSKIPPED aFAILED (Int32.ofNat (n + 1)) f44 SPASSED SSKIPPED SFAILED f47 f48 f50.1 f50.2.2.1 (own_nz (by omega) (by omega))) f45 (by decide) (by decide) rfl (lenOf pd_8 rfl) rfl (Nat.le_of_ble_eq_true rfl) d10_92 rfl (by decide) (by decide) ?_
        rintro _ _ ⟨rfl, rfl⟩
        show Rn w l _ n0 _ 95 #[.val (.ref o), .val (.int p1), .val (.ref t), .val (.ref st), .val (.int (p1 &&& (3 : Int32))), .val .null, .val (.ref aFAILED)] [(.ref aFAILED)] h41 1 10
        refine Rn.aload K (q := 97) d10_95 rfl rfl rfl ?_
        refine Rn.acN K (q := 100) d10_97 rfl rfl (XT.aa_ne_f rfl) rfl ?_
        refine Rn.iconst K (q := 101) (1 : Int32) d10_100 rfl rfl ?_
        refine Rn.goto K (q := 105) d10_101 (by decide) (by decide) ?_
        exact Rn.retN K .boolean rfl (by simp) d10_105 (by decide) (by decide) ⟨rfl, f44, (n + 1), by omega, f45, go, f46, f47, f50, f49, gs, _, _, _, _, f48, A43, Or.inr ⟨by omega, rfl⟩, Or.inr ⟨_, rfl, rfl⟩⟩
      · refine Rn.icY K (q := 37) d10_21 (XT.ii_ne_t hc21) (by decide) (by decide) ?_
        refine Rn.iload K (q := 39) d10_37 rfl rfl ?_
        refine Rn.iconst K (q := 40) (2 : Int32) d10_39 rfl rfl ?_
        by_cases hc40 : (p1 &&& (3 : Int32)) < (2 : Int32)
        · refine Rn.icY K (q := 58) d10_40 (XT.ii_lt_t hc40) (by decide) (by decide) ?_
          refine Rn.aloadN K (q := 59) d10_58 rfl rfl rfl ?_
          refine Rn.iconst K (q := 60) (0 : Int32) d10_59 rfl rfl ?_
          refine Rn.baloadZ K (q := 61) (v := (.int (1 : Int32))) As (by decide) rfl d10_60 rfl ?_
          refine Rn.ifN K (q := 64) d10_61 (XT.i0_eq_f (by decide)) rfl ?_
          refine Rn.getS K (q := 67) (List.mem_of_getElem? (i := 142) rfl) (SFAILED.ext X0.2) d10_64 rfl ?_
          refine Rn.astore K (q := 69) (Ls' := #[.val (.ref o), .val (.int p1), .val (.ref t), .val (.ref st), .val (.int (p1 &&& (3 : Int32))), .val .null, .val (.ref aFAILED)]) d10_67 rfl rfl rfl ?_
          refine Rn.goto K (q := 91) d10_69 (by decide) (by decide) ?_
          refine Rn.aloadN K (q := 92) d10_91 rfl rfl rfl ?_
          refine Rn.virt K (q := 95) (W := 0) (y := (⟨"com/example/verdict/verdict/outcome/TestOutcome", "kind", "()Lcom/example/verdict/verdict/outcome/TestOutcome$Kind;"⟩ : MethodName)) (z := (⟨"com/example/verdict/verdict/outcome/TestOutcome", "kind", "()Lcom/example/verdict/verdict/outcome/TestOutcome$Kind;"⟩ : MethodName)) (b := o) (argsL := []) (rest := []) (List.mem_of_getElem? (i := 72) rfl) (List.mem_of_getElem? (i := 73) rfl) (nfs K (List.mem_of_getElem? (i := 75) rfl)) (List.mem_of_getElem? (i := 75) rfl) (List.mem_of_getElem? (i := 74) rfl) (List.mem_of_getElem? (i := 76) rfl) (List.mem_of_getElem? (i := 40) rfl) (by decide) (m_kindR1 l Z a0 hw n0 h0 o lst x aPASSED aSKIPPED aFAILED (Int32.ofNat n) X0 SPASSED SSKIPPED SFAILED Ff Fv L.1 L.2.2.1 (own_nz (by omega) (by omega))) Eo (by decide) (by decide) rfl (lenOf pd_8 rfl) rfl (Nat.le_of_ble_eq_true rfl) d10_92 rfl (by decide) (by decide) ?_
          rintro _ _ ⟨rfl, rfl⟩
          show Rn w l _ n0 _ 95 #[.val (.ref o), .val (.int p1), .val (.ref t), .val (.ref st), .val (.int (p1 &&& (3 : Int32))), .val .null, .val (.ref aFAILED)] [(.ref aFAILED)] h0 0 0
          refine Rn.aload K (q := 97) d10_95 rfl rfl rfl ?_
          refine Rn.acN K (q := 100) d10_97 rfl rfl (XT.aa_ne_f rfl) rfl ?_
          refine Rn.iconst K (q := 101) (1 : Int32) d10_100 rfl rfl ?_
          refine Rn.goto K (q := 105) d10_101 (by decide) (by decide) ?_
          exact Rn.retN K .boolean rfl (by simp) d10_105 (by decide) (by decide) ⟨rfl, X0, n, by omega, Eo, go, Et, Ff, L, Es, gs, _, _, _, _, Fv, As, Or.inr ⟨by omega, rfl⟩, Or.inr ⟨_, rfl, rfl⟩⟩
        · refine Rn.icN K (q := 43) d10_40 (XT.ii_lt_f hc40) rfl ?_
          refine Rn.aloadN K (q := 44) d10_43 rfl rfl rfl ?_
          refine Rn.aload K (q := 46) d10_44 rfl rfl rfl ?_
          refine Rn.virt K (q := 49) (W := 0) (y := (⟨"com/example/verdict/verdict/outcome/TestOutcome", "addAssumptionFailure", "(Ljava/lang/Throwable;)V"⟩ : MethodName)) (z := (⟨"com/example/verdict/verdict/outcome/TestOutcome", "addAssumptionFailure", "(Ljava/lang/Throwable;)V"⟩ : MethodName)) (b := o) (argsL := [.null]) (rest := []) (List.mem_of_getElem? (i := 98) rfl) (List.mem_of_getElem? (i := 99) rfl) (nfs K (List.mem_of_getElem? (i := 101) rfl)) (List.mem_of_getElem? (i := 101) rfl) (List.mem_of_getElem? (i := 100) rfl) (List.mem_of_getElem? (i := 102) rfl) (List.mem_of_getElem? (i := 40) rfl) (by decide) (m_aaR l Z a0 hw n0 h0 o x .null rfl Fv) Eo (by decide) (by decide) rfl (lenOf pd_7 rfl) rfl (Nat.le_of_ble_eq_true rfl) d10_46 rfl (by decide) (by decide) ?_
          rintro _ _ ⟨rfl, rfl⟩
          show Rn w l _ n0 _ 49 #[.val (.ref o), .val (.int p1), .val (.ref t), .val (.ref st), .val (.int (p1 &&& (3 : Int32))), .val .null, .unset] [] h0 0 0
          refine Rn.aload K (q := 51) d10_49 rfl rfl rfl ?_
          refine Rn.nullY K (q := 58) d10_51 (by decide) (by decide) ?_
          refine Rn.aloadN K (q := 59) d10_58 rfl rfl rfl ?_
          refine Rn.iconst K (q := 60) (0 : Int32) d10_59 rfl rfl ?_
          refine Rn.baloadZ K (q := 61) (v := (.int (1 : Int32))) As (by decide) rfl d10_60 rfl ?_
          refine Rn.ifN K (q := 64) d10_61 (XT.i0_eq_f (by decide)) rfl ?_
          refine Rn.getS K (q := 67) (List.mem_of_getElem? (i := 142) rfl) (SFAILED.ext X0.2) d10_64 rfl ?_
          refine Rn.astore K (q := 69) (Ls' := #[.val (.ref o), .val (.int p1), .val (.ref t), .val (.ref st), .val (.int (p1 &&& (3 : Int32))), .val .null, .val (.ref aFAILED)]) d10_67 rfl rfl rfl ?_
          refine Rn.goto K (q := 91) d10_69 (by decide) (by decide) ?_
          refine Rn.aloadN K (q := 92) d10_91 rfl rfl rfl ?_
          refine Rn.virt K (q := 95) (W := 0) (y := (⟨"com/example/verdict/verdict/outcome/TestOutcome", "kind", "()Lcom/example/verdict/verdict/outcome/TestOutcome$Kind;"⟩ : MethodName)) (z := (⟨"com/example/verdict/verdict/outcome/TestOutcome", "kind", "()Lcom/example/verdict/verdict/outcome/TestOutcome$Kind;"⟩ : MethodName)) (b := o) (argsL := []) (rest := []) (List.mem_of_getElem? (i := 72) rfl) (List.mem_of_getElem? (i := 73) rfl) (nfs K (List.mem_of_getElem? (i := 75) rfl)) (List.mem_of_getElem? (i := 75) rfl) (List.mem_of_getElem? (i := 74) rfl) (List.mem_of_getElem? (i := 76) rfl) (List.mem_of_getElem? (i := 40) rfl) (by decide) (m_kindR1 l Z a0 hw n0 h0 o lst x aPASSED aSKIPPED aFAILED (Int32.ofNat n) X0 SPASSED SSKIPPED SFAILED Ff Fv L.1 L.2.2.1 (own_nz (by omega) (by omega))) Eo (by decide) (by decide) rfl (lenOf pd_8 rfl) rfl (Nat.le_of_ble_eq_true rfl) d10_92 rfl (by decide) (by decide) ?_
          rintro _ _ ⟨rfl, rfl⟩
          show Rn w l _ n0 _ 95 #[.val (.ref o), .val (.int p1), .val (.ref t), .val (.ref st), .val (.int (p1 &&& (3 : Int32))), .val .null, .val (.ref aFAILED)] [(.ref aFAILED)] h0 0 0
          refine Rn.aload K (q := 97) d10_95 rfl rfl rfl ?_
          refine Rn.acN K (q := 100) d10_97 rfl rfl (XT.aa_ne_f rfl) rfl ?_
          refine Rn.iconst K (q := 101) (1 : Int32) d10_100 rfl rfl ?_
          refine Rn.goto K (q := 105) d10_101 (by decide) (by decide) ?_
          exact Rn.retN K .boolean rfl (by simp) d10_105 (by decide) (by decide) ⟨rfl, X0, n, by omega, Eo, go, Et, Ff, L, Es, gs, _, _, _, _, Fv, As, Or.inr ⟨by omega, rfl⟩, Or.inr ⟨_, rfl, rfl⟩⟩
theorem own_exc {Z : State} {a0 : Array Value} (hw : ∀ d ∈ tables_1, d.before a0 Z = true) : ∀ d ∈ Jvm.Free.Exc.excAtoms "java/lang/Throwable", d.before a0 Z = true := fun d hd => hw d ((by decide +kernel : ∀ d ∈ Jvm.Free.Exc.excAtoms "java/lang/Throwable", d ∈ tables_1) d hd)
set_option maxRecDepth 65536 in
set_option maxHeartbeats 40000000 in
theorem m_thr (l : Launch) (hl : l.stackTraces = true) (Z : State) (a0 : Array Value) (hw : ∀ d ∈ tables_1, d.before a0 Z = true) (n0 : Nat) (h0 : Heap) (b : Addr) (X0 : Old Z n0 h0) (g : n0 ≤ b) (E : Exa Z h0 b "java/lang/Throwable") (U : Unt h0 b) (B : Fld Z h0 b "java/lang/Throwable" "backtrace" "Ljava/lang/Object;" .null) (M : Fld Z h0 b "java/lang/Throwable" "detailMessage" "Ljava/lang/String;" .null) (r : ∀ d ∈ twoRefs, d.before a0 Z = true) :
    MetK l Z (⟨"java/lang/Throwable", "<init>", "()V"⟩ : MethodName) jdk_78_method_1_code 1 none ({ frames := 3, cells := 1, slots := 2752, locals := 42 } : Room) n0 [] #[(.ref b)] h0 (fun v h => v = none ∧ Keep h0 h [b]) := by
  refine MetFree.of_bodySF (by decide) hisR ?_
  intro p e s m args below meth c s₁ Bd hml0 hP hK
  obtain ⟨ha, hZ, hh⟩ := hP
  subst ha
  have hx := Bd.exec
  have e0 : s₁.heap = h0 := by rw [← hh, Bd.state]; rfl
  have hT : ThS Z s.heap := by rw [hh]; exact ThS.ext X0.2 ThS.start
  have X₀ := Stand.of_body Bd
  have hal : Z.vm.Alike s₁.vm := hZ.alike.trans X₀.warmed.alike
  obtain ⟨cell, R1⟩ := recv_of X₀ hZ e0 E (hw _ (List.mem_of_getElem? (i := 1) rfl)) U B M (ThS.statics (by rw [e0, ← hh]; exact hT) hal (own_exc hw) r)
  have R2 := R1.move (U' := s) X₀.warmed.alike.symm (by rw [e0, hh])
  have W : ∀ d ∈ Jvm.Free.Exc.excAtoms "java/lang/Throwable", d.before #[Value.ref b] s = true := fun d hd => mvX hT hZ (List.all_eq_true.mp (exc_ok (rc := "java/lang/Throwable")) d hd) (own_exc hw d hd)
  obtain ⟨T6, L, n, C6, cT, iM, iC, kT, fM, fC, hn, hL, X6, -, -, -, -, -, -, -, -, -, -, -, come27⟩ := Jvm.Free.Exc.head28 X₀ hx hl (by rw [e0, hh]) (findClass_of_methodNamed Bd.named) (name_of_methodNamed Bd.named Bd.method).1 (by rw [Bd.bytes]; unfold Jvm.Free.Exc.Head; decide +kernel) W R2 hK.1 hK.2 (Ls := #[.val (.ref b)]) rfl (by rw [hml0]; rfl) (by decide) (by decide) (by decide) (by decide)
  obtain ⟨fs, hret, hrun, hended, hWend, hsame⟩ := X6.leave (v := none) (fun _ => rfl)
  have K6 := keep_of_kp (kp_of (T := s) (U := T6) hZ hh hL (fun y cy hy => X6.same.2.2.2.2.2 y cy hy))
  refine ⟨T6.setFrames fs, _, castTop (g' := mkF m 0 #[.val (.ref b)] []) rfl (come27.trans ?_), hrun, hended, none, L, rfl, ⟨fun y hy => by rw [Jvm.Free.Exc.Six.base (hL y hy)]; exact g, rfl, K6⟩, ⟨_, rfl⟩, hWend, hsame.mono (Nat.le_refl _) hn⟩
  jvm_step X6.here [X6.here.top, hx, (by rw [Bd.bytes]; decide +kernel : decode c.code 27 = .ok (.pop, 1)), Value.category]
  exact X6.returnOut hx (pc := 28) (Ls := #[.val (.ref b)]) Bd.returns (by rw [Bd.bytes]; decide +kernel : decode c.code 28 = .ok (.return_, 1)) hret
theorem pn_m_law : plainName "com/example/verdict/verdict/outcome/TestOutcomeKindPinLaw" = true := by first | (simp [plainName, overriddenIn]; done) | decide +kernel
set_option maxRecDepth 65536 in
set_option maxHeartbeats 40000000 in
theorem m_law (l : Launch) (Z : State) (a0 : Array Value) (hw : ∀ d ∈ tables_1, d.before a0 Z = true) (n0 : Nat) (h0 : Heap) (hl : l.stackTraces = true) (p1 p2 p3 p4 : Int32) (dc aPASSED aSKIPPED aFAILED : Addr) (kd : ClassId) (X0 : Old Z n0 h0) (SPASSED : Sta Z Z.heap "com/example/verdict/verdict/outcome/TestOutcome$Kind" "PASSED" "Lcom/example/verdict/verdict/outcome/TestOutcome$Kind;" (.ref aPASSED)) (SSKIPPED : Sta Z Z.heap "com/example/verdict/verdict/outcome/TestOutcome$Kind" "SKIPPED" "Lcom/example/verdict/verdict/outcome/TestOutcome$Kind;" (.ref aSKIPPED)) (SFAILED : Sta Z Z.heap "com/example/verdict/verdict/outcome/TestOutcome$Kind" "FAILED" "Lcom/example/verdict/verdict/outcome/TestOutcome$Kind;" (.ref aFAILED)) (SD : Sta Z Z.heap "java/util/ArrayList" "DEFAULTCAPACITY_EMPTY_ELEMENTDATA" "[Ljava/lang/Object;" (.ref dc)) (AD : Arv Z Z.heap dc kd (.object "java/lang/Object") (0 : Int32) [] .null) (ED : Exa Z Z.heap dc "[Ljava/lang/Object;") (r2 : ∀ d ∈ twoRefs, d.before a0 Z = true) :
    MetK l Z x code maxLocals ret room_1 n0 tables_1 #[(.int p1), (.int p2), (.int p3), (.int p4)] h0 (fun v _ => v = some (.int (1 : Int32))) := by
  refine MetK.intro (Ls := #[.val (.int p1), .val (.int p2), .val (.int p3), .val (.int p4), .unset, .unset, .unset, .unset]) (plainFor_of_name pn_m_law) hw (fun m => by first | rfl | (simp [entryFrame, mkF, argsToLocals, Value.category, maxLocals]; done)) ?_
  intro w K0 hTK hBelow
  have K : Cx w Z a0 "com/example/verdict/verdict/outcome/TestOutcomeKindPinLaw" code 8 (some .boolean) "law" := K0
  refine Rn.newU K (q := 3) (List.mem_of_getElem? (i := 0) rfl) (List.mem_of_getElem? (i := 1) rfl) (List.mem_of_getElem? (i := 2) rfl) (by decide) (by decide) at_0 rfl ?_
  intro t ht gt_ Xt At Dt Ut
  have g_t : n0 ≤ t := by rw [gt_]; exact X0.1 ▸ X0.2.1
  have f1 := X0.ext Xt
  show Rn w l _ n0 _ 3 #[.val (.int p1), .val (.int p2), .val (.int p3), .val (.int p4), .unset, .unset, .unset, .unset] [(.ref t)] ht 1 6
  refine Rn.dup K (q := 4) at_3 rfl rfl ?_
  refine Rn.specK K hTK hBelow (q := 7) (W := 1) (y := (⟨"java/lang/Throwable", "<init>", "()V"⟩ : MethodName)) (b := t) (argsL := []) (rest := [(.ref t)]) rfl (List.mem_of_getElem? (i := 3) rfl) (List.mem_of_getElem? (i := 4) rfl) (List.mem_of_getElem? (i := 5) rfl) (List.mem_of_getElem? (i := 2) rfl) (by decide) (m_thr l hl Z a0 hw n0 ht t f1 g_t At Ut (Dt (Or.inl (K.hw _ (List.mem_of_getElem? (i := 32) rfl))) (ty := .object "java/lang/Object") (by decide)) (Dt (Or.inl (K.hw _ (List.mem_of_getElem? (i := 29) rfl))) (ty := .object "java/lang/String") (by decide)) r2) (by decide) (by decide) rfl (lenOf pd_0 rfl) rfl (Nat.le_of_ble_eq_true rfl) at_4 rfl (by decide) (by decide) ?_
  rintro _ h2 ⟨rfl, K2⟩
  have f2 := f1.keep K2 (allS g_t all0)
  have f3 := At.keep K2
  show Rn w l _ n0 _ 7 #[.val (.int p1), .val (.int p2), .val (.int p3), .val (.int p4), .unset, .unset, .unset, .unset] [(.ref t)] h2 2 2758
  refine Rn.astore K (q := 9) (Ls' := #[.val (.int p1), .val (.int p2), .val (.int p3), .val (.int p4), .val (.ref t), .unset, .unset, .unset]) at_7 rfl rfl rfl ?_
  refine Rn.newO K (q := 12) (List.mem_of_getElem? (i := 38) rfl) (List.mem_of_getElem? (i := 39) rfl) (List.mem_of_getElem? (i := 40) rfl) (by decide) (by decide) at_9 rfl ?_
  intro b4 h5 gb4_ X6 A_b4 D7
  have ne_t_b4 : t ≠ b4 := fun e => absurd f3.lt (by rw [e, gb4_]; exact Nat.lt_irrefl _)
  have g_b4 : n0 ≤ b4 := by rw [gb4_]; exact f2.1 ▸ f2.2.1
  have f8 := f2.ext X6
  have f9 := f3.ext X6
  have f10 : Fld Z h5 b4 "com/example/verdict/verdict/outcome/TestOutcome" "_failures" "Ljava/util/List;" .null := D7 (Or.inr (K.hw _ (List.mem_of_getElem? (i := 70) rfl))) (ty := (.object "java/util/List")) (by decide)
  have f11 : Fld Z h5 b4 "com/example/verdict/verdict/outcome/TestOutcome" "_violation" "Ljava/lang/Throwable;" .null := D7 (Or.inl (K.hw _ (List.mem_of_getElem? (i := 89) rfl))) (ty := (.object "java/lang/Throwable")) (by decide)
  show Rn w l _ n0 _ 12 #[.val (.int p1), .val (.int p2), .val (.int p3), .val (.int p4), .val (.ref t), .unset, .unset, .unset] [(.ref b4)] h5 3 2760
  refine Rn.dup K (q := 13) at_12 rfl rfl ?_
  refine Rn.spec K (q := 16) (W := 1) (y := (⟨"com/example/verdict/verdict/outcome/TestOutcome", "<init>", "()V"⟩ : MethodName)) (b := b4) (argsL := []) (rest := [(.ref b4)]) rfl (List.mem_of_getElem? (i := 41) rfl) (List.mem_of_getElem? (i := 42) rfl) (List.mem_of_getElem? (i := 43) rfl) (List.mem_of_getElem? (i := 40) rfl) (by decide) (m_to l Z a0 hw n0 h5 b4 dc f8 A_b4 g_b4 f10 f11 SD) (by decide) (by decide) rfl (lenOf pd_0 rfl) rfl (Nat.le_of_ble_eq_true rfl) at_13 rfl (by decide) (by decide) ?_
  rintro _ h3 ⟨rfl, K3, lst, sl, Ff, Fv, L⟩
  have f12 := f8.keep K3 (allS g_b4 all0)
  have f13 := f9.keep K3
  have f14 := A_b4.keep K3
  show Rn w l _ n0 _ 16 #[.val (.int p1), .val (.int p2), .val (.int p3), .val (.int p4), .val (.ref t), .unset, .unset, .unset] [(.ref b4)] h3 4 2763
  refine Rn.astore K (q := 18) (Ls' := #[.val (.int p1), .val (.int p2), .val (.int p3), .val (.int p4), .val (.ref t), .val (.ref b4), .unset, .unset]) at_16 rfl rfl rfl ?_
  refine Rn.iconst K (q := 19) (2 : Int32) at_18 rfl rfl ?_
  refine Rn.newP K (q := 21) (cap := 2) (List.mem_of_getElem? (i := 71) rfl) (by decide) (by decide) (by decide) (by decide) (by decide) (ad := "[Z") (by decide) at_19 rfl ?_
  intro b15 h16 k18 gb15_ X17 A_b15 EA_b15
  have ne_t_b15 : t ≠ b15 := fun e => absurd f13.lt (by rw [e, gb15_]; exact Nat.lt_irrefl _)
  have ne_b4_b15 : b4 ≠ b15 := fun e => absurd f14.lt (by rw [e, gb15_]; exact Nat.lt_irrefl _)
  have g_b15 : n0 ≤ b15 := by rw [gb15_]; exact f12.1 ▸ f12.2.1
  have f19 := f12.ext X17
  have f20 := f13.ext X17
  have f21 := f14.ext X17
  have f22 := Ff.ext X17
  have f23 := Fv.ext X17
  have f24 := ALs.ext L X17
  replace A_b15 : Arv Z h16 b15 k18 .boolean (2 : Int32) [(.int (0 : Int32)), (.int (0 : Int32))] (.int (0 : Int32)) := A_b15.pad (pad_rep [] (.int (0 : Int32)) 2)
  show Rn w l _ n0 _ 21 #[.val (.int p1), .val (.int p2), .val (.int p3), .val (.int p4), .val (.ref t), .val (.ref b4), .unset, .unset] [(.ref b15)] h16 5 2765
  refine Rn.astore K (q := 23) (Ls' := #[.val (.int p1), .val (.int p2), .val (.int p3), .val (.int p4), .val (.ref t), .val (.ref b4), .val (.ref b15), .unset]) at_21 rfl rfl rfl ?_
  refine Rn.aload K (q := 25) at_23 rfl rfl rfl ?_
  refine Rn.virt K (q := 28) (W := 0) (y := (⟨"com/example/verdict/verdict/outcome/TestOutcome", "kind", "()Lcom/example/verdict/verdict/outcome/TestOutcome$Kind;"⟩ : MethodName)) (z := (⟨"com/example/verdict/verdict/outcome/TestOutcome", "kind", "()Lcom/example/verdict/verdict/outcome/TestOutcome$Kind;"⟩ : MethodName)) (b := b4) (argsL := []) (rest := []) (List.mem_of_getElem? (i := 72) rfl) (List.mem_of_getElem? (i := 73) rfl) (nfs K (List.mem_of_getElem? (i := 75) rfl)) (List.mem_of_getElem? (i := 75) rfl) (List.mem_of_getElem? (i := 74) rfl) (List.mem_of_getElem? (i := 76) rfl) (List.mem_of_getElem? (i := 40) rfl) (by decide) (m_kindN0 l Z a0 hw n0 h16 b4 lst aPASSED aSKIPPED aFAILED (Int32.ofNat 0) f19 SPASSED SSKIPPED SFAILED f22 f23 f24.1 f24.2.2.1 rfl) f21 (by decide) (by decide) rfl (lenOf pd_8 rfl) rfl (Nat.le_of_ble_eq_true rfl) at_25 rfl (by decide) (by decide) ?_
  rintro _ _ ⟨rfl, rfl⟩
  show Rn w l _ n0 _ 28 #[.val (.int p1), .val (.int p2), .val (.int p3), .val (.int p4), .val (.ref t), .val (.ref b4), .val (.ref b15), .unset] [(.ref aPASSED)] h16 5 2765
  refine Rn.getS K (q := 31) (List.mem_of_getElem? (i := 93) rfl) (SPASSED.ext f19.2) at_28 rfl ?_
  refine Rn.acN K (q := 34) at_31 rfl rfl (XT.aa_ne_f rfl) rfl ?_
  refine Rn.iconst K (q := 35) (1 : Int32) at_34 rfl rfl ?_
  refine Rn.goto K (q := 39) at_35 (by decide) (by decide) ?_
  refine Rn.istore K (q := 41) (Ls' := #[.val (.int p1), .val (.int p2), .val (.int p3), .val (.int p4), .val (.ref t), .val (.ref b4), .val (.ref b15), .val (.int (1 : Int32))]) at_39 rfl rfl ?_
  refine Rn.aload K (q := 43) at_41 rfl rfl rfl ?_
  refine Rn.iloadN K (q := 44) at_43 rfl rfl ?_
  refine Rn.aload K (q := 46) at_44 rfl rfl rfl ?_
  refine Rn.aload K (q := 48) at_46 rfl rfl rfl ?_
  have IV0 : Inv Z h16 n0 dc t b4 lst b15 0 := ⟨f21, g_b4, f20, f22, f24, EA_b15, g_b15, _, _, _, _, f23, A_b15, Or.inl ⟨rfl, rfl⟩, Or.inl ⟨rfl, rfl⟩⟩
  refine Rn.stat K (q := 51) (W := 0) (y := (⟨"com/example/verdict/verdict/outcome/TestOutcomeKindPinLaw", "step", "(Lcom/example/verdict/verdict/outcome/TestOutcome;ILjava/lang/Throwable;[Z)Z"⟩ : MethodName)) (argsL := [(.ref b4), (.int p1), (.ref t), (.ref b15)]) (rest := []) (List.mem_of_getElem? (i := 94) rfl) (List.mem_of_getElem? (i := 95) rfl) (List.mem_of_getElem? (i := 97) rfl) (List.mem_of_getElem? (i := 96) rfl) (by decide) (m_step l Z a0 hw n0 h16 b4 t lst b15 dc aPASSED aSKIPPED aFAILED p1 kd 0 (by omega) f19 SPASSED SSKIPPED SFAILED SD AD ED IV0) (by decide) (by decide) rfl (lenOf pd_9 rfl) rfl (Nat.le_of_ble_eq_true rfl) at_48 rfl (by decide) (by decide) ?_
  rintro _ hs0 ⟨rfl, XO0, n1, hn0, IV1⟩
  show Rn w l _ n0 _ 51 #[.val (.int p1), .val (.int p2), .val (.int p3), .val (.int p4), .val (.ref t), .val (.ref b4), .val (.ref b15), .val (.int (1 : Int32))] [(.int (1 : Int32))] hs0 6 2775
  refine Rn.ifN K (q := 54) at_51 (XT.i0_eq_f (by decide)) rfl ?_
  refine Rn.iload K (q := 56) at_54 rfl rfl ?_
  refine Rn.ifN K (q := 59) at_56 (XT.i0_eq_f (by decide)) rfl ?_
  refine Rn.iconst K (q := 60) (1 : Int32) at_59 rfl rfl ?_
  refine Rn.goto K (q := 64) at_60 (by decide) (by decide) ?_
  refine Rn.istore K (q := 66) (Ls' := #[.val (.int p1), .val (.int p2), .val (.int p3), .val (.int p4), .val (.ref t), .val (.ref b4), .val (.ref b15), .val (.int (1 : Int32))]) at_64 rfl rfl ?_
  refine Rn.aload K (q := 68) at_66 rfl rfl rfl ?_
  refine Rn.iloadN K (q := 69) at_68 rfl rfl ?_
  refine Rn.aload K (q := 71) at_69 rfl rfl rfl ?_
  refine Rn.aload K (q := 73) at_71 rfl rfl rfl ?_
  refine Rn.stat K (q := 76) (W := 0) (y := (⟨"com/example/verdict/verdict/outcome/TestOutcomeKindPinLaw", "step", "(Lcom/example/verdict/verdict/outcome/TestOutcome;ILjava/lang/Throwable;[Z)Z"⟩ : MethodName)) (argsL := [(.ref b4), (.int p2), (.ref t), (.ref b15)]) (rest := []) (List.mem_of_getElem? (i := 94) rfl) (List.mem_of_getElem? (i := 95) rfl) (List.mem_of_getElem? (i := 97) rfl) (List.mem_of_getElem? (i := 96) rfl) (by decide) (m_step l Z a0 hw n0 hs0 b4 t lst b15 dc aPASSED aSKIPPED aFAILED p2 kd n1 (by omega) XO0 SPASSED SSKIPPED SFAILED SD AD ED IV1) (by decide) (by decide) rfl (lenOf pd_9 rfl) rfl (Nat.le_of_ble_eq_true rfl) at_73 rfl (by decide) (by decide) ?_
  rintro _ hs1 ⟨rfl, XO1, n2, hn1, IV2⟩
  show Rn w l _ n0 _ 76 #[.val (.int p1), .val (.int p2), .val (.int p3), .val (.int p4), .val (.ref t), .val (.ref b4), .val (.ref b15), .val (.int (1 : Int32))] [(.int (1 : Int32))] hs1 7 2785
  refine Rn.ifN K (q := 79) at_76 (XT.i0_eq_f (by decide)) rfl ?_
  refine Rn.iload K (q := 81) at_79 rfl rfl ?_
  refine Rn.ifN K (q := 84) at_81 (XT.i0_eq_f (by decide)) rfl ?_
  refine Rn.iconst K (q := 85) (1 : Int32) at_84 rfl rfl ?_
  refine Rn.goto K (q := 89) at_85 (by decide) (by decide) ?_
  refine Rn.istore K (q := 91) (Ls' := #[.val (.int p1), .val (.int p2), .val (.int p3), .val (.int p4), .val (.ref t), .val (.ref b4), .val (.ref b15), .val (.int (1 : Int32))]) at_89 rfl rfl ?_
  refine Rn.aload K (q := 93) at_91 rfl rfl rfl ?_
  refine Rn.iloadN K (q := 94) at_93 rfl rfl ?_
  refine Rn.aload K (q := 96) at_94 rfl rfl rfl ?_
  refine Rn.aload K (q := 98) at_96 rfl rfl rfl ?_
  refine Rn.stat K (q := 101) (W := 0) (y := (⟨"com/example/verdict/verdict/outcome/TestOutcomeKindPinLaw", "step", "(Lcom/example/verdict/verdict/outcome/TestOutcome;ILjava/lang/Throwable;[Z)Z"⟩ : MethodName)) (argsL := [(.ref b4), (.int p3), (.ref t), (.ref b15)]) (rest := []) (List.mem_of_getElem? (i := 94) rfl) (List.mem_of_getElem? (i := 95) rfl) (List.mem_of_getElem? (i := 97) rfl) (List.mem_of_getElem? (i := 96) rfl) (by decide) (m_step l Z a0 hw n0 hs1 b4 t lst b15 dc aPASSED aSKIPPED aFAILED p3 kd n2 (by omega) XO1 SPASSED SSKIPPED SFAILED SD AD ED IV2) (by decide) (by decide) rfl (lenOf pd_9 rfl) rfl (Nat.le_of_ble_eq_true rfl) at_98 rfl (by decide) (by decide) ?_
  rintro _ hs2 ⟨rfl, XO2, n3, hn2, IV3⟩
  show Rn w l _ n0 _ 101 #[.val (.int p1), .val (.int p2), .val (.int p3), .val (.int p4), .val (.ref t), .val (.ref b4), .val (.ref b15), .val (.int (1 : Int32))] [(.int (1 : Int32))] hs2 8 2795
  refine Rn.ifN K (q := 104) at_101 (XT.i0_eq_f (by decide)) rfl ?_
  refine Rn.iload K (q := 106) at_104 rfl rfl ?_
  refine Rn.ifN K (q := 109) at_106 (XT.i0_eq_f (by decide)) rfl ?_
  refine Rn.iconst K (q := 110) (1 : Int32) at_109 rfl rfl ?_
  refine Rn.goto K (q := 114) at_110 (by decide) (by decide) ?_
  refine Rn.istore K (q := 116) (Ls' := #[.val (.int p1), .val (.int p2), .val (.int p3), .val (.int p4), .val (.ref t), .val (.ref b4), .val (.ref b15), .val (.int (1 : Int32))]) at_114 rfl rfl ?_
  refine Rn.aload K (q := 118) at_116 rfl rfl rfl ?_
  refine Rn.iloadN K (q := 119) at_118 rfl rfl ?_
  refine Rn.aload K (q := 121) at_119 rfl rfl rfl ?_
  refine Rn.aload K (q := 123) at_121 rfl rfl rfl ?_
  refine Rn.stat K (q := 126) (W := 0) (y := (⟨"com/example/verdict/verdict/outcome/TestOutcomeKindPinLaw", "step", "(Lcom/example/verdict/verdict/outcome/TestOutcome;ILjava/lang/Throwable;[Z)Z"⟩ : MethodName)) (argsL := [(.ref b4), (.int p4), (.ref t), (.ref b15)]) (rest := []) (List.mem_of_getElem? (i := 94) rfl) (List.mem_of_getElem? (i := 95) rfl) (List.mem_of_getElem? (i := 97) rfl) (List.mem_of_getElem? (i := 96) rfl) (by decide) (m_step l Z a0 hw n0 hs2 b4 t lst b15 dc aPASSED aSKIPPED aFAILED p4 kd n3 (by omega) XO2 SPASSED SSKIPPED SFAILED SD AD ED IV3) (by decide) (by decide) rfl (lenOf pd_9 rfl) rfl (Nat.le_of_ble_eq_true rfl) at_123 rfl (by decide) (by decide) ?_
  rintro _ hs3 ⟨rfl, XO3, n4, hn3, IV4⟩
  show Rn w l _ n0 _ 126 #[.val (.int p1), .val (.int p2), .val (.int p3), .val (.int p4), .val (.ref t), .val (.ref b4), .val (.ref b15), .val (.int (1 : Int32))] [(.int (1 : Int32))] hs3 9 2805
  refine Rn.ifN K (q := 129) at_126 (XT.i0_eq_f (by decide)) rfl ?_
  refine Rn.iload K (q := 131) at_129 rfl rfl ?_
  refine Rn.ifN K (q := 134) at_131 (XT.i0_eq_f (by decide)) rfl ?_
  refine Rn.iconst K (q := 135) (1 : Int32) at_134 rfl rfl ?_
  refine Rn.goto K (q := 139) at_135 (by decide) (by decide) ?_
  refine Rn.istore K (q := 141) (Ls' := #[.val (.int p1), .val (.int p2), .val (.int p3), .val (.int p4), .val (.ref t), .val (.ref b4), .val (.ref b15), .val (.int (1 : Int32))]) at_139 rfl rfl ?_
  refine Rn.iload K (q := 143) at_141 rfl rfl ?_
  exact Rn.retN K .boolean rfl (by simp) at_143 (by decide) (by decide) rfl
set_option maxRecDepth 65536 in
set_option maxHeartbeats 40000000 in
theorem comes_1 {Post : Tables → Env → Array Value → State → Outcome → State → Prop} (hpost : ∀ tb e args s v u, (limb_1_1.after args s (.returned v) u = true ∧ limb_1_2.after args s (.returned v) u = true ∧ True) → FrameEnd s (.returned v) u (Jvm.fieldLocs frame_1_writes args s ++ Jvm.arrayLocs frame_1_arrays args s ++ Jvm.staticLocs frame_1_statics s) 24 5632 → Post tb e args s (.returned v) u) :
    ArmFor flags0 classFile x code maxLocals ret World_1 tables_1 room_1 Calls_1 rest_1 Pre_1 Post := by
  intro l hfl _ _ p e ha hc hk s m args below hf hA hF happ hP
  obtain ⟨hcalls, hrest, hpre⟩ := hP
  obtain ⟨-, -, -, hnamed, -, -, -, hat⟩ := (Spec.applies_iff hf).mp happ
  obtain ⟨hg, hn⟩ := and_e (Cond.before_iff.mp (show (Jvm.Cond.and given_1 narrow_1).before args s = true from hpre))
  obtain ⟨hcnt, hgs0⟩ := and_e hg
  obtain ⟨ga0, hgs1⟩ := and_e hgs0
  obtain ⟨ga1, hgs2⟩ := and_e hgs1
  obtain ⟨ga2, hgs3⟩ := and_e hgs2
  obtain ⟨w0, w1, w2, w3, rfl⟩ : ∃ w0 w1 w2 w3 : Value, args = #[w0, w1, w2, w3] := by
    have hs : args.size = 4 := by simpa [Cond.value, given_1] using hcnt
    obtain ⟨L⟩ := args
    match L, hs with
    | [w0, w1, w2, w3], _ => exact ⟨w0, w1, w2, w3, rfl⟩
  have hw := fun d (hd : d ∈ tables_1) => atoms_spec (ws := Jvm.Cond.code x code maxLocals ret :: tables_1) hat d (List.mem_cons_of_mem _ hd)
  have hfit : Fit s := fun {y c} hc i hi => by
    obtain ⟨ha, rfl⟩ := Array.getElem?_eq_some_iff.mp hc
    have q := List.all_eq_true.mp ((Array.all_eq_true_iff_forall_mem.mp hF) _ (Array.getElem_mem ha)) i (List.mem_range.mpr hi)
    simpa [Array.getElem?_eq_getElem hi] using q
  obtain ⟨hsets, hown0⟩ := atoms_of _ (rest_1_c_eq ▸ (show rest_1_c.before _ s = true from hrest))
  have hr0 := Cond.before_iff.mp hown0
  obtain ⟨i0, ei0⟩ := is_v ga0
  obtain rfl : w0 = (.int i0) := Option.some.inj ei0
  obtain ⟨i1, ei1⟩ := is_v ga1
  obtain rfl : w1 = (.int i1) := Option.some.inj ei1
  obtain ⟨i2, ei2⟩ := is_v ga2
  obtain rfl : w2 = (.int i2) := Option.some.inj ei2
  obtain ⟨i3, ei3⟩ := is_v hgs3
  obtain rfl : w3 = (.int i3) := Option.some.inj ei3
  obtain ⟨nk0, nr0⟩ := and_e hn
  obtain ⟨nk1, nr1⟩ := and_e nr0
  have nk2 := nr1
  obtain ⟨aPASSED, vPASSED⟩ := exa_v nk0
  have EPASSED := Exa.start vPASSED nk0
  have SPASSED := Sta.start vPASSED (Or.inr ⟨hw _ (List.mem_of_getElem? (i := 91) rfl), hw _ (List.mem_of_getElem? (i := 92) rfl)⟩)
  obtain ⟨aSKIPPED, vSKIPPED⟩ := exa_v nk1
  have ESKIPPED := Exa.start vSKIPPED nk1
  have SSKIPPED := Sta.start vSKIPPED (Or.inr ⟨hw _ (List.mem_of_getElem? (i := 91) rfl), hw _ (List.mem_of_getElem? (i := 104) rfl)⟩)
  obtain ⟨aFAILED, vFAILED⟩ := exa_v nk2
  have EFAILED := Exa.start vFAILED nk2
  have SFAILED := Sta.start vFAILED (Or.inr ⟨hw _ (List.mem_of_getElem? (i := 91) rfl), hw _ (List.mem_of_getElem? (i := 143) rfl)⟩)
  have y26 := Cond.before_iff.mp (hsets _ (List.mem_of_getElem? (i := 26) rfl))
  obtain ⟨dc, vD⟩ := arr_v y26
  have SD := Sta.start vD (Or.inr ⟨hw _ (List.mem_of_getElem? (i := 47) rfl), (hsets _ (List.mem_of_getElem? (i := 22) rfl))⟩)
  have ED := Exa.start vD (Cond.before_iff.mp (hsets _ (List.mem_of_getElem? (i := 27) rfl)))
  obtain ⟨kd, AD⟩ := own_arr0 hfit vD y26 (Cond.before_iff.mp (hsets _ (List.mem_of_getElem? (i := 28) rfl)))
  have hl : l.stackTraces = true := by unfold Launch.stackTraces; rw [hfl]; decide
  have r2 : ∀ d ∈ twoRefs, d.before #[(.int i0), (.int i1), (.int i2), (.int i3)] s = true := by
    intro d hd
    simp only [twoRefs, List.mem_cons, List.not_mem_nil, or_false] at hd
    rcases hd with rfl | rfl
    · exact (hsets _ (List.mem_of_getElem? (i := 7) rfl))
    · exact (hsets _ (List.mem_of_getElem? (i := 12) rfl))
  obtain ⟨n, o, h1, h2, h3, _, L, rfl, ⟨N, rfl⟩, hq⟩ := m_law l s _ hw s.heap.size s.heap hl i0 i1 i2 i3 dc aPASSED aSKIPPED aFAILED kd (Old.start s) SPASSED SSKIPPED SFAILED SD AD ED r2 p e ha hc hk s m _ below hf ((Spec.applies_iff_loose hf).mp happ).1 ⟨rfl, State.Warmed39.refl s, rfl⟩ ⟨MethodsKnown_of_tablesKnown hcalls.2.1, FramesKnown_of_framesKnown hcalls.1 hf⟩
  refine ⟨n, _, h1, h2, h3, hpost _ _ _ _ _ _ ⟨Cond.after_iff.mpr rfl, Cond.after_iff.mpr (eq_i res_at (Term.int_eval (1)) rfl), trivial⟩ ⟨hq.1, hq.2.1, (hq.2.2.sift fun y hy => Or.inr (N y hy)).mono (by decide) (by decide)⟩⟩
theorem main_1_1 : Claimed_1_1 := comes_1 fun _ _ _ _ _ _ h hF => ⟨h.1, hF⟩
theorem main_1_2 : Claimed_1_2 := comes_1 fun _ _ _ _ _ _ h hF => ⟨h.2.1, hF⟩
end Jvm.Pilot.@@N@@
namespace Jvm.Pilot.@@N@@
open Jvm Jvm.ClassFile Sem Op Lib Jvm.Free Jvm.Stand Jvm.Pilot.@@N@@.Jvm.D
/-! MADE BY PROGRAM (witnessworld.py) out of the Statement's table words and the real class files: 31 classes; the members and pool entries that the words name. The judged class is class 1, her method 1. -/
namespace start1
open Jvm.ClassFile
def u (s : String) : CpInfo := .utf8 (stringToUtf16 s)
/-- a pool by its gaps: so many unusable entries, then the entry; so many at the end -/
def gap : Nat → List CpInfo → List CpInfo
  | 0, r => r
  | n + 1, r => .unusable :: gap n r
def poolList (es : List (Nat × CpInfo)) (last : Nat) : List CpInfo := es.foldr (fun e r => gap e.1 (e.2 :: r)) (gap last [])
def pool (es : List (Nat × CpInfo)) (last : Nat) : Array CpInfo := ⟨poolList es last⟩
def fileOf (pool : Array CpInfo) (this : Nat) (attrs : Array Attribute := #[]) (ms : Array MethodInfo := #[]) (fl : Nat := 33) (sup : Nat := 0) (ifs : Array Nat := #[]) (fds : Array FieldInfo := #[]) : ClassFile where
  minorVersion := 0
  majorVersion := 65
  constantPool := pool
  accessFlags := fl
  thisClass := this
  superClass := sup
  interfaces := ifs
  fields := fds
  methods := ms
  attributes := attrs
def plain (name : String) (sup : Option ClassId) : Class where
  name := name
  kind := .ordinary
  loader := none
  accessFlags := 33
  super := sup
  interfaces := #[]
  cf := none
  fields := #[]
  methods := #[]
  instanceTypes := #[]
  staticTypes := #[]
  resolved := #[]
  callSites := []
  init := .initialized
  statics := none
  mirror := none

def pool0 : Array CpInfo := pool [(5, u "<init>"), (0, u "()V"), (1, .class_ 10), (1, u "java/lang/Object")] 113

def k0c0 : Code := { maxStack := 0, maxLocals := 1, code := object_method_1_code, exceptionTable := #[], attributes := #[] }
def k0m0 : Method := { name := "<init>", desc := "()V", sig := { parameters := [], returnType := none }, accessFlags := 1, code := some k0c0 }
/-- java/lang/Object -/
def k0 : Class := { plain "java/lang/Object" none with
  accessFlags := 33
  interfaces := #[]
  cf := some (fileOf pool0 8 #[] #[{ accessFlags := 1, nameIndex := 5, descriptorIndex := 6, attributes := #[] }] 33 0 #[] #[])
  fields := #[]
  methods := #[k0m0]
  instanceTypes := #[]
  staticTypes := #[]
  resolved := Array.replicate 124 none
  statics := none }

def pool1 : Array CpInfo := pool [(2, .class_ 4), (0, .nameAndType 5 6), (0, u "java/lang/Object"), (0, u "<init>"), (0, u "()V"), (0, .class_ 8), (0, u "java/lang/Throwable"), (0, .methodref 7 3), (0, .class_ 11), (0, u "com/example/verdict/verdict/outcome/TestOutcome"), (0, .methodref 10 3), (0, .methodref 10 14), (0, .nameAndType 15 16), (0, u "kind"), (0, u "()Lcom/example/verdict/verdict/outcome/TestOutcome$Kind;"), (0, .fieldref 18 19), (0, .class_ 20), (0, .nameAndType 21 22), (0, u "com/example/verdict/verdict/outcome/TestOutcome$Kind"), (0, u "PASSED"), (0, u "Lcom/example/verdict/verdict/outcome/TestOutcome$Kind;"), (0, .methodref 24 25), (0, .class_ 26), (0, .nameAndType 27 28), (0, u "com/example/verdict/verdict/outcome/TestOutcomeKindPinLaw"), (0, u "step"), (0, u "(Lcom/example/verdict/verdict/outcome/TestOutcome;ILjava/lang/Throwable;[Z)Z"), (0, .methodref 10 30), (0, .nameAndType 31 32), (0, u "addFailure"), (0, u "(Ljava/lang/Throwable;)V"), (0, .methodref 10 34), (0, .nameAndType 35 32), (0, u "addAssumptionFailure"), (0, .fieldref 18 37), (0, .nameAndType 38 22), (0, u "FAILED"), (0, .fieldref 18 40), (0, .nameAndType 41 22), (0, u "SKIPPED"), (2, u "law"), (0, u "(IIII)Z")] 7

def k1m0 : Method := { name := "<init>", desc := "()V", sig := { parameters := [], returnType := none }, accessFlags := 1, code := none }
def k1c1 : Code := { maxStack := 4, maxLocals := 8, code := code, exceptionTable := #[], attributes := #[] }
def k1m1 : Method := { name := "law", desc := "(IIII)Z", sig := { parameters := [.int, .int, .int, .int], returnType := some .boolean }, accessFlags := 9, code := some k1c1 }
def k1c2 : Code := { maxStack := 3, maxLocals := 7, code := method_3_code, exceptionTable := #[], attributes := #[] }
def k1m2 : Method := { name := "step", desc := "(Lcom/example/verdict/verdict/outcome/TestOutcome;ILjava/lang/Throwable;[Z)Z", sig := { parameters := [(.object "com/example/verdict/verdict/outcome/TestOutcome"), .int, (.object "java/lang/Throwable"), (.array .boolean)], returnType := some .boolean }, accessFlags := 10, code := some k1c2 }
/-- com/example/verdict/verdict/outcome/TestOutcomeKindPinLaw -/
def k1 : Class := { plain "com/example/verdict/verdict/outcome/TestOutcomeKindPinLaw" (some 0) with
  accessFlags := 49
  interfaces := #[]
  cf := some (fileOf pool1 24 #[] #[{ accessFlags := 1, nameIndex := 5, descriptorIndex := 6, attributes := #[] }, { accessFlags := 9, nameIndex := 44, descriptorIndex := 45, attributes := #[] }, { accessFlags := 10, nameIndex := 27, descriptorIndex := 28, attributes := #[] }] 49 2 #[] #[])
  fields := #[]
  methods := #[k1m0, k1m1, k1m2]
  instanceTypes := #[]
  staticTypes := #[]
  resolved := Array.replicate 53 none
  statics := none }

def pool2 : Array CpInfo := pool [(1, .class_ 2), (0, u "java/io/Serializable"), (0, .class_ 4), (0, u "java/lang/Object")] 2

/-- java/io/Serializable -/
def k2 : Class := { plain "java/io/Serializable" (some 0) with
  accessFlags := 1537
  interfaces := #[]
  cf := some (fileOf pool2 1 #[] #[] 1537 3 #[] #[])
  fields := #[]
  methods := #[]
  instanceTypes := #[]
  staticTypes := #[]
  resolved := Array.replicate 7 none
  statics := none }

def pool3 : Array CpInfo := pool [(1, .methodref 2 3), (0, .class_ 4), (0, .nameAndType 5 6), (0, u "java/lang/Object"), (0, u "<init>"), (0, u "()V"), (0, .fieldref 8 9), (0, .class_ 10), (0, .nameAndType 11 12), (0, u "java/lang/Throwable"), (0, u "cause"), (0, u "Ljava/lang/Throwable;"), (0, .fieldref 8 14), (0, .nameAndType 15 16), (0, u "UNASSIGNED_STACK"), (0, u "[Ljava/lang/StackTraceElement;"), (0, .fieldref 8 18), (0, .nameAndType 19 16), (0, u "stackTrace"), (0, .fieldref 8 21), (0, .nameAndType 22 23), (0, u "SUPPRESSED_SENTINEL"), (0, u "Ljava/util/List;"), (0, .fieldref 8 25), (0, .nameAndType 26 23), (0, u "suppressedExceptions"), (0, .methodref 8 28), (0, .nameAndType 29 30), (0, u "fillInStackTrace"), (0, u "()Ljava/lang/Throwable;"), (2, u "detailMessage"), (0, u "Ljava/lang/String;"), (58, .class_ 94), (0, u "java/lang/Throwable$WrappedPrintStream"), (6, .class_ 103), (1, u "java/lang/Throwable$PrintStreamOrWriter"), (61, u "$assertionsDisabled"), (0, u "Z"), (26, .class_ 194), (0, u "java/lang/Throwable$WrappedPrintWriter"), (3, .fieldref 8 199), (0, .nameAndType 200 201), (0, u "backtrace"), (0, u "Ljava/lang/Object;"), (0, .methodref 8 203), (0, .nameAndType 29 204), (0, u "(I)Ljava/lang/Throwable;"), (6, u "depth"), (0, u "I"), (56, .class_ 271), (1, u "java/lang/Throwable$SentinelHolder"), (32, u "EMPTY_THROWABLE_ARRAY"), (0, u "[Ljava/lang/Throwable;"), (12, .class_ 319), (0, u "java/io/Serializable"), (0, u "serialVersionUID"), (0, u "J"), (5, u "NULL_CAUSE_MESSAGE"), (0, u "SELF_SUPPRESSION_MESSAGE"), (0, u "CAUSE_CAPTION"), (0, u "SUPPRESSED_CAPTION")] 73

def k3c0 : Code := { maxStack := 2, maxLocals := 1, code := jdk_78_method_1_code, exceptionTable := #[], attributes := #[] }
def k3m0 : Method := { name := "<init>", desc := "()V", sig := { parameters := [], returnType := none }, accessFlags := 1, code := some k3c0 }
def k3c1 : Code := { maxStack := 2, maxLocals := 1, code := ⟨#[0x2a, 0xb4, 0x00, 0x11, 0xc7, 0x00, 0x0a, 0x2a, 0xb4, 0x00, 0xc6, 0xc6, 0x00, 0x10, 0x2a, 0x03, 0xb6, 0x00, 0xca, 0x57, 0x2a, 0xb2, 0x00, 0x0d, 0xb5, 0x00, 0x11, 0x2a, 0xb0]⟩, exceptionTable := #[], attributes := #[] }
def k3m1 : Method := { name := "fillInStackTrace", desc := "()Ljava/lang/Throwable;", sig := { parameters := [], returnType := some (.object "java/lang/Throwable") }, accessFlags := 33, code := some k3c1 }
def k3m2 : Method := { name := "fillInStackTrace", desc := "(I)Ljava/lang/Throwable;", sig := { parameters := [.int], returnType := some (.object "java/lang/Throwable") }, accessFlags := 258, code := none }
/-- java/lang/Throwable -/
def k3 : Class := { plain "java/lang/Throwable" (some 0) with
  accessFlags := 33
  interfaces := #[2]
  cf := some (fileOf pool3 8 #[.nestMembers #[193, 93, 101, 269]] #[{ accessFlags := 1, nameIndex := 5, descriptorIndex := 6, attributes := #[] }, { accessFlags := 33, nameIndex := 29, descriptorIndex := 30, attributes := #[] }, { accessFlags := 258, nameIndex := 29, descriptorIndex := 204, attributes := #[] }] 33 2 #[318] #[{ accessFlags := 26, nameIndex := 320, descriptorIndex := 321, attributes := #[] }, { accessFlags := 130, nameIndex := 200, descriptorIndex := 201, attributes := #[] }, { accessFlags := 2, nameIndex := 33, descriptorIndex := 34, attributes := #[] }, { accessFlags := 26, nameIndex := 15, descriptorIndex := 16, attributes := #[] }, { accessFlags := 2, nameIndex := 11, descriptorIndex := 12, attributes := #[] }, { accessFlags := 2, nameIndex := 19, descriptorIndex := 16, attributes := #[] }, { accessFlags := 130, nameIndex := 211, descriptorIndex := 212, attributes := #[] }, { accessFlags := 26, nameIndex := 22, descriptorIndex := 23, attributes := #[] }, { accessFlags := 2, nameIndex := 26, descriptorIndex := 23, attributes := #[] }, { accessFlags := 26, nameIndex := 327, descriptorIndex := 34, attributes := #[] }, { accessFlags := 26, nameIndex := 328, descriptorIndex := 34, attributes := #[] }, { accessFlags := 26, nameIndex := 329, descriptorIndex := 34, attributes := #[] }, { accessFlags := 26, nameIndex := 330, descriptorIndex := 34, attributes := #[] }, { accessFlags := 26, nameIndex := 304, descriptorIndex := 305, attributes := #[] }, { accessFlags := 4120, nameIndex := 165, descriptorIndex := 166, attributes := #[] }])
  fields := #[{ name := "serialVersionUID", type := .long, accessFlags := 26, slot := 0, constantValue := 0 }, { name := "backtrace", type := (.object "java/lang/Object"), accessFlags := 130, slot := 0, constantValue := 0 }, { name := "detailMessage", type := (.object "java/lang/String"), accessFlags := 2, slot := 1, constantValue := 0 }, { name := "UNASSIGNED_STACK", type := (.array (.object "java/lang/StackTraceElement")), accessFlags := 26, slot := 1, constantValue := 0 }, { name := "cause", type := (.object "java/lang/Throwable"), accessFlags := 2, slot := 2, constantValue := 0 }, { name := "stackTrace", type := (.array (.object "java/lang/StackTraceElement")), accessFlags := 2, slot := 3, constantValue := 0 }, { name := "depth", type := .int, accessFlags := 130, slot := 4, constantValue := 0 }, { name := "SUPPRESSED_SENTINEL", type := (.object "java/util/List"), accessFlags := 26, slot := 2, constantValue := 0 }, { name := "suppressedExceptions", type := (.object "java/util/List"), accessFlags := 2, slot := 5, constantValue := 0 }, { name := "NULL_CAUSE_MESSAGE", type := (.object "java/lang/String"), accessFlags := 26, slot := 3, constantValue := 0 }, { name := "SELF_SUPPRESSION_MESSAGE", type := (.object "java/lang/String"), accessFlags := 26, slot := 4, constantValue := 0 }, { name := "CAUSE_CAPTION", type := (.object "java/lang/String"), accessFlags := 26, slot := 5, constantValue := 0 }, { name := "SUPPRESSED_CAPTION", type := (.object "java/lang/String"), accessFlags := 26, slot := 6, constantValue := 0 }, { name := "EMPTY_THROWABLE_ARRAY", type := (.array (.object "java/lang/Throwable")), accessFlags := 26, slot := 7, constantValue := 0 }, { name := "$assertionsDisabled", type := .boolean, accessFlags := 4120, slot := 8, constantValue := 0 }]
  methods := #[k3m0, k3m1, k3m2]
  instanceTypes := #[(.object "java/lang/Object"), (.object "java/lang/String"), (.object "java/lang/Throwable"), (.array (.object "java/lang/StackTraceElement")), .int, (.object "java/util/List")]
  staticTypes := #[.long, (.array (.object "java/lang/StackTraceElement")), (.object "java/util/List"), (.object "java/lang/String"), (.object "java/lang/String"), (.object "java/lang/String"), (.object "java/lang/String"), (.array (.object "java/lang/Throwable")), .boolean]
  resolved := Array.replicate 404 none
  statics := some 0 }

def pool4 : Array CpInfo := pool [(1, .methodref 2 3), (0, .class_ 4), (0, .nameAndType 5 6), (0, u "java/lang/Object"), (0, u "<init>"), (0, u "()V"), (0, .class_ 8), (0, u "java/util/ArrayList"), (0, .methodref 7 3), (0, .fieldref 11 12), (0, .class_ 13), (0, .nameAndType 14 15), (0, u "com/example/verdict/verdict/outcome/TestOutcome"), (0, u "_failures"), (0, u "Ljava/util/List;"), (0, .interfaceMethodref 17 18), (0, .class_ 19), (0, .nameAndType 20 21), (0, u "java/util/List"), (0, u "add"), (0, u "(Ljava/lang/Object;)Z"), (0, .fieldref 11 23), (0, .nameAndType 24 25), (0, u "_violation"), (0, u "Ljava/lang/Throwable;"), (0, .interfaceMethodref 17 27), (0, .nameAndType 28 29), (0, u "isEmpty"), (0, u "()Z"), (0, .fieldref 31 32), (0, .class_ 33), (0, .nameAndType 34 35), (0, u "com/example/verdict/verdict/outcome/TestOutcome$Kind"), (0, u "FAILED"), (0, u "Lcom/example/verdict/verdict/outcome/TestOutcome$Kind;"), (0, .fieldref 31 37), (0, .nameAndType 38 35), (0, u "SKIPPED"), (0, .fieldref 31 40), (0, .nameAndType 41 35), (0, u "PASSED"), (10, u "addFailure"), (0, u "(Ljava/lang/Throwable;)V"), (0, u "addAssumptionFailure"), (1, u "kind"), (0, u "()Lcom/example/verdict/verdict/outcome/TestOutcome$Kind;")] 10

def k4c0 : Code := { maxStack := 3, maxLocals := 1, code := prog_29_method_1_code, exceptionTable := #[], attributes := #[] }
def k4m0 : Method := { name := "<init>", desc := "()V", sig := { parameters := [], returnType := none }, accessFlags := 1, code := some k4c0 }
def k4c1 : Code := { maxStack := 2, maxLocals := 2, code := prog_29_method_2_code, exceptionTable := #[], attributes := #[] }
def k4m1 : Method := { name := "addFailure", desc := "(Ljava/lang/Throwable;)V", sig := { parameters := [(.object "java/lang/Throwable")], returnType := none }, accessFlags := 1, code := some k4c1 }
def k4c2 : Code := { maxStack := 2, maxLocals := 2, code := prog_29_method_3_code, exceptionTable := #[], attributes := #[] }
def k4m2 : Method := { name := "addAssumptionFailure", desc := "(Ljava/lang/Throwable;)V", sig := { parameters := [(.object "java/lang/Throwable")], returnType := none }, accessFlags := 1, code := some k4c2 }
def k4c3 : Code := { maxStack := 1, maxLocals := 2, code := prog_29_method_4_code, exceptionTable := #[], attributes := #[] }
def k4m3 : Method := { name := "kind", desc := "()Lcom/example/verdict/verdict/outcome/TestOutcome$Kind;", sig := { parameters := [], returnType := some (.object "com/example/verdict/verdict/outcome/TestOutcome$Kind") }, accessFlags := 1, code := some k4c3 }
/-- com/example/verdict/verdict/outcome/TestOutcome -/
def k4 : Class := { plain "com/example/verdict/verdict/outcome/TestOutcome" (some 0) with
  accessFlags := 33
  interfaces := #[]
  cf := some (fileOf pool4 11 #[.nestMembers #[31]] #[{ accessFlags := 1, nameIndex := 5, descriptorIndex := 6, attributes := #[] }, { accessFlags := 1, nameIndex := 52, descriptorIndex := 53, attributes := #[] }, { accessFlags := 1, nameIndex := 54, descriptorIndex := 53, attributes := #[] }, { accessFlags := 1, nameIndex := 56, descriptorIndex := 57, attributes := #[] }] 33 2 #[] #[{ accessFlags := 18, nameIndex := 14, descriptorIndex := 15, attributes := #[] }, { accessFlags := 2, nameIndex := 24, descriptorIndex := 25, attributes := #[] }])
  fields := #[{ name := "_failures", type := (.object "java/util/List"), accessFlags := 18, slot := 0, constantValue := 0 }, { name := "_violation", type := (.object "java/lang/Throwable"), accessFlags := 2, slot := 1, constantValue := 0 }]
  methods := #[k4m0, k4m1, k4m2, k4m3]
  instanceTypes := #[(.object "java/util/List"), (.object "java/lang/Throwable")]
  staticTypes := #[]
  resolved := Array.replicate 68 none
  statics := none }

def pool5 : Array CpInfo := pool [(8, .class_ 10), (1, u "java/lang/Iterable"), (24, .class_ 36), (0, u "java/lang/Object")] 25

/-- java/lang/Iterable -/
def k5 : Class := { plain "java/lang/Iterable" (some 0) with
  accessFlags := 1537
  interfaces := #[]
  cf := some (fileOf pool5 8 #[] #[] 1537 35 #[] #[])
  fields := #[]
  methods := #[]
  instanceTypes := #[]
  staticTypes := #[]
  resolved := Array.replicate 62 none
  statics := none }

def pool6 : Array CpInfo := pool [(10, .class_ 12), (1, u "java/util/Collection"), (47, .class_ 61), (0, u "java/lang/Object"), (0, .class_ 63), (0, u "java/lang/Iterable")] 51

/-- java/util/Collection -/
def k6 : Class := { plain "java/util/Collection" (some 0) with
  accessFlags := 1537
  interfaces := #[5]
  cf := some (fileOf pool6 10 #[] #[] 1537 60 #[62] #[])
  fields := #[]
  methods := #[]
  instanceTypes := #[]
  staticTypes := #[]
  resolved := Array.replicate 115 none
  statics := none }

def pool7 : Array CpInfo := pool [(1, .methodref 2 3), (0, .class_ 4), (0, .nameAndType 5 6), (0, u "java/lang/Object"), (0, u "<init>"), (0, u "()V"), (1, .class_ 10), (1, u "java/util/AbstractCollection"), (66, .class_ 78), (0, u "java/util/Collection")] 81

def k7c0 : Code := { maxStack := 1, maxLocals := 1, code := jdk_22_method_1_code, exceptionTable := #[], attributes := #[] }
def k7m0 : Method := { name := "<init>", desc := "()V", sig := { parameters := [], returnType := none }, accessFlags := 4, code := some k7c0 }
/-- java/util/AbstractCollection -/
def k7 : Class := { plain "java/util/AbstractCollection" (some 0) with
  accessFlags := 1057
  interfaces := #[6]
  cf := some (fileOf pool7 8 #[] #[{ accessFlags := 4, nameIndex := 5, descriptorIndex := 6, attributes := #[] }] 1057 2 #[77] #[])
  fields := #[]
  methods := #[k7m0]
  instanceTypes := #[]
  staticTypes := #[]
  resolved := Array.replicate 160 none
  statics := none }

def pool8 : Array CpInfo := pool [(8, .class_ 10), (1, u "java/util/SequencedCollection"), (15, .class_ 27), (0, u "java/lang/Object"), (0, .class_ 29), (0, u "java/util/Collection")] 27

/-- java/util/SequencedCollection -/
def k8 : Class := { plain "java/util/SequencedCollection" (some 0) with
  accessFlags := 1537
  interfaces := #[6]
  cf := some (fileOf pool8 8 #[] #[] 1537 26 #[28] #[])
  fields := #[]
  methods := #[]
  instanceTypes := #[]
  staticTypes := #[]
  resolved := Array.replicate 57 none
  statics := none }

def pool9 : Array CpInfo := pool [(8, .class_ 10), (1, u "java/util/List"), (7, u "()Z"), (41, u "add"), (3, u "(Ljava/lang/Object;)Z"), (2, u "isEmpty"), (35, .class_ 104), (0, u "java/lang/Object"), (15, .class_ 121), (0, u "java/util/SequencedCollection")] 129

def k9m0 : Method := { name := "isEmpty", desc := "()Z", sig := { parameters := [], returnType := some .boolean }, accessFlags := 1025, code := none }
def k9m1 : Method := { name := "add", desc := "(Ljava/lang/Object;)Z", sig := { parameters := [(.object "java/lang/Object")], returnType := some .boolean }, accessFlags := 1025, code := none }
/-- java/util/List -/
def k9 : Class := { plain "java/util/List" (some 0) with
  accessFlags := 1537
  interfaces := #[8]
  cf := some (fileOf pool9 8 #[] #[{ accessFlags := 1025, nameIndex := 67, descriptorIndex := 18, attributes := #[] }, { accessFlags := 1025, nameIndex := 60, descriptorIndex := 64, attributes := #[] }] 1537 103 #[120] #[])
  fields := #[]
  methods := #[k9m0, k9m1]
  instanceTypes := #[]
  staticTypes := #[]
  resolved := Array.replicate 251 none
  statics := none }

def pool10 : Array CpInfo := pool [(1, .methodref 2 3), (0, .class_ 4), (0, .nameAndType 5 6), (0, u "java/util/AbstractCollection"), (0, u "<init>"), (0, u "()V"), (0, .fieldref 8 9), (0, .class_ 10), (0, .nameAndType 11 12), (0, u "java/util/AbstractList"), (0, u "modCount"), (0, u "I"), (64, .class_ 78), (0, u "java/util/AbstractList$Itr"), (3, .class_ 83), (0, u "java/util/AbstractList$ListItr"), (9, .class_ 94), (0, u "java/util/AbstractList$RandomAccessSubList"), (3, .class_ 99), (0, u "java/util/AbstractList$SubList"), (33, .class_ 134), (0, u "java/util/List"), (73, .class_ 209), (0, u "java/util/AbstractList$SubList$1"), (0, .class_ 211), (0, u "java/util/AbstractList$RandomAccessSpliterator")] 6

def k10c0 : Code := { maxStack := 2, maxLocals := 1, code := jdk_39_method_1_code, exceptionTable := #[], attributes := #[] }
def k10m0 : Method := { name := "<init>", desc := "()V", sig := { parameters := [], returnType := none }, accessFlags := 4, code := some k10c0 }
/-- java/util/AbstractList -/
def k10 : Class := { plain "java/util/AbstractList" (some 7) with
  accessFlags := 1057
  interfaces := #[9]
  cf := some (fileOf pool10 8 #[.nestMembers #[93, 98, 208, 210, 82, 77]] #[{ accessFlags := 4, nameIndex := 5, descriptorIndex := 6, attributes := #[] }] 1057 2 #[133] #[{ accessFlags := 132, nameIndex := 11, descriptorIndex := 12, attributes := #[] }])
  fields := #[{ name := "modCount", type := .int, accessFlags := 132, slot := 0, constantValue := 0 }]
  methods := #[k10m0]
  instanceTypes := #[.int]
  staticTypes := #[]
  resolved := Array.replicate 218 none
  statics := none }

def pool11 : Array CpInfo := pool [(1, .class_ 2), (0, u "java/util/RandomAccess"), (0, .class_ 4), (0, u "java/lang/Object")] 2

/-- java/util/RandomAccess -/
def k11 : Class := { plain "java/util/RandomAccess" (some 0) with
  accessFlags := 1537
  interfaces := #[]
  cf := some (fileOf pool11 1 #[] #[] 1537 3 #[] #[])
  fields := #[]
  methods := #[]
  instanceTypes := #[]
  staticTypes := #[]
  resolved := Array.replicate 7 none
  statics := none }

def pool12 : Array CpInfo := pool [(1, .class_ 2), (0, u "java/lang/Cloneable"), (0, .class_ 4), (0, u "java/lang/Object")] 2

/-- java/lang/Cloneable -/
def k12 : Class := { plain "java/lang/Cloneable" (some 0) with
  accessFlags := 1537
  interfaces := #[]
  cf := some (fileOf pool12 1 #[] #[] 1537 3 #[] #[])
  fields := #[]
  methods := #[]
  instanceTypes := #[]
  staticTypes := #[]
  resolved := Array.replicate 7 none
  statics := none }

def pool13 : Array CpInfo := pool [(1, .methodref 2 3), (0, .class_ 4), (0, .nameAndType 5 6), (0, u "java/util/AbstractList"), (0, u "<init>"), (0, u "()V"), (0, .class_ 8), (0, u "java/lang/Object"), (0, .fieldref 10 11), (0, .class_ 12), (0, .nameAndType 13 14), (0, u "java/util/ArrayList"), (0, u "elementData"), (0, u "[Ljava/lang/Object;"), (2, u "EMPTY_ELEMENTDATA"), (21, .fieldref 10 40), (0, .nameAndType 41 14), (0, u "DEFAULTCAPACITY_EMPTY_ELEMENTDATA"), (5, u "()[Ljava/lang/Object;"), (0, .fieldref 10 49), (0, .nameAndType 50 51), (0, u "size"), (0, u "I"), (11, .fieldref 10 64), (0, .nameAndType 65 51), (0, u "modCount"), (3, .methodref 10 70), (0, .nameAndType 71 72), (0, u "grow"), (0, u "(I)[Ljava/lang/Object;"), (6, .methodref 80 81), (0, .class_ 82), (0, .nameAndType 83 84), (0, u "java/lang/Math"), (0, u "max"), (0, u "(II)I"), (11, u "(Ljava/lang/Object;)Z"), (32, .methodref 10 130), (0, .nameAndType 71 47), (0, .methodref 10 132), (0, .nameAndType 133 134), (0, u "add"), (0, u "(Ljava/lang/Object;[Ljava/lang/Object;I)V"), (13, .class_ 149), (0, u "java/util/List"), (23, u "()Z"), (88, .class_ 263), (0, u "java/util/ArrayList$ListItr"), (3, .class_ 268), (0, u "java/util/ArrayList$Itr"), (7, .class_ 277), (0, u "java/util/ArrayList$SubList"), (12, .class_ 291), (0, u "java/util/ArrayList$ArrayListSpliterator"), (37, .class_ 330), (0, u "java/util/RandomAccess"), (0, .class_ 332), (0, u "java/lang/Cloneable"), (0, .class_ 334), (0, u "java/io/Serializable"), (0, u "serialVersionUID"), (0, u "J"), (3, u "DEFAULT_CAPACITY"), (22, u "isEmpty"), (136, .class_ 501), (0, u "java/util/ArrayList$SubList$2"), (0, .class_ 503), (0, u "java/util/ArrayList$SubList$1")] 5

def k13c0 : Code := { maxStack := 2, maxLocals := 1, code := jdk_38_method_2_code, exceptionTable := #[], attributes := #[] }
def k13m0 : Method := { name := "<init>", desc := "()V", sig := { parameters := [], returnType := none }, accessFlags := 1, code := some k13c0 }
def k13c1 : Code := { maxStack := 4, maxLocals := 4, code := jdk_38_method_6_code, exceptionTable := #[], attributes := #[] }
def k13m1 : Method := { name := "grow", desc := "(I)[Ljava/lang/Object;", sig := { parameters := [.int], returnType := some (.array (.object "java/lang/Object")) }, accessFlags := 2, code := some k13c1 }
def k13c2 : Code := { maxStack := 3, maxLocals := 1, code := jdk_38_method_7_code, exceptionTable := #[], attributes := #[] }
def k13m2 : Method := { name := "grow", desc := "()[Ljava/lang/Object;", sig := { parameters := [], returnType := some (.array (.object "java/lang/Object")) }, accessFlags := 2, code := some k13c2 }
def k13c3 : Code := { maxStack := 1, maxLocals := 1, code := jdk_38_method_9_code, exceptionTable := #[], attributes := #[] }
def k13m3 : Method := { name := "isEmpty", desc := "()Z", sig := { parameters := [], returnType := some .boolean }, accessFlags := 1, code := some k13c3 }
def k13c4 : Code := { maxStack := 3, maxLocals := 4, code := jdk_38_method_24_code, exceptionTable := #[], attributes := #[] }
def k13m4 : Method := { name := "add", desc := "(Ljava/lang/Object;[Ljava/lang/Object;I)V", sig := { parameters := [(.object "java/lang/Object"), (.array (.object "java/lang/Object")), .int], returnType := none }, accessFlags := 2, code := some k13c4 }
def k13c5 : Code := { maxStack := 4, maxLocals := 2, code := jdk_38_method_25_code, exceptionTable := #[], attributes := #[] }
def k13m5 : Method := { name := "add", desc := "(Ljava/lang/Object;)Z", sig := { parameters := [(.object "java/lang/Object")], returnType := some .boolean }, accessFlags := 1, code := some k13c5 }
/-- java/util/ArrayList -/
def k13 : Class := { plain "java/util/ArrayList" (some 10) with
  accessFlags := 33
  interfaces := #[9, 11, 12, 2]
  cf := some (fileOf pool13 10 #[.nestMembers #[290, 276, 500, 502, 262, 267]] #[{ accessFlags := 1, nameIndex := 5, descriptorIndex := 6, attributes := #[] }, { accessFlags := 2, nameIndex := 71, descriptorIndex := 72, attributes := #[] }, { accessFlags := 2, nameIndex := 71, descriptorIndex := 47, attributes := #[] }, { accessFlags := 1, nameIndex := 363, descriptorIndex := 173, attributes := #[] }, { accessFlags := 2, nameIndex := 133, descriptorIndex := 134, attributes := #[] }, { accessFlags := 1, nameIndex := 133, descriptorIndex := 96, attributes := #[] }] 33 2 #[148, 329, 331, 333] #[{ accessFlags := 26, nameIndex := 335, descriptorIndex := 336, attributes := #[] }, { accessFlags := 26, nameIndex := 340, descriptorIndex := 51, attributes := #[] }, { accessFlags := 26, nameIndex := 17, descriptorIndex := 14, attributes := #[] }, { accessFlags := 26, nameIndex := 41, descriptorIndex := 14, attributes := #[] }, { accessFlags := 128, nameIndex := 13, descriptorIndex := 14, attributes := #[] }, { accessFlags := 2, nameIndex := 50, descriptorIndex := 51, attributes := #[] }])
  fields := #[{ name := "serialVersionUID", type := .long, accessFlags := 26, slot := 0, constantValue := 0 }, { name := "DEFAULT_CAPACITY", type := .int, accessFlags := 26, slot := 1, constantValue := 0 }, { name := "EMPTY_ELEMENTDATA", type := (.array (.object "java/lang/Object")), accessFlags := 26, slot := 2, constantValue := 0 }, { name := "DEFAULTCAPACITY_EMPTY_ELEMENTDATA", type := (.array (.object "java/lang/Object")), accessFlags := 26, slot := 3, constantValue := 0 }, { name := "elementData", type := (.array (.object "java/lang/Object")), accessFlags := 128, slot := 1, constantValue := 0 }, { name := "size", type := .int, accessFlags := 2, slot := 2, constantValue := 0 }]
  methods := #[k13m0, k13m1, k13m2, k13m3, k13m4, k13m5]
  instanceTypes := #[.int, (.array (.object "java/lang/Object")), .int]
  staticTypes := #[.long, .int, (.array (.object "java/lang/Object")), (.array (.object "java/lang/Object"))]
  resolved := Array.replicate 509 none
  statics := some 1 }

def pool14 : Array CpInfo := pool [(1, .class_ 2), (0, u "java/lang/constant/Constable"), (0, .class_ 4), (0, u "java/lang/Object")] 6

/-- java/lang/constant/Constable -/
def k14 : Class := { plain "java/lang/constant/Constable" (some 0) with
  accessFlags := 1537
  interfaces := #[]
  cf := some (fileOf pool14 1 #[] #[] 1537 3 #[] #[])
  fields := #[]
  methods := #[]
  instanceTypes := #[]
  staticTypes := #[]
  resolved := Array.replicate 11 none
  statics := none }

def pool15 : Array CpInfo := pool [(1, .class_ 2), (0, u "java/lang/Comparable"), (0, .class_ 4), (0, u "java/lang/Object")] 7

/-- java/lang/Comparable -/
def k15 : Class := { plain "java/lang/Comparable" (some 0) with
  accessFlags := 1537
  interfaces := #[]
  cf := some (fileOf pool15 1 #[] #[] 1537 3 #[] #[])
  fields := #[]
  methods := #[]
  instanceTypes := #[]
  staticTypes := #[]
  resolved := Array.replicate 12 none
  statics := none }

def pool16 : Array CpInfo := pool [(2, .class_ 4), (1, u "java/lang/Enum"), (0, u "name"), (0, u "Ljava/lang/String;"), (2, u "ordinal"), (0, u "I"), (1, .class_ 14), (1, u "java/lang/Object"), (4, u "hash"), (86, .class_ 108), (1, u "java/lang/Enum$EnumDesc"), (2, .class_ 112), (0, u "java/lang/constant/Constable"), (0, .class_ 114), (0, u "java/lang/Comparable"), (0, .class_ 116), (0, u "java/io/Serializable")] 87

/-- java/lang/Enum -/
def k16 : Class := { plain "java/lang/Enum" (some 0) with
  accessFlags := 1057
  interfaces := #[14, 15, 2]
  cf := some (fileOf pool16 2 #[.nestMembers #[106]] #[] 1057 12 #[111, 113, 115] #[{ accessFlags := 18, nameIndex := 5, descriptorIndex := 6, attributes := #[] }, { accessFlags := 18, nameIndex := 9, descriptorIndex := 10, attributes := #[] }, { accessFlags := 2, nameIndex := 19, descriptorIndex := 10, attributes := #[] }])
  fields := #[{ name := "name", type := (.object "java/lang/String"), accessFlags := 18, slot := 0, constantValue := 0 }, { name := "ordinal", type := .int, accessFlags := 18, slot := 1, constantValue := 0 }, { name := "hash", type := .int, accessFlags := 2, slot := 2, constantValue := 0 }]
  methods := #[]
  instanceTypes := #[(.object "java/lang/String"), .int, .int]
  staticTypes := #[]
  resolved := Array.replicate 204 none
  statics := none }

def pool17 : Array CpInfo := pool [(1, .class_ 2), (0, u "com/example/verdict/verdict/outcome/TestOutcome$Kind"), (2, u "PASSED"), (0, u "Lcom/example/verdict/verdict/outcome/TestOutcome$Kind;"), (2, u "SKIPPED"), (2, u "FAILED"), (2, u "$VALUES"), (0, u "[Lcom/example/verdict/verdict/outcome/TestOutcome$Kind;"), (6, .class_ 25), (1, u "java/lang/Enum"), (26, .class_ 53), (0, u "com/example/verdict/verdict/outcome/TestOutcome")] 2

/-- com/example/verdict/verdict/outcome/TestOutcome$Kind -/
def k17 : Class := { plain "com/example/verdict/verdict/outcome/TestOutcome$Kind" (some 16) with
  accessFlags := 16433
  interfaces := #[]
  cf := some (fileOf pool17 1 #[.nestHost 52] #[] 16433 23 #[] #[{ accessFlags := 16409, nameIndex := 5, descriptorIndex := 6, attributes := #[] }, { accessFlags := 16409, nameIndex := 9, descriptorIndex := 6, attributes := #[] }, { accessFlags := 16409, nameIndex := 12, descriptorIndex := 6, attributes := #[] }, { accessFlags := 4122, nameIndex := 15, descriptorIndex := 16, attributes := #[] }])
  fields := #[{ name := "PASSED", type := (.object "com/example/verdict/verdict/outcome/TestOutcome$Kind"), accessFlags := 16409, slot := 0, constantValue := 0 }, { name := "SKIPPED", type := (.object "com/example/verdict/verdict/outcome/TestOutcome$Kind"), accessFlags := 16409, slot := 1, constantValue := 0 }, { name := "FAILED", type := (.object "com/example/verdict/verdict/outcome/TestOutcome$Kind"), accessFlags := 16409, slot := 2, constantValue := 0 }, { name := "$VALUES", type := (.array (.object "com/example/verdict/verdict/outcome/TestOutcome$Kind")), accessFlags := 4122, slot := 3, constantValue := 0 }]
  methods := #[]
  instanceTypes := #[(.object "java/lang/String"), .int, .int]
  staticTypes := #[(.object "com/example/verdict/verdict/outcome/TestOutcome$Kind"), (.object "com/example/verdict/verdict/outcome/TestOutcome$Kind"), (.object "com/example/verdict/verdict/outcome/TestOutcome$Kind"), (.array (.object "com/example/verdict/verdict/outcome/TestOutcome$Kind"))]
  resolved := Array.replicate 56 none
  statics := some 2 }

def pool18 : Array CpInfo := pool [(1, .class_ 2), (0, u "java/lang/Math"), (1, .class_ 6), (1, u "java/lang/Object"), (0, u "<init>"), (0, u "()V"), (89, .class_ 100), (1, u "java/lang/Math$RandomNumberGeneratorHolder"), (71, u "negativeZeroFloatBits"), (0, u "J"), (2, u "negativeZeroDoubleBits"), (21, u "max"), (46, u "$assertionsDisabled"), (0, u "Z"), (88, u "(II)I"), (2, u "twoToTheDoubleScaleDown"), (0, u "D"), (4, u "twoToTheDoubleScaleUp"), (9, u "E"), (3, u "PI"), (2, u "TAU"), (2, u "DEGREES_TO_RADIANS"), (0, u "RADIANS_TO_DEGREES")] 94

def k18m0 : Method := { name := "<init>", desc := "()V", sig := { parameters := [], returnType := none }, accessFlags := 2, code := none }
def k18c1 : Code := { maxStack := 2, maxLocals := 2, code := jdk_29_method_65_code, exceptionTable := #[], attributes := #[] }
def k18m1 : Method := { name := "max", desc := "(II)I", sig := { parameters := [.int, .int], returnType := some .int }, accessFlags := 9, code := some k18c1 }
/-- java/lang/Math -/
def k18 : Class := { plain "java/lang/Math" (some 0) with
  accessFlags := 49
  interfaces := #[]
  cf := some (fileOf pool18 1 #[.nestMembers #[98]] #[{ accessFlags := 2, nameIndex := 7, descriptorIndex := 8, attributes := #[] }, { accessFlags := 9, nameIndex := 198, descriptorIndex := 335, attributes := #[] }] 49 4 #[] #[{ accessFlags := 25, nameIndex := 354, descriptorIndex := 339, attributes := #[] }, { accessFlags := 25, nameIndex := 358, descriptorIndex := 339, attributes := #[] }, { accessFlags := 25, nameIndex := 361, descriptorIndex := 339, attributes := #[] }, { accessFlags := 26, nameIndex := 364, descriptorIndex := 339, attributes := #[] }, { accessFlags := 26, nameIndex := 365, descriptorIndex := 339, attributes := #[] }, { accessFlags := 26, nameIndex := 172, descriptorIndex := 173, attributes := #[] }, { accessFlags := 26, nameIndex := 176, descriptorIndex := 173, attributes := #[] }, { accessFlags := 8, nameIndex := 344, descriptorIndex := 339, attributes := #[] }, { accessFlags := 8, nameIndex := 338, descriptorIndex := 339, attributes := #[] }, { accessFlags := 4120, nameIndex := 245, descriptorIndex := 246, attributes := #[] }])
  fields := #[{ name := "E", type := .double, accessFlags := 25, slot := 0, constantValue := 0 }, { name := "PI", type := .double, accessFlags := 25, slot := 1, constantValue := 0 }, { name := "TAU", type := .double, accessFlags := 25, slot := 2, constantValue := 0 }, { name := "DEGREES_TO_RADIANS", type := .double, accessFlags := 26, slot := 3, constantValue := 0 }, { name := "RADIANS_TO_DEGREES", type := .double, accessFlags := 26, slot := 4, constantValue := 0 }, { name := "negativeZeroFloatBits", type := .long, accessFlags := 26, slot := 5, constantValue := 0 }, { name := "negativeZeroDoubleBits", type := .long, accessFlags := 26, slot := 6, constantValue := 0 }, { name := "twoToTheDoubleScaleUp", type := .double, accessFlags := 8, slot := 7, constantValue := 0 }, { name := "twoToTheDoubleScaleDown", type := .double, accessFlags := 8, slot := 8, constantValue := 0 }, { name := "$assertionsDisabled", type := .boolean, accessFlags := 4120, slot := 9, constantValue := 0 }]
  methods := #[k18m0, k18m1]
  instanceTypes := #[]
  staticTypes := #[.double, .double, .double, .double, .double, .long, .long, .double, .double, .boolean]
  resolved := Array.replicate 460 none
  statics := none }

def pool19 : Array CpInfo := pool [(2, .class_ 4), (1, u "java/lang/Object"), (0, u "<init>"), (0, u "()V"), (12, .class_ 20), (0, u "java/util/Collections"), (63, u "r"), (0, u "Ljava/util/Random;"), (80, .class_ 167), (0, u "java/util/Collections$UnmodifiableCollection"), (6, .class_ 175), (0, u "java/util/Collections$UnmodifiableSequencedCollection"), (6, .class_ 183), (0, u "java/util/Collections$UnmodifiableSet"), (6, .class_ 191), (0, u "java/util/Collections$UnmodifiableSequencedSet"), (6, .class_ 199), (0, u "java/util/Collections$UnmodifiableSortedSet"), (6, .class_ 207), (0, u "java/util/Collections$UnmodifiableNavigableSet"), (4, .class_ 213), (0, u "java/util/Collections$UnmodifiableList"), (1, .class_ 216), (0, u "java/util/Collections$UnmodifiableRandomAccessList"), (6, .class_ 224), (0, u "java/util/Collections$UnmodifiableMap"), (6, .class_ 232), (0, u "java/util/Collections$UnmodifiableSequencedMap"), (4, .class_ 238), (0, u "java/util/Collections$UnmodifiableSortedMap"), (6, .class_ 246), (0, u "java/util/Collections$UnmodifiableNavigableMap"), (3, .class_ 251), (0, u "java/util/Collections$SynchronizedCollection"), (4, .class_ 257), (0, u "java/util/Collections$SynchronizedSet"), (4, .class_ 263), (0, u "java/util/Collections$SynchronizedSortedSet"), (1, .class_ 266), (0, u "java/util/Collections$SynchronizedNavigableSet"), (1, .class_ 269), (0, u "java/util/Collections$SynchronizedRandomAccessList"), (1, .class_ 272), (0, u "java/util/Collections$SynchronizedList"), (5, .class_ 279), (0, u "java/util/Collections$SynchronizedMap"), (1, .class_ 282), (0, u "java/util/Collections$SynchronizedSortedMap"), (1, .class_ 285), (0, u "java/util/Collections$SynchronizedNavigableMap"), (1, .class_ 288), (0, u "java/util/Collections$CheckedCollection"), (11, .class_ 301), (0, u "java/util/Collections$CheckedQueue"), (3, .class_ 306), (0, u "java/util/Collections$CheckedSet"), (3, .class_ 311), (0, u "java/util/Collections$CheckedSortedSet"), (3, .class_ 316), (0, u "java/util/Collections$CheckedNavigableSet"), (3, .class_ 321), (0, u "java/util/Collections$CheckedRandomAccessList"), (3, .class_ 326), (0, u "java/util/Collections$CheckedList"), (1, .class_ 329), (0, u "java/util/Collections$CheckedMap"), (3, .class_ 334), (0, u "java/util/Collections$CheckedSortedMap"), (3, .class_ 339), (0, u "java/util/Collections$CheckedNavigableMap"), (4, .class_ 346), (1, u "java/util/Collections$EmptyIterator"), (3, .class_ 352), (1, u "java/util/Collections$EmptyListIterator"), (2, .class_ 357), (1, u "java/util/Collections$EmptyEnumeration"), (4, u "EMPTY_SET"), (0, u "Ljava/util/Set;"), (6, u "EMPTY_LIST"), (0, u "Ljava/util/List;"), (2, u "EMPTY_MAP"), (0, u "Ljava/util/Map;"), (4, .class_ 381), (0, u "java/util/Collections$SingletonSet"), (2, .class_ 385), (0, u "java/util/Collections$1"), (1, .class_ 388), (0, u "java/util/Collections$2"), (1, .class_ 391), (0, u "java/util/Collections$SingletonList"), (1, .class_ 394), (0, u "java/util/Collections$SingletonMap"), (22, .class_ 418), (0, u "java/util/Collections$CopiesList"), (4, .class_ 425), (1, u "java/util/Collections$ReverseComparator"), (8, .class_ 435), (0, u "java/util/Collections$ReverseComparator2"), (6, .class_ 443), (0, u "java/util/Collections$3"), (25, .class_ 470), (0, u "java/util/Collections$SetFromMap"), (2, .class_ 474), (0, u "java/util/Collections$SequencedSetFromMap"), (3, .class_ 479), (0, u "java/util/Collections$AsLIFOQueue"), (11, .class_ 492), (0, u "java/util/Collections$EmptySet"), (1, .class_ 495), (0, u "java/util/Collections$EmptyList"), (1, .class_ 498), (0, u "java/util/Collections$EmptyMap"), (1, u "BINARYSEARCH_THRESHOLD"), (0, u "I"), (2, u "REVERSE_THRESHOLD"), (1, u "SHUFFLE_THRESHOLD"), (1, u "FILL_THRESHOLD"), (1, u "ROTATE_THRESHOLD"), (1, u "COPY_THRESHOLD"), (1, u "REPLACEALL_THRESHOLD"), (1, u "INDEXOFSUBLIST_THRESHOLD"), (333, .class_ 851), (0, u "java/util/Collections$CheckedMap$CheckedEntrySet"), (0, .class_ 853), (0, u "java/util/Collections$CheckedMap$CheckedEntrySet$CheckedEntry"), (0, .class_ 855), (0, u "java/util/Collections$CheckedMap$CheckedEntrySet$1"), (0, .class_ 857), (0, u "java/util/Collections$CheckedList$1"), (0, .class_ 859), (0, u "java/util/Collections$CheckedCollection$1"), (0, .class_ 861), (0, u "java/util/Collections$UnmodifiableNavigableMap$EmptyNavigableMap"), (0, .class_ 863), (0, u "java/util/Collections$UnmodifiableMap$UnmodifiableEntrySet"), (0, .class_ 865), (0, u "java/util/Collections$UnmodifiableMap$UnmodifiableEntrySet$UnmodifiableEntry"), (0, .class_ 867), (0, u "java/util/Collections$UnmodifiableMap$UnmodifiableEntrySet$UnmodifiableEntrySetSpliterator"), (0, .class_ 869), (0, u "java/util/Collections$UnmodifiableMap$UnmodifiableEntrySet$1"), (0, .class_ 871), (0, u "java/util/Collections$UnmodifiableList$1"), (0, .class_ 873), (0, u "java/util/Collections$UnmodifiableNavigableSet$EmptyNavigableSet"), (0, .class_ 875), (0, u "java/util/Collections$UnmodifiableCollection$1")] 57

def k19m0 : Method := { name := "<init>", desc := "()V", sig := { parameters := [], returnType := none }, accessFlags := 2, code := none }
/-- java/util/Collections -/
def k19 : Class := { plain "java/util/Collections" (some 0) with
  accessFlags := 33
  interfaces := #[]
  cf := some (fileOf pool19 19 #[.nestMembers #[478, 473, 469, 434, 423, 417, 393, 390, 380, 497, 494, 491, 355, 350, 344, 338, 333, 328, 850, 852, 854, 320, 325, 856, 315, 310, 305, 300, 287, 858, 284, 281, 278, 268, 271, 265, 262, 256, 250, 245, 860, 237, 231, 223, 862, 864, 866, 868, 215, 212, 870, 206, 872, 198, 190, 182, 174, 166, 874, 442, 387, 384]] #[{ accessFlags := 2, nameIndex := 5, descriptorIndex := 6, attributes := #[] }] 33 2 #[] #[{ accessFlags := 26, nameIndex := 500, descriptorIndex := 501, attributes := #[] }, { accessFlags := 26, nameIndex := 504, descriptorIndex := 501, attributes := #[] }, { accessFlags := 26, nameIndex := 506, descriptorIndex := 501, attributes := #[] }, { accessFlags := 26, nameIndex := 508, descriptorIndex := 501, attributes := #[] }, { accessFlags := 26, nameIndex := 510, descriptorIndex := 501, attributes := #[] }, { accessFlags := 26, nameIndex := 512, descriptorIndex := 501, attributes := #[] }, { accessFlags := 26, nameIndex := 514, descriptorIndex := 501, attributes := #[] }, { accessFlags := 26, nameIndex := 516, descriptorIndex := 501, attributes := #[] }, { accessFlags := 10, nameIndex := 84, descriptorIndex := 85, attributes := #[] }, { accessFlags := 25, nameIndex := 362, descriptorIndex := 363, attributes := #[] }, { accessFlags := 25, nameIndex := 370, descriptorIndex := 371, attributes := #[] }, { accessFlags := 25, nameIndex := 374, descriptorIndex := 375, attributes := #[] }])
  fields := #[{ name := "BINARYSEARCH_THRESHOLD", type := .int, accessFlags := 26, slot := 0, constantValue := 0 }, { name := "REVERSE_THRESHOLD", type := .int, accessFlags := 26, slot := 1, constantValue := 0 }, { name := "SHUFFLE_THRESHOLD", type := .int, accessFlags := 26, slot := 2, constantValue := 0 }, { name := "FILL_THRESHOLD", type := .int, accessFlags := 26, slot := 3, constantValue := 0 }, { name := "ROTATE_THRESHOLD", type := .int, accessFlags := 26, slot := 4, constantValue := 0 }, { name := "COPY_THRESHOLD", type := .int, accessFlags := 26, slot := 5, constantValue := 0 }, { name := "REPLACEALL_THRESHOLD", type := .int, accessFlags := 26, slot := 6, constantValue := 0 }, { name := "INDEXOFSUBLIST_THRESHOLD", type := .int, accessFlags := 26, slot := 7, constantValue := 0 }, { name := "r", type := (.object "java/util/Random"), accessFlags := 10, slot := 8, constantValue := 0 }, { name := "EMPTY_SET", type := (.object "java/util/Set"), accessFlags := 25, slot := 9, constantValue := 0 }, { name := "EMPTY_LIST", type := (.object "java/util/List"), accessFlags := 25, slot := 10, constantValue := 0 }, { name := "EMPTY_MAP", type := (.object "java/util/Map"), accessFlags := 25, slot := 11, constantValue := 0 }]
  methods := #[k19m0]
  instanceTypes := #[]
  staticTypes := #[.int, .int, .int, .int, .int, .int, .int, .int, (.object "java/util/Random"), (.object "java/util/Set"), (.object "java/util/List"), (.object "java/util/Map")]
  resolved := Array.replicate 933 none
  statics := some 3 }

def pool20 : Array CpInfo := pool [(2, .class_ 4), (1, u "java/util/AbstractList"), (0, u "<init>"), (0, u "()V"), (1, .class_ 10), (1, u "java/util/Collections"), (54, .class_ 66), (0, u "java/util/Collections$EmptyList"), (0, .class_ 68), (0, u "java/util/RandomAccess"), (0, .class_ 70), (0, u "java/io/Serializable"), (0, u "serialVersionUID"), (0, u "J")] 77

def k20m0 : Method := { name := "<init>", desc := "()V", sig := { parameters := [], returnType := none }, accessFlags := 2, code := none }
/-- java/util/Collections$EmptyList -/
def k20 : Class := { plain "java/util/Collections$EmptyList" (some 10) with
  accessFlags := 32
  interfaces := #[11, 2]
  cf := some (fileOf pool20 65 #[.nestHost 8] #[{ accessFlags := 2, nameIndex := 5, descriptorIndex := 6, attributes := #[] }] 32 2 #[67, 69] #[{ accessFlags := 26, nameIndex := 71, descriptorIndex := 72, attributes := #[] }])
  fields := #[{ name := "serialVersionUID", type := .long, accessFlags := 26, slot := 0, constantValue := 0 }]
  methods := #[k20m0]
  instanceTypes := #[.int]
  staticTypes := #[.long]
  resolved := Array.replicate 150 none
  statics := none }

def pool21 : Array CpInfo := pool [(2, .class_ 4), (1, u "java/lang/StackTraceElement"), (0, u "<init>"), (2, .class_ 10), (1, u "java/lang/Object"), (0, u "()V"), (2, u "format"), (0, u "B"), (2, u "classLoaderName"), (0, u "Ljava/lang/String;"), (2, u "moduleName"), (2, u "moduleVersion"), (12, u "declaringClass"), (4, u "methodName"), (2, u "fileName"), (2, u "lineNumber"), (0, u "I"), (65, u "declaringClassObject"), (0, u "Ljava/lang/Class;"), (33, .class_ 153), (1, u "java/lang/StackTraceElement$HashedModules"), (17, .class_ 172), (0, u "java/io/Serializable"), (0, u "NATIVE_METHOD"), (1, u "UNKNOWN_SOURCE"), (2, u "BUILTIN_CLASS_LOADER"), (1, u "JDK_NON_UPGRADEABLE_MODULE"), (1, u "serialVersionUID"), (0, u "J")] 51

def k21m0 : Method := { name := "<init>", desc := "()V", sig := { parameters := [], returnType := none }, accessFlags := 2, code := none }
/-- java/lang/StackTraceElement -/
def k21 : Class := { plain "java/lang/StackTraceElement" (some 0) with
  accessFlags := 49
  interfaces := #[2]
  cf := some (fileOf pool21 2 #[.nestMembers #[151]] #[{ accessFlags := 2, nameIndex := 5, descriptorIndex := 11, attributes := #[] }] 49 8 #[171] #[{ accessFlags := 26, nameIndex := 173, descriptorIndex := 19, attributes := #[] }, { accessFlags := 26, nameIndex := 175, descriptorIndex := 19, attributes := #[] }, { accessFlags := 130, nameIndex := 116, descriptorIndex := 117, attributes := #[] }, { accessFlags := 2, nameIndex := 18, descriptorIndex := 19, attributes := #[] }, { accessFlags := 2, nameIndex := 22, descriptorIndex := 19, attributes := #[] }, { accessFlags := 2, nameIndex := 25, descriptorIndex := 19, attributes := #[] }, { accessFlags := 2, nameIndex := 38, descriptorIndex := 19, attributes := #[] }, { accessFlags := 2, nameIndex := 43, descriptorIndex := 19, attributes := #[] }, { accessFlags := 2, nameIndex := 46, descriptorIndex := 19, attributes := #[] }, { accessFlags := 2, nameIndex := 49, descriptorIndex := 50, attributes := #[] }, { accessFlags := 2, nameIndex := 14, descriptorIndex := 15, attributes := #[] }, { accessFlags := 26, nameIndex := 178, descriptorIndex := 15, attributes := #[] }, { accessFlags := 26, nameIndex := 180, descriptorIndex := 15, attributes := #[] }, { accessFlags := 26, nameIndex := 182, descriptorIndex := 183, attributes := #[] }])
  fields := #[{ name := "NATIVE_METHOD", type := (.object "java/lang/String"), accessFlags := 26, slot := 0, constantValue := 0 }, { name := "UNKNOWN_SOURCE", type := (.object "java/lang/String"), accessFlags := 26, slot := 1, constantValue := 0 }, { name := "declaringClassObject", type := (.object "java/lang/Class"), accessFlags := 130, slot := 0, constantValue := 0 }, { name := "classLoaderName", type := (.object "java/lang/String"), accessFlags := 2, slot := 1, constantValue := 0 }, { name := "moduleName", type := (.object "java/lang/String"), accessFlags := 2, slot := 2, constantValue := 0 }, { name := "moduleVersion", type := (.object "java/lang/String"), accessFlags := 2, slot := 3, constantValue := 0 }, { name := "declaringClass", type := (.object "java/lang/String"), accessFlags := 2, slot := 4, constantValue := 0 }, { name := "methodName", type := (.object "java/lang/String"), accessFlags := 2, slot := 5, constantValue := 0 }, { name := "fileName", type := (.object "java/lang/String"), accessFlags := 2, slot := 6, constantValue := 0 }, { name := "lineNumber", type := .int, accessFlags := 2, slot := 7, constantValue := 0 }, { name := "format", type := .byte, accessFlags := 2, slot := 8, constantValue := 0 }, { name := "BUILTIN_CLASS_LOADER", type := .byte, accessFlags := 26, slot := 2, constantValue := 0 }, { name := "JDK_NON_UPGRADEABLE_MODULE", type := .byte, accessFlags := 26, slot := 3, constantValue := 0 }, { name := "serialVersionUID", type := .long, accessFlags := 26, slot := 4, constantValue := 0 }]
  methods := #[k21m0]
  instanceTypes := #[(.object "java/lang/Class"), (.object "java/lang/String"), (.object "java/lang/String"), (.object "java/lang/String"), (.object "java/lang/String"), (.object "java/lang/String"), (.object "java/lang/String"), .int, .byte]
  staticTypes := #[(.object "java/lang/String"), (.object "java/lang/String"), .byte, .byte, .long]
  resolved := Array.replicate 235 none
  statics := none }

/-- the primitive boolean -/
def k22 : Class := { plain "boolean" none with kind := .primitive 'Z', accessFlags := 0x411 }
/-- [Z -/
def k23 : Class := { plain "[Z" (some 0) with kind := .array 22 .boolean, interfaces := #[12, 2], accessFlags := 1041 }

/-- the primitive byte -/
def k24 : Class := { plain "byte" none with kind := .primitive 'B', accessFlags := 0x411 }
/-- [B -/
def k25 : Class := { plain "[B" (some 0) with kind := .array 24 .byte, interfaces := #[12, 2], accessFlags := 1041 }

/-- the primitive int -/
def k26 : Class := { plain "int" none with kind := .primitive 'I', accessFlags := 0x411 }
/-- [I -/
def k27 : Class := { plain "[I" (some 0) with kind := .array 26 .int, interfaces := #[12, 2], accessFlags := 1041 }

/-- [Ljava/lang/Object; -/
def k28 : Class := { plain "[Ljava/lang/Object;" (some 0) with kind := .array 0 (.object "java/lang/Object"), interfaces := #[12, 2], accessFlags := 1041 }

/-- [Ljava/lang/StackTraceElement; -/
def k29 : Class := { plain "[Ljava/lang/StackTraceElement;" (some 0) with kind := .array 21 (.object "java/lang/StackTraceElement"), interfaces := #[12, 2], accessFlags := 1041 }

/-- [Ljava/lang/Throwable; -/
def k30 : Class := { plain "[Ljava/lang/Throwable;" (some 0) with kind := .array 3 (.object "java/lang/Throwable"), interfaces := #[12, 2], accessFlags := 1041 }

def heap : Heap := #[{ cls := 3, slots := #[.long 0, .ref 7, .ref 8, .null, .null, .null, .null, .ref 9, .int 1], vm := .statics 3 },
  { cls := 13, slots := #[.long 0, .int 0, .ref 10, .ref 11], vm := .statics 13 },
  { cls := 17, slots := #[.ref 4, .ref 5, .ref 6, .null], vm := .statics 17 },
  { cls := 19, slots := #[.int 0, .int 0, .int 0, .int 0, .int 0, .int 0, .int 0, .int 0, .null, .null, .ref 8, .null], vm := .statics 19 },
  { cls := 17, slots := #[.null, .int 0, .int 0], vm := .none },
  { cls := 17, slots := #[.null, .int 0, .int 0], vm := .none },
  { cls := 17, slots := #[.null, .int 0, .int 0], vm := .none },
  { cls := 29, slots := #[], vm := .none },
  { cls := 20, slots := #[.int 0], vm := .none },
  { cls := 30, slots := #[], vm := .none },
  { cls := 28, slots := #[], vm := .none },
  { cls := 28, slots := #[], vm := .none }]
def classes : Array Class := #[k0, k1, k2, k3, k4, k5, k6, k7, k8, k9, k10, k11, k12, k13, k14, k15, k16, k17, k18, k19, k20, k21, k22, k23, k24, k25, k26, k27, k28, k29, k30]
def interned : List (Array UInt16 × Addr) := []
def slotsUsed : Nat := 39
def theMethod : MethodId := ⟨1, 1⟩
def args0 : Array Value := #[.int 5, .int 2, .int 1, .int 6]
def aboutOver (below : List Frame) : State where
  vm := { classes := classes, interned := interned.toArray }
  heap := heap
  slotsUsed := slotsUsed
  threads := #[{ frames := .invoking theMethod args0 :: below }]
def below0 : List Frame := [.native { method := ⟨0, 0⟩, args := #[] }]
def about1 : State := aboutOver below0
def p0 : Program := .bare "" "" ""
def e0 : Env := launch0.env 0 0 0
theorem w_frames : about1.frames = Frame.invoking theMethod args0 :: below0 := rfl
set_option maxRecDepth 65536 in
theorem w_args : argsFit about1.vm theMethod args0 = true := by decide +kernel
set_option maxRecDepth 65536 in
theorem w_heap : heapFits about1 = true := by decide +kernel
set_option maxRecDepth 65536 in
theorem w_runnable : about1.curStatus? = some .runnable := by decide +kernel
set_option maxRecDepth 65536 in
theorem w_alone : about1.alone = true := by decide +kernel
set_option maxRecDepth 65536 in
theorem w_named : about1.methodNamed? x = some theMethod := by decide +kernel
set_option maxRecDepth 65536 in
theorem w_hears : about1.hears theMethod below0 = true := by decide +kernel
set_option maxRecDepth 65536 in
theorem w_ripe : about1.ripe theMethod args0 below0 = true := by decide +kernel
theorem w_running : about1.status = .running := rfl
set_option maxRecDepth 65536 in
theorem w_room : about1.hasRoom e0.platform room_1 = true :=
  launch0.hasRoom_least _ room_1 (by decide +kernel) (by decide +kernel) (by decide +kernel) (by decide +kernel) (by decide +kernel) (by decide +kernel)
theorem allAtoms_all (ts : List Jvm.Cond) (a : Array Jvm.Value) (st : Jvm.State) : (allAtoms ts).before a st = ts.all (fun c => c.before a st) := by
  induction ts with
  | nil => rfl
  | cons c t ih =>
    show (Jvm.Cond.and c (allAtoms t)).before a st = _
    rw [Jvm.Cond.before_and, ih, List.all_cons]
def words1 : List Jvm.Cond := Jvm.Cond.code x code maxLocals ret :: tables_1
/-- a 'code' word, met by the world's own term for the bytes: nothing is compared byte by byte -/
theorem code_word {y : MethodName} {bytes : ByteArray} {mx : Nat} {rt : Option FieldType} {a : Array Value} {s : State} {m : MethodId} {meth : Method} {c : Code} (h1 : s.methodNamed? y = some m) (h2 : s.vm.method? m = some meth) (h3 : meth.code = some c) (h4 : c.code = bytes)
    (h5 : (c.maxLocals == mx && c.exceptionTable.isEmpty && decide (c.maxStack ≤ mostOperands) && decide (meth.sig.returnType = rt) && !meth.locks && decide (parseMethodDescriptor y.desc = some meth.sig)) = true) : (Jvm.Cond.code y bytes mx rt).before a s = true := by
  simp only [Bool.and_eq_true, beq_iff_eq, Bool.not_eq_true', decide_eq_true_eq] at h5
  obtain ⟨⟨⟨⟨⟨g1, g2⟩, g3⟩, g4⟩, g5⟩, g6⟩ := h5
  simp [Cond.before, Cond.holds, Cond.value, h1, h2, h3, h4, g1, g2, g3, g4, g5, g6]
def isCode : Jvm.Cond → Bool
  | .code _ _ _ _ => true
  | _ => false
theorem all_split {L : List Jvm.Cond} {P : Jvm.Cond → Bool} (h1 : L.all (fun c => isCode c || P c) = true) (h2 : ∀ c ∈ L.filter isCode, P c = true) : L.all P = true := by
  refine List.all_eq_true.mpr fun c hc => ?_
  have h := List.all_eq_true.mp h1 c hc
  rcases Bool.eq_false_or_eq_true (isCode c) with hi | hi
  · exact h2 c (List.mem_filter.mpr ⟨hc, hi⟩)
  · simpa [hi] using h
set_option maxRecDepth 65536 in
theorem w_c0 : (Jvm.Cond.code x code maxLocals ret).before args0 about1 = true := code_word (m := ⟨1, 1⟩) (meth := k1m1) (c := k1c1) (by decide +kernel) rfl rfl rfl (by decide +kernel)
set_option maxRecDepth 65536 in
theorem w_c1 : (Jvm.Cond.code ({ cls := "java/lang/Throwable", name := "<init>", desc := "()V" } : Jvm.MethodName) jdk_78_method_1_code (1 : Nat) (Option.none : Option Jvm.ClassFile.FieldType)).before args0 about1 = true := code_word (m := ⟨3, 0⟩) (meth := k3m0) (c := k3c0) (by decide +kernel) rfl rfl rfl (by decide +kernel)
set_option maxRecDepth 65536 in
theorem w_c2 : (Jvm.Cond.code ({ cls := "java/lang/Object", name := "<init>", desc := "()V" } : Jvm.MethodName) object_method_1_code (1 : Nat) (Option.none : Option Jvm.ClassFile.FieldType)).before args0 about1 = true := code_word (m := ⟨0, 0⟩) (meth := k0m0) (c := k0c0) (by decide +kernel) rfl rfl rfl (by decide +kernel)
set_option maxRecDepth 65536 in
theorem w_c3 : (Jvm.Cond.code ({ cls := "com/example/verdict/verdict/outcome/TestOutcome", name := "<init>", desc := "()V" } : Jvm.MethodName) prog_29_method_1_code (1 : Nat) (Option.none : Option Jvm.ClassFile.FieldType)).before args0 about1 = true := code_word (m := ⟨4, 0⟩) (meth := k4m0) (c := k4c0) (by decide +kernel) rfl rfl rfl (by decide +kernel)
set_option maxRecDepth 65536 in
theorem w_c4 : (Jvm.Cond.code ({ cls := "java/util/ArrayList", name := "<init>", desc := "()V" } : Jvm.MethodName) jdk_38_method_2_code (1 : Nat) (Option.none : Option Jvm.ClassFile.FieldType)).before args0 about1 = true := code_word (m := ⟨13, 0⟩) (meth := k13m0) (c := k13c0) (by decide +kernel) rfl rfl rfl (by decide +kernel)
set_option maxRecDepth 65536 in
theorem w_c5 : (Jvm.Cond.code ({ cls := "java/util/AbstractList", name := "<init>", desc := "()V" } : Jvm.MethodName) jdk_39_method_1_code (1 : Nat) (Option.none : Option Jvm.ClassFile.FieldType)).before args0 about1 = true := code_word (m := ⟨10, 0⟩) (meth := k10m0) (c := k10c0) (by decide +kernel) rfl rfl rfl (by decide +kernel)
set_option maxRecDepth 65536 in
theorem w_c6 : (Jvm.Cond.code ({ cls := "java/util/AbstractCollection", name := "<init>", desc := "()V" } : Jvm.MethodName) jdk_22_method_1_code (1 : Nat) (Option.none : Option Jvm.ClassFile.FieldType)).before args0 about1 = true := code_word (m := ⟨7, 0⟩) (meth := k7m0) (c := k7c0) (by decide +kernel) rfl rfl rfl (by decide +kernel)
set_option maxRecDepth 65536 in
theorem w_c7 : (Jvm.Cond.code ({ cls := "com/example/verdict/verdict/outcome/TestOutcome", name := "kind", desc := "()Lcom/example/verdict/verdict/outcome/TestOutcome$Kind;" } : Jvm.MethodName) prog_29_method_4_code (2 : Nat) (Option.some (Jvm.ClassFile.FieldType.object "com/example/verdict/verdict/outcome/TestOutcome$Kind"))).before args0 about1 = true := code_word (m := ⟨4, 3⟩) (meth := k4m3) (c := k4c3) (by decide +kernel) rfl rfl rfl (by decide +kernel)
set_option maxRecDepth 65536 in
theorem w_c8 : (Jvm.Cond.code ({ cls := "java/util/ArrayList", name := "isEmpty", desc := "()Z" } : Jvm.MethodName) jdk_38_method_9_code (1 : Nat) (Option.some Jvm.ClassFile.FieldType.boolean)).before args0 about1 = true := code_word (m := ⟨13, 3⟩) (meth := k13m3) (c := k13c3) (by decide +kernel) rfl rfl rfl (by decide +kernel)
set_option maxRecDepth 65536 in
theorem w_c9 : (Jvm.Cond.code ({ cls := "com/example/verdict/verdict/outcome/TestOutcomeKindPinLaw", name := "step", desc := "(Lcom/example/verdict/verdict/outcome/TestOutcome;ILjava/lang/Throwable;[Z)Z" } : Jvm.MethodName) method_3_code (7 : Nat) (Option.some Jvm.ClassFile.FieldType.boolean)).before args0 about1 = true := code_word (m := ⟨1, 2⟩) (meth := k1m2) (c := k1c2) (by decide +kernel) rfl rfl rfl (by decide +kernel)
set_option maxRecDepth 65536 in
theorem w_c10 : (Jvm.Cond.code ({ cls := "com/example/verdict/verdict/outcome/TestOutcome", name := "addAssumptionFailure", desc := "(Ljava/lang/Throwable;)V" } : Jvm.MethodName) prog_29_method_3_code (2 : Nat) (Option.none : Option Jvm.ClassFile.FieldType)).before args0 about1 = true := code_word (m := ⟨4, 2⟩) (meth := k4m2) (c := k4c2) (by decide +kernel) rfl rfl rfl (by decide +kernel)
set_option maxRecDepth 65536 in
theorem w_c11 : (Jvm.Cond.code ({ cls := "com/example/verdict/verdict/outcome/TestOutcome", name := "addFailure", desc := "(Ljava/lang/Throwable;)V" } : Jvm.MethodName) prog_29_method_2_code (2 : Nat) (Option.none : Option Jvm.ClassFile.FieldType)).before args0 about1 = true := code_word (m := ⟨4, 1⟩) (meth := k4m1) (c := k4c1) (by decide +kernel) rfl rfl rfl (by decide +kernel)
set_option maxRecDepth 65536 in
theorem w_c12 : (Jvm.Cond.code ({ cls := "java/util/ArrayList", name := "add", desc := "(Ljava/lang/Object;)Z" } : Jvm.MethodName) jdk_38_method_25_code (2 : Nat) (Option.some Jvm.ClassFile.FieldType.boolean)).before args0 about1 = true := code_word (m := ⟨13, 5⟩) (meth := k13m5) (c := k13c5) (by decide +kernel) rfl rfl rfl (by decide +kernel)
set_option maxRecDepth 65536 in
theorem w_c13 : (Jvm.Cond.code ({ cls := "java/util/ArrayList", name := "add", desc := "(Ljava/lang/Object;[Ljava/lang/Object;I)V" } : Jvm.MethodName) jdk_38_method_24_code (4 : Nat) (Option.none : Option Jvm.ClassFile.FieldType)).before args0 about1 = true := code_word (m := ⟨13, 4⟩) (meth := k13m4) (c := k13c4) (by decide +kernel) rfl rfl rfl (by decide +kernel)
set_option maxRecDepth 65536 in
theorem w_c14 : (Jvm.Cond.code ({ cls := "java/util/ArrayList", name := "grow", desc := "()[Ljava/lang/Object;" } : Jvm.MethodName) jdk_38_method_7_code (1 : Nat) (Option.some (Jvm.ClassFile.FieldType.array (Jvm.ClassFile.FieldType.object "java/lang/Object")))).before args0 about1 = true := code_word (m := ⟨13, 2⟩) (meth := k13m2) (c := k13c2) (by decide +kernel) rfl rfl rfl (by decide +kernel)
set_option maxRecDepth 65536 in
theorem w_c15 : (Jvm.Cond.code ({ cls := "java/util/ArrayList", name := "grow", desc := "(I)[Ljava/lang/Object;" } : Jvm.MethodName) jdk_38_method_6_code (4 : Nat) (Option.some (Jvm.ClassFile.FieldType.array (Jvm.ClassFile.FieldType.object "java/lang/Object")))).before args0 about1 = true := code_word (m := ⟨13, 1⟩) (meth := k13m1) (c := k13c1) (by decide +kernel) rfl rfl rfl (by decide +kernel)
set_option maxRecDepth 65536 in
theorem w_c16 : (Jvm.Cond.code ({ cls := "java/lang/Math", name := "max", desc := "(II)I" } : Jvm.MethodName) jdk_29_method_65_code (2 : Nat) (Option.some Jvm.ClassFile.FieldType.int)).before args0 about1 = true := code_word (m := ⟨18, 1⟩) (meth := k18m1) (c := k18c1) (by decide +kernel) rfl rfl rfl (by decide +kernel)
def codes1 : List Jvm.Cond := [Jvm.Cond.code x code maxLocals ret, Jvm.Cond.code ({ cls := "java/lang/Throwable", name := "<init>", desc := "()V" } : Jvm.MethodName) jdk_78_method_1_code (1 : Nat) (Option.none : Option Jvm.ClassFile.FieldType), Jvm.Cond.code ({ cls := "java/lang/Object", name := "<init>", desc := "()V" } : Jvm.MethodName) object_method_1_code (1 : Nat) (Option.none : Option Jvm.ClassFile.FieldType), Jvm.Cond.code ({ cls := "com/example/verdict/verdict/outcome/TestOutcome", name := "<init>", desc := "()V" } : Jvm.MethodName) prog_29_method_1_code (1 : Nat) (Option.none : Option Jvm.ClassFile.FieldType), Jvm.Cond.code ({ cls := "java/util/ArrayList", name := "<init>", desc := "()V" } : Jvm.MethodName) jdk_38_method_2_code (1 : Nat) (Option.none : Option Jvm.ClassFile.FieldType), Jvm.Cond.code ({ cls := "java/util/AbstractList", name := "<init>", desc := "()V" } : Jvm.MethodName) jdk_39_method_1_code (1 : Nat) (Option.none : Option Jvm.ClassFile.FieldType), Jvm.Cond.code ({ cls := "java/util/AbstractCollection", name := "<init>", desc := "()V" } : Jvm.MethodName) jdk_22_method_1_code (1 : Nat) (Option.none : Option Jvm.ClassFile.FieldType), Jvm.Cond.code ({ cls := "com/example/verdict/verdict/outcome/TestOutcome", name := "kind", desc := "()Lcom/example/verdict/verdict/outcome/TestOutcome$Kind;" } : Jvm.MethodName) prog_29_method_4_code (2 : Nat) (Option.some (Jvm.ClassFile.FieldType.object "com/example/verdict/verdict/outcome/TestOutcome$Kind")), Jvm.Cond.code ({ cls := "java/util/ArrayList", name := "isEmpty", desc := "()Z" } : Jvm.MethodName) jdk_38_method_9_code (1 : Nat) (Option.some Jvm.ClassFile.FieldType.boolean), Jvm.Cond.code ({ cls := "com/example/verdict/verdict/outcome/TestOutcomeKindPinLaw", name := "step", desc := "(Lcom/example/verdict/verdict/outcome/TestOutcome;ILjava/lang/Throwable;[Z)Z" } : Jvm.MethodName) method_3_code (7 : Nat) (Option.some Jvm.ClassFile.FieldType.boolean), Jvm.Cond.code ({ cls := "com/example/verdict/verdict/outcome/TestOutcome", name := "addAssumptionFailure", desc := "(Ljava/lang/Throwable;)V" } : Jvm.MethodName) prog_29_method_3_code (2 : Nat) (Option.none : Option Jvm.ClassFile.FieldType), Jvm.Cond.code ({ cls := "com/example/verdict/verdict/outcome/TestOutcome", name := "addFailure", desc := "(Ljava/lang/Throwable;)V" } : Jvm.MethodName) prog_29_method_2_code (2 : Nat) (Option.none : Option Jvm.ClassFile.FieldType), Jvm.Cond.code ({ cls := "java/util/ArrayList", name := "add", desc := "(Ljava/lang/Object;)Z" } : Jvm.MethodName) jdk_38_method_25_code (2 : Nat) (Option.some Jvm.ClassFile.FieldType.boolean), Jvm.Cond.code ({ cls := "java/util/ArrayList", name := "add", desc := "(Ljava/lang/Object;[Ljava/lang/Object;I)V" } : Jvm.MethodName) jdk_38_method_24_code (4 : Nat) (Option.none : Option Jvm.ClassFile.FieldType), Jvm.Cond.code ({ cls := "java/util/ArrayList", name := "grow", desc := "()[Ljava/lang/Object;" } : Jvm.MethodName) jdk_38_method_7_code (1 : Nat) (Option.some (Jvm.ClassFile.FieldType.array (Jvm.ClassFile.FieldType.object "java/lang/Object"))), Jvm.Cond.code ({ cls := "java/util/ArrayList", name := "grow", desc := "(I)[Ljava/lang/Object;" } : Jvm.MethodName) jdk_38_method_6_code (4 : Nat) (Option.some (Jvm.ClassFile.FieldType.array (Jvm.ClassFile.FieldType.object "java/lang/Object"))), Jvm.Cond.code ({ cls := "java/lang/Math", name := "max", desc := "(II)I" } : Jvm.MethodName) jdk_29_method_65_code (2 : Nat) (Option.some Jvm.ClassFile.FieldType.int)]
set_option maxRecDepth 65536 in
theorem codes_eq : words1.filter isCode = codes1 := rfl
theorem w_codes : ∀ c ∈ words1.filter isCode, c.before args0 about1 = true := by
  rw [codes_eq]
  intro c hc
  simp only [codes1, List.mem_cons, List.not_mem_nil, or_false] at hc
  rcases hc with rfl | rfl | rfl | rfl | rfl | rfl | rfl | rfl | rfl | rfl | rfl | rfl | rfl | rfl | rfl | rfl | rfl
  · exact w_c0
  · exact w_c1
  · exact w_c2
  · exact w_c3
  · exact w_c4
  · exact w_c5
  · exact w_c6
  · exact w_c7
  · exact w_c8
  · exact w_c9
  · exact w_c10
  · exact w_c11
  · exact w_c12
  · exact w_c13
  · exact w_c14
  · exact w_c15
  · exact w_c16
set_option maxRecDepth 65536 in
theorem w_t1 : (words1.take 24).all (fun c => isCode c || c.before args0 about1) = true := by decide +kernel
set_option maxRecDepth 65536 in
theorem w_t2 : ((words1.drop 24).take 24).all (fun c => isCode c || c.before args0 about1) = true := by decide +kernel
set_option maxRecDepth 65536 in
theorem w_t3 : (((words1.drop 24).drop 24).take 24).all (fun c => isCode c || c.before args0 about1) = true := by decide +kernel
set_option maxRecDepth 65536 in
theorem w_t4 : ((((words1.drop 24).drop 24).drop 24).take 24).all (fun c => isCode c || c.before args0 about1) = true := by decide +kernel
set_option maxRecDepth 65536 in
theorem w_t5 : (((((words1.drop 24).drop 24).drop 24).drop 24).take 24).all (fun c => isCode c || c.before args0 about1) = true := by decide +kernel
set_option maxRecDepth 65536 in
theorem w_t6 : ((((((words1.drop 24).drop 24).drop 24).drop 24).drop 24).take 24).all (fun c => isCode c || c.before args0 about1) = true := by decide +kernel
set_option maxRecDepth 65536 in
theorem w_t7 : ((((((words1.drop 24).drop 24).drop 24).drop 24).drop 24).drop 24).all (fun c => isCode c || c.before args0 about1) = true := by decide +kernel
theorem w_tables : (allAtoms (Jvm.Cond.code x code maxLocals ret :: tables_1)).before args0 about1 = true := by
  rw [allAtoms_all]
  show words1.all (fun c => c.before args0 about1) = true
  refine all_split ?_ w_codes
  rw [← List.take_append_drop 24 words1, List.all_append, w_t1, ← List.take_append_drop 24 (words1.drop 24), List.all_append, w_t2, ← List.take_append_drop 24 ((words1.drop 24).drop 24), List.all_append, w_t3, ← List.take_append_drop 24 (((words1.drop 24).drop 24).drop 24), List.all_append, w_t4, ← List.take_append_drop 24 ((((words1.drop 24).drop 24).drop 24).drop 24), List.all_append, w_t5, ← List.take_append_drop 24 (((((words1.drop 24).drop 24).drop 24).drop 24).drop 24), List.all_append, w_t6, w_t7]
  rfl
set_option maxRecDepth 65536 in
theorem w_rest : rest_1_c.before args0 about1 = true := by decide +kernel
set_option maxRecDepth 65536 in
theorem w_case : (Jvm.Cond.and given_1 narrow_1).before args0 about1 = true := by decide +kernel
theorem w_applies : (headSpec (Jvm.Cond.code x code maxLocals ret :: tables_1) room_1).applies x e0.platform about1 = true :=
  (Spec.applies_iff w_frames).mpr ⟨w_running, w_runnable, w_alone, w_named, w_hears, w_ripe, w_room, w_tables⟩
theorem atStart : AtStart classFile x code maxLocals ret World_1 tables_1 room_1 Calls_1 rest_1 Pre_1 launch0 p0 e0 about1 theMethod args0 below0 :=
  ⟨lists_1, trivial, launch0.admits_env _ _ _, launch0.least_env, fairChoices_fair.cas, fairChoices_fair.clock, w_frames, w_args, w_heap, w_applies, ⟨(by decide +kernel : framesKnown about1 = true), ⟨(by decide +kernel : tablesKnown about1 = true), trivial⟩⟩, w_rest, w_case⟩
end start1
theorem witness_1 : WitnessClaimed_1 := ⟨start1.p0, start1.e0, start1.about1, start1.theMethod, start1.args0, start1.below0, start1.atStart⟩
end Jvm.Pilot.@@N@@
