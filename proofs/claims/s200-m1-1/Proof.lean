import JvmDerived
import JvmDerived.Pilot.@@N@@Statement
import JvmDerived.Pilot.@@N@@Code
set_option linter.unusedVariables false
set_option linter.unusedSimpArgs false
namespace Jvm.RoadKit
open Sem ClassFile Op Lib Jvm.Stand Jvm.Free Jvm.LawKit
section New
variable {p : Program} {l : Launch} {e : Env} {R : Room} {s : State} {m : MethodId} {args : Array Value} {below : List Frame} {meth : Method} {c : Code} {T : State} {locs : List Loc} {cells slots : Nat}
theorem retI (X : Stand p l e R s m args below meth c T locs cells slots) (hx : p.tables.exec = Jvm.exec) {pc : Nat} {Ls : Array Slot} {z : Int32} {rest : List Value} (hret : meth.sig.returnType = some .int) (hd : decode c.code pc = .ok (.ireturn, 1)) {fs : List Frame}
    (hl : ∀ (f : JFrame) (acts : List Action), f.method = m → f.locked = none → f.entered = [] → (doReturn e (T.setTop f) acts (some (.int z))).1 = T.setFrames fs) : Steps p.tables e below (T.setTop (mkF m pc Ls (.int z :: rest))) (T.setFrames fs) := by
  have hm' : T.vm.method? m = some meth := X.method'
  have hn : narrow .int (.int z) = .int z := rfl
  show Steps p.tables e below (T.setTop { method := m, pc := pc, locals := Ls, stack := _ :: rest, locked := none }) _
  jvm_step X.here [X.here.top, hx, hd, hm', hret, hn]
  first | (intro acts; rw [hl _ acts rfl rfl rfl]) | rw [hl _ _ rfl rfl rfl]
  exact Steps.refl _
end New
end Jvm.RoadKit
namespace Jvm.Pilot.@@N@@
open Jvm Jvm.ClassFile Sem Op Lib Jvm.Free Jvm.Stand Jvm.LawKit Jvm.RoadKit Bundle Jvm.Pilot.@@N@@.Jvm.D
section OwnKit
/-! The own kit: a walk as one relation 'Rn' on (pc, locals, stack, heap): "from here the body runs to its promise". Each row is a library law read backwards, so that a walk may fork anywhere. -/
abbrev Wk : Type := Program × Env × State × MethodId × Array Value × List Frame × Method × Code
abbrev Wk.p (w : Wk) : Program := w.1
abbrev Wk.e (w : Wk) : Env := w.2.1
abbrev Wk.s (w : Wk) : State := w.2.2.1
abbrev Wk.m (w : Wk) : MethodId := w.2.2.2.1
abbrev Wk.a (w : Wk) : Array Value := w.2.2.2.2.1
abbrev Wk.b (w : Wk) : List Frame := w.2.2.2.2.2.1
abbrev Wk.t (w : Wk) : Method := w.2.2.2.2.2.2.1
abbrev Wk.c (w : Wk) : Code := w.2.2.2.2.2.2.2
/-- the run from (pc, Ls, S) over the heap h, with cs cells and ss slots made so far, ends in Q -/
def Rn (w : Wk) (l : Launch) (R : Room) (n0 : Nat) (Q : Option Value → Heap → Prop) (pc : Nat) (Ls : Array Slot) (S : List Value) (h : Heap) (cs ss : Nat) : Prop :=
  ∀ (T : State) (locs : List Loc), Stand w.p l w.e R w.s w.m w.a w.b w.t w.c T locs cs ss → T.heap = h → Fr n0 locs →
    ∃ s₂ o, Steps w.p.tables w.e w.b (T.setTop (mkF w.m pc Ls S)) s₂ ∧ s₂.status = .running ∧ Ended s₂ w.b o ∧ ∃ v L, o = .returned v ∧ (Fr n0 L ∧ Q v s₂.heap) ∧ FrameEnd w.s o s₂ L R.cells R.slots
/-- what stands throughout the walk of one body -/
def Cx (w : Wk) (Z : State) (a0 : Array Value) (own : String) (bytes : ByteArray) (ml : Nat) (rt : Option FieldType) (nm : String) : Prop :=
  w.p.tables.exec = Jvm.exec ∧ w.c.code = bytes ∧ w.c.maxLocals = ml ∧ w.s.vm.findClass own = some w.m.cls ∧ Z.Warmed39 w.s.vm ∧ w.t.sig.returnType = rt ∧ w.t.locks = false ∧ w.t.name = nm ∧ ∀ d ∈ tables_1, d.before a0 Z = true
/-- a body's contract at the arguments as' over the heap h0 -/
def Met (l : Launch) (Z : State) (y : MethodName) (bytes : ByteArray) (ml : Nat) (rt : Option FieldType) (rm : Room) (n0 : Nat) (ws : List Jvm.Cond) (as' : Array Value) (h0 : Heap) (Q : Option Value → Heap → Prop) : Prop :=
  MetFree l y (head1 (Jvm.Cond.code y bytes ml rt :: ws) rm) (fun a U => a = as' ∧ Z.Warmed39 U.vm ∧ U.heap = h0) (fun _ _ _ _ _ => True) (fun _ U o U' => ∃ v L, o = .returned v ∧ (Fr n0 L ∧ Q v U'.heap) ∧ FrameEnd U o U' L rm.cells rm.slots)
variable {w : Wk} {l : Launch} {R : Room} {n0 : Nat} {Q : Option Value → Heap → Prop} {pc q : Nat} {Ls Ls' : Array Slot} {S : List Value} {h : Heap} {cs ss : Nat} {Z : State} {a0 : Array Value} {own : String} {bytes : ByteArray} {ml : Nat} {rt : Option FieldType} {nm : String}
theorem Cx.x (K : Cx w Z a0 own bytes ml rt nm) : w.p.tables.exec = Jvm.exec := K.1
theorem Cx.cd (K : Cx w Z a0 own bytes ml rt nm) : w.c.code = bytes := K.2.1
theorem Cx.mx (K : Cx w Z a0 own bytes ml rt nm) : w.c.maxLocals = ml := K.2.2.1
theorem Cx.ow (K : Cx w Z a0 own bytes ml rt nm) : w.s.vm.findClass own = some w.m.cls := K.2.2.2.1
theorem Cx.z (K : Cx w Z a0 own bytes ml rt nm) : Z.Warmed39 w.s.vm := K.2.2.2.2.1
theorem Cx.ret (K : Cx w Z a0 own bytes ml rt nm) : w.t.sig.returnType = rt := K.2.2.2.2.2.1
theorem Cx.lk (K : Cx w Z a0 own bytes ml rt nm) : w.t.locks = false := K.2.2.2.2.2.2.1
theorem Cx.nme (K : Cx w Z a0 own bytes ml rt nm) : w.t.name = nm := K.2.2.2.2.2.2.2.1
theorem Cx.hw (K : Cx w Z a0 own bytes ml rt nm) : ∀ d ∈ tables_1, d.before a0 Z = true := K.2.2.2.2.2.2.2.2
theorem Met.intro {y : MethodName} {as' : Array Value} {h0 : Heap} {rm : Room} {ws : List Jvm.Cond} (hp : plainFor y = true) (hw : ∀ d ∈ tables_1, d.before a0 Z = true) (ef : ∀ m, entryFrame m as' ml = mkF m 0 Ls [])
    (k : ∀ w : Wk, Cx w Z a0 y.cls bytes ml rt y.name → Rn w l rm n0 Q 0 Ls [] h0 0 0) : Met l Z y bytes ml rt rm n0 ws as' h0 Q := by
  refine MetFree.of_bodySF hp hisR ?_
  intro p e s m args below meth c s₁ Bd hml0 hP hK
  obtain ⟨ha, hZ, hh⟩ := hP
  subst ha
  have e0 : s₁.heap = h0 := by rw [← hh, Bd.state]; rfl
  obtain ⟨s₂, o, h1, h2, h3, h4⟩ := k (p, e, s, m, args, below, meth, c) ⟨Bd.exec, Bd.bytes, hml0, findClass_of_methodNamed Bd.named, hZ, Bd.returns, Bd.notSynchronized, (name_of_methodNamed Bd.named Bd.method).1, hw⟩ s₁ [] (Stand.of_body Bd) e0 (Fr.nil n0)
  exact ⟨s₂, o, castTop (ef m) h1, h2, h3, h4⟩
theorem Rn.step {S' : List Value} (st : ∀ (T : State) (locs : List Loc), Stand w.p l w.e R w.s w.m w.a w.b w.t w.c T locs cs ss → ∀ t, Steps w.p.tables w.e w.b (T.setTop (mkF w.m q Ls' S')) t → Steps w.p.tables w.e w.b (T.setTop (mkF w.m pc Ls S)) t)
    (k : Rn w l R n0 Q q Ls' S' h cs ss) : Rn w l R n0 Q pc Ls S h cs ss := fun T locs X eT N => by
  obtain ⟨s₂, o, h1, r⟩ := k T locs X eT N
  exact ⟨s₂, o, st T locs X _ h1, r⟩
/-! plain steps -/
theorem Rn.iloadN (K : Cx w Z a0 own bytes ml rt nm) {k : Fin 4} {v : Int32} (hd : decode bytes pc = .ok (.iload_n k, 1)) (hl : Ls[k.val]? = some (.val (.int v))) (hq : pc + 1 = q) (r : Rn w l R n0 Q q Ls (.int v :: S) h cs ss) : Rn w l R n0 Q pc Ls S h cs ss := by
  subst hq; exact Rn.step (fun T locs X t k => XS.iloadN X.here K.x rfl (hb K.cd hd) hl k) r
theorem Rn.iload (K : Cx w Z a0 own bytes ml rt nm) {k : Nat} {v : Int32} (hd : decode bytes pc = .ok (.iload k, 2)) (hl : Ls[k]? = some (.val (.int v))) (hq : pc + 2 = q) (r : Rn w l R n0 Q q Ls (.int v :: S) h cs ss) : Rn w l R n0 Q pc Ls S h cs ss := by
  subst hq; exact Rn.step (fun T locs X t k => XS.iload X.here K.x rfl (hb K.cd hd) hl k) r
theorem Rn.lloadN (K : Cx w Z a0 own bytes ml rt nm) {k : Fin 4} {v : Int64} (hd : decode bytes pc = .ok (.lload_n k, 1)) (hl : Ls[k.val]? = some (.val (.long v))) (hq : pc + 1 = q) (r : Rn w l R n0 Q q Ls (.long v :: S) h cs ss) : Rn w l R n0 Q pc Ls S h cs ss := by
  subst hq; exact Rn.step (fun T locs X t k => XS.lloadN X.here K.x rfl (hb K.cd hd) hl k) r
theorem Rn.lload (K : Cx w Z a0 own bytes ml rt nm) {k : Nat} {v : Int64} (hd : decode bytes pc = .ok (.lload k, 2)) (hl : Ls[k]? = some (.val (.long v))) (hq : pc + 2 = q) (r : Rn w l R n0 Q q Ls (.long v :: S) h cs ss) : Rn w l R n0 Q pc Ls S h cs ss := by
  subst hq; exact Rn.step (fun T locs X t k => XS.lload X.here K.x rfl (hb K.cd hd) hl k) r
theorem Rn.aloadN (K : Cx w Z a0 own bytes ml rt nm) {k : Fin 4} {v : Value} (hd : decode bytes pc = .ok (.aload_n k, 1)) (hl : Ls[k.val]? = some (.val v)) (hv : v.isRef = true) (hq : pc + 1 = q) (r : Rn w l R n0 Q q Ls (v :: S) h cs ss) : Rn w l R n0 Q pc Ls S h cs ss := by
  subst hq; exact Rn.step (fun T locs X t k => XS.aloadN X.here K.x rfl (hb K.cd hd) hl hv k) r
theorem Rn.aload (K : Cx w Z a0 own bytes ml rt nm) {k : Nat} {v : Value} (hd : decode bytes pc = .ok (.aload k, 2)) (hl : Ls[k]? = some (.val v)) (hv : v.isRef = true) (hq : pc + 2 = q) (r : Rn w l R n0 Q q Ls (v :: S) h cs ss) : Rn w l R n0 Q pc Ls S h cs ss := by
  subst hq; exact Rn.step (fun T locs X t k => XS.aload X.here K.x rfl (hb K.cd hd) hl hv k) r
theorem Rn.istoreN (K : Cx w Z a0 own bytes ml rt nm) {k : Fin 4} {v : Int32} (hd : decode bytes pc = .ok (.istore_n k, 1)) (hl : storeLocals Ls k.val (.int v) = some Ls') (hq : pc + 1 = q) (r : Rn w l R n0 Q q Ls' S h cs ss) : Rn w l R n0 Q pc Ls (.int v :: S) h cs ss := by
  subst hq; exact Rn.step (fun T locs X t k => XS.istoreN X.here K.x rfl (hb K.cd hd) rfl hl k) r
theorem Rn.istore (K : Cx w Z a0 own bytes ml rt nm) {k : Nat} {v : Int32} (hd : decode bytes pc = .ok (.istore k, 2)) (hl : storeLocals Ls k (.int v) = some Ls') (hq : pc + 2 = q) (r : Rn w l R n0 Q q Ls' S h cs ss) : Rn w l R n0 Q pc Ls (.int v :: S) h cs ss := by
  subst hq; exact Rn.step (fun T locs X t k => XS.istore X.here K.x rfl (hb K.cd hd) rfl hl k) r
theorem Rn.lstoreN (K : Cx w Z a0 own bytes ml rt nm) {k : Fin 4} {v : Int64} (hd : decode bytes pc = .ok (.lstore_n k, 1)) (hl : storeLocals Ls k.val (.long v) = some Ls') (hq : pc + 1 = q) (r : Rn w l R n0 Q q Ls' S h cs ss) : Rn w l R n0 Q pc Ls (.long v :: S) h cs ss := by
  subst hq; exact Rn.step (fun T locs X t k => XS.lstoreN X.here K.x rfl (hb K.cd hd) rfl hl k) r
theorem Rn.lstore (K : Cx w Z a0 own bytes ml rt nm) {k : Nat} {v : Int64} (hd : decode bytes pc = .ok (.lstore k, 2)) (hl : storeLocals Ls k (.long v) = some Ls') (hq : pc + 2 = q) (r : Rn w l R n0 Q q Ls' S h cs ss) : Rn w l R n0 Q pc Ls (.long v :: S) h cs ss := by
  subst hq; exact Rn.step (fun T locs X t k => XS.lstore X.here K.x rfl (hb K.cd hd) rfl hl k) r
theorem Rn.astoreN (K : Cx w Z a0 own bytes ml rt nm) {k : Fin 4} {v : Value} (hd : decode bytes pc = .ok (.astore_n k, 1)) (hv : v.isRef = true) (hl : storeLocals Ls k.val v = some Ls') (hq : pc + 1 = q) (r : Rn w l R n0 Q q Ls' S h cs ss) : Rn w l R n0 Q pc Ls (v :: S) h cs ss := by
  subst hq; exact Rn.step (fun T locs X t k => XS.astoreN X.here K.x rfl (hb K.cd hd) rfl hv hl k) r
theorem Rn.astore (K : Cx w Z a0 own bytes ml rt nm) {k : Nat} {v : Value} (hd : decode bytes pc = .ok (.astore k, 2)) (hv : v.isRef = true) (hl : storeLocals Ls k v = some Ls') (hq : pc + 2 = q) (r : Rn w l R n0 Q q Ls' S h cs ss) : Rn w l R n0 Q pc Ls (v :: S) h cs ss := by
  subst hq; exact Rn.step (fun T locs X t k => XS.astore X.here K.x rfl (hb K.cd hd) rfl hv hl k) r
theorem Rn.iconst (K : Cx w Z a0 own bytes ml rt nm) {i : Int} (v : Int32) (hd : decode bytes pc = .ok (.iconst i, 1)) (hv : Int32.ofInt i = v) (hq : pc + 1 = q) (r : Rn w l R n0 Q q Ls (.int v :: S) h cs ss) : Rn w l R n0 Q pc Ls S h cs ss := by
  subst hq hv; exact Rn.step (fun T locs X t k => XS.iconst X.here K.x rfl (hb K.cd hd) k) r
theorem Rn.bipush (K : Cx w Z a0 own bytes ml rt nm) {i : Int} (v : Int32) (hd : decode bytes pc = .ok (.bipush i, 2)) (hv : (Int8.ofInt i).toInt32 = v) (hq : pc + 2 = q) (r : Rn w l R n0 Q q Ls (.int v :: S) h cs ss) : Rn w l R n0 Q pc Ls S h cs ss := by
  subst hq hv; exact Rn.step (fun T locs X t k => XS.bipush X.here K.x rfl (hb K.cd hd) k) r
theorem Rn.sipush (K : Cx w Z a0 own bytes ml rt nm) {i : Int} (v : Int32) (hd : decode bytes pc = .ok (.sipush i, 3)) (hv : (Int16.ofInt i).toInt32 = v) (hq : pc + 3 = q) (r : Rn w l R n0 Q q Ls (.int v :: S) h cs ss) : Rn w l R n0 Q pc Ls S h cs ss := by
  subst hq hv; exact Rn.step (fun T locs X t k => XS.sipush X.here K.x rfl (hb K.cd hd) k) r
theorem Rn.lconst (K : Cx w Z a0 own bytes ml rt nm) {i : Fin 2} (v : Int64) (hd : decode bytes pc = .ok (.lconst i, 1)) (hv : Int64.ofNat i = v) (hq : pc + 1 = q) (r : Rn w l R n0 Q q Ls (.long v :: S) h cs ss) : Rn w l R n0 Q pc Ls S h cs ss := by
  subst hq hv; exact Rn.step (fun T locs X t k => XS.lconst X.here K.x rfl (hb K.cd hd) k) r
theorem Rn.aconst_null (K : Cx w Z a0 own bytes ml rt nm) (hd : decode bytes pc = .ok (.aconst_null, 1)) (hq : pc + 1 = q) (r : Rn w l R n0 Q q Ls (.null :: S) h cs ss) : Rn w l R n0 Q pc Ls S h cs ss := by
  subst hq; exact Rn.step (fun T locs X t k => XS.aconstNull X.here K.x rfl (hb K.cd hd) k) r
theorem Rn.ldcI (K : Cx w Z a0 own bytes ml rt nm) {i : Nat} (v : Int32) (hi : Jvm.Cond.constant own i v ∈ tables_1) (hd : decode bytes pc = .ok (.ldc i, 2)) (hq : pc + 2 = q) (r : Rn w l R n0 Q q Ls (.int v :: S) h cs ss) : Rn w l R n0 Q pc Ls S h cs ss := by
  subst hq; exact Rn.step (fun T locs X t k => X.ldcI K.x K.ow (mvT K.z (K.hw _ hi)) rfl (hb K.cd hd) k) r
theorem Rn.ldc2J (K : Cx w Z a0 own bytes ml rt nm) {i : Nat} (v : Int64) (hi : Jvm.Cond.constantLong own i v ∈ tables_1) (hd : decode bytes pc = .ok (.ldc2_w i, 3)) (hq : pc + 3 = q) (r : Rn w l R n0 Q q Ls (.long v :: S) h cs ss) : Rn w l R n0 Q pc Ls S h cs ss := by
  subst hq; exact Rn.step (fun T locs X t k => X.ldc2J K.x K.ow (mvT K.z (K.hw _ hi)) rfl (hb K.cd hd) k) r
theorem Rn.iadd (K : Cx w Z a0 own bytes ml rt nm) {x y : Int32} (hd : decode bytes pc = .ok (.iadd, 1)) (hq : pc + 1 = q) (r : Rn w l R n0 Q q Ls (.int (x + y) :: S) h cs ss) : Rn w l R n0 Q pc Ls (.int y :: .int x :: S) h cs ss := by
  subst hq; exact Rn.step (fun T locs X t k => XS.iadd X.here K.x rfl (hb K.cd hd) rfl k) r
theorem Rn.isub (K : Cx w Z a0 own bytes ml rt nm) {x y : Int32} (hd : decode bytes pc = .ok (.isub, 1)) (hq : pc + 1 = q) (r : Rn w l R n0 Q q Ls (.int (x - y) :: S) h cs ss) : Rn w l R n0 Q pc Ls (.int y :: .int x :: S) h cs ss := by
  subst hq; exact Rn.step (fun T locs X t k => XS.isub X.here K.x rfl (hb K.cd hd) rfl k) r
theorem Rn.imul (K : Cx w Z a0 own bytes ml rt nm) {x y : Int32} (hd : decode bytes pc = .ok (.imul, 1)) (hq : pc + 1 = q) (r : Rn w l R n0 Q q Ls (.int (x * y) :: S) h cs ss) : Rn w l R n0 Q pc Ls (.int y :: .int x :: S) h cs ss := by
  subst hq; exact Rn.step (fun T locs X t k => XS.imul X.here K.x rfl (hb K.cd hd) rfl k) r
theorem Rn.iand (K : Cx w Z a0 own bytes ml rt nm) {x y : Int32} (hd : decode bytes pc = .ok (.iand, 1)) (hq : pc + 1 = q) (r : Rn w l R n0 Q q Ls (.int (x &&& y) :: S) h cs ss) : Rn w l R n0 Q pc Ls (.int y :: .int x :: S) h cs ss := by
  subst hq; exact Rn.step (fun T locs X t k => XS.iand X.here K.x rfl (hb K.cd hd) rfl k) r
theorem Rn.ior (K : Cx w Z a0 own bytes ml rt nm) {x y : Int32} (hd : decode bytes pc = .ok (.ior, 1)) (hq : pc + 1 = q) (r : Rn w l R n0 Q q Ls (.int (x ||| y) :: S) h cs ss) : Rn w l R n0 Q pc Ls (.int y :: .int x :: S) h cs ss := by
  subst hq; exact Rn.step (fun T locs X t k => XS.ior X.here K.x rfl (hb K.cd hd) rfl k) r
theorem Rn.iushr (K : Cx w Z a0 own bytes ml rt nm) {x y : Int32} (hd : decode bytes pc = .ok (.iushr, 1)) (hq : pc + 1 = q) (r : Rn w l R n0 Q q Ls (.int ((x.toUInt32 >>> (y &&& 31).toUInt32).toInt32) :: S) h cs ss) : Rn w l R n0 Q pc Ls (.int y :: .int x :: S) h cs ss := by
  subst hq; exact Rn.step (fun T locs X t k => XS.iushr X.here K.x rfl (hb K.cd hd) rfl k) r
theorem Rn.ishr (K : Cx w Z a0 own bytes ml rt nm) {x y : Int32} (hd : decode bytes pc = .ok (.ishr, 1)) (hq : pc + 1 = q) (r : Rn w l R n0 Q q Ls (.int (x >>> (y &&& 31)) :: S) h cs ss) : Rn w l R n0 Q pc Ls (.int y :: .int x :: S) h cs ss := by
  subst hq; exact Rn.step (fun T locs X t k => XS.ishr X.here K.x rfl (hb K.cd hd) rfl k) r
theorem Rn.irem (K : Cx w Z a0 own bytes ml rt nm) {x y : Int32} (hd : decode bytes pc = .ok (.irem, 1)) (hy : y ≠ 0) (hq : pc + 1 = q) (r : Rn w l R n0 Q q Ls (.int (x % y) :: S) h cs ss) : Rn w l R n0 Q pc Ls (.int y :: .int x :: S) h cs ss := by
  subst hq; exact Rn.step (fun T locs X t k => iremM X K.x rfl (hb K.cd hd) rfl hy k) r
theorem Rn.land (K : Cx w Z a0 own bytes ml rt nm) {x y : Int64} (hd : decode bytes pc = .ok (.land, 1)) (hq : pc + 1 = q) (r : Rn w l R n0 Q q Ls (.long (x &&& y) :: S) h cs ss) : Rn w l R n0 Q pc Ls (.long y :: .long x :: S) h cs ss := by
  subst hq; exact Rn.step (fun T locs X t k => XS.land X.here K.x rfl (hb K.cd hd) rfl k) r
theorem Rn.lmul (K : Cx w Z a0 own bytes ml rt nm) {x y : Int64} (hd : decode bytes pc = .ok (.lmul, 1)) (hq : pc + 1 = q) (r : Rn w l R n0 Q q Ls (.long (x * y) :: S) h cs ss) : Rn w l R n0 Q pc Ls (.long y :: .long x :: S) h cs ss := by
  subst hq; exact Rn.step (fun T locs X t k => XS.lmul X.here K.x rfl (hb K.cd hd) rfl k) r
theorem Rn.lneg (K : Cx w Z a0 own bytes ml rt nm) {x : Int64} (hd : decode bytes pc = .ok (.lneg, 1)) (hq : pc + 1 = q) (r : Rn w l R n0 Q q Ls (.long (-x) :: S) h cs ss) : Rn w l R n0 Q pc Ls (.long x :: S) h cs ss := by
  subst hq; exact Rn.step (fun T locs X t k => XS.lneg X.here K.x rfl (hb K.cd hd) rfl k) r
theorem Rn.lcmp (K : Cx w Z a0 own bytes ml rt nm) {x y : Int64} (hd : decode bytes pc = .ok (.lcmp, 1)) (hq : pc + 1 = q) (r : Rn w l R n0 Q q Ls (.int (lcmpW x y) :: S) h cs ss) : Rn w l R n0 Q pc Ls (.long y :: .long x :: S) h cs ss := by
  subst hq; exact Rn.step (fun T locs X t k => XS.lcmp X.here K.x rfl (hb K.cd hd) rfl k) r
theorem Rn.i2l (K : Cx w Z a0 own bytes ml rt nm) {x : Int32} (hd : decode bytes pc = .ok (.i2l, 1)) (hq : pc + 1 = q) (r : Rn w l R n0 Q q Ls (.long x.toInt64 :: S) h cs ss) : Rn w l R n0 Q pc Ls (.int x :: S) h cs ss := by
  subst hq; exact Rn.step (fun T locs X t k => XS.i2l X.here K.x rfl (hb K.cd hd) rfl k) r
theorem Rn.i2c (K : Cx w Z a0 own bytes ml rt nm) {x : Int32} (hd : decode bytes pc = .ok (.i2c, 1)) (hq : pc + 1 = q) (r : Rn w l R n0 Q q Ls (.int x.toUInt32.toUInt16.toUInt32.toInt32 :: S) h cs ss) : Rn w l R n0 Q pc Ls (.int x :: S) h cs ss := by
  subst hq; exact Rn.step (fun T locs X t k => XS.i2c X.here K.x rfl (hb K.cd hd) rfl k) r
theorem Rn.dup (K : Cx w Z a0 own bytes ml rt nm) {x : Value} (hd : decode bytes pc = .ok (.dup, 1)) (hc : x.category = 1) (hq : pc + 1 = q) (r : Rn w l R n0 Q q Ls (x :: x :: S) h cs ss) : Rn w l R n0 Q pc Ls (x :: S) h cs ss := by
  subst hq; exact Rn.step (fun T locs X t k => XS.dup X.here K.x rfl (hb K.cd hd) rfl hc k) r
theorem Rn.pop (K : Cx w Z a0 own bytes ml rt nm) {x : Value} (hd : decode bytes pc = .ok (.pop, 1)) (hc : x.category = 1) (hq : pc + 1 = q) (r : Rn w l R n0 Q q Ls S h cs ss) : Rn w l R n0 Q pc Ls (x :: S) h cs ss := by
  subst hq; exact Rn.step (fun T locs X t k => XS.pop X.here K.x rfl (hb K.cd hd) rfl hc k) r
theorem Rn.dup_x1 (K : Cx w Z a0 own bytes ml rt nm) {x y : Value} (hd : decode bytes pc = .ok (.dup_x1, 1)) (hc : x.category = 1) (hc' : y.category = 1) (hq : pc + 1 = q) (r : Rn w l R n0 Q q Ls (x :: y :: x :: S) h cs ss) : Rn w l R n0 Q pc Ls (x :: y :: S) h cs ss := by
  subst hq; exact Rn.step (fun T locs X t k => XS.dupX1 X.here K.x rfl (hb K.cd hd) rfl hc hc' k) r
theorem Rn.dup2L (K : Cx w Z a0 own bytes ml rt nm) {x : Int64} (hd : decode bytes pc = .ok (.dup2, 1)) (hq : pc + 1 = q) (r : Rn w l R n0 Q q Ls (.long x :: .long x :: S) h cs ss) : Rn w l R n0 Q pc Ls (.long x :: S) h cs ss := by
  subst hq; exact Rn.step (fun T locs X t k => XT.dup2L X.here K.x rfl (hb K.cd hd) rfl k) r
theorem Rn.iinc (K : Cx w Z a0 own bytes ml rt nm) {k : Nat} {i : Int} {x : Int32} (v : Int32) (hd : decode bytes pc = .ok (.iinc k i, 3)) (hv : Int32.ofInt i = v) (hl : Ls[k]? = some (.val (.int x))) (hl' : storeLocals Ls k (.int (x + v)) = some Ls') (hq : pc + 3 = q) (r : Rn w l R n0 Q q Ls' S h cs ss) : Rn w l R n0 Q pc Ls S h cs ss := by
  subst hq hv; exact Rn.step (fun T locs X t k => XS.iinc X.here K.x rfl (hb K.cd hd) hl hl' k) r
theorem Rn.goto (K : Cx w Z a0 own bytes ml rt nm) {o : Int} (hd : decode bytes pc = .ok (.goto o, 3)) (ho : 0 ≤ (pc : Int) + o) (hq : ((pc : Int) + o).toNat = q) (r : Rn w l R n0 Q q Ls S h cs ss) : Rn w l R n0 Q pc Ls S h cs ss :=
  Rn.step (fun T locs X t k => XS.goto X.here K.x rfl rfl (hb K.cd hd) ho hq k) r
theorem Rn.ifY (K : Cx w Z a0 own bytes ml rt nm) {cd : ClassFile.Cond} {x : Int32} {o : Int} (hd : decode bytes pc = .ok (.ifCond cd o, 3)) (hc : ifCond.holds cd x = true) (ho : 0 ≤ (pc : Int) + o) (hq : ((pc : Int) + o).toNat = q) (r : Rn w l R n0 Q q Ls S h cs ss) : Rn w l R n0 Q pc Ls (.int x :: S) h cs ss :=
  Rn.step (fun T locs X t k => XS.ifYes X.here K.x rfl rfl (hb K.cd hd) rfl hc ho hq k) r
theorem Rn.ifN (K : Cx w Z a0 own bytes ml rt nm) {cd : ClassFile.Cond} {x : Int32} {o : Int} (hd : decode bytes pc = .ok (.ifCond cd o, 3)) (hc : ifCond.holds cd x = false) (hq : pc + 3 = q) (r : Rn w l R n0 Q q Ls S h cs ss) : Rn w l R n0 Q pc Ls (.int x :: S) h cs ss := by
  subst hq; exact Rn.step (fun T locs X t k => XS.ifNo X.here K.x rfl (hb K.cd hd) rfl hc k) r
theorem Rn.icY (K : Cx w Z a0 own bytes ml rt nm) {cd : ClassFile.Cond} {x y : Int32} {o : Int} (hd : decode bytes pc = .ok (.if_icmp cd o, 3)) (hc : if_icmp.holds cd x y = true) (ho : 0 ≤ (pc : Int) + o) (hq : ((pc : Int) + o).toNat = q) (r : Rn w l R n0 Q q Ls S h cs ss) : Rn w l R n0 Q pc Ls (.int y :: .int x :: S) h cs ss :=
  Rn.step (fun T locs X t k => XS.icmpYes X.here K.x rfl rfl (hb K.cd hd) rfl hc ho hq k) r
theorem Rn.icN (K : Cx w Z a0 own bytes ml rt nm) {cd : ClassFile.Cond} {x y : Int32} {o : Int} (hd : decode bytes pc = .ok (.if_icmp cd o, 3)) (hc : if_icmp.holds cd x y = false) (hq : pc + 3 = q) (r : Rn w l R n0 Q q Ls S h cs ss) : Rn w l R n0 Q pc Ls (.int y :: .int x :: S) h cs ss := by
  subst hq; exact Rn.step (fun T locs X t k => XS.icmpNo X.here K.x rfl (hb K.cd hd) rfl hc k) r
theorem Rn.acY (K : Cx w Z a0 own bytes ml rt nm) {cd : ClassFile.ACond} {x y : Value} {o : Int} (hd : decode bytes pc = .ok (.if_acmp cd o, 3)) (h1 : x.isRef = true) (h2 : y.isRef = true) (hc : XT.acmp cd x y = true) (ho : 0 ≤ (pc : Int) + o) (hq : ((pc : Int) + o).toNat = q) (r : Rn w l R n0 Q q Ls S h cs ss) : Rn w l R n0 Q pc Ls (y :: x :: S) h cs ss :=
  Rn.step (fun T locs X t k => XT.acmpYes X.here K.x rfl rfl (hb K.cd hd) rfl h1 h2 hc ho hq k) r
theorem Rn.acN (K : Cx w Z a0 own bytes ml rt nm) {cd : ClassFile.ACond} {x y : Value} {o : Int} (hd : decode bytes pc = .ok (.if_acmp cd o, 3)) (h1 : x.isRef = true) (h2 : y.isRef = true) (hc : XT.acmp cd x y = false) (hq : pc + 3 = q) (r : Rn w l R n0 Q q Ls S h cs ss) : Rn w l R n0 Q pc Ls (y :: x :: S) h cs ss := by
  subst hq; exact Rn.step (fun T locs X t k => XT.acmpNo X.here K.x rfl (hb K.cd hd) rfl h1 h2 hc k) r
theorem Rn.nullY (K : Cx w Z a0 own bytes ml rt nm) {o : Int} (hd : decode bytes pc = .ok (.ifnull o, 3)) (ho : 0 ≤ (pc : Int) + o) (hq : ((pc : Int) + o).toNat = q) (r : Rn w l R n0 Q q Ls S h cs ss) : Rn w l R n0 Q pc Ls (.null :: S) h cs ss :=
  Rn.step (fun T locs X t k => XS.ifnullYes X.here K.x rfl rfl (hb K.cd hd) rfl ho hq k) r
theorem Rn.nullN (K : Cx w Z a0 own bytes ml rt nm) {o : Int} {b : Addr} (hd : decode bytes pc = .ok (.ifnull o, 3)) (hq : pc + 3 = q) (r : Rn w l R n0 Q q Ls S h cs ss) : Rn w l R n0 Q pc Ls (.ref b :: S) h cs ss := by
  subst hq; exact Rn.step (fun T locs X t k => XS.ifnullNo X.here K.x rfl (hb K.cd hd) rfl k) r
theorem Rn.nonnullY (K : Cx w Z a0 own bytes ml rt nm) {o : Int} {b : Addr} (hd : decode bytes pc = .ok (.ifnonnull o, 3)) (ho : 0 ≤ (pc : Int) + o) (hq : ((pc : Int) + o).toNat = q) (r : Rn w l R n0 Q q Ls S h cs ss) : Rn w l R n0 Q pc Ls (.ref b :: S) h cs ss :=
  Rn.step (fun T locs X t k => XS.ifnonnullYes X.here K.x rfl rfl (hb K.cd hd) rfl ho hq k) r
theorem Rn.nonnullN (K : Cx w Z a0 own bytes ml rt nm) {o : Int} (hd : decode bytes pc = .ok (.ifnonnull o, 3)) (hq : pc + 3 = q) (r : Rn w l R n0 Q q Ls S h cs ss) : Rn w l R n0 Q pc Ls (.null :: S) h cs ss := by
  subst hq; exact Rn.step (fun T locs X t k => XS.ifnonnullNo X.here K.x rfl (hb K.cd hd) rfl k) r
/-! the ends -/
theorem Rn.retN (K : Cx w Z a0 own bytes ml rt nm) {x : Int32} (t : FieldType) (ht : rt = some t) (ht' : t = .boolean ∨ t = .byte ∨ t = .char ∨ t = .short) (hd : decode bytes pc = .ok (.ireturn, 1)) (hc : cs ≤ R.cells) (hs : ss ≤ R.slots) (hQ : Q (some (.int (nar t x))) h) : Rn w l R n0 Q pc Ls (.int x :: S) h cs ss := fun T locs X eT N => by
  obtain ⟨fs, hr, hrun, hended, hW, hsame⟩ := X.leave (v := some (.int (nar t x))) (fun h => by rw [K.ret, ht] at h; cases h) K.lk
  exact ⟨_, _, Jvm.RoadKit.retN X K.x (K.ret.trans ht) ht' (hb K.cd hd) hr, hrun, hended, _, _, rfl, ⟨N, by rw [← eT] at hQ; exact hQ⟩, ⟨_, rfl⟩, hW, hsame.mono hc hs⟩
theorem Rn.retI (K : Cx w Z a0 own bytes ml rt nm) {x : Int32} (ht : rt = some .int) (hd : decode bytes pc = .ok (.ireturn, 1)) (hc : cs ≤ R.cells) (hs : ss ≤ R.slots) (hQ : Q (some (.int x)) h) : Rn w l R n0 Q pc Ls (.int x :: S) h cs ss := fun T locs X eT N => by
  obtain ⟨fs, hr, hrun, hended, hW, hsame⟩ := X.leave (v := some (.int x)) (fun h => by rw [K.ret, ht] at h; cases h) K.lk
  exact ⟨_, _, Jvm.RoadKit.retI X K.x (K.ret.trans ht) (hb K.cd hd) hr, hrun, hended, _, _, rfl, ⟨N, by rw [← eT] at hQ; exact hQ⟩, ⟨_, rfl⟩, hW, hsame.mono hc hs⟩
theorem Rn.retJ (K : Cx w Z a0 own bytes ml rt nm) {x : Int64} (ht : rt = some .long) (hd : decode bytes pc = .ok (.lreturn, 1)) (hc : cs ≤ R.cells) (hs : ss ≤ R.slots) (hQ : Q (some (.long x)) h) : Rn w l R n0 Q pc Ls [.long x] h cs ss := fun T locs X eT N => by
  obtain ⟨fs, hr, hrun, hended, hW, hsame⟩ := X.leave (v := some (.long x)) (fun h => by rw [K.ret, ht] at h; cases h) K.lk
  exact ⟨_, _, X.lreturnOut K.x (K.ret.trans ht) (hb K.cd hd) hr, hrun, hended, _, _, rfl, ⟨N, by rw [← eT] at hQ; exact hQ⟩, ⟨_, rfl⟩, hW, hsame.mono hc hs⟩
theorem Rn.retA (K : Cx w Z a0 own bytes ml rt nm) {v : Value} (t : FieldType) (hv : v.isRef = true) (ht : rt = some t) (ht' : t.isReference = true) (hd : decode bytes pc = .ok (.areturn, 1)) (hc : cs ≤ R.cells) (hs : ss ≤ R.slots) (hQ : Q (some v) h) : Rn w l R n0 Q pc Ls [v] h cs ss := fun T locs X eT N => by
  obtain ⟨fs, hr, hrun, hended, hW, hsame⟩ := X.leave (v := some v) (fun h => by rw [K.ret, ht] at h; cases h) K.lk
  exact ⟨_, _, X.areturnOut K.x hv (K.ret.trans ht) ht' (hb K.cd hd) hr, hrun, hended, _, _, rfl, ⟨N, by rw [← eT] at hQ; exact hQ⟩, ⟨_, rfl⟩, hW, hsame.mono hc hs⟩
theorem Rn.retV (K : Cx w Z a0 own bytes ml rt nm) (ht : rt = none) (hd : decode bytes pc = .ok (.return_, 1)) (hc : cs ≤ R.cells) (hs : ss ≤ R.slots) (hQ : Q none h) : Rn w l R n0 Q pc Ls [] h cs ss := fun T locs X eT N => by
  obtain ⟨fs, hr, hrun, hended, hW, hsame⟩ := X.leave (v := none) (fun _ => rfl) K.lk
  exact ⟨_, _, X.returnOut K.x (K.ret.trans ht) (hb K.cd hd) hr, hrun, hended, _, _, rfl, ⟨N, by rw [← eT] at hQ; exact hQ⟩, ⟨_, rfl⟩, hW, hsame.mono hc hs⟩
/-! fields and statics -/
theorem Rn.getS (K : Cx w Z a0 own bytes ml rt nm) {i : Nat} {C n d : String} {v : Value} (hi : Jvm.Cond.fieldLink own i C n d ∈ tables_1) (F : Sta Z h C n d v) (hd : decode bytes pc = .ok (.getstatic i, 3)) (hq : pc + 3 = q) (r : Rn w l R n0 Q q Ls (v :: S) h cs ss) : Rn w l R n0 Q pc Ls S h cs ss := fun T locs X eT N => by
  subst hq
  obtain ⟨T', X', e', st⟩ := getS2 X K.x K.z K.ow (host := "") (Or.inl (K.hw _ hi)) Via.refl eT F (g := mkF w.m pc Ls S) rfl (hb K.cd hd)
  obtain ⟨s₂, o, h1, r'⟩ := r T' locs X' e' N
  exact ⟨s₂, o, st _ h1, r'⟩
theorem Rn.getF (K : Cx w Z a0 own bytes ml rt nm) {i : Nat} {C O n d : String} {a : Addr} {v : Value} (hi : Jvm.Cond.fieldLink own i C n d ∈ tables_1) (via : Via Z C O n d) (F : Fld Z h a O n d v) (hd : decode bytes pc = .ok (.getfield i, 3)) (hq : pc + 3 = q) (r : Rn w l R n0 Q q Ls (v :: S) h cs ss) : Rn w l R n0 Q pc Ls (.ref a :: S) h cs ss := fun T locs X eT N => by
  subst hq
  obtain ⟨T', X', e', st⟩ := Jvm.RoadKit.getF X K.x K.z K.ow (host := "") (Or.inl (K.hw _ hi)) via eT F (g := mkF w.m pc Ls (.ref a :: S)) rfl rfl (hb K.cd hd)
  obtain ⟨s₂, o, h1, r'⟩ := r T' locs X' e' N
  exact ⟨s₂, o, st _ h1, r'⟩
theorem Rn.putF (K : Cx w Z a0 own bytes ml rt nm) {i kk : Nat} {C0 O n d C : String} {ty : FieldType} {a : Addr} {v v' old : Value} (hi : Jvm.Cond.fieldLink own i C0 n d ∈ tables_1) (via : Via Z C0 O n d) (F : Fld Z h a O n d old) (E : Exa Z h a C)
    (hl : Jvm.Cond.lays C O n d ∈ tables_1 ∨ (Jvm.Cond.laysFinal C O n d ∈ tables_1 ∧ own = O ∧ nm = "<init>")) (hin : Jvm.Cond.instantiable C kk ∈ tables_1) (hty : parseFieldDescriptor d = some ty) (hn : narrow ty v = v') (hf : fits ty v' = true) (hg : n0 ≤ a)
    (hd : decode bytes pc = .ok (.putfield i, 3)) (hq : pc + 3 = q) (r : ∀ h', Wr h h' a (Jvm.RoadKit.slotOf Z O n d) v' → Rn w l R n0 Q q Ls S h' cs ss) : Rn w l R n0 Q pc Ls (v :: .ref a :: S) h cs ss := fun T locs X eT N => by
  subst hq
  obtain ⟨T', h', X', e', W, st⟩ := putFN X K.x K.z K.ow (K.hw _ hi) via eT F E (hl.elim (fun z => Or.inl (K.hw _ z)) (fun z => Or.inr ⟨K.hw _ z.1, z.2.1, K.nme.trans z.2.2⟩)) (K.hw _ hin) hty hn hf (g := mkF w.m pc Ls (v :: .ref a :: S)) rfl rfl (hb K.cd hd)
  obtain ⟨s₂, o, h1, r'⟩ := r h' W T' _ X' e' (Fr.snoc X' N hg)
  exact ⟨s₂, o, st _ h1, r'⟩
/-! making -/
theorem Rn.newO (K : Cx w Z a0 own bytes ml rt nm) {i k : Nat} {C : String} (hi : Jvm.Cond.classLink own i C ∈ tables_1) (hin : Jvm.Cond.instantiable C k ∈ tables_1) (hz : Jvm.Cond.initialized C ∈ tables_1) (hc : cs + 1 ≤ R.cells) (hs : ss + k ≤ R.slots) (hd : decode bytes pc = .ok (.new i, 3)) (hq : pc + 3 = q)
    (r : ∀ b h', b = h.size → Ext h h' → Exa Z h' b C → (∀ {O n d : String} {ty : FieldType}, Laid Z a0 C O n d → parseFieldDescriptor d = some ty → Fld Z h' b O n d (defaultValue ty)) → Rn w l R n0 Q q Ls (.ref b :: S) h' (cs + 1) (ss + k)) : Rn w l R n0 Q pc Ls S h cs ss := fun T locs X eT N => by
  subst hq
  obtain ⟨T', h', X', e', E, A, D, -, st⟩ := Jvm.RoadKit.newO X K.x K.z K.ow (K.hw _ hi) (K.hw _ hin) (K.hw _ hz) eT (g := mkF w.m pc Ls S) rfl (hb K.cd hd) hc hs
  obtain ⟨s₂, o, h1, r'⟩ := r _ h' rfl E A D T' _ X' e' N
  exact ⟨s₂, o, st _ h1, r'⟩
theorem Rn.newP (K : Cx w Z a0 own bytes ml rt nm) {aty : ArrayType} {x : Int32} {cap : Nat} (hi : Jvm.Cond.arrayClass (newarray.typeOf aty) ∈ tables_1) (hn : ¬ x < 0) (hcap : x.toNatClampNeg ≤ cap) (hb8 : cap * 8 ≤ 536870912) (hc : cs + 1 ≤ R.cells) (hs : ss + cap ≤ R.slots) {ad : String} (had : "[" ++ (newarray.typeOf aty).toString = ad) (hd : decode bytes pc = .ok (.newarray aty, 2)) (hq : pc + 2 = q)
    (r : ∀ b h' k, b = h.size → Ext h h' → Arv Z h' b k (newarray.typeOf aty) x [] (defaultValue (newarray.typeOf aty)) → Exa Z h' b ad → Rn w l R n0 Q q Ls (.ref b :: S) h' (cs + 1) (ss + cap)) : Rn w l R n0 Q pc Ls (.int x :: S) h cs ss := fun T locs X eT N => by
  subst hq
  obtain ⟨T', h', k, X', e', E, A, EA, st⟩ := newPE X K.x K.z (K.hw _ hi) eT (g := mkF w.m pc Ls (.int x :: S)) rfl (hb K.cd hd) rfl hn hcap hb8 hc hs had
  obtain ⟨s₂, o, h1, r'⟩ := r _ h' k rfl E (Arv.new A hn) EA T' _ X' e' N
  exact ⟨s₂, o, st _ h1, r'⟩
/-! calls -/
theorem nfs (K : Cx w Z a0 own bytes ml rt nm) {C : String} {y : MethodName} (i : Jvm.Cond.selects C y y ∈ tables_1) : NotFace w.s y := notFace_of_selects (args := #[]) (mvT K.z (K.hw _ i))
theorem Rn.virt (K : Cx w Z a0 own bytes ml rt nm) {index W : Nat} {y z : MethodName} {C : String} {b : Addr} {argsL rest : List Value} {bz : ByteArray} {mz : Nat} {rz : Option FieldType} {rm : Room} {Q' : Option Value → Heap → Prop}
    (i1 : Jvm.Cond.methodLink own index y ∈ tables_1) (i2 : Jvm.Cond.declares y ∈ tables_1) (nf : NotFace w.s y) (i3 : Jvm.Cond.selects C y z ∈ tables_1) (i4 : Jvm.Cond.instanceMethod z ∈ tables_1) (i5 : Jvm.Cond.code z bz mz rz ∈ tables_1) (i6 : Jvm.Cond.initialized z.cls ∈ tables_1)
    (hy : y.cls ≠ "java/lang/invoke/MethodHandle" ∧ y.cls ≠ "java/lang/invoke/VarHandle") (M : Met l Z z bz mz rz rm n0 [] (.ref b :: argsL).toArray h Q') (E : Exa Z h b C) (hf : rm.frames + 1 ≤ R.frames) (hlo : W + (mz + 11) + rm.locals ≤ R.locals)
    (hsz : Ls.size = ml) (hlen : ∀ sig, parseMethodDescriptor y.desc = some sig → argsL.length = sig.parameters.length) (hS : S = argsL.reverse ++ .ref b :: rest) (hW : (rest.map fun v => v.category).sum ≤ W)
    (hd : decode bytes pc = .ok (.invokevirtual index, 3)) (hq : pc + 3 = q) (hc : cs + rm.cells ≤ R.cells) (hs : ss + rm.slots ≤ R.slots)
    (r : ∀ v h', Q' v h' → Rn w l R n0 Q q Ls (v.toList ++ rest) h' (cs + rm.cells) (ss + rm.slots)) : Rn w l R n0 Q pc Ls S h cs ss := fun T locs X eT N => by
  subst hq hS
  obtain ⟨cq, kq, qa, qb, qc⟩ := isOf K.z eT E
  obtain ⟨v, _, ⟨T', L', k', n'⟩, -, X', ⟨Lc, hQ, l', y', z'⟩, st⟩ := X.virtualBack K.x (y := y) (z := z) K.ow (mvT K.z (K.hw _ i1)) (mvT K.z (K.hw _ i2)) nf (mvT K.z (K.hw _ i3)) (mvT K.z (K.hw _ i4)) hy (backOf (Q := fun v h L => Fr n0 L ∧ Q' v h) (W := W) M K.z (K.hw _ i5) (K.hw _ i6) hf hlo) qa qc (g := mkF w.m pc Ls (argsL.reverse ++ .ref b :: rest)) rfl (hsz.trans K.mx.symm) (Steps.refl _) (argsL := argsL) (rest := rest) hlen rfl (by show 2 * 0 + _ ≤ _; rw [Nat.mul_zero, Nat.zero_add]; exact hW) (hb K.cd hd) (fun _ _ => ⟨rfl, eT, hc, hs⟩)
  dsimp only [Pt.U, Pt.locs, Pt.cells, Pt.slots] at X' l' y' z' st hQ
  subst l' y' z'
  obtain ⟨s₂, o, h1, r'⟩ := r v T'.heap hQ.2 T' _ X' rfl (Fr.app N hQ.1)
  exact ⟨s₂, o, st.trans h1, r'⟩
theorem Rn.face (K : Cx w Z a0 own bytes ml rt nm) {index count W : Nat} {y z : MethodName} {C : String} {b : Addr} {argsL rest : List Value} {bz : ByteArray} {mz : Nat} {rz : Option FieldType} {rm : Room} {Q' : Option Value → Heap → Prop}
    (i1 : Jvm.Cond.methodLink own index y ∈ tables_1) (i2 : Jvm.Cond.declares y ∈ tables_1) (i2' : (Jvm.Cond.interfaceMethod y.cls y.cls y.name y.desc).before w.a w.s = true) (i3 : Jvm.Cond.selects C y z ∈ tables_1) (i4 : Jvm.Cond.instanceMethod z ∈ tables_1) (i7 : Jvm.Cond.publicMethod z ∈ tables_1) (i8 : Jvm.Cond.unhidden C y.name y.desc ∈ tables_1) (i9 : Jvm.Cond.castable C y.cls ∈ tables_1) (i5 : Jvm.Cond.code z bz mz rz ∈ tables_1) (i6 : Jvm.Cond.initialized z.cls ∈ tables_1)
    (hy : y.cls ≠ "java/lang/invoke/MethodHandle" ∧ y.cls ≠ "java/lang/invoke/VarHandle") (M : Met l Z z bz mz rz rm n0 [] (.ref b :: argsL).toArray h Q') (E : Exa Z h b C) (hf : rm.frames + 1 ≤ R.frames) (hlo : W + (mz + 11) + rm.locals ≤ R.locals)
    (hsz : Ls.size = ml) (hlen : ∀ sig, parseMethodDescriptor y.desc = some sig → argsL.length = sig.parameters.length) (hS : S = argsL.reverse ++ .ref b :: rest) (hW : (rest.map fun v => v.category).sum ≤ W)
    (hd : decode bytes pc = .ok (.invokeinterface index count, 5)) (hq : pc + 5 = q) (hc : cs + rm.cells ≤ R.cells) (hs : ss + rm.slots ≤ R.slots)
    (r : ∀ v h', Q' v h' → Rn w l R n0 Q q Ls (v.toList ++ rest) h' (cs + rm.cells) (ss + rm.slots)) : Rn w l R n0 Q pc Ls S h cs ss := fun T locs X eT N => by
  subst hq hS
  obtain ⟨cq, kq, qa, qb, qc⟩ := isOf K.z eT E
  obtain ⟨v, _, ⟨T', L', k', n'⟩, -, X', ⟨Lc, hQ, l', y', z'⟩, st⟩ := X.interfaceBack K.x (xi := y) (y := z) K.ow (mvT K.z (K.hw _ i1)) (mvT K.z (K.hw _ i2)) i2' (mvT K.z (K.hw _ i3)) (mvT K.z (K.hw _ i4)) (mvT K.z (K.hw _ i7)) (mvT K.z (K.hw _ i8)) (mvT K.z (K.hw _ i9)) hy (backOf (Q := fun v h L => Fr n0 L ∧ Q' v h) (W := W) M K.z (K.hw _ i5) (K.hw _ i6) hf hlo) qa qb qc (g := mkF w.m pc Ls (argsL.reverse ++ .ref b :: rest)) rfl (hsz.trans K.mx.symm) (Steps.refl _) (argsL := argsL) (rest := rest) hlen rfl (by show 2 * 0 + _ ≤ _; rw [Nat.mul_zero, Nat.zero_add]; exact hW) (hb K.cd hd) (fun _ _ => ⟨rfl, eT, hc, hs⟩)
  dsimp only [Pt.U, Pt.locs, Pt.cells, Pt.slots] at X' l' y' z' st hQ
  subst l' y' z'
  obtain ⟨s₂, o, h1, r'⟩ := r v T'.heap hQ.2 T' _ X' rfl (Fr.app N hQ.1)
  exact ⟨s₂, o, st.trans h1, r'⟩
theorem Rn.stat (K : Cx w Z a0 own bytes ml rt nm) {index W : Nat} {y : MethodName} {argsL rest : List Value} {bz : ByteArray} {mz : Nat} {rz : Option FieldType} {rm : Room} {Q' : Option Value → Heap → Prop}
    (i1 : Jvm.Cond.methodLink own index y ∈ tables_1) (i2 : Jvm.Cond.static y ∈ tables_1) (i5 : Jvm.Cond.code y bz mz rz ∈ tables_1) (i6 : Jvm.Cond.initialized y.cls ∈ tables_1)
    (hy : y.cls ≠ "java/lang/invoke/MethodHandle" ∧ y.cls ≠ "java/lang/invoke/VarHandle") (M : Met l Z y bz mz rz rm n0 [] argsL.toArray h Q') (hf : rm.frames + 1 ≤ R.frames) (hlo : W + (mz + 11) + rm.locals ≤ R.locals)
    (hsz : Ls.size = ml) (hlen : ∀ sig, parseMethodDescriptor y.desc = some sig → argsL.length = sig.parameters.length) (hS : S = argsL.reverse ++ rest) (hW : (rest.map fun v => v.category).sum ≤ W)
    (hd : decode bytes pc = .ok (.invokestatic index, 3)) (hq : pc + 3 = q) (hc : cs + rm.cells ≤ R.cells) (hs : ss + rm.slots ≤ R.slots)
    (r : ∀ v h', Q' v h' → Rn w l R n0 Q q Ls (v.toList ++ rest) h' (cs + rm.cells) (ss + rm.slots)) : Rn w l R n0 Q pc Ls S h cs ss := fun T locs X eT N => by
  subst hq hS
  obtain ⟨v, _, ⟨T', L', k', n'⟩, -, X', ⟨Lc, hQ, l', y', z'⟩, st⟩ := Jvm.LawKit.callS X K.x (y := y) K.ow (mvT K.z (K.hw _ i1)) (mvT K.z (K.hw _ i2)) (mvT K.z (K.hw _ i6)) (mvT K.z (K.hw _ i5)) hy (backOf (Q := fun v h L => Fr n0 L ∧ Q' v h) (W := W) M K.z (K.hw _ i5) (K.hw _ i6) hf hlo) (g := mkF w.m pc Ls (argsL.reverse ++ rest)) rfl (hsz.trans K.mx.symm) (argsL := argsL) (rest := rest) hlen rfl (by show 2 * 0 + _ ≤ _; rw [Nat.mul_zero, Nat.zero_add]; exact hW) (hb K.cd hd) (fun _ _ => ⟨rfl, eT, hc, hs⟩)
  dsimp only [Pt.U, Pt.locs, Pt.cells, Pt.slots] at X' l' y' z' st hQ
  subst l' y' z'
  obtain ⟨s₂, o, h1, r'⟩ := r v T'.heap hQ.2 T' _ X' rfl (Fr.app N hQ.1)
  exact ⟨s₂, o, st _ h1, r'⟩
theorem Rn.spec (K : Cx w Z a0 own bytes ml rt nm) {index W : Nat} {y : MethodName} {b : Addr} {argsL rest : List Value} {bz : ByteArray} {mz : Nat} {rm : Room} {Q' : Option Value → Heap → Prop}
    (hn : y.name = "<init>") (i1 : Jvm.Cond.methodLink own index y ∈ tables_1) (i4 : Jvm.Cond.instanceMethod y ∈ tables_1) (i5 : Jvm.Cond.code y bz mz none ∈ tables_1) (i6 : Jvm.Cond.initialized y.cls ∈ tables_1)
    (hy : y.cls ≠ "java/lang/invoke/MethodHandle" ∧ y.cls ≠ "java/lang/invoke/VarHandle") (M : Met l Z y bz mz none rm n0 [] (.ref b :: argsL).toArray h Q') (hf : rm.frames + 1 ≤ R.frames) (hlo : W + (mz + 11) + rm.locals ≤ R.locals)
    (hsz : Ls.size = ml) (hlen : ∀ sig, parseMethodDescriptor y.desc = some sig → argsL.length = sig.parameters.length) (hS : S = argsL.reverse ++ .ref b :: rest) (hW : (rest.map fun v => v.category).sum ≤ W)
    (hd : decode bytes pc = .ok (.invokespecial index, 3)) (hq : pc + 3 = q) (hc : cs + rm.cells ≤ R.cells) (hs : ss + rm.slots ≤ R.slots)
    (r : ∀ v h', Q' v h' → Rn w l R n0 Q q Ls (v.toList ++ rest) h' (cs + rm.cells) (ss + rm.slots)) : Rn w l R n0 Q pc Ls S h cs ss := fun T locs X eT N => by
  subst hq hS
  obtain ⟨v, _, ⟨T', L', k', n'⟩, -, X', ⟨Lc, hQ, l', y', z'⟩, st⟩ := X.specialBack K.x (y := y) hn K.ow (mvT K.z (K.hw _ i1)) (mvT K.z (K.hw _ i4)) (mvT K.z (K.hw _ i5)) hy (backOf (Q := fun v h L => Fr n0 L ∧ Q' v h) (W := W) M K.z (K.hw _ i5) (K.hw _ i6) hf hlo) (g := mkF w.m pc Ls (argsL.reverse ++ .ref b :: rest)) rfl (hsz.trans K.mx.symm) (Steps.refl _) (a := b) (argsL := argsL) (rest := rest) hlen rfl (by show 2 * 0 + _ ≤ _; rw [Nat.mul_zero, Nat.zero_add]; exact hW) (hb K.cd hd) (fun _ _ => ⟨rfl, eT, hc, hs⟩)
  dsimp only [Pt.U, Pt.locs, Pt.cells, Pt.slots] at X' l' y' z' st hQ
  subst l' y' z'
  obtain ⟨s₂, o, h1, r'⟩ := r v T'.heap hQ.2 T' _ X' rfl (Fr.app N hQ.1)
  exact ⟨s₂, o, st.trans h1, r'⟩
theorem Rn.initO (K : Cx w Z a0 own bytes ml rt nm) {index W : Nat} {b : Addr} (i1 : Jvm.Cond.methodLink own index Lib.objectInit ∈ tables_1) (i4 : Jvm.Cond.instanceMethod Lib.objectInit ∈ tables_1) (i5 : Jvm.Cond.code Lib.objectInit ⟨#[0xb1]⟩ 1 none ∈ tables_1)
    (hf : 1 ≤ R.frames) (hlo : W + 12 ≤ R.locals) (hsz : Ls.size = ml) (hW : (S.map fun v => v.category).sum ≤ W) (hd : decode bytes pc = .ok (.invokespecial index, 3)) (hq : pc + 3 = q) (r : Rn w l R n0 Q q Ls S h cs ss) : Rn w l R n0 Q pc Ls (.ref b :: S) h cs ss := fun T locs X eT N => by
  subst hq
  obtain ⟨T', X', e', st⟩ := Jvm.RoadKit.initO X K.x K.z K.ow (K.hw _ i1) (K.hw _ i4) (K.hw _ i5) eT (g := mkF w.m pc Ls (.ref b :: S)) rfl (hsz.trans K.mx.symm) rfl (hb K.cd hd) hf (W := W) (by show 2 * 0 + _ ≤ _; rw [Nat.mul_zero, Nat.zero_add]; exact hW) hlo
  obtain ⟨s₂, o, h1, r'⟩ := r T' locs X' e' N
  exact ⟨s₂, o, st _ h1, r'⟩
end OwnKit
theorem own_eqI {args : Array Value} {s : State} {t : Term} {k : Int32} (h : (Jvm.Cond.eq t (.int k)).value args s none s [] = some true) : t.eval args s none [] s = some (.int k) := by
  obtain ⟨x, y, hx, hy, hk, hk'⟩ := cmp_v (Or.inl h)
  rw [Term.int_eval] at hy
  cases hy
  obtain ⟨z, rfl⟩ := hk'
  have e : z = k := by simpa [Cond.value, hx, Term.eval] using h
  rw [hx, e]
theorem own_ord {args : Array Value} {s : State} {C n d : String} {a : Addr} {k : Int32} (ev : (Term.static C n d).eval args s none [] s = some (.ref a)) (h : (Jvm.Cond.eq (.field (.static C n d) "java/lang/Enum" "ordinal" "I") (.int k)).value args s none s [] = some true) : Fld s s.heap a "java/lang/Enum" "ordinal" "I" (.int k) := by
  have h2 := own_eqI h
  rw [fld_at ev] at h2
  exact Fld.start h2
theorem own_fref {args : Array Value} {s : State} {C n d C' n' d' O f e : String} {a b : Addr} (ev : (Term.static C n d).eval args s none [] s = some (.ref a)) (ev' : (Term.static C' n' d').eval args s none [] s = some (.ref b)) (h : (Jvm.Cond.eq (.field (.static C n d) O f e) (.static C' n' d')).value args s none s [] = some true) : Fld s s.heap a O f e (.ref b) := by
  obtain ⟨x, y, hx, hy, hk, hk'⟩ := cmp_v (Or.inl h)
  rw [ev'] at hy
  cases hy
  have e1 : x = .ref b := gotT (eq_R hx ev' hk'.2 rfl) h
  subst e1
  rw [fld_at ev] at hx
  exact Fld.start hx
theorem own_fnull {args : Array Value} {s : State} {C n d O f e : String} {a : Addr} (ev : (Term.static C n d).eval args s none [] s = some (.ref a)) (h : (Jvm.Cond.eq (.field (.static C n d) O f e) .null).value args s none s [] = some true) : Fld s s.heap a O f e .null := by
  have hx := null_v h
  rw [fld_at ev] at hx
  exact Fld.start hx
theorem own_mask (x : Int32) : 0 ≤ (x &&& (2147483647 : Int32)).toInt := by
  have h : ¬ (x &&& (2147483647 : Int32)) < 0 := fun q => by
    have := (XT.and_neg32 _ _).mp q
    exact absurd this.2 (by decide)
  rw [Int32.lt_iff_toInt_lt] at h
  have e0 : (0 : Int32).toInt = 0 := rfl
  omega
theorem own_mod (x : Int32) {n : Int32} {k : Int} (hn : n.toInt = k) (hk : 0 < k) : 0 ≤ ((x &&& (2147483647 : Int32)) % n).toInt ∧ ((x &&& (2147483647 : Int32)) % n).toInt < k := by
  have h := own_mask x
  rw [Int32.toInt_mod, hn]
  exact ⟨Int.tmod_nonneg _ h, Int.tmod_lt_of_pos _ hk⟩
theorem own_lit {x : Int32} {k : Int} {v : Int32} (h : x.toInt = k) (hv : v.toInt = k) : x = v := Int32.toInt_inj.mp (h.trans hv.symm)
def Enm (Z : State) (h : Heap) (C : String) (a : Addr) (k : Int32) : Prop := Exa Z h a C ∧ Fld Z h a "java/lang/Enum" "ordinal" "I" (.int k)
theorem Enm.ne {Z : State} {h : Heap} {C D : String} {a b : Addr} {k j : Int32} (A : Enm Z h C a k) (B : Enm Z h D b j) (q : k ≠ j) : a ≠ b := Fld.ne A.2 B.2 (fun e => q (Value.int.inj e))
theorem own_lc_lt (x y : Int64) : lcmpW x y < 0 ↔ x < y := by rw [lcW]; exact lc_lt x y
theorem own_lc_gt (x y : Int64) : 0 < lcmpW x y ↔ y < x := by rw [lcW]; exact lc_gt x y
theorem own_lc_eq (x y : Int64) : lcmpW x y = 0 ↔ x = y := by rw [lcW]; exact lc_eq x y
theorem own_eqL {args : Array Value} {s : State} {t : Term} {k : Int64} (h : (Jvm.Cond.eq t (.long k)).value args s none s [] = some true) : t.eval args s none [] s = some (.long k) := by
  obtain ⟨x, y, hx, hy, hk, hk'⟩ := cmp_v (Or.inl h)
  have hy2 : (Term.long k).eval args s none [] s = some (.long k) := rfl
  rw [hy2] at hy
  cases hy
  obtain ⟨z, rfl⟩ := hk'
  have e : z = k := gotT (eq_L hx hy2) h
  rw [hx, e]

theorem pd_0 : parseMethodDescriptor "(I)Lcom/example/haltwright/haltwright/core/ir/Instruction$Predicate;" = some ⟨[.int], some (.object "com/example/haltwright/haltwright/core/ir/Instruction$Predicate")⟩ := by decide +kernel
theorem pd_1 : parseMethodDescriptor "()Z" = some ⟨[], some .boolean⟩ := by decide +kernel
theorem d1_0 : decode method_2_code 0 = .ok (.iload_n 0, 1) := by decide +kernel
theorem d1_1 : decode method_2_code 1 = .ok (.ifCond .ne 7, 3) := by decide +kernel
theorem d1_4 : decode method_2_code 4 = .ok (.getstatic 7, 3) := by decide +kernel
theorem d1_7 : decode method_2_code 7 = .ok (.areturn, 1) := by decide +kernel
theorem d1_8 : decode method_2_code 8 = .ok (.iload_n 0, 1) := by decide +kernel
theorem d1_9 : decode method_2_code 9 = .ok (.iconst 1, 1) := by decide +kernel
theorem d1_10 : decode method_2_code 10 = .ok (.if_icmp .ne 7, 3) := by decide +kernel
theorem d1_13 : decode method_2_code 13 = .ok (.getstatic 13, 3) := by decide +kernel
theorem d1_16 : decode method_2_code 16 = .ok (.areturn, 1) := by decide +kernel
theorem d1_17 : decode method_2_code 17 = .ok (.iload_n 0, 1) := by decide +kernel
theorem d1_18 : decode method_2_code 18 = .ok (.iconst 2, 1) := by decide +kernel
theorem d1_19 : decode method_2_code 19 = .ok (.if_icmp .ne 7, 3) := by decide +kernel
theorem d1_22 : decode method_2_code 22 = .ok (.getstatic 16, 3) := by decide +kernel
theorem d1_25 : decode method_2_code 25 = .ok (.areturn, 1) := by decide +kernel
theorem d1_26 : decode method_2_code 26 = .ok (.iload_n 0, 1) := by decide +kernel
theorem d1_27 : decode method_2_code 27 = .ok (.iconst 3, 1) := by decide +kernel
theorem d1_28 : decode method_2_code 28 = .ok (.if_icmp .ne 7, 3) := by decide +kernel
theorem d1_31 : decode method_2_code 31 = .ok (.getstatic 19, 3) := by decide +kernel
theorem d1_34 : decode method_2_code 34 = .ok (.areturn, 1) := by decide +kernel
theorem d1_35 : decode method_2_code 35 = .ok (.iload_n 0, 1) := by decide +kernel
theorem d1_36 : decode method_2_code 36 = .ok (.iconst 4, 1) := by decide +kernel
theorem d1_37 : decode method_2_code 37 = .ok (.if_icmp .ne 7, 3) := by decide +kernel
theorem d1_40 : decode method_2_code 40 = .ok (.getstatic 22, 3) := by decide +kernel
theorem d1_43 : decode method_2_code 43 = .ok (.areturn, 1) := by decide +kernel
theorem d1_44 : decode method_2_code 44 = .ok (.iload_n 0, 1) := by decide +kernel
theorem d1_45 : decode method_2_code 45 = .ok (.iconst 5, 1) := by decide +kernel
theorem d1_46 : decode method_2_code 46 = .ok (.if_icmp .ne 7, 3) := by decide +kernel
theorem d1_49 : decode method_2_code 49 = .ok (.getstatic 25, 3) := by decide +kernel
theorem d1_52 : decode method_2_code 52 = .ok (.areturn, 1) := by decide +kernel
theorem d1_53 : decode method_2_code 53 = .ok (.iload_n 0, 1) := by decide +kernel
theorem d1_54 : decode method_2_code 54 = .ok (.bipush 6, 2) := by decide +kernel
theorem d1_56 : decode method_2_code 56 = .ok (.if_icmp .ne 7, 3) := by decide +kernel
theorem d1_59 : decode method_2_code 59 = .ok (.getstatic 28, 3) := by decide +kernel
theorem d1_62 : decode method_2_code 62 = .ok (.areturn, 1) := by decide +kernel
theorem d1_63 : decode method_2_code 63 = .ok (.iload_n 0, 1) := by decide +kernel
theorem d1_64 : decode method_2_code 64 = .ok (.bipush 7, 2) := by decide +kernel
theorem d1_66 : decode method_2_code 66 = .ok (.if_icmp .ne 7, 3) := by decide +kernel
theorem d1_69 : decode method_2_code 69 = .ok (.getstatic 31, 3) := by decide +kernel
theorem d1_72 : decode method_2_code 72 = .ok (.areturn, 1) := by decide +kernel
theorem d1_73 : decode method_2_code 73 = .ok (.iload_n 0, 1) := by decide +kernel
theorem d1_74 : decode method_2_code 74 = .ok (.bipush 8, 2) := by decide +kernel
theorem d1_76 : decode method_2_code 76 = .ok (.if_icmp .ne 7, 3) := by decide +kernel
theorem d1_79 : decode method_2_code 79 = .ok (.getstatic 34, 3) := by decide +kernel
theorem d1_82 : decode method_2_code 82 = .ok (.areturn, 1) := by decide +kernel
theorem d1_83 : decode method_2_code 83 = .ok (.getstatic 37, 3) := by decide +kernel
theorem d1_86 : decode method_2_code 86 = .ok (.areturn, 1) := by decide +kernel
theorem pn_m_pick : plainName "com/example/haltwright/haltwright/core/ir/PredicateIsUnsignedPinLaw" = true := by first | (simp [plainName, overriddenIn]; done) | decide +kernel
set_option maxRecDepth 65536 in
set_option maxHeartbeats 40000000 in
theorem m_pick (l : Launch) (Z : State) (a0 : Array Value) (hw : ∀ d ∈ tables_1, d.before a0 Z = true) (n0 : Nat) (h0 : Heap) (p1 : Int32) (r aEQ aNE aUGT aUGE aULT aULE aSGT aSGE aSLT aSLE : Addr) (SEQ : Sta Z h0 "com/example/haltwright/haltwright/core/ir/Instruction$Predicate" "EQ" "Lcom/example/haltwright/haltwright/core/ir/Instruction$Predicate;" (.ref aEQ)) (SNE : Sta Z h0 "com/example/haltwright/haltwright/core/ir/Instruction$Predicate" "NE" "Lcom/example/haltwright/haltwright/core/ir/Instruction$Predicate;" (.ref aNE)) (SUGT : Sta Z h0 "com/example/haltwright/haltwright/core/ir/Instruction$Predicate" "UGT" "Lcom/example/haltwright/haltwright/core/ir/Instruction$Predicate;" (.ref aUGT)) (SUGE : Sta Z h0 "com/example/haltwright/haltwright/core/ir/Instruction$Predicate" "UGE" "Lcom/example/haltwright/haltwright/core/ir/Instruction$Predicate;" (.ref aUGE)) (SULT : Sta Z h0 "com/example/haltwright/haltwright/core/ir/Instruction$Predicate" "ULT" "Lcom/example/haltwright/haltwright/core/ir/Instruction$Predicate;" (.ref aULT)) (SULE : Sta Z h0 "com/example/haltwright/haltwright/core/ir/Instruction$Predicate" "ULE" "Lcom/example/haltwright/haltwright/core/ir/Instruction$Predicate;" (.ref aULE)) (SSGT : Sta Z h0 "com/example/haltwright/haltwright/core/ir/Instruction$Predicate" "SGT" "Lcom/example/haltwright/haltwright/core/ir/Instruction$Predicate;" (.ref aSGT)) (SSGE : Sta Z h0 "com/example/haltwright/haltwright/core/ir/Instruction$Predicate" "SGE" "Lcom/example/haltwright/haltwright/core/ir/Instruction$Predicate;" (.ref aSGE)) (SSLT : Sta Z h0 "com/example/haltwright/haltwright/core/ir/Instruction$Predicate" "SLT" "Lcom/example/haltwright/haltwright/core/ir/Instruction$Predicate;" (.ref aSLT)) (SSLE : Sta Z h0 "com/example/haltwright/haltwright/core/ir/Instruction$Predicate" "SLE" "Lcom/example/haltwright/haltwright/core/ir/Instruction$Predicate;" (.ref aSLE)) (hr : r = if p1 = (0 : Int32) then aEQ else if p1 = (1 : Int32) then aNE else if p1 = (2 : Int32) then aUGT else if p1 = (3 : Int32) then aUGE else if p1 = (4 : Int32) then aULT else if p1 = (5 : Int32) then aULE else if p1 = (6 : Int32) then aSGT else if p1 = (7 : Int32) then aSGE else if p1 = (8 : Int32) then aSLT else aSLE) :
    Met l Z (⟨"com/example/haltwright/haltwright/core/ir/PredicateIsUnsignedPinLaw", "pick", "(I)Lcom/example/haltwright/haltwright/core/ir/Instruction$Predicate;"⟩ : MethodName) method_2_code 1 (some (.object "com/example/haltwright/haltwright/core/ir/Instruction$Predicate")) ({ frames := 0, cells := 0, slots := 0, locals := 0 } : Room) n0 [] #[(.int p1)] h0 (fun v h => v = some (.ref r) ∧ h0 = h) := by
  refine Met.intro (Ls := #[.val (.int p1)]) (plainFor_of_name pn_m_pick) hw (fun m => by first | rfl | (simp [entryFrame, mkF, argsToLocals, Value.category]; done)) ?_
  intro w K0
  have K : Cx w Z a0 "com/example/haltwright/haltwright/core/ir/PredicateIsUnsignedPinLaw" method_2_code 1 (some (.object "com/example/haltwright/haltwright/core/ir/Instruction$Predicate")) "pick" := K0
  refine Rn.iloadN K (q := 1) d1_0 rfl rfl ?_
  by_cases hc1 : p1 = (0 : Int32)
  · refine Rn.ifN K (q := 4) d1_1 (XT.i0_ne_f hc1) rfl ?_
    refine Rn.getS K (q := 7) (List.mem_of_getElem? (i := 5) rfl) SEQ d1_4 rfl ?_
    exact Rn.retA K (.object "com/example/haltwright/haltwright/core/ir/Instruction$Predicate") rfl rfl rfl d1_7 (by decide) (by decide) ⟨congrArg (fun z => some (Value.ref z)) (by rw [hr]; simp [hc1]), rfl⟩
  · refine Rn.ifY K (q := 8) d1_1 (XT.i0_ne_t hc1) (by decide) (by decide) ?_
    refine Rn.iloadN K (q := 9) d1_8 rfl rfl ?_
    refine Rn.iconst K (q := 10) (1 : Int32) d1_9 rfl rfl ?_
    by_cases hc10 : p1 = (1 : Int32)
    · refine Rn.icN K (q := 13) d1_10 (XT.ii_ne_f hc10) rfl ?_
      refine Rn.getS K (q := 16) (List.mem_of_getElem? (i := 22) rfl) SNE d1_13 rfl ?_
      exact Rn.retA K (.object "com/example/haltwright/haltwright/core/ir/Instruction$Predicate") rfl rfl rfl d1_16 (by decide) (by decide) ⟨congrArg (fun z => some (Value.ref z)) (by rw [hr]; simp [hc1, hc10]), rfl⟩
    · refine Rn.icY K (q := 17) d1_10 (XT.ii_ne_t hc10) (by decide) (by decide) ?_
      refine Rn.iloadN K (q := 18) d1_17 rfl rfl ?_
      refine Rn.iconst K (q := 19) (2 : Int32) d1_18 rfl rfl ?_
      by_cases hc19 : p1 = (2 : Int32)
      · refine Rn.icN K (q := 22) d1_19 (XT.ii_ne_f hc19) rfl ?_
        refine Rn.getS K (q := 25) (List.mem_of_getElem? (i := 27) rfl) SUGT d1_22 rfl ?_
        exact Rn.retA K (.object "com/example/haltwright/haltwright/core/ir/Instruction$Predicate") rfl rfl rfl d1_25 (by decide) (by decide) ⟨congrArg (fun z => some (Value.ref z)) (by rw [hr]; simp [hc1, hc10, hc19]), rfl⟩
      · refine Rn.icY K (q := 26) d1_19 (XT.ii_ne_t hc19) (by decide) (by decide) ?_
        refine Rn.iloadN K (q := 27) d1_26 rfl rfl ?_
        refine Rn.iconst K (q := 28) (3 : Int32) d1_27 rfl rfl ?_
        by_cases hc28 : p1 = (3 : Int32)
        · refine Rn.icN K (q := 31) d1_28 (XT.ii_ne_f hc28) rfl ?_
          refine Rn.getS K (q := 34) (List.mem_of_getElem? (i := 21) rfl) SUGE d1_31 rfl ?_
          exact Rn.retA K (.object "com/example/haltwright/haltwright/core/ir/Instruction$Predicate") rfl rfl rfl d1_34 (by decide) (by decide) ⟨congrArg (fun z => some (Value.ref z)) (by rw [hr]; simp [hc1, hc10, hc19, hc28]), rfl⟩
        · refine Rn.icY K (q := 35) d1_28 (XT.ii_ne_t hc28) (by decide) (by decide) ?_
          refine Rn.iloadN K (q := 36) d1_35 rfl rfl ?_
          refine Rn.iconst K (q := 37) (4 : Int32) d1_36 rfl rfl ?_
          by_cases hc37 : p1 = (4 : Int32)
          · refine Rn.icN K (q := 40) d1_37 (XT.ii_ne_f hc37) rfl ?_
            refine Rn.getS K (q := 43) (List.mem_of_getElem? (i := 24) rfl) SULT d1_40 rfl ?_
            exact Rn.retA K (.object "com/example/haltwright/haltwright/core/ir/Instruction$Predicate") rfl rfl rfl d1_43 (by decide) (by decide) ⟨congrArg (fun z => some (Value.ref z)) (by rw [hr]; simp [hc1, hc10, hc19, hc28, hc37]), rfl⟩
          · refine Rn.icY K (q := 44) d1_37 (XT.ii_ne_t hc37) (by decide) (by decide) ?_
            refine Rn.iloadN K (q := 45) d1_44 rfl rfl ?_
            refine Rn.iconst K (q := 46) (5 : Int32) d1_45 rfl rfl ?_
            by_cases hc46 : p1 = (5 : Int32)
            · refine Rn.icN K (q := 49) d1_46 (XT.ii_ne_f hc46) rfl ?_
              refine Rn.getS K (q := 52) (List.mem_of_getElem? (i := 32) rfl) SULE d1_49 rfl ?_
              exact Rn.retA K (.object "com/example/haltwright/haltwright/core/ir/Instruction$Predicate") rfl rfl rfl d1_52 (by decide) (by decide) ⟨congrArg (fun z => some (Value.ref z)) (by rw [hr]; simp [hc1, hc10, hc19, hc28, hc37, hc46]), rfl⟩
            · refine Rn.icY K (q := 53) d1_46 (XT.ii_ne_t hc46) (by decide) (by decide) ?_
              refine Rn.iloadN K (q := 54) d1_53 rfl rfl ?_
              refine Rn.bipush K (q := 56) (6 : Int32) d1_54 rfl rfl ?_
              by_cases hc56 : p1 = (6 : Int32)
              · refine Rn.icN K (q := 59) d1_56 (XT.ii_ne_f hc56) rfl ?_
                refine Rn.getS K (q := 62) (List.mem_of_getElem? (i := 33) rfl) SSGT d1_59 rfl ?_
                exact Rn.retA K (.object "com/example/haltwright/haltwright/core/ir/Instruction$Predicate") rfl rfl rfl d1_62 (by decide) (by decide) ⟨congrArg (fun z => some (Value.ref z)) (by rw [hr]; simp [hc1, hc10, hc19, hc28, hc37, hc46, hc56]), rfl⟩
              · refine Rn.icY K (q := 63) d1_56 (XT.ii_ne_t hc56) (by decide) (by decide) ?_
                refine Rn.iloadN K (q := 64) d1_63 rfl rfl ?_
                refine Rn.bipush K (q := 66) (7 : Int32) d1_64 rfl rfl ?_
                by_cases hc66 : p1 = (7 : Int32)
                · refine Rn.icN K (q := 69) d1_66 (XT.ii_ne_f hc66) rfl ?_
                  refine Rn.getS K (q := 72) (List.mem_of_getElem? (i := 25) rfl) SSGE d1_69 rfl ?_
                  exact Rn.retA K (.object "com/example/haltwright/haltwright/core/ir/Instruction$Predicate") rfl rfl rfl d1_72 (by decide) (by decide) ⟨congrArg (fun z => some (Value.ref z)) (by rw [hr]; simp [hc1, hc10, hc19, hc28, hc37, hc46, hc56, hc66]), rfl⟩
                · refine Rn.icY K (q := 73) d1_66 (XT.ii_ne_t hc66) (by decide) (by decide) ?_
                  refine Rn.iloadN K (q := 74) d1_73 rfl rfl ?_
                  refine Rn.bipush K (q := 76) (8 : Int32) d1_74 rfl rfl ?_
                  by_cases hc76 : p1 = (8 : Int32)
                  · refine Rn.icN K (q := 79) d1_76 (XT.ii_ne_f hc76) rfl ?_
                    refine Rn.getS K (q := 82) (List.mem_of_getElem? (i := 28) rfl) SSLT d1_79 rfl ?_
                    exact Rn.retA K (.object "com/example/haltwright/haltwright/core/ir/Instruction$Predicate") rfl rfl rfl d1_82 (by decide) (by decide) ⟨congrArg (fun z => some (Value.ref z)) (by rw [hr]; simp [hc1, hc10, hc19, hc28, hc37, hc46, hc56, hc66, hc76]), rfl⟩
                  · refine Rn.icY K (q := 83) d1_76 (XT.ii_ne_t hc76) (by decide) (by decide) ?_
                    refine Rn.getS K (q := 86) (List.mem_of_getElem? (i := 30) rfl) SSLE d1_83 rfl ?_
                    exact Rn.retA K (.object "com/example/haltwright/haltwright/core/ir/Instruction$Predicate") rfl rfl rfl d1_86 (by decide) (by decide) ⟨congrArg (fun z => some (Value.ref z)) (by rw [hr]; simp [hc1, hc10, hc19, hc28, hc37, hc46, hc56, hc66, hc76]), rfl⟩
theorem d2_0 : decode prog_42_method_5_code 0 = .ok (.aload_n 0, 1) := by decide +kernel
theorem d2_1 : decode prog_42_method_5_code 1 = .ok (.getstatic 10, 3) := by decide +kernel
theorem d2_4 : decode prog_42_method_5_code 4 = .ok (.if_acmp .eq 24, 3) := by decide +kernel
theorem d2_7 : decode prog_42_method_5_code 7 = .ok (.aload_n 0, 1) := by decide +kernel
theorem d2_8 : decode prog_42_method_5_code 8 = .ok (.getstatic 13, 3) := by decide +kernel
theorem d2_11 : decode prog_42_method_5_code 11 = .ok (.if_acmp .eq 17, 3) := by decide +kernel
theorem d2_14 : decode prog_42_method_5_code 14 = .ok (.aload_n 0, 1) := by decide +kernel
theorem d2_15 : decode prog_42_method_5_code 15 = .ok (.getstatic 16, 3) := by decide +kernel
theorem d2_18 : decode prog_42_method_5_code 18 = .ok (.if_acmp .eq 10, 3) := by decide +kernel
theorem d2_21 : decode prog_42_method_5_code 21 = .ok (.aload_n 0, 1) := by decide +kernel
theorem d2_22 : decode prog_42_method_5_code 22 = .ok (.getstatic 19, 3) := by decide +kernel
theorem d2_25 : decode prog_42_method_5_code 25 = .ok (.if_acmp .ne 7, 3) := by decide +kernel
theorem d2_28 : decode prog_42_method_5_code 28 = .ok (.iconst 1, 1) := by decide +kernel
theorem d2_29 : decode prog_42_method_5_code 29 = .ok (.goto 4, 3) := by decide +kernel
theorem d2_32 : decode prog_42_method_5_code 32 = .ok (.iconst 0, 1) := by decide +kernel
theorem d2_33 : decode prog_42_method_5_code 33 = .ok (.ireturn, 1) := by decide +kernel
theorem pn_m_uns : plainName "com/example/haltwright/haltwright/core/ir/Instruction$Predicate" = true := by first | (simp [plainName, overriddenIn]; done) | decide +kernel
set_option maxRecDepth 65536 in
set_option maxHeartbeats 40000000 in
theorem m_uns (l : Launch) (Z : State) (a0 : Array Value) (hw : ∀ d ∈ tables_1, d.before a0 Z = true) (n0 : Nat) (h0 : Heap) (r : Int32) (a1 aUGT aUGE aULT aULE : Addr) (SUGT : Sta Z h0 "com/example/haltwright/haltwright/core/ir/Instruction$Predicate" "UGT" "Lcom/example/haltwright/haltwright/core/ir/Instruction$Predicate;" (.ref aUGT)) (SUGE : Sta Z h0 "com/example/haltwright/haltwright/core/ir/Instruction$Predicate" "UGE" "Lcom/example/haltwright/haltwright/core/ir/Instruction$Predicate;" (.ref aUGE)) (SULT : Sta Z h0 "com/example/haltwright/haltwright/core/ir/Instruction$Predicate" "ULT" "Lcom/example/haltwright/haltwright/core/ir/Instruction$Predicate;" (.ref aULT)) (SULE : Sta Z h0 "com/example/haltwright/haltwright/core/ir/Instruction$Predicate" "ULE" "Lcom/example/haltwright/haltwright/core/ir/Instruction$Predicate;" (.ref aULE)) (hr : r = if a1 = aUGT ∨ a1 = aUGE ∨ a1 = aULT ∨ a1 = aULE then (1 : Int32) else 0) :
    Met l Z (⟨"com/example/haltwright/haltwright/core/ir/Instruction$Predicate", "isUnsigned", "()Z"⟩ : MethodName) prog_42_method_5_code 1 (some .boolean) ({ frames := 0, cells := 0, slots := 0, locals := 0 } : Room) n0 [] #[(.ref a1)] h0 (fun v h => v = some (.int r) ∧ h0 = h) := by
  refine Met.intro (Ls := #[.val (.ref a1)]) (plainFor_of_name pn_m_uns) hw (fun m => by first | rfl | (simp [entryFrame, mkF, argsToLocals, Value.category]; done)) ?_
  intro w K0
  have K : Cx w Z a0 "com/example/haltwright/haltwright/core/ir/Instruction$Predicate" prog_42_method_5_code 1 (some .boolean) "isUnsigned" := K0
  refine Rn.aloadN K (q := 1) d2_0 rfl rfl rfl ?_
  refine Rn.getS K (q := 4) (List.mem_of_getElem? (i := 13) rfl) SUGT d2_1 rfl ?_
  by_cases hc4 : ((.ref a1) : Value) = (.ref aUGT)
  · refine Rn.acY K (q := 28) d2_4 rfl rfl (XT.aa_eq_t hc4) (by decide) (by decide) ?_
    refine Rn.iconst K (q := 29) (1 : Int32) d2_28 rfl rfl ?_
    refine Rn.goto K (q := 33) d2_29 (by decide) (by decide) ?_
    exact Rn.retN K .boolean rfl (by simp) d2_33 (by decide) (by decide) ⟨congrArg (fun z => some (Value.int z)) (show (1 : Int32) = r by rw [hr]; simp only [Value.ref.injEq] at hc4; simp [hc4]), rfl⟩
  · refine Rn.acN K (q := 7) d2_4 rfl rfl (XT.aa_eq_f hc4) rfl ?_
    refine Rn.aloadN K (q := 8) d2_7 rfl rfl rfl ?_
    refine Rn.getS K (q := 11) (List.mem_of_getElem? (i := 15) rfl) SUGE d2_8 rfl ?_
    by_cases hc11 : ((.ref a1) : Value) = (.ref aUGE)
    · refine Rn.acY K (q := 28) d2_11 rfl rfl (XT.aa_eq_t hc11) (by decide) (by decide) ?_
      refine Rn.iconst K (q := 29) (1 : Int32) d2_28 rfl rfl ?_
      refine Rn.goto K (q := 33) d2_29 (by decide) (by decide) ?_
      exact Rn.retN K .boolean rfl (by simp) d2_33 (by decide) (by decide) ⟨congrArg (fun z => some (Value.int z)) (show (1 : Int32) = r by rw [hr]; simp only [Value.ref.injEq] at hc4 hc11; simp [hc4, hc11]), rfl⟩
    · refine Rn.acN K (q := 14) d2_11 rfl rfl (XT.aa_eq_f hc11) rfl ?_
      refine Rn.aloadN K (q := 15) d2_14 rfl rfl rfl ?_
      refine Rn.getS K (q := 18) (List.mem_of_getElem? (i := 17) rfl) SULT d2_15 rfl ?_
      by_cases hc18 : ((.ref a1) : Value) = (.ref aULT)
      · refine Rn.acY K (q := 28) d2_18 rfl rfl (XT.aa_eq_t hc18) (by decide) (by decide) ?_
        refine Rn.iconst K (q := 29) (1 : Int32) d2_28 rfl rfl ?_
        refine Rn.goto K (q := 33) d2_29 (by decide) (by decide) ?_
        exact Rn.retN K .boolean rfl (by simp) d2_33 (by decide) (by decide) ⟨congrArg (fun z => some (Value.int z)) (show (1 : Int32) = r by rw [hr]; simp only [Value.ref.injEq] at hc4 hc11 hc18; simp [hc4, hc11, hc18]), rfl⟩
      · refine Rn.acN K (q := 21) d2_18 rfl rfl (XT.aa_eq_f hc18) rfl ?_
        refine Rn.aloadN K (q := 22) d2_21 rfl rfl rfl ?_
        refine Rn.getS K (q := 25) (List.mem_of_getElem? (i := 19) rfl) SULE d2_22 rfl ?_
        by_cases hc25 : ((.ref a1) : Value) = (.ref aULE)
        · refine Rn.acN K (q := 28) d2_25 rfl rfl (XT.aa_ne_f hc25) rfl ?_
          refine Rn.iconst K (q := 29) (1 : Int32) d2_28 rfl rfl ?_
          refine Rn.goto K (q := 33) d2_29 (by decide) (by decide) ?_
          exact Rn.retN K .boolean rfl (by simp) d2_33 (by decide) (by decide) ⟨congrArg (fun z => some (Value.int z)) (show (1 : Int32) = r by rw [hr]; simp only [Value.ref.injEq] at hc4 hc11 hc18 hc25; simp [hc4, hc11, hc18, hc25]), rfl⟩
        · refine Rn.acY K (q := 32) d2_25 rfl rfl (XT.aa_ne_t hc25) (by decide) (by decide) ?_
          refine Rn.iconst K (q := 33) (0 : Int32) d2_32 rfl rfl ?_
          exact Rn.retN K .boolean rfl (by simp) d2_33 (by decide) (by decide) ⟨congrArg (fun z => some (Value.int z)) (show (0 : Int32) = r by rw [hr]; simp only [Value.ref.injEq] at hc4 hc11 hc18 hc25; simp [hc4, hc11, hc18, hc25]), rfl⟩
theorem pn_m_law : plainName "com/example/haltwright/haltwright/core/ir/PredicateIsUnsignedPinLaw" = true := by first | (simp [plainName, overriddenIn]; done) | decide +kernel
set_option maxRecDepth 65536 in
set_option maxHeartbeats 40000000 in
theorem m_law (l : Launch) (Z : State) (a0 : Array Value) (hw : ∀ d ∈ tables_1, d.before a0 Z = true) (n0 : Nat) (h0 : Heap) (p1 : Int32) (aEQ aNE aUGT aUGE aULT aULE aSGT aSGE aSLT aSLE : Addr) (SEQ : Sta Z h0 "com/example/haltwright/haltwright/core/ir/Instruction$Predicate" "EQ" "Lcom/example/haltwright/haltwright/core/ir/Instruction$Predicate;" (.ref aEQ)) (SNE : Sta Z h0 "com/example/haltwright/haltwright/core/ir/Instruction$Predicate" "NE" "Lcom/example/haltwright/haltwright/core/ir/Instruction$Predicate;" (.ref aNE)) (SUGT : Sta Z h0 "com/example/haltwright/haltwright/core/ir/Instruction$Predicate" "UGT" "Lcom/example/haltwright/haltwright/core/ir/Instruction$Predicate;" (.ref aUGT)) (SUGE : Sta Z h0 "com/example/haltwright/haltwright/core/ir/Instruction$Predicate" "UGE" "Lcom/example/haltwright/haltwright/core/ir/Instruction$Predicate;" (.ref aUGE)) (SULT : Sta Z h0 "com/example/haltwright/haltwright/core/ir/Instruction$Predicate" "ULT" "Lcom/example/haltwright/haltwright/core/ir/Instruction$Predicate;" (.ref aULT)) (SULE : Sta Z h0 "com/example/haltwright/haltwright/core/ir/Instruction$Predicate" "ULE" "Lcom/example/haltwright/haltwright/core/ir/Instruction$Predicate;" (.ref aULE)) (SSGT : Sta Z h0 "com/example/haltwright/haltwright/core/ir/Instruction$Predicate" "SGT" "Lcom/example/haltwright/haltwright/core/ir/Instruction$Predicate;" (.ref aSGT)) (SSGE : Sta Z h0 "com/example/haltwright/haltwright/core/ir/Instruction$Predicate" "SGE" "Lcom/example/haltwright/haltwright/core/ir/Instruction$Predicate;" (.ref aSGE)) (SSLT : Sta Z h0 "com/example/haltwright/haltwright/core/ir/Instruction$Predicate" "SLT" "Lcom/example/haltwright/haltwright/core/ir/Instruction$Predicate;" (.ref aSLT)) (SSLE : Sta Z h0 "com/example/haltwright/haltwright/core/ir/Instruction$Predicate" "SLE" "Lcom/example/haltwright/haltwright/core/ir/Instruction$Predicate;" (.ref aSLE)) (NEQ : Enm Z h0 "com/example/haltwright/haltwright/core/ir/Instruction$Predicate" aEQ (0 : Int32)) (NNE : Enm Z h0 "com/example/haltwright/haltwright/core/ir/Instruction$Predicate" aNE (1 : Int32)) (NUGT : Enm Z h0 "com/example/haltwright/haltwright/core/ir/Instruction$Predicate" aUGT (2 : Int32)) (NUGE : Enm Z h0 "com/example/haltwright/haltwright/core/ir/Instruction$Predicate" aUGE (3 : Int32)) (NULT : Enm Z h0 "com/example/haltwright/haltwright/core/ir/Instruction$Predicate" aULT (4 : Int32)) (NULE : Enm Z h0 "com/example/haltwright/haltwright/core/ir/Instruction$Predicate" aULE (5 : Int32)) (NSGT : Enm Z h0 "com/example/haltwright/haltwright/core/ir/Instruction$Predicate" aSGT (6 : Int32)) (NSGE : Enm Z h0 "com/example/haltwright/haltwright/core/ir/Instruction$Predicate" aSGE (7 : Int32)) (NSLT : Enm Z h0 "com/example/haltwright/haltwright/core/ir/Instruction$Predicate" aSLT (8 : Int32)) (NSLE : Enm Z h0 "com/example/haltwright/haltwright/core/ir/Instruction$Predicate" aSLE (9 : Int32)) :
    Met l Z x code maxLocals ret room_1 n0 tables_1 #[(.int p1)] h0 (fun v _ => v = some (.int (1 : Int32))) := by
  refine Met.intro (Ls := #[.val (.int p1), .unset, .unset, .unset]) (plainFor_of_name pn_m_law) hw (fun m => by first | rfl | (simp [entryFrame, mkF, argsToLocals, Value.category, maxLocals]; done)) ?_
  intro w K0
  have K : Cx w Z a0 "com/example/haltwright/haltwright/core/ir/PredicateIsUnsignedPinLaw" code 4 (some .boolean) "law" := K0
  refine Rn.iloadN K (q := 1) at_0 rfl rfl ?_
  refine Rn.ldcI K (q := 3) (2147483647 : Int32) (List.mem_of_getElem? (i := 0) rfl) at_1 rfl ?_
  refine Rn.iand K (q := 4) at_3 rfl ?_
  refine Rn.bipush K (q := 6) (10 : Int32) at_4 rfl rfl ?_
  refine Rn.irem K (q := 7) at_6 (by decide) rfl ?_
  have hb := own_mod p1 (n := (10 : Int32)) (k := 10) (by decide) (by decide)
  generalize ((p1 &&& (2147483647 : Int32)) % (10 : Int32)) = k at hb ⊢
  have hk : k.toInt = 0 ∨ k.toInt = 1 ∨ k.toInt = 2 ∨ k.toInt = 3 ∨ k.toInt = 4 ∨ k.toInt = 5 ∨ k.toInt = 6 ∨ k.toInt = 7 ∨ k.toInt = 8 ∨ k.toInt = 9 := by omega
  rcases hk with hk | hk | hk | hk | hk | hk | hk | hk | hk | hk
  · obtain rfl := own_lit (v := (0 : Int32)) hk (by decide)
    refine Rn.istoreN K (q := 8) (Ls' := #[.val (.int p1), .val (.int (0 : Int32)), .unset, .unset]) at_7 rfl rfl ?_
    refine Rn.iloadN K (q := 9) at_8 rfl rfl ?_
    refine Rn.stat K (q := 12) (W := 0) (y := (⟨"com/example/haltwright/haltwright/core/ir/PredicateIsUnsignedPinLaw", "pick", "(I)Lcom/example/haltwright/haltwright/core/ir/Instruction$Predicate;"⟩ : MethodName)) (argsL := [(.int (0 : Int32))]) (rest := []) (List.mem_of_getElem? (i := 1) rfl) (List.mem_of_getElem? (i := 2) rfl) (List.mem_of_getElem? (i := 4) rfl) (List.mem_of_getElem? (i := 3) rfl) (by decide) (m_pick l Z a0 hw n0 h0 (0 : Int32) aEQ aEQ aNE aUGT aUGE aULT aULE aSGT aSGE aSLT aSLE SEQ SNE SUGT SUGE SULT SULE SSGT SSGE SSLT SSLE (by simp)) (by decide) (by decide) rfl (lenOf pd_0 rfl) rfl (Nat.le_of_ble_eq_true rfl) at_9 rfl (by decide) (by decide) ?_
    rintro _ _ ⟨rfl, rfl⟩
    show Rn w l _ n0 _ 12 #[.val (.int p1), .val (.int (0 : Int32)), .unset, .unset] [(.ref aEQ)] h0 0 0
    refine Rn.astoreN K (q := 13) (Ls' := #[.val (.int p1), .val (.int (0 : Int32)), .val (.ref aEQ), .unset]) at_12 rfl rfl rfl ?_
    refine Rn.iloadN K (q := 14) at_13 rfl rfl ?_
    refine Rn.iconst K (q := 15) (2 : Int32) at_14 rfl rfl ?_
    refine Rn.icY K (q := 27) at_15 (XT.ii_lt_t (by decide)) (by decide) (by decide) ?_
    refine Rn.iconst K (q := 28) (0 : Int32) at_27 rfl rfl ?_
    refine Rn.istoreN K (q := 29) (Ls' := #[.val (.int p1), .val (.int (0 : Int32)), .val (.ref aEQ), .val (.int (0 : Int32))]) at_28 rfl rfl ?_
    refine Rn.aloadN K (q := 30) at_29 rfl rfl rfl ?_
    refine Rn.virt K (q := 33) (W := 0) (y := (⟨"com/example/haltwright/haltwright/core/ir/Instruction$Predicate", "isUnsigned", "()Z"⟩ : MethodName)) (z := (⟨"com/example/haltwright/haltwright/core/ir/Instruction$Predicate", "isUnsigned", "()Z"⟩ : MethodName)) (b := aEQ) (argsL := []) (rest := []) (List.mem_of_getElem? (i := 8) rfl) (List.mem_of_getElem? (i := 9) rfl) (nfs K (List.mem_of_getElem? (i := 11) rfl)) (List.mem_of_getElem? (i := 11) rfl) (List.mem_of_getElem? (i := 10) rfl) (List.mem_of_getElem? (i := 12) rfl) (List.mem_of_getElem? (i := 6) rfl) (by decide) (m_uns l Z a0 hw n0 h0 (0 : Int32) aEQ aUGT aUGE aULT aULE SUGT SUGE SULT SULE (by simp [Enm.ne NEQ NUGT (by decide), Enm.ne NEQ NUGE (by decide), Enm.ne NEQ NULT (by decide), Enm.ne NEQ NULE (by decide)])) NEQ.1 (by decide) (by decide) rfl (lenOf pd_1 rfl) rfl (Nat.le_of_ble_eq_true rfl) at_30 rfl (by decide) (by decide) ?_
    rintro _ _ ⟨rfl, rfl⟩
    show Rn w l _ n0 _ 33 #[.val (.int p1), .val (.int (0 : Int32)), .val (.ref aEQ), .val (.int (0 : Int32))] [(.int (0 : Int32))] h0 0 0
    refine Rn.iloadN K (q := 34) at_33 rfl rfl ?_
    refine Rn.icN K (q := 37) at_34 (XT.ii_ne_f rfl) rfl ?_
    refine Rn.iconst K (q := 38) (1 : Int32) at_37 rfl rfl ?_
    refine Rn.goto K (q := 42) at_38 (by decide) (by decide) ?_
    exact Rn.retN K .boolean rfl (by simp) at_42 (by decide) (by decide) rfl
  · obtain rfl := own_lit (v := (1 : Int32)) hk (by decide)
    refine Rn.istoreN K (q := 8) (Ls' := #[.val (.int p1), .val (.int (1 : Int32)), .unset, .unset]) at_7 rfl rfl ?_
    refine Rn.iloadN K (q := 9) at_8 rfl rfl ?_
    refine Rn.stat K (q := 12) (W := 0) (y := (⟨"com/example/haltwright/haltwright/core/ir/PredicateIsUnsignedPinLaw", "pick", "(I)Lcom/example/haltwright/haltwright/core/ir/Instruction$Predicate;"⟩ : MethodName)) (argsL := [(.int (1 : Int32))]) (rest := []) (List.mem_of_getElem? (i := 1) rfl) (List.mem_of_getElem? (i := 2) rfl) (List.mem_of_getElem? (i := 4) rfl) (List.mem_of_getElem? (i := 3) rfl) (by decide) (m_pick l Z a0 hw n0 h0 (1 : Int32) aNE aEQ aNE aUGT aUGE aULT aULE aSGT aSGE aSLT aSLE SEQ SNE SUGT SUGE SULT SULE SSGT SSGE SSLT SSLE (by simp)) (by decide) (by decide) rfl (lenOf pd_0 rfl) rfl (Nat.le_of_ble_eq_true rfl) at_9 rfl (by decide) (by decide) ?_
    rintro _ _ ⟨rfl, rfl⟩
    show Rn w l _ n0 _ 12 #[.val (.int p1), .val (.int (1 : Int32)), .unset, .unset] [(.ref aNE)] h0 0 0
    refine Rn.astoreN K (q := 13) (Ls' := #[.val (.int p1), .val (.int (1 : Int32)), .val (.ref aNE), .unset]) at_12 rfl rfl rfl ?_
    refine Rn.iloadN K (q := 14) at_13 rfl rfl ?_
    refine Rn.iconst K (q := 15) (2 : Int32) at_14 rfl rfl ?_
    refine Rn.icY K (q := 27) at_15 (XT.ii_lt_t (by decide)) (by decide) (by decide) ?_
    refine Rn.iconst K (q := 28) (0 : Int32) at_27 rfl rfl ?_
    refine Rn.istoreN K (q := 29) (Ls' := #[.val (.int p1), .val (.int (1 : Int32)), .val (.ref aNE), .val (.int (0 : Int32))]) at_28 rfl rfl ?_
    refine Rn.aloadN K (q := 30) at_29 rfl rfl rfl ?_
    refine Rn.virt K (q := 33) (W := 0) (y := (⟨"com/example/haltwright/haltwright/core/ir/Instruction$Predicate", "isUnsigned", "()Z"⟩ : MethodName)) (z := (⟨"com/example/haltwright/haltwright/core/ir/Instruction$Predicate", "isUnsigned", "()Z"⟩ : MethodName)) (b := aNE) (argsL := []) (rest := []) (List.mem_of_getElem? (i := 8) rfl) (List.mem_of_getElem? (i := 9) rfl) (nfs K (List.mem_of_getElem? (i := 11) rfl)) (List.mem_of_getElem? (i := 11) rfl) (List.mem_of_getElem? (i := 10) rfl) (List.mem_of_getElem? (i := 12) rfl) (List.mem_of_getElem? (i := 6) rfl) (by decide) (m_uns l Z a0 hw n0 h0 (0 : Int32) aNE aUGT aUGE aULT aULE SUGT SUGE SULT SULE (by simp [Enm.ne NNE NUGT (by decide), Enm.ne NNE NUGE (by decide), Enm.ne NNE NULT (by decide), Enm.ne NNE NULE (by decide)])) NNE.1 (by decide) (by decide) rfl (lenOf pd_1 rfl) rfl (Nat.le_of_ble_eq_true rfl) at_30 rfl (by decide) (by decide) ?_
    rintro _ _ ⟨rfl, rfl⟩
    show Rn w l _ n0 _ 33 #[.val (.int p1), .val (.int (1 : Int32)), .val (.ref aNE), .val (.int (0 : Int32))] [(.int (0 : Int32))] h0 0 0
    refine Rn.iloadN K (q := 34) at_33 rfl rfl ?_
    refine Rn.icN K (q := 37) at_34 (XT.ii_ne_f rfl) rfl ?_
    refine Rn.iconst K (q := 38) (1 : Int32) at_37 rfl rfl ?_
    refine Rn.goto K (q := 42) at_38 (by decide) (by decide) ?_
    exact Rn.retN K .boolean rfl (by simp) at_42 (by decide) (by decide) rfl
  · obtain rfl := own_lit (v := (2 : Int32)) hk (by decide)
    refine Rn.istoreN K (q := 8) (Ls' := #[.val (.int p1), .val (.int (2 : Int32)), .unset, .unset]) at_7 rfl rfl ?_
    refine Rn.iloadN K (q := 9) at_8 rfl rfl ?_
    refine Rn.stat K (q := 12) (W := 0) (y := (⟨"com/example/haltwright/haltwright/core/ir/PredicateIsUnsignedPinLaw", "pick", "(I)Lcom/example/haltwright/haltwright/core/ir/Instruction$Predicate;"⟩ : MethodName)) (argsL := [(.int (2 : Int32))]) (rest := []) (List.mem_of_getElem? (i := 1) rfl) (List.mem_of_getElem? (i := 2) rfl) (List.mem_of_getElem? (i := 4) rfl) (List.mem_of_getElem? (i := 3) rfl) (by decide) (m_pick l Z a0 hw n0 h0 (2 : Int32) aUGT aEQ aNE aUGT aUGE aULT aULE aSGT aSGE aSLT aSLE SEQ SNE SUGT SUGE SULT SULE SSGT SSGE SSLT SSLE (by simp)) (by decide) (by decide) rfl (lenOf pd_0 rfl) rfl (Nat.le_of_ble_eq_true rfl) at_9 rfl (by decide) (by decide) ?_
    rintro _ _ ⟨rfl, rfl⟩
    show Rn w l _ n0 _ 12 #[.val (.int p1), .val (.int (2 : Int32)), .unset, .unset] [(.ref aUGT)] h0 0 0
    refine Rn.astoreN K (q := 13) (Ls' := #[.val (.int p1), .val (.int (2 : Int32)), .val (.ref aUGT), .unset]) at_12 rfl rfl rfl ?_
    refine Rn.iloadN K (q := 14) at_13 rfl rfl ?_
    refine Rn.iconst K (q := 15) (2 : Int32) at_14 rfl rfl ?_
    refine Rn.icN K (q := 18) at_15 (XT.ii_lt_f (by decide)) rfl ?_
    refine Rn.iloadN K (q := 19) at_18 rfl rfl ?_
    refine Rn.iconst K (q := 20) (5 : Int32) at_19 rfl rfl ?_
    refine Rn.icN K (q := 23) at_20 (XT.ii_gt_f (by decide)) rfl ?_
    refine Rn.iconst K (q := 24) (1 : Int32) at_23 rfl rfl ?_
    refine Rn.goto K (q := 28) at_24 (by decide) (by decide) ?_
    refine Rn.istoreN K (q := 29) (Ls' := #[.val (.int p1), .val (.int (2 : Int32)), .val (.ref aUGT), .val (.int (1 : Int32))]) at_28 rfl rfl ?_
    refine Rn.aloadN K (q := 30) at_29 rfl rfl rfl ?_
    refine Rn.virt K (q := 33) (W := 0) (y := (⟨"com/example/haltwright/haltwright/core/ir/Instruction$Predicate", "isUnsigned", "()Z"⟩ : MethodName)) (z := (⟨"com/example/haltwright/haltwright/core/ir/Instruction$Predicate", "isUnsigned", "()Z"⟩ : MethodName)) (b := aUGT) (argsL := []) (rest := []) (List.mem_of_getElem? (i := 8) rfl) (List.mem_of_getElem? (i := 9) rfl) (nfs K (List.mem_of_getElem? (i := 11) rfl)) (List.mem_of_getElem? (i := 11) rfl) (List.mem_of_getElem? (i := 10) rfl) (List.mem_of_getElem? (i := 12) rfl) (List.mem_of_getElem? (i := 6) rfl) (by decide) (m_uns l Z a0 hw n0 h0 (1 : Int32) aUGT aUGT aUGE aULT aULE SUGT SUGE SULT SULE (by simp [])) NUGT.1 (by decide) (by decide) rfl (lenOf pd_1 rfl) rfl (Nat.le_of_ble_eq_true rfl) at_30 rfl (by decide) (by decide) ?_
    rintro _ _ ⟨rfl, rfl⟩
    show Rn w l _ n0 _ 33 #[.val (.int p1), .val (.int (2 : Int32)), .val (.ref aUGT), .val (.int (1 : Int32))] [(.int (1 : Int32))] h0 0 0
    refine Rn.iloadN K (q := 34) at_33 rfl rfl ?_
    refine Rn.icN K (q := 37) at_34 (XT.ii_ne_f rfl) rfl ?_
    refine Rn.iconst K (q := 38) (1 : Int32) at_37 rfl rfl ?_
    refine Rn.goto K (q := 42) at_38 (by decide) (by decide) ?_
    exact Rn.retN K .boolean rfl (by simp) at_42 (by decide) (by decide) rfl
  · obtain rfl := own_lit (v := (3 : Int32)) hk (by decide)
    refine Rn.istoreN K (q := 8) (Ls' := #[.val (.int p1), .val (.int (3 : Int32)), .unset, .unset]) at_7 rfl rfl ?_
    refine Rn.iloadN K (q := 9) at_8 rfl rfl ?_
    refine Rn.stat K (q := 12) (W := 0) (y := (⟨"com/example/haltwright/haltwright/core/ir/PredicateIsUnsignedPinLaw", "pick", "(I)Lcom/example/haltwright/haltwright/core/ir/Instruction$Predicate;"⟩ : MethodName)) (argsL := [(.int (3 : Int32))]) (rest := []) (List.mem_of_getElem? (i := 1) rfl) (List.mem_of_getElem? (i := 2) rfl) (List.mem_of_getElem? (i := 4) rfl) (List.mem_of_getElem? (i := 3) rfl) (by decide) (m_pick l Z a0 hw n0 h0 (3 : Int32) aUGE aEQ aNE aUGT aUGE aULT aULE aSGT aSGE aSLT aSLE SEQ SNE SUGT SUGE SULT SULE SSGT SSGE SSLT SSLE (by simp)) (by decide) (by decide) rfl (lenOf pd_0 rfl) rfl (Nat.le_of_ble_eq_true rfl) at_9 rfl (by decide) (by decide) ?_
    rintro _ _ ⟨rfl, rfl⟩
    show Rn w l _ n0 _ 12 #[.val (.int p1), .val (.int (3 : Int32)), .unset, .unset] [(.ref aUGE)] h0 0 0
    refine Rn.astoreN K (q := 13) (Ls' := #[.val (.int p1), .val (.int (3 : Int32)), .val (.ref aUGE), .unset]) at_12 rfl rfl rfl ?_
    refine Rn.iloadN K (q := 14) at_13 rfl rfl ?_
    refine Rn.iconst K (q := 15) (2 : Int32) at_14 rfl rfl ?_
    refine Rn.icN K (q := 18) at_15 (XT.ii_lt_f (by decide)) rfl ?_
    refine Rn.iloadN K (q := 19) at_18 rfl rfl ?_
    refine Rn.iconst K (q := 20) (5 : Int32) at_19 rfl rfl ?_
    refine Rn.icN K (q := 23) at_20 (XT.ii_gt_f (by decide)) rfl ?_
    refine Rn.iconst K (q := 24) (1 : Int32) at_23 rfl rfl ?_
    refine Rn.goto K (q := 28) at_24 (by decide) (by decide) ?_
    refine Rn.istoreN K (q := 29) (Ls' := #[.val (.int p1), .val (.int (3 : Int32)), .val (.ref aUGE), .val (.int (1 : Int32))]) at_28 rfl rfl ?_
    refine Rn.aloadN K (q := 30) at_29 rfl rfl rfl ?_
    refine Rn.virt K (q := 33) (W := 0) (y := (⟨"com/example/haltwright/haltwright/core/ir/Instruction$Predicate", "isUnsigned", "()Z"⟩ : MethodName)) (z := (⟨"com/example/haltwright/haltwright/core/ir/Instruction$Predicate", "isUnsigned", "()Z"⟩ : MethodName)) (b := aUGE) (argsL := []) (rest := []) (List.mem_of_getElem? (i := 8) rfl) (List.mem_of_getElem? (i := 9) rfl) (nfs K (List.mem_of_getElem? (i := 11) rfl)) (List.mem_of_getElem? (i := 11) rfl) (List.mem_of_getElem? (i := 10) rfl) (List.mem_of_getElem? (i := 12) rfl) (List.mem_of_getElem? (i := 6) rfl) (by decide) (m_uns l Z a0 hw n0 h0 (1 : Int32) aUGE aUGT aUGE aULT aULE SUGT SUGE SULT SULE (by simp [])) NUGE.1 (by decide) (by decide) rfl (lenOf pd_1 rfl) rfl (Nat.le_of_ble_eq_true rfl) at_30 rfl (by decide) (by decide) ?_
    rintro _ _ ⟨rfl, rfl⟩
    show Rn w l _ n0 _ 33 #[.val (.int p1), .val (.int (3 : Int32)), .val (.ref aUGE), .val (.int (1 : Int32))] [(.int (1 : Int32))] h0 0 0
    refine Rn.iloadN K (q := 34) at_33 rfl rfl ?_
    refine Rn.icN K (q := 37) at_34 (XT.ii_ne_f rfl) rfl ?_
    refine Rn.iconst K (q := 38) (1 : Int32) at_37 rfl rfl ?_
    refine Rn.goto K (q := 42) at_38 (by decide) (by decide) ?_
    exact Rn.retN K .boolean rfl (by simp) at_42 (by decide) (by decide) rfl
  · obtain rfl := own_lit (v := (4 : Int32)) hk (by decide)
    refine Rn.istoreN K (q := 8) (Ls' := #[.val (.int p1), .val (.int (4 : Int32)), .unset, .unset]) at_7 rfl rfl ?_
    refine Rn.iloadN K (q := 9) at_8 rfl rfl ?_
    refine Rn.stat K (q := 12) (W := 0) (y := (⟨"com/example/haltwright/haltwright/core/ir/PredicateIsUnsignedPinLaw", "pick", "(I)Lcom/example/haltwright/haltwright/core/ir/Instruction$Predicate;"⟩ : MethodName)) (argsL := [(.int (4 : Int32))]) (rest := []) (List.mem_of_getElem? (i := 1) rfl) (List.mem_of_getElem? (i := 2) rfl) (List.mem_of_getElem? (i := 4) rfl) (List.mem_of_getElem? (i := 3) rfl) (by decide) (m_pick l Z a0 hw n0 h0 (4 : Int32) aULT aEQ aNE aUGT aUGE aULT aULE aSGT aSGE aSLT aSLE SEQ SNE SUGT SUGE SULT SULE SSGT SSGE SSLT SSLE (by simp)) (by decide) (by decide) rfl (lenOf pd_0 rfl) rfl (Nat.le_of_ble_eq_true rfl) at_9 rfl (by decide) (by decide) ?_
    rintro _ _ ⟨rfl, rfl⟩
    show Rn w l _ n0 _ 12 #[.val (.int p1), .val (.int (4 : Int32)), .unset, .unset] [(.ref aULT)] h0 0 0
    refine Rn.astoreN K (q := 13) (Ls' := #[.val (.int p1), .val (.int (4 : Int32)), .val (.ref aULT), .unset]) at_12 rfl rfl rfl ?_
    refine Rn.iloadN K (q := 14) at_13 rfl rfl ?_
    refine Rn.iconst K (q := 15) (2 : Int32) at_14 rfl rfl ?_
    refine Rn.icN K (q := 18) at_15 (XT.ii_lt_f (by decide)) rfl ?_
    refine Rn.iloadN K (q := 19) at_18 rfl rfl ?_
    refine Rn.iconst K (q := 20) (5 : Int32) at_19 rfl rfl ?_
    refine Rn.icN K (q := 23) at_20 (XT.ii_gt_f (by decide)) rfl ?_
    refine Rn.iconst K (q := 24) (1 : Int32) at_23 rfl rfl ?_
    refine Rn.goto K (q := 28) at_24 (by decide) (by decide) ?_
    refine Rn.istoreN K (q := 29) (Ls' := #[.val (.int p1), .val (.int (4 : Int32)), .val (.ref aULT), .val (.int (1 : Int32))]) at_28 rfl rfl ?_
    refine Rn.aloadN K (q := 30) at_29 rfl rfl rfl ?_
    refine Rn.virt K (q := 33) (W := 0) (y := (⟨"com/example/haltwright/haltwright/core/ir/Instruction$Predicate", "isUnsigned", "()Z"⟩ : MethodName)) (z := (⟨"com/example/haltwright/haltwright/core/ir/Instruction$Predicate", "isUnsigned", "()Z"⟩ : MethodName)) (b := aULT) (argsL := []) (rest := []) (List.mem_of_getElem? (i := 8) rfl) (List.mem_of_getElem? (i := 9) rfl) (nfs K (List.mem_of_getElem? (i := 11) rfl)) (List.mem_of_getElem? (i := 11) rfl) (List.mem_of_getElem? (i := 10) rfl) (List.mem_of_getElem? (i := 12) rfl) (List.mem_of_getElem? (i := 6) rfl) (by decide) (m_uns l Z a0 hw n0 h0 (1 : Int32) aULT aUGT aUGE aULT aULE SUGT SUGE SULT SULE (by simp [])) NULT.1 (by decide) (by decide) rfl (lenOf pd_1 rfl) rfl (Nat.le_of_ble_eq_true rfl) at_30 rfl (by decide) (by decide) ?_
    rintro _ _ ⟨rfl, rfl⟩
    show Rn w l _ n0 _ 33 #[.val (.int p1), .val (.int (4 : Int32)), .val (.ref aULT), .val (.int (1 : Int32))] [(.int (1 : Int32))] h0 0 0
    refine Rn.iloadN K (q := 34) at_33 rfl rfl ?_
    refine Rn.icN K (q := 37) at_34 (XT.ii_ne_f rfl) rfl ?_
    refine Rn.iconst K (q := 38) (1 : Int32) at_37 rfl rfl ?_
    refine Rn.goto K (q := 42) at_38 (by decide) (by decide) ?_
    exact Rn.retN K .boolean rfl (by simp) at_42 (by decide) (by decide) rfl
  · obtain rfl := own_lit (v := (5 : Int32)) hk (by decide)
    refine Rn.istoreN K (q := 8) (Ls' := #[.val (.int p1), .val (.int (5 : Int32)), .unset, .unset]) at_7 rfl rfl ?_
    refine Rn.iloadN K (q := 9) at_8 rfl rfl ?_
    refine Rn.stat K (q := 12) (W := 0) (y := (⟨"com/example/haltwright/haltwright/core/ir/PredicateIsUnsignedPinLaw", "pick", "(I)Lcom/example/haltwright/haltwright/core/ir/Instruction$Predicate;"⟩ : MethodName)) (argsL := [(.int (5 : Int32))]) (rest := []) (List.mem_of_getElem? (i := 1) rfl) (List.mem_of_getElem? (i := 2) rfl) (List.mem_of_getElem? (i := 4) rfl) (List.mem_of_getElem? (i := 3) rfl) (by decide) (m_pick l Z a0 hw n0 h0 (5 : Int32) aULE aEQ aNE aUGT aUGE aULT aULE aSGT aSGE aSLT aSLE SEQ SNE SUGT SUGE SULT SULE SSGT SSGE SSLT SSLE (by simp)) (by decide) (by decide) rfl (lenOf pd_0 rfl) rfl (Nat.le_of_ble_eq_true rfl) at_9 rfl (by decide) (by decide) ?_
    rintro _ _ ⟨rfl, rfl⟩
    show Rn w l _ n0 _ 12 #[.val (.int p1), .val (.int (5 : Int32)), .unset, .unset] [(.ref aULE)] h0 0 0
    refine Rn.astoreN K (q := 13) (Ls' := #[.val (.int p1), .val (.int (5 : Int32)), .val (.ref aULE), .unset]) at_12 rfl rfl rfl ?_
    refine Rn.iloadN K (q := 14) at_13 rfl rfl ?_
    refine Rn.iconst K (q := 15) (2 : Int32) at_14 rfl rfl ?_
    refine Rn.icN K (q := 18) at_15 (XT.ii_lt_f (by decide)) rfl ?_
    refine Rn.iloadN K (q := 19) at_18 rfl rfl ?_
    refine Rn.iconst K (q := 20) (5 : Int32) at_19 rfl rfl ?_
    refine Rn.icN K (q := 23) at_20 (XT.ii_gt_f (by decide)) rfl ?_
    refine Rn.iconst K (q := 24) (1 : Int32) at_23 rfl rfl ?_
    refine Rn.goto K (q := 28) at_24 (by decide) (by decide) ?_
    refine Rn.istoreN K (q := 29) (Ls' := #[.val (.int p1), .val (.int (5 : Int32)), .val (.ref aULE), .val (.int (1 : Int32))]) at_28 rfl rfl ?_
    refine Rn.aloadN K (q := 30) at_29 rfl rfl rfl ?_
    refine Rn.virt K (q := 33) (W := 0) (y := (⟨"com/example/haltwright/haltwright/core/ir/Instruction$Predicate", "isUnsigned", "()Z"⟩ : MethodName)) (z := (⟨"com/example/haltwright/haltwright/core/ir/Instruction$Predicate", "isUnsigned", "()Z"⟩ : MethodName)) (b := aULE) (argsL := []) (rest := []) (List.mem_of_getElem? (i := 8) rfl) (List.mem_of_getElem? (i := 9) rfl) (nfs K (List.mem_of_getElem? (i := 11) rfl)) (List.mem_of_getElem? (i := 11) rfl) (List.mem_of_getElem? (i := 10) rfl) (List.mem_of_getElem? (i := 12) rfl) (List.mem_of_getElem? (i := 6) rfl) (by decide) (m_uns l Z a0 hw n0 h0 (1 : Int32) aULE aUGT aUGE aULT aULE SUGT SUGE SULT SULE (by simp [])) NULE.1 (by decide) (by decide) rfl (lenOf pd_1 rfl) rfl (Nat.le_of_ble_eq_true rfl) at_30 rfl (by decide) (by decide) ?_
    rintro _ _ ⟨rfl, rfl⟩
    show Rn w l _ n0 _ 33 #[.val (.int p1), .val (.int (5 : Int32)), .val (.ref aULE), .val (.int (1 : Int32))] [(.int (1 : Int32))] h0 0 0
    refine Rn.iloadN K (q := 34) at_33 rfl rfl ?_
    refine Rn.icN K (q := 37) at_34 (XT.ii_ne_f rfl) rfl ?_
    refine Rn.iconst K (q := 38) (1 : Int32) at_37 rfl rfl ?_
    refine Rn.goto K (q := 42) at_38 (by decide) (by decide) ?_
    exact Rn.retN K .boolean rfl (by simp) at_42 (by decide) (by decide) rfl
  · obtain rfl := own_lit (v := (6 : Int32)) hk (by decide)
    refine Rn.istoreN K (q := 8) (Ls' := #[.val (.int p1), .val (.int (6 : Int32)), .unset, .unset]) at_7 rfl rfl ?_
    refine Rn.iloadN K (q := 9) at_8 rfl rfl ?_
    refine Rn.stat K (q := 12) (W := 0) (y := (⟨"com/example/haltwright/haltwright/core/ir/PredicateIsUnsignedPinLaw", "pick", "(I)Lcom/example/haltwright/haltwright/core/ir/Instruction$Predicate;"⟩ : MethodName)) (argsL := [(.int (6 : Int32))]) (rest := []) (List.mem_of_getElem? (i := 1) rfl) (List.mem_of_getElem? (i := 2) rfl) (List.mem_of_getElem? (i := 4) rfl) (List.mem_of_getElem? (i := 3) rfl) (by decide) (m_pick l Z a0 hw n0 h0 (6 : Int32) aSGT aEQ aNE aUGT aUGE aULT aULE aSGT aSGE aSLT aSLE SEQ SNE SUGT SUGE SULT SULE SSGT SSGE SSLT SSLE (by simp)) (by decide) (by decide) rfl (lenOf pd_0 rfl) rfl (Nat.le_of_ble_eq_true rfl) at_9 rfl (by decide) (by decide) ?_
    rintro _ _ ⟨rfl, rfl⟩
    show Rn w l _ n0 _ 12 #[.val (.int p1), .val (.int (6 : Int32)), .unset, .unset] [(.ref aSGT)] h0 0 0
    refine Rn.astoreN K (q := 13) (Ls' := #[.val (.int p1), .val (.int (6 : Int32)), .val (.ref aSGT), .unset]) at_12 rfl rfl rfl ?_
    refine Rn.iloadN K (q := 14) at_13 rfl rfl ?_
    refine Rn.iconst K (q := 15) (2 : Int32) at_14 rfl rfl ?_
    refine Rn.icN K (q := 18) at_15 (XT.ii_lt_f (by decide)) rfl ?_
    refine Rn.iloadN K (q := 19) at_18 rfl rfl ?_
    refine Rn.iconst K (q := 20) (5 : Int32) at_19 rfl rfl ?_
    refine Rn.icY K (q := 27) at_20 (XT.ii_gt_t (by decide)) (by decide) (by decide) ?_
    refine Rn.iconst K (q := 28) (0 : Int32) at_27 rfl rfl ?_
    refine Rn.istoreN K (q := 29) (Ls' := #[.val (.int p1), .val (.int (6 : Int32)), .val (.ref aSGT), .val (.int (0 : Int32))]) at_28 rfl rfl ?_
    refine Rn.aloadN K (q := 30) at_29 rfl rfl rfl ?_
    refine Rn.virt K (q := 33) (W := 0) (y := (⟨"com/example/haltwright/haltwright/core/ir/Instruction$Predicate", "isUnsigned", "()Z"⟩ : MethodName)) (z := (⟨"com/example/haltwright/haltwright/core/ir/Instruction$Predicate", "isUnsigned", "()Z"⟩ : MethodName)) (b := aSGT) (argsL := []) (rest := []) (List.mem_of_getElem? (i := 8) rfl) (List.mem_of_getElem? (i := 9) rfl) (nfs K (List.mem_of_getElem? (i := 11) rfl)) (List.mem_of_getElem? (i := 11) rfl) (List.mem_of_getElem? (i := 10) rfl) (List.mem_of_getElem? (i := 12) rfl) (List.mem_of_getElem? (i := 6) rfl) (by decide) (m_uns l Z a0 hw n0 h0 (0 : Int32) aSGT aUGT aUGE aULT aULE SUGT SUGE SULT SULE (by simp [Enm.ne NSGT NUGT (by decide), Enm.ne NSGT NUGE (by decide), Enm.ne NSGT NULT (by decide), Enm.ne NSGT NULE (by decide)])) NSGT.1 (by decide) (by decide) rfl (lenOf pd_1 rfl) rfl (Nat.le_of_ble_eq_true rfl) at_30 rfl (by decide) (by decide) ?_
    rintro _ _ ⟨rfl, rfl⟩
    show Rn w l _ n0 _ 33 #[.val (.int p1), .val (.int (6 : Int32)), .val (.ref aSGT), .val (.int (0 : Int32))] [(.int (0 : Int32))] h0 0 0
    refine Rn.iloadN K (q := 34) at_33 rfl rfl ?_
    refine Rn.icN K (q := 37) at_34 (XT.ii_ne_f rfl) rfl ?_
    refine Rn.iconst K (q := 38) (1 : Int32) at_37 rfl rfl ?_
    refine Rn.goto K (q := 42) at_38 (by decide) (by decide) ?_
    exact Rn.retN K .boolean rfl (by simp) at_42 (by decide) (by decide) rfl
  · obtain rfl := own_lit (v := (7 : Int32)) hk (by decide)
    refine Rn.istoreN K (q := 8) (Ls' := #[.val (.int p1), .val (.int (7 : Int32)), .unset, .unset]) at_7 rfl rfl ?_
    refine Rn.iloadN K (q := 9) at_8 rfl rfl ?_
    refine Rn.stat K (q := 12) (W := 0) (y := (⟨"com/example/haltwright/haltwright/core/ir/PredicateIsUnsignedPinLaw", "pick", "(I)Lcom/example/haltwright/haltwright/core/ir/Instruction$Predicate;"⟩ : MethodName)) (argsL := [(.int (7 : Int32))]) (rest := []) (List.mem_of_getElem? (i := 1) rfl) (List.mem_of_getElem? (i := 2) rfl) (List.mem_of_getElem? (i := 4) rfl) (List.mem_of_getElem? (i := 3) rfl) (by decide) (m_pick l Z a0 hw n0 h0 (7 : Int32) aSGE aEQ aNE aUGT aUGE aULT aULE aSGT aSGE aSLT aSLE SEQ SNE SUGT SUGE SULT SULE SSGT SSGE SSLT SSLE (by simp)) (by decide) (by decide) rfl (lenOf pd_0 rfl) rfl (Nat.le_of_ble_eq_true rfl) at_9 rfl (by decide) (by decide) ?_
    rintro _ _ ⟨rfl, rfl⟩
    show Rn w l _ n0 _ 12 #[.val (.int p1), .val (.int (7 : Int32)), .unset, .unset] [(.ref aSGE)] h0 0 0
    refine Rn.astoreN K (q := 13) (Ls' := #[.val (.int p1), .val (.int (7 : Int32)), .val (.ref aSGE), .unset]) at_12 rfl rfl rfl ?_
    refine Rn.iloadN K (q := 14) at_13 rfl rfl ?_
    refine Rn.iconst K (q := 15) (2 : Int32) at_14 rfl rfl ?_
    refine Rn.icN K (q := 18) at_15 (XT.ii_lt_f (by decide)) rfl ?_
    refine Rn.iloadN K (q := 19) at_18 rfl rfl ?_
    refine Rn.iconst K (q := 20) (5 : Int32) at_19 rfl rfl ?_
    refine Rn.icY K (q := 27) at_20 (XT.ii_gt_t (by decide)) (by decide) (by decide) ?_
    refine Rn.iconst K (q := 28) (0 : Int32) at_27 rfl rfl ?_
    refine Rn.istoreN K (q := 29) (Ls' := #[.val (.int p1), .val (.int (7 : Int32)), .val (.ref aSGE), .val (.int (0 : Int32))]) at_28 rfl rfl ?_
    refine Rn.aloadN K (q := 30) at_29 rfl rfl rfl ?_
    refine Rn.virt K (q := 33) (W := 0) (y := (⟨"com/example/haltwright/haltwright/core/ir/Instruction$Predicate", "isUnsigned", "()Z"⟩ : MethodName)) (z := (⟨"com/example/haltwright/haltwright/core/ir/Instruction$Predicate", "isUnsigned", "()Z"⟩ : MethodName)) (b := aSGE) (argsL := []) (rest := []) (List.mem_of_getElem? (i := 8) rfl) (List.mem_of_getElem? (i := 9) rfl) (nfs K (List.mem_of_getElem? (i := 11) rfl)) (List.mem_of_getElem? (i := 11) rfl) (List.mem_of_getElem? (i := 10) rfl) (List.mem_of_getElem? (i := 12) rfl) (List.mem_of_getElem? (i := 6) rfl) (by decide) (m_uns l Z a0 hw n0 h0 (0 : Int32) aSGE aUGT aUGE aULT aULE SUGT SUGE SULT SULE (by simp [Enm.ne NSGE NUGT (by decide), Enm.ne NSGE NUGE (by decide), Enm.ne NSGE NULT (by decide), Enm.ne NSGE NULE (by decide)])) NSGE.1 (by decide) (by decide) rfl (lenOf pd_1 rfl) rfl (Nat.le_of_ble_eq_true rfl) at_30 rfl (by decide) (by decide) ?_
    rintro _ _ ⟨rfl, rfl⟩
    show Rn w l _ n0 _ 33 #[.val (.int p1), .val (.int (7 : Int32)), .val (.ref aSGE), .val (.int (0 : Int32))] [(.int (0 : Int32))] h0 0 0
    refine Rn.iloadN K (q := 34) at_33 rfl rfl ?_
    refine Rn.icN K (q := 37) at_34 (XT.ii_ne_f rfl) rfl ?_
    refine Rn.iconst K (q := 38) (1 : Int32) at_37 rfl rfl ?_
    refine Rn.goto K (q := 42) at_38 (by decide) (by decide) ?_
    exact Rn.retN K .boolean rfl (by simp) at_42 (by decide) (by decide) rfl
  · obtain rfl := own_lit (v := (8 : Int32)) hk (by decide)
    refine Rn.istoreN K (q := 8) (Ls' := #[.val (.int p1), .val (.int (8 : Int32)), .unset, .unset]) at_7 rfl rfl ?_
    refine Rn.iloadN K (q := 9) at_8 rfl rfl ?_
    refine Rn.stat K (q := 12) (W := 0) (y := (⟨"com/example/haltwright/haltwright/core/ir/PredicateIsUnsignedPinLaw", "pick", "(I)Lcom/example/haltwright/haltwright/core/ir/Instruction$Predicate;"⟩ : MethodName)) (argsL := [(.int (8 : Int32))]) (rest := []) (List.mem_of_getElem? (i := 1) rfl) (List.mem_of_getElem? (i := 2) rfl) (List.mem_of_getElem? (i := 4) rfl) (List.mem_of_getElem? (i := 3) rfl) (by decide) (m_pick l Z a0 hw n0 h0 (8 : Int32) aSLT aEQ aNE aUGT aUGE aULT aULE aSGT aSGE aSLT aSLE SEQ SNE SUGT SUGE SULT SULE SSGT SSGE SSLT SSLE (by simp)) (by decide) (by decide) rfl (lenOf pd_0 rfl) rfl (Nat.le_of_ble_eq_true rfl) at_9 rfl (by decide) (by decide) ?_
    rintro _ _ ⟨rfl, rfl⟩
    show Rn w l _ n0 _ 12 #[.val (.int p1), .val (.int (8 : Int32)), .unset, .unset] [(.ref aSLT)] h0 0 0
    refine Rn.astoreN K (q := 13) (Ls' := #[.val (.int p1), .val (.int (8 : Int32)), .val (.ref aSLT), .unset]) at_12 rfl rfl rfl ?_
    refine Rn.iloadN K (q := 14) at_13 rfl rfl ?_
    refine Rn.iconst K (q := 15) (2 : Int32) at_14 rfl rfl ?_
    refine Rn.icN K (q := 18) at_15 (XT.ii_lt_f (by decide)) rfl ?_
    refine Rn.iloadN K (q := 19) at_18 rfl rfl ?_
    refine Rn.iconst K (q := 20) (5 : Int32) at_19 rfl rfl ?_
    refine Rn.icY K (q := 27) at_20 (XT.ii_gt_t (by decide)) (by decide) (by decide) ?_
    refine Rn.iconst K (q := 28) (0 : Int32) at_27 rfl rfl ?_
    refine Rn.istoreN K (q := 29) (Ls' := #[.val (.int p1), .val (.int (8 : Int32)), .val (.ref aSLT), .val (.int (0 : Int32))]) at_28 rfl rfl ?_
    refine Rn.aloadN K (q := 30) at_29 rfl rfl rfl ?_
    refine Rn.virt K (q := 33) (W := 0) (y := (⟨"com/example/haltwright/haltwright/core/ir/Instruction$Predicate", "isUnsigned", "()Z"⟩ : MethodName)) (z := (⟨"com/example/haltwright/haltwright/core/ir/Instruction$Predicate", "isUnsigned", "()Z"⟩ : MethodName)) (b := aSLT) (argsL := []) (rest := []) (List.mem_of_getElem? (i := 8) rfl) (List.mem_of_getElem? (i := 9) rfl) (nfs K (List.mem_of_getElem? (i := 11) rfl)) (List.mem_of_getElem? (i := 11) rfl) (List.mem_of_getElem? (i := 10) rfl) (List.mem_of_getElem? (i := 12) rfl) (List.mem_of_getElem? (i := 6) rfl) (by decide) (m_uns l Z a0 hw n0 h0 (0 : Int32) aSLT aUGT aUGE aULT aULE SUGT SUGE SULT SULE (by simp [Enm.ne NSLT NUGT (by decide), Enm.ne NSLT NUGE (by decide), Enm.ne NSLT NULT (by decide), Enm.ne NSLT NULE (by decide)])) NSLT.1 (by decide) (by decide) rfl (lenOf pd_1 rfl) rfl (Nat.le_of_ble_eq_true rfl) at_30 rfl (by decide) (by decide) ?_
    rintro _ _ ⟨rfl, rfl⟩
    show Rn w l _ n0 _ 33 #[.val (.int p1), .val (.int (8 : Int32)), .val (.ref aSLT), .val (.int (0 : Int32))] [(.int (0 : Int32))] h0 0 0
    refine Rn.iloadN K (q := 34) at_33 rfl rfl ?_
    refine Rn.icN K (q := 37) at_34 (XT.ii_ne_f rfl) rfl ?_
    refine Rn.iconst K (q := 38) (1 : Int32) at_37 rfl rfl ?_
    refine Rn.goto K (q := 42) at_38 (by decide) (by decide) ?_
    exact Rn.retN K .boolean rfl (by simp) at_42 (by decide) (by decide) rfl
  · obtain rfl := own_lit (v := (9 : Int32)) hk (by decide)
    refine Rn.istoreN K (q := 8) (Ls' := #[.val (.int p1), .val (.int (9 : Int32)), .unset, .unset]) at_7 rfl rfl ?_
    refine Rn.iloadN K (q := 9) at_8 rfl rfl ?_
    refine Rn.stat K (q := 12) (W := 0) (y := (⟨"com/example/haltwright/haltwright/core/ir/PredicateIsUnsignedPinLaw", "pick", "(I)Lcom/example/haltwright/haltwright/core/ir/Instruction$Predicate;"⟩ : MethodName)) (argsL := [(.int (9 : Int32))]) (rest := []) (List.mem_of_getElem? (i := 1) rfl) (List.mem_of_getElem? (i := 2) rfl) (List.mem_of_getElem? (i := 4) rfl) (List.mem_of_getElem? (i := 3) rfl) (by decide) (m_pick l Z a0 hw n0 h0 (9 : Int32) aSLE aEQ aNE aUGT aUGE aULT aULE aSGT aSGE aSLT aSLE SEQ SNE SUGT SUGE SULT SULE SSGT SSGE SSLT SSLE (by simp)) (by decide) (by decide) rfl (lenOf pd_0 rfl) rfl (Nat.le_of_ble_eq_true rfl) at_9 rfl (by decide) (by decide) ?_
    rintro _ _ ⟨rfl, rfl⟩
    show Rn w l _ n0 _ 12 #[.val (.int p1), .val (.int (9 : Int32)), .unset, .unset] [(.ref aSLE)] h0 0 0
    refine Rn.astoreN K (q := 13) (Ls' := #[.val (.int p1), .val (.int (9 : Int32)), .val (.ref aSLE), .unset]) at_12 rfl rfl rfl ?_
    refine Rn.iloadN K (q := 14) at_13 rfl rfl ?_
    refine Rn.iconst K (q := 15) (2 : Int32) at_14 rfl rfl ?_
    refine Rn.icN K (q := 18) at_15 (XT.ii_lt_f (by decide)) rfl ?_
    refine Rn.iloadN K (q := 19) at_18 rfl rfl ?_
    refine Rn.iconst K (q := 20) (5 : Int32) at_19 rfl rfl ?_
    refine Rn.icY K (q := 27) at_20 (XT.ii_gt_t (by decide)) (by decide) (by decide) ?_
    refine Rn.iconst K (q := 28) (0 : Int32) at_27 rfl rfl ?_
    refine Rn.istoreN K (q := 29) (Ls' := #[.val (.int p1), .val (.int (9 : Int32)), .val (.ref aSLE), .val (.int (0 : Int32))]) at_28 rfl rfl ?_
    refine Rn.aloadN K (q := 30) at_29 rfl rfl rfl ?_
    refine Rn.virt K (q := 33) (W := 0) (y := (⟨"com/example/haltwright/haltwright/core/ir/Instruction$Predicate", "isUnsigned", "()Z"⟩ : MethodName)) (z := (⟨"com/example/haltwright/haltwright/core/ir/Instruction$Predicate", "isUnsigned", "()Z"⟩ : MethodName)) (b := aSLE) (argsL := []) (rest := []) (List.mem_of_getElem? (i := 8) rfl) (List.mem_of_getElem? (i := 9) rfl) (nfs K (List.mem_of_getElem? (i := 11) rfl)) (List.mem_of_getElem? (i := 11) rfl) (List.mem_of_getElem? (i := 10) rfl) (List.mem_of_getElem? (i := 12) rfl) (List.mem_of_getElem? (i := 6) rfl) (by decide) (m_uns l Z a0 hw n0 h0 (0 : Int32) aSLE aUGT aUGE aULT aULE SUGT SUGE SULT SULE (by simp [Enm.ne NSLE NUGT (by decide), Enm.ne NSLE NUGE (by decide), Enm.ne NSLE NULT (by decide), Enm.ne NSLE NULE (by decide)])) NSLE.1 (by decide) (by decide) rfl (lenOf pd_1 rfl) rfl (Nat.le_of_ble_eq_true rfl) at_30 rfl (by decide) (by decide) ?_
    rintro _ _ ⟨rfl, rfl⟩
    show Rn w l _ n0 _ 33 #[.val (.int p1), .val (.int (9 : Int32)), .val (.ref aSLE), .val (.int (0 : Int32))] [(.int (0 : Int32))] h0 0 0
    refine Rn.iloadN K (q := 34) at_33 rfl rfl ?_
    refine Rn.icN K (q := 37) at_34 (XT.ii_ne_f rfl) rfl ?_
    refine Rn.iconst K (q := 38) (1 : Int32) at_37 rfl rfl ?_
    refine Rn.goto K (q := 42) at_38 (by decide) (by decide) ?_
    exact Rn.retN K .boolean rfl (by simp) at_42 (by decide) (by decide) rfl
set_option maxRecDepth 65536 in
set_option maxHeartbeats 40000000 in
theorem comes_1 {Post : Tables → Env → Array Value → State → Outcome → State → Prop} (hpost : ∀ tb e args s v u, (limb_1_1.after args s (.returned v) u = true ∧ limb_1_2.after args s (.returned v) u = true ∧ True) → FrameEnd s (.returned v) u (Jvm.fieldLocs frame_1_writes args s ++ Jvm.arrayLocs frame_1_arrays args s ++ Jvm.staticLocs frame_1_statics s) 0 0 → Post tb e args s (.returned v) u) :
    ArmFor flags0 classFile x code maxLocals ret World_1 tables_1 room_1 Calls_1 rest_1 Pre_1 Post := by
  intro l hfl _ _ p e ha hc hk s m args below hf hA hF happ hP
  obtain ⟨hcalls, hrest, hpre⟩ := hP
  obtain ⟨-, -, -, hnamed, -, -, -, hat⟩ := (Spec.applies_iff hf).mp happ
  obtain ⟨hg, hn⟩ := and_e (Cond.before_iff.mp (show (Jvm.Cond.and given_1 narrow_1).before args s = true from hpre))
  obtain ⟨hcnt, hgs0⟩ := and_e hg
  obtain ⟨w0, rfl⟩ : ∃ w0 : Value, args = #[w0] := by
    have hs : args.size = 1 := by simpa [Cond.value, given_1] using hcnt
    obtain ⟨L⟩ := args
    match L, hs with
    | [w0], _ => exact ⟨w0, rfl⟩
  have hw := fun d (hd : d ∈ tables_1) => atoms_spec (ws := Jvm.Cond.code x code maxLocals ret :: tables_1) hat d (List.mem_cons_of_mem _ hd)
  have hfit : Fit s := fun {y c} hc i hi => by
    obtain ⟨ha, rfl⟩ := Array.getElem?_eq_some_iff.mp hc
    have q := List.all_eq_true.mp ((Array.all_eq_true_iff_forall_mem.mp hF) _ (Array.getElem_mem ha)) i (List.mem_range.mpr hi)
    simpa [Array.getElem?_eq_getElem hi] using q
  obtain ⟨i0, ei0⟩ := is_v hgs0
  obtain rfl : w0 = (.int i0) := Option.some.inj ei0
  obtain ⟨nk0, nr0⟩ := and_e hn
  obtain ⟨nk1, nr1⟩ := and_e nr0
  obtain ⟨nk2, nr2⟩ := and_e nr1
  obtain ⟨nk3, nr3⟩ := and_e nr2
  obtain ⟨nk4, nr4⟩ := and_e nr3
  obtain ⟨nk5, nr5⟩ := and_e nr4
  obtain ⟨nk6, nr6⟩ := and_e nr5
  obtain ⟨nk7, nr7⟩ := and_e nr6
  obtain ⟨nk8, nr8⟩ := and_e nr7
  obtain ⟨nk9, nr9⟩ := and_e nr8
  obtain ⟨nk10, nr10⟩ := and_e nr9
  obtain ⟨nk11, nr11⟩ := and_e nr10
  obtain ⟨nk12, nr12⟩ := and_e nr11
  obtain ⟨nk13, nr13⟩ := and_e nr12
  obtain ⟨nk14, nr14⟩ := and_e nr13
  obtain ⟨nk15, nr15⟩ := and_e nr14
  obtain ⟨nk16, nr16⟩ := and_e nr15
  obtain ⟨nk17, nr17⟩ := and_e nr16
  obtain ⟨nk18, nr18⟩ := and_e nr17
  have nk19 := nr18
  obtain ⟨aEQ, vEQ⟩ := exa_v nk0
  have EEQ := Exa.start vEQ nk0
  have SEQ := Sta.start vEQ (Or.inr ⟨hw _ (List.mem_of_getElem? (i := 6) rfl), hw _ (List.mem_of_getElem? (i := 7) rfl)⟩)
  obtain ⟨aUGT, vUGT⟩ := exa_v nk1
  have EUGT := Exa.start vUGT nk1
  have SUGT := Sta.start vUGT (Or.inr ⟨hw _ (List.mem_of_getElem? (i := 6) rfl), hw _ (List.mem_of_getElem? (i := 14) rfl)⟩)
  obtain ⟨aUGE, vUGE⟩ := exa_v nk4
  have EUGE := Exa.start vUGE nk4
  have SUGE := Sta.start vUGE (Or.inr ⟨hw _ (List.mem_of_getElem? (i := 6) rfl), hw _ (List.mem_of_getElem? (i := 16) rfl)⟩)
  obtain ⟨aULT, vULT⟩ := exa_v nk6
  have EULT := Exa.start vULT nk6
  have SULT := Sta.start vULT (Or.inr ⟨hw _ (List.mem_of_getElem? (i := 6) rfl), hw _ (List.mem_of_getElem? (i := 18) rfl)⟩)
  obtain ⟨aULE, vULE⟩ := exa_v nk8
  have EULE := Exa.start vULE nk8
  have SULE := Sta.start vULE (Or.inr ⟨hw _ (List.mem_of_getElem? (i := 6) rfl), hw _ (List.mem_of_getElem? (i := 20) rfl)⟩)
  obtain ⟨aNE, vNE⟩ := exa_v nk10
  have ENE := Exa.start vNE nk10
  have SNE := Sta.start vNE (Or.inr ⟨hw _ (List.mem_of_getElem? (i := 6) rfl), hw _ (List.mem_of_getElem? (i := 23) rfl)⟩)
  obtain ⟨aSGE, vSGE⟩ := exa_v nk12
  have ESGE := Exa.start vSGE nk12
  have SSGE := Sta.start vSGE (Or.inr ⟨hw _ (List.mem_of_getElem? (i := 6) rfl), hw _ (List.mem_of_getElem? (i := 26) rfl)⟩)
  obtain ⟨aSLT, vSLT⟩ := exa_v nk14
  have ESLT := Exa.start vSLT nk14
  have SSLT := Sta.start vSLT (Or.inr ⟨hw _ (List.mem_of_getElem? (i := 6) rfl), hw _ (List.mem_of_getElem? (i := 29) rfl)⟩)
  obtain ⟨aSLE, vSLE⟩ := exa_v nk16
  have ESLE := Exa.start vSLE nk16
  have SSLE := Sta.start vSLE (Or.inr ⟨hw _ (List.mem_of_getElem? (i := 6) rfl), hw _ (List.mem_of_getElem? (i := 31) rfl)⟩)
  obtain ⟨aSGT, vSGT⟩ := exa_v nk18
  have ESGT := Exa.start vSGT nk18
  have SSGT := Sta.start vSGT (Or.inr ⟨hw _ (List.mem_of_getElem? (i := 6) rfl), hw _ (List.mem_of_getElem? (i := 34) rfl)⟩)
  have OEQ := own_ord vEQ nk2
  have OUGT := own_ord vUGT nk3
  have OUGE := own_ord vUGE nk5
  have OULT := own_ord vULT nk7
  have OULE := own_ord vULE nk9
  have ONE := own_ord vNE nk11
  have OSGE := own_ord vSGE nk13
  have OSLT := own_ord vSLT nk15
  have OSLE := own_ord vSLE nk17
  have OSGT := own_ord vSGT nk19
  obtain ⟨n, o, h1, h2, h3, _, L, rfl, ⟨N, rfl⟩, hq⟩ := m_law l s _ hw s.heap.size s.heap i0 aEQ aNE aUGT aUGE aULT aULE aSGT aSGE aSLT aSLE SEQ SNE SUGT SUGE SULT SULE SSGT SSGE SSLT SSLE ⟨EEQ, OEQ⟩ ⟨ENE, ONE⟩ ⟨EUGT, OUGT⟩ ⟨EUGE, OUGE⟩ ⟨EULT, OULT⟩ ⟨EULE, OULE⟩ ⟨ESGT, OSGT⟩ ⟨ESGE, OSGE⟩ ⟨ESLT, OSLT⟩ ⟨ESLE, OSLE⟩ p e ha hc hk s m _ below hf ((Spec.applies_iff_loose hf).mp happ).1 ⟨rfl, State.Warmed39.refl s, rfl⟩ trivial
  refine ⟨n, _, h1, h2, h3, hpost _ _ _ _ _ _ ⟨Cond.after_iff.mpr rfl, Cond.after_iff.mpr (eq_i res_at (Term.int_eval (1)) rfl), trivial⟩ ⟨hq.1, hq.2.1, (hq.2.2.sift fun y hy => Or.inr (N y hy)).mono (by decide) (by decide)⟩⟩
theorem main_1_1 : Claimed_1_1 := comes_1 fun _ _ _ _ _ _ h hF => ⟨h.1, hF⟩
theorem main_1_2 : Claimed_1_2 := comes_1 fun _ _ _ _ _ _ h hF => ⟨h.2.1, hF⟩
end Jvm.Pilot.@@N@@
namespace Jvm.Pilot.@@N@@
open Jvm Jvm.ClassFile Sem Op Lib Jvm.Free Jvm.Stand Jvm.Pilot.@@N@@.Jvm.D
/-! MADE BY PROGRAM (witnessworld.py) out of the Statement's table words and the real class files: 12 classes; the members and pool entries that the words name. The judged class is class 1, her method 2. -/
namespace start1
open Jvm.ClassFile
def u (s : String) : CpInfo := .utf8 (stringToUtf16 s)
/-- a pool by its gaps: so many unusable entries, then the entry; so many at the end -/
def gap : Nat → List CpInfo → List CpInfo
  | 0, r => r
  | n + 1, r => .unusable :: gap n r
def poolList (es : List (Nat × CpInfo)) (last : Nat) : List CpInfo := es.foldr (fun e r => gap e.1 (e.2 :: r)) (gap last [])
def pool (es : List (Nat × CpInfo)) (last : Nat) : Array CpInfo := ⟨poolList es last⟩
def fileOf (pool : Array CpInfo) (this : Nat) (attrs : Array Attribute := #[]) (ms : Array MethodInfo := #[]) (fl : Nat := 33) (sup : Nat := 0) (ifs : Array Nat := #[]) (fds : Array FieldInfo := #[]) : ClassFile where
  minorVersion := 0
  majorVersion := 65
  constantPool := pool
  accessFlags := fl
  thisClass := this
  superClass := sup
  interfaces := ifs
  fields := fds
  methods := ms
  attributes := attrs
def plain (name : String) (sup : Option ClassId) : Class where
  name := name
  kind := .ordinary
  loader := none
  accessFlags := 33
  super := sup
  interfaces := #[]
  cf := none
  fields := #[]
  methods := #[]
  instanceTypes := #[]
  staticTypes := #[]
  resolved := #[]
  callSites := []
  init := .initialized
  statics := none
  mirror := none

def pool0 : Array CpInfo := pool [(5, u "<init>"), (0, u "()V"), (1, .class_ 10), (1, u "java/lang/Object")] 113

def k0m0 : Method := { name := "<init>", desc := "()V", sig := { parameters := [], returnType := none }, accessFlags := 1, code := none }
/-- java/lang/Object -/
def k0 : Class := { plain "java/lang/Object" none with
  accessFlags := 33
  interfaces := #[]
  cf := some (fileOf pool0 8 #[] #[{ accessFlags := 1, nameIndex := 5, descriptorIndex := 6, attributes := #[] }] 33 0 #[] #[])
  fields := #[]
  methods := #[k0m0]
  instanceTypes := #[]
  staticTypes := #[]
  resolved := Array.replicate 124 none
  statics := none }

def pool1 : Array CpInfo := pool [(2, .class_ 4), (1, u "java/lang/Object"), (0, u "<init>"), (0, u "()V"), (0, .fieldref 8 9), (0, .class_ 10), (0, .nameAndType 11 12), (0, u "com/example/haltwright/haltwright/core/ir/Instruction$Predicate"), (0, u "EQ"), (0, u "Lcom/example/haltwright/haltwright/core/ir/Instruction$Predicate;"), (0, .fieldref 8 14), (0, .nameAndType 15 12), (0, u "NE"), (0, .fieldref 8 17), (0, .nameAndType 18 12), (0, u "UGT"), (0, .fieldref 8 20), (0, .nameAndType 21 12), (0, u "UGE"), (0, .fieldref 8 23), (0, .nameAndType 24 12), (0, u "ULT"), (0, .fieldref 8 26), (0, .nameAndType 27 12), (0, u "ULE"), (0, .fieldref 8 29), (0, .nameAndType 30 12), (0, u "SGT"), (0, .fieldref 8 32), (0, .nameAndType 33 12), (0, u "SGE"), (0, .fieldref 8 35), (0, .nameAndType 36 12), (0, u "SLT"), (0, .fieldref 8 38), (0, .nameAndType 39 12), (0, u "SLE"), (0, .integer 2147483647), (0, .methodref 42 43), (0, .class_ 44), (0, .nameAndType 45 46), (0, u "com/example/haltwright/haltwright/core/ir/PredicateIsUnsignedPinLaw"), (0, u "pick"), (0, u "(I)Lcom/example/haltwright/haltwright/core/ir/Instruction$Predicate;"), (0, .methodref 8 48), (0, .nameAndType 49 50), (0, u "isUnsigned"), (0, u "()Z"), (3, u "law"), (0, u "(I)Z")] 6

def k1m0 : Method := { name := "<init>", desc := "()V", sig := { parameters := [], returnType := none }, accessFlags := 1, code := none }
def k1c1 : Code := { maxStack := 2, maxLocals := 1, code := method_2_code, exceptionTable := #[], attributes := #[] }
def k1m1 : Method := { name := "pick", desc := "(I)Lcom/example/haltwright/haltwright/core/ir/Instruction$Predicate;", sig := { parameters := [.int], returnType := some (.object "com/example/haltwright/haltwright/core/ir/Instruction$Predicate") }, accessFlags := 10, code := some k1c1 }
def k1c2 : Code := { maxStack := 2, maxLocals := 4, code := code, exceptionTable := #[], attributes := #[] }
def k1m2 : Method := { name := "law", desc := "(I)Z", sig := { parameters := [.int], returnType := some .boolean }, accessFlags := 9, code := some k1c2 }
/-- com/example/haltwright/haltwright/core/ir/PredicateIsUnsignedPinLaw -/
def k1 : Class := { plain "com/example/haltwright/haltwright/core/ir/PredicateIsUnsignedPinLaw" (some 0) with
  accessFlags := 49
  interfaces := #[]
  cf := some (fileOf pool1 42 #[] #[{ accessFlags := 1, nameIndex := 5, descriptorIndex := 6, attributes := #[] }, { accessFlags := 10, nameIndex := 45, descriptorIndex := 46, attributes := #[] }, { accessFlags := 9, nameIndex := 54, descriptorIndex := 55, attributes := #[] }] 49 2 #[] #[])
  fields := #[]
  methods := #[k1m0, k1m1, k1m2]
  instanceTypes := #[]
  staticTypes := #[]
  resolved := Array.replicate 62 none
  statics := none }

def pool2 : Array CpInfo := pool [(1, .class_ 2), (0, u "java/lang/constant/Constable"), (0, .class_ 4), (0, u "java/lang/Object")] 6

/-- java/lang/constant/Constable -/
def k2 : Class := { plain "java/lang/constant/Constable" (some 0) with
  accessFlags := 1537
  interfaces := #[]
  cf := some (fileOf pool2 1 #[] #[] 1537 3 #[] #[])
  fields := #[]
  methods := #[]
  instanceTypes := #[]
  staticTypes := #[]
  resolved := Array.replicate 11 none
  statics := none }

def pool3 : Array CpInfo := pool [(1, .class_ 2), (0, u "java/lang/Comparable"), (0, .class_ 4), (0, u "java/lang/Object")] 7

/-- java/lang/Comparable -/
def k3 : Class := { plain "java/lang/Comparable" (some 0) with
  accessFlags := 1537
  interfaces := #[]
  cf := some (fileOf pool3 1 #[] #[] 1537 3 #[] #[])
  fields := #[]
  methods := #[]
  instanceTypes := #[]
  staticTypes := #[]
  resolved := Array.replicate 12 none
  statics := none }

def pool4 : Array CpInfo := pool [(1, .class_ 2), (0, u "java/io/Serializable"), (0, .class_ 4), (0, u "java/lang/Object")] 2

/-- java/io/Serializable -/
def k4 : Class := { plain "java/io/Serializable" (some 0) with
  accessFlags := 1537
  interfaces := #[]
  cf := some (fileOf pool4 1 #[] #[] 1537 3 #[] #[])
  fields := #[]
  methods := #[]
  instanceTypes := #[]
  staticTypes := #[]
  resolved := Array.replicate 7 none
  statics := none }

def pool5 : Array CpInfo := pool [(2, .class_ 4), (1, u "java/lang/Enum"), (0, u "name"), (0, u "Ljava/lang/String;"), (2, u "ordinal"), (0, u "I"), (1, .class_ 14), (1, u "java/lang/Object"), (4, u "hash"), (86, .class_ 108), (1, u "java/lang/Enum$EnumDesc"), (2, .class_ 112), (0, u "java/lang/constant/Constable"), (0, .class_ 114), (0, u "java/lang/Comparable"), (0, .class_ 116), (0, u "java/io/Serializable")] 87

/-- java/lang/Enum -/
def k5 : Class := { plain "java/lang/Enum" (some 0) with
  accessFlags := 1057
  interfaces := #[2, 3, 4]
  cf := some (fileOf pool5 2 #[.nestMembers #[106]] #[] 1057 12 #[111, 113, 115] #[{ accessFlags := 18, nameIndex := 5, descriptorIndex := 6, attributes := #[] }, { accessFlags := 18, nameIndex := 9, descriptorIndex := 10, attributes := #[] }, { accessFlags := 2, nameIndex := 19, descriptorIndex := 10, attributes := #[] }])
  fields := #[{ name := "name", type := (.object "java/lang/String"), accessFlags := 18, slot := 0, constantValue := 0 }, { name := "ordinal", type := .int, accessFlags := 18, slot := 1, constantValue := 0 }, { name := "hash", type := .int, accessFlags := 2, slot := 2, constantValue := 0 }]
  methods := #[]
  instanceTypes := #[(.object "java/lang/String"), .int, .int]
  staticTypes := #[]
  resolved := Array.replicate 204 none
  statics := none }

def pool6 : Array CpInfo := pool [(1, .class_ 2), (0, u "com/example/haltwright/haltwright/core/ir/Instruction$Predicate"), (2, u "EQ"), (0, u "Lcom/example/haltwright/haltwright/core/ir/Instruction$Predicate;"), (2, u "NE"), (0, .fieldref 1 11), (0, .nameAndType 12 6), (0, u "UGT"), (0, .fieldref 1 14), (0, .nameAndType 15 6), (0, u "UGE"), (0, .fieldref 1 17), (0, .nameAndType 18 6), (0, u "ULT"), (0, .fieldref 1 20), (0, .nameAndType 21 6), (0, u "ULE"), (2, u "SGT"), (2, u "SGE"), (2, u "SLT"), (2, u "SLE"), (2, u "$VALUES"), (0, u "[Lcom/example/haltwright/haltwright/core/ir/Instruction$Predicate;"), (6, .class_ 46), (1, u "java/lang/Enum"), (45, u "isUnsigned"), (0, u "()Z"), (6, .class_ 101), (0, u "com/example/haltwright/haltwright/core/ir/Instruction")] 2

def k6c0 : Code := { maxStack := 2, maxLocals := 1, code := prog_42_method_5_code, exceptionTable := #[], attributes := #[] }
def k6m0 : Method := { name := "isUnsigned", desc := "()Z", sig := { parameters := [], returnType := some .boolean }, accessFlags := 1, code := some k6c0 }
/-- com/example/haltwright/haltwright/core/ir/Instruction$Predicate -/
def k6 : Class := { plain "com/example/haltwright/haltwright/core/ir/Instruction$Predicate" (some 5) with
  accessFlags := 16433
  interfaces := #[]
  cf := some (fileOf pool6 1 #[.nestHost 100] #[{ accessFlags := 1, nameIndex := 92, descriptorIndex := 93, attributes := #[] }] 16433 44 #[] #[{ accessFlags := 16409, nameIndex := 5, descriptorIndex := 6, attributes := #[] }, { accessFlags := 16409, nameIndex := 9, descriptorIndex := 6, attributes := #[] }, { accessFlags := 16409, nameIndex := 12, descriptorIndex := 6, attributes := #[] }, { accessFlags := 16409, nameIndex := 15, descriptorIndex := 6, attributes := #[] }, { accessFlags := 16409, nameIndex := 18, descriptorIndex := 6, attributes := #[] }, { accessFlags := 16409, nameIndex := 21, descriptorIndex := 6, attributes := #[] }, { accessFlags := 16409, nameIndex := 24, descriptorIndex := 6, attributes := #[] }, { accessFlags := 16409, nameIndex := 27, descriptorIndex := 6, attributes := #[] }, { accessFlags := 16409, nameIndex := 30, descriptorIndex := 6, attributes := #[] }, { accessFlags := 16409, nameIndex := 33, descriptorIndex := 6, attributes := #[] }, { accessFlags := 4122, nameIndex := 36, descriptorIndex := 37, attributes := #[] }])
  fields := #[{ name := "EQ", type := (.object "com/example/haltwright/haltwright/core/ir/Instruction$Predicate"), accessFlags := 16409, slot := 0, constantValue := 0 }, { name := "NE", type := (.object "com/example/haltwright/haltwright/core/ir/Instruction$Predicate"), accessFlags := 16409, slot := 1, constantValue := 0 }, { name := "UGT", type := (.object "com/example/haltwright/haltwright/core/ir/Instruction$Predicate"), accessFlags := 16409, slot := 2, constantValue := 0 }, { name := "UGE", type := (.object "com/example/haltwright/haltwright/core/ir/Instruction$Predicate"), accessFlags := 16409, slot := 3, constantValue := 0 }, { name := "ULT", type := (.object "com/example/haltwright/haltwright/core/ir/Instruction$Predicate"), accessFlags := 16409, slot := 4, constantValue := 0 }, { name := "ULE", type := (.object "com/example/haltwright/haltwright/core/ir/Instruction$Predicate"), accessFlags := 16409, slot := 5, constantValue := 0 }, { name := "SGT", type := (.object "com/example/haltwright/haltwright/core/ir/Instruction$Predicate"), accessFlags := 16409, slot := 6, constantValue := 0 }, { name := "SGE", type := (.object "com/example/haltwright/haltwright/core/ir/Instruction$Predicate"), accessFlags := 16409, slot := 7, constantValue := 0 }, { name := "SLT", type := (.object "com/example/haltwright/haltwright/core/ir/Instruction$Predicate"), accessFlags := 16409, slot := 8, constantValue := 0 }, { name := "SLE", type := (.object "com/example/haltwright/haltwright/core/ir/Instruction$Predicate"), accessFlags := 16409, slot := 9, constantValue := 0 }, { name := "$VALUES", type := (.array (.object "com/example/haltwright/haltwright/core/ir/Instruction$Predicate")), accessFlags := 4122, slot := 10, constantValue := 0 }]
  methods := #[k6m0]
  instanceTypes := #[(.object "java/lang/String"), .int, .int]
  staticTypes := #[(.object "com/example/haltwright/haltwright/core/ir/Instruction$Predicate"), (.object "com/example/haltwright/haltwright/core/ir/Instruction$Predicate"), (.object "com/example/haltwright/haltwright/core/ir/Instruction$Predicate"), (.object "com/example/haltwright/haltwright/core/ir/Instruction$Predicate"), (.object "com/example/haltwright/haltwright/core/ir/Instruction$Predicate"), (.object "com/example/haltwright/haltwright/core/ir/Instruction$Predicate"), (.object "com/example/haltwright/haltwright/core/ir/Instruction$Predicate"), (.object "com/example/haltwright/haltwright/core/ir/Instruction$Predicate"), (.object "com/example/haltwright/haltwright/core/ir/Instruction$Predicate"), (.object "com/example/haltwright/haltwright/core/ir/Instruction$Predicate"), (.array (.object "com/example/haltwright/haltwright/core/ir/Instruction$Predicate"))]
  resolved := Array.replicate 104 none
  statics := some 0 }

def pool7 : Array CpInfo := pool [(1, u "java/lang/Cloneable"), (0, .class_ 1), (0, u "java/lang/Object"), (0, .class_ 3)] 3

/-- java/lang/Cloneable -/
def k7 : Class := { plain "java/lang/Cloneable" (some 0) with
  accessFlags := 1537
  interfaces := #[]
  cf := some (fileOf pool7 2 #[] #[] 1537 4 #[] #[])
  fields := #[]
  methods := #[]
  instanceTypes := #[]
  staticTypes := #[]
  resolved := Array.replicate 8 none
  statics := none }

/-- the primitive byte -/
def k8 : Class := { plain "byte" none with kind := .primitive 'B', accessFlags := 0x411 }
/-- [B -/
def k9 : Class := { plain "[B" (some 0) with kind := .array 8 .byte, interfaces := #[7, 4], accessFlags := 1041 }

/-- the primitive int -/
def k10 : Class := { plain "int" none with kind := .primitive 'I', accessFlags := 0x411 }
/-- [I -/
def k11 : Class := { plain "[I" (some 0) with kind := .array 10 .int, interfaces := #[7, 4], accessFlags := 1041 }

def heap : Heap := #[{ cls := 6, slots := #[.ref 1, .ref 6, .ref 2, .ref 3, .ref 4, .ref 5, .ref 10, .ref 7, .ref 8, .ref 9, .null], vm := .statics 6 },
  { cls := 6, slots := #[.null, .int 0, .int 0], vm := .none },
  { cls := 6, slots := #[.null, .int 2, .int 0], vm := .none },
  { cls := 6, slots := #[.null, .int 3, .int 0], vm := .none },
  { cls := 6, slots := #[.null, .int 4, .int 0], vm := .none },
  { cls := 6, slots := #[.null, .int 5, .int 0], vm := .none },
  { cls := 6, slots := #[.null, .int 1, .int 0], vm := .none },
  { cls := 6, slots := #[.null, .int 7, .int 0], vm := .none },
  { cls := 6, slots := #[.null, .int 8, .int 0], vm := .none },
  { cls := 6, slots := #[.null, .int 9, .int 0], vm := .none },
  { cls := 6, slots := #[.null, .int 6, .int 0], vm := .none }]
def classes : Array Class := #[k0, k1, k2, k3, k4, k5, k6, k7, k8, k9, k10, k11]
def interned : List (Array UInt16 × Addr) := []
def slotsUsed : Nat := 41
def theMethod : MethodId := ⟨1, 2⟩
def args0 : Array Value := #[.int 5]
def aboutOver (below : List Frame) : State where
  vm := { classes := classes, interned := interned.toArray }
  heap := heap
  slotsUsed := slotsUsed
  threads := #[{ frames := .invoking theMethod args0 :: below }]
def below0 : List Frame := [.native { method := ⟨0, 0⟩, args := #[] }]
def about1 : State := aboutOver below0
def p0 : Program := .bare "" "" ""
def e0 : Env := launch0.env 0 0 0
theorem w_frames : about1.frames = Frame.invoking theMethod args0 :: below0 := rfl
set_option maxRecDepth 65536 in
theorem w_args : argsFit about1.vm theMethod args0 = true := by decide +kernel
set_option maxRecDepth 65536 in
theorem w_heap : heapFits about1 = true := by decide +kernel
set_option maxRecDepth 65536 in
theorem w_runnable : about1.curStatus? = some .runnable := by decide +kernel
set_option maxRecDepth 65536 in
theorem w_alone : about1.alone = true := by decide +kernel
set_option maxRecDepth 65536 in
theorem w_named : about1.methodNamed? x = some theMethod := by decide +kernel
set_option maxRecDepth 65536 in
theorem w_hears : about1.hears theMethod below0 = true := by decide +kernel
set_option maxRecDepth 65536 in
theorem w_ripe : about1.ripe theMethod args0 below0 = true := by decide +kernel
theorem w_running : about1.status = .running := rfl
set_option maxRecDepth 65536 in
theorem w_room : about1.hasRoom e0.platform room_1 = true :=
  launch0.hasRoom_least _ room_1 (by decide +kernel) (by decide +kernel) (by decide +kernel) (by decide +kernel) (by decide +kernel) (by decide +kernel)
theorem allAtoms_all (ts : List Jvm.Cond) (a : Array Jvm.Value) (st : Jvm.State) : (allAtoms ts).before a st = ts.all (fun c => c.before a st) := by
  induction ts with
  | nil => rfl
  | cons c t ih =>
    show (Jvm.Cond.and c (allAtoms t)).before a st = _
    rw [Jvm.Cond.before_and, ih, List.all_cons]
def words1 : List Jvm.Cond := Jvm.Cond.code x code maxLocals ret :: tables_1
/-- a 'code' word, met by the world's own term for the bytes: nothing is compared byte by byte -/
theorem code_word {y : MethodName} {bytes : ByteArray} {mx : Nat} {rt : Option FieldType} {a : Array Value} {s : State} {m : MethodId} {meth : Method} {c : Code} (h1 : s.methodNamed? y = some m) (h2 : s.vm.method? m = some meth) (h3 : meth.code = some c) (h4 : c.code = bytes)
    (h5 : (c.maxLocals == mx && c.exceptionTable.isEmpty && decide (c.maxStack ≤ mostOperands) && decide (meth.sig.returnType = rt) && !meth.locks && decide (parseMethodDescriptor y.desc = some meth.sig)) = true) : (Jvm.Cond.code y bytes mx rt).before a s = true := by
  simp only [Bool.and_eq_true, beq_iff_eq, Bool.not_eq_true', decide_eq_true_eq] at h5
  obtain ⟨⟨⟨⟨⟨g1, g2⟩, g3⟩, g4⟩, g5⟩, g6⟩ := h5
  simp [Cond.before, Cond.holds, Cond.value, h1, h2, h3, h4, g1, g2, g3, g4, g5, g6]
def isCode : Jvm.Cond → Bool
  | .code _ _ _ _ => true
  | _ => false
theorem all_split {L : List Jvm.Cond} {P : Jvm.Cond → Bool} (h1 : L.all (fun c => isCode c || P c) = true) (h2 : ∀ c ∈ L.filter isCode, P c = true) : L.all P = true := by
  refine List.all_eq_true.mpr fun c hc => ?_
  have h := List.all_eq_true.mp h1 c hc
  rcases Bool.eq_false_or_eq_true (isCode c) with hi | hi
  · exact h2 c (List.mem_filter.mpr ⟨hc, hi⟩)
  · simpa [hi] using h
set_option maxRecDepth 65536 in
theorem w_c0 : (Jvm.Cond.code x code maxLocals ret).before args0 about1 = true := code_word (m := ⟨1, 2⟩) (meth := k1m2) (c := k1c2) (by decide +kernel) rfl rfl rfl (by decide +kernel)
set_option maxRecDepth 65536 in
theorem w_c1 : (Jvm.Cond.code ({ cls := "com/example/haltwright/haltwright/core/ir/PredicateIsUnsignedPinLaw", name := "pick", desc := "(I)Lcom/example/haltwright/haltwright/core/ir/Instruction$Predicate;" } : Jvm.MethodName) method_2_code (1 : Nat) (Option.some (Jvm.ClassFile.FieldType.object "com/example/haltwright/haltwright/core/ir/Instruction$Predicate"))).before args0 about1 = true := code_word (m := ⟨1, 1⟩) (meth := k1m1) (c := k1c1) (by decide +kernel) rfl rfl rfl (by decide +kernel)
set_option maxRecDepth 65536 in
theorem w_c2 : (Jvm.Cond.code ({ cls := "com/example/haltwright/haltwright/core/ir/Instruction$Predicate", name := "isUnsigned", desc := "()Z" } : Jvm.MethodName) prog_42_method_5_code (1 : Nat) (Option.some Jvm.ClassFile.FieldType.boolean)).before args0 about1 = true := code_word (m := ⟨6, 0⟩) (meth := k6m0) (c := k6c0) (by decide +kernel) rfl rfl rfl (by decide +kernel)
def codes1 : List Jvm.Cond := [Jvm.Cond.code x code maxLocals ret, Jvm.Cond.code ({ cls := "com/example/haltwright/haltwright/core/ir/PredicateIsUnsignedPinLaw", name := "pick", desc := "(I)Lcom/example/haltwright/haltwright/core/ir/Instruction$Predicate;" } : Jvm.MethodName) method_2_code (1 : Nat) (Option.some (Jvm.ClassFile.FieldType.object "com/example/haltwright/haltwright/core/ir/Instruction$Predicate")), Jvm.Cond.code ({ cls := "com/example/haltwright/haltwright/core/ir/Instruction$Predicate", name := "isUnsigned", desc := "()Z" } : Jvm.MethodName) prog_42_method_5_code (1 : Nat) (Option.some Jvm.ClassFile.FieldType.boolean)]
set_option maxRecDepth 65536 in
theorem codes_eq : words1.filter isCode = codes1 := rfl
theorem w_codes : ∀ c ∈ words1.filter isCode, c.before args0 about1 = true := by
  rw [codes_eq]
  intro c hc
  simp only [codes1, List.mem_cons, List.not_mem_nil, or_false] at hc
  rcases hc with rfl | rfl | rfl
  · exact w_c0
  · exact w_c1
  · exact w_c2
set_option maxRecDepth 65536 in
theorem w_t1 : (words1.take 24).all (fun c => isCode c || c.before args0 about1) = true := by decide +kernel
set_option maxRecDepth 65536 in
theorem w_t2 : (words1.drop 24).all (fun c => isCode c || c.before args0 about1) = true := by decide +kernel
theorem w_tables : (allAtoms (Jvm.Cond.code x code maxLocals ret :: tables_1)).before args0 about1 = true := by
  rw [allAtoms_all]
  show words1.all (fun c => c.before args0 about1) = true
  refine all_split ?_ w_codes
  rw [← List.take_append_drop 24 words1, List.all_append, w_t1, w_t2]
  rfl
set_option maxRecDepth 65536 in
theorem w_case : (Jvm.Cond.and given_1 narrow_1).before args0 about1 = true := by decide +kernel
theorem w_applies : (headSpec (Jvm.Cond.code x code maxLocals ret :: tables_1) room_1).applies x e0.platform about1 = true :=
  (Spec.applies_iff w_frames).mpr ⟨w_running, w_runnable, w_alone, w_named, w_hears, w_ripe, w_room, w_tables⟩
theorem atStart : AtStart classFile x code maxLocals ret World_1 tables_1 room_1 Calls_1 rest_1 Pre_1 launch0 p0 e0 about1 theMethod args0 below0 :=
  ⟨lists_1, trivial, launch0.admits_env _ _ _, launch0.least_env, fairChoices_fair.cas, fairChoices_fair.clock, w_frames, w_args, w_heap, w_applies, trivial, trivial, w_case⟩
end start1
theorem witness_1 : WitnessClaimed_1 := ⟨start1.p0, start1.e0, start1.about1, start1.theMethod, start1.args0, start1.below0, start1.atStart⟩
end Jvm.Pilot.@@N@@
