import JvmDerived
import JvmDerived.Pilot.@@N@@Statement
import JvmDerived.Pilot.@@N@@Code
set_option linter.unusedVariables false
set_option linter.unusedSimpArgs false
namespace Jvm.RoadKit
open Sem ClassFile Op Lib Jvm.Stand Jvm.Free Jvm.LawKit
section New
variable {p : Program} {l : Launch} {e : Env} {R : Room} {s : State} {m : MethodId} {args : Array Value} {below : List Frame} {meth : Method} {c : Code} {T : State} {locs : List Loc} {cells slots : Nat}
theorem retI (X : Stand p l e R s m args below meth c T locs cells slots) (hx : p.tables.exec = Jvm.exec) {pc : Nat} {Ls : Array Slot} {z : Int32} {rest : List Value} (hret : meth.sig.returnType = some .int) (hd : decode c.code pc = .ok (.ireturn, 1)) {fs : List Frame}
    (hl : ∀ (f : JFrame) (acts : List Action), f.method = m → f.locked = none → f.entered = [] → (doReturn e (T.setTop f) acts (some (.int z))).1 = T.setFrames fs) : Steps p.tables e below (T.setTop (mkF m pc Ls (.int z :: rest))) (T.setFrames fs) := by
  have hm' : T.vm.method? m = some meth := X.method'
  have hn : narrow .int (.int z) = .int z := rfl
  show Steps p.tables e below (T.setTop { method := m, pc := pc, locals := Ls, stack := _ :: rest, locked := none }) _
  jvm_step X.here [X.here.top, hx, hd, hm', hret, hn]
  first | (intro acts; rw [hl _ acts rfl rfl rfl]) | rw [hl _ _ rfl rfl rfl]
  exact Steps.refl _
end New
end Jvm.RoadKit
namespace Jvm.Pilot.@@N@@
open Jvm Jvm.ClassFile Sem Op Lib Jvm.Free Jvm.Stand Jvm.LawKit Jvm.RoadKit Bundle Jvm.Pilot.@@N@@.Jvm.D
section OwnKit
/-! The own kit: a walk as one relation 'Rn' on (pc, locals, stack, heap): "from here the body runs to its promise". Each row is a library law read backwards, so that a walk may fork anywhere. -/
abbrev Wk : Type := Program × Env × State × MethodId × Array Value × List Frame × Method × Code
abbrev Wk.p (w : Wk) : Program := w.1
abbrev Wk.e (w : Wk) : Env := w.2.1
abbrev Wk.s (w : Wk) : State := w.2.2.1
abbrev Wk.m (w : Wk) : MethodId := w.2.2.2.1
abbrev Wk.a (w : Wk) : Array Value := w.2.2.2.2.1
abbrev Wk.b (w : Wk) : List Frame := w.2.2.2.2.2.1
abbrev Wk.t (w : Wk) : Method := w.2.2.2.2.2.2.1
abbrev Wk.c (w : Wk) : Code := w.2.2.2.2.2.2.2
/-- the run from (pc, Ls, S) over the heap h, with cs cells and ss slots made so far, ends in Q -/
def Rn (w : Wk) (l : Launch) (R : Room) (n0 : Nat) (Q : Option Value → Heap → Prop) (pc : Nat) (Ls : Array Slot) (S : List Value) (h : Heap) (cs ss : Nat) : Prop :=
  ∀ (T : State) (locs : List Loc), Stand w.p l w.e R w.s w.m w.a w.b w.t w.c T locs cs ss → T.heap = h → Fr n0 locs →
    ∃ s₂ o, Steps w.p.tables w.e w.b (T.setTop (mkF w.m pc Ls S)) s₂ ∧ s₂.status = .running ∧ Ended s₂ w.b o ∧ ∃ v L, o = .returned v ∧ (Fr n0 L ∧ Q v s₂.heap) ∧ FrameEnd w.s o s₂ L R.cells R.slots
/-- what stands throughout the walk of one body -/
def Cx (w : Wk) (Z : State) (a0 : Array Value) (own : String) (bytes : ByteArray) (ml : Nat) (rt : Option FieldType) (nm : String) : Prop :=
  w.p.tables.exec = Jvm.exec ∧ w.c.code = bytes ∧ w.c.maxLocals = ml ∧ w.s.vm.findClass own = some w.m.cls ∧ Z.Warmed39 w.s.vm ∧ w.t.sig.returnType = rt ∧ w.t.locks = false ∧ w.t.name = nm ∧ ∀ d ∈ tables_1, d.before a0 Z = true
/-- a body's contract at the arguments as' over the heap h0 -/
def Met (l : Launch) (Z : State) (y : MethodName) (bytes : ByteArray) (ml : Nat) (rt : Option FieldType) (rm : Room) (n0 : Nat) (ws : List Jvm.Cond) (as' : Array Value) (h0 : Heap) (Q : Option Value → Heap → Prop) : Prop :=
  MetFree l y (head1 (Jvm.Cond.code y bytes ml rt :: ws) rm) (fun a U => a = as' ∧ Z.Warmed39 U.vm ∧ U.heap = h0) (fun _ _ _ _ _ => True) (fun _ U o U' => ∃ v L, o = .returned v ∧ (Fr n0 L ∧ Q v U'.heap) ∧ FrameEnd U o U' L rm.cells rm.slots)
variable {w : Wk} {l : Launch} {R : Room} {n0 : Nat} {Q : Option Value → Heap → Prop} {pc q : Nat} {Ls Ls' : Array Slot} {S : List Value} {h : Heap} {cs ss : Nat} {Z : State} {a0 : Array Value} {own : String} {bytes : ByteArray} {ml : Nat} {rt : Option FieldType} {nm : String}
theorem Cx.x (K : Cx w Z a0 own bytes ml rt nm) : w.p.tables.exec = Jvm.exec := K.1
theorem Cx.cd (K : Cx w Z a0 own bytes ml rt nm) : w.c.code = bytes := K.2.1
theorem Cx.mx (K : Cx w Z a0 own bytes ml rt nm) : w.c.maxLocals = ml := K.2.2.1
theorem Cx.ow (K : Cx w Z a0 own bytes ml rt nm) : w.s.vm.findClass own = some w.m.cls := K.2.2.2.1
theorem Cx.z (K : Cx w Z a0 own bytes ml rt nm) : Z.Warmed39 w.s.vm := K.2.2.2.2.1
theorem Cx.ret (K : Cx w Z a0 own bytes ml rt nm) : w.t.sig.returnType = rt := K.2.2.2.2.2.1
theorem Cx.lk (K : Cx w Z a0 own bytes ml rt nm) : w.t.locks = false := K.2.2.2.2.2.2.1
theorem Cx.nme (K : Cx w Z a0 own bytes ml rt nm) : w.t.name = nm := K.2.2.2.2.2.2.2.1
theorem Cx.hw (K : Cx w Z a0 own bytes ml rt nm) : ∀ d ∈ tables_1, d.before a0 Z = true := K.2.2.2.2.2.2.2.2
theorem Met.intro {y : MethodName} {as' : Array Value} {h0 : Heap} {rm : Room} {ws : List Jvm.Cond} (hp : plainFor y = true) (hw : ∀ d ∈ tables_1, d.before a0 Z = true) (ef : ∀ m, entryFrame m as' ml = mkF m 0 Ls [])
    (k : ∀ w : Wk, Cx w Z a0 y.cls bytes ml rt y.name → Rn w l rm n0 Q 0 Ls [] h0 0 0) : Met l Z y bytes ml rt rm n0 ws as' h0 Q := by
  refine MetFree.of_bodySF hp hisR ?_
  intro p e s m args below meth c s₁ Bd hml0 hP hK
  obtain ⟨ha, hZ, hh⟩ := hP
  subst ha
  have e0 : s₁.heap = h0 := by rw [← hh, Bd.state]; rfl
  obtain ⟨s₂, o, h1, h2, h3, h4⟩ := k (p, e, s, m, args, below, meth, c) ⟨Bd.exec, Bd.bytes, hml0, findClass_of_methodNamed Bd.named, hZ, Bd.returns, Bd.notSynchronized, (name_of_methodNamed Bd.named Bd.method).1, hw⟩ s₁ [] (Stand.of_body Bd) e0 (Fr.nil n0)
  exact ⟨s₂, o, castTop (ef m) h1, h2, h3, h4⟩
theorem Rn.step {S' : List Value} (st : ∀ (T : State) (locs : List Loc), Stand w.p l w.e R w.s w.m w.a w.b w.t w.c T locs cs ss → ∀ t, Steps w.p.tables w.e w.b (T.setTop (mkF w.m q Ls' S')) t → Steps w.p.tables w.e w.b (T.setTop (mkF w.m pc Ls S)) t)
    (k : Rn w l R n0 Q q Ls' S' h cs ss) : Rn w l R n0 Q pc Ls S h cs ss := fun T locs X eT N => by
  obtain ⟨s₂, o, h1, r⟩ := k T locs X eT N
  exact ⟨s₂, o, st T locs X _ h1, r⟩
/-! plain steps -/
theorem Rn.iloadN (K : Cx w Z a0 own bytes ml rt nm) {k : Fin 4} {v : Int32} (hd : decode bytes pc = .ok (.iload_n k, 1)) (hl : Ls[k.val]? = some (.val (.int v))) (hq : pc + 1 = q) (r : Rn w l R n0 Q q Ls (.int v :: S) h cs ss) : Rn w l R n0 Q pc Ls S h cs ss := by
  subst hq; exact Rn.step (fun T locs X t k => XS.iloadN X.here K.x rfl (hb K.cd hd) hl k) r
theorem Rn.iload (K : Cx w Z a0 own bytes ml rt nm) {k : Nat} {v : Int32} (hd : decode bytes pc = .ok (.iload k, 2)) (hl : Ls[k]? = some (.val (.int v))) (hq : pc + 2 = q) (r : Rn w l R n0 Q q Ls (.int v :: S) h cs ss) : Rn w l R n0 Q pc Ls S h cs ss := by
  subst hq; exact Rn.step (fun T locs X t k => XS.iload X.here K.x rfl (hb K.cd hd) hl k) r
theorem Rn.lloadN (K : Cx w Z a0 own bytes ml rt nm) {k : Fin 4} {v : Int64} (hd : decode bytes pc = .ok (.lload_n k, 1)) (hl : Ls[k.val]? = some (.val (.long v))) (hq : pc + 1 = q) (r : Rn w l R n0 Q q Ls (.long v :: S) h cs ss) : Rn w l R n0 Q pc Ls S h cs ss := by
  subst hq; exact Rn.step (fun T locs X t k => XS.lloadN X.here K.x rfl (hb K.cd hd) hl k) r
theorem Rn.lload (K : Cx w Z a0 own bytes ml rt nm) {k : Nat} {v : Int64} (hd : decode bytes pc = .ok (.lload k, 2)) (hl : Ls[k]? = some (.val (.long v))) (hq : pc + 2 = q) (r : Rn w l R n0 Q q Ls (.long v :: S) h cs ss) : Rn w l R n0 Q pc Ls S h cs ss := by
  subst hq; exact Rn.step (fun T locs X t k => XS.lload X.here K.x rfl (hb K.cd hd) hl k) r
theorem Rn.aloadN (K : Cx w Z a0 own bytes ml rt nm) {k : Fin 4} {v : Value} (hd : decode bytes pc = .ok (.aload_n k, 1)) (hl : Ls[k.val]? = some (.val v)) (hv : v.isRef = true) (hq : pc + 1 = q) (r : Rn w l R n0 Q q Ls (v :: S) h cs ss) : Rn w l R n0 Q pc Ls S h cs ss := by
  subst hq; exact Rn.step (fun T locs X t k => XS.aloadN X.here K.x rfl (hb K.cd hd) hl hv k) r
theorem Rn.aload (K : Cx w Z a0 own bytes ml rt nm) {k : Nat} {v : Value} (hd : decode bytes pc = .ok (.aload k, 2)) (hl : Ls[k]? = some (.val v)) (hv : v.isRef = true) (hq : pc + 2 = q) (r : Rn w l R n0 Q q Ls (v :: S) h cs ss) : Rn w l R n0 Q pc Ls S h cs ss := by
  subst hq; exact Rn.step (fun T locs X t k => XS.aload X.here K.x rfl (hb K.cd hd) hl hv k) r
theorem Rn.istoreN (K : Cx w Z a0 own bytes ml rt nm) {k : Fin 4} {v : Int32} (hd : decode bytes pc = .ok (.istore_n k, 1)) (hl : storeLocals Ls k.val (.int v) = some Ls') (hq : pc + 1 = q) (r : Rn w l R n0 Q q Ls' S h cs ss) : Rn w l R n0 Q pc Ls (.int v :: S) h cs ss := by
  subst hq; exact Rn.step (fun T locs X t k => XS.istoreN X.here K.x rfl (hb K.cd hd) rfl hl k) r
theorem Rn.istore (K : Cx w Z a0 own bytes ml rt nm) {k : Nat} {v : Int32} (hd : decode bytes pc = .ok (.istore k, 2)) (hl : storeLocals Ls k (.int v) = some Ls') (hq : pc + 2 = q) (r : Rn w l R n0 Q q Ls' S h cs ss) : Rn w l R n0 Q pc Ls (.int v :: S) h cs ss := by
  subst hq; exact Rn.step (fun T locs X t k => XS.istore X.here K.x rfl (hb K.cd hd) rfl hl k) r
theorem Rn.lstoreN (K : Cx w Z a0 own bytes ml rt nm) {k : Fin 4} {v : Int64} (hd : decode bytes pc = .ok (.lstore_n k, 1)) (hl : storeLocals Ls k.val (.long v) = some Ls') (hq : pc + 1 = q) (r : Rn w l R n0 Q q Ls' S h cs ss) : Rn w l R n0 Q pc Ls (.long v :: S) h cs ss := by
  subst hq; exact Rn.step (fun T locs X t k => XS.lstoreN X.here K.x rfl (hb K.cd hd) rfl hl k) r
theorem Rn.lstore (K : Cx w Z a0 own bytes ml rt nm) {k : Nat} {v : Int64} (hd : decode bytes pc = .ok (.lstore k, 2)) (hl : storeLocals Ls k (.long v) = some Ls') (hq : pc + 2 = q) (r : Rn w l R n0 Q q Ls' S h cs ss) : Rn w l R n0 Q pc Ls (.long v :: S) h cs ss := by
  subst hq; exact Rn.step (fun T locs X t k => XS.lstore X.here K.x rfl (hb K.cd hd) rfl hl k) r
theorem Rn.astoreN (K : Cx w Z a0 own bytes ml rt nm) {k : Fin 4} {v : Value} (hd : decode bytes pc = .ok (.astore_n k, 1)) (hv : v.isRef = true) (hl : storeLocals Ls k.val v = some Ls') (hq : pc + 1 = q) (r : Rn w l R n0 Q q Ls' S h cs ss) : Rn w l R n0 Q pc Ls (v :: S) h cs ss := by
  subst hq; exact Rn.step (fun T locs X t k => XS.astoreN X.here K.x rfl (hb K.cd hd) rfl hv hl k) r
theorem Rn.astore (K : Cx w Z a0 own bytes ml rt nm) {k : Nat} {v : Value} (hd : decode bytes pc = .ok (.astore k, 2)) (hv : v.isRef = true) (hl : storeLocals Ls k v = some Ls') (hq : pc + 2 = q) (r : Rn w l R n0 Q q Ls' S h cs ss) : Rn w l R n0 Q pc Ls (v :: S) h cs ss := by
  subst hq; exact Rn.step (fun T locs X t k => XS.astore X.here K.x rfl (hb K.cd hd) rfl hv hl k) r
theorem Rn.iconst (K : Cx w Z a0 own bytes ml rt nm) {i : Int} (v : Int32) (hd : decode bytes pc = .ok (.iconst i, 1)) (hv : Int32.ofInt i = v) (hq : pc + 1 = q) (r : Rn w l R n0 Q q Ls (.int v :: S) h cs ss) : Rn w l R n0 Q pc Ls S h cs ss := by
  subst hq hv; exact Rn.step (fun T locs X t k => XS.iconst X.here K.x rfl (hb K.cd hd) k) r
theorem Rn.bipush (K : Cx w Z a0 own bytes ml rt nm) {i : Int} (v : Int32) (hd : decode bytes pc = .ok (.bipush i, 2)) (hv : (Int8.ofInt i).toInt32 = v) (hq : pc + 2 = q) (r : Rn w l R n0 Q q Ls (.int v :: S) h cs ss) : Rn w l R n0 Q pc Ls S h cs ss := by
  subst hq hv; exact Rn.step (fun T locs X t k => XS.bipush X.here K.x rfl (hb K.cd hd) k) r
theorem Rn.sipush (K : Cx w Z a0 own bytes ml rt nm) {i : Int} (v : Int32) (hd : decode bytes pc = .ok (.sipush i, 3)) (hv : (Int16.ofInt i).toInt32 = v) (hq : pc + 3 = q) (r : Rn w l R n0 Q q Ls (.int v :: S) h cs ss) : Rn w l R n0 Q pc Ls S h cs ss := by
  subst hq hv; exact Rn.step (fun T locs X t k => XS.sipush X.here K.x rfl (hb K.cd hd) k) r
theorem Rn.lconst (K : Cx w Z a0 own bytes ml rt nm) {i : Fin 2} (v : Int64) (hd : decode bytes pc = .ok (.lconst i, 1)) (hv : Int64.ofNat i = v) (hq : pc + 1 = q) (r : Rn w l R n0 Q q Ls (.long v :: S) h cs ss) : Rn w l R n0 Q pc Ls S h cs ss := by
  subst hq hv; exact Rn.step (fun T locs X t k => XS.lconst X.here K.x rfl (hb K.cd hd) k) r
theorem Rn.aconst_null (K : Cx w Z a0 own bytes ml rt nm) (hd : decode bytes pc = .ok (.aconst_null, 1)) (hq : pc + 1 = q) (r : Rn w l R n0 Q q Ls (.null :: S) h cs ss) : Rn w l R n0 Q pc Ls S h cs ss := by
  subst hq; exact Rn.step (fun T locs X t k => XS.aconstNull X.here K.x rfl (hb K.cd hd) k) r
theorem Rn.ldcI (K : Cx w Z a0 own bytes ml rt nm) {i : Nat} (v : Int32) (hi : Jvm.Cond.constant own i v ∈ tables_1) (hd : decode bytes pc = .ok (.ldc i, 2)) (hq : pc + 2 = q) (r : Rn w l R n0 Q q Ls (.int v :: S) h cs ss) : Rn w l R n0 Q pc Ls S h cs ss := by
  subst hq; exact Rn.step (fun T locs X t k => X.ldcI K.x K.ow (mvT K.z (K.hw _ hi)) rfl (hb K.cd hd) k) r
theorem Rn.ldc2J (K : Cx w Z a0 own bytes ml rt nm) {i : Nat} (v : Int64) (hi : Jvm.Cond.constantLong own i v ∈ tables_1) (hd : decode bytes pc = .ok (.ldc2_w i, 3)) (hq : pc + 3 = q) (r : Rn w l R n0 Q q Ls (.long v :: S) h cs ss) : Rn w l R n0 Q pc Ls S h cs ss := by
  subst hq; exact Rn.step (fun T locs X t k => X.ldc2J K.x K.ow (mvT K.z (K.hw _ hi)) rfl (hb K.cd hd) k) r
theorem Rn.iadd (K : Cx w Z a0 own bytes ml rt nm) {x y : Int32} (hd : decode bytes pc = .ok (.iadd, 1)) (hq : pc + 1 = q) (r : Rn w l R n0 Q q Ls (.int (x + y) :: S) h cs ss) : Rn w l R n0 Q pc Ls (.int y :: .int x :: S) h cs ss := by
  subst hq; exact Rn.step (fun T locs X t k => XS.iadd X.here K.x rfl (hb K.cd hd) rfl k) r
theorem Rn.isub (K : Cx w Z a0 own bytes ml rt nm) {x y : Int32} (hd : decode bytes pc = .ok (.isub, 1)) (hq : pc + 1 = q) (r : Rn w l R n0 Q q Ls (.int (x - y) :: S) h cs ss) : Rn w l R n0 Q pc Ls (.int y :: .int x :: S) h cs ss := by
  subst hq; exact Rn.step (fun T locs X t k => XS.isub X.here K.x rfl (hb K.cd hd) rfl k) r
theorem Rn.imul (K : Cx w Z a0 own bytes ml rt nm) {x y : Int32} (hd : decode bytes pc = .ok (.imul, 1)) (hq : pc + 1 = q) (r : Rn w l R n0 Q q Ls (.int (x * y) :: S) h cs ss) : Rn w l R n0 Q pc Ls (.int y :: .int x :: S) h cs ss := by
  subst hq; exact Rn.step (fun T locs X t k => XS.imul X.here K.x rfl (hb K.cd hd) rfl k) r
theorem Rn.iand (K : Cx w Z a0 own bytes ml rt nm) {x y : Int32} (hd : decode bytes pc = .ok (.iand, 1)) (hq : pc + 1 = q) (r : Rn w l R n0 Q q Ls (.int (x &&& y) :: S) h cs ss) : Rn w l R n0 Q pc Ls (.int y :: .int x :: S) h cs ss := by
  subst hq; exact Rn.step (fun T locs X t k => XS.iand X.here K.x rfl (hb K.cd hd) rfl k) r
theorem Rn.ior (K : Cx w Z a0 own bytes ml rt nm) {x y : Int32} (hd : decode bytes pc = .ok (.ior, 1)) (hq : pc + 1 = q) (r : Rn w l R n0 Q q Ls (.int (x ||| y) :: S) h cs ss) : Rn w l R n0 Q pc Ls (.int y :: .int x :: S) h cs ss := by
  subst hq; exact Rn.step (fun T locs X t k => XS.ior X.here K.x rfl (hb K.cd hd) rfl k) r
theorem Rn.iushr (K : Cx w Z a0 own bytes ml rt nm) {x y : Int32} (hd : decode bytes pc = .ok (.iushr, 1)) (hq : pc + 1 = q) (r : Rn w l R n0 Q q Ls (.int ((x.toUInt32 >>> (y &&& 31).toUInt32).toInt32) :: S) h cs ss) : Rn w l R n0 Q pc Ls (.int y :: .int x :: S) h cs ss := by
  subst hq; exact Rn.step (fun T locs X t k => XS.iushr X.here K.x rfl (hb K.cd hd) rfl k) r
theorem Rn.ishr (K : Cx w Z a0 own bytes ml rt nm) {x y : Int32} (hd : decode bytes pc = .ok (.ishr, 1)) (hq : pc + 1 = q) (r : Rn w l R n0 Q q Ls (.int (x >>> (y &&& 31)) :: S) h cs ss) : Rn w l R n0 Q pc Ls (.int y :: .int x :: S) h cs ss := by
  subst hq; exact Rn.step (fun T locs X t k => XS.ishr X.here K.x rfl (hb K.cd hd) rfl k) r
theorem Rn.irem (K : Cx w Z a0 own bytes ml rt nm) {x y : Int32} (hd : decode bytes pc = .ok (.irem, 1)) (hy : y ≠ 0) (hq : pc + 1 = q) (r : Rn w l R n0 Q q Ls (.int (x % y) :: S) h cs ss) : Rn w l R n0 Q pc Ls (.int y :: .int x :: S) h cs ss := by
  subst hq; exact Rn.step (fun T locs X t k => iremM X K.x rfl (hb K.cd hd) rfl hy k) r
theorem Rn.land (K : Cx w Z a0 own bytes ml rt nm) {x y : Int64} (hd : decode bytes pc = .ok (.land, 1)) (hq : pc + 1 = q) (r : Rn w l R n0 Q q Ls (.long (x &&& y) :: S) h cs ss) : Rn w l R n0 Q pc Ls (.long y :: .long x :: S) h cs ss := by
  subst hq; exact Rn.step (fun T locs X t k => XS.land X.here K.x rfl (hb K.cd hd) rfl k) r
theorem Rn.lmul (K : Cx w Z a0 own bytes ml rt nm) {x y : Int64} (hd : decode bytes pc = .ok (.lmul, 1)) (hq : pc + 1 = q) (r : Rn w l R n0 Q q Ls (.long (x * y) :: S) h cs ss) : Rn w l R n0 Q pc Ls (.long y :: .long x :: S) h cs ss := by
  subst hq; exact Rn.step (fun T locs X t k => XS.lmul X.here K.x rfl (hb K.cd hd) rfl k) r
theorem Rn.lneg (K : Cx w Z a0 own bytes ml rt nm) {x : Int64} (hd : decode bytes pc = .ok (.lneg, 1)) (hq : pc + 1 = q) (r : Rn w l R n0 Q q Ls (.long (-x) :: S) h cs ss) : Rn w l R n0 Q pc Ls (.long x :: S) h cs ss := by
  subst hq; exact Rn.step (fun T locs X t k => XS.lneg X.here K.x rfl (hb K.cd hd) rfl k) r
theorem Rn.lcmp (K : Cx w Z a0 own bytes ml rt nm) {x y : Int64} (hd : decode bytes pc = .ok (.lcmp, 1)) (hq : pc + 1 = q) (r : Rn w l R n0 Q q Ls (.int (lcmpW x y) :: S) h cs ss) : Rn w l R n0 Q pc Ls (.long y :: .long x :: S) h cs ss := by
  subst hq; exact Rn.step (fun T locs X t k => XS.lcmp X.here K.x rfl (hb K.cd hd) rfl k) r
theorem Rn.i2l (K : Cx w Z a0 own bytes ml rt nm) {x : Int32} (hd : decode bytes pc = .ok (.i2l, 1)) (hq : pc + 1 = q) (r : Rn w l R n0 Q q Ls (.long x.toInt64 :: S) h cs ss) : Rn w l R n0 Q pc Ls (.int x :: S) h cs ss := by
  subst hq; exact Rn.step (fun T locs X t k => XS.i2l X.here K.x rfl (hb K.cd hd) rfl k) r
theorem Rn.i2c (K : Cx w Z a0 own bytes ml rt nm) {x : Int32} (hd : decode bytes pc = .ok (.i2c, 1)) (hq : pc + 1 = q) (r : Rn w l R n0 Q q Ls (.int x.toUInt32.toUInt16.toUInt32.toInt32 :: S) h cs ss) : Rn w l R n0 Q pc Ls (.int x :: S) h cs ss := by
  subst hq; exact Rn.step (fun T locs X t k => XS.i2c X.here K.x rfl (hb K.cd hd) rfl k) r
theorem Rn.dup (K : Cx w Z a0 own bytes ml rt nm) {x : Value} (hd : decode bytes pc = .ok (.dup, 1)) (hc : x.category = 1) (hq : pc + 1 = q) (r : Rn w l R n0 Q q Ls (x :: x :: S) h cs ss) : Rn w l R n0 Q pc Ls (x :: S) h cs ss := by
  subst hq; exact Rn.step (fun T locs X t k => XS.dup X.here K.x rfl (hb K.cd hd) rfl hc k) r
theorem Rn.pop (K : Cx w Z a0 own bytes ml rt nm) {x : Value} (hd : decode bytes pc = .ok (.pop, 1)) (hc : x.category = 1) (hq : pc + 1 = q) (r : Rn w l R n0 Q q Ls S h cs ss) : Rn w l R n0 Q pc Ls (x :: S) h cs ss := by
  subst hq; exact Rn.step (fun T locs X t k => XS.pop X.here K.x rfl (hb K.cd hd) rfl hc k) r
theorem Rn.dup_x1 (K : Cx w Z a0 own bytes ml rt nm) {x y : Value} (hd : decode bytes pc = .ok (.dup_x1, 1)) (hc : x.category = 1) (hc' : y.category = 1) (hq : pc + 1 = q) (r : Rn w l R n0 Q q Ls (x :: y :: x :: S) h cs ss) : Rn w l R n0 Q pc Ls (x :: y :: S) h cs ss := by
  subst hq; exact Rn.step (fun T locs X t k => XS.dupX1 X.here K.x rfl (hb K.cd hd) rfl hc hc' k) r
theorem Rn.dup2L (K : Cx w Z a0 own bytes ml rt nm) {x : Int64} (hd : decode bytes pc = .ok (.dup2, 1)) (hq : pc + 1 = q) (r : Rn w l R n0 Q q Ls (.long x :: .long x :: S) h cs ss) : Rn w l R n0 Q pc Ls (.long x :: S) h cs ss := by
  subst hq; exact Rn.step (fun T locs X t k => XT.dup2L X.here K.x rfl (hb K.cd hd) rfl k) r
theorem Rn.iinc (K : Cx w Z a0 own bytes ml rt nm) {k : Nat} {i : Int} {x : Int32} (v : Int32) (hd : decode bytes pc = .ok (.iinc k i, 3)) (hv : Int32.ofInt i = v) (hl : Ls[k]? = some (.val (.int x))) (hl' : storeLocals Ls k (.int (x + v)) = some Ls') (hq : pc + 3 = q) (r : Rn w l R n0 Q q Ls' S h cs ss) : Rn w l R n0 Q pc Ls S h cs ss := by
  subst hq hv; exact Rn.step (fun T locs X t k => XS.iinc X.here K.x rfl (hb K.cd hd) hl hl' k) r
theorem Rn.goto (K : Cx w Z a0 own bytes ml rt nm) {o : Int} (hd : decode bytes pc = .ok (.goto o, 3)) (ho : 0 ≤ (pc : Int) + o) (hq : ((pc : Int) + o).toNat = q) (r : Rn w l R n0 Q q Ls S h cs ss) : Rn w l R n0 Q pc Ls S h cs ss :=
  Rn.step (fun T locs X t k => XS.goto X.here K.x rfl rfl (hb K.cd hd) ho hq k) r
theorem Rn.ifY (K : Cx w Z a0 own bytes ml rt nm) {cd : ClassFile.Cond} {x : Int32} {o : Int} (hd : decode bytes pc = .ok (.ifCond cd o, 3)) (hc : ifCond.holds cd x = true) (ho : 0 ≤ (pc : Int) + o) (hq : ((pc : Int) + o).toNat = q) (r : Rn w l R n0 Q q Ls S h cs ss) : Rn w l R n0 Q pc Ls (.int x :: S) h cs ss :=
  Rn.step (fun T locs X t k => XS.ifYes X.here K.x rfl rfl (hb K.cd hd) rfl hc ho hq k) r
theorem Rn.ifN (K : Cx w Z a0 own bytes ml rt nm) {cd : ClassFile.Cond} {x : Int32} {o : Int} (hd : decode bytes pc = .ok (.ifCond cd o, 3)) (hc : ifCond.holds cd x = false) (hq : pc + 3 = q) (r : Rn w l R n0 Q q Ls S h cs ss) : Rn w l R n0 Q pc Ls (.int x :: S) h cs ss := by
  subst hq; exact Rn.step (fun T locs X t k => XS.ifNo X.here K.x rfl (hb K.cd hd) rfl hc k) r
theorem Rn.icY (K : Cx w Z a0 own bytes ml rt nm) {cd : ClassFile.Cond} {x y : Int32} {o : Int} (hd : decode bytes pc = .ok (.if_icmp cd o, 3)) (hc : if_icmp.holds cd x y = true) (ho : 0 ≤ (pc : Int) + o) (hq : ((pc : Int) + o).toNat = q) (r : Rn w l R n0 Q q Ls S h cs ss) : Rn w l R n0 Q pc Ls (.int y :: .int x :: S) h cs ss :=
  Rn.step (fun T locs X t k => XS.icmpYes X.here K.x rfl rfl (hb K.cd hd) rfl hc ho hq k) r
theorem Rn.icN (K : Cx w Z a0 own bytes ml rt nm) {cd : ClassFile.Cond} {x y : Int32} {o : Int} (hd : decode bytes pc = .ok (.if_icmp cd o, 3)) (hc : if_icmp.holds cd x y = false) (hq : pc + 3 = q) (r : Rn w l R n0 Q q Ls S h cs ss) : Rn w l R n0 Q pc Ls (.int y :: .int x :: S) h cs ss := by
  subst hq; exact Rn.step (fun T locs X t k => XS.icmpNo X.here K.x rfl (hb K.cd hd) rfl hc k) r
theorem Rn.acY (K : Cx w Z a0 own bytes ml rt nm) {cd : ClassFile.ACond} {x y : Value} {o : Int} (hd : decode bytes pc = .ok (.if_acmp cd o, 3)) (h1 : x.isRef = true) (h2 : y.isRef = true) (hc : XT.acmp cd x y = true) (ho : 0 ≤ (pc : Int) + o) (hq : ((pc : Int) + o).toNat = q) (r : Rn w l R n0 Q q Ls S h cs ss) : Rn w l R n0 Q pc Ls (y :: x :: S) h cs ss :=
  Rn.step (fun T locs X t k => XT.acmpYes X.here K.x rfl rfl (hb K.cd hd) rfl h1 h2 hc ho hq k) r
theorem Rn.acN (K : Cx w Z a0 own bytes ml rt nm) {cd : ClassFile.ACond} {x y : Value} {o : Int} (hd : decode bytes pc = .ok (.if_acmp cd o, 3)) (h1 : x.isRef = true) (h2 : y.isRef = true) (hc : XT.acmp cd x y = false) (hq : pc + 3 = q) (r : Rn w l R n0 Q q Ls S h cs ss) : Rn w l R n0 Q pc Ls (y :: x :: S) h cs ss := by
  subst hq; exact Rn.step (fun T locs X t k => XT.acmpNo X.here K.x rfl (hb K.cd hd) rfl h1 h2 hc k) r
theorem Rn.nullY (K : Cx w Z a0 own bytes ml rt nm) {o : Int} (hd : decode bytes pc = .ok (.ifnull o, 3)) (ho : 0 ≤ (pc : Int) + o) (hq : ((pc : Int) + o).toNat = q) (r : Rn w l R n0 Q q Ls S h cs ss) : Rn w l R n0 Q pc Ls (.null :: S) h cs ss :=
  Rn.step (fun T locs X t k => XS.ifnullYes X.here K.x rfl rfl (hb K.cd hd) rfl ho hq k) r
theorem Rn.nullN (K : Cx w Z a0 own bytes ml rt nm) {o : Int} {b : Addr} (hd : decode bytes pc = .ok (.ifnull o, 3)) (hq : pc + 3 = q) (r : Rn w l R n0 Q q Ls S h cs ss) : Rn w l R n0 Q pc Ls (.ref b :: S) h cs ss := by
  subst hq; exact Rn.step (fun T locs X t k => XS.ifnullNo X.here K.x rfl (hb K.cd hd) rfl k) r
theorem Rn.nonnullY (K : Cx w Z a0 own bytes ml rt nm) {o : Int} {b : Addr} (hd : decode bytes pc = .ok (.ifnonnull o, 3)) (ho : 0 ≤ (pc : Int) + o) (hq : ((pc : Int) + o).toNat = q) (r : Rn w l R n0 Q q Ls S h cs ss) : Rn w l R n0 Q pc Ls (.ref b :: S) h cs ss :=
  Rn.step (fun T locs X t k => XS.ifnonnullYes X.here K.x rfl rfl (hb K.cd hd) rfl ho hq k) r
theorem Rn.nonnullN (K : Cx w Z a0 own bytes ml rt nm) {o : Int} (hd : decode bytes pc = .ok (.ifnonnull o, 3)) (hq : pc + 3 = q) (r : Rn w l R n0 Q q Ls S h cs ss) : Rn w l R n0 Q pc Ls (.null :: S) h cs ss := by
  subst hq; exact Rn.step (fun T locs X t k => XS.ifnonnullNo X.here K.x rfl (hb K.cd hd) rfl k) r
/-! the ends -/
theorem Rn.retN (K : Cx w Z a0 own bytes ml rt nm) {x : Int32} (t : FieldType) (ht : rt = some t) (ht' : t = .boolean ∨ t = .byte ∨ t = .char ∨ t = .short) (hd : decode bytes pc = .ok (.ireturn, 1)) (hc : cs ≤ R.cells) (hs : ss ≤ R.slots) (hQ : Q (some (.int (nar t x))) h) : Rn w l R n0 Q pc Ls (.int x :: S) h cs ss := fun T locs X eT N => by
  obtain ⟨fs, hr, hrun, hended, hW, hsame⟩ := X.leave (v := some (.int (nar t x))) (fun h => by rw [K.ret, ht] at h; cases h) K.lk
  exact ⟨_, _, Jvm.RoadKit.retN X K.x (K.ret.trans ht) ht' (hb K.cd hd) hr, hrun, hended, _, _, rfl, ⟨N, by rw [← eT] at hQ; exact hQ⟩, ⟨_, rfl⟩, hW, hsame.mono hc hs⟩
theorem Rn.retI (K : Cx w Z a0 own bytes ml rt nm) {x : Int32} (ht : rt = some .int) (hd : decode bytes pc = .ok (.ireturn, 1)) (hc : cs ≤ R.cells) (hs : ss ≤ R.slots) (hQ : Q (some (.int x)) h) : Rn w l R n0 Q pc Ls (.int x :: S) h cs ss := fun T locs X eT N => by
  obtain ⟨fs, hr, hrun, hended, hW, hsame⟩ := X.leave (v := some (.int x)) (fun h => by rw [K.ret, ht] at h; cases h) K.lk
  exact ⟨_, _, Jvm.RoadKit.retI X K.x (K.ret.trans ht) (hb K.cd hd) hr, hrun, hended, _, _, rfl, ⟨N, by rw [← eT] at hQ; exact hQ⟩, ⟨_, rfl⟩, hW, hsame.mono hc hs⟩
theorem Rn.retJ (K : Cx w Z a0 own bytes ml rt nm) {x : Int64} (ht : rt = some .long) (hd : decode bytes pc = .ok (.lreturn, 1)) (hc : cs ≤ R.cells) (hs : ss ≤ R.slots) (hQ : Q (some (.long x)) h) : Rn w l R n0 Q pc Ls [.long x] h cs ss := fun T locs X eT N => by
  obtain ⟨fs, hr, hrun, hended, hW, hsame⟩ := X.leave (v := some (.long x)) (fun h => by rw [K.ret, ht] at h; cases h) K.lk
  exact ⟨_, _, X.lreturnOut K.x (K.ret.trans ht) (hb K.cd hd) hr, hrun, hended, _, _, rfl, ⟨N, by rw [← eT] at hQ; exact hQ⟩, ⟨_, rfl⟩, hW, hsame.mono hc hs⟩
theorem Rn.retA (K : Cx w Z a0 own bytes ml rt nm) {v : Value} (t : FieldType) (hv : v.isRef = true) (ht : rt = some t) (ht' : t.isReference = true) (hd : decode bytes pc = .ok (.areturn, 1)) (hc : cs ≤ R.cells) (hs : ss ≤ R.slots) (hQ : Q (some v) h) : Rn w l R n0 Q pc Ls [v] h cs ss := fun T locs X eT N => by
  obtain ⟨fs, hr, hrun, hended, hW, hsame⟩ := X.leave (v := some v) (fun h => by rw [K.ret, ht] at h; cases h) K.lk
  exact ⟨_, _, X.areturnOut K.x hv (K.ret.trans ht) ht' (hb K.cd hd) hr, hrun, hended, _, _, rfl, ⟨N, by rw [← eT] at hQ; exact hQ⟩, ⟨_, rfl⟩, hW, hsame.mono hc hs⟩
theorem Rn.retV (K : Cx w Z a0 own bytes ml rt nm) (ht : rt = none) (hd : decode bytes pc = .ok (.return_, 1)) (hc : cs ≤ R.cells) (hs : ss ≤ R.slots) (hQ : Q none h) : Rn w l R n0 Q pc Ls [] h cs ss := fun T locs X eT N => by
  obtain ⟨fs, hr, hrun, hended, hW, hsame⟩ := X.leave (v := none) (fun _ => rfl) K.lk
  exact ⟨_, _, X.returnOut K.x (K.ret.trans ht) (hb K.cd hd) hr, hrun, hended, _, _, rfl, ⟨N, by rw [← eT] at hQ; exact hQ⟩, ⟨_, rfl⟩, hW, hsame.mono hc hs⟩
/-! fields and statics -/
theorem Rn.getS (K : Cx w Z a0 own bytes ml rt nm) {i : Nat} {C n d : String} {v : Value} (hi : Jvm.Cond.fieldLink own i C n d ∈ tables_1) (F : Sta Z h C n d v) (hd : decode bytes pc = .ok (.getstatic i, 3)) (hq : pc + 3 = q) (r : Rn w l R n0 Q q Ls (v :: S) h cs ss) : Rn w l R n0 Q pc Ls S h cs ss := fun T locs X eT N => by
  subst hq
  obtain ⟨T', X', e', st⟩ := getS2 X K.x K.z K.ow (host := "") (Or.inl (K.hw _ hi)) Via.refl eT F (g := mkF w.m pc Ls S) rfl (hb K.cd hd)
  obtain ⟨s₂, o, h1, r'⟩ := r T' locs X' e' N
  exact ⟨s₂, o, st _ h1, r'⟩
theorem Rn.getF (K : Cx w Z a0 own bytes ml rt nm) {i : Nat} {C O n d : String} {a : Addr} {v : Value} (hi : Jvm.Cond.fieldLink own i C n d ∈ tables_1) (via : Via Z C O n d) (F : Fld Z h a O n d v) (hd : decode bytes pc = .ok (.getfield i, 3)) (hq : pc + 3 = q) (r : Rn w l R n0 Q q Ls (v :: S) h cs ss) : Rn w l R n0 Q pc Ls (.ref a :: S) h cs ss := fun T locs X eT N => by
  subst hq
  obtain ⟨T', X', e', st⟩ := Jvm.RoadKit.getF X K.x K.z K.ow (host := "") (Or.inl (K.hw _ hi)) via eT F (g := mkF w.m pc Ls (.ref a :: S)) rfl rfl (hb K.cd hd)
  obtain ⟨s₂, o, h1, r'⟩ := r T' locs X' e' N
  exact ⟨s₂, o, st _ h1, r'⟩
theorem Rn.putF (K : Cx w Z a0 own bytes ml rt nm) {i kk : Nat} {C0 O n d C : String} {ty : FieldType} {a : Addr} {v v' old : Value} (hi : Jvm.Cond.fieldLink own i C0 n d ∈ tables_1) (via : Via Z C0 O n d) (F : Fld Z h a O n d old) (E : Exa Z h a C)
    (hl : Jvm.Cond.lays C O n d ∈ tables_1 ∨ (Jvm.Cond.laysFinal C O n d ∈ tables_1 ∧ own = O ∧ nm = "<init>")) (hin : Jvm.Cond.instantiable C kk ∈ tables_1) (hty : parseFieldDescriptor d = some ty) (hn : narrow ty v = v') (hf : fits ty v' = true) (hg : n0 ≤ a)
    (hd : decode bytes pc = .ok (.putfield i, 3)) (hq : pc + 3 = q) (r : ∀ h', Wr h h' a (Jvm.RoadKit.slotOf Z O n d) v' → Rn w l R n0 Q q Ls S h' cs ss) : Rn w l R n0 Q pc Ls (v :: .ref a :: S) h cs ss := fun T locs X eT N => by
  subst hq
  obtain ⟨T', h', X', e', W, st⟩ := putFN X K.x K.z K.ow (K.hw _ hi) via eT F E (hl.elim (fun z => Or.inl (K.hw _ z)) (fun z => Or.inr ⟨K.hw _ z.1, z.2.1, K.nme.trans z.2.2⟩)) (K.hw _ hin) hty hn hf (g := mkF w.m pc Ls (v :: .ref a :: S)) rfl rfl (hb K.cd hd)
  obtain ⟨s₂, o, h1, r'⟩ := r h' W T' _ X' e' (Fr.snoc X' N hg)
  exact ⟨s₂, o, st _ h1, r'⟩
/-! making -/
theorem Rn.newO (K : Cx w Z a0 own bytes ml rt nm) {i k : Nat} {C : String} (hi : Jvm.Cond.classLink own i C ∈ tables_1) (hin : Jvm.Cond.instantiable C k ∈ tables_1) (hz : Jvm.Cond.initialized C ∈ tables_1) (hc : cs + 1 ≤ R.cells) (hs : ss + k ≤ R.slots) (hd : decode bytes pc = .ok (.new i, 3)) (hq : pc + 3 = q)
    (r : ∀ b h', b = h.size → Ext h h' → Exa Z h' b C → (∀ {O n d : String} {ty : FieldType}, Laid Z a0 C O n d → parseFieldDescriptor d = some ty → Fld Z h' b O n d (defaultValue ty)) → Rn w l R n0 Q q Ls (.ref b :: S) h' (cs + 1) (ss + k)) : Rn w l R n0 Q pc Ls S h cs ss := fun T locs X eT N => by
  subst hq
  obtain ⟨T', h', X', e', E, A, D, -, st⟩ := Jvm.RoadKit.newO X K.x K.z K.ow (K.hw _ hi) (K.hw _ hin) (K.hw _ hz) eT (g := mkF w.m pc Ls S) rfl (hb K.cd hd) hc hs
  obtain ⟨s₂, o, h1, r'⟩ := r _ h' rfl E A D T' _ X' e' N
  exact ⟨s₂, o, st _ h1, r'⟩
theorem Rn.newP (K : Cx w Z a0 own bytes ml rt nm) {aty : ArrayType} {x : Int32} {cap : Nat} (hi : Jvm.Cond.arrayClass (newarray.typeOf aty) ∈ tables_1) (hn : ¬ x < 0) (hcap : x.toNatClampNeg ≤ cap) (hb8 : cap * 8 ≤ 536870912) (hc : cs + 1 ≤ R.cells) (hs : ss + cap ≤ R.slots) {ad : String} (had : "[" ++ (newarray.typeOf aty).toString = ad) (hd : decode bytes pc = .ok (.newarray aty, 2)) (hq : pc + 2 = q)
    (r : ∀ b h' k, b = h.size → Ext h h' → Arv Z h' b k (newarray.typeOf aty) x [] (defaultValue (newarray.typeOf aty)) → Exa Z h' b ad → Rn w l R n0 Q q Ls (.ref b :: S) h' (cs + 1) (ss + cap)) : Rn w l R n0 Q pc Ls (.int x :: S) h cs ss := fun T locs X eT N => by
  subst hq
  obtain ⟨T', h', k, X', e', E, A, EA, st⟩ := newPE X K.x K.z (K.hw _ hi) eT (g := mkF w.m pc Ls (.int x :: S)) rfl (hb K.cd hd) rfl hn hcap hb8 hc hs had
  obtain ⟨s₂, o, h1, r'⟩ := r _ h' k rfl E (Arv.new A hn) EA T' _ X' e' N
  exact ⟨s₂, o, st _ h1, r'⟩
/-! calls -/
theorem nfs (K : Cx w Z a0 own bytes ml rt nm) {C : String} {y : MethodName} (i : Jvm.Cond.selects C y y ∈ tables_1) : NotFace w.s y := notFace_of_selects (args := #[]) (mvT K.z (K.hw _ i))
theorem Rn.virt (K : Cx w Z a0 own bytes ml rt nm) {index W : Nat} {y z : MethodName} {C : String} {b : Addr} {argsL rest : List Value} {bz : ByteArray} {mz : Nat} {rz : Option FieldType} {rm : Room} {Q' : Option Value → Heap → Prop}
    (i1 : Jvm.Cond.methodLink own index y ∈ tables_1) (i2 : Jvm.Cond.declares y ∈ tables_1) (nf : NotFace w.s y) (i3 : Jvm.Cond.selects C y z ∈ tables_1) (i4 : Jvm.Cond.instanceMethod z ∈ tables_1) (i5 : Jvm.Cond.code z bz mz rz ∈ tables_1) (i6 : Jvm.Cond.initialized z.cls ∈ tables_1)
    (hy : y.cls ≠ "java/lang/invoke/MethodHandle" ∧ y.cls ≠ "java/lang/invoke/VarHandle") (M : Met l Z z bz mz rz rm n0 [] (.ref b :: argsL).toArray h Q') (E : Exa Z h b C) (hf : rm.frames + 1 ≤ R.frames) (hlo : W + (mz + 11) + rm.locals ≤ R.locals)
    (hsz : Ls.size = ml) (hlen : ∀ sig, parseMethodDescriptor y.desc = some sig → argsL.length = sig.parameters.length) (hS : S = argsL.reverse ++ .ref b :: rest) (hW : (rest.map fun v => v.category).sum ≤ W)
    (hd : decode bytes pc = .ok (.invokevirtual index, 3)) (hq : pc + 3 = q) (hc : cs + rm.cells ≤ R.cells) (hs : ss + rm.slots ≤ R.slots)
    (r : ∀ v h', Q' v h' → Rn w l R n0 Q q Ls (v.toList ++ rest) h' (cs + rm.cells) (ss + rm.slots)) : Rn w l R n0 Q pc Ls S h cs ss := fun T locs X eT N => by
  subst hq hS
  obtain ⟨cq, kq, qa, qb, qc⟩ := isOf K.z eT E
  obtain ⟨v, _, ⟨T', L', k', n'⟩, -, X', ⟨Lc, hQ, l', y', z'⟩, st⟩ := X.virtualBack K.x (y := y) (z := z) K.ow (mvT K.z (K.hw _ i1)) (mvT K.z (K.hw _ i2)) nf (mvT K.z (K.hw _ i3)) (mvT K.z (K.hw _ i4)) hy (backOf (Q := fun v h L => Fr n0 L ∧ Q' v h) (W := W) M K.z (K.hw _ i5) (K.hw _ i6) hf hlo) qa qc (g := mkF w.m pc Ls (argsL.reverse ++ .ref b :: rest)) rfl (hsz.trans K.mx.symm) (Steps.refl _) (argsL := argsL) (rest := rest) hlen rfl (by show 2 * 0 + _ ≤ _; rw [Nat.mul_zero, Nat.zero_add]; exact hW) (hb K.cd hd) (fun _ _ => ⟨rfl, eT, hc, hs⟩)
  dsimp only [Pt.U, Pt.locs, Pt.cells, Pt.slots] at X' l' y' z' st hQ
  subst l' y' z'
  obtain ⟨s₂, o, h1, r'⟩ := r v T'.heap hQ.2 T' _ X' rfl (Fr.app N hQ.1)
  exact ⟨s₂, o, st.trans h1, r'⟩
theorem Rn.face (K : Cx w Z a0 own bytes ml rt nm) {index count W : Nat} {y z : MethodName} {C : String} {b : Addr} {argsL rest : List Value} {bz : ByteArray} {mz : Nat} {rz : Option FieldType} {rm : Room} {Q' : Option Value → Heap → Prop}
    (i1 : Jvm.Cond.methodLink own index y ∈ tables_1) (i2 : Jvm.Cond.declares y ∈ tables_1) (i2' : (Jvm.Cond.interfaceMethod y.cls y.cls y.name y.desc).before w.a w.s = true) (i3 : Jvm.Cond.selects C y z ∈ tables_1) (i4 : Jvm.Cond.instanceMethod z ∈ tables_1) (i7 : Jvm.Cond.publicMethod z ∈ tables_1) (i8 : Jvm.Cond.unhidden C y.name y.desc ∈ tables_1) (i9 : Jvm.Cond.castable C y.cls ∈ tables_1) (i5 : Jvm.Cond.code z bz mz rz ∈ tables_1) (i6 : Jvm.Cond.initialized z.cls ∈ tables_1)
    (hy : y.cls ≠ "java/lang/invoke/MethodHandle" ∧ y.cls ≠ "java/lang/invoke/VarHandle") (M : Met l Z z bz mz rz rm n0 [] (.ref b :: argsL).toArray h Q') (E : Exa Z h b C) (hf : rm.frames + 1 ≤ R.frames) (hlo : W + (mz + 11) + rm.locals ≤ R.locals)
    (hsz : Ls.size = ml) (hlen : ∀ sig, parseMethodDescriptor y.desc = some sig → argsL.length = sig.parameters.length) (hS : S = argsL.reverse ++ .ref b :: rest) (hW : (rest.map fun v => v.category).sum ≤ W)
    (hd : decode bytes pc = .ok (.invokeinterface index count, 5)) (hq : pc + 5 = q) (hc : cs + rm.cells ≤ R.cells) (hs : ss + rm.slots ≤ R.slots)
    (r : ∀ v h', Q' v h' → Rn w l R n0 Q q Ls (v.toList ++ rest) h' (cs + rm.cells) (ss + rm.slots)) : Rn w l R n0 Q pc Ls S h cs ss := fun T locs X eT N => by
  subst hq hS
  obtain ⟨cq, kq, qa, qb, qc⟩ := isOf K.z eT E
  obtain ⟨v, _, ⟨T', L', k', n'⟩, -, X', ⟨Lc, hQ, l', y', z'⟩, st⟩ := X.interfaceBack K.x (xi := y) (y := z) K.ow (mvT K.z (K.hw _ i1)) (mvT K.z (K.hw _ i2)) i2' (mvT K.z (K.hw _ i3)) (mvT K.z (K.hw _ i4)) (mvT K.z (K.hw _ i7)) (mvT K.z (K.hw _ i8)) (mvT K.z (K.hw _ i9)) hy (backOf (Q := fun v h L => Fr n0 L ∧ Q' v h) (W := W) M K.z (K.hw _ i5) (K.hw _ i6) hf hlo) qa qb qc (g := mkF w.m pc Ls (argsL.reverse ++ .ref b :: rest)) rfl (hsz.trans K.mx.symm) (Steps.refl _) (argsL := argsL) (rest := rest) hlen rfl (by show 2 * 0 + _ ≤ _; rw [Nat.mul_zero, Nat.zero_add]; exact hW) (hb K.cd hd) (fun _ _ => ⟨rfl, eT, hc, hs⟩)
  dsimp only [Pt.U, Pt.locs, Pt.cells, Pt.slots] at X' l' y' z' st hQ
  subst l' y' z'
  obtain ⟨s₂, o, h1, r'⟩ := r v T'.heap hQ.2 T' _ X' rfl (Fr.app N hQ.1)
  exact ⟨s₂, o, st.trans h1, r'⟩
theorem Rn.stat (K : Cx w Z a0 own bytes ml rt nm) {index W : Nat} {y : MethodName} {argsL rest : List Value} {bz : ByteArray} {mz : Nat} {rz : Option FieldType} {rm : Room} {Q' : Option Value → Heap → Prop}
    (i1 : Jvm.Cond.methodLink own index y ∈ tables_1) (i2 : Jvm.Cond.static y ∈ tables_1) (i5 : Jvm.Cond.code y bz mz rz ∈ tables_1) (i6 : Jvm.Cond.initialized y.cls ∈ tables_1)
    (hy : y.cls ≠ "java/lang/invoke/MethodHandle" ∧ y.cls ≠ "java/lang/invoke/VarHandle") (M : Met l Z y bz mz rz rm n0 [] argsL.toArray h Q') (hf : rm.frames + 1 ≤ R.frames) (hlo : W + (mz + 11) + rm.locals ≤ R.locals)
    (hsz : Ls.size = ml) (hlen : ∀ sig, parseMethodDescriptor y.desc = some sig → argsL.length = sig.parameters.length) (hS : S = argsL.reverse ++ rest) (hW : (rest.map fun v => v.category).sum ≤ W)
    (hd : decode bytes pc = .ok (.invokestatic index, 3)) (hq : pc + 3 = q) (hc : cs + rm.cells ≤ R.cells) (hs : ss + rm.slots ≤ R.slots)
    (r : ∀ v h', Q' v h' → Rn w l R n0 Q q Ls (v.toList ++ rest) h' (cs + rm.cells) (ss + rm.slots)) : Rn w l R n0 Q pc Ls S h cs ss := fun T locs X eT N => by
  subst hq hS
  obtain ⟨v, _, ⟨T', L', k', n'⟩, -, X', ⟨Lc, hQ, l', y', z'⟩, st⟩ := Jvm.LawKit.callS X K.x (y := y) K.ow (mvT K.z (K.hw _ i1)) (mvT K.z (K.hw _ i2)) (mvT K.z (K.hw _ i6)) (mvT K.z (K.hw _ i5)) hy (backOf (Q := fun v h L => Fr n0 L ∧ Q' v h) (W := W) M K.z (K.hw _ i5) (K.hw _ i6) hf hlo) (g := mkF w.m pc Ls (argsL.reverse ++ rest)) rfl (hsz.trans K.mx.symm) (argsL := argsL) (rest := rest) hlen rfl (by show 2 * 0 + _ ≤ _; rw [Nat.mul_zero, Nat.zero_add]; exact hW) (hb K.cd hd) (fun _ _ => ⟨rfl, eT, hc, hs⟩)
  dsimp only [Pt.U, Pt.locs, Pt.cells, Pt.slots] at X' l' y' z' st hQ
  subst l' y' z'
  obtain ⟨s₂, o, h1, r'⟩ := r v T'.heap hQ.2 T' _ X' rfl (Fr.app N hQ.1)
  exact ⟨s₂, o, st _ h1, r'⟩
theorem Rn.spec (K : Cx w Z a0 own bytes ml rt nm) {index W : Nat} {y : MethodName} {b : Addr} {argsL rest : List Value} {bz : ByteArray} {mz : Nat} {rm : Room} {Q' : Option Value → Heap → Prop}
    (hn : y.name = "<init>") (i1 : Jvm.Cond.methodLink own index y ∈ tables_1) (i4 : Jvm.Cond.instanceMethod y ∈ tables_1) (i5 : Jvm.Cond.code y bz mz none ∈ tables_1) (i6 : Jvm.Cond.initialized y.cls ∈ tables_1)
    (hy : y.cls ≠ "java/lang/invoke/MethodHandle" ∧ y.cls ≠ "java/lang/invoke/VarHandle") (M : Met l Z y bz mz none rm n0 [] (.ref b :: argsL).toArray h Q') (hf : rm.frames + 1 ≤ R.frames) (hlo : W + (mz + 11) + rm.locals ≤ R.locals)
    (hsz : Ls.size = ml) (hlen : ∀ sig, parseMethodDescriptor y.desc = some sig → argsL.length = sig.parameters.length) (hS : S = argsL.reverse ++ .ref b :: rest) (hW : (rest.map fun v => v.category).sum ≤ W)
    (hd : decode bytes pc = .ok (.invokespecial index, 3)) (hq : pc + 3 = q) (hc : cs + rm.cells ≤ R.cells) (hs : ss + rm.slots ≤ R.slots)
    (r : ∀ v h', Q' v h' → Rn w l R n0 Q q Ls (v.toList ++ rest) h' (cs + rm.cells) (ss + rm.slots)) : Rn w l R n0 Q pc Ls S h cs ss := fun T locs X eT N => by
  subst hq hS
  obtain ⟨v, _, ⟨T', L', k', n'⟩, -, X', ⟨Lc, hQ, l', y', z'⟩, st⟩ := X.specialBack K.x (y := y) hn K.ow (mvT K.z (K.hw _ i1)) (mvT K.z (K.hw _ i4)) (mvT K.z (K.hw _ i5)) hy (backOf (Q := fun v h L => Fr n0 L ∧ Q' v h) (W := W) M K.z (K.hw _ i5) (K.hw _ i6) hf hlo) (g := mkF w.m pc Ls (argsL.reverse ++ .ref b :: rest)) rfl (hsz.trans K.mx.symm) (Steps.refl _) (a := b) (argsL := argsL) (rest := rest) hlen rfl (by show 2 * 0 + _ ≤ _; rw [Nat.mul_zero, Nat.zero_add]; exact hW) (hb K.cd hd) (fun _ _ => ⟨rfl, eT, hc, hs⟩)
  dsimp only [Pt.U, Pt.locs, Pt.cells, Pt.slots] at X' l' y' z' st hQ
  subst l' y' z'
  obtain ⟨s₂, o, h1, r'⟩ := r v T'.heap hQ.2 T' _ X' rfl (Fr.app N hQ.1)
  exact ⟨s₂, o, st.trans h1, r'⟩
theorem Rn.initO (K : Cx w Z a0 own bytes ml rt nm) {index W : Nat} {b : Addr} (i1 : Jvm.Cond.methodLink own index Lib.objectInit ∈ tables_1) (i4 : Jvm.Cond.instanceMethod Lib.objectInit ∈ tables_1) (i5 : Jvm.Cond.code Lib.objectInit ⟨#[0xb1]⟩ 1 none ∈ tables_1)
    (hf : 1 ≤ R.frames) (hlo : W + 12 ≤ R.locals) (hsz : Ls.size = ml) (hW : (S.map fun v => v.category).sum ≤ W) (hd : decode bytes pc = .ok (.invokespecial index, 3)) (hq : pc + 3 = q) (r : Rn w l R n0 Q q Ls S h cs ss) : Rn w l R n0 Q pc Ls (.ref b :: S) h cs ss := fun T locs X eT N => by
  subst hq
  obtain ⟨T', X', e', st⟩ := Jvm.RoadKit.initO X K.x K.z K.ow (K.hw _ i1) (K.hw _ i4) (K.hw _ i5) eT (g := mkF w.m pc Ls (.ref b :: S)) rfl (hsz.trans K.mx.symm) rfl (hb K.cd hd) hf (W := W) (by show 2 * 0 + _ ≤ _; rw [Nat.mul_zero, Nat.zero_add]; exact hW) hlo
  obtain ⟨s₂, o, h1, r'⟩ := r T' locs X' e' N
  exact ⟨s₂, o, st _ h1, r'⟩
end OwnKit
theorem own_eqI {args : Array Value} {s : State} {t : Term} {k : Int32} (h : (Jvm.Cond.eq t (.int k)).value args s none s [] = some true) : t.eval args s none [] s = some (.int k) := by
  obtain ⟨x, y, hx, hy, hk, hk'⟩ := cmp_v (Or.inl h)
  rw [Term.int_eval] at hy
  cases hy
  obtain ⟨z, rfl⟩ := hk'
  have e : z = k := by simpa [Cond.value, hx, Term.eval] using h
  rw [hx, e]
theorem own_ord {args : Array Value} {s : State} {C n d : String} {a : Addr} {k : Int32} (ev : (Term.static C n d).eval args s none [] s = some (.ref a)) (h : (Jvm.Cond.eq (.field (.static C n d) "java/lang/Enum" "ordinal" "I") (.int k)).value args s none s [] = some true) : Fld s s.heap a "java/lang/Enum" "ordinal" "I" (.int k) := by
  have h2 := own_eqI h
  rw [fld_at ev] at h2
  exact Fld.start h2
theorem own_fref {args : Array Value} {s : State} {C n d C' n' d' O f e : String} {a b : Addr} (ev : (Term.static C n d).eval args s none [] s = some (.ref a)) (ev' : (Term.static C' n' d').eval args s none [] s = some (.ref b)) (h : (Jvm.Cond.eq (.field (.static C n d) O f e) (.static C' n' d')).value args s none s [] = some true) : Fld s s.heap a O f e (.ref b) := by
  obtain ⟨x, y, hx, hy, hk, hk'⟩ := cmp_v (Or.inl h)
  rw [ev'] at hy
  cases hy
  have e1 : x = .ref b := gotT (eq_R hx ev' hk'.2 rfl) h
  subst e1
  rw [fld_at ev] at hx
  exact Fld.start hx
theorem own_fnull {args : Array Value} {s : State} {C n d O f e : String} {a : Addr} (ev : (Term.static C n d).eval args s none [] s = some (.ref a)) (h : (Jvm.Cond.eq (.field (.static C n d) O f e) .null).value args s none s [] = some true) : Fld s s.heap a O f e .null := by
  have hx := null_v h
  rw [fld_at ev] at hx
  exact Fld.start hx
theorem own_mask (x : Int32) : 0 ≤ (x &&& (2147483647 : Int32)).toInt := by
  have h : ¬ (x &&& (2147483647 : Int32)) < 0 := fun q => by
    have := (XT.and_neg32 _ _).mp q
    exact absurd this.2 (by decide)
  rw [Int32.lt_iff_toInt_lt] at h
  have e0 : (0 : Int32).toInt = 0 := rfl
  omega
theorem own_mod (x : Int32) {n : Int32} {k : Int} (hn : n.toInt = k) (hk : 0 < k) : 0 ≤ ((x &&& (2147483647 : Int32)) % n).toInt ∧ ((x &&& (2147483647 : Int32)) % n).toInt < k := by
  have h := own_mask x
  rw [Int32.toInt_mod, hn]
  exact ⟨Int.tmod_nonneg _ h, Int.tmod_lt_of_pos _ hk⟩
theorem own_lit {x : Int32} {k : Int} {v : Int32} (h : x.toInt = k) (hv : v.toInt = k) : x = v := Int32.toInt_inj.mp (h.trans hv.symm)
def Enm (Z : State) (h : Heap) (C : String) (a : Addr) (k : Int32) : Prop := Exa Z h a C ∧ Fld Z h a "java/lang/Enum" "ordinal" "I" (.int k)
theorem Enm.ne {Z : State} {h : Heap} {C D : String} {a b : Addr} {k j : Int32} (A : Enm Z h C a k) (B : Enm Z h D b j) (q : k ≠ j) : a ≠ b := Fld.ne A.2 B.2 (fun e => q (Value.int.inj e))
theorem own_lc_lt (x y : Int64) : lcmpW x y < 0 ↔ x < y := by rw [lcW]; exact lc_lt x y
theorem own_lc_gt (x y : Int64) : 0 < lcmpW x y ↔ y < x := by rw [lcW]; exact lc_gt x y
theorem own_lc_eq (x y : Int64) : lcmpW x y = 0 ↔ x = y := by rw [lcW]; exact lc_eq x y
theorem own_eqL {args : Array Value} {s : State} {t : Term} {k : Int64} (h : (Jvm.Cond.eq t (.long k)).value args s none s [] = some true) : t.eval args s none [] s = some (.long k) := by
  obtain ⟨x, y, hx, hy, hk, hk'⟩ := cmp_v (Or.inl h)
  have hy2 : (Term.long k).eval args s none [] s = some (.long k) := rfl
  rw [hy2] at hy
  cases hy
  obtain ⟨z, rfl⟩ := hk'
  have e : z = k := gotT (eq_L hx hy2) h
  rw [hx, e]

def own_ms (d : Int64) : Int64 := if (9223372036854775 : Int64) < d then (9223372036854775807 : Int64) else d * (1000 : Int32).toInt64
theorem own_ms_val {d : Int64} (h : ¬ d < 0) : ((9223372036854775 : Int64) < d ∧ (own_ms d).toInt = 9223372036854775807) ∨ (d.toInt ≤ 9223372036854775 ∧ (own_ms d).toInt = d.toInt * 1000) := by
  rw [Int64.lt_iff_toInt_lt] at h
  have e0 : (0 : Int64).toInt = 0 := rfl
  have e1 : (9223372036854775 : Int64).toInt = 9223372036854775 := by decide
  have e2 : (1000 : Int32).toInt64.toInt = 1000 := by decide
  by_cases hd : (9223372036854775 : Int64) < d
  · left
    refine ⟨hd, ?_⟩
    rw [own_ms, if_pos hd]
    decide
  · right
    rw [own_ms, if_neg hd]
    rw [Int64.lt_iff_toInt_lt, e1] at hd
    have hf : XT.fits64 (d.toInt * (1000 : Int32).toInt64.toInt) := by rw [e2]; exact ⟨by omega, by omega⟩
    refine ⟨by omega, ?_⟩
    rw [XT.mul64 hf, e2]
theorem own_ms_nn {d : Int64} (h : ¬ d < 0) : ¬ own_ms d < 0 := by
  have hd := h
  rw [Int64.lt_iff_toInt_lt] at hd ⊢
  have e0 : (0 : Int64).toInt = 0 := rfl
  rcases own_ms_val h with ⟨_, e⟩ | ⟨_, e⟩ <;> rw [e] <;> omega
theorem own_ms_pos {d : Int64} (h : ¬ d < 0) (hp : 0 < own_ms d) : ¬ d = 0 := by
  intro e
  subst e
  exact absurd hp (by decide)
theorem own_ms_zero {d : Int64} (h : ¬ d < 0) (hp : ¬ 0 < own_ms d) : d = 0 := by
  have hd := h
  rw [Int64.lt_iff_toInt_lt] at hd hp
  have e0 : (0 : Int64).toInt = 0 := rfl
  apply Int64.toInt_inj.mp
  rcases own_ms_val h with ⟨_, e⟩ | ⟨_, e⟩ <;> rw [e] at hp <;> omega
theorem own_maskL (x : Int64) : ¬ (x &&& (9223372036854775807 : Int64)) < 0 := fun q => absurd ((XT.and_neg64 _ _).mp q).2 (by decide)
theorem own_notlow {d : Int64} (h : ¬ d < 0) : ¬ d < -(9223372036854775 : Int64) := by
  rw [Int64.lt_iff_toInt_lt] at h ⊢
  have e0 : (0 : Int64).toInt = 0 := rfl
  have e1 : (-(9223372036854775 : Int64)).toInt = -9223372036854775 := by decide
  omega

theorem pd_0 : parseMethodDescriptor "(J)J" = some ⟨[.long], some .long⟩ := by decide +kernel
theorem pd_1 : parseMethodDescriptor "(J)V" = some ⟨[.long], none⟩ := by decide +kernel
theorem pd_2 : parseMethodDescriptor "()V" = some ⟨[], none⟩ := by decide +kernel
theorem pd_3 : parseMethodDescriptor "(Lcom/example/verdict/verdict/rules/Timeout;Lcom/example/verdict/verdict/model/Statement;Lcom/example/verdict/verdict/model/Description;)V" = some ⟨[(.object "com/example/verdict/verdict/rules/Timeout"), (.object "com/example/verdict/verdict/model/Statement"), (.object "com/example/verdict/verdict/model/Description")], none⟩ := by decide +kernel
theorem pd_4 : parseMethodDescriptor "(J)Lcom/example/verdict/verdict/rules/Timeout;" = some ⟨[.long], some (.object "com/example/verdict/verdict/rules/Timeout")⟩ := by decide +kernel
theorem pd_5 : parseMethodDescriptor "(Lcom/example/verdict/verdict/model/Statement;Lcom/example/verdict/verdict/model/Description;)Lcom/example/verdict/verdict/model/Statement;" = some ⟨[(.object "com/example/verdict/verdict/model/Statement"), (.object "com/example/verdict/verdict/model/Description")], some (.object "com/example/verdict/verdict/model/Statement")⟩ := by decide +kernel
theorem d2_0 : decode jdk_2799_method_9_code 0 = .ok (.aload_n 0, 1) := by decide +kernel
theorem d2_1 : decode jdk_2799_method_9_code 1 = .ok (.getfield 44, 3) := by decide +kernel
theorem d2_4 : decode jdk_2799_method_9_code 4 = .ok (.dup2, 1) := by decide +kernel
theorem d2_5 : decode jdk_2799_method_9_code 5 = .ok (.lstore_n 3, 1) := by decide +kernel
theorem d2_6 : decode jdk_2799_method_9_code 6 = .ok (.ldc2_w 63, 3) := by decide +kernel
theorem d2_9 : decode jdk_2799_method_9_code 9 = .ok (.lcmp, 1) := by decide +kernel
theorem d2_10 : decode jdk_2799_method_9_code 10 = .ok (.ifCond .gt 23, 3) := by decide +kernel
theorem d2_33 : decode jdk_2799_method_9_code 33 = .ok (.lload_n 1, 1) := by decide +kernel
theorem d2_34 : decode jdk_2799_method_9_code 34 = .ok (.aload_n 0, 1) := by decide +kernel
theorem d2_35 : decode jdk_2799_method_9_code 35 = .ok (.getfield 69, 3) := by decide +kernel
theorem d2_38 : decode jdk_2799_method_9_code 38 = .ok (.dup2, 1) := by decide +kernel
theorem d2_39 : decode jdk_2799_method_9_code 39 = .ok (.lstore 5, 2) := by decide +kernel
theorem d2_41 : decode jdk_2799_method_9_code 41 = .ok (.lcmp, 1) := by decide +kernel
theorem d2_42 : decode jdk_2799_method_9_code 42 = .ok (.ifCond .le 7, 3) := by decide +kernel
theorem d2_45 : decode jdk_2799_method_9_code 45 = .ok (.ldc2_w 50, 3) := by decide +kernel
theorem d2_48 : decode jdk_2799_method_9_code 48 = .ok (.lreturn, 1) := by decide +kernel
theorem d2_49 : decode jdk_2799_method_9_code 49 = .ok (.lload_n 1, 1) := by decide +kernel
theorem d2_50 : decode jdk_2799_method_9_code 50 = .ok (.lload 5, 2) := by decide +kernel
theorem d2_52 : decode jdk_2799_method_9_code 52 = .ok (.lneg, 1) := by decide +kernel
theorem d2_53 : decode jdk_2799_method_9_code 53 = .ok (.lcmp, 1) := by decide +kernel
theorem d2_54 : decode jdk_2799_method_9_code 54 = .ok (.ifCond .ge 7, 3) := by decide +kernel
theorem d2_61 : decode jdk_2799_method_9_code 61 = .ok (.lload_n 1, 1) := by decide +kernel
theorem d2_62 : decode jdk_2799_method_9_code 62 = .ok (.aload_n 0, 1) := by decide +kernel
theorem d2_63 : decode jdk_2799_method_9_code 63 = .ok (.getfield 65, 3) := by decide +kernel
theorem d2_66 : decode jdk_2799_method_9_code 66 = .ok (.i2l, 1) := by decide +kernel
theorem d2_67 : decode jdk_2799_method_9_code 67 = .ok (.lmul, 1) := by decide +kernel
theorem d2_68 : decode jdk_2799_method_9_code 68 = .ok (.lreturn, 1) := by decide +kernel
theorem pn_m_ms : plainName "java/util/concurrent/TimeUnit" = true := by first | (simp [plainName, overriddenIn]; done) | decide +kernel
set_option maxRecDepth 65536 in
set_option maxHeartbeats 40000000 in
theorem m_ms (l : Launch) (Z : State) (a0 : Array Value) (hw : ∀ d ∈ tables_1, d.before a0 Z = true) (n0 : Nat) (h0 : Heap) (aS : Addr) (d : Int64) (Fscale : Fld Z h0 aS "java/util/concurrent/TimeUnit" "scale" "J" (.long (1000000000 : Int64))) (FmaxMillis : Fld Z h0 aS "java/util/concurrent/TimeUnit" "maxMillis" "J" (.long (9223372036854775 : Int64))) (FmilliRatio : Fld Z h0 aS "java/util/concurrent/TimeUnit" "milliRatio" "I" (.int (1000 : Int32))) (hd : ¬ d < 0) :
    Met l Z (⟨"java/util/concurrent/TimeUnit", "toMillis", "(J)J"⟩ : MethodName) jdk_2799_method_9_code 7 (some .long) ({ frames := 0, cells := 0, slots := 0, locals := 0 } : Room) n0 [] #[(.ref aS), (.long d)] h0 (fun v h => v = some (.long (own_ms d)) ∧ h0 = h) := by
  refine Met.intro (Ls := #[.val (.ref aS), .val (.long d), .second, .unset, .unset, .unset, .unset]) (plainFor_of_name pn_m_ms) hw (fun m => by first | rfl | (simp [entryFrame, mkF, argsToLocals, Value.category]; done)) ?_
  intro w K0
  have K : Cx w Z a0 "java/util/concurrent/TimeUnit" jdk_2799_method_9_code 7 (some .long) "toMillis" := K0
  refine Rn.aloadN K (q := 1) d2_0 rfl rfl rfl ?_
  refine Rn.getF K (q := 4) (List.mem_of_getElem? (i := 14) rfl) Via.refl Fscale d2_1 rfl ?_
  refine Rn.dup2L K (q := 5) d2_4 rfl ?_
  refine Rn.lstoreN K (q := 6) (Ls' := #[.val (.ref aS), .val (.long d), .second, .val (.long (1000000000 : Int64)), .second, .unset, .unset]) d2_5 rfl rfl ?_
  refine Rn.ldc2J K (q := 9) (1000000 : Int64) (List.mem_of_getElem? (i := 16) rfl) d2_6 rfl ?_
  refine Rn.lcmp K (q := 10) d2_9 rfl ?_
  refine Rn.ifY K (q := 33) d2_10 (XT.i0_gt_t ((own_lc_gt _ _).mpr (by decide))) (by decide) (by decide) ?_
  refine Rn.lloadN K (q := 34) d2_33 rfl rfl ?_
  refine Rn.aloadN K (q := 35) d2_34 rfl rfl rfl ?_
  refine Rn.getF K (q := 38) (List.mem_of_getElem? (i := 17) rfl) Via.refl FmaxMillis d2_35 rfl ?_
  refine Rn.dup2L K (q := 39) d2_38 rfl ?_
  refine Rn.lstore K (q := 41) (Ls' := #[.val (.ref aS), .val (.long d), .second, .val (.long (1000000000 : Int64)), .second, .val (.long (9223372036854775 : Int64)), .second]) d2_39 rfl rfl ?_
  refine Rn.lcmp K (q := 42) d2_41 rfl ?_
  by_cases hc42 : (9223372036854775 : Int64) < d
  · refine Rn.ifN K (q := 45) d2_42 (XT.i0_le_f ((own_lc_gt _ _).mpr hc42)) rfl ?_
    refine Rn.ldc2J K (q := 48) (9223372036854775807 : Int64) (List.mem_of_getElem? (i := 52) rfl) d2_45 rfl ?_
    exact Rn.retJ K rfl d2_48 (by decide) (by decide) ⟨by rw [own_ms, if_pos hc42], rfl⟩
  · refine Rn.ifY K (q := 49) d2_42 (XT.i0_le_t (fun z => hc42 ((own_lc_gt _ _).mp z))) (by decide) (by decide) ?_
    refine Rn.lloadN K (q := 50) d2_49 rfl rfl ?_
    refine Rn.lload K (q := 52) d2_50 rfl rfl ?_
    refine Rn.lneg K (q := 53) d2_52 rfl ?_
    refine Rn.lcmp K (q := 54) d2_53 rfl ?_
    refine Rn.ifY K (q := 61) d2_54 (XT.i0_ge_t (fun z => (own_notlow hd) ((own_lc_lt _ _).mp z))) (by decide) (by decide) ?_
    refine Rn.lloadN K (q := 62) d2_61 rfl rfl ?_
    refine Rn.aloadN K (q := 63) d2_62 rfl rfl rfl ?_
    refine Rn.getF K (q := 66) (List.mem_of_getElem? (i := 19) rfl) Via.refl FmilliRatio d2_63 rfl ?_
    refine Rn.i2l K (q := 67) d2_66 rfl ?_
    refine Rn.lmul K (q := 68) d2_67 rfl ?_
    exact Rn.retJ K rfl d2_68 (by decide) (by decide) ⟨by rw [own_ms, if_neg hc42], rfl⟩
theorem d3_0 : decode prog_41_method_1_code 0 = .ok (.aload_n 0, 1) := by decide +kernel
theorem d3_1 : decode prog_41_method_1_code 1 = .ok (.invokespecial 1, 3) := by decide +kernel
theorem d3_4 : decode prog_41_method_1_code 4 = .ok (.lload_n 1, 1) := by decide +kernel
theorem d3_5 : decode prog_41_method_1_code 5 = .ok (.lconst 0, 1) := by decide +kernel
theorem d3_6 : decode prog_41_method_1_code 6 = .ok (.lcmp, 1) := by decide +kernel
theorem d3_7 : decode prog_41_method_1_code 7 = .ok (.ifCond .ge 17, 3) := by decide +kernel
theorem d3_24 : decode prog_41_method_1_code 24 = .ok (.aload_n 0, 1) := by decide +kernel
theorem d3_25 : decode prog_41_method_1_code 25 = .ok (.lload_n 1, 1) := by decide +kernel
theorem d3_26 : decode prog_41_method_1_code 26 = .ok (.putfield 16, 3) := by decide +kernel
theorem d3_29 : decode prog_41_method_1_code 29 = .ok (.return_, 1) := by decide +kernel
theorem pn_m_tinit : plainName "com/example/verdict/verdict/rules/Timeout" = true := by first | (simp [plainName, overriddenIn]; done) | decide +kernel
set_option maxRecDepth 65536 in
set_option maxHeartbeats 40000000 in
theorem m_tinit (l : Launch) (Z : State) (a0 : Array Value) (hw : ∀ d ∈ tables_1, d.before a0 Z = true) (n0 : Nat) (h0 : Heap) (b : Addr) (q m0 : Int64) (X0 : Old Z n0 h0) (E : Exa Z h0 b "com/example/verdict/verdict/rules/Timeout") (g : n0 ≤ b) (F : Fld Z h0 b "com/example/verdict/verdict/rules/Timeout" "_millis" "J" (.long m0)) (hq : ¬ q < 0) :
    Met l Z (⟨"com/example/verdict/verdict/rules/Timeout", "<init>", "(J)V"⟩ : MethodName) prog_41_method_1_code 3 none ({ frames := 1, cells := 0, slots := 0, locals := 12 } : Room) n0 [] #[(.ref b), (.long q)] h0 (fun v h => v = none ∧ Keep h0 h [b] ∧ Fld Z h b "com/example/verdict/verdict/rules/Timeout" "_millis" "J" (.long q)) := by
  refine Met.intro (Ls := #[.val (.ref b), .val (.long q), .second]) (plainFor_of_name pn_m_tinit) hw (fun m => by first | rfl | (simp [entryFrame, mkF, argsToLocals, Value.category]; done)) ?_
  intro w K0
  have K : Cx w Z a0 "com/example/verdict/verdict/rules/Timeout" prog_41_method_1_code 3 none "<init>" := K0
  have K1 := Keep.refl h0 [b]
  refine Rn.aloadN K (q := 1) d3_0 rfl rfl rfl ?_
  refine Rn.initO K (q := 4) (W := 0) (List.mem_of_getElem? (i := 24) rfl) (List.mem_of_getElem? (i := 25) rfl) (List.mem_of_getElem? (i := 26) rfl) (by decide) (by decide) rfl (Nat.le_of_ble_eq_true rfl) d3_1 rfl ?_
  refine Rn.lloadN K (q := 5) d3_4 rfl rfl ?_
  refine Rn.lconst K (q := 6) (0 : Int64) d3_5 rfl rfl ?_
  refine Rn.lcmp K (q := 7) d3_6 rfl ?_
  refine Rn.ifY K (q := 24) d3_7 (XT.i0_ge_t (fun z => hq ((own_lc_lt _ _).mp z))) (by decide) (by decide) ?_
  refine Rn.aloadN K (q := 25) d3_24 rfl rfl rfl ?_
  refine Rn.lloadN K (q := 26) d3_25 rfl rfl ?_
  refine Rn.putF K (q := 29) (ty := .long) (List.mem_of_getElem? (i := 27) rfl) Via.refl F E (Or.inr ⟨(List.mem_of_getElem? (i := 28) rfl), rfl, rfl⟩) (List.mem_of_getElem? (i := 6) rfl) (by decide) rfl rfl g d3_26 rfl ?_
  intro h1 W2
  have f3 := X0.wr W2 g
  have f4 := K1.wr W2 (Or.inl (List.mem_of_getElem? (i := 0) rfl))
  have f5 := E.wr W2
  have f6 := Fld.same W2 F
  exact Rn.retV K rfl d3_29 (by decide) (by decide) ⟨rfl, f4, f6⟩
theorem d1_0 : decode prog_41_method_3_code 0 = .ok (.new 17, 3) := by decide +kernel
theorem d1_3 : decode prog_41_method_3_code 3 = .ok (.dup, 1) := by decide +kernel
theorem d1_4 : decode prog_41_method_3_code 4 = .ok (.getstatic 25, 3) := by decide +kernel
theorem d1_7 : decode prog_41_method_3_code 7 = .ok (.lload_n 0, 1) := by decide +kernel
theorem d1_8 : decode prog_41_method_3_code 8 = .ok (.invokevirtual 31, 3) := by decide +kernel
theorem d1_11 : decode prog_41_method_3_code 11 = .ok (.invokespecial 22, 3) := by decide +kernel
theorem d1_14 : decode prog_41_method_3_code 14 = .ok (.areturn, 1) := by decide +kernel
theorem pn_m_sec : plainName "com/example/verdict/verdict/rules/Timeout" = true := by first | (simp [plainName, overriddenIn]; done) | decide +kernel
set_option maxRecDepth 65536 in
set_option maxHeartbeats 40000000 in
theorem m_sec (l : Launch) (Z : State) (a0 : Array Value) (hw : ∀ d ∈ tables_1, d.before a0 Z = true) (n0 : Nat) (h0 : Heap) (d : Int64) (aS : Addr) (X0 : Old Z n0 h0) (SS : Sta Z Z.heap "java/util/concurrent/TimeUnit" "SECONDS" "Ljava/util/concurrent/TimeUnit;" (.ref aS)) (ES : Exa Z h0 aS "java/util/concurrent/TimeUnit") (Fscale : Fld Z h0 aS "java/util/concurrent/TimeUnit" "scale" "J" (.long (1000000000 : Int64))) (FmaxMillis : Fld Z h0 aS "java/util/concurrent/TimeUnit" "maxMillis" "J" (.long (9223372036854775 : Int64))) (FmilliRatio : Fld Z h0 aS "java/util/concurrent/TimeUnit" "milliRatio" "I" (.int (1000 : Int32))) (hd : ¬ d < 0) :
    Met l Z (⟨"com/example/verdict/verdict/rules/Timeout", "seconds", "(J)Lcom/example/verdict/verdict/rules/Timeout;"⟩ : MethodName) prog_41_method_3_code 2 (some (.object "com/example/verdict/verdict/rules/Timeout")) ({ frames := 2, cells := 1, slots := 1, locals := 40 } : Room) n0 [] #[(.long d)] h0 (fun v h => ∃ b, v = some (.ref b) ∧ n0 ≤ b ∧ Keep h0 h [] ∧ Exa Z h b "com/example/verdict/verdict/rules/Timeout" ∧ Fld Z h b "com/example/verdict/verdict/rules/Timeout" "_millis" "J" (.long (own_ms d))) := by
  refine Met.intro (Ls := #[.val (.long d), .second]) (plainFor_of_name pn_m_sec) hw (fun m => by first | rfl | (simp [entryFrame, mkF, argsToLocals, Value.category]; done)) ?_
  intro w K0
  have K : Cx w Z a0 "com/example/verdict/verdict/rules/Timeout" prog_41_method_3_code 2 (some (.object "com/example/verdict/verdict/rules/Timeout")) "seconds" := K0
  have K1 := Keep.refl h0 []
  refine Rn.newO K (q := 3) (List.mem_of_getElem? (i := 5) rfl) (List.mem_of_getElem? (i := 6) rfl) (List.mem_of_getElem? (i := 3) rfl) (by decide) (by decide) d1_0 rfl ?_
  intro b1 h2 gb1_ X3 A_b1 D4
  have ne_aS_b1 : aS ≠ b1 := fun e => absurd ES.lt (by rw [e, gb1_]; exact Nat.lt_irrefl _)
  have g_b1 : n0 ≤ b1 := by rw [gb1_]; exact X0.1 ▸ X0.2.1
  have sz_b1 : h0.size ≤ b1 := by rw [gb1_]; exact K1.1
  have f5 := X0.ext X3
  have f6 := K1.ext X3
  have f7 := ES.ext X3
  have f8 := Fscale.ext X3
  have f9 := FmaxMillis.ext X3
  have f10 := FmilliRatio.ext X3
  have f11 : Fld Z h2 b1 "com/example/verdict/verdict/rules/Timeout" "_millis" "J" (.long (0 : Int64)) := D4 (Or.inr (K.hw _ (List.mem_of_getElem? (i := 28) rfl))) (ty := .long) (by decide)
  show Rn w l _ n0 _ 3 #[.val (.long d), .second] [(.ref b1)] h2 1 1
  refine Rn.dup K (q := 4) d1_3 rfl rfl ?_
  refine Rn.getS K (q := 7) (List.mem_of_getElem? (i := 7) rfl) (SS.ext f5.2) d1_4 rfl ?_
  refine Rn.lloadN K (q := 8) d1_7 rfl rfl ?_
  refine Rn.virt K (q := 11) (W := 2) (y := (⟨"java/util/concurrent/TimeUnit", "toMillis", "(J)J"⟩ : MethodName)) (z := (⟨"java/util/concurrent/TimeUnit", "toMillis", "(J)J"⟩ : MethodName)) (b := aS) (argsL := [(.long d)]) (rest := [(.ref b1), (.ref b1)]) (List.mem_of_getElem? (i := 9) rfl) (List.mem_of_getElem? (i := 10) rfl) (nfs K (List.mem_of_getElem? (i := 12) rfl)) (List.mem_of_getElem? (i := 12) rfl) (List.mem_of_getElem? (i := 11) rfl) (List.mem_of_getElem? (i := 13) rfl) (List.mem_of_getElem? (i := 8) rfl) (by decide) (m_ms l Z a0 hw n0 h2 aS d f8 f9 f10 hd) f7 (by decide) (by decide) rfl (lenOf pd_0 rfl) rfl (Nat.le_of_ble_eq_true rfl) d1_8 rfl (by decide) (by decide) ?_
  rintro _ _ ⟨rfl, rfl⟩
  show Rn w l _ n0 _ 11 #[.val (.long d), .second] [(.long (own_ms d)), (.ref b1), (.ref b1)] h2 1 1
  refine Rn.spec K (q := 14) (W := 1) (y := (⟨"com/example/verdict/verdict/rules/Timeout", "<init>", "(J)V"⟩ : MethodName)) (b := b1) (argsL := [(.long (own_ms d))]) (rest := [(.ref b1)]) rfl (List.mem_of_getElem? (i := 21) rfl) (List.mem_of_getElem? (i := 22) rfl) (List.mem_of_getElem? (i := 23) rfl) (List.mem_of_getElem? (i := 3) rfl) (by decide) (m_tinit l Z a0 hw n0 h2 b1 (own_ms d) _ f5 A_b1 g_b1 f11 (own_ms_nn hd)) (by decide) (by decide) rfl (lenOf pd_1 rfl) rfl (Nat.le_of_ble_eq_true rfl) d1_11 rfl (by decide) (by decide) ?_
  rintro _ h12 ⟨rfl, Kp13, F14⟩
  have f15 := f5.keep Kp13 (allS g_b1 all0)
  have f16 := f6.trans Kp13 (allS (Or.inr sz_b1) all0)
  have f17 := f7.keep Kp13
  have f18 := f8.keep Kp13 (ninS ne_aS_b1 nin0)
  have f19 := f9.keep Kp13 (ninS ne_aS_b1 nin0)
  have f20 := f10.keep Kp13 (ninS ne_aS_b1 nin0)
  have f21 := A_b1.keep Kp13
  show Rn w l _ n0 _ 14 #[.val (.long d), .second] [(.ref b1)] h12 1 1
  exact Rn.retA K (.object "com/example/verdict/verdict/rules/Timeout") rfl rfl rfl d1_14 (by decide) (by decide) ⟨b1, rfl, g_b1, f16, f21, F14⟩
theorem d7_0 : decode prog_24_method_1_code 0 = .ok (.aload_n 0, 1) := by decide +kernel
theorem d7_1 : decode prog_24_method_1_code 1 = .ok (.invokespecial 1, 3) := by decide +kernel
theorem d7_4 : decode prog_24_method_1_code 4 = .ok (.return_, 1) := by decide +kernel
theorem pn_m_stm : plainName "com/example/verdict/verdict/model/Statement" = true := by first | (simp [plainName, overriddenIn]; done) | decide +kernel
set_option maxRecDepth 65536 in
set_option maxHeartbeats 40000000 in
theorem m_stm (l : Launch) (Z : State) (a0 : Array Value) (hw : ∀ d ∈ tables_1, d.before a0 Z = true) (n0 : Nat) (h0 : Heap) (b : Addr) :
    Met l Z (⟨"com/example/verdict/verdict/model/Statement", "<init>", "()V"⟩ : MethodName) prog_24_method_1_code 1 none ({ frames := 1, cells := 0, slots := 0, locals := 12 } : Room) n0 [] #[(.ref b)] h0 (fun v h => v = none ∧ h0 = h) := by
  refine Met.intro (Ls := #[.val (.ref b)]) (plainFor_of_name pn_m_stm) hw (fun m => by first | rfl | (simp [entryFrame, mkF, argsToLocals, Value.category]; done)) ?_
  intro w K0
  have K : Cx w Z a0 "com/example/verdict/verdict/model/Statement" prog_24_method_1_code 1 none "<init>" := K0
  refine Rn.aloadN K (q := 1) d7_0 rfl rfl rfl ?_
  refine Rn.initO K (q := 4) (W := 0) (List.mem_of_getElem? (i := 51) rfl) (List.mem_of_getElem? (i := 25) rfl) (List.mem_of_getElem? (i := 26) rfl) (by decide) (by decide) rfl (Nat.le_of_ble_eq_true rfl) d7_1 rfl ?_
  exact Rn.retV K rfl d7_4 (by decide) (by decide) ⟨rfl, rfl⟩
theorem d6_0 : decode prog_42_method_1_code 0 = .ok (.aload_n 0, 1) := by decide +kernel
theorem d6_1 : decode prog_42_method_1_code 1 = .ok (.aload_n 1, 1) := by decide +kernel
theorem d6_2 : decode prog_42_method_1_code 2 = .ok (.putfield 1, 3) := by decide +kernel
theorem d6_5 : decode prog_42_method_1_code 5 = .ok (.aload_n 0, 1) := by decide +kernel
theorem d6_6 : decode prog_42_method_1_code 6 = .ok (.aload_n 2, 1) := by decide +kernel
theorem d6_7 : decode prog_42_method_1_code 7 = .ok (.putfield 7, 3) := by decide +kernel
theorem d6_10 : decode prog_42_method_1_code 10 = .ok (.aload_n 0, 1) := by decide +kernel
theorem d6_11 : decode prog_42_method_1_code 11 = .ok (.aload_n 3, 1) := by decide +kernel
theorem d6_12 : decode prog_42_method_1_code 12 = .ok (.putfield 11, 3) := by decide +kernel
theorem d6_15 : decode prog_42_method_1_code 15 = .ok (.aload_n 0, 1) := by decide +kernel
theorem d6_16 : decode prog_42_method_1_code 16 = .ok (.invokespecial 15, 3) := by decide +kernel
theorem d6_19 : decode prog_42_method_1_code 19 = .ok (.return_, 1) := by decide +kernel
theorem pn_m_anon : plainName "com/example/verdict/verdict/rules/Timeout$1" = true := by first | (simp [plainName, overriddenIn]; done) | decide +kernel
set_option maxRecDepth 65536 in
set_option maxHeartbeats 40000000 in
theorem m_anon (l : Launch) (Z : State) (a0 : Array Value) (hw : ∀ d ∈ tables_1, d.before a0 Z = true) (n0 : Nat) (h0 : Heap) (b t : Addr) (X0 : Old Z n0 h0) (E : Exa Z h0 b "com/example/verdict/verdict/rules/Timeout$1") (g : n0 ≤ b) (F0 : Fld Z h0 b "com/example/verdict/verdict/rules/Timeout$1" "this$0" "Lcom/example/verdict/verdict/rules/Timeout;" .null) (F1 : Fld Z h0 b "com/example/verdict/verdict/rules/Timeout$1" "val$base" "Lcom/example/verdict/verdict/model/Statement;" .null) (F2 : Fld Z h0 b "com/example/verdict/verdict/rules/Timeout$1" "val$description" "Lcom/example/verdict/verdict/model/Description;" .null) :
    Met l Z (⟨"com/example/verdict/verdict/rules/Timeout$1", "<init>", "(Lcom/example/verdict/verdict/rules/Timeout;Lcom/example/verdict/verdict/model/Statement;Lcom/example/verdict/verdict/model/Description;)V"⟩ : MethodName) prog_42_method_1_code 4 none ({ frames := 2, cells := 0, slots := 0, locals := 30 } : Room) n0 [] #[(.ref b), (.ref t), .null, .null] h0 (fun v _ => v = none) := by
  refine Met.intro (Ls := #[.val (.ref b), .val (.ref t), .val .null, .val .null]) (plainFor_of_name pn_m_anon) hw (fun m => by first | rfl | (simp [entryFrame, mkF, argsToLocals, Value.category]; done)) ?_
  intro w K0
  have K : Cx w Z a0 "com/example/verdict/verdict/rules/Timeout$1" prog_42_method_1_code 4 none "<init>" := K0
  refine Rn.aloadN K (q := 1) d6_0 rfl rfl rfl ?_
  refine Rn.aloadN K (q := 2) d6_1 rfl rfl rfl ?_
  refine Rn.putF K (q := 5) (ty := (.object "com/example/verdict/verdict/rules/Timeout")) (List.mem_of_getElem? (i := 40) rfl) Via.refl F0 E (Or.inr ⟨(List.mem_of_getElem? (i := 41) rfl), rfl, rfl⟩) (List.mem_of_getElem? (i := 35) rfl) (by decide) rfl rfl g d6_2 rfl ?_
  intro h1 W2
  have f3 := X0.wr W2 g
  have f4 := E.wr W2
  have f5 := Fld.same W2 F0
  have f6 := Fld.other W2 F1 (Or.inr (slot_ne (Or.inr (K.hw _ (List.mem_of_getElem? (i := 43) rfl))) (Or.inr (K.hw _ (List.mem_of_getElem? (i := 41) rfl))) (by decide) (t := (.object "com/example/verdict/verdict/model/Statement")) (t' := (.object "com/example/verdict/verdict/rules/Timeout")) (by decide) (by decide)))
  have f7 := Fld.other W2 F2 (Or.inr (slot_ne (Or.inr (K.hw _ (List.mem_of_getElem? (i := 45) rfl))) (Or.inr (K.hw _ (List.mem_of_getElem? (i := 41) rfl))) (by decide) (t := (.object "com/example/verdict/verdict/model/Description")) (t' := (.object "com/example/verdict/verdict/rules/Timeout")) (by decide) (by decide)))
  refine Rn.aloadN K (q := 6) d6_5 rfl rfl rfl ?_
  refine Rn.aloadN K (q := 7) d6_6 rfl rfl rfl ?_
  refine Rn.putF K (q := 10) (ty := (.object "com/example/verdict/verdict/model/Statement")) (List.mem_of_getElem? (i := 42) rfl) Via.refl f6 f4 (Or.inr ⟨(List.mem_of_getElem? (i := 43) rfl), rfl, rfl⟩) (List.mem_of_getElem? (i := 35) rfl) (by decide) rfl rfl g d6_7 rfl ?_
  intro h8 W9
  have f10 := f3.wr W9 g
  have f11 := f4.wr W9
  have f12 := Fld.other W9 f5 (Or.inr (slot_ne (Or.inr (K.hw _ (List.mem_of_getElem? (i := 41) rfl))) (Or.inr (K.hw _ (List.mem_of_getElem? (i := 43) rfl))) (by decide) (t := (.object "com/example/verdict/verdict/rules/Timeout")) (t' := (.object "com/example/verdict/verdict/model/Statement")) (by decide) (by decide)))
  have f13 := Fld.same W9 f6
  have f14 := Fld.other W9 f7 (Or.inr (slot_ne (Or.inr (K.hw _ (List.mem_of_getElem? (i := 45) rfl))) (Or.inr (K.hw _ (List.mem_of_getElem? (i := 43) rfl))) (by decide) (t := (.object "com/example/verdict/verdict/model/Description")) (t' := (.object "com/example/verdict/verdict/model/Statement")) (by decide) (by decide)))
  refine Rn.aloadN K (q := 11) d6_10 rfl rfl rfl ?_
  refine Rn.aloadN K (q := 12) d6_11 rfl rfl rfl ?_
  refine Rn.putF K (q := 15) (ty := (.object "com/example/verdict/verdict/model/Description")) (List.mem_of_getElem? (i := 44) rfl) Via.refl f14 f11 (Or.inr ⟨(List.mem_of_getElem? (i := 45) rfl), rfl, rfl⟩) (List.mem_of_getElem? (i := 35) rfl) (by decide) rfl rfl g d6_12 rfl ?_
  intro h15 W16
  have f17 := f10.wr W16 g
  have f18 := f11.wr W16
  have f19 := Fld.other W16 f12 (Or.inr (slot_ne (Or.inr (K.hw _ (List.mem_of_getElem? (i := 41) rfl))) (Or.inr (K.hw _ (List.mem_of_getElem? (i := 45) rfl))) (by decide) (t := (.object "com/example/verdict/verdict/rules/Timeout")) (t' := (.object "com/example/verdict/verdict/model/Description")) (by decide) (by decide)))
  have f20 := Fld.other W16 f13 (Or.inr (slot_ne (Or.inr (K.hw _ (List.mem_of_getElem? (i := 43) rfl))) (Or.inr (K.hw _ (List.mem_of_getElem? (i := 45) rfl))) (by decide) (t := (.object "com/example/verdict/verdict/model/Statement")) (t' := (.object "com/example/verdict/verdict/model/Description")) (by decide) (by decide)))
  have f21 := Fld.same W16 f14
  refine Rn.aloadN K (q := 16) d6_15 rfl rfl rfl ?_
  refine Rn.spec K (q := 19) (W := 0) (y := (⟨"com/example/verdict/verdict/model/Statement", "<init>", "()V"⟩ : MethodName)) (b := b) (argsL := []) (rest := []) rfl (List.mem_of_getElem? (i := 46) rfl) (List.mem_of_getElem? (i := 47) rfl) (List.mem_of_getElem? (i := 50) rfl) (List.mem_of_getElem? (i := 49) rfl) (by decide) (m_stm l Z a0 hw n0 h15 b) (by decide) (by decide) rfl (lenOf pd_2 rfl) rfl (Nat.le_of_ble_eq_true rfl) d6_16 rfl (by decide) (by decide) ?_
  rintro _ _ ⟨rfl, rfl⟩
  show Rn w l _ n0 _ 19 #[.val (.ref b), .val (.ref t), .val .null, .val .null] [] h15 0 0
  exact Rn.retV K rfl d6_19 (by decide) (by decide) rfl
theorem d5_0 : decode prog_41_method_5_code 0 = .ok (.aload_n 1, 1) := by decide +kernel
theorem d5_1 : decode prog_41_method_5_code 1 = .ok (.astore_n 3, 1) := by decide +kernel
theorem d5_2 : decode prog_41_method_5_code 2 = .ok (.aload_n 0, 1) := by decide +kernel
theorem d5_3 : decode prog_41_method_5_code 3 = .ok (.getfield 16, 3) := by decide +kernel
theorem d5_6 : decode prog_41_method_5_code 6 = .ok (.lconst 0, 1) := by decide +kernel
theorem d5_7 : decode prog_41_method_5_code 7 = .ok (.lcmp, 1) := by decide +kernel
theorem d5_8 : decode prog_41_method_5_code 8 = .ok (.ifCond .le 14, 3) := by decide +kernel
theorem d5_11 : decode prog_41_method_5_code 11 = .ok (.new 45, 3) := by decide +kernel
theorem d5_14 : decode prog_41_method_5_code 14 = .ok (.dup, 1) := by decide +kernel
theorem d5_15 : decode prog_41_method_5_code 15 = .ok (.aload_n 0, 1) := by decide +kernel
theorem d5_16 : decode prog_41_method_5_code 16 = .ok (.aload_n 1, 1) := by decide +kernel
theorem d5_17 : decode prog_41_method_5_code 17 = .ok (.aload_n 2, 1) := by decide +kernel
theorem d5_18 : decode prog_41_method_5_code 18 = .ok (.invokespecial 47, 3) := by decide +kernel
theorem d5_21 : decode prog_41_method_5_code 21 = .ok (.astore_n 3, 1) := by decide +kernel
theorem d5_22 : decode prog_41_method_5_code 22 = .ok (.aload_n 3, 1) := by decide +kernel
theorem d5_23 : decode prog_41_method_5_code 23 = .ok (.areturn, 1) := by decide +kernel
theorem pn_m_app : plainName "com/example/verdict/verdict/rules/Timeout" = true := by first | (simp [plainName, overriddenIn]; done) | decide +kernel
set_option maxRecDepth 65536 in
set_option maxHeartbeats 40000000 in
theorem m_app (l : Launch) (Z : State) (a0 : Array Value) (hw : ∀ d ∈ tables_1, d.before a0 Z = true) (n0 : Nat) (h0 : Heap) (t : Addr) (q : Int64) (X0 : Old Z n0 h0) (E : Exa Z h0 t "com/example/verdict/verdict/rules/Timeout") (F : Fld Z h0 t "com/example/verdict/verdict/rules/Timeout" "_millis" "J" (.long q)) :
    Met l Z (⟨"com/example/verdict/verdict/rules/Timeout", "apply", "(Lcom/example/verdict/verdict/model/Statement;Lcom/example/verdict/verdict/model/Description;)Lcom/example/verdict/verdict/model/Statement;"⟩ : MethodName) prog_41_method_5_code 4 (some (.object "com/example/verdict/verdict/model/Statement")) ({ frames := 3, cells := 1, slots := 3, locals := 60 } : Room) n0 [] #[(.ref t), .null, .null] h0 (fun v _ => ((0 : Int64) < q ∧ ∃ b, v = some (.ref b)) ∨ (¬ (0 : Int64) < q ∧ v = some .null)) := by
  refine Met.intro (Ls := #[.val (.ref t), .val .null, .val .null, .unset]) (plainFor_of_name pn_m_app) hw (fun m => by first | rfl | (simp [entryFrame, mkF, argsToLocals, Value.category]; done)) ?_
  intro w K0
  have K : Cx w Z a0 "com/example/verdict/verdict/rules/Timeout" prog_41_method_5_code 4 (some (.object "com/example/verdict/verdict/model/Statement")) "apply" := K0
  refine Rn.aloadN K (q := 1) d5_0 rfl rfl rfl ?_
  refine Rn.astoreN K (q := 2) (Ls' := #[.val (.ref t), .val .null, .val .null, .val .null]) d5_1 rfl rfl rfl ?_
  refine Rn.aloadN K (q := 3) d5_2 rfl rfl rfl ?_
  refine Rn.getF K (q := 6) (List.mem_of_getElem? (i := 27) rfl) Via.refl F d5_3 rfl ?_
  refine Rn.lconst K (q := 7) (0 : Int64) d5_6 rfl rfl ?_
  refine Rn.lcmp K (q := 8) d5_7 rfl ?_
  by_cases hc8 : (0 : Int64) < q
  · refine Rn.ifN K (q := 11) d5_8 (XT.i0_le_f ((own_lc_gt _ _).mpr hc8)) rfl ?_
    refine Rn.newO K (q := 14) (List.mem_of_getElem? (i := 34) rfl) (List.mem_of_getElem? (i := 35) rfl) (List.mem_of_getElem? (i := 36) rfl) (by decide) (by decide) d5_11 rfl ?_
    intro b1 h2 gb1_ X3 A_b1 D4
    have ne_t_b1 : t ≠ b1 := fun e => absurd E.lt (by rw [e, gb1_]; exact Nat.lt_irrefl _)
    have g_b1 : n0 ≤ b1 := by rw [gb1_]; exact X0.1 ▸ X0.2.1
    have f5 := X0.ext X3
    have f6 := E.ext X3
    have f7 := F.ext X3
    have f8 : Fld Z h2 b1 "com/example/verdict/verdict/rules/Timeout$1" "this$0" "Lcom/example/verdict/verdict/rules/Timeout;" .null := D4 (Or.inr (K.hw _ (List.mem_of_getElem? (i := 41) rfl))) (ty := (.object "com/example/verdict/verdict/rules/Timeout")) (by decide)
    have f9 : Fld Z h2 b1 "com/example/verdict/verdict/rules/Timeout$1" "val$base" "Lcom/example/verdict/verdict/model/Statement;" .null := D4 (Or.inr (K.hw _ (List.mem_of_getElem? (i := 43) rfl))) (ty := (.object "com/example/verdict/verdict/model/Statement")) (by decide)
    have f10 : Fld Z h2 b1 "com/example/verdict/verdict/rules/Timeout$1" "val$description" "Lcom/example/verdict/verdict/model/Description;" .null := D4 (Or.inr (K.hw _ (List.mem_of_getElem? (i := 45) rfl))) (ty := (.object "com/example/verdict/verdict/model/Description")) (by decide)
    show Rn w l _ n0 _ 14 #[.val (.ref t), .val .null, .val .null, .val .null] [(.ref b1)] h2 1 3
    refine Rn.dup K (q := 15) d5_14 rfl rfl ?_
    refine Rn.aloadN K (q := 16) d5_15 rfl rfl rfl ?_
    refine Rn.aloadN K (q := 17) d5_16 rfl rfl rfl ?_
    refine Rn.aloadN K (q := 18) d5_17 rfl rfl rfl ?_
    refine Rn.spec K (q := 21) (W := 1) (y := (⟨"com/example/verdict/verdict/rules/Timeout$1", "<init>", "(Lcom/example/verdict/verdict/rules/Timeout;Lcom/example/verdict/verdict/model/Statement;Lcom/example/verdict/verdict/model/Description;)V"⟩ : MethodName)) (b := b1) (argsL := [(.ref t), .null, .null]) (rest := [(.ref b1)]) rfl (List.mem_of_getElem? (i := 37) rfl) (List.mem_of_getElem? (i := 38) rfl) (List.mem_of_getElem? (i := 39) rfl) (List.mem_of_getElem? (i := 36) rfl) (by decide) (m_anon l Z a0 hw n0 h2 b1 t f5 A_b1 g_b1 f8 f9 f10) (by decide) (by decide) rfl (lenOf pd_3 rfl) rfl (Nat.le_of_ble_eq_true rfl) d5_18 rfl (by decide) (by decide) ?_
    rintro _ h11 rfl
    show Rn w l _ n0 _ 21 #[.val (.ref t), .val .null, .val .null, .val .null] [(.ref b1)] h11 1 3
    refine Rn.astoreN K (q := 22) (Ls' := #[.val (.ref t), .val .null, .val .null, .val (.ref b1)]) d5_21 rfl rfl rfl ?_
    refine Rn.aloadN K (q := 23) d5_22 rfl rfl rfl ?_
    exact Rn.retA K (.object "com/example/verdict/verdict/model/Statement") rfl rfl rfl d5_23 (by decide) (by decide) (Or.inl ⟨hc8, _, rfl⟩)
  · refine Rn.ifY K (q := 22) d5_8 (XT.i0_le_t (fun z => hc8 ((own_lc_gt _ _).mp z))) (by decide) (by decide) ?_
    refine Rn.aloadN K (q := 23) d5_22 rfl rfl rfl ?_
    exact Rn.retA K (.object "com/example/verdict/verdict/model/Statement") rfl rfl rfl d5_23 (by decide) (by decide) (Or.inr ⟨hc8, rfl⟩)
theorem pn_m_law : plainName "com/example/verdict/verdict/rules/TimeoutSecondsPinLaw" = true := by first | (simp [plainName, overriddenIn]; done) | decide +kernel
set_option maxRecDepth 65536 in
set_option maxHeartbeats 40000000 in
theorem m_law (l : Launch) (Z : State) (a0 : Array Value) (hw : ∀ d ∈ tables_1, d.before a0 Z = true) (n0 : Nat) (h0 : Heap) (p1 : Int64) (aS : Addr) (X0 : Old Z n0 h0) (SS : Sta Z Z.heap "java/util/concurrent/TimeUnit" "SECONDS" "Ljava/util/concurrent/TimeUnit;" (.ref aS)) (ES : Exa Z Z.heap aS "java/util/concurrent/TimeUnit") (Fscale : Fld Z Z.heap aS "java/util/concurrent/TimeUnit" "scale" "J" (.long (1000000000 : Int64))) (FmaxMillis : Fld Z Z.heap aS "java/util/concurrent/TimeUnit" "maxMillis" "J" (.long (9223372036854775 : Int64))) (FmilliRatio : Fld Z Z.heap aS "java/util/concurrent/TimeUnit" "milliRatio" "I" (.int (1000 : Int32))) :
    Met l Z x code maxLocals ret room_1 n0 tables_1 #[(.long p1)] h0 (fun v _ => v = some (.int (1 : Int32))) := by
  refine Met.intro (Ls := #[.val (.long p1), .second, .unset, .unset, .unset, .unset, .unset]) (plainFor_of_name pn_m_law) hw (fun m => by first | rfl | (simp [entryFrame, mkF, argsToLocals, Value.category, maxLocals]; done)) ?_
  intro w K0
  have K : Cx w Z a0 "com/example/verdict/verdict/rules/TimeoutSecondsPinLaw" code 7 (some .boolean) "law" := K0
  refine Rn.lloadN K (q := 1) at_0 rfl rfl ?_
  refine Rn.ldc2J K (q := 4) (9223372036854775807 : Int64) (List.mem_of_getElem? (i := 0) rfl) at_1 rfl ?_
  refine Rn.land K (q := 5) at_4 rfl ?_
  refine Rn.lstoreN K (q := 6) (Ls' := #[.val (.long p1), .second, .val (.long (p1 &&& (9223372036854775807 : Int64))), .second, .unset, .unset, .unset]) at_5 rfl rfl ?_
  refine Rn.lloadN K (q := 7) at_6 rfl rfl ?_
  refine Rn.stat K (q := 10) (W := 0) (y := (⟨"com/example/verdict/verdict/rules/Timeout", "seconds", "(J)Lcom/example/verdict/verdict/rules/Timeout;"⟩ : MethodName)) (argsL := [(.long (p1 &&& (9223372036854775807 : Int64)))]) (rest := []) (List.mem_of_getElem? (i := 1) rfl) (List.mem_of_getElem? (i := 2) rfl) (List.mem_of_getElem? (i := 4) rfl) (List.mem_of_getElem? (i := 3) rfl) (by decide) (m_sec l Z a0 hw n0 h0 (p1 &&& (9223372036854775807 : Int64)) aS X0 SS (ES.ext X0.2) (Fscale.ext X0.2) (FmaxMillis.ext X0.2) (FmilliRatio.ext X0.2) (own_maskL p1)) (by decide) (by decide) rfl (lenOf pd_4 rfl) rfl (Nat.le_of_ble_eq_true rfl) at_7 rfl (by decide) (by decide) ?_
  rintro _ h1 ⟨b1, rfl, g1, K1, E1, F1⟩
  have X1 := X0.keep K1 all0
  show Rn w l _ n0 _ 10 #[.val (.long p1), .second, .val (.long (p1 &&& (9223372036854775807 : Int64))), .second, .unset, .unset, .unset] [(.ref b1)] h1 1 1
  refine Rn.astore K (q := 12) (Ls' := #[.val (.long p1), .second, .val (.long (p1 &&& (9223372036854775807 : Int64))), .second, .val (.ref b1), .unset, .unset]) at_10 rfl rfl rfl ?_
  refine Rn.aload K (q := 14) at_12 rfl rfl rfl ?_
  refine Rn.aconst_null K (q := 15) at_14 rfl ?_
  refine Rn.aconst_null K (q := 16) at_15 rfl ?_
  refine Rn.virt K (q := 19) (W := 0) (y := (⟨"com/example/verdict/verdict/rules/Timeout", "apply", "(Lcom/example/verdict/verdict/model/Statement;Lcom/example/verdict/verdict/model/Description;)Lcom/example/verdict/verdict/model/Statement;"⟩ : MethodName)) (z := (⟨"com/example/verdict/verdict/rules/Timeout", "apply", "(Lcom/example/verdict/verdict/model/Statement;Lcom/example/verdict/verdict/model/Description;)Lcom/example/verdict/verdict/model/Statement;"⟩ : MethodName)) (b := b1) (argsL := [.null, .null]) (rest := []) (List.mem_of_getElem? (i := 29) rfl) (List.mem_of_getElem? (i := 30) rfl) (nfs K (List.mem_of_getElem? (i := 32) rfl)) (List.mem_of_getElem? (i := 32) rfl) (List.mem_of_getElem? (i := 31) rfl) (List.mem_of_getElem? (i := 33) rfl) (List.mem_of_getElem? (i := 3) rfl) (by decide) (m_app l Z a0 hw n0 h1 b1 (own_ms (p1 &&& (9223372036854775807 : Int64))) X1 E1 F1) E1 (by decide) (by decide) rfl (lenOf pd_5 rfl) rfl (Nat.le_of_ble_eq_true rfl) at_16 rfl (by decide) (by decide) ?_
  rintro v h2 (⟨hp, b2, rfl⟩ | ⟨hp, rfl⟩)
  · show Rn w l _ n0 _ 19 #[.val (.long p1), .second, .val (.long (p1 &&& (9223372036854775807 : Int64))), .second, .val (.ref b1), .unset, .unset] [(.ref b2)] h2 2 4
    refine Rn.astore K (q := 21) (Ls' := #[.val (.long p1), .second, .val (.long (p1 &&& (9223372036854775807 : Int64))), .second, .val (.ref b1), .val (.ref b2), .unset]) at_19 rfl rfl rfl ?_
    refine Rn.aload K (q := 23) at_21 rfl rfl rfl ?_
    refine Rn.nonnullY K (q := 30) at_23 (by decide) (by decide) ?_
    refine Rn.iconst K (q := 31) (0 : Int32) at_30 rfl rfl ?_
    refine Rn.istore K (q := 33) (Ls' := #[.val (.long p1), .second, .val (.long (p1 &&& (9223372036854775807 : Int64))), .second, .val (.ref b1), .val (.ref b2), .val (.int (0 : Int32))]) at_31 rfl rfl ?_
    refine Rn.iload K (q := 35) at_33 rfl rfl ?_
    refine Rn.lloadN K (q := 36) at_35 rfl rfl ?_
    refine Rn.lconst K (q := 37) (0 : Int64) at_36 rfl rfl ?_
    refine Rn.lcmp K (q := 38) at_37 rfl ?_
    refine Rn.ifY K (q := 45) at_38 (XT.i0_ne_t (fun z => (own_ms_pos (own_maskL p1) hp) ((own_lc_eq _ _).mp z))) (by decide) (by decide) ?_
    refine Rn.iconst K (q := 46) (0 : Int32) at_45 rfl rfl ?_
    refine Rn.icN K (q := 49) at_46 (XT.ii_ne_f rfl) rfl ?_
    refine Rn.iconst K (q := 50) (1 : Int32) at_49 rfl rfl ?_
    refine Rn.goto K (q := 54) at_50 (by decide) (by decide) ?_
    exact Rn.retN K .boolean rfl (by simp) at_54 (by decide) (by decide) rfl
  · show Rn w l _ n0 _ 19 #[.val (.long p1), .second, .val (.long (p1 &&& (9223372036854775807 : Int64))), .second, .val (.ref b1), .unset, .unset] [.null] h2 2 4
    refine Rn.astore K (q := 21) (Ls' := #[.val (.long p1), .second, .val (.long (p1 &&& (9223372036854775807 : Int64))), .second, .val (.ref b1), .val .null, .unset]) at_19 rfl rfl rfl ?_
    refine Rn.aload K (q := 23) at_21 rfl rfl rfl ?_
    refine Rn.nonnullN K (q := 26) at_23 rfl ?_
    refine Rn.iconst K (q := 27) (1 : Int32) at_26 rfl rfl ?_
    refine Rn.goto K (q := 31) at_27 (by decide) (by decide) ?_
    refine Rn.istore K (q := 33) (Ls' := #[.val (.long p1), .second, .val (.long (p1 &&& (9223372036854775807 : Int64))), .second, .val (.ref b1), .val .null, .val (.int (1 : Int32))]) at_31 rfl rfl ?_
    refine Rn.iload K (q := 35) at_33 rfl rfl ?_
    refine Rn.lloadN K (q := 36) at_35 rfl rfl ?_
    refine Rn.lconst K (q := 37) (0 : Int64) at_36 rfl rfl ?_
    refine Rn.lcmp K (q := 38) at_37 rfl ?_
    refine Rn.ifN K (q := 41) at_38 (XT.i0_ne_f ((own_lc_eq _ _).mpr (own_ms_zero (own_maskL p1) hp))) rfl ?_
    refine Rn.iconst K (q := 42) (1 : Int32) at_41 rfl rfl ?_
    refine Rn.goto K (q := 46) at_42 (by decide) (by decide) ?_
    refine Rn.icN K (q := 49) at_46 (XT.ii_ne_f rfl) rfl ?_
    refine Rn.iconst K (q := 50) (1 : Int32) at_49 rfl rfl ?_
    refine Rn.goto K (q := 54) at_50 (by decide) (by decide) ?_
    exact Rn.retN K .boolean rfl (by simp) at_54 (by decide) (by decide) rfl
set_option maxRecDepth 65536 in
set_option maxHeartbeats 40000000 in
theorem comes_1 {Post : Tables → Env → Array Value → State → Outcome → State → Prop} (hpost : ∀ tb e args s v u, (limb_1_1.after args s (.returned v) u = true ∧ limb_1_2.after args s (.returned v) u = true ∧ True) → FrameEnd s (.returned v) u (Jvm.fieldLocs frame_1_writes args s ++ Jvm.arrayLocs frame_1_arrays args s ++ Jvm.staticLocs frame_1_statics s) 16 128 → Post tb e args s (.returned v) u) :
    ArmFor flags0 classFile x code maxLocals ret World_1 tables_1 room_1 Calls_1 rest_1 Pre_1 Post := by
  intro l hfl _ _ p e ha hc hk s m args below hf hA hF happ hP
  obtain ⟨hcalls, hrest, hpre⟩ := hP
  obtain ⟨-, -, -, hnamed, -, -, -, hat⟩ := (Spec.applies_iff hf).mp happ
  obtain ⟨hg, hn⟩ := and_e (Cond.before_iff.mp (show (Jvm.Cond.and given_1 narrow_1).before args s = true from hpre))
  obtain ⟨hcnt, hgs0⟩ := and_e hg
  obtain ⟨w0, rfl⟩ : ∃ w0 : Value, args = #[w0] := by
    have hs : args.size = 1 := by simpa [Cond.value, given_1] using hcnt
    obtain ⟨L⟩ := args
    match L, hs with
    | [w0], _ => exact ⟨w0, rfl⟩
  have hw := fun d (hd : d ∈ tables_1) => atoms_spec (ws := Jvm.Cond.code x code maxLocals ret :: tables_1) hat d (List.mem_cons_of_mem _ hd)
  have hfit : Fit s := fun {y c} hc i hi => by
    obtain ⟨ha, rfl⟩ := Array.getElem?_eq_some_iff.mp hc
    have q := List.all_eq_true.mp ((Array.all_eq_true_iff_forall_mem.mp hF) _ (Array.getElem_mem ha)) i (List.mem_range.mpr hi)
    simpa [Array.getElem?_eq_getElem hi] using q
  obtain ⟨hsets, hown0⟩ := atoms_of _ (rest_1_c_eq ▸ (show rest_1_c.before _ s = true from hrest))
  have hr0 := Cond.before_iff.mp hown0
  obtain ⟨i0, ei0⟩ := isL_v hgs0
  obtain rfl : w0 = (.long i0) := Option.some.inj ei0
  have y2 := Cond.before_iff.mp (hsets _ (List.mem_of_getElem? (i := 2) rfl))
  obtain ⟨aS, vS⟩ := exa_v y2
  have SS := Sta.start vS (Or.inl (hsets _ (List.mem_of_getElem? (i := 1) rfl)))
  have ES := Exa.start vS y2
  have Fsc := own_eqL (Cond.before_iff.mp (hsets _ (List.mem_of_getElem? (i := 5) rfl)))
  rw [fld_at vS] at Fsc
  have Fmr := own_eqI (Cond.before_iff.mp (hsets _ (List.mem_of_getElem? (i := 9) rfl)))
  rw [fld_at vS] at Fmr
  have Fmm := own_eqL (Cond.before_iff.mp (hsets _ (List.mem_of_getElem? (i := 10) rfl)))
  rw [fld_at vS] at Fmm
  obtain ⟨n, o, h1, h2, h3, _, L, rfl, ⟨N, rfl⟩, hq⟩ := m_law l s _ hw s.heap.size s.heap i0 aS (Old.start s) SS ES (Fld.start Fsc) (Fld.start Fmm) (Fld.start Fmr) p e ha hc hk s m _ below hf ((Spec.applies_iff_loose hf).mp happ).1 ⟨rfl, State.Warmed39.refl s, rfl⟩ trivial
  refine ⟨n, _, h1, h2, h3, hpost _ _ _ _ _ _ ⟨Cond.after_iff.mpr rfl, Cond.after_iff.mpr (eq_i res_at (Term.int_eval (1)) rfl), trivial⟩ ⟨hq.1, hq.2.1, (hq.2.2.sift fun y hy => Or.inr (N y hy)).mono (by decide) (by decide)⟩⟩
theorem main_1_1 : Claimed_1_1 := comes_1 fun _ _ _ _ _ _ h hF => ⟨h.1, hF⟩
theorem main_1_2 : Claimed_1_2 := comes_1 fun _ _ _ _ _ _ h hF => ⟨h.2.1, hF⟩
end Jvm.Pilot.@@N@@
namespace Jvm.Pilot.@@N@@
open Jvm Jvm.ClassFile Sem Op Lib Jvm.Free Jvm.Stand Jvm.Pilot.@@N@@.Jvm.D
/-! MADE BY PROGRAM (witnessworld.py) out of the Statement's table words and the real class files: 16 classes; the members and pool entries that the words name. The judged class is class 1, her method 1. -/
namespace start1
open Jvm.ClassFile
def u (s : String) : CpInfo := .utf8 (stringToUtf16 s)
/-- a pool by its gaps: so many unusable entries, then the entry; so many at the end -/
def gap : Nat → List CpInfo → List CpInfo
  | 0, r => r
  | n + 1, r => .unusable :: gap n r
def poolList (es : List (Nat × CpInfo)) (last : Nat) : List CpInfo := es.foldr (fun e r => gap e.1 (e.2 :: r)) (gap last [])
def pool (es : List (Nat × CpInfo)) (last : Nat) : Array CpInfo := ⟨poolList es last⟩
def fileOf (pool : Array CpInfo) (this : Nat) (attrs : Array Attribute := #[]) (ms : Array MethodInfo := #[]) (fl : Nat := 33) (sup : Nat := 0) (ifs : Array Nat := #[]) (fds : Array FieldInfo := #[]) : ClassFile where
  minorVersion := 0
  majorVersion := 65
  constantPool := pool
  accessFlags := fl
  thisClass := this
  superClass := sup
  interfaces := ifs
  fields := fds
  methods := ms
  attributes := attrs
def plain (name : String) (sup : Option ClassId) : Class where
  name := name
  kind := .ordinary
  loader := none
  accessFlags := 33
  super := sup
  interfaces := #[]
  cf := none
  fields := #[]
  methods := #[]
  instanceTypes := #[]
  staticTypes := #[]
  resolved := #[]
  callSites := []
  init := .initialized
  statics := none
  mirror := none

def pool0 : Array CpInfo := pool [(5, u "<init>"), (0, u "()V"), (1, .class_ 10), (1, u "java/lang/Object")] 113

def k0c0 : Code := { maxStack := 0, maxLocals := 1, code := object_method_1_code, exceptionTable := #[], attributes := #[] }
def k0m0 : Method := { name := "<init>", desc := "()V", sig := { parameters := [], returnType := none }, accessFlags := 1, code := some k0c0 }
/-- java/lang/Object -/
def k0 : Class := { plain "java/lang/Object" none with
  accessFlags := 33
  interfaces := #[]
  cf := some (fileOf pool0 8 #[] #[{ accessFlags := 1, nameIndex := 5, descriptorIndex := 6, attributes := #[] }] 33 0 #[] #[])
  fields := #[]
  methods := #[k0m0]
  instanceTypes := #[]
  staticTypes := #[]
  resolved := Array.replicate 124 none
  statics := none }

def pool1 : Array CpInfo := pool [(2, .class_ 4), (1, u "java/lang/Object"), (0, u "<init>"), (0, u "()V"), (2, .long 9223372036854775807), (1, .methodref 12 13), (0, .class_ 14), (0, .nameAndType 15 16), (0, u "com/example/verdict/verdict/rules/Timeout"), (0, u "seconds"), (0, u "(J)Lcom/example/verdict/verdict/rules/Timeout;"), (0, .methodref 12 18), (0, .nameAndType 19 20), (0, u "apply"), (0, u "(Lcom/example/verdict/verdict/model/Statement;Lcom/example/verdict/verdict/model/Description;)Lcom/example/verdict/verdict/model/Statement;"), (0, .class_ 22), (0, u "com/example/verdict/verdict/rules/TimeoutSecondsPinLaw"), (2, u "law"), (0, u "(J)Z")] 5

def k1m0 : Method := { name := "<init>", desc := "()V", sig := { parameters := [], returnType := none }, accessFlags := 1, code := none }
def k1c1 : Code := { maxStack := 5, maxLocals := 7, code := code, exceptionTable := #[], attributes := #[] }
def k1m1 : Method := { name := "law", desc := "(J)Z", sig := { parameters := [.long], returnType := some .boolean }, accessFlags := 9, code := some k1c1 }
/-- com/example/verdict/verdict/rules/TimeoutSecondsPinLaw -/
def k1 : Class := { plain "com/example/verdict/verdict/rules/TimeoutSecondsPinLaw" (some 0) with
  accessFlags := 49
  interfaces := #[]
  cf := some (fileOf pool1 21 #[] #[{ accessFlags := 1, nameIndex := 5, descriptorIndex := 6, attributes := #[] }, { accessFlags := 9, nameIndex := 25, descriptorIndex := 26, attributes := #[] }] 49 2 #[] #[])
  fields := #[]
  methods := #[k1m0, k1m1]
  instanceTypes := #[]
  staticTypes := #[]
  resolved := Array.replicate 32 none
  statics := none }

def pool2 : Array CpInfo := pool [(1, .class_ 2), (0, u "com/example/verdict/verdict/model/TestRule"), (0, .class_ 4), (0, u "java/lang/Object")] 4

/-- com/example/verdict/verdict/model/TestRule -/
def k2 : Class := { plain "com/example/verdict/verdict/model/TestRule" (some 0) with
  accessFlags := 1537
  interfaces := #[]
  cf := some (fileOf pool2 1 #[] #[] 1537 3 #[] #[])
  fields := #[]
  methods := #[]
  instanceTypes := #[]
  staticTypes := #[]
  resolved := Array.replicate 9 none
  statics := none }

def pool3 : Array CpInfo := pool [(1, .methodref 2 3), (0, .class_ 4), (0, .nameAndType 5 6), (0, u "java/lang/Object"), (0, u "<init>"), (0, u "()V"), (9, .fieldref 17 18), (0, .class_ 19), (0, .nameAndType 20 21), (0, u "com/example/verdict/verdict/rules/Timeout"), (0, u "_millis"), (0, u "J"), (0, .methodref 17 23), (0, .nameAndType 5 24), (0, u "(J)V"), (0, .fieldref 26 27), (0, .class_ 28), (0, .nameAndType 29 30), (0, u "java/util/concurrent/TimeUnit"), (0, u "SECONDS"), (0, u "Ljava/util/concurrent/TimeUnit;"), (0, .methodref 26 32), (0, .nameAndType 33 34), (0, u "toMillis"), (0, u "(J)J"), (0, .class_ 36), (0, u "com/example/verdict/verdict/rules/Timeout$LimitedThread"), (8, .class_ 46), (0, u "com/example/verdict/verdict/rules/Timeout$1"), (0, .methodref 45 48), (0, .nameAndType 5 49), (0, u "(Lcom/example/verdict/verdict/rules/Timeout;Lcom/example/verdict/verdict/model/Statement;Lcom/example/verdict/verdict/model/Description;)V"), (89, .class_ 140), (0, u "com/example/verdict/verdict/model/TestRule"), (4, u "(J)Lcom/example/verdict/verdict/rules/Timeout;"), (0, u "seconds"), (2, u "apply"), (0, u "(Lcom/example/verdict/verdict/model/Statement;Lcom/example/verdict/verdict/model/Description;)Lcom/example/verdict/verdict/model/Statement;")] 51

def k3c0 : Code := { maxStack := 4, maxLocals := 3, code := prog_41_method_1_code, exceptionTable := #[], attributes := #[] }
def k3m0 : Method := { name := "<init>", desc := "(J)V", sig := { parameters := [.long], returnType := none }, accessFlags := 1, code := some k3c0 }
def k3c1 : Code := { maxStack := 5, maxLocals := 2, code := prog_41_method_3_code, exceptionTable := #[], attributes := #[] }
def k3m1 : Method := { name := "seconds", desc := "(J)Lcom/example/verdict/verdict/rules/Timeout;", sig := { parameters := [.long], returnType := some (.object "com/example/verdict/verdict/rules/Timeout") }, accessFlags := 9, code := some k3c1 }
def k3c2 : Code := { maxStack := 5, maxLocals := 4, code := prog_41_method_5_code, exceptionTable := #[], attributes := #[] }
def k3m2 : Method := { name := "apply", desc := "(Lcom/example/verdict/verdict/model/Statement;Lcom/example/verdict/verdict/model/Description;)Lcom/example/verdict/verdict/model/Statement;", sig := { parameters := [(.object "com/example/verdict/verdict/model/Statement"), (.object "com/example/verdict/verdict/model/Description")], returnType := some (.object "com/example/verdict/verdict/model/Statement") }, accessFlags := 1, code := some k3c2 }
/-- com/example/verdict/verdict/rules/Timeout -/
def k3 : Class := { plain "com/example/verdict/verdict/rules/Timeout" (some 0) with
  accessFlags := 33
  interfaces := #[2]
  cf := some (fileOf pool3 17 #[.nestMembers #[35, 45]] #[{ accessFlags := 1, nameIndex := 5, descriptorIndex := 24, attributes := #[] }, { accessFlags := 9, nameIndex := 146, descriptorIndex := 145, attributes := #[] }, { accessFlags := 1, nameIndex := 149, descriptorIndex := 150, attributes := #[] }] 33 2 #[139] #[{ accessFlags := 18, nameIndex := 20, descriptorIndex := 21, attributes := #[] }])
  fields := #[{ name := "_millis", type := .long, accessFlags := 18, slot := 0, constantValue := 0 }]
  methods := #[k3m0, k3m1, k3m2]
  instanceTypes := #[.long]
  staticTypes := #[]
  resolved := Array.replicate 202 none
  statics := none }

def pool4 : Array CpInfo := pool [(1, .class_ 2), (0, u "java/lang/constant/Constable"), (0, .class_ 4), (0, u "java/lang/Object")] 6

/-- java/lang/constant/Constable -/
def k4 : Class := { plain "java/lang/constant/Constable" (some 0) with
  accessFlags := 1537
  interfaces := #[]
  cf := some (fileOf pool4 1 #[] #[] 1537 3 #[] #[])
  fields := #[]
  methods := #[]
  instanceTypes := #[]
  staticTypes := #[]
  resolved := Array.replicate 11 none
  statics := none }

def pool5 : Array CpInfo := pool [(1, .class_ 2), (0, u "java/lang/Comparable"), (0, .class_ 4), (0, u "java/lang/Object")] 7

/-- java/lang/Comparable -/
def k5 : Class := { plain "java/lang/Comparable" (some 0) with
  accessFlags := 1537
  interfaces := #[]
  cf := some (fileOf pool5 1 #[] #[] 1537 3 #[] #[])
  fields := #[]
  methods := #[]
  instanceTypes := #[]
  staticTypes := #[]
  resolved := Array.replicate 12 none
  statics := none }

def pool6 : Array CpInfo := pool [(1, .class_ 2), (0, u "java/io/Serializable"), (0, .class_ 4), (0, u "java/lang/Object")] 2

/-- java/io/Serializable -/
def k6 : Class := { plain "java/io/Serializable" (some 0) with
  accessFlags := 1537
  interfaces := #[]
  cf := some (fileOf pool6 1 #[] #[] 1537 3 #[] #[])
  fields := #[]
  methods := #[]
  instanceTypes := #[]
  staticTypes := #[]
  resolved := Array.replicate 7 none
  statics := none }

def pool7 : Array CpInfo := pool [(2, .class_ 4), (1, u "java/lang/Enum"), (0, u "name"), (0, u "Ljava/lang/String;"), (2, u "ordinal"), (0, u "I"), (1, .class_ 14), (1, u "java/lang/Object"), (4, u "hash"), (86, .class_ 108), (1, u "java/lang/Enum$EnumDesc"), (2, .class_ 112), (0, u "java/lang/constant/Constable"), (0, .class_ 114), (0, u "java/lang/Comparable"), (0, .class_ 116), (0, u "java/io/Serializable")] 87

/-- java/lang/Enum -/
def k7 : Class := { plain "java/lang/Enum" (some 0) with
  accessFlags := 1057
  interfaces := #[4, 5, 6]
  cf := some (fileOf pool7 2 #[.nestMembers #[106]] #[] 1057 12 #[111, 113, 115] #[{ accessFlags := 18, nameIndex := 5, descriptorIndex := 6, attributes := #[] }, { accessFlags := 18, nameIndex := 9, descriptorIndex := 10, attributes := #[] }, { accessFlags := 2, nameIndex := 19, descriptorIndex := 10, attributes := #[] }])
  fields := #[{ name := "name", type := (.object "java/lang/String"), accessFlags := 18, slot := 0, constantValue := 0 }, { name := "ordinal", type := .int, accessFlags := 18, slot := 1, constantValue := 0 }, { name := "hash", type := .int, accessFlags := 2, slot := 2, constantValue := 0 }]
  methods := #[]
  instanceTypes := #[(.object "java/lang/String"), .int, .int]
  staticTypes := #[]
  resolved := Array.replicate 204 none
  statics := none }

def pool8 : Array CpInfo := pool [(1, .class_ 2), (0, u "java/util/concurrent/TimeUnit"), (2, u "NANOSECONDS"), (0, u "Ljava/util/concurrent/TimeUnit;"), (2, u "MICROSECONDS"), (2, u "MILLISECONDS"), (2, u "SECONDS"), (2, u "MINUTES"), (2, u "HOURS"), (2, u "DAYS"), (2, u "$VALUES"), (0, u "[Ljava/util/concurrent/TimeUnit;"), (6, .class_ 37), (1, u "java/lang/Enum"), (6, .fieldref 1 45), (0, .nameAndType 46 47), (0, u "scale"), (0, u "J"), (2, .long 9223372036854775807), (3, u "maxNanos"), (4, u "microRatio"), (2, u "maxMicros"), (0, .long 1000000), (1, .fieldref 1 66), (0, .nameAndType 67 68), (0, u "milliRatio"), (0, u "I"), (0, .fieldref 1 70), (0, .nameAndType 71 47), (0, u "maxMillis"), (4, u "secRatio"), (2, u "maxSecs"), (9, u "(J)J"), (5, u "toMillis"), (67, .class_ 165), (1, u "java/util/concurrent/TimeUnit$1"), (46, u "NANO_SCALE"), (3, u "MICRO_SCALE"), (0, u "MILLI_SCALE"), (0, u "SECOND_SCALE"), (0, u "MINUTE_SCALE"), (0, u "HOUR_SCALE"), (0, u "DAY_SCALE")] 61

def k8c0 : Code := { maxStack := 6, maxLocals := 7, code := jdk_2799_method_9_code, exceptionTable := #[], attributes := #[] }
def k8m0 : Method := { name := "toMillis", desc := "(J)J", sig := { parameters := [.long], returnType := some .long }, accessFlags := 1, code := some k8c0 }
/-- java/util/concurrent/TimeUnit -/
def k8 : Class := { plain "java/util/concurrent/TimeUnit" (some 7) with
  accessFlags := 16433
  interfaces := #[]
  cf := some (fileOf pool8 1 #[.nestMembers #[163]] #[{ accessFlags := 1, nameIndex := 95, descriptorIndex := 89, attributes := #[] }] 16433 35 #[] #[{ accessFlags := 16409, nameIndex := 5, descriptorIndex := 6, attributes := #[] }, { accessFlags := 16409, nameIndex := 9, descriptorIndex := 6, attributes := #[] }, { accessFlags := 16409, nameIndex := 12, descriptorIndex := 6, attributes := #[] }, { accessFlags := 16409, nameIndex := 15, descriptorIndex := 6, attributes := #[] }, { accessFlags := 16409, nameIndex := 18, descriptorIndex := 6, attributes := #[] }, { accessFlags := 16409, nameIndex := 21, descriptorIndex := 6, attributes := #[] }, { accessFlags := 16409, nameIndex := 24, descriptorIndex := 6, attributes := #[] }, { accessFlags := 26, nameIndex := 212, descriptorIndex := 47, attributes := #[] }, { accessFlags := 26, nameIndex := 216, descriptorIndex := 47, attributes := #[] }, { accessFlags := 26, nameIndex := 217, descriptorIndex := 47, attributes := #[] }, { accessFlags := 26, nameIndex := 218, descriptorIndex := 47, attributes := #[] }, { accessFlags := 26, nameIndex := 219, descriptorIndex := 47, attributes := #[] }, { accessFlags := 26, nameIndex := 220, descriptorIndex := 47, attributes := #[] }, { accessFlags := 26, nameIndex := 221, descriptorIndex := 47, attributes := #[] }, { accessFlags := 18, nameIndex := 46, descriptorIndex := 47, attributes := #[] }, { accessFlags := 18, nameIndex := 54, descriptorIndex := 47, attributes := #[] }, { accessFlags := 18, nameIndex := 62, descriptorIndex := 47, attributes := #[] }, { accessFlags := 18, nameIndex := 71, descriptorIndex := 47, attributes := #[] }, { accessFlags := 18, nameIndex := 79, descriptorIndex := 47, attributes := #[] }, { accessFlags := 18, nameIndex := 59, descriptorIndex := 47, attributes := #[] }, { accessFlags := 18, nameIndex := 67, descriptorIndex := 68, attributes := #[] }, { accessFlags := 18, nameIndex := 76, descriptorIndex := 68, attributes := #[] }, { accessFlags := 4122, nameIndex := 27, descriptorIndex := 28, attributes := #[] }])
  fields := #[{ name := "NANOSECONDS", type := (.object "java/util/concurrent/TimeUnit"), accessFlags := 16409, slot := 0, constantValue := 0 }, { name := "MICROSECONDS", type := (.object "java/util/concurrent/TimeUnit"), accessFlags := 16409, slot := 1, constantValue := 0 }, { name := "MILLISECONDS", type := (.object "java/util/concurrent/TimeUnit"), accessFlags := 16409, slot := 2, constantValue := 0 }, { name := "SECONDS", type := (.object "java/util/concurrent/TimeUnit"), accessFlags := 16409, slot := 3, constantValue := 0 }, { name := "MINUTES", type := (.object "java/util/concurrent/TimeUnit"), accessFlags := 16409, slot := 4, constantValue := 0 }, { name := "HOURS", type := (.object "java/util/concurrent/TimeUnit"), accessFlags := 16409, slot := 5, constantValue := 0 }, { name := "DAYS", type := (.object "java/util/concurrent/TimeUnit"), accessFlags := 16409, slot := 6, constantValue := 0 }, { name := "NANO_SCALE", type := .long, accessFlags := 26, slot := 7, constantValue := 0 }, { name := "MICRO_SCALE", type := .long, accessFlags := 26, slot := 8, constantValue := 0 }, { name := "MILLI_SCALE", type := .long, accessFlags := 26, slot := 9, constantValue := 0 }, { name := "SECOND_SCALE", type := .long, accessFlags := 26, slot := 10, constantValue := 0 }, { name := "MINUTE_SCALE", type := .long, accessFlags := 26, slot := 11, constantValue := 0 }, { name := "HOUR_SCALE", type := .long, accessFlags := 26, slot := 12, constantValue := 0 }, { name := "DAY_SCALE", type := .long, accessFlags := 26, slot := 13, constantValue := 0 }, { name := "scale", type := .long, accessFlags := 18, slot := 3, constantValue := 0 }, { name := "maxNanos", type := .long, accessFlags := 18, slot := 4, constantValue := 0 }, { name := "maxMicros", type := .long, accessFlags := 18, slot := 5, constantValue := 0 }, { name := "maxMillis", type := .long, accessFlags := 18, slot := 6, constantValue := 0 }, { name := "maxSecs", type := .long, accessFlags := 18, slot := 7, constantValue := 0 }, { name := "microRatio", type := .long, accessFlags := 18, slot := 8, constantValue := 0 }, { name := "milliRatio", type := .int, accessFlags := 18, slot := 9, constantValue := 0 }, { name := "secRatio", type := .int, accessFlags := 18, slot := 10, constantValue := 0 }, { name := "$VALUES", type := (.array (.object "java/util/concurrent/TimeUnit")), accessFlags := 4122, slot := 14, constantValue := 0 }]
  methods := #[k8m0]
  instanceTypes := #[(.object "java/lang/String"), .int, .int, .long, .long, .long, .long, .long, .long, .int, .int]
  staticTypes := #[(.object "java/util/concurrent/TimeUnit"), (.object "java/util/concurrent/TimeUnit"), (.object "java/util/concurrent/TimeUnit"), (.object "java/util/concurrent/TimeUnit"), (.object "java/util/concurrent/TimeUnit"), (.object "java/util/concurrent/TimeUnit"), (.object "java/util/concurrent/TimeUnit"), .long, .long, .long, .long, .long, .long, .long, (.array (.object "java/util/concurrent/TimeUnit"))]
  resolved := Array.replicate 283 none
  statics := some 0 }

def pool9 : Array CpInfo := pool [(1, .methodref 2 3), (0, .class_ 4), (0, .nameAndType 5 6), (0, u "java/lang/Object"), (0, u "<init>"), (0, u "()V"), (0, .class_ 8), (0, u "com/example/verdict/verdict/model/Statement")] 8

def k9c0 : Code := { maxStack := 1, maxLocals := 1, code := prog_24_method_1_code, exceptionTable := #[], attributes := #[] }
def k9m0 : Method := { name := "<init>", desc := "()V", sig := { parameters := [], returnType := none }, accessFlags := 1, code := some k9c0 }
/-- com/example/verdict/verdict/model/Statement -/
def k9 : Class := { plain "com/example/verdict/verdict/model/Statement" (some 0) with
  accessFlags := 1057
  interfaces := #[]
  cf := some (fileOf pool9 7 #[] #[{ accessFlags := 1, nameIndex := 5, descriptorIndex := 6, attributes := #[] }] 1057 2 #[] #[])
  fields := #[]
  methods := #[k9m0]
  instanceTypes := #[]
  staticTypes := #[]
  resolved := Array.replicate 17 none
  statics := none }

def pool10 : Array CpInfo := pool [(1, .fieldref 2 3), (0, .class_ 4), (0, .nameAndType 5 6), (0, u "com/example/verdict/verdict/rules/Timeout$1"), (0, u "this$0"), (0, u "Lcom/example/verdict/verdict/rules/Timeout;"), (0, .fieldref 2 8), (0, .nameAndType 9 10), (0, u "val$base"), (0, u "Lcom/example/verdict/verdict/model/Statement;"), (0, .fieldref 2 12), (0, .nameAndType 13 14), (0, u "val$description"), (0, u "Lcom/example/verdict/verdict/model/Description;"), (0, .methodref 16 17), (0, .class_ 18), (0, .nameAndType 19 20), (0, u "com/example/verdict/verdict/model/Statement"), (0, u "<init>"), (0, u "()V"), (1, .class_ 24), (1, u "com/example/verdict/verdict/rules/Timeout"), (2, u "(Lcom/example/verdict/verdict/rules/Timeout;Lcom/example/verdict/verdict/model/Statement;Lcom/example/verdict/verdict/model/Description;)V")] 15

def k10c0 : Code := { maxStack := 2, maxLocals := 4, code := prog_42_method_1_code, exceptionTable := #[], attributes := #[] }
def k10m0 : Method := { name := "<init>", desc := "(Lcom/example/verdict/verdict/rules/Timeout;Lcom/example/verdict/verdict/model/Statement;Lcom/example/verdict/verdict/model/Description;)V", sig := { parameters := [(.object "com/example/verdict/verdict/rules/Timeout"), (.object "com/example/verdict/verdict/model/Statement"), (.object "com/example/verdict/verdict/model/Description")], returnType := none }, accessFlags := 0, code := some k10c0 }
/-- com/example/verdict/verdict/rules/Timeout$1 -/
def k10 : Class := { plain "com/example/verdict/verdict/rules/Timeout$1" (some 9) with
  accessFlags := 32
  interfaces := #[]
  cf := some (fileOf pool10 2 #[.nestHost 22] #[{ accessFlags := 0, nameIndex := 19, descriptorIndex := 27, attributes := #[] }] 32 16 #[] #[{ accessFlags := 4112, nameIndex := 9, descriptorIndex := 10, attributes := #[] }, { accessFlags := 4112, nameIndex := 13, descriptorIndex := 14, attributes := #[] }, { accessFlags := 4112, nameIndex := 5, descriptorIndex := 6, attributes := #[] }])
  fields := #[{ name := "val$base", type := (.object "com/example/verdict/verdict/model/Statement"), accessFlags := 4112, slot := 0, constantValue := 0 }, { name := "val$description", type := (.object "com/example/verdict/verdict/model/Description"), accessFlags := 4112, slot := 1, constantValue := 0 }, { name := "this$0", type := (.object "com/example/verdict/verdict/rules/Timeout"), accessFlags := 4112, slot := 2, constantValue := 0 }]
  methods := #[k10m0]
  instanceTypes := #[(.object "com/example/verdict/verdict/model/Statement"), (.object "com/example/verdict/verdict/model/Description"), (.object "com/example/verdict/verdict/rules/Timeout")]
  staticTypes := #[]
  resolved := Array.replicate 43 none
  statics := none }

def pool11 : Array CpInfo := pool [(1, u "java/lang/Cloneable"), (0, .class_ 1), (0, u "java/lang/Object"), (0, .class_ 3)] 3

/-- java/lang/Cloneable -/
def k11 : Class := { plain "java/lang/Cloneable" (some 0) with
  accessFlags := 1537
  interfaces := #[]
  cf := some (fileOf pool11 2 #[] #[] 1537 4 #[] #[])
  fields := #[]
  methods := #[]
  instanceTypes := #[]
  staticTypes := #[]
  resolved := Array.replicate 8 none
  statics := none }

/-- the primitive byte -/
def k12 : Class := { plain "byte" none with kind := .primitive 'B', accessFlags := 0x411 }
/-- [B -/
def k13 : Class := { plain "[B" (some 0) with kind := .array 12 .byte, interfaces := #[11, 6], accessFlags := 1041 }

/-- the primitive int -/
def k14 : Class := { plain "int" none with kind := .primitive 'I', accessFlags := 0x411 }
/-- [I -/
def k15 : Class := { plain "[I" (some 0) with kind := .array 14 .int, interfaces := #[11, 6], accessFlags := 1041 }

def heap : Heap := #[{ cls := 8, slots := #[.null, .null, .null, .ref 1, .null, .null, .null, .long 0, .long 0, .long 0, .long 0, .long 0, .long 0, .long 0, .null], vm := .statics 8 },
  { cls := 8, slots := #[.ref 2, .int 3, .int 0, .long 1000000000, .long 9223372036, .long 9223372036854, .long 9223372036854775, .long 9223372036854775807, .long 1000000, .int 1000, .int 1], vm := .none },
  { cls := 16, slots := #[], vm := .none }]
def k16 : Class := plain "java/lang/String" (some 0)
def classes : Array Class := #[k0, k1, k2, k3, k4, k5, k6, k7, k8, k9, k10, k11, k12, k13, k14, k15, k16]
def interned : List (Array UInt16 × Addr) := []
def slotsUsed : Nat := 26
def theMethod : MethodId := ⟨1, 1⟩
def args0 : Array Value := #[.long 5]
def aboutOver (below : List Frame) : State where
  vm := { classes := classes, interned := interned.toArray }
  heap := heap
  slotsUsed := slotsUsed
  threads := #[{ frames := .invoking theMethod args0 :: below }]
def below0 : List Frame := [.native { method := ⟨0, 0⟩, args := #[] }]
def about1 : State := aboutOver below0
def p0 : Program := .bare "" "" ""
def e0 : Env := launch0.env 0 0 0
theorem w_frames : about1.frames = Frame.invoking theMethod args0 :: below0 := rfl
set_option maxRecDepth 65536 in
theorem w_args : argsFit about1.vm theMethod args0 = true := by decide +kernel
set_option maxRecDepth 65536 in
theorem w_heap : heapFits about1 = true := by decide +kernel
set_option maxRecDepth 65536 in
theorem w_runnable : about1.curStatus? = some .runnable := by decide +kernel
set_option maxRecDepth 65536 in
theorem w_alone : about1.alone = true := by decide +kernel
set_option maxRecDepth 65536 in
theorem w_named : about1.methodNamed? x = some theMethod := by decide +kernel
set_option maxRecDepth 65536 in
theorem w_hears : about1.hears theMethod below0 = true := by decide +kernel
set_option maxRecDepth 65536 in
theorem w_ripe : about1.ripe theMethod args0 below0 = true := by decide +kernel
theorem w_running : about1.status = .running := rfl
set_option maxRecDepth 65536 in
theorem w_room : about1.hasRoom e0.platform room_1 = true :=
  launch0.hasRoom_least _ room_1 (by decide +kernel) (by decide +kernel) (by decide +kernel) (by decide +kernel) (by decide +kernel) (by decide +kernel)
theorem allAtoms_all (ts : List Jvm.Cond) (a : Array Jvm.Value) (st : Jvm.State) : (allAtoms ts).before a st = ts.all (fun c => c.before a st) := by
  induction ts with
  | nil => rfl
  | cons c t ih =>
    show (Jvm.Cond.and c (allAtoms t)).before a st = _
    rw [Jvm.Cond.before_and, ih, List.all_cons]
def words1 : List Jvm.Cond := Jvm.Cond.code x code maxLocals ret :: tables_1
/-- a 'code' word, met by the world's own term for the bytes: nothing is compared byte by byte -/
theorem code_word {y : MethodName} {bytes : ByteArray} {mx : Nat} {rt : Option FieldType} {a : Array Value} {s : State} {m : MethodId} {meth : Method} {c : Code} (h1 : s.methodNamed? y = some m) (h2 : s.vm.method? m = some meth) (h3 : meth.code = some c) (h4 : c.code = bytes)
    (h5 : (c.maxLocals == mx && c.exceptionTable.isEmpty && decide (c.maxStack ≤ mostOperands) && decide (meth.sig.returnType = rt) && !meth.locks && decide (parseMethodDescriptor y.desc = some meth.sig)) = true) : (Jvm.Cond.code y bytes mx rt).before a s = true := by
  simp only [Bool.and_eq_true, beq_iff_eq, Bool.not_eq_true', decide_eq_true_eq] at h5
  obtain ⟨⟨⟨⟨⟨g1, g2⟩, g3⟩, g4⟩, g5⟩, g6⟩ := h5
  simp [Cond.before, Cond.holds, Cond.value, h1, h2, h3, h4, g1, g2, g3, g4, g5, g6]
def isCode : Jvm.Cond → Bool
  | .code _ _ _ _ => true
  | _ => false
theorem all_split {L : List Jvm.Cond} {P : Jvm.Cond → Bool} (h1 : L.all (fun c => isCode c || P c) = true) (h2 : ∀ c ∈ L.filter isCode, P c = true) : L.all P = true := by
  refine List.all_eq_true.mpr fun c hc => ?_
  have h := List.all_eq_true.mp h1 c hc
  rcases Bool.eq_false_or_eq_true (isCode c) with hi | hi
  · exact h2 c (List.mem_filter.mpr ⟨hc, hi⟩)
  · simpa [hi] using h
set_option maxRecDepth 65536 in
theorem w_c0 : (Jvm.Cond.code x code maxLocals ret).before args0 about1 = true := code_word (m := ⟨1, 1⟩) (meth := k1m1) (c := k1c1) (by decide +kernel) rfl rfl rfl (by decide +kernel)
set_option maxRecDepth 65536 in
theorem w_c1 : (Jvm.Cond.code ({ cls := "com/example/verdict/verdict/rules/Timeout", name := "seconds", desc := "(J)Lcom/example/verdict/verdict/rules/Timeout;" } : Jvm.MethodName) prog_41_method_3_code (2 : Nat) (Option.some (Jvm.ClassFile.FieldType.object "com/example/verdict/verdict/rules/Timeout"))).before args0 about1 = true := code_word (m := ⟨3, 1⟩) (meth := k3m1) (c := k3c1) (by decide +kernel) rfl rfl rfl (by decide +kernel)
set_option maxRecDepth 65536 in
theorem w_c2 : (Jvm.Cond.code ({ cls := "java/util/concurrent/TimeUnit", name := "toMillis", desc := "(J)J" } : Jvm.MethodName) jdk_2799_method_9_code (7 : Nat) (Option.some Jvm.ClassFile.FieldType.long)).before args0 about1 = true := code_word (m := ⟨8, 0⟩) (meth := k8m0) (c := k8c0) (by decide +kernel) rfl rfl rfl (by decide +kernel)
set_option maxRecDepth 65536 in
theorem w_c3 : (Jvm.Cond.code ({ cls := "com/example/verdict/verdict/rules/Timeout", name := "<init>", desc := "(J)V" } : Jvm.MethodName) prog_41_method_1_code (3 : Nat) (Option.none : Option Jvm.ClassFile.FieldType)).before args0 about1 = true := code_word (m := ⟨3, 0⟩) (meth := k3m0) (c := k3c0) (by decide +kernel) rfl rfl rfl (by decide +kernel)
set_option maxRecDepth 65536 in
theorem w_c4 : (Jvm.Cond.code ({ cls := "java/lang/Object", name := "<init>", desc := "()V" } : Jvm.MethodName) object_method_1_code (1 : Nat) (Option.none : Option Jvm.ClassFile.FieldType)).before args0 about1 = true := code_word (m := ⟨0, 0⟩) (meth := k0m0) (c := k0c0) (by decide +kernel) rfl rfl rfl (by decide +kernel)
set_option maxRecDepth 65536 in
theorem w_c5 : (Jvm.Cond.code ({ cls := "com/example/verdict/verdict/rules/Timeout", name := "apply", desc := "(Lcom/example/verdict/verdict/model/Statement;Lcom/example/verdict/verdict/model/Description;)Lcom/example/verdict/verdict/model/Statement;" } : Jvm.MethodName) prog_41_method_5_code (4 : Nat) (Option.some (Jvm.ClassFile.FieldType.object "com/example/verdict/verdict/model/Statement"))).before args0 about1 = true := code_word (m := ⟨3, 2⟩) (meth := k3m2) (c := k3c2) (by decide +kernel) rfl rfl rfl (by decide +kernel)
set_option maxRecDepth 65536 in
theorem w_c6 : (Jvm.Cond.code ({ cls := "com/example/verdict/verdict/rules/Timeout$1", name := "<init>", desc := "(Lcom/example/verdict/verdict/rules/Timeout;Lcom/example/verdict/verdict/model/Statement;Lcom/example/verdict/verdict/model/Description;)V" } : Jvm.MethodName) prog_42_method_1_code (4 : Nat) (Option.none : Option Jvm.ClassFile.FieldType)).before args0 about1 = true := code_word (m := ⟨10, 0⟩) (meth := k10m0) (c := k10c0) (by decide +kernel) rfl rfl rfl (by decide +kernel)
set_option maxRecDepth 65536 in
theorem w_c7 : (Jvm.Cond.code ({ cls := "com/example/verdict/verdict/model/Statement", name := "<init>", desc := "()V" } : Jvm.MethodName) prog_24_method_1_code (1 : Nat) (Option.none : Option Jvm.ClassFile.FieldType)).before args0 about1 = true := code_word (m := ⟨9, 0⟩) (meth := k9m0) (c := k9c0) (by decide +kernel) rfl rfl rfl (by decide +kernel)
def codes1 : List Jvm.Cond := [Jvm.Cond.code x code maxLocals ret, Jvm.Cond.code ({ cls := "com/example/verdict/verdict/rules/Timeout", name := "seconds", desc := "(J)Lcom/example/verdict/verdict/rules/Timeout;" } : Jvm.MethodName) prog_41_method_3_code (2 : Nat) (Option.some (Jvm.ClassFile.FieldType.object "com/example/verdict/verdict/rules/Timeout")), Jvm.Cond.code ({ cls := "java/util/concurrent/TimeUnit", name := "toMillis", desc := "(J)J" } : Jvm.MethodName) jdk_2799_method_9_code (7 : Nat) (Option.some Jvm.ClassFile.FieldType.long), Jvm.Cond.code ({ cls := "com/example/verdict/verdict/rules/Timeout", name := "<init>", desc := "(J)V" } : Jvm.MethodName) prog_41_method_1_code (3 : Nat) (Option.none : Option Jvm.ClassFile.FieldType), Jvm.Cond.code ({ cls := "java/lang/Object", name := "<init>", desc := "()V" } : Jvm.MethodName) object_method_1_code (1 : Nat) (Option.none : Option Jvm.ClassFile.FieldType), Jvm.Cond.code ({ cls := "com/example/verdict/verdict/rules/Timeout", name := "apply", desc := "(Lcom/example/verdict/verdict/model/Statement;Lcom/example/verdict/verdict/model/Description;)Lcom/example/verdict/verdict/model/Statement;" } : Jvm.MethodName) prog_41_method_5_code (4 : Nat) (Option.some (Jvm.ClassFile.FieldType.object "com/example/verdict/verdict/model/Statement")), Jvm.Cond.code ({ cls := "com/example/verdict/verdict/rules/Timeout$1", name := "<init>", desc := "(Lcom/example/verdict/verdict/rules/Timeout;Lcom/example/verdict/verdict/model/Statement;Lcom/example/verdict/verdict/model/Description;)V" } : Jvm.MethodName) prog_42_method_1_code (4 : Nat) (Option.none : Option Jvm.ClassFile.FieldType), Jvm.Cond.code ({ cls := "com/example/verdict/verdict/model/Statement", name := "<init>", desc := "()V" } : Jvm.MethodName) prog_24_method_1_code (1 : Nat) (Option.none : Option Jvm.ClassFile.FieldType)]
set_option maxRecDepth 65536 in
theorem codes_eq : words1.filter isCode = codes1 := rfl
theorem w_codes : ∀ c ∈ words1.filter isCode, c.before args0 about1 = true := by
  rw [codes_eq]
  intro c hc
  simp only [codes1, List.mem_cons, List.not_mem_nil, or_false] at hc
  rcases hc with rfl | rfl | rfl | rfl | rfl | rfl | rfl | rfl
  · exact w_c0
  · exact w_c1
  · exact w_c2
  · exact w_c3
  · exact w_c4
  · exact w_c5
  · exact w_c6
  · exact w_c7
set_option maxRecDepth 65536 in
theorem w_t1 : (words1.take 24).all (fun c => isCode c || c.before args0 about1) = true := by decide +kernel
set_option maxRecDepth 65536 in
theorem w_t2 : ((words1.drop 24).take 24).all (fun c => isCode c || c.before args0 about1) = true := by decide +kernel
set_option maxRecDepth 65536 in
theorem w_t3 : ((words1.drop 24).drop 24).all (fun c => isCode c || c.before args0 about1) = true := by decide +kernel
theorem w_tables : (allAtoms (Jvm.Cond.code x code maxLocals ret :: tables_1)).before args0 about1 = true := by
  rw [allAtoms_all]
  show words1.all (fun c => c.before args0 about1) = true
  refine all_split ?_ w_codes
  rw [← List.take_append_drop 24 words1, List.all_append, w_t1, ← List.take_append_drop 24 (words1.drop 24), List.all_append, w_t2, w_t3]
  rfl
set_option maxRecDepth 65536 in
theorem w_rest : rest_1_c.before args0 about1 = true := by decide +kernel
set_option maxRecDepth 65536 in
theorem w_case : (Jvm.Cond.and given_1 narrow_1).before args0 about1 = true := by decide +kernel
theorem w_applies : (headSpec (Jvm.Cond.code x code maxLocals ret :: tables_1) room_1).applies x e0.platform about1 = true :=
  (Spec.applies_iff w_frames).mpr ⟨w_running, w_runnable, w_alone, w_named, w_hears, w_ripe, w_room, w_tables⟩
theorem atStart : AtStart classFile x code maxLocals ret World_1 tables_1 room_1 Calls_1 rest_1 Pre_1 launch0 p0 e0 about1 theMethod args0 below0 :=
  ⟨lists_1, trivial, launch0.admits_env _ _ _, launch0.least_env, fairChoices_fair.cas, fairChoices_fair.clock, w_frames, w_args, w_heap, w_applies, trivial, w_rest, w_case⟩
end start1
theorem witness_1 : WitnessClaimed_1 := ⟨start1.p0, start1.e0, start1.about1, start1.theMethod, start1.args0, start1.below0, start1.atStart⟩
end Jvm.Pilot.@@N@@
