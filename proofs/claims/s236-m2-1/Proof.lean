import JvmDerived
import JvmDerived.Pilot.@@N@@Statement
import JvmDerived.Pilot.@@N@@Code
set_option linter.unusedVariables false
set_option linter.unusedSimpArgs false
namespace Jvm.RoadKit
open Sem ClassFile Op Lib Jvm.Stand Jvm.Free Jvm.LawKit
section New
variable {p : Program} {l : Launch} {e : Env} {R : Room} {s : State} {m : MethodId} {args : Array Value} {below : List Frame} {meth : Method} {c : Code} {T : State} {locs : List Loc} {cells slots : Nat}
theorem retI (X : Stand p l e R s m args below meth c T locs cells slots) (hx : p.tables.exec = Jvm.exec) {pc : Nat} {Ls : Array Slot} {z : Int32} {rest : List Value} (hret : meth.sig.returnType = some .int) (hd : decode c.code pc = .ok (.ireturn, 1)) {fs : List Frame}
    (hl : ∀ (f : JFrame) (acts : List Action), f.method = m → f.locked = none → f.entered = [] → (doReturn e (T.setTop f) acts (some (.int z))).1 = T.setFrames fs) : Steps p.tables e below (T.setTop (mkF m pc Ls (.int z :: rest))) (T.setFrames fs) := by
  have hm' : T.vm.method? m = some meth := X.method'
  have hn : narrow .int (.int z) = .int z := rfl
  show Steps p.tables e below (T.setTop { method := m, pc := pc, locals := Ls, stack := _ :: rest, locked := none }) _
  jvm_step X.here [X.here.top, hx, hd, hm', hret, hn]
  first | (intro acts; rw [hl _ acts rfl rfl rfl]) | rw [hl _ _ rfl rfl rfl]
  exact Steps.refl _
end New
end Jvm.RoadKit
namespace Jvm.Pilot.@@N@@
open Jvm Jvm.ClassFile Sem Op Lib Jvm.Free Jvm.Stand Jvm.LawKit Jvm.RoadKit Bundle Jvm.Pilot.@@N@@.Jvm.D
section OwnKit
/-! The own kit: a walk as one relation 'Rn' on (pc, locals, stack, heap): "from here the body runs to its promise". Each row is a library law read backwards, so that a walk may fork anywhere. -/
abbrev Wk : Type := Program × Env × State × MethodId × Array Value × List Frame × Method × Code
abbrev Wk.p (w : Wk) : Program := w.1
abbrev Wk.e (w : Wk) : Env := w.2.1
abbrev Wk.s (w : Wk) : State := w.2.2.1
abbrev Wk.m (w : Wk) : MethodId := w.2.2.2.1
abbrev Wk.a (w : Wk) : Array Value := w.2.2.2.2.1
abbrev Wk.b (w : Wk) : List Frame := w.2.2.2.2.2.1
abbrev Wk.t (w : Wk) : Method := w.2.2.2.2.2.2.1
abbrev Wk.c (w : Wk) : Code := w.2.2.2.2.2.2.2
/-- the run from (pc, Ls, S) over the heap h, with cs cells and ss slots made so far, ends in Q -/
def Rn (w : Wk) (l : Launch) (R : Room) (n0 : Nat) (Q : Option Value → Heap → Prop) (pc : Nat) (Ls : Array Slot) (S : List Value) (h : Heap) (cs ss : Nat) : Prop :=
  ∀ (T : State) (locs : List Loc), Stand w.p l w.e R w.s w.m w.a w.b w.t w.c T locs cs ss → T.heap = h → Fr n0 locs →
    ∃ s₂ o, Steps w.p.tables w.e w.b (T.setTop (mkF w.m pc Ls S)) s₂ ∧ s₂.status = .running ∧ Ended s₂ w.b o ∧ ∃ v L, o = .returned v ∧ (Fr n0 L ∧ Q v s₂.heap) ∧ FrameEnd w.s o s₂ L R.cells R.slots
/-- what stands throughout the walk of one body -/
def Cx (w : Wk) (Z : State) (a0 : Array Value) (own : String) (bytes : ByteArray) (ml : Nat) (rt : Option FieldType) (nm : String) : Prop :=
  w.p.tables.exec = Jvm.exec ∧ w.c.code = bytes ∧ w.c.maxLocals = ml ∧ w.s.vm.findClass own = some w.m.cls ∧ Z.Warmed39 w.s.vm ∧ w.t.sig.returnType = rt ∧ w.t.locks = false ∧ w.t.name = nm ∧ ∀ d ∈ tables_1, d.before a0 Z = true
/-- a body's contract at the arguments as' over the heap h0 -/
def Met (l : Launch) (Z : State) (y : MethodName) (bytes : ByteArray) (ml : Nat) (rt : Option FieldType) (rm : Room) (n0 : Nat) (ws : List Jvm.Cond) (as' : Array Value) (h0 : Heap) (Q : Option Value → Heap → Prop) : Prop :=
  MetFree l y (head1 (Jvm.Cond.code y bytes ml rt :: ws) rm) (fun a U => a = as' ∧ Z.Warmed39 U.vm ∧ U.heap = h0) (fun _ _ _ _ _ => True) (fun _ U o U' => ∃ v L, o = .returned v ∧ (Fr n0 L ∧ Q v U'.heap) ∧ FrameEnd U o U' L rm.cells rm.slots)
variable {w : Wk} {l : Launch} {R : Room} {n0 : Nat} {Q : Option Value → Heap → Prop} {pc q : Nat} {Ls Ls' : Array Slot} {S : List Value} {h : Heap} {cs ss : Nat} {Z : State} {a0 : Array Value} {own : String} {bytes : ByteArray} {ml : Nat} {rt : Option FieldType} {nm : String}
theorem Cx.x (K : Cx w Z a0 own bytes ml rt nm) : w.p.tables.exec = Jvm.exec := K.1
theorem Cx.cd (K : Cx w Z a0 own bytes ml rt nm) : w.c.code = bytes := K.2.1
theorem Cx.mx (K : Cx w Z a0 own bytes ml rt nm) : w.c.maxLocals = ml := K.2.2.1
theorem Cx.ow (K : Cx w Z a0 own bytes ml rt nm) : w.s.vm.findClass own = some w.m.cls := K.2.2.2.1
theorem Cx.z (K : Cx w Z a0 own bytes ml rt nm) : Z.Warmed39 w.s.vm := K.2.2.2.2.1
theorem Cx.ret (K : Cx w Z a0 own bytes ml rt nm) : w.t.sig.returnType = rt := K.2.2.2.2.2.1
theorem Cx.lk (K : Cx w Z a0 own bytes ml rt nm) : w.t.locks = false := K.2.2.2.2.2.2.1
theorem Cx.nme (K : Cx w Z a0 own bytes ml rt nm) : w.t.name = nm := K.2.2.2.2.2.2.2.1
theorem Cx.hw (K : Cx w Z a0 own bytes ml rt nm) : ∀ d ∈ tables_1, d.before a0 Z = true := K.2.2.2.2.2.2.2.2
theorem Met.intro {y : MethodName} {as' : Array Value} {h0 : Heap} {rm : Room} {ws : List Jvm.Cond} (hp : plainFor y = true) (hw : ∀ d ∈ tables_1, d.before a0 Z = true) (ef : ∀ m, entryFrame m as' ml = mkF m 0 Ls [])
    (k : ∀ w : Wk, Cx w Z a0 y.cls bytes ml rt y.name → Rn w l rm n0 Q 0 Ls [] h0 0 0) : Met l Z y bytes ml rt rm n0 ws as' h0 Q := by
  refine MetFree.of_bodySF hp hisR ?_
  intro p e s m args below meth c s₁ Bd hml0 hP hK
  obtain ⟨ha, hZ, hh⟩ := hP
  subst ha
  have e0 : s₁.heap = h0 := by rw [← hh, Bd.state]; rfl
  obtain ⟨s₂, o, h1, h2, h3, h4⟩ := k (p, e, s, m, args, below, meth, c) ⟨Bd.exec, Bd.bytes, hml0, findClass_of_methodNamed Bd.named, hZ, Bd.returns, Bd.notSynchronized, (name_of_methodNamed Bd.named Bd.method).1, hw⟩ s₁ [] (Stand.of_body Bd) e0 (Fr.nil n0)
  exact ⟨s₂, o, castTop (ef m) h1, h2, h3, h4⟩
theorem Rn.step {S' : List Value} (st : ∀ (T : State) (locs : List Loc), Stand w.p l w.e R w.s w.m w.a w.b w.t w.c T locs cs ss → ∀ t, Steps w.p.tables w.e w.b (T.setTop (mkF w.m q Ls' S')) t → Steps w.p.tables w.e w.b (T.setTop (mkF w.m pc Ls S)) t)
    (k : Rn w l R n0 Q q Ls' S' h cs ss) : Rn w l R n0 Q pc Ls S h cs ss := fun T locs X eT N => by
  obtain ⟨s₂, o, h1, r⟩ := k T locs X eT N
  exact ⟨s₂, o, st T locs X _ h1, r⟩
/-! plain steps -/
theorem Rn.iloadN (K : Cx w Z a0 own bytes ml rt nm) {k : Fin 4} {v : Int32} (hd : decode bytes pc = .ok (.iload_n k, 1)) (hl : Ls[k.val]? = some (.val (.int v))) (hq : pc + 1 = q) (r : Rn w l R n0 Q q Ls (.int v :: S) h cs ss) : Rn w l R n0 Q pc Ls S h cs ss := by
  subst hq; exact Rn.step (fun T locs X t k => XS.iloadN X.here K.x rfl (hb K.cd hd) hl k) r
theorem Rn.iload (K : Cx w Z a0 own bytes ml rt nm) {k : Nat} {v : Int32} (hd : decode bytes pc = .ok (.iload k, 2)) (hl : Ls[k]? = some (.val (.int v))) (hq : pc + 2 = q) (r : Rn w l R n0 Q q Ls (.int v :: S) h cs ss) : Rn w l R n0 Q pc Ls S h cs ss := by
  subst hq; exact Rn.step (fun T locs X t k => XS.iload X.here K.x rfl (hb K.cd hd) hl k) r
theorem Rn.lloadN (K : Cx w Z a0 own bytes ml rt nm) {k : Fin 4} {v : Int64} (hd : decode bytes pc = .ok (.lload_n k, 1)) (hl : Ls[k.val]? = some (.val (.long v))) (hq : pc + 1 = q) (r : Rn w l R n0 Q q Ls (.long v :: S) h cs ss) : Rn w l R n0 Q pc Ls S h cs ss := by
  subst hq; exact Rn.step (fun T locs X t k => XS.lloadN X.here K.x rfl (hb K.cd hd) hl k) r
theorem Rn.lload (K : Cx w Z a0 own bytes ml rt nm) {k : Nat} {v : Int64} (hd : decode bytes pc = .ok (.lload k, 2)) (hl : Ls[k]? = some (.val (.long v))) (hq : pc + 2 = q) (r : Rn w l R n0 Q q Ls (.long v :: S) h cs ss) : Rn w l R n0 Q pc Ls S h cs ss := by
  subst hq; exact Rn.step (fun T locs X t k => XS.lload X.here K.x rfl (hb K.cd hd) hl k) r
theorem Rn.aloadN (K : Cx w Z a0 own bytes ml rt nm) {k : Fin 4} {v : Value} (hd : decode bytes pc = .ok (.aload_n k, 1)) (hl : Ls[k.val]? = some (.val v)) (hv : v.isRef = true) (hq : pc + 1 = q) (r : Rn w l R n0 Q q Ls (v :: S) h cs ss) : Rn w l R n0 Q pc Ls S h cs ss := by
  subst hq; exact Rn.step (fun T locs X t k => XS.aloadN X.here K.x rfl (hb K.cd hd) hl hv k) r
theorem Rn.aload (K : Cx w Z a0 own bytes ml rt nm) {k : Nat} {v : Value} (hd : decode bytes pc = .ok (.aload k, 2)) (hl : Ls[k]? = some (.val v)) (hv : v.isRef = true) (hq : pc + 2 = q) (r : Rn w l R n0 Q q Ls (v :: S) h cs ss) : Rn w l R n0 Q pc Ls S h cs ss := by
  subst hq; exact Rn.step (fun T locs X t k => XS.aload X.here K.x rfl (hb K.cd hd) hl hv k) r
theorem Rn.istoreN (K : Cx w Z a0 own bytes ml rt nm) {k : Fin 4} {v : Int32} (hd : decode bytes pc = .ok (.istore_n k, 1)) (hl : storeLocals Ls k.val (.int v) = some Ls') (hq : pc + 1 = q) (r : Rn w l R n0 Q q Ls' S h cs ss) : Rn w l R n0 Q pc Ls (.int v :: S) h cs ss := by
  subst hq; exact Rn.step (fun T locs X t k => XS.istoreN X.here K.x rfl (hb K.cd hd) rfl hl k) r
theorem Rn.istore (K : Cx w Z a0 own bytes ml rt nm) {k : Nat} {v : Int32} (hd : decode bytes pc = .ok (.istore k, 2)) (hl : storeLocals Ls k (.int v) = some Ls') (hq : pc + 2 = q) (r : Rn w l R n0 Q q Ls' S h cs ss) : Rn w l R n0 Q pc Ls (.int v :: S) h cs ss := by
  subst hq; exact Rn.step (fun T locs X t k => XS.istore X.here K.x rfl (hb K.cd hd) rfl hl k) r
theorem Rn.lstoreN (K : Cx w Z a0 own bytes ml rt nm) {k : Fin 4} {v : Int64} (hd : decode bytes pc = .ok (.lstore_n k, 1)) (hl : storeLocals Ls k.val (.long v) = some Ls') (hq : pc + 1 = q) (r : Rn w l R n0 Q q Ls' S h cs ss) : Rn w l R n0 Q pc Ls (.long v :: S) h cs ss := by
  subst hq; exact Rn.step (fun T locs X t k => XS.lstoreN X.here K.x rfl (hb K.cd hd) rfl hl k) r
theorem Rn.lstore (K : Cx w Z a0 own bytes ml rt nm) {k : Nat} {v : Int64} (hd : decode bytes pc = .ok (.lstore k, 2)) (hl : storeLocals Ls k (.long v) = some Ls') (hq : pc + 2 = q) (r : Rn w l R n0 Q q Ls' S h cs ss) : Rn w l R n0 Q pc Ls (.long v :: S) h cs ss := by
  subst hq; exact Rn.step (fun T locs X t k => XS.lstore X.here K.x rfl (hb K.cd hd) rfl hl k) r
theorem Rn.astoreN (K : Cx w Z a0 own bytes ml rt nm) {k : Fin 4} {v : Value} (hd : decode bytes pc = .ok (.astore_n k, 1)) (hv : v.isRef = true) (hl : storeLocals Ls k.val v = some Ls') (hq : pc + 1 = q) (r : Rn w l R n0 Q q Ls' S h cs ss) : Rn w l R n0 Q pc Ls (v :: S) h cs ss := by
  subst hq; exact Rn.step (fun T locs X t k => XS.astoreN X.here K.x rfl (hb K.cd hd) rfl hv hl k) r
theorem Rn.astore (K : Cx w Z a0 own bytes ml rt nm) {k : Nat} {v : Value} (hd : decode bytes pc = .ok (.astore k, 2)) (hv : v.isRef = true) (hl : storeLocals Ls k v = some Ls') (hq : pc + 2 = q) (r : Rn w l R n0 Q q Ls' S h cs ss) : Rn w l R n0 Q pc Ls (v :: S) h cs ss := by
  subst hq; exact Rn.step (fun T locs X t k => XS.astore X.here K.x rfl (hb K.cd hd) rfl hv hl k) r
theorem Rn.iconst (K : Cx w Z a0 own bytes ml rt nm) {i : Int} (v : Int32) (hd : decode bytes pc = .ok (.iconst i, 1)) (hv : Int32.ofInt i = v) (hq : pc + 1 = q) (r : Rn w l R n0 Q q Ls (.int v :: S) h cs ss) : Rn w l R n0 Q pc Ls S h cs ss := by
  subst hq hv; exact Rn.step (fun T locs X t k => XS.iconst X.here K.x rfl (hb K.cd hd) k) r
theorem Rn.bipush (K : Cx w Z a0 own bytes ml rt nm) {i : Int} (v : Int32) (hd : decode bytes pc = .ok (.bipush i, 2)) (hv : (Int8.ofInt i).toInt32 = v) (hq : pc + 2 = q) (r : Rn w l R n0 Q q Ls (.int v :: S) h cs ss) : Rn w l R n0 Q pc Ls S h cs ss := by
  subst hq hv; exact Rn.step (fun T locs X t k => XS.bipush X.here K.x rfl (hb K.cd hd) k) r
theorem Rn.sipush (K : Cx w Z a0 own bytes ml rt nm) {i : Int} (v : Int32) (hd : decode bytes pc = .ok (.sipush i, 3)) (hv : (Int16.ofInt i).toInt32 = v) (hq : pc + 3 = q) (r : Rn w l R n0 Q q Ls (.int v :: S) h cs ss) : Rn w l R n0 Q pc Ls S h cs ss := by
  subst hq hv; exact Rn.step (fun T locs X t k => XS.sipush X.here K.x rfl (hb K.cd hd) k) r
theorem Rn.lconst (K : Cx w Z a0 own bytes ml rt nm) {i : Fin 2} (v : Int64) (hd : decode bytes pc = .ok (.lconst i, 1)) (hv : Int64.ofNat i = v) (hq : pc + 1 = q) (r : Rn w l R n0 Q q Ls (.long v :: S) h cs ss) : Rn w l R n0 Q pc Ls S h cs ss := by
  subst hq hv; exact Rn.step (fun T locs X t k => XS.lconst X.here K.x rfl (hb K.cd hd) k) r
theorem Rn.aconst_null (K : Cx w Z a0 own bytes ml rt nm) (hd : decode bytes pc = .ok (.aconst_null, 1)) (hq : pc + 1 = q) (r : Rn w l R n0 Q q Ls (.null :: S) h cs ss) : Rn w l R n0 Q pc Ls S h cs ss := by
  subst hq; exact Rn.step (fun T locs X t k => XS.aconstNull X.here K.x rfl (hb K.cd hd) k) r
theorem Rn.ldcI (K : Cx w Z a0 own bytes ml rt nm) {i : Nat} (v : Int32) (hi : Jvm.Cond.constant own i v ∈ tables_1) (hd : decode bytes pc = .ok (.ldc i, 2)) (hq : pc + 2 = q) (r : Rn w l R n0 Q q Ls (.int v :: S) h cs ss) : Rn w l R n0 Q pc Ls S h cs ss := by
  subst hq; exact Rn.step (fun T locs X t k => X.ldcI K.x K.ow (mvT K.z (K.hw _ hi)) rfl (hb K.cd hd) k) r
theorem Rn.ldc2J (K : Cx w Z a0 own bytes ml rt nm) {i : Nat} (v : Int64) (hi : Jvm.Cond.constantLong own i v ∈ tables_1) (hd : decode bytes pc = .ok (.ldc2_w i, 3)) (hq : pc + 3 = q) (r : Rn w l R n0 Q q Ls (.long v :: S) h cs ss) : Rn w l R n0 Q pc Ls S h cs ss := by
  subst hq; exact Rn.step (fun T locs X t k => X.ldc2J K.x K.ow (mvT K.z (K.hw _ hi)) rfl (hb K.cd hd) k) r
theorem Rn.iadd (K : Cx w Z a0 own bytes ml rt nm) {x y : Int32} (hd : decode bytes pc = .ok (.iadd, 1)) (hq : pc + 1 = q) (r : Rn w l R n0 Q q Ls (.int (x + y) :: S) h cs ss) : Rn w l R n0 Q pc Ls (.int y :: .int x :: S) h cs ss := by
  subst hq; exact Rn.step (fun T locs X t k => XS.iadd X.here K.x rfl (hb K.cd hd) rfl k) r
theorem Rn.isub (K : Cx w Z a0 own bytes ml rt nm) {x y : Int32} (hd : decode bytes pc = .ok (.isub, 1)) (hq : pc + 1 = q) (r : Rn w l R n0 Q q Ls (.int (x - y) :: S) h cs ss) : Rn w l R n0 Q pc Ls (.int y :: .int x :: S) h cs ss := by
  subst hq; exact Rn.step (fun T locs X t k => XS.isub X.here K.x rfl (hb K.cd hd) rfl k) r
theorem Rn.imul (K : Cx w Z a0 own bytes ml rt nm) {x y : Int32} (hd : decode bytes pc = .ok (.imul, 1)) (hq : pc + 1 = q) (r : Rn w l R n0 Q q Ls (.int (x * y) :: S) h cs ss) : Rn w l R n0 Q pc Ls (.int y :: .int x :: S) h cs ss := by
  subst hq; exact Rn.step (fun T locs X t k => XS.imul X.here K.x rfl (hb K.cd hd) rfl k) r
theorem Rn.iand (K : Cx w Z a0 own bytes ml rt nm) {x y : Int32} (hd : decode bytes pc = .ok (.iand, 1)) (hq : pc + 1 = q) (r : Rn w l R n0 Q q Ls (.int (x &&& y) :: S) h cs ss) : Rn w l R n0 Q pc Ls (.int y :: .int x :: S) h cs ss := by
  subst hq; exact Rn.step (fun T locs X t k => XS.iand X.here K.x rfl (hb K.cd hd) rfl k) r
theorem Rn.ior (K : Cx w Z a0 own bytes ml rt nm) {x y : Int32} (hd : decode bytes pc = .ok (.ior, 1)) (hq : pc + 1 = q) (r : Rn w l R n0 Q q Ls (.int (x ||| y) :: S) h cs ss) : Rn w l R n0 Q pc Ls (.int y :: .int x :: S) h cs ss := by
  subst hq; exact Rn.step (fun T locs X t k => XS.ior X.here K.x rfl (hb K.cd hd) rfl k) r
theorem Rn.iushr (K : Cx w Z a0 own bytes ml rt nm) {x y : Int32} (hd : decode bytes pc = .ok (.iushr, 1)) (hq : pc + 1 = q) (r : Rn w l R n0 Q q Ls (.int ((x.toUInt32 >>> (y &&& 31).toUInt32).toInt32) :: S) h cs ss) : Rn w l R n0 Q pc Ls (.int y :: .int x :: S) h cs ss := by
  subst hq; exact Rn.step (fun T locs X t k => XS.iushr X.here K.x rfl (hb K.cd hd) rfl k) r
theorem Rn.ishr (K : Cx w Z a0 own bytes ml rt nm) {x y : Int32} (hd : decode bytes pc = .ok (.ishr, 1)) (hq : pc + 1 = q) (r : Rn w l R n0 Q q Ls (.int (x >>> (y &&& 31)) :: S) h cs ss) : Rn w l R n0 Q pc Ls (.int y :: .int x :: S) h cs ss := by
  subst hq; exact Rn.step (fun T locs X t k => XS.ishr X.here K.x rfl (hb K.cd hd) rfl k) r
theorem Rn.irem (K : Cx w Z a0 own bytes ml rt nm) {x y : Int32} (hd : decode bytes pc = .ok (.irem, 1)) (hy : y ≠ 0) (hq : pc + 1 = q) (r : Rn w l R n0 Q q Ls (.int (x % y) :: S) h cs ss) : Rn w l R n0 Q pc Ls (.int y :: .int x :: S) h cs ss := by
  subst hq; exact Rn.step (fun T locs X t k => iremM X K.x rfl (hb K.cd hd) rfl hy k) r
theorem Rn.land (K : Cx w Z a0 own bytes ml rt nm) {x y : Int64} (hd : decode bytes pc = .ok (.land, 1)) (hq : pc + 1 = q) (r : Rn w l R n0 Q q Ls (.long (x &&& y) :: S) h cs ss) : Rn w l R n0 Q pc Ls (.long y :: .long x :: S) h cs ss := by
  subst hq; exact Rn.step (fun T locs X t k => XS.land X.here K.x rfl (hb K.cd hd) rfl k) r
theorem Rn.lmul (K : Cx w Z a0 own bytes ml rt nm) {x y : Int64} (hd : decode bytes pc = .ok (.lmul, 1)) (hq : pc + 1 = q) (r : Rn w l R n0 Q q Ls (.long (x * y) :: S) h cs ss) : Rn w l R n0 Q pc Ls (.long y :: .long x :: S) h cs ss := by
  subst hq; exact Rn.step (fun T locs X t k => XS.lmul X.here K.x rfl (hb K.cd hd) rfl k) r
theorem Rn.lneg (K : Cx w Z a0 own bytes ml rt nm) {x : Int64} (hd : decode bytes pc = .ok (.lneg, 1)) (hq : pc + 1 = q) (r : Rn w l R n0 Q q Ls (.long (-x) :: S) h cs ss) : Rn w l R n0 Q pc Ls (.long x :: S) h cs ss := by
  subst hq; exact Rn.step (fun T locs X t k => XS.lneg X.here K.x rfl (hb K.cd hd) rfl k) r
theorem Rn.lcmp (K : Cx w Z a0 own bytes ml rt nm) {x y : Int64} (hd : decode bytes pc = .ok (.lcmp, 1)) (hq : pc + 1 = q) (r : Rn w l R n0 Q q Ls (.int (lcmpW x y) :: S) h cs ss) : Rn w l R n0 Q pc Ls (.long y :: .long x :: S) h cs ss := by
  subst hq; exact Rn.step (fun T locs X t k => XS.lcmp X.here K.x rfl (hb K.cd hd) rfl k) r
theorem Rn.i2l (K : Cx w Z a0 own bytes ml rt nm) {x : Int32} (hd : decode bytes pc = .ok (.i2l, 1)) (hq : pc + 1 = q) (r : Rn w l R n0 Q q Ls (.long x.toInt64 :: S) h cs ss) : Rn w l R n0 Q pc Ls (.int x :: S) h cs ss := by
  subst hq; exact Rn.step (fun T locs X t k => XS.i2l X.here K.x rfl (hb K.cd hd) rfl k) r
theorem Rn.i2c (K : Cx w Z a0 own bytes ml rt nm) {x : Int32} (hd : decode bytes pc = .ok (.i2c, 1)) (hq : pc + 1 = q) (r : Rn w l R n0 Q q Ls (.int x.toUInt32.toUInt16.toUInt32.toInt32 :: S) h cs ss) : Rn w l R n0 Q pc Ls (.int x :: S) h cs ss := by
  subst hq; exact Rn.step (fun T locs X t k => XS.i2c X.here K.x rfl (hb K.cd hd) rfl k) r
theorem Rn.dup (K : Cx w Z a0 own bytes ml rt nm) {x : Value} (hd : decode bytes pc = .ok (.dup, 1)) (hc : x.category = 1) (hq : pc + 1 = q) (r : Rn w l R n0 Q q Ls (x :: x :: S) h cs ss) : Rn w l R n0 Q pc Ls (x :: S) h cs ss := by
  subst hq; exact Rn.step (fun T locs X t k => XS.dup X.here K.x rfl (hb K.cd hd) rfl hc k) r
theorem Rn.pop (K : Cx w Z a0 own bytes ml rt nm) {x : Value} (hd : decode bytes pc = .ok (.pop, 1)) (hc : x.category = 1) (hq : pc + 1 = q) (r : Rn w l R n0 Q q Ls S h cs ss) : Rn w l R n0 Q pc Ls (x :: S) h cs ss := by
  subst hq; exact Rn.step (fun T locs X t k => XS.pop X.here K.x rfl (hb K.cd hd) rfl hc k) r
theorem Rn.dup_x1 (K : Cx w Z a0 own bytes ml rt nm) {x y : Value} (hd : decode bytes pc = .ok (.dup_x1, 1)) (hc : x.category = 1) (hc' : y.category = 1) (hq : pc + 1 = q) (r : Rn w l R n0 Q q Ls (x :: y :: x :: S) h cs ss) : Rn w l R n0 Q pc Ls (x :: y :: S) h cs ss := by
  subst hq; exact Rn.step (fun T locs X t k => XS.dupX1 X.here K.x rfl (hb K.cd hd) rfl hc hc' k) r
theorem Rn.dup2L (K : Cx w Z a0 own bytes ml rt nm) {x : Int64} (hd : decode bytes pc = .ok (.dup2, 1)) (hq : pc + 1 = q) (r : Rn w l R n0 Q q Ls (.long x :: .long x :: S) h cs ss) : Rn w l R n0 Q pc Ls (.long x :: S) h cs ss := by
  subst hq; exact Rn.step (fun T locs X t k => XT.dup2L X.here K.x rfl (hb K.cd hd) rfl k) r
theorem Rn.iinc (K : Cx w Z a0 own bytes ml rt nm) {k : Nat} {i : Int} {x : Int32} (v : Int32) (hd : decode bytes pc = .ok (.iinc k i, 3)) (hv : Int32.ofInt i = v) (hl : Ls[k]? = some (.val (.int x))) (hl' : storeLocals Ls k (.int (x + v)) = some Ls') (hq : pc + 3 = q) (r : Rn w l R n0 Q q Ls' S h cs ss) : Rn w l R n0 Q pc Ls S h cs ss := by
  subst hq hv; exact Rn.step (fun T locs X t k => XS.iinc X.here K.x rfl (hb K.cd hd) hl hl' k) r
theorem Rn.goto (K : Cx w Z a0 own bytes ml rt nm) {o : Int} (hd : decode bytes pc = .ok (.goto o, 3)) (ho : 0 ≤ (pc : Int) + o) (hq : ((pc : Int) + o).toNat = q) (r : Rn w l R n0 Q q Ls S h cs ss) : Rn w l R n0 Q pc Ls S h cs ss :=
  Rn.step (fun T locs X t k => XS.goto X.here K.x rfl rfl (hb K.cd hd) ho hq k) r
theorem Rn.ifY (K : Cx w Z a0 own bytes ml rt nm) {cd : ClassFile.Cond} {x : Int32} {o : Int} (hd : decode bytes pc = .ok (.ifCond cd o, 3)) (hc : ifCond.holds cd x = true) (ho : 0 ≤ (pc : Int) + o) (hq : ((pc : Int) + o).toNat = q) (r : Rn w l R n0 Q q Ls S h cs ss) : Rn w l R n0 Q pc Ls (.int x :: S) h cs ss :=
  Rn.step (fun T locs X t k => XS.ifYes X.here K.x rfl rfl (hb K.cd hd) rfl hc ho hq k) r
theorem Rn.ifN (K : Cx w Z a0 own bytes ml rt nm) {cd : ClassFile.Cond} {x : Int32} {o : Int} (hd : decode bytes pc = .ok (.ifCond cd o, 3)) (hc : ifCond.holds cd x = false) (hq : pc + 3 = q) (r : Rn w l R n0 Q q Ls S h cs ss) : Rn w l R n0 Q pc Ls (.int x :: S) h cs ss := by
  subst hq; exact Rn.step (fun T locs X t k => XS.ifNo X.here K.x rfl (hb K.cd hd) rfl hc k) r
theorem Rn.icY (K : Cx w Z a0 own bytes ml rt nm) {cd : ClassFile.Cond} {x y : Int32} {o : Int} (hd : decode bytes pc = .ok (.if_icmp cd o, 3)) (hc : if_icmp.holds cd x y = true) (ho : 0 ≤ (pc : Int) + o) (hq : ((pc : Int) + o).toNat = q) (r : Rn w l R n0 Q q Ls S h cs ss) : Rn w l R n0 Q pc Ls (.int y :: .int x :: S) h cs ss :=
  Rn.step (fun T locs X t k => XS.icmpYes X.here K.x rfl rfl (hb K.cd hd) rfl hc ho hq k) r
theorem Rn.icN (K : Cx w Z a0 own bytes ml rt nm) {cd : ClassFile.Cond} {x y : Int32} {o : Int} (hd : decode bytes pc = .ok (.if_icmp cd o, 3)) (hc : if_icmp.holds cd x y = false) (hq : pc + 3 = q) (r : Rn w l R n0 Q q Ls S h cs ss) : Rn w l R n0 Q pc Ls (.int y :: .int x :: S) h cs ss := by
  subst hq; exact Rn.step (fun T locs X t k => XS.icmpNo X.here K.x rfl (hb K.cd hd) rfl hc k) r
theorem Rn.acY (K : Cx w Z a0 own bytes ml rt nm) {cd : ClassFile.ACond} {x y : Value} {o : Int} (hd : decode bytes pc = .ok (.if_acmp cd o, 3)) (h1 : x.isRef = true) (h2 : y.isRef = true) (hc : XT.acmp cd x y = true) (ho : 0 ≤ (pc : Int) + o) (hq : ((pc : Int) + o).toNat = q) (r : Rn w l R n0 Q q Ls S h cs ss) : Rn w l R n0 Q pc Ls (y :: x :: S) h cs ss :=
  Rn.step (fun T locs X t k => XT.acmpYes X.here K.x rfl rfl (hb K.cd hd) rfl h1 h2 hc ho hq k) r
theorem Rn.acN (K : Cx w Z a0 own bytes ml rt nm) {cd : ClassFile.ACond} {x y : Value} {o : Int} (hd : decode bytes pc = .ok (.if_acmp cd o, 3)) (h1 : x.isRef = true) (h2 : y.isRef = true) (hc : XT.acmp cd x y = false) (hq : pc + 3 = q) (r : Rn w l R n0 Q q Ls S h cs ss) : Rn w l R n0 Q pc Ls (y :: x :: S) h cs ss := by
  subst hq; exact Rn.step (fun T locs X t k => XT.acmpNo X.here K.x rfl (hb K.cd hd) rfl h1 h2 hc k) r
theorem Rn.nullY (K : Cx w Z a0 own bytes ml rt nm) {o : Int} (hd : decode bytes pc = .ok (.ifnull o, 3)) (ho : 0 ≤ (pc : Int) + o) (hq : ((pc : Int) + o).toNat = q) (r : Rn w l R n0 Q q Ls S h cs ss) : Rn w l R n0 Q pc Ls (.null :: S) h cs ss :=
  Rn.step (fun T locs X t k => XS.ifnullYes X.here K.x rfl rfl (hb K.cd hd) rfl ho hq k) r
theorem Rn.nullN (K : Cx w Z a0 own bytes ml rt nm) {o : Int} {b : Addr} (hd : decode bytes pc = .ok (.ifnull o, 3)) (hq : pc + 3 = q) (r : Rn w l R n0 Q q Ls S h cs ss) : Rn w l R n0 Q pc Ls (.ref b :: S) h cs ss := by
  subst hq; exact Rn.step (fun T locs X t k => XS.ifnullNo X.here K.x rfl (hb K.cd hd) rfl k) r
theorem Rn.nonnullY (K : Cx w Z a0 own bytes ml rt nm) {o : Int} {b : Addr} (hd : decode bytes pc = .ok (.ifnonnull o, 3)) (ho : 0 ≤ (pc : Int) + o) (hq : ((pc : Int) + o).toNat = q) (r : Rn w l R n0 Q q Ls S h cs ss) : Rn w l R n0 Q pc Ls (.ref b :: S) h cs ss :=
  Rn.step (fun T locs X t k => XS.ifnonnullYes X.here K.x rfl rfl (hb K.cd hd) rfl ho hq k) r
theorem Rn.nonnullN (K : Cx w Z a0 own bytes ml rt nm) {o : Int} (hd : decode bytes pc = .ok (.ifnonnull o, 3)) (hq : pc + 3 = q) (r : Rn w l R n0 Q q Ls S h cs ss) : Rn w l R n0 Q pc Ls (.null :: S) h cs ss := by
  subst hq; exact Rn.step (fun T locs X t k => XS.ifnonnullNo X.here K.x rfl (hb K.cd hd) rfl k) r
/-! the ends -/
theorem Rn.retN (K : Cx w Z a0 own bytes ml rt nm) {x : Int32} (t : FieldType) (ht : rt = some t) (ht' : t = .boolean ∨ t = .byte ∨ t = .char ∨ t = .short) (hd : decode bytes pc = .ok (.ireturn, 1)) (hc : cs ≤ R.cells) (hs : ss ≤ R.slots) (hQ : Q (some (.int (nar t x))) h) : Rn w l R n0 Q pc Ls (.int x :: S) h cs ss := fun T locs X eT N => by
  obtain ⟨fs, hr, hrun, hended, hW, hsame⟩ := X.leave (v := some (.int (nar t x))) (fun h => by rw [K.ret, ht] at h; cases h) K.lk
  exact ⟨_, _, Jvm.RoadKit.retN X K.x (K.ret.trans ht) ht' (hb K.cd hd) hr, hrun, hended, _, _, rfl, ⟨N, by rw [← eT] at hQ; exact hQ⟩, ⟨_, rfl⟩, hW, hsame.mono hc hs⟩
theorem Rn.retI (K : Cx w Z a0 own bytes ml rt nm) {x : Int32} (ht : rt = some .int) (hd : decode bytes pc = .ok (.ireturn, 1)) (hc : cs ≤ R.cells) (hs : ss ≤ R.slots) (hQ : Q (some (.int x)) h) : Rn w l R n0 Q pc Ls (.int x :: S) h cs ss := fun T locs X eT N => by
  obtain ⟨fs, hr, hrun, hended, hW, hsame⟩ := X.leave (v := some (.int x)) (fun h => by rw [K.ret, ht] at h; cases h) K.lk
  exact ⟨_, _, Jvm.RoadKit.retI X K.x (K.ret.trans ht) (hb K.cd hd) hr, hrun, hended, _, _, rfl, ⟨N, by rw [← eT] at hQ; exact hQ⟩, ⟨_, rfl⟩, hW, hsame.mono hc hs⟩
theorem Rn.retJ (K : Cx w Z a0 own bytes ml rt nm) {x : Int64} (ht : rt = some .long) (hd : decode bytes pc = .ok (.lreturn, 1)) (hc : cs ≤ R.cells) (hs : ss ≤ R.slots) (hQ : Q (some (.long x)) h) : Rn w l R n0 Q pc Ls [.long x] h cs ss := fun T locs X eT N => by
  obtain ⟨fs, hr, hrun, hended, hW, hsame⟩ := X.leave (v := some (.long x)) (fun h => by rw [K.ret, ht] at h; cases h) K.lk
  exact ⟨_, _, X.lreturnOut K.x (K.ret.trans ht) (hb K.cd hd) hr, hrun, hended, _, _, rfl, ⟨N, by rw [← eT] at hQ; exact hQ⟩, ⟨_, rfl⟩, hW, hsame.mono hc hs⟩
theorem Rn.retA (K : Cx w Z a0 own bytes ml rt nm) {v : Value} (t : FieldType) (hv : v.isRef = true) (ht : rt = some t) (ht' : t.isReference = true) (hd : decode bytes pc = .ok (.areturn, 1)) (hc : cs ≤ R.cells) (hs : ss ≤ R.slots) (hQ : Q (some v) h) : Rn w l R n0 Q pc Ls [v] h cs ss := fun T locs X eT N => by
  obtain ⟨fs, hr, hrun, hended, hW, hsame⟩ := X.leave (v := some v) (fun h => by rw [K.ret, ht] at h; cases h) K.lk
  exact ⟨_, _, X.areturnOut K.x hv (K.ret.trans ht) ht' (hb K.cd hd) hr, hrun, hended, _, _, rfl, ⟨N, by rw [← eT] at hQ; exact hQ⟩, ⟨_, rfl⟩, hW, hsame.mono hc hs⟩
theorem Rn.retV (K : Cx w Z a0 own bytes ml rt nm) (ht : rt = none) (hd : decode bytes pc = .ok (.return_, 1)) (hc : cs ≤ R.cells) (hs : ss ≤ R.slots) (hQ : Q none h) : Rn w l R n0 Q pc Ls [] h cs ss := fun T locs X eT N => by
  obtain ⟨fs, hr, hrun, hended, hW, hsame⟩ := X.leave (v := none) (fun _ => rfl) K.lk
  exact ⟨_, _, X.returnOut K.x (K.ret.trans ht) (hb K.cd hd) hr, hrun, hended, _, _, rfl, ⟨N, by rw [← eT] at hQ; exact hQ⟩, ⟨_, rfl⟩, hW, hsame.mono hc hs⟩
/-! fields and statics -/
theorem Rn.getS (K : Cx w Z a0 own bytes ml rt nm) {i : Nat} {C n d : String} {v : Value} (hi : Jvm.Cond.fieldLink own i C n d ∈ tables_1) (F : Sta Z h C n d v) (hd : decode bytes pc = .ok (.getstatic i, 3)) (hq : pc + 3 = q) (r : Rn w l R n0 Q q Ls (v :: S) h cs ss) : Rn w l R n0 Q pc Ls S h cs ss := fun T locs X eT N => by
  subst hq
  obtain ⟨T', X', e', st⟩ := getS2 X K.x K.z K.ow (host := "") (Or.inl (K.hw _ hi)) Via.refl eT F (g := mkF w.m pc Ls S) rfl (hb K.cd hd)
  obtain ⟨s₂, o, h1, r'⟩ := r T' locs X' e' N
  exact ⟨s₂, o, st _ h1, r'⟩
theorem Rn.getF (K : Cx w Z a0 own bytes ml rt nm) {i : Nat} {C O n d : String} {a : Addr} {v : Value} (hi : Jvm.Cond.fieldLink own i C n d ∈ tables_1) (via : Via Z C O n d) (F : Fld Z h a O n d v) (hd : decode bytes pc = .ok (.getfield i, 3)) (hq : pc + 3 = q) (r : Rn w l R n0 Q q Ls (v :: S) h cs ss) : Rn w l R n0 Q pc Ls (.ref a :: S) h cs ss := fun T locs X eT N => by
  subst hq
  obtain ⟨T', X', e', st⟩ := Jvm.RoadKit.getF X K.x K.z K.ow (host := "") (Or.inl (K.hw _ hi)) via eT F (g := mkF w.m pc Ls (.ref a :: S)) rfl rfl (hb K.cd hd)
  obtain ⟨s₂, o, h1, r'⟩ := r T' locs X' e' N
  exact ⟨s₂, o, st _ h1, r'⟩
theorem Rn.putF (K : Cx w Z a0 own bytes ml rt nm) {i kk : Nat} {C0 O n d C : String} {ty : FieldType} {a : Addr} {v v' old : Value} (hi : Jvm.Cond.fieldLink own i C0 n d ∈ tables_1) (via : Via Z C0 O n d) (F : Fld Z h a O n d old) (E : Exa Z h a C)
    (hl : Jvm.Cond.lays C O n d ∈ tables_1 ∨ (Jvm.Cond.laysFinal C O n d ∈ tables_1 ∧ own = O ∧ nm = "<init>")) (hin : Jvm.Cond.instantiable C kk ∈ tables_1) (hty : parseFieldDescriptor d = some ty) (hn : narrow ty v = v') (hf : fits ty v' = true) (hg : n0 ≤ a)
    (hd : decode bytes pc = .ok (.putfield i, 3)) (hq : pc + 3 = q) (r : ∀ h', Wr h h' a (Jvm.RoadKit.slotOf Z O n d) v' → Rn w l R n0 Q q Ls S h' cs ss) : Rn w l R n0 Q pc Ls (v :: .ref a :: S) h cs ss := fun T locs X eT N => by
  subst hq
  obtain ⟨T', h', X', e', W, st⟩ := putFN X K.x K.z K.ow (K.hw _ hi) via eT F E (hl.elim (fun z => Or.inl (K.hw _ z)) (fun z => Or.inr ⟨K.hw _ z.1, z.2.1, K.nme.trans z.2.2⟩)) (K.hw _ hin) hty hn hf (g := mkF w.m pc Ls (v :: .ref a :: S)) rfl rfl (hb K.cd hd)
  obtain ⟨s₂, o, h1, r'⟩ := r h' W T' _ X' e' (Fr.snoc X' N hg)
  exact ⟨s₂, o, st _ h1, r'⟩
/-! making -/
theorem Rn.newO (K : Cx w Z a0 own bytes ml rt nm) {i k : Nat} {C : String} (hi : Jvm.Cond.classLink own i C ∈ tables_1) (hin : Jvm.Cond.instantiable C k ∈ tables_1) (hz : Jvm.Cond.initialized C ∈ tables_1) (hc : cs + 1 ≤ R.cells) (hs : ss + k ≤ R.slots) (hd : decode bytes pc = .ok (.new i, 3)) (hq : pc + 3 = q)
    (r : ∀ b h', b = h.size → Ext h h' → Exa Z h' b C → (∀ {O n d : String} {ty : FieldType}, Laid Z a0 C O n d → parseFieldDescriptor d = some ty → Fld Z h' b O n d (defaultValue ty)) → Rn w l R n0 Q q Ls (.ref b :: S) h' (cs + 1) (ss + k)) : Rn w l R n0 Q pc Ls S h cs ss := fun T locs X eT N => by
  subst hq
  obtain ⟨T', h', X', e', E, A, D, -, st⟩ := Jvm.RoadKit.newO X K.x K.z K.ow (K.hw _ hi) (K.hw _ hin) (K.hw _ hz) eT (g := mkF w.m pc Ls S) rfl (hb K.cd hd) hc hs
  obtain ⟨s₂, o, h1, r'⟩ := r _ h' rfl E A D T' _ X' e' N
  exact ⟨s₂, o, st _ h1, r'⟩
theorem Rn.newP (K : Cx w Z a0 own bytes ml rt nm) {aty : ArrayType} {x : Int32} {cap : Nat} (hi : Jvm.Cond.arrayClass (newarray.typeOf aty) ∈ tables_1) (hn : ¬ x < 0) (hcap : x.toNatClampNeg ≤ cap) (hb8 : cap * 8 ≤ 536870912) (hc : cs + 1 ≤ R.cells) (hs : ss + cap ≤ R.slots) {ad : String} (had : "[" ++ (newarray.typeOf aty).toString = ad) (hd : decode bytes pc = .ok (.newarray aty, 2)) (hq : pc + 2 = q)
    (r : ∀ b h' k, b = h.size → Ext h h' → Arv Z h' b k (newarray.typeOf aty) x [] (defaultValue (newarray.typeOf aty)) → Exa Z h' b ad → Rn w l R n0 Q q Ls (.ref b :: S) h' (cs + 1) (ss + cap)) : Rn w l R n0 Q pc Ls (.int x :: S) h cs ss := fun T locs X eT N => by
  subst hq
  obtain ⟨T', h', k, X', e', E, A, EA, st⟩ := newPE X K.x K.z (K.hw _ hi) eT (g := mkF w.m pc Ls (.int x :: S)) rfl (hb K.cd hd) rfl hn hcap hb8 hc hs had
  obtain ⟨s₂, o, h1, r'⟩ := r _ h' k rfl E (Arv.new A hn) EA T' _ X' e' N
  exact ⟨s₂, o, st _ h1, r'⟩
/-! calls -/
theorem nfs (K : Cx w Z a0 own bytes ml rt nm) {C : String} {y : MethodName} (i : Jvm.Cond.selects C y y ∈ tables_1) : NotFace w.s y := notFace_of_selects (args := #[]) (mvT K.z (K.hw _ i))
theorem Rn.virt (K : Cx w Z a0 own bytes ml rt nm) {index W : Nat} {y z : MethodName} {C : String} {b : Addr} {argsL rest : List Value} {bz : ByteArray} {mz : Nat} {rz : Option FieldType} {rm : Room} {Q' : Option Value → Heap → Prop}
    (i1 : Jvm.Cond.methodLink own index y ∈ tables_1) (i2 : Jvm.Cond.declares y ∈ tables_1) (nf : NotFace w.s y) (i3 : Jvm.Cond.selects C y z ∈ tables_1) (i4 : Jvm.Cond.instanceMethod z ∈ tables_1) (i5 : Jvm.Cond.code z bz mz rz ∈ tables_1) (i6 : Jvm.Cond.initialized z.cls ∈ tables_1)
    (hy : y.cls ≠ "java/lang/invoke/MethodHandle" ∧ y.cls ≠ "java/lang/invoke/VarHandle") (M : Met l Z z bz mz rz rm n0 [] (.ref b :: argsL).toArray h Q') (E : Exa Z h b C) (hf : rm.frames + 1 ≤ R.frames) (hlo : W + (mz + 11) + rm.locals ≤ R.locals)
    (hsz : Ls.size = ml) (hlen : ∀ sig, parseMethodDescriptor y.desc = some sig → argsL.length = sig.parameters.length) (hS : S = argsL.reverse ++ .ref b :: rest) (hW : (rest.map fun v => v.category).sum ≤ W)
    (hd : decode bytes pc = .ok (.invokevirtual index, 3)) (hq : pc + 3 = q) (hc : cs + rm.cells ≤ R.cells) (hs : ss + rm.slots ≤ R.slots)
    (r : ∀ v h', Q' v h' → Rn w l R n0 Q q Ls (v.toList ++ rest) h' (cs + rm.cells) (ss + rm.slots)) : Rn w l R n0 Q pc Ls S h cs ss := fun T locs X eT N => by
  subst hq hS
  obtain ⟨cq, kq, qa, qb, qc⟩ := isOf K.z eT E
  obtain ⟨v, _, ⟨T', L', k', n'⟩, -, X', ⟨Lc, hQ, l', y', z'⟩, st⟩ := X.virtualBack K.x (y := y) (z := z) K.ow (mvT K.z (K.hw _ i1)) (mvT K.z (K.hw _ i2)) nf (mvT K.z (K.hw _ i3)) (mvT K.z (K.hw _ i4)) hy (backOf (Q := fun v h L => Fr n0 L ∧ Q' v h) (W := W) M K.z (K.hw _ i5) (K.hw _ i6) hf hlo) qa qc (g := mkF w.m pc Ls (argsL.reverse ++ .ref b :: rest)) rfl (hsz.trans K.mx.symm) (Steps.refl _) (argsL := argsL) (rest := rest) hlen rfl (by show 2 * 0 + _ ≤ _; rw [Nat.mul_zero, Nat.zero_add]; exact hW) (hb K.cd hd) (fun _ _ => ⟨rfl, eT, hc, hs⟩)
  dsimp only [Pt.U, Pt.locs, Pt.cells, Pt.slots] at X' l' y' z' st hQ
  subst l' y' z'
  obtain ⟨s₂, o, h1, r'⟩ := r v T'.heap hQ.2 T' _ X' rfl (Fr.app N hQ.1)
  exact ⟨s₂, o, st.trans h1, r'⟩
theorem Rn.face (K : Cx w Z a0 own bytes ml rt nm) {index count W : Nat} {y z : MethodName} {C : String} {b : Addr} {argsL rest : List Value} {bz : ByteArray} {mz : Nat} {rz : Option FieldType} {rm : Room} {Q' : Option Value → Heap → Prop}
    (i1 : Jvm.Cond.methodLink own index y ∈ tables_1) (i2 : Jvm.Cond.declares y ∈ tables_1) (i2' : (Jvm.Cond.interfaceMethod y.cls y.cls y.name y.desc).before w.a w.s = true) (i3 : Jvm.Cond.selects C y z ∈ tables_1) (i4 : Jvm.Cond.instanceMethod z ∈ tables_1) (i7 : Jvm.Cond.publicMethod z ∈ tables_1) (i8 : Jvm.Cond.unhidden C y.name y.desc ∈ tables_1) (i9 : Jvm.Cond.castable C y.cls ∈ tables_1) (i5 : Jvm.Cond.code z bz mz rz ∈ tables_1) (i6 : Jvm.Cond.initialized z.cls ∈ tables_1)
    (hy : y.cls ≠ "java/lang/invoke/MethodHandle" ∧ y.cls ≠ "java/lang/invoke/VarHandle") (M : Met l Z z bz mz rz rm n0 [] (.ref b :: argsL).toArray h Q') (E : Exa Z h b C) (hf : rm.frames + 1 ≤ R.frames) (hlo : W + (mz + 11) + rm.locals ≤ R.locals)
    (hsz : Ls.size = ml) (hlen : ∀ sig, parseMethodDescriptor y.desc = some sig → argsL.length = sig.parameters.length) (hS : S = argsL.reverse ++ .ref b :: rest) (hW : (rest.map fun v => v.category).sum ≤ W)
    (hd : decode bytes pc = .ok (.invokeinterface index count, 5)) (hq : pc + 5 = q) (hc : cs + rm.cells ≤ R.cells) (hs : ss + rm.slots ≤ R.slots)
    (r : ∀ v h', Q' v h' → Rn w l R n0 Q q Ls (v.toList ++ rest) h' (cs + rm.cells) (ss + rm.slots)) : Rn w l R n0 Q pc Ls S h cs ss := fun T locs X eT N => by
  subst hq hS
  obtain ⟨cq, kq, qa, qb, qc⟩ := isOf K.z eT E
  obtain ⟨v, _, ⟨T', L', k', n'⟩, -, X', ⟨Lc, hQ, l', y', z'⟩, st⟩ := X.interfaceBack K.x (xi := y) (y := z) K.ow (mvT K.z (K.hw _ i1)) (mvT K.z (K.hw _ i2)) i2' (mvT K.z (K.hw _ i3)) (mvT K.z (K.hw _ i4)) (mvT K.z (K.hw _ i7)) (mvT K.z (K.hw _ i8)) (mvT K.z (K.hw _ i9)) hy (backOf (Q := fun v h L => Fr n0 L ∧ Q' v h) (W := W) M K.z (K.hw _ i5) (K.hw _ i6) hf hlo) qa qb qc (g := mkF w.m pc Ls (argsL.reverse ++ .ref b :: rest)) rfl (hsz.trans K.mx.symm) (Steps.refl _) (argsL := argsL) (rest := rest) hlen rfl (by show 2 * 0 + _ ≤ _; rw [Nat.mul_zero, Nat.zero_add]; exact hW) (hb K.cd hd) (fun _ _ => ⟨rfl, eT, hc, hs⟩)
  dsimp only [Pt.U, Pt.locs, Pt.cells, Pt.slots] at X' l' y' z' st hQ
  subst l' y' z'
  obtain ⟨s₂, o, h1, r'⟩ := r v T'.heap hQ.2 T' _ X' rfl (Fr.app N hQ.1)
  exact ⟨s₂, o, st.trans h1, r'⟩
theorem Rn.stat (K : Cx w Z a0 own bytes ml rt nm) {index W : Nat} {y : MethodName} {argsL rest : List Value} {bz : ByteArray} {mz : Nat} {rz : Option FieldType} {rm : Room} {Q' : Option Value → Heap → Prop}
    (i1 : Jvm.Cond.methodLink own index y ∈ tables_1) (i2 : Jvm.Cond.static y ∈ tables_1) (i5 : Jvm.Cond.code y bz mz rz ∈ tables_1) (i6 : Jvm.Cond.initialized y.cls ∈ tables_1)
    (hy : y.cls ≠ "java/lang/invoke/MethodHandle" ∧ y.cls ≠ "java/lang/invoke/VarHandle") (M : Met l Z y bz mz rz rm n0 [] argsL.toArray h Q') (hf : rm.frames + 1 ≤ R.frames) (hlo : W + (mz + 11) + rm.locals ≤ R.locals)
    (hsz : Ls.size = ml) (hlen : ∀ sig, parseMethodDescriptor y.desc = some sig → argsL.length = sig.parameters.length) (hS : S = argsL.reverse ++ rest) (hW : (rest.map fun v => v.category).sum ≤ W)
    (hd : decode bytes pc = .ok (.invokestatic index, 3)) (hq : pc + 3 = q) (hc : cs + rm.cells ≤ R.cells) (hs : ss + rm.slots ≤ R.slots)
    (r : ∀ v h', Q' v h' → Rn w l R n0 Q q Ls (v.toList ++ rest) h' (cs + rm.cells) (ss + rm.slots)) : Rn w l R n0 Q pc Ls S h cs ss := fun T locs X eT N => by
  subst hq hS
  obtain ⟨v, _, ⟨T', L', k', n'⟩, -, X', ⟨Lc, hQ, l', y', z'⟩, st⟩ := Jvm.LawKit.callS X K.x (y := y) K.ow (mvT K.z (K.hw _ i1)) (mvT K.z (K.hw _ i2)) (mvT K.z (K.hw _ i6)) (mvT K.z (K.hw _ i5)) hy (backOf (Q := fun v h L => Fr n0 L ∧ Q' v h) (W := W) M K.z (K.hw _ i5) (K.hw _ i6) hf hlo) (g := mkF w.m pc Ls (argsL.reverse ++ rest)) rfl (hsz.trans K.mx.symm) (argsL := argsL) (rest := rest) hlen rfl (by show 2 * 0 + _ ≤ _; rw [Nat.mul_zero, Nat.zero_add]; exact hW) (hb K.cd hd) (fun _ _ => ⟨rfl, eT, hc, hs⟩)
  dsimp only [Pt.U, Pt.locs, Pt.cells, Pt.slots] at X' l' y' z' st hQ
  subst l' y' z'
  obtain ⟨s₂, o, h1, r'⟩ := r v T'.heap hQ.2 T' _ X' rfl (Fr.app N hQ.1)
  exact ⟨s₂, o, st _ h1, r'⟩
theorem Rn.spec (K : Cx w Z a0 own bytes ml rt nm) {index W : Nat} {y : MethodName} {b : Addr} {argsL rest : List Value} {bz : ByteArray} {mz : Nat} {rm : Room} {Q' : Option Value → Heap → Prop}
    (hn : y.name = "<init>") (i1 : Jvm.Cond.methodLink own index y ∈ tables_1) (i4 : Jvm.Cond.instanceMethod y ∈ tables_1) (i5 : Jvm.Cond.code y bz mz none ∈ tables_1) (i6 : Jvm.Cond.initialized y.cls ∈ tables_1)
    (hy : y.cls ≠ "java/lang/invoke/MethodHandle" ∧ y.cls ≠ "java/lang/invoke/VarHandle") (M : Met l Z y bz mz none rm n0 [] (.ref b :: argsL).toArray h Q') (hf : rm.frames + 1 ≤ R.frames) (hlo : W + (mz + 11) + rm.locals ≤ R.locals)
    (hsz : Ls.size = ml) (hlen : ∀ sig, parseMethodDescriptor y.desc = some sig → argsL.length = sig.parameters.length) (hS : S = argsL.reverse ++ .ref b :: rest) (hW : (rest.map fun v => v.category).sum ≤ W)
    (hd : decode bytes pc = .ok (.invokespecial index, 3)) (hq : pc + 3 = q) (hc : cs + rm.cells ≤ R.cells) (hs : ss + rm.slots ≤ R.slots)
    (r : ∀ v h', Q' v h' → Rn w l R n0 Q q Ls (v.toList ++ rest) h' (cs + rm.cells) (ss + rm.slots)) : Rn w l R n0 Q pc Ls S h cs ss := fun T locs X eT N => by
  subst hq hS
  obtain ⟨v, _, ⟨T', L', k', n'⟩, -, X', ⟨Lc, hQ, l', y', z'⟩, st⟩ := X.specialBack K.x (y := y) hn K.ow (mvT K.z (K.hw _ i1)) (mvT K.z (K.hw _ i4)) (mvT K.z (K.hw _ i5)) hy (backOf (Q := fun v h L => Fr n0 L ∧ Q' v h) (W := W) M K.z (K.hw _ i5) (K.hw _ i6) hf hlo) (g := mkF w.m pc Ls (argsL.reverse ++ .ref b :: rest)) rfl (hsz.trans K.mx.symm) (Steps.refl _) (a := b) (argsL := argsL) (rest := rest) hlen rfl (by show 2 * 0 + _ ≤ _; rw [Nat.mul_zero, Nat.zero_add]; exact hW) (hb K.cd hd) (fun _ _ => ⟨rfl, eT, hc, hs⟩)
  dsimp only [Pt.U, Pt.locs, Pt.cells, Pt.slots] at X' l' y' z' st hQ
  subst l' y' z'
  obtain ⟨s₂, o, h1, r'⟩ := r v T'.heap hQ.2 T' _ X' rfl (Fr.app N hQ.1)
  exact ⟨s₂, o, st.trans h1, r'⟩
theorem Rn.initO (K : Cx w Z a0 own bytes ml rt nm) {index W : Nat} {b : Addr} (i1 : Jvm.Cond.methodLink own index Lib.objectInit ∈ tables_1) (i4 : Jvm.Cond.instanceMethod Lib.objectInit ∈ tables_1) (i5 : Jvm.Cond.code Lib.objectInit ⟨#[0xb1]⟩ 1 none ∈ tables_1)
    (hf : 1 ≤ R.frames) (hlo : W + 12 ≤ R.locals) (hsz : Ls.size = ml) (hW : (S.map fun v => v.category).sum ≤ W) (hd : decode bytes pc = .ok (.invokespecial index, 3)) (hq : pc + 3 = q) (r : Rn w l R n0 Q q Ls S h cs ss) : Rn w l R n0 Q pc Ls (.ref b :: S) h cs ss := fun T locs X eT N => by
  subst hq
  obtain ⟨T', X', e', st⟩ := Jvm.RoadKit.initO X K.x K.z K.ow (K.hw _ i1) (K.hw _ i4) (K.hw _ i5) eT (g := mkF w.m pc Ls (.ref b :: S)) rfl (hsz.trans K.mx.symm) rfl (hb K.cd hd) hf (W := W) (by show 2 * 0 + _ ≤ _; rw [Nat.mul_zero, Nat.zero_add]; exact hW) hlo
  obtain ⟨s₂, o, h1, r'⟩ := r T' locs X' e' N
  exact ⟨s₂, o, st _ h1, r'⟩
end OwnKit
theorem own_eqI {args : Array Value} {s : State} {t : Term} {k : Int32} (h : (Jvm.Cond.eq t (.int k)).value args s none s [] = some true) : t.eval args s none [] s = some (.int k) := by
  obtain ⟨x, y, hx, hy, hk, hk'⟩ := cmp_v (Or.inl h)
  rw [Term.int_eval] at hy
  cases hy
  obtain ⟨z, rfl⟩ := hk'
  have e : z = k := by simpa [Cond.value, hx, Term.eval] using h
  rw [hx, e]
theorem own_ord {args : Array Value} {s : State} {C n d : String} {a : Addr} {k : Int32} (ev : (Term.static C n d).eval args s none [] s = some (.ref a)) (h : (Jvm.Cond.eq (.field (.static C n d) "java/lang/Enum" "ordinal" "I") (.int k)).value args s none s [] = some true) : Fld s s.heap a "java/lang/Enum" "ordinal" "I" (.int k) := by
  have h2 := own_eqI h
  rw [fld_at ev] at h2
  exact Fld.start h2
theorem own_fref {args : Array Value} {s : State} {C n d C' n' d' O f e : String} {a b : Addr} (ev : (Term.static C n d).eval args s none [] s = some (.ref a)) (ev' : (Term.static C' n' d').eval args s none [] s = some (.ref b)) (h : (Jvm.Cond.eq (.field (.static C n d) O f e) (.static C' n' d')).value args s none s [] = some true) : Fld s s.heap a O f e (.ref b) := by
  obtain ⟨x, y, hx, hy, hk, hk'⟩ := cmp_v (Or.inl h)
  rw [ev'] at hy
  cases hy
  have e1 : x = .ref b := gotT (eq_R hx ev' hk'.2 rfl) h
  subst e1
  rw [fld_at ev] at hx
  exact Fld.start hx
theorem own_fnull {args : Array Value} {s : State} {C n d O f e : String} {a : Addr} (ev : (Term.static C n d).eval args s none [] s = some (.ref a)) (h : (Jvm.Cond.eq (.field (.static C n d) O f e) .null).value args s none s [] = some true) : Fld s s.heap a O f e .null := by
  have hx := null_v h
  rw [fld_at ev] at hx
  exact Fld.start hx
theorem own_mask (x : Int32) : 0 ≤ (x &&& (2147483647 : Int32)).toInt := by
  have h : ¬ (x &&& (2147483647 : Int32)) < 0 := fun q => by
    have := (XT.and_neg32 _ _).mp q
    exact absurd this.2 (by decide)
  rw [Int32.lt_iff_toInt_lt] at h
  have e0 : (0 : Int32).toInt = 0 := rfl
  omega
theorem own_mod (x : Int32) {n : Int32} {k : Int} (hn : n.toInt = k) (hk : 0 < k) : 0 ≤ ((x &&& (2147483647 : Int32)) % n).toInt ∧ ((x &&& (2147483647 : Int32)) % n).toInt < k := by
  have h := own_mask x
  rw [Int32.toInt_mod, hn]
  exact ⟨Int.tmod_nonneg _ h, Int.tmod_lt_of_pos _ hk⟩
theorem own_lit {x : Int32} {k : Int} {v : Int32} (h : x.toInt = k) (hv : v.toInt = k) : x = v := Int32.toInt_inj.mp (h.trans hv.symm)
def Enm (Z : State) (h : Heap) (C : String) (a : Addr) (k : Int32) : Prop := Exa Z h a C ∧ Fld Z h a "java/lang/Enum" "ordinal" "I" (.int k)
theorem Enm.ne {Z : State} {h : Heap} {C D : String} {a b : Addr} {k j : Int32} (A : Enm Z h C a k) (B : Enm Z h D b j) (q : k ≠ j) : a ≠ b := Fld.ne A.2 B.2 (fun e => q (Value.int.inj e))
theorem own_lc_lt (x y : Int64) : lcmpW x y < 0 ↔ x < y := by rw [lcW]; exact lc_lt x y
theorem own_lc_gt (x y : Int64) : 0 < lcmpW x y ↔ y < x := by rw [lcW]; exact lc_gt x y
theorem own_lc_eq (x y : Int64) : lcmpW x y = 0 ↔ x = y := by rw [lcW]; exact lc_eq x y
theorem own_eqL {args : Array Value} {s : State} {t : Term} {k : Int64} (h : (Jvm.Cond.eq t (.long k)).value args s none s [] = some true) : t.eval args s none [] s = some (.long k) := by
  obtain ⟨x, y, hx, hy, hk, hk'⟩ := cmp_v (Or.inl h)
  have hy2 : (Term.long k).eval args s none [] s = some (.long k) := rfl
  rw [hy2] at hy
  cases hy
  obtain ⟨z, rfl⟩ := hk'
  have e : z = k := gotT (eq_L hx hy2) h
  rw [hx, e]
section OwnKit2
variable {w : Wk} {l : Launch} {R : Room} {n0 : Nat} {Q : Option Value → Heap → Prop} {pc q : Nat} {Ls Ls' : Array Slot} {S : List Value} {h : Heap} {cs ss : Nat} {Z : State} {a0 : Array Value} {own : String} {bytes : ByteArray} {ml : Nat} {rt : Option FieldType} {nm : String}
theorem Rn.stepH {S' : List Value} (st : ∀ (T : State) (locs : List Loc), Stand w.p l w.e R w.s w.m w.a w.b w.t w.c T locs cs ss → T.heap = h → ∀ t, Steps w.p.tables w.e w.b (T.setTop (mkF w.m q Ls' S')) t → Steps w.p.tables w.e w.b (T.setTop (mkF w.m pc Ls S)) t)
    (k : Rn w l R n0 Q q Ls' S' h cs ss) : Rn w l R n0 Q pc Ls S h cs ss := fun T locs X eT N => by
  obtain ⟨s₂, o, h1, r⟩ := k T locs X eT N
  exact ⟨s₂, o, st T locs X eT _ h1, r⟩
/-! arrays, by Arv -/
section Arrays
variable {a : Addr} {k : ClassId} {z j : Int32} {vs : List Value} {d v : Value} {ty : FieldType}
theorem Rn.arraylength (K : Cx w Z a0 own bytes ml rt nm) (A : Arv Z h a k ty z vs d) (hd : decode bytes pc = .ok (.arraylength, 1)) (hq : pc + 1 = q) (r : Rn w l R n0 Q q Ls (.int z :: S) h cs ss) : Rn w l R n0 Q pc Ls (.ref a :: S) h cs ss := by
  subst hq
  obtain ⟨c, A1, A2, A3, A4, A5, A6⟩ := A
  refine Rn.stepH (fun T locs X eT t kt => ?_) r
  refine X.arraylength K.x (by rw [eT]; exact A1.1) (State.isArrayOf_alike K.z.alike A1.2.1) (g := mkF w.m pc Ls (.ref a :: S)) rfl rfl (hb K.cd hd) _ ?_
  rw [len_of A3 A4]
  exact kt
theorem Rn.iaload (K : Cx w Z a0 own bytes ml rt nm) (A : Arv Z h a k .int z vs d) (hj : ¬ j < 0 ∧ j < z) (hv : vs.getD j.toNatClampNeg d = v) (hd : decode bytes pc = .ok (.iaload, 1)) (hq : pc + 1 = q) (r : Rn w l R n0 Q q Ls (v :: S) h cs ss) : Rn w l R n0 Q pc Ls (.int j :: .ref a :: S) h cs ss := by
  subst hq
  obtain ⟨c, A1, A2, A3, A4, A5, A6⟩ := A
  exact Rn.stepH (fun T locs X eT t kt => X.iaload K.x (by rw [eT]; exact A1.1) (State.isArrayOf_alike K.z.alike A1.2.1) A1.2.2 (inb_of A3 hj) (A5.at (inb_of A3 hj) hv) (g := mkF w.m pc Ls (.int j :: .ref a :: S)) rfl rfl (hb K.cd hd) _ kt) r
theorem Rn.laload (K : Cx w Z a0 own bytes ml rt nm) (A : Arv Z h a k .long z vs d) (hj : ¬ j < 0 ∧ j < z) (hv : vs.getD j.toNatClampNeg d = v) (hd : decode bytes pc = .ok (.laload, 1)) (hq : pc + 1 = q) (r : Rn w l R n0 Q q Ls (v :: S) h cs ss) : Rn w l R n0 Q pc Ls (.int j :: .ref a :: S) h cs ss := by
  subst hq
  obtain ⟨c, A1, A2, A3, A4, A5, A6⟩ := A
  exact Rn.stepH (fun T locs X eT t kt => X.laload K.x (by rw [eT]; exact A1.1) (State.isArrayOf_alike K.z.alike A1.2.1) A1.2.2 (inb_of A3 hj) (A5.at (inb_of A3 hj) hv) (g := mkF w.m pc Ls (.int j :: .ref a :: S)) rfl rfl (hb K.cd hd) _ kt) r
theorem Rn.caload (K : Cx w Z a0 own bytes ml rt nm) (A : Arv Z h a k .char z vs d) (hj : ¬ j < 0 ∧ j < z) (hv : vs.getD j.toNatClampNeg d = v) (hd : decode bytes pc = .ok (.caload, 1)) (hq : pc + 1 = q) (r : Rn w l R n0 Q q Ls (v :: S) h cs ss) : Rn w l R n0 Q pc Ls (.int j :: .ref a :: S) h cs ss := by
  subst hq
  obtain ⟨c, A1, A2, A3, A4, A5, A6⟩ := A
  exact Rn.stepH (fun T locs X eT t kt => X.caload K.x (by rw [eT]; exact A1.1) (State.isArrayOf_alike K.z.alike A1.2.1) A1.2.2 (inb_of A3 hj) (A5.at (inb_of A3 hj) hv) (g := mkF w.m pc Ls (.int j :: .ref a :: S)) rfl rfl (hb K.cd hd) _ kt) r
theorem Rn.baloadZ (K : Cx w Z a0 own bytes ml rt nm) (A : Arv Z h a k .boolean z vs d) (hj : ¬ j < 0 ∧ j < z) (hv : vs.getD j.toNatClampNeg d = v) (hd : decode bytes pc = .ok (.baload, 1)) (hq : pc + 1 = q) (r : Rn w l R n0 Q q Ls (v :: S) h cs ss) : Rn w l R n0 Q pc Ls (.int j :: .ref a :: S) h cs ss := by
  subst hq
  obtain ⟨c, A1, A2, A3, A4, A5, A6⟩ := A
  exact Rn.stepH (fun T locs X eT t kt => X.baloadBooleans K.x (by rw [eT]; exact A1.1) (State.isArrayOf_alike K.z.alike A1.2.1) A1.2.2 (inb_of A3 hj) (A5.at (inb_of A3 hj) hv) (g := mkF w.m pc Ls (.int j :: .ref a :: S)) rfl rfl (hb K.cd hd) _ kt) r
theorem Rn.baloadB (K : Cx w Z a0 own bytes ml rt nm) (A : Arv Z h a k .byte z vs d) (hj : ¬ j < 0 ∧ j < z) (hv : vs.getD j.toNatClampNeg d = v) (hd : decode bytes pc = .ok (.baload, 1)) (hq : pc + 1 = q) (r : Rn w l R n0 Q q Ls (v :: S) h cs ss) : Rn w l R n0 Q pc Ls (.int j :: .ref a :: S) h cs ss := by
  subst hq
  obtain ⟨c, A1, A2, A3, A4, A5, A6⟩ := A
  exact Rn.stepH (fun T locs X eT t kt => X.baloadBytes K.x (by rw [eT]; exact A1.1) (State.isArrayOf_alike K.z.alike A1.2.1) A1.2.2 (inb_of A3 hj) (A5.at (inb_of A3 hj) hv) (g := mkF w.m pc Ls (.int j :: .ref a :: S)) rfl rfl (hb K.cd hd) _ kt) r
theorem Rn.aaload (K : Cx w Z a0 own bytes ml rt nm) (A : Arv Z h a k ty z vs d) (hty : ty.isReference = true) (hj : ¬ j < 0 ∧ j < z) (hv : vs.getD j.toNatClampNeg d = v) (hd : decode bytes pc = .ok (.aaload, 1)) (hq : pc + 1 = q) (r : Rn w l R n0 Q q Ls (v :: S) h cs ss) : Rn w l R n0 Q pc Ls (.int j :: .ref a :: S) h cs ss := by
  subst hq
  obtain ⟨c, A1, A2, A3, A4, A5, A6⟩ := A
  exact Rn.stepH (fun T locs X eT t kt => X.aaload K.x (by rw [eT]; exact A1.1) (State.isArrayOf_alike K.z.alike A1.2.1) hty A1.2.2 (inb_of A3 hj) (A5.at (inb_of A3 hj) hv) (g := mkF w.m pc Ls (.int j :: .ref a :: S)) rfl rfl (hb K.cd hd) _ kt) r
theorem Rn.iastore (K : Cx w Z a0 own bytes ml rt nm) (A : Arv Z h a k .int z vs d) {x : Int32} (hj : ¬ j < 0 ∧ j < z) {i : Nat} (hi : j.toNatClampNeg = i) (hi' : i < vs.length) (hg : n0 ≤ a) (hd : decode bytes pc = .ok (.iastore, 1)) (hq : pc + 1 = q)
    (r : ∀ h', Wr h h' a i (.int x) → Arv Z h' a k .int z (vs.set i (.int x)) d → Rn w l R n0 Q q Ls S h' cs ss) : Rn w l R n0 Q pc Ls (.int x :: .int j :: .ref a :: S) h cs ss := fun T locs X eT N => by
  subst hq hi
  obtain ⟨c, A1, A2, A3, A4, A5, A6⟩ := A
  obtain ⟨T', h', X', e', W, st⟩ := stI X K.x K.z eT A1 (inb_of A3 hj) (g := mkF w.m pc Ls (.int x :: .int j :: .ref a :: S)) rfl rfl (hb K.cd hd)
  obtain ⟨s₂, o, h1, r'⟩ := r h' W (Arv.set A1 A2 A3 A4 A5 A6 rfl W _ rfl hi') T' _ X' e' (Fr.snoc X' N hg)
  exact ⟨s₂, o, st _ h1, r'⟩
theorem Rn.lastore (K : Cx w Z a0 own bytes ml rt nm) (A : Arv Z h a k .long z vs d) {x : Int64} (hj : ¬ j < 0 ∧ j < z) {i : Nat} (hi : j.toNatClampNeg = i) (hi' : i < vs.length) (hg : n0 ≤ a) (hd : decode bytes pc = .ok (.lastore, 1)) (hq : pc + 1 = q)
    (r : ∀ h', Wr h h' a i (.long x) → Arv Z h' a k .long z (vs.set i (.long x)) d → Rn w l R n0 Q q Ls S h' cs ss) : Rn w l R n0 Q pc Ls (.long x :: .int j :: .ref a :: S) h cs ss := fun T locs X eT N => by
  subst hq hi
  obtain ⟨c, A1, A2, A3, A4, A5, A6⟩ := A
  obtain ⟨T', h', X', e', W, st⟩ := stJ X K.x K.z eT A1 (inb_of A3 hj) (g := mkF w.m pc Ls (.long x :: .int j :: .ref a :: S)) rfl rfl (hb K.cd hd)
  obtain ⟨s₂, o, h1, r'⟩ := r h' W (Arv.set A1 A2 A3 A4 A5 A6 rfl W _ rfl hi') T' _ X' e' (Fr.snoc X' N hg)
  exact ⟨s₂, o, st _ h1, r'⟩
theorem Rn.castore (K : Cx w Z a0 own bytes ml rt nm) (A : Arv Z h a k .char z vs d) {x : Int32} (hj : ¬ j < 0 ∧ j < z) {i : Nat} (hi : j.toNatClampNeg = i) (hi' : i < vs.length) (hg : n0 ≤ a) (hd : decode bytes pc = .ok (.castore, 1)) (hq : pc + 1 = q)
    (r : ∀ h', Wr h h' a i (.int (nar .char x)) → Arv Z h' a k .char z (vs.set i (.int (nar .char x))) d → Rn w l R n0 Q q Ls S h' cs ss) : Rn w l R n0 Q pc Ls (.int x :: .int j :: .ref a :: S) h cs ss := fun T locs X eT N => by
  subst hq hi
  obtain ⟨c, A1, A2, A3, A4, A5, A6⟩ := A
  obtain ⟨T', h', X', e', W, st⟩ := Jvm.RoadKit.stC X K.x K.z eT A1 (inb_of A3 hj) (g := mkF w.m pc Ls (.int x :: .int j :: .ref a :: S)) rfl rfl (hb K.cd hd)
  obtain ⟨s₂, o, h1, r'⟩ := r h' W (Arv.set A1 A2 A3 A4 A5 A6 (fits_nar_char _) W _ rfl hi') T' _ X' e' (Fr.snoc X' N hg)
  exact ⟨s₂, o, st _ h1, r'⟩
theorem Rn.bastoreZ (K : Cx w Z a0 own bytes ml rt nm) (A : Arv Z h a k .boolean z vs d) {x : Int32} (hj : ¬ j < 0 ∧ j < z) {i : Nat} (hi : j.toNatClampNeg = i) (hi' : i < vs.length) (hg : n0 ≤ a) (hd : decode bytes pc = .ok (.bastore, 1)) (hq : pc + 1 = q)
    (r : ∀ h', Wr h h' a i (.int (nar .boolean x)) → Arv Z h' a k .boolean z (vs.set i (.int (nar .boolean x))) d → Rn w l R n0 Q q Ls S h' cs ss) : Rn w l R n0 Q pc Ls (.int x :: .int j :: .ref a :: S) h cs ss := fun T locs X eT N => by
  subst hq hi
  obtain ⟨c, A1, A2, A3, A4, A5, A6⟩ := A
  obtain ⟨T', h', X', e', W, st⟩ := stZ X K.x K.z eT A1 (inb_of A3 hj) (g := mkF w.m pc Ls (.int x :: .int j :: .ref a :: S)) rfl rfl (hb K.cd hd)
  obtain ⟨s₂, o, h1, r'⟩ := r h' W (Arv.set A1 A2 A3 A4 A5 A6 (fits_nar_bool _) W _ rfl hi') T' _ X' e' (Fr.snoc X' N hg)
  exact ⟨s₂, o, st _ h1, r'⟩
theorem Rn.aastore (K : Cx w Z a0 own bytes ml rt nm) (A : Arv Z h a k ty z vs d) (hty : ty.isReference = true) (F : ∀ c : Cell, Arr Z h a c ty → c.cls = k → Sto Z h a v) (hfit : fits ty v = true) (hj : ¬ j < 0 ∧ j < z) {i : Nat} (hi : j.toNatClampNeg = i) (hi' : i < vs.length) (hg : n0 ≤ a) (hd : decode bytes pc = .ok (.aastore, 1)) (hq : pc + 1 = q)
    (r : ∀ h', Wr h h' a i v → Arv Z h' a k ty z (vs.set i v) d → Rn w l R n0 Q q Ls S h' cs ss) : Rn w l R n0 Q pc Ls (v :: .int j :: .ref a :: S) h cs ss := fun T locs X eT N => by
  subst hq hi
  obtain ⟨c, A1, A2, A3, A4, A5, A6⟩ := A
  obtain ⟨T', h', X', e', W, st⟩ := Jvm.RoadKit.stR X K.x K.z eT A1 (inb_of A3 hj) hty (F c A1 A2) (g := mkF w.m pc Ls (v :: .int j :: .ref a :: S)) rfl rfl (hb K.cd hd)
  obtain ⟨s₂, o, h1, r'⟩ := r h' W (Arv.set A1 A2 A3 A4 A5 A6 hfit W _ rfl hi') T' _ X' e' (Fr.snoc X' N hg)
  exact ⟨s₂, o, st _ h1, r'⟩
theorem Rn.newR (K : Cx w Z a0 own bytes ml rt nm) {i cap : Nat} {C : String} {x : Int32} (hi : Jvm.Cond.classLink own i C ∈ tables_1) (ho : Jvm.Cond.arrayOver (.object C) ∈ tables_1) (hn : ¬ x < 0) (hcap : x.toNatClampNeg ≤ cap) (hb8 : cap * 8 ≤ 536870912) (hc : cs + 1 ≤ R.cells) (hs : ss + cap ≤ R.slots) {ad : String} (had : "[" ++ (FieldType.object C).toString = ad) (hd : decode bytes pc = .ok (.anewarray i, 3)) (hq : pc + 3 = q)
    (r : ∀ b h' k, b = h.size → Ext h h' → Arv Z h' b k (.object C) x [] .null → Exa Z h' b ad → Ovr Z k C → Rn w l R n0 Q q Ls (.ref b :: S) h' (cs + 1) (ss + cap)) : Rn w l R n0 Q pc Ls (.int x :: S) h cs ss := fun T locs X eT N => by
  subst hq
  obtain ⟨T', h', k, X', e', E, A, EA, O, st⟩ := newRE X K.x K.z K.ow (K.hw _ hi) (K.hw _ ho) eT (g := mkF w.m pc Ls (.int x :: S)) rfl (hb K.cd hd) rfl hn hcap hb8 hc hs had
  obtain ⟨s₂, o, h1, r'⟩ := r _ h' k rfl E (Arv.new A hn) EA O T' _ X' e' N
  exact ⟨s₂, o, st _ h1, r'⟩
end Arrays
/-! switches -/
theorem own_lsw {tb : Tables} [Ours tb] {e : Env} {below : List Frame} {T target : State} {m : MethodId} {c : Code} {g : JFrame} (h : At T m c below) (hx : tb.exec = Jvm.exec) (hg : g.method = m) {dflt : Int} {ps : Array (Int × Int)} {len : Nat} {o : Int} {pc0 pc' : Nat} (hpc : g.pc = pc0) (hd : decode c.code g.pc = .ok (.lookupswitch dflt ps, len)) {i : Int32} {rest : List Value} (hs : g.stack = .int i :: rest)
    (hsort : (ps.toList.zip (ps.toList.drop 1)).all (fun (a, next) => a.1 < next.1) = true) (hoff : lookupswitch.offset ps.toList dflt i.toInt = o) (ho : 0 ≤ (pc0 : Int) + o) (hp : ((pc0 : Int) + o).toNat = pc')
    (hr : Steps tb e below (T.setTop { g with pc := pc', stack := rest }) target) : Steps tb e below (T.setTop g) target := by
  subst hg hpc hp hoff
  jvm_step h [h.top, hx, hd, hs, ho, lookupswitch.wp_chain, hsort]
  first | exact hr | exact ⟨by simpa using hsort, hr⟩
theorem Rn.lsw (K : Cx w Z a0 own bytes ml rt nm) {dflt o : Int} {ps : Array (Int × Int)} {len : Nat} {x : Int32} (hd : decode bytes pc = .ok (.lookupswitch dflt ps, len)) (hsort : (ps.toList.zip (ps.toList.drop 1)).all (fun (a, next) => a.1 < next.1) = true) (hoff : lookupswitch.offset ps.toList dflt x.toInt = o) (ho : 0 ≤ (pc : Int) + o) (hq : ((pc : Int) + o).toNat = q) (r : Rn w l R n0 Q q Ls S h cs ss) : Rn w l R n0 Q pc Ls (.int x :: S) h cs ss :=
  Rn.step (fun T locs X t k => own_lsw X.here K.x rfl rfl (hb K.cd hd) rfl hsort hoff ho hq k) r
theorem Rn.tswIn (K : Cx w Z a0 own bytes ml rt nm) {dflt low high o : Int} {offs : Array Int} {len : Nat} {x : Int32} (hd : decode bytes pc = .ok (.tableswitch dflt low high offs, len)) (hin : ¬ (x.toInt < low ∨ x.toInt > high)) (hoff : offs[(x.toInt - low).toNat]? = some o) (ho : 0 ≤ (pc : Int) + o) (hq : ((pc : Int) + o).toNat = q) (r : Rn w l R n0 Q q Ls S h cs ss) : Rn w l R n0 Q pc Ls (.int x :: S) h cs ss :=
  Rn.step (fun T locs X t k => XS.tswIn X.here K.x rfl rfl (hb K.cd hd) rfl hin hoff ho hq k) r
theorem Rn.tswOut (K : Cx w Z a0 own bytes ml rt nm) {dflt low high : Int} {offs : Array Int} {len : Nat} {x : Int32} (hd : decode bytes pc = .ok (.tableswitch dflt low high offs, len)) (hout : x.toInt < low ∨ x.toInt > high) (ho : 0 ≤ (pc : Int) + dflt) (hq : ((pc : Int) + dflt).toNat = q) (r : Rn w l R n0 Q q Ls S h cs ss) : Rn w l R n0 Q pc Ls (.int x :: S) h cs ss :=
  Rn.step (fun T locs X t k => XS.tswOut X.here K.x rfl rfl (hb K.cd hd) rfl hout ho hq k) r
/-! more calls -/
theorem Rn.virtUp (K : Cx w Z a0 own bytes ml rt nm) {index W : Nat} {y z : MethodName} {C owner : String} {b : Addr} {argsL rest : List Value} {bz : ByteArray} {mz : Nat} {rz : Option FieldType} {rm : Room} {Q' : Option Value → Heap → Prop}
    (i1 : Jvm.Cond.methodLink own index y ∈ tables_1) (i2 : Jvm.Cond.sameMethod y.cls owner y.name y.desc ∈ tables_1) (i2' : Jvm.Cond.declares ⟨owner, y.name, y.desc⟩ ∈ tables_1) (i3 : Jvm.Cond.selects C y z ∈ tables_1) (i4 : Jvm.Cond.instanceMethod z ∈ tables_1) (i5 : Jvm.Cond.code z bz mz rz ∈ tables_1) (i6 : Jvm.Cond.initialized z.cls ∈ tables_1)
    (hy : owner ≠ "java/lang/invoke/MethodHandle" ∧ owner ≠ "java/lang/invoke/VarHandle") (M : Met l Z z bz mz rz rm n0 [] (.ref b :: argsL).toArray h Q') (E : Exa Z h b C) (hf : rm.frames + 1 ≤ R.frames) (hlo : W + (mz + 11) + rm.locals ≤ R.locals)
    (hsz : Ls.size = ml) (hlen : ∀ sig, parseMethodDescriptor y.desc = some sig → argsL.length = sig.parameters.length) (hS : S = argsL.reverse ++ .ref b :: rest) (hW : (rest.map fun v => v.category).sum ≤ W)
    (hd : decode bytes pc = .ok (.invokevirtual index, 3)) (hq : pc + 3 = q) (hc : cs + rm.cells ≤ R.cells) (hs : ss + rm.slots ≤ R.slots)
    (r : ∀ v h', Q' v h' → Rn w l R n0 Q q Ls (v.toList ++ rest) h' (cs + rm.cells) (ss + rm.slots)) : Rn w l R n0 Q pc Ls S h cs ss := fun T locs X eT N => by
  subst hq hS
  obtain ⟨cq, kq, qa, qb, qc⟩ := isOf K.z eT E
  obtain ⟨v, _, ⟨T', L', k', n'⟩, -, X', ⟨Lc, hQ, l', y', z'⟩, st⟩ := X.virtualBackUp K.x (x := y) (y := z) K.ow (mvT K.z (K.hw _ i1)) (mvT K.z (K.hw _ i2)) (mvT K.z (K.hw _ i2')) hy (mvT K.z (K.hw _ i3)) (mvT K.z (K.hw _ i4)) (backOf (Q := fun v h L => Fr n0 L ∧ Q' v h) (W := W) M K.z (K.hw _ i5) (K.hw _ i6) hf hlo) qa qc (g := mkF w.m pc Ls (argsL.reverse ++ .ref b :: rest)) rfl (hsz.trans K.mx.symm) (Steps.refl _) (argsL := argsL) (rest := rest) hlen rfl (by show 2 * 0 + _ ≤ _; rw [Nat.mul_zero, Nat.zero_add]; exact hW) (hb K.cd hd) (fun _ _ => ⟨rfl, eT, hc, hs⟩)
  dsimp only [Pt.U, Pt.locs, Pt.cells, Pt.slots] at X' l' y' z' st hQ
  subst l' y' z'
  obtain ⟨s₂, o, h1, r'⟩ := r v T'.heap hQ.2 T' _ X' rfl (Fr.app N hQ.1)
  exact ⟨s₂, o, st.trans h1, r'⟩
theorem Rn.priv (K : Cx w Z a0 own bytes ml rt nm) {index W : Nat} {y : MethodName} {C : String} {b : Addr} {argsL rest : List Value} {bz : ByteArray} {mz : Nat} {rz : Option FieldType} {rm : Room} {Q' : Option Value → Heap → Prop}
    (i1 : Jvm.Cond.methodLink own index y ∈ tables_1) (i4 : Jvm.Cond.instanceMethod y ∈ tables_1) (i3 : Jvm.Cond.selects y.cls y y ∈ tables_1) (i7 : Jvm.Cond.privateMethod y ∈ tables_1) (i5 : Jvm.Cond.code y bz mz rz ∈ tables_1) (i6 : Jvm.Cond.initialized y.cls ∈ tables_1)
    (hy : y.cls ≠ "java/lang/invoke/MethodHandle" ∧ y.cls ≠ "java/lang/invoke/VarHandle") (M : Met l Z y bz mz rz rm n0 [] (.ref b :: argsL).toArray h Q') (E : Exa Z h b C) (hf : rm.frames + 1 ≤ R.frames) (hlo : W + (mz + 11) + rm.locals ≤ R.locals)
    (hsz : Ls.size = ml) (hlen : ∀ sig, parseMethodDescriptor y.desc = some sig → argsL.length = sig.parameters.length) (hS : S = argsL.reverse ++ .ref b :: rest) (hW : (rest.map fun v => v.category).sum ≤ W)
    (hd : decode bytes pc = .ok (.invokevirtual index, 3)) (hq : pc + 3 = q) (hc : cs + rm.cells ≤ R.cells) (hs : ss + rm.slots ≤ R.slots)
    (r : ∀ v h', Q' v h' → Rn w l R n0 Q q Ls (v.toList ++ rest) h' (cs + rm.cells) (ss + rm.slots)) : Rn w l R n0 Q pc Ls S h cs ss := fun T locs X eT N => by
  subst hq hS
  obtain ⟨cq, q1, q2⟩ := E.cell
  obtain ⟨v, _, ⟨T', L', k', n'⟩, -, X', ⟨Lc, hQ, l', y', z'⟩, st⟩ := X.privateBack K.x (y := y) K.ow (mvT K.z (K.hw _ i1)) (mvT K.z (K.hw _ i4)) (mvT K.z (K.hw _ i3)) (Cond.privateMethod_at (mvP K.z (K.hw _ i7) (args := #[]))) (mvT K.z (K.hw _ i5)) hy (backOf (Q := fun v h L => Fr n0 L ∧ Q' v h) (W := W) M K.z (K.hw _ i5) (K.hw _ i6) hf hlo) (g := mkF w.m pc Ls (argsL.reverse ++ .ref b :: rest)) rfl (hsz.trans K.mx.symm) (Steps.refl _) (a := b) (by rw [eT]; exact q1) q2 (argsL := argsL) (rest := rest) hlen rfl (by show 2 * 0 + _ ≤ _; rw [Nat.mul_zero, Nat.zero_add]; exact hW) (hb K.cd hd) (fun _ _ => ⟨rfl, eT, hc, hs⟩)
  dsimp only [Pt.U, Pt.locs, Pt.cells, Pt.slots] at X' l' y' z' st hQ
  subst l' y' z'
  obtain ⟨s₂, o, h1, r'⟩ := r v T'.heap hQ.2 T' _ X' rfl (Fr.app N hQ.1)
  exact ⟨s₂, o, st.trans h1, r'⟩
theorem Rn.castY (K : Cx w Z a0 own bytes ml rt nm) {i : Nat} {C : String} {a : Addr} (hi : Jvm.Cond.classLink own i C ∈ tables_1) (I : Ins Z h a C true) (hd : decode bytes pc = .ok (.checkcast i, 3)) (hq : pc + 3 = q) (r : Rn w l R n0 Q q Ls (.ref a :: S) h cs ss) : Rn w l R n0 Q pc Ls (.ref a :: S) h cs ss := fun T locs X eT N => by
  subst hq
  obtain ⟨T', X', e', st⟩ := Jvm.RoadKit.castY X K.x K.z K.ow (K.hw _ hi) eT I (g := mkF w.m pc Ls (.ref a :: S)) rfl rfl (hb K.cd hd)
  obtain ⟨s₂, o, h1, r'⟩ := r T' locs X' e' N
  exact ⟨s₂, o, st _ h1, r'⟩
end OwnKit2
section OwnKit3
variable {w : Wk} {l : Launch} {R : Room} {n0 : Nat} {Q : Option Value → Heap → Prop} {pc q : Nat} {Ls Ls' : Array Slot} {S : List Value} {h : Heap} {cs ss : Nat} {Z : State} {a0 : Array Value} {own : String} {bytes : ByteArray} {ml : Nat} {rt : Option FieldType} {nm : String}
/-- a callee that a law of the library pays -/
def Pay (w : Wk) (l : Launch) (R : Room) (y : MethodName) (len W : Nat) (as' : Array Value) (h : Heap) (kc ks : Nat) (Qf : Option Value → Heap → List Loc → Prop) : Prop :=
  Back l R w.p w.e w.b w.s w.a y len W (fun P a => a = as' ∧ P.U.heap = h ∧ P.cells + kc ≤ R.cells ∧ P.slots + ks ≤ R.slots) (fun P _ v B => ∃ L, Qf v B.U.heap L ∧ B.locs = P.locs ++ L ∧ B.cells = P.cells + kc ∧ B.slots = P.slots + ks)
theorem Rn.virtB (K : Cx w Z a0 own bytes ml rt nm) {index W kc ks : Nat} {y z : MethodName} {C : String} {b : Addr} {argsL rest : List Value} {Qf : Option Value → Heap → List Loc → Prop}
    (i1 : Jvm.Cond.methodLink own index y ∈ tables_1) (i2 : Jvm.Cond.declares y ∈ tables_1) (nf : NotFace w.s y) (i3 : Jvm.Cond.selects C y z ∈ tables_1) (i4 : Jvm.Cond.instanceMethod z ∈ tables_1)
    (hy : y.cls ≠ "java/lang/invoke/MethodHandle" ∧ y.cls ≠ "java/lang/invoke/VarHandle") (M : Pay w l R z 3 W (.ref b :: argsL).toArray h kc ks Qf) (hF : ∀ v h' L, Qf v h' L → Fr n0 L) (E : Exa Z h b C)
    (hsz : Ls.size = ml) (hlen : ∀ sig, parseMethodDescriptor y.desc = some sig → argsL.length = sig.parameters.length) (hS : S = argsL.reverse ++ .ref b :: rest) (hW : (rest.map fun v => v.category).sum ≤ W)
    (hd : decode bytes pc = .ok (.invokevirtual index, 3)) (hq : pc + 3 = q) (hc : cs + kc ≤ R.cells) (hs : ss + ks ≤ R.slots)
    (r : ∀ v h' L, Qf v h' L → Rn w l R n0 Q q Ls (v.toList ++ rest) h' (cs + kc) (ss + ks)) : Rn w l R n0 Q pc Ls S h cs ss := fun T locs X eT N => by
  subst hq hS
  obtain ⟨cq, kq, qa, qb, qc⟩ := isOf K.z eT E
  obtain ⟨v, _, ⟨T', L', k', n'⟩, -, X', ⟨Lc, hQ, l', y', z'⟩, st⟩ := X.virtualBack K.x (y := y) (z := z) K.ow (mvT K.z (K.hw _ i1)) (mvT K.z (K.hw _ i2)) nf (mvT K.z (K.hw _ i3)) (mvT K.z (K.hw _ i4)) hy M qa qc (g := mkF w.m pc Ls (argsL.reverse ++ .ref b :: rest)) rfl (hsz.trans K.mx.symm) (Steps.refl _) (argsL := argsL) (rest := rest) hlen rfl (by show 2 * 0 + _ ≤ _; rw [Nat.mul_zero, Nat.zero_add]; exact hW) (hb K.cd hd) (fun _ _ => ⟨rfl, eT, hc, hs⟩)
  dsimp only [Pt.U, Pt.locs, Pt.cells, Pt.slots] at X' l' y' z' st hQ
  subst l' y' z'
  obtain ⟨s₂, o, h1, r'⟩ := r v T'.heap Lc hQ T' _ X' rfl (Fr.app N (hF _ _ _ hQ))
  exact ⟨s₂, o, st.trans h1, r'⟩
theorem Rn.specB (K : Cx w Z a0 own bytes ml rt nm) {index W kc ks : Nat} {y : MethodName} {b : Addr} {argsL rest : List Value} {bz : ByteArray} {mz : Nat} {Qf : Option Value → Heap → List Loc → Prop}
    (hn : y.name = "<init>") (i1 : Jvm.Cond.methodLink own index y ∈ tables_1) (i4 : Jvm.Cond.instanceMethod y ∈ tables_1) (i5 : Jvm.Cond.code y bz mz none ∈ tables_1)
    (hy : y.cls ≠ "java/lang/invoke/MethodHandle" ∧ y.cls ≠ "java/lang/invoke/VarHandle") (M : Pay w l R y 3 W (.ref b :: argsL).toArray h kc ks Qf) (hF : ∀ v h' L, Qf v h' L → Fr n0 L)
    (hsz : Ls.size = ml) (hlen : ∀ sig, parseMethodDescriptor y.desc = some sig → argsL.length = sig.parameters.length) (hS : S = argsL.reverse ++ .ref b :: rest) (hW : (rest.map fun v => v.category).sum ≤ W)
    (hd : decode bytes pc = .ok (.invokespecial index, 3)) (hq : pc + 3 = q) (hc : cs + kc ≤ R.cells) (hs : ss + ks ≤ R.slots)
    (r : ∀ v h' L, Qf v h' L → Rn w l R n0 Q q Ls (v.toList ++ rest) h' (cs + kc) (ss + ks)) : Rn w l R n0 Q pc Ls S h cs ss := fun T locs X eT N => by
  subst hq hS
  obtain ⟨v, _, ⟨T', L', k', n'⟩, -, X', ⟨Lc, hQ, l', y', z'⟩, st⟩ := X.specialBack K.x (y := y) hn K.ow (mvT K.z (K.hw _ i1)) (mvT K.z (K.hw _ i4)) (mvT K.z (K.hw _ i5)) hy M (g := mkF w.m pc Ls (argsL.reverse ++ .ref b :: rest)) rfl (hsz.trans K.mx.symm) (Steps.refl _) (a := b) (argsL := argsL) (rest := rest) hlen rfl (by show 2 * 0 + _ ≤ _; rw [Nat.mul_zero, Nat.zero_add]; exact hW) (hb K.cd hd) (fun _ _ => ⟨rfl, eT, hc, hs⟩)
  dsimp only [Pt.U, Pt.locs, Pt.cells, Pt.slots] at X' l' y' z' st hQ
  subst l' y' z'
  obtain ⟨s₂, o, h1, r'⟩ := r v T'.heap Lc hQ T' _ X' rfl (Fr.app N (hF _ _ _ hQ))
  exact ⟨s₂, o, st.trans h1, r'⟩
/-! arrays of arrays, clone, constants of floats, instanceof -/
theorem Rn.newRA (K : Cx w Z a0 own bytes ml rt nm) {i cap : Nat} {C : String} {ty : FieldType} {x : Int32} (hC : (FieldType.array ty).toString = C) (hi : Jvm.Cond.classLink own i C ∈ tables_1) (ho : Jvm.Cond.arrayOver (.array ty) ∈ tables_1) (hn : ¬ x < 0) (hcap : x.toNatClampNeg ≤ cap) (hb8 : cap * 8 ≤ 536870912) (hc : cs + 1 ≤ R.cells) (hs : ss + cap ≤ R.slots) {ad : String} (had : "[" ++ C = ad) (hd : decode bytes pc = .ok (.anewarray i, 3)) (hq : pc + 3 = q)
    (r : ∀ b h' k, b = h.size → Ext h h' → Arv Z h' b k (.array ty) x [] .null → Exa Z h' b ad → OvrA Z k ty C → Rn w l R n0 Q q Ls (.ref b :: S) h' (cs + 1) (ss + cap)) : Rn w l R n0 Q pc Ls (.int x :: S) h cs ss := fun T locs X eT N => by
  subst hq
  obtain ⟨T', h', k, X', e', E, A, EA, O, st⟩ := Jvm.RoadKit.newRA X K.x K.z K.ow hC (K.hw _ hi) (K.hw _ ho) eT (g := mkF w.m pc Ls (.int x :: S)) rfl (hb K.cd hd) rfl hn hcap hb8 hc hs had
  obtain ⟨s₂, o, h1, r'⟩ := r _ h' k rfl E (Arv.new A hn) EA O T' _ X' e' N
  exact ⟨s₂, o, st _ h1, r'⟩
theorem Rn.clone (K : Cx w Z a0 own bytes ml rt nm) {i W cap : Nat} {ad : String} {a : Addr} {k : ClassId} {ty : FieldType} {z : Int32} {vs : List Value} {d : Value}
    (w1 : Jvm.Cond.methodLink own i ⟨ad, "clone", "()Ljava/lang/Object;"⟩ ∈ tables_1) (w2 : Jvm.Cond.sameMethod ad "java/lang/Object" "clone" "()Ljava/lang/Object;" ∈ tables_1) (w3 : Jvm.Cond.native ⟨"java/lang/Object", "clone", "()Ljava/lang/Object;"⟩ ∈ tables_1) (w4 : Jvm.Cond.instanceMethod ⟨"java/lang/Object", "clone", "()Ljava/lang/Object;"⟩ ∈ tables_1)
    (w5 : Jvm.Cond.selects ad ⟨ad, "clone", "()Ljava/lang/Object;"⟩ ⟨"java/lang/Object", "clone", "()Ljava/lang/Object;"⟩ ∈ tables_1) (w6 : Jvm.Cond.castable ad "java/lang/Cloneable" ∈ tables_1) (A : Arv Z h a k ty z vs d) (E : Exa Z h a ad) (hsz : Ls.size = ml) (hf : 1 ≤ R.frames) (hW : (S.map fun v => v.category).sum ≤ W) (hl : W + 14 ≤ R.locals) (hcap : z.toNatClampNeg ≤ cap) (hc : cs + 1 ≤ R.cells) (hs : ss + cap ≤ R.slots)
    (hd : decode bytes pc = .ok (.invokevirtual i, 3)) (hq : pc + 3 = q) (r : ∀ b h', b = h.size → Ext h h' → Arv Z h' b k ty z vs d → Exa Z h' b ad → Rn w l R n0 Q q Ls (.ref b :: S) h' (cs + 1) (ss + cap)) : Rn w l R n0 Q pc Ls (.ref a :: S) h cs ss := fun T locs X eT N => by
  subst hq
  obtain ⟨cl, A1, A2, A3, A4, A5, A6⟩ := A
  have FC : FitC Z cl := fitC_of A1 fun i hi v hv => by rw [A5 i hi] at hv; cases hv; exact A6 i hi
  obtain ⟨T', h', X', e', ex, A', E', st⟩ := cloneA X K.x K.z K.ow (K.hw _ w1) (K.hw _ w2) (K.hw _ w3) (K.hw _ w4) (K.hw _ w5) (K.hw _ w6) eT A1 E FC (g := mkF w.m pc Ls (.ref a :: S)) rfl (hsz.trans K.mx.symm) rfl (hb K.cd hd) hf (W := W) (by show 2 * 0 + _ ≤ _; rw [Nat.mul_zero, Nat.zero_add]; exact hW) hl (by rw [A3]; exact hcap) hc hs
  obtain ⟨s₂, o, h1, r'⟩ := r _ h' rfl ex ⟨cloneOf cl, A', A2, A3, A4, A5, A6⟩ E' T' _ X' e' N
  exact ⟨s₂, o, st _ h1, r'⟩
theorem Rn.ldcF (K : Cx w Z a0 own bytes ml rt nm) {i : Nat} (v : UInt32) (hi : Jvm.Cond.constantFloat own i v ∈ tables_1) (hd : decode bytes pc = .ok (.ldc i, 2)) (hq : pc + 2 = q) (r : Rn w l R n0 Q q Ls (.float v :: S) h cs ss) : Rn w l R n0 Q pc Ls S h cs ss := by
  subst hq; exact Rn.step (fun T locs X t k => X.ldcFloatC K.x K.ow (mvT K.z (K.hw _ hi)) (g := mkF w.m pc Ls S) rfl (hb K.cd hd) _ k) r
theorem Rn.instY (K : Cx w Z a0 own bytes ml rt nm) {i : Nat} {C : String} {a : Addr} (hi : Jvm.Cond.classLink own i C ∈ tables_1) (I : Ins Z h a C true) (hd : decode bytes pc = .ok (.instanceof i, 3)) (hq : pc + 3 = q) (r : Rn w l R n0 Q q Ls (.int 1 :: S) h cs ss) : Rn w l R n0 Q pc Ls (.ref a :: S) h cs ss := fun T locs X eT N => by
  subst hq
  obtain ⟨T', X', e', st⟩ := Jvm.RoadKit.instY X K.x K.z K.ow (K.hw _ hi) eT I (g := mkF w.m pc Ls (.ref a :: S)) rfl rfl (hb K.cd hd)
  obtain ⟨s₂, o, h1, r'⟩ := r T' locs X' e' N
  exact ⟨s₂, o, st _ h1, r'⟩
end OwnKit3
theorem own_ti {k : Nat} (hk : k < 2147483648) : (Int32.ofNat k).toInt = k := len_toInt (n := k) hk
theorem own_cl {k : Nat} (hk : k < 2147483648) : (Int32.ofNat k).toNatClampNeg = k := by simp only [Int32.toNatClampNeg, own_ti hk]; omega
theorem own_sub {a b : Nat} (h : b ≤ a) (ha : a < 2147483648) : Int32.ofNat a - Int32.ofNat b = Int32.ofNat (a - b) := by
  apply Int32.toInt_inj.mp
  rw [XT.sub32 (by rw [own_ti ha, own_ti (by omega)]; exact ⟨by omega, by omega⟩), own_ti ha, own_ti (by omega), own_ti (by omega)]
  omega
theorem own_add {a b : Nat} (h : a + b < 2147483648) : Int32.ofNat a + Int32.ofNat b = Int32.ofNat (a + b) := by
  apply Int32.toInt_inj.mp
  rw [XT.add32 (by rw [own_ti (by omega), own_ti (by omega)]; exact ⟨by omega, by omega⟩), own_ti (by omega), own_ti (by omega), own_ti (by omega)]
  omega
theorem own_lt {a b : Nat} (h : a < b) (hb : b < 2147483648) : Int32.ofNat a < Int32.ofNat b := by rw [Int32.lt_iff_toInt_lt, own_ti (by omega), own_ti hb]; omega
theorem own_nlt {a b : Nat} (h : b ≤ a) (ha : a < 2147483648) : ¬ Int32.ofNat a < Int32.ofNat b := by rw [Int32.lt_iff_toInt_lt, own_ti ha, own_ti (k := b) (by omega)]; omega
theorem own_nn {a : Nat} (ha : a < 2147483648) : ¬ Int32.ofNat a < 0 := own_nlt (b := 0) (Nat.zero_le _) ha
theorem own_in {a b : Nat} (h : a < b) (hb : b < 2147483648) : ¬ Int32.ofNat a < 0 ∧ Int32.ofNat a < Int32.ofNat b := ⟨own_nn (by omega), own_lt h hb⟩
theorem own_of {x : Int32} (h : 0 ≤ x.toInt) : x = Int32.ofNat x.toInt.toNat := by
  have h2 := Int32.toInt_lt x
  apply Int32.toInt_inj.mp
  rw [own_ti (by omega)]
  omega
theorem own_ex {x : Int32} {lo hi : Nat} (h1 : (lo : Int) ≤ x.toInt) (h2 : x.toInt ≤ hi) : ∃ k : Nat, lo ≤ k ∧ k ≤ hi ∧ x = Int32.ofNat k := ⟨x.toInt.toNat, by omega, by omega, own_of (by omega)⟩
theorem own_15 (x : Int32) : 0 ≤ (x &&& (15 : Int32)).toInt ∧ (x &&& (15 : Int32)).toInt ≤ 15 := by
  have e : (x &&& (15 : Int32)).toInt = (x.toBitVec.toNat % 16 : Nat) := by
    have h : (x &&& (15 : Int32)).toBitVec.toNat = x.toBitVec.toNat % 16 := by
      show (x.toBitVec &&& (15 : Int32).toBitVec).toNat = _
      rw [BitVec.toNat_and]
      exact Nat.and_two_pow_sub_one_eq_mod _ 4
    show (x &&& (15 : Int32)).toBitVec.toInt = _
    rw [BitVec.toInt_eq_toNat_of_lt (by omega), h]
  rw [e]
  omega
theorem own_n (x : Int32) : ∃ N : Nat, 2 ≤ N ∧ N ≤ 17 ∧ (2 : Int32) + (x &&& (15 : Int32)) = Int32.ofNat N := by
  obtain ⟨h1, h2⟩ := own_15 x
  obtain ⟨k, k1, k2, e⟩ := own_ex (lo := 0) (hi := 15) (by omega) (by omega : (x &&& (15 : Int32)).toInt ≤ (15 : Nat))
  refine ⟨2 + k, by omega, by omega, ?_⟩
  rw [e, ← own_add (by omega)]
  rfl
theorem own_rem (x : Int32) {m : Nat} (hm : 0 < m) (hb : m < 2147483648) : ∃ k : Nat, k < m ∧ (x &&& (2147483647 : Int32)) % Int32.ofNat m = Int32.ofNat k := by
  obtain ⟨h1, h2⟩ := own_mod x (own_ti hb) (by omega : (0 : Int) < (m : Int))
  obtain ⟨k, -, k2, e⟩ := own_ex (lo := 0) (hi := m - 1) (by omega) (by omega : ((x &&& (2147483647 : Int32)) % Int32.ofNat m).toInt ≤ ((m - 1 : Nat) : Int))
  exact ⟨k, by omega, e⟩
theorem own_nz {m : Nat} (hm : 0 < m) (hb : m < 2147483648) : Int32.ofNat m ≠ 0 := fun e => by
  have h : (Int32.ofNat m).toInt = (0 : Int32).toInt := by rw [e]
  rw [own_ti hb] at h
  have e0 : (0 : Int32).toInt = 0 := rfl
  omega

/-- the first m rows of the table -/
def Rows (Z : State) (h : Heap) (n0 N : Nat) (vs : List Value) (m : Nat) : Prop := ∀ j, j < m → ∃ (c : Addr) (k : ClassId), vs[j]? = some (.ref c) ∧ n0 ≤ c ∧ Exa Z h c "[I" ∧ Arv Z h c k .int (Int32.ofNat (N - 1 - j)) [] (.int (0 : Int32))
section RowsLaws
variable {Z : State} {h h' : Heap} {n0 N m : Nat} {vs : List Value}
theorem Rows.ext (F : Rows Z h n0 N vs m) (E : Ext h h') : Rows Z h' n0 N vs m := fun j hj => by
  obtain ⟨c, k, q1, q2, q3, q4⟩ := F j hj
  exact ⟨c, k, q1, q2, q3.ext E, q4.ext E⟩
theorem Rows.wr {o : Addr} {sl : Nat} {v : Value} {C : String} (F : Rows Z h n0 N vs m) (W : Wr h h' o sl v) (E : Exa Z h o C) (hC : "[I" ≠ C) : Rows Z h' n0 N vs m := fun j hj => by
  obtain ⟨c, k, q1, q2, q3, q4⟩ := F j hj
  exact ⟨c, k, q1, q2, q3.wr W, q4.other W (ne_exa q3 E hC)⟩
theorem Rows.keep {o : Addr} {C : String} (F : Rows Z h n0 N vs m) (K : Keep h h' [o]) (E : Exa Z h o C) (hC : "[I" ≠ C) : Rows Z h' n0 N vs m := fun j hj => by
  obtain ⟨c, k, q1, q2, q3, q4⟩ := F j hj
  exact ⟨c, k, q1, q2, q3.keep K, q4.keep K (ninS (ne_exa q3 E hC) nin0)⟩
theorem Rows.more {c : Addr} {k : ClassId} (F : Rows Z h n0 N vs m) (hm : m < vs.length) (g : n0 ≤ c) (E : Exa Z h c "[I") (A : Arv Z h c k .int (Int32.ofNat (N - 1 - m)) [] (.int (0 : Int32))) : Rows Z h n0 N (vs.set m (.ref c)) (m + 1) := fun j hj => by
  by_cases e : j = m
  · subst e
    exact ⟨c, k, by simp [hm], g, E, A⟩
  · obtain ⟨c', k', q1, q⟩ := F j (by omega)
    exact ⟨c', k', by rw [List.getElem?_set_ne (by omega)]; exact q1, q⟩
end RowsLaws
theorem own_getset {vs : List Value} {j : Nat} {v : Value} (hj : j < vs.length) (hb : j < 2147483648) : (vs.set j v).getD (Int32.ofNat j).toNatClampNeg .null = v := by
  rw [own_cl hb]; simp [hj]
theorem own_getat {vs : List Value} {j : Nat} {v : Value} (hv : vs[j]? = some v) (hb : j < 2147483648) : vs.getD (Int32.ofNat j).toNatClampNeg .null = v := by
  rw [own_cl hb]; simp [List.getD_eq_getElem?_getD, hv]

theorem pd_0 : parseMethodDescriptor "()V" = some ⟨[], none⟩ := by decide +kernel
theorem pd_1 : parseMethodDescriptor "([JJ)V" = some ⟨[(.array .long), .long], none⟩ := by decide +kernel
theorem pd_2 : parseMethodDescriptor "(I)V" = some ⟨[.int], none⟩ := by decide +kernel
theorem pd_3 : parseMethodDescriptor "(I)[I" = some ⟨[.int], some (.array .int)⟩ := by decide +kernel
theorem pd_4 : parseMethodDescriptor "(II)I" = some ⟨[.int, .int], some .int⟩ := by decide +kernel
theorem d4_0 : decode jdk_71_method_1_code 0 = .ok (.aload_n 0, 1) := by decide +kernel
theorem d4_1 : decode jdk_71_method_1_code 1 = .ok (.invokespecial 1, 3) := by decide +kernel
theorem d4_4 : decode jdk_71_method_1_code 4 = .ok (.return_, 1) := by decide +kernel
theorem pn_m_am : plainName "java/util/AbstractMap" = true := by first | (simp [plainName, overriddenIn]; done) | decide +kernel
set_option maxRecDepth 65536 in
set_option maxHeartbeats 40000000 in
theorem m_am (l : Launch) (Z : State) (a0 : Array Value) (hw : ∀ d ∈ tables_1, d.before a0 Z = true) (n0 : Nat) (h0 : Heap) (b : Addr) :
    Met l Z (⟨"java/util/AbstractMap", "<init>", "()V"⟩ : MethodName) jdk_71_method_1_code 1 none ({ frames := 1, cells := 0, slots := 0, locals := 12 } : Room) n0 [] #[(.ref b)] h0 (fun v h => v = none ∧ h0 = h) := by
  refine Met.intro (Ls := #[.val (.ref b)]) (plainFor_of_name pn_m_am) hw (fun m => by first | rfl | (simp [entryFrame, mkF, argsToLocals, Value.category]; done)) ?_
  intro w K0
  have K : Cx w Z a0 "java/util/AbstractMap" jdk_71_method_1_code 1 none "<init>" := K0
  refine Rn.aloadN K (q := 1) d4_0 rfl rfl rfl ?_
  refine Rn.initO K (q := 4) (W := 0) (List.mem_of_getElem? (i := 22) rfl) (List.mem_of_getElem? (i := 8) rfl) (List.mem_of_getElem? (i := 9) rfl) (by decide) (by decide) rfl (Nat.le_of_ble_eq_true rfl) d4_1 rfl ?_
  exact Rn.retV K rfl d4_4 (by decide) (by decide) ⟨rfl, rfl⟩
theorem d3_0 : decode jdk_69_method_7_code 0 = .ok (.aload_n 0, 1) := by decide +kernel
theorem d3_1 : decode jdk_69_method_7_code 1 = .ok (.invokespecial 43, 3) := by decide +kernel
theorem d3_4 : decode jdk_69_method_7_code 4 = .ok (.aload_n 0, 1) := by decide +kernel
theorem d3_5 : decode jdk_69_method_7_code 5 = .ok (.ldc 92, 2) := by decide +kernel
theorem d3_7 : decode jdk_69_method_7_code 7 = .ok (.putfield 81, 3) := by decide +kernel
theorem d3_10 : decode jdk_69_method_7_code 10 = .ok (.return_, 1) := by decide +kernel
theorem pn_m_hm : plainName "java/util/HashMap" = true := by first | (simp [plainName, overriddenIn]; done) | decide +kernel
set_option maxRecDepth 65536 in
set_option maxHeartbeats 40000000 in
theorem m_hm (l : Launch) (Z : State) (a0 : Array Value) (hw : ∀ d ∈ tables_1, d.before a0 Z = true) (n0 : Nat) (h0 : Heap) (b : Addr) (v0 : Value) (X0 : Old Z n0 h0) (E : Exa Z h0 b "java/util/HashMap") (g : n0 ≤ b) (F : Fld Z h0 b "java/util/HashMap" "loadFactor" "F" v0) :
    Met l Z (⟨"java/util/HashMap", "<init>", "()V"⟩ : MethodName) jdk_69_method_7_code 1 none ({ frames := 2, cells := 0, slots := 0, locals := 24 } : Room) n0 [] #[(.ref b)] h0 (fun v h => v = none ∧ Keep h0 h [b]) := by
  refine Met.intro (Ls := #[.val (.ref b)]) (plainFor_of_name pn_m_hm) hw (fun m => by first | rfl | (simp [entryFrame, mkF, argsToLocals, Value.category]; done)) ?_
  intro w K0
  have K : Cx w Z a0 "java/util/HashMap" jdk_69_method_7_code 1 none "<init>" := K0
  have K1 := Keep.refl h0 [b]
  refine Rn.aloadN K (q := 1) d3_0 rfl rfl rfl ?_
  refine Rn.spec K (q := 4) (W := 0) (y := (⟨"java/util/AbstractMap", "<init>", "()V"⟩ : MethodName)) (b := b) (argsL := []) (rest := []) rfl (List.mem_of_getElem? (i := 16) rfl) (List.mem_of_getElem? (i := 17) rfl) (List.mem_of_getElem? (i := 21) rfl) (List.mem_of_getElem? (i := 20) rfl) (by decide) (m_am l Z a0 hw n0 h0 b) (by decide) (by decide) rfl (lenOf pd_0 rfl) rfl (Nat.le_of_ble_eq_true rfl) d3_1 rfl (by decide) (by decide) ?_
  rintro _ _ ⟨rfl, rfl⟩
  show Rn w l _ n0 _ 4 #[.val (.ref b)] [] h0 0 0
  refine Rn.aloadN K (q := 5) d3_4 rfl rfl rfl ?_
  refine Rn.ldcF K (q := 7) (1061158912 : UInt32) (List.mem_of_getElem? (i := 23) rfl) d3_5 rfl ?_
  refine Rn.putF K (q := 10) (ty := .float) (List.mem_of_getElem? (i := 24) rfl) Via.refl F E (Or.inr ⟨(List.mem_of_getElem? (i := 25) rfl), rfl, rfl⟩) (List.mem_of_getElem? (i := 11) rfl) (by decide) rfl rfl g d3_7 rfl ?_
  intro h1 W2
  have f3 := X0.wr W2 g
  have f4 := K1.wr W2 (Or.inl (List.mem_of_getElem? (i := 0) rfl))
  have f5 := E.wr W2
  have f6 := Fld.same W2 F
  exact Rn.retV K rfl d3_10 (by decide) (by decide) ⟨rfl, f4⟩
theorem d5_0 : decode jdk_65_method_101_code 0 = .ok (.iconst 0, 1) := by decide +kernel
theorem d5_1 : decode jdk_65_method_101_code 1 = .ok (.istore_n 3, 1) := by decide +kernel
theorem d5_2 : decode jdk_65_method_101_code 2 = .ok (.aload_n 0, 1) := by decide +kernel
theorem d5_3 : decode jdk_65_method_101_code 3 = .ok (.arraylength, 1) := by decide +kernel
theorem d5_4 : decode jdk_65_method_101_code 4 = .ok (.istore 4, 2) := by decide +kernel
theorem d5_6 : decode jdk_65_method_101_code 6 = .ok (.iload_n 3, 1) := by decide +kernel
theorem d5_7 : decode jdk_65_method_101_code 7 = .ok (.iload 4, 2) := by decide +kernel
theorem d5_9 : decode jdk_65_method_101_code 9 = .ok (.if_icmp .ge 13, 3) := by decide +kernel
theorem d5_12 : decode jdk_65_method_101_code 12 = .ok (.aload_n 0, 1) := by decide +kernel
theorem d5_13 : decode jdk_65_method_101_code 13 = .ok (.iload_n 3, 1) := by decide +kernel
theorem d5_14 : decode jdk_65_method_101_code 14 = .ok (.lload_n 1, 1) := by decide +kernel
theorem d5_15 : decode jdk_65_method_101_code 15 = .ok (.lastore, 1) := by decide +kernel
theorem d5_16 : decode jdk_65_method_101_code 16 = .ok (.iinc 3 1, 3) := by decide +kernel
theorem d5_19 : decode jdk_65_method_101_code 19 = .ok (.goto (-13), 3) := by decide +kernel
theorem d5_22 : decode jdk_65_method_101_code 22 = .ok (.return_, 1) := by decide +kernel
set_option maxRecDepth 65536 in
set_option maxHeartbeats 40000000 in
theorem l_fill {w : Wk} {l : Launch} {Z : State} {a0 : Array Value} {n0 : Nat} {h0 : Heap} (K : Cx w Z a0 "java/util/Arrays" jdk_65_method_101_code 5 none "fill") (d : Addr) (v : Int64) (k : ClassId) (M : Nat) (hM : M ≤ 16) (g : n0 ≤ d) :
    ∀ (t j : Nat), j + t = M → ∀ (h : Heap) (vs : List Value), Keep h0 h [d] → Exa Z h d "[J" → Arv Z h d k .long (Int32.ofNat M) vs (.long (0 : Int64)) → vs.length = 16 → Rn w l ({ frames := 0, cells := 0, slots := 0, locals := 0 } : Room) n0 (fun v h => v = none ∧ Keep h0 h [d]) 6 #[.val (.ref d), .val (.long v), .second, .val (.int (Int32.ofNat j)), .val (.int (Int32.ofNat M))] [] h 0 0 := by
  intro t
  induction t with
  | zero =>
    intro j hj h vs KK ED A hl
    refine Rn.iloadN K (q := 7) d5_6 rfl rfl ?_
    refine Rn.iload K (q := 9) d5_7 rfl rfl ?_
    refine Rn.icY K (q := 22) d5_9 (XT.ii_ge_t (own_nlt (by omega) (by omega))) (by decide) (by decide) ?_
    exact Rn.retV K rfl d5_22 (by decide) (by decide) ⟨rfl, KK⟩
  | succ t ih =>
    intro j hj h vs KK ED A hl
    refine Rn.iloadN K (q := 7) d5_6 rfl rfl ?_
    refine Rn.iload K (q := 9) d5_7 rfl rfl ?_
    refine Rn.icN K (q := 12) d5_9 (XT.ii_ge_f (own_lt (by omega) (by omega))) rfl ?_
    refine Rn.aloadN K (q := 13) d5_12 rfl rfl rfl ?_
    refine Rn.iloadN K (q := 14) d5_13 rfl rfl ?_
    refine Rn.lloadN K (q := 15) d5_14 rfl rfl ?_
    refine Rn.lastore K (q := 16) (i := j) A (own_in (by omega) (by omega)) (own_cl (by omega)) (by omega) g d5_15 rfl ?_
    intro h1 W1 A1
    have f1 := KK.wr W1 (Or.inl (List.mem_of_getElem? (i := 0) rfl))
    have f2 := ED.wr W1
    refine Rn.iinc K (q := 19) (Ls' := #[.val (.ref d), .val (.long v), .second, .val (.int (Int32.ofNat j + (1 : Int32))), .val (.int (Int32.ofNat M))]) (1 : Int32) d5_16 rfl rfl rfl rfl ?_
    rw [show Int32.ofNat j + (1 : Int32) = Int32.ofNat (j + 1) from own_add (b := 1) (by omega)]
    refine Rn.goto K (q := 6) d5_19 (by decide) (by decide) ?_
    exact ih (j + 1) (by omega) _ _ f1 f2 A1 (by rw [List.length_set]; exact hl)
theorem pn_m_fill : plainName "java/util/Arrays" = true := by first | (simp [plainName, overriddenIn]; done) | decide +kernel
set_option maxRecDepth 65536 in
set_option maxHeartbeats 40000000 in
theorem m_fill (l : Launch) (Z : State) (a0 : Array Value) (hw : ∀ d ∈ tables_1, d.before a0 Z = true) (n0 : Nat) (h0 : Heap) (d : Addr) (v : Int64) (k : ClassId) (M : Nat) (hM : M ≤ 16) (g : n0 ≤ d) (E : Exa Z h0 d "[J") (A : Arv Z h0 d k .long (Int32.ofNat M) [] (.long (0 : Int64))) :
    Met l Z (⟨"java/util/Arrays", "fill", "([JJ)V"⟩ : MethodName) jdk_65_method_101_code 5 none ({ frames := 0, cells := 0, slots := 0, locals := 0 } : Room) n0 [] #[(.ref d), (.long v)] h0 (fun v h => v = none ∧ Keep h0 h [d]) := by
  refine Met.intro (Ls := #[.val (.ref d), .val (.long v), .second, .unset, .unset]) (plainFor_of_name pn_m_fill) hw (fun m => by first | rfl | (simp [entryFrame, mkF, argsToLocals, Value.category]; done)) ?_
  intro w K0
  have K : Cx w Z a0 "java/util/Arrays" jdk_65_method_101_code 5 none "fill" := K0
  refine Rn.iconst K (q := 1) (0 : Int32) d5_0 rfl rfl ?_
  refine Rn.istoreN K (q := 2) (Ls' := #[.val (.ref d), .val (.long v), .second, .val (.int (0 : Int32)), .unset]) d5_1 rfl rfl ?_
  refine Rn.aloadN K (q := 3) d5_2 rfl rfl rfl ?_
  refine Rn.arraylength K (q := 4) A d5_3 rfl ?_
  refine Rn.istore K (q := 6) (Ls' := #[.val (.ref d), .val (.long v), .second, .val (.int (0 : Int32)), .val (.int (Int32.ofNat M))]) d5_4 rfl rfl ?_
  exact l_fill K d v k M hM g M 0 (by omega) h0 _ (Keep.refl h0 [d]) E (A.pad (pad_rep [] (.long (0 : Int64)) 16)) (by simp)
theorem d1_0 : decode prog_23_method_1_code 0 = .ok (.aload_n 0, 1) := by decide +kernel
theorem d1_1 : decode prog_23_method_1_code 1 = .ok (.invokespecial 3, 3) := by decide +kernel
theorem d1_4 : decode prog_23_method_1_code 4 = .ok (.aload_n 0, 1) := by decide +kernel
theorem d1_5 : decode prog_23_method_1_code 5 = .ok (.new 9, 3) := by decide +kernel
theorem d1_8 : decode prog_23_method_1_code 8 = .ok (.dup, 1) := by decide +kernel
theorem d1_9 : decode prog_23_method_1_code 9 = .ok (.invokespecial 11, 3) := by decide +kernel
theorem d1_12 : decode prog_23_method_1_code 12 = .ok (.putfield 12, 3) := by decide +kernel
theorem d1_15 : decode prog_23_method_1_code 15 = .ok (.aload_n 0, 1) := by decide +kernel
theorem d1_16 : decode prog_23_method_1_code 16 = .ok (.iload_n 1, 1) := by decide +kernel
theorem d1_17 : decode prog_23_method_1_code 17 = .ok (.putfield 18, 3) := by decide +kernel
theorem d1_20 : decode prog_23_method_1_code 20 = .ok (.aload_n 0, 1) := by decide +kernel
theorem d1_21 : decode prog_23_method_1_code 21 = .ok (.iload_n 1, 1) := by decide +kernel
theorem d1_22 : decode prog_23_method_1_code 22 = .ok (.iconst 1, 1) := by decide +kernel
theorem d1_23 : decode prog_23_method_1_code 23 = .ok (.isub, 1) := by decide +kernel
theorem d1_24 : decode prog_23_method_1_code 24 = .ok (.anewarray 22, 3) := by decide +kernel
theorem d1_27 : decode prog_23_method_1_code 27 = .ok (.putfield 24, 3) := by decide +kernel
theorem d1_30 : decode prog_23_method_1_code 30 = .ok (.aload_n 0, 1) := by decide +kernel
theorem d1_31 : decode prog_23_method_1_code 31 = .ok (.iload_n 1, 1) := by decide +kernel
theorem d1_32 : decode prog_23_method_1_code 32 = .ok (.iconst 1, 1) := by decide +kernel
theorem d1_33 : decode prog_23_method_1_code 33 = .ok (.isub, 1) := by decide +kernel
theorem d1_34 : decode prog_23_method_1_code 34 = .ok (.anewarray 28, 3) := by decide +kernel
theorem d1_37 : decode prog_23_method_1_code 37 = .ok (.putfield 30, 3) := by decide +kernel
theorem d1_40 : decode prog_23_method_1_code 40 = .ok (.iconst 1, 1) := by decide +kernel
theorem d1_41 : decode prog_23_method_1_code 41 = .ok (.istore_n 2, 1) := by decide +kernel
theorem d1_42 : decode prog_23_method_1_code 42 = .ok (.iload_n 2, 1) := by decide +kernel
theorem d1_43 : decode prog_23_method_1_code 43 = .ok (.iload_n 1, 1) := by decide +kernel
theorem d1_44 : decode prog_23_method_1_code 44 = .ok (.if_icmp .ge 49, 3) := by decide +kernel
theorem d1_47 : decode prog_23_method_1_code 47 = .ok (.aload_n 0, 1) := by decide +kernel
theorem d1_48 : decode prog_23_method_1_code 48 = .ok (.getfield 24, 3) := by decide +kernel
theorem d1_51 : decode prog_23_method_1_code 51 = .ok (.iload_n 2, 1) := by decide +kernel
theorem d1_52 : decode prog_23_method_1_code 52 = .ok (.iconst 1, 1) := by decide +kernel
theorem d1_53 : decode prog_23_method_1_code 53 = .ok (.isub, 1) := by decide +kernel
theorem d1_54 : decode prog_23_method_1_code 54 = .ok (.iload_n 1, 1) := by decide +kernel
theorem d1_55 : decode prog_23_method_1_code 55 = .ok (.iload_n 2, 1) := by decide +kernel
theorem d1_56 : decode prog_23_method_1_code 56 = .ok (.isub, 1) := by decide +kernel
theorem d1_57 : decode prog_23_method_1_code 57 = .ok (.newarray .int, 2) := by decide +kernel
theorem d1_59 : decode prog_23_method_1_code 59 = .ok (.aastore, 1) := by decide +kernel
theorem d1_60 : decode prog_23_method_1_code 60 = .ok (.aload_n 0, 1) := by decide +kernel
theorem d1_61 : decode prog_23_method_1_code 61 = .ok (.getfield 30, 3) := by decide +kernel
theorem d1_64 : decode prog_23_method_1_code 64 = .ok (.iload_n 2, 1) := by decide +kernel
theorem d1_65 : decode prog_23_method_1_code 65 = .ok (.iconst 1, 1) := by decide +kernel
theorem d1_66 : decode prog_23_method_1_code 66 = .ok (.isub, 1) := by decide +kernel
theorem d1_67 : decode prog_23_method_1_code 67 = .ok (.iload_n 1, 1) := by decide +kernel
theorem d1_68 : decode prog_23_method_1_code 68 = .ok (.iload_n 2, 1) := by decide +kernel
theorem d1_69 : decode prog_23_method_1_code 69 = .ok (.isub, 1) := by decide +kernel
theorem d1_70 : decode prog_23_method_1_code 70 = .ok (.newarray .long, 2) := by decide +kernel
theorem d1_72 : decode prog_23_method_1_code 72 = .ok (.aastore, 1) := by decide +kernel
theorem d1_73 : decode prog_23_method_1_code 73 = .ok (.aload_n 0, 1) := by decide +kernel
theorem d1_74 : decode prog_23_method_1_code 74 = .ok (.getfield 30, 3) := by decide +kernel
theorem d1_77 : decode prog_23_method_1_code 77 = .ok (.iload_n 2, 1) := by decide +kernel
theorem d1_78 : decode prog_23_method_1_code 78 = .ok (.iconst 1, 1) := by decide +kernel
theorem d1_79 : decode prog_23_method_1_code 79 = .ok (.isub, 1) := by decide +kernel
theorem d1_80 : decode prog_23_method_1_code 80 = .ok (.aaload, 1) := by decide +kernel
theorem d1_81 : decode prog_23_method_1_code 81 = .ok (.ldc2_w 34, 3) := by decide +kernel
theorem d1_84 : decode prog_23_method_1_code 84 = .ok (.invokestatic 36, 3) := by decide +kernel
theorem d1_87 : decode prog_23_method_1_code 87 = .ok (.iinc 2 1, 3) := by decide +kernel
theorem d1_90 : decode prog_23_method_1_code 90 = .ok (.goto (-48), 3) := by decide +kernel
theorem d1_93 : decode prog_23_method_1_code 93 = .ok (.return_, 1) := by decide +kernel
set_option maxRecDepth 65536 in
set_option maxHeartbeats 40000000 in
theorem l_init {w : Wk} {l : Launch} {Z : State} {a0 : Array Value} {n0 : Nat} {h0 : Heap} (K : Cx w Z a0 "com/example/spanmask/spanmask/inventory/FreeRuns" prog_23_method_1_code 3 none "<init>") (N : Nat) (hN2 : 2 ≤ N) (hN : N ≤ 17) (a cov low : Addr) (kc kl : ClassId) (OC : OvrA Z kc .int "[I") (OL : OvrA Z kl .long "[J") (g : n0 ≤ a) (gc : n0 ≤ cov) (gl : n0 ≤ low) (sc : h0.size ≤ cov) (sl : h0.size ≤ low) :
    ∀ (t j : Nat), j + t + 1 = N → ∀ (h : Heap) (cs ss : Nat) (vs us : List Value), Old Z n0 h → Keep h0 h [a] → Exa Z h a "com/example/spanmask/spanmask/inventory/FreeRuns" → Fld Z h a "com/example/spanmask/spanmask/inventory/FreeRuns" "covering" "[[I" (.ref cov) → Fld Z h a "com/example/spanmask/spanmask/inventory/FreeRuns" "lowest" "[[J" (.ref low) → Exa Z h cov "[[I" → Exa Z h low "[[J" → Arv Z h cov kc (.array .int) (Int32.ofNat (N - 1)) vs .null → vs.length = N - 1 → Arv Z h low kl (.array .long) (Int32.ofNat (N - 1)) us .null → us.length = N - 1 → Rows Z h n0 N vs j → cs + 2 * t ≤ 35 → ss + 32 * t ≤ 556 →
      Rn w l ({ frames := 3, cells := 35, slots := 556, locals := 60 } : Room) n0 (fun v h => v = none ∧ Keep h0 h [a] ∧ ∃ (cov : Addr) (kc : ClassId) (vs : List Value), h0.size ≤ cov ∧ Fld Z h a "com/example/spanmask/spanmask/inventory/FreeRuns" "covering" "[[I" (.ref cov) ∧ Exa Z h cov "[[I" ∧ Arv Z h cov kc (.array .int) (Int32.ofNat (N - 1)) vs .null ∧ Rows Z h n0 N vs (N - 1)) 42 #[.val (.ref a), .val (.int (Int32.ofNat N)), .val (.int (Int32.ofNat (j + 1)))] [] h cs ss := by
  intro t
  induction t with
  | zero =>
    intro j hj h cs ss vs us X KK E Fc Fl Ec El Ac hvl Al hul RW hcs hss
    refine Rn.iloadN K (q := 43) d1_42 rfl rfl ?_
    refine Rn.iloadN K (q := 44) d1_43 rfl rfl ?_
    refine Rn.icY K (q := 93) d1_44 (XT.ii_ge_t (own_nlt (by omega) (by omega))) (by decide) (by decide) ?_
    exact Rn.retV K rfl d1_93 (by show _ ≤ 35; omega) (by show _ ≤ 556; omega) ⟨rfl, KK, cov, kc, vs, sc, Fc, Ec, Ac, by rw [show N - 1 = j by omega]; exact RW⟩
  | succ t ih =>
    intro j hj h cs ss vs us X KK E Fc Fl Ec El Ac hvl Al hul RW hcs hss
    refine Rn.iloadN K (q := 43) d1_42 rfl rfl ?_
    refine Rn.iloadN K (q := 44) d1_43 rfl rfl ?_
    refine Rn.icN K (q := 47) d1_44 (XT.ii_ge_f (own_lt (by omega) (by omega))) rfl ?_
    refine Rn.aloadN K (q := 48) d1_47 rfl rfl rfl ?_
    refine Rn.getF K (q := 51) (List.mem_of_getElem? (i := 32) rfl) Via.refl Fc d1_48 rfl ?_
    refine Rn.iloadN K (q := 52) d1_51 rfl rfl ?_
    refine Rn.iconst K (q := 53) (1 : Int32) d1_52 rfl rfl ?_
    refine Rn.isub K (q := 54) d1_53 rfl ?_
    rw [show (Int32.ofNat (j + 1)) - (1 : Int32) = (Int32.ofNat j) from own_sub (b := 1) (by omega) (by omega)]
    refine Rn.iloadN K (q := 55) d1_54 rfl rfl ?_
    refine Rn.iloadN K (q := 56) d1_55 rfl rfl ?_
    refine Rn.isub K (q := 57) d1_56 rfl ?_
    rw [show (Int32.ofNat N) - (Int32.ofNat (j + 1)) = (Int32.ofNat (N - 1 - j)) from (own_sub (by omega) (by omega)).trans (congrArg Int32.ofNat (by omega))]
    refine Rn.newP K (q := 59) (cap := 16) (List.mem_of_getElem? (i := 38) rfl) (own_nn (by omega)) (by rw [own_cl (by omega)]; omega) (by decide) (by show _ + 1 ≤ 35; omega) (by show _ + 16 ≤ 556; omega) (ad := "[I") (by decide) d1_57 rfl ?_
    intro c h1 kc gc_ X2 A_c E_c
    have ne_a_c : a ≠ c := fun e => absurd E.lt (by rw [e, gc_]; exact Nat.lt_irrefl _)
    have ne_cov_c : cov ≠ c := fun e => absurd Ec.lt (by rw [e, gc_]; exact Nat.lt_irrefl _)
    have ne_low_c : low ≠ c := fun e => absurd El.lt (by rw [e, gc_]; exact Nat.lt_irrefl _)
    have ne_cov_c : cov ≠ c := fun e => absurd Ec.lt (by rw [e, gc_]; exact Nat.lt_irrefl _)
    have ne_low_c : low ≠ c := fun e => absurd El.lt (by rw [e, gc_]; exact Nat.lt_irrefl _)
    have g_c : n0 ≤ c := by rw [gc_]; exact X.1 ▸ X.2.1
    have sz_c : h0.size ≤ c := by rw [gc_]; exact KK.1
    have f3 := X.ext X2
    have f4 := KK.ext X2
    have f5 := E.ext X2
    have f6 := Fc.ext X2
    have f7 := Fl.ext X2
    have f8 := Ec.ext X2
    have f9 := El.ext X2
    have f10 := Ac.ext X2
    have f11 := Al.ext X2
    have f12 := RW.ext X2
    refine Rn.aastore K (q := 60) (i := j) f10 rfl (fun c a1 a2 => Sto.ofVA a1 a2 OC (Ins.self E_c)) rfl (own_in (by omega) (by omega)) (own_cl (by omega)) (by omega) gc d1_59 rfl ?_
    intro h13 W14 A15
    have f16 := f3.wr W14 gc
    have f17 := f4.wr W14 (Or.inr sc)
    have f18 := f5.wr W14
    have f19 := Fld.other W14 f6 (Or.inl (ne_exa f5 f8 (by decide)))
    have f20 := Fld.other W14 f7 (Or.inl (ne_exa f5 f8 (by decide)))
    have f21 := f8.wr W14
    have f22 := f9.wr W14
    have f23 := f11.other W14 (ne_exa f9 f8 (by decide))
    have f24 := Rows.wr f12 W14 f8 (by decide)
    have f25 := A_c.other W14 (Ne.symm ne_cov_c)
    have f26 := E_c.wr W14
    refine Rn.aloadN K (q := 61) d1_60 rfl rfl rfl ?_
    refine Rn.getF K (q := 64) (List.mem_of_getElem? (i := 36) rfl) Via.refl f20 d1_61 rfl ?_
    refine Rn.iloadN K (q := 65) d1_64 rfl rfl ?_
    refine Rn.iconst K (q := 66) (1 : Int32) d1_65 rfl rfl ?_
    refine Rn.isub K (q := 67) d1_66 rfl ?_
    rw [show (Int32.ofNat (j + 1)) - (1 : Int32) = (Int32.ofNat j) from own_sub (b := 1) (by omega) (by omega)]
    refine Rn.iloadN K (q := 68) d1_67 rfl rfl ?_
    refine Rn.iloadN K (q := 69) d1_68 rfl rfl ?_
    refine Rn.isub K (q := 70) d1_69 rfl ?_
    rw [show (Int32.ofNat N) - (Int32.ofNat (j + 1)) = (Int32.ofNat (N - 1 - j)) from (own_sub (by omega) (by omega)).trans (congrArg Int32.ofNat (by omega))]
    refine Rn.newP K (q := 72) (cap := 16) (List.mem_of_getElem? (i := 40) rfl) (own_nn (by omega)) (by rw [own_cl (by omega)]; omega) (by decide) (by show _ + 1 ≤ 35; omega) (by show _ + 16 ≤ 556; omega) (ad := "[J") (by decide) d1_70 rfl ?_
    intro d h27 kd gd_ X28 A_d E_d
    have ne_a_d : a ≠ d := fun e => absurd f18.lt (by rw [e, gd_]; exact Nat.lt_irrefl _)
    have ne_cov_d : cov ≠ d := fun e => absurd f21.lt (by rw [e, gd_]; exact Nat.lt_irrefl _)
    have ne_low_d : low ≠ d := fun e => absurd f22.lt (by rw [e, gd_]; exact Nat.lt_irrefl _)
    have ne_cov_d : cov ≠ d := fun e => absurd f21.lt (by rw [e, gd_]; exact Nat.lt_irrefl _)
    have ne_low_d : low ≠ d := fun e => absurd f22.lt (by rw [e, gd_]; exact Nat.lt_irrefl _)
    have ne_c_d : c ≠ d := fun e => absurd f26.lt (by rw [e, gd_]; exact Nat.lt_irrefl _)
    have ne_c_d : c ≠ d := fun e => absurd f26.lt (by rw [e, gd_]; exact Nat.lt_irrefl _)
    have g_d : n0 ≤ d := by rw [gd_]; exact f16.1 ▸ f16.2.1
    have sz_d : h0.size ≤ d := by rw [gd_]; exact f17.1
    have f29 := f16.ext X28
    have f30 := f17.ext X28
    have f31 := f18.ext X28
    have f32 := f19.ext X28
    have f33 := f20.ext X28
    have f34 := f21.ext X28
    have f35 := f22.ext X28
    have f36 := A15.ext X28
    have f37 := f23.ext X28
    have f38 := f24.ext X28
    have f39 := f25.ext X28
    have f40 := f26.ext X28
    refine Rn.aastore K (q := 73) (i := j) f37 rfl (fun c a1 a2 => Sto.ofVA a1 a2 OL (Ins.self E_d)) rfl (own_in (by omega) (by omega)) (own_cl (by omega)) (by omega) gl d1_72 rfl ?_
    intro h41 W42 A43
    have f44 := f29.wr W42 gl
    have f45 := f30.wr W42 (Or.inr sl)
    have f46 := f31.wr W42
    have f47 := Fld.other W42 f32 (Or.inl (ne_exa f31 f35 (by decide)))
    have f48 := Fld.other W42 f33 (Or.inl (ne_exa f31 f35 (by decide)))
    have f49 := f34.wr W42
    have f50 := f35.wr W42
    have f51 := f36.other W42 (ne_exa f34 f35 (by decide))
    have f52 := Rows.wr f38 W42 f35 (by decide)
    have f53 := f39.other W42 (Ne.symm ne_low_c)
    have f54 := f40.wr W42
    have f55 := A_d.other W42 (Ne.symm ne_low_d)
    have f56 := E_d.wr W42
    refine Rn.aloadN K (q := 74) d1_73 rfl rfl rfl ?_
    refine Rn.getF K (q := 77) (List.mem_of_getElem? (i := 36) rfl) Via.refl f48 d1_74 rfl ?_
    refine Rn.iloadN K (q := 78) d1_77 rfl rfl ?_
    refine Rn.iconst K (q := 79) (1 : Int32) d1_78 rfl rfl ?_
    refine Rn.isub K (q := 80) d1_79 rfl ?_
    rw [show (Int32.ofNat (j + 1)) - (1 : Int32) = (Int32.ofNat j) from own_sub (b := 1) (by omega) (by omega)]
    refine Rn.aaload K (q := 81) (v := .ref d) A43 rfl (own_in (by omega) (by omega)) (own_getset (by omega) (by omega)) d1_80 rfl ?_
    refine Rn.ldc2J K (q := 84) (9223372036854775807 : Int64) (List.mem_of_getElem? (i := 42) rfl) d1_81 rfl ?_
    refine Rn.stat K (q := 87) (W := 0) (y := (⟨"java/util/Arrays", "fill", "([JJ)V"⟩ : MethodName)) (argsL := [(.ref d), (.long (9223372036854775807 : Int64))]) (rest := []) (List.mem_of_getElem? (i := 43) rfl) (List.mem_of_getElem? (i := 44) rfl) (List.mem_of_getElem? (i := 46) rfl) (List.mem_of_getElem? (i := 45) rfl) (by decide) (m_fill l Z a0 K.hw n0 h41 d (9223372036854775807 : Int64) kd (N - 1 - j) (by omega) g_d f56 f55) (by decide) (by decide) rfl (lenOf pd_1 rfl) rfl (Nat.le_of_ble_eq_true rfl) d1_84 rfl (by show _ + 0 ≤ 35; omega) (by show _ + 0 ≤ 556; omega) ?_
    rintro _ h57 ⟨rfl, Kp58⟩
    have f59 := f44.keep Kp58 (allS g_d all0)
    have f60 := f45.trans Kp58 (allS (Or.inr sz_d) all0)
    have f61 := f46.keep Kp58
    have f62 := f47.keep Kp58 (ninS ne_a_d nin0)
    have f63 := f48.keep Kp58 (ninS ne_a_d nin0)
    have f64 := f49.keep Kp58
    have f65 := f50.keep Kp58
    have f66 := f51.keep Kp58 (ninS ne_cov_d nin0)
    have f67 := A43.keep Kp58 (ninS ne_low_d nin0)
    have f68 := Rows.keep f52 Kp58 f56 (by decide)
    have f69 := f53.keep Kp58 (ninS ne_c_d nin0)
    have f70 := f54.keep Kp58
    have f71 := f56.keep Kp58
    refine Rn.iinc K (q := 90) (Ls' := #[.val (.ref a), .val (.int (Int32.ofNat N)), .val (.int (Int32.ofNat (j + 1) + (1 : Int32)))]) (1 : Int32) d1_87 rfl rfl rfl rfl ?_
    rw [show Int32.ofNat (j + 1) + (1 : Int32) = Int32.ofNat (j + 1 + 1) from own_add (b := 1) (by omega)]
    refine Rn.goto K (q := 42) d1_90 (by decide) (by decide) ?_
    exact ih (j + 1) (by omega) _ _ _ _ _ f59 f60 f61 f62 f63 f64 f65 f66 (by rw [List.length_set]; exact hvl) f67 (by rw [List.length_set]; exact hul) (Rows.more f68 (by omega) g_c f70 f69) (by dsimp only; omega) (by dsimp only; omega)
theorem pn_m_init : plainName "com/example/spanmask/spanmask/inventory/FreeRuns" = true := by first | (simp [plainName, overriddenIn]; done) | decide +kernel
set_option maxRecDepth 65536 in
set_option maxHeartbeats 40000000 in
theorem m_init (l : Launch) (Z : State) (a0 : Array Value) (hw : ∀ d ∈ tables_1, d.before a0 Z = true) (n0 : Nat) (h0 : Heap) (a : Addr) (N : Nat) (hN2 : 2 ≤ N) (hN : N ≤ 17) (X0 : Old Z n0 h0) (E : Exa Z h0 a "com/example/spanmask/spanmask/inventory/FreeRuns") (g : n0 ≤ a) (Fruns : Fld Z h0 a "com/example/spanmask/spanmask/inventory/FreeRuns" "runs" "Ljava/util/Map;" .null) (Fstops : Fld Z h0 a "com/example/spanmask/spanmask/inventory/FreeRuns" "stops" "I" (.int (0 : Int32))) (Fcovering : Fld Z h0 a "com/example/spanmask/spanmask/inventory/FreeRuns" "covering" "[[I" .null) (Flowest : Fld Z h0 a "com/example/spanmask/spanmask/inventory/FreeRuns" "lowest" "[[J" .null) :
    Met l Z (⟨"com/example/spanmask/spanmask/inventory/FreeRuns", "<init>", "(I)V"⟩ : MethodName) prog_23_method_1_code 3 none ({ frames := 3, cells := 35, slots := 556, locals := 60 } : Room) n0 [] #[(.ref a), (.int (Int32.ofNat N))] h0 (fun v h => v = none ∧ Keep h0 h [a] ∧ ∃ (cov : Addr) (kc : ClassId) (vs : List Value), h0.size ≤ cov ∧ Fld Z h a "com/example/spanmask/spanmask/inventory/FreeRuns" "covering" "[[I" (.ref cov) ∧ Exa Z h cov "[[I" ∧ Arv Z h cov kc (.array .int) (Int32.ofNat (N - 1)) vs .null ∧ Rows Z h n0 N vs (N - 1)) := by
  refine Met.intro (Ls := #[.val (.ref a), .val (.int (Int32.ofNat N)), .unset]) (plainFor_of_name pn_m_init) hw (fun m => by first | rfl | (simp [entryFrame, mkF, argsToLocals, Value.category]; done)) ?_
  intro w K0
  have K : Cx w Z a0 "com/example/spanmask/spanmask/inventory/FreeRuns" prog_23_method_1_code 3 none "<init>" := K0
  have K1 := Keep.refl h0 [a]
  refine Rn.aloadN K (q := 1) d1_0 rfl rfl rfl ?_
  refine Rn.initO K (q := 4) (W := 0) (List.mem_of_getElem? (i := 7) rfl) (List.mem_of_getElem? (i := 8) rfl) (List.mem_of_getElem? (i := 9) rfl) (by decide) (by decide) rfl (Nat.le_of_ble_eq_true rfl) d1_1 rfl ?_
  refine Rn.aloadN K (q := 5) d1_4 rfl rfl rfl ?_
  refine Rn.newO K (q := 8) (List.mem_of_getElem? (i := 10) rfl) (List.mem_of_getElem? (i := 11) rfl) (List.mem_of_getElem? (i := 12) rfl) (by decide) (by decide) d1_5 rfl ?_
  intro b1 h2 gb1_ X3 A_b1 D4
  have ne_a_b1 : a ≠ b1 := fun e => absurd E.lt (by rw [e, gb1_]; exact Nat.lt_irrefl _)
  have g_b1 : n0 ≤ b1 := by rw [gb1_]; exact X0.1 ▸ X0.2.1
  have sz_b1 : h0.size ≤ b1 := by rw [gb1_]; exact K1.1
  have f5 := X0.ext X3
  have f6 := K1.ext X3
  have f7 := E.ext X3
  have f8 := Fruns.ext X3
  have f9 := Fstops.ext X3
  have f10 := Fcovering.ext X3
  have f11 := Flowest.ext X3
  have f12 := D4 (O := "java/util/HashMap") (n := "loadFactor") (d := "F") (Or.inr (K.hw _ (List.mem_of_getElem? (i := 25) rfl))) (ty := .float) (by decide)
  show Rn w l _ n0 _ 8 #[.val (.ref a), .val (.int (Int32.ofNat N)), .unset] [(.ref b1), (.ref a)] h2 1 8
  refine Rn.dup K (q := 9) d1_8 rfl rfl ?_
  refine Rn.spec K (q := 12) (W := 2) (y := (⟨"java/util/HashMap", "<init>", "()V"⟩ : MethodName)) (b := b1) (argsL := []) (rest := [(.ref b1), (.ref a)]) rfl (List.mem_of_getElem? (i := 13) rfl) (List.mem_of_getElem? (i := 14) rfl) (List.mem_of_getElem? (i := 15) rfl) (List.mem_of_getElem? (i := 12) rfl) (by decide) (m_hm l Z a0 hw n0 h2 b1 _ f5 A_b1 g_b1 f12) (by decide) (by decide) rfl (lenOf pd_0 rfl) rfl (Nat.le_of_ble_eq_true rfl) d1_9 rfl (by decide) (by decide) ?_
  rintro _ h13 ⟨rfl, Kp14⟩
  have f15 := f5.keep Kp14 (allS g_b1 all0)
  have f16 := f6.trans Kp14 (allS (Or.inr sz_b1) all0)
  have f17 := f7.keep Kp14
  have f18 := f8.keep Kp14 (ninS ne_a_b1 nin0)
  have f19 := f9.keep Kp14 (ninS ne_a_b1 nin0)
  have f20 := f10.keep Kp14 (ninS ne_a_b1 nin0)
  have f21 := f11.keep Kp14 (ninS ne_a_b1 nin0)
  have f22 := A_b1.keep Kp14
  show Rn w l _ n0 _ 12 #[.val (.ref a), .val (.int (Int32.ofNat N)), .unset] [(.ref b1), (.ref a)] h13 1 8
  refine Rn.putF K (q := 15) (ty := (.object "java/util/Map")) (List.mem_of_getElem? (i := 26) rfl) Via.refl f18 f17 (Or.inr ⟨(List.mem_of_getElem? (i := 27) rfl), rfl, rfl⟩) (List.mem_of_getElem? (i := 2) rfl) (by decide) rfl rfl g d1_12 rfl ?_
  intro h23 W24
  have f25 := f15.wr W24 g
  have f26 := f16.wr W24 (Or.inl (List.mem_of_getElem? (i := 0) rfl))
  have f27 := f17.wr W24
  have f28 := Fld.same W24 f18
  have f29 := Fld.other W24 f19 (Or.inr (slot_ne (Or.inr (K.hw _ (List.mem_of_getElem? (i := 29) rfl))) (Or.inr (K.hw _ (List.mem_of_getElem? (i := 27) rfl))) (by decide) (t := .int) (t' := (.object "java/util/Map")) (by decide) (by decide)))
  have f30 := Fld.other W24 f20 (Or.inr (slot_ne (Or.inr (K.hw _ (List.mem_of_getElem? (i := 33) rfl))) (Or.inr (K.hw _ (List.mem_of_getElem? (i := 27) rfl))) (by decide) (t := (.array (.array .int))) (t' := (.object "java/util/Map")) (by decide) (by decide)))
  have f31 := Fld.other W24 f21 (Or.inr (slot_ne (Or.inr (K.hw _ (List.mem_of_getElem? (i := 37) rfl))) (Or.inr (K.hw _ (List.mem_of_getElem? (i := 27) rfl))) (by decide) (t := (.array (.array .long))) (t' := (.object "java/util/Map")) (by decide) (by decide)))
  have f32 := f22.wr W24
  refine Rn.aloadN K (q := 16) d1_15 rfl rfl rfl ?_
  refine Rn.iloadN K (q := 17) d1_16 rfl rfl ?_
  refine Rn.putF K (q := 20) (ty := .int) (List.mem_of_getElem? (i := 28) rfl) Via.refl f29 f27 (Or.inr ⟨(List.mem_of_getElem? (i := 29) rfl), rfl, rfl⟩) (List.mem_of_getElem? (i := 2) rfl) (by decide) rfl rfl g d1_17 rfl ?_
  intro h33 W34
  have f35 := f25.wr W34 g
  have f36 := f26.wr W34 (Or.inl (List.mem_of_getElem? (i := 0) rfl))
  have f37 := f27.wr W34
  have f38 := Fld.other W34 f28 (Or.inr (slot_ne (Or.inr (K.hw _ (List.mem_of_getElem? (i := 27) rfl))) (Or.inr (K.hw _ (List.mem_of_getElem? (i := 29) rfl))) (by decide) (t := (.object "java/util/Map")) (t' := .int) (by decide) (by decide)))
  have f39 := Fld.same W34 f29
  have f40 := Fld.other W34 f30 (Or.inr (slot_ne (Or.inr (K.hw _ (List.mem_of_getElem? (i := 33) rfl))) (Or.inr (K.hw _ (List.mem_of_getElem? (i := 29) rfl))) (by decide) (t := (.array (.array .int))) (t' := .int) (by decide) (by decide)))
  have f41 := Fld.other W34 f31 (Or.inr (slot_ne (Or.inr (K.hw _ (List.mem_of_getElem? (i := 37) rfl))) (Or.inr (K.hw _ (List.mem_of_getElem? (i := 29) rfl))) (by decide) (t := (.array (.array .long))) (t' := .int) (by decide) (by decide)))
  have f42 := f32.wr W34
  refine Rn.aloadN K (q := 21) d1_20 rfl rfl rfl ?_
  refine Rn.iloadN K (q := 22) d1_21 rfl rfl ?_
  refine Rn.iconst K (q := 23) (1 : Int32) d1_22 rfl rfl ?_
  refine Rn.isub K (q := 24) d1_23 rfl ?_
  rw [show (Int32.ofNat N) - (1 : Int32) = (Int32.ofNat (N - 1)) from own_sub (b := 1) (by omega) (by omega)]
  refine Rn.newRA K (q := 27) (cap := 16) (ty := .int) rfl (List.mem_of_getElem? (i := 30) rfl) (List.mem_of_getElem? (i := 31) rfl) (own_nn (by omega)) (by rw [own_cl (by omega)]; omega) (by decide) (by decide) (by decide) (ad := "[[I") rfl d1_24 rfl ?_
  intro cov h43 kcov gcov_ X44 A_cov E_cov O_cov
  have ne_a_cov : a ≠ cov := fun e => absurd f37.lt (by rw [e, gcov_]; exact Nat.lt_irrefl _)
  have ne_b1_cov : b1 ≠ cov := fun e => absurd f42.lt (by rw [e, gcov_]; exact Nat.lt_irrefl _)
  have g_cov : n0 ≤ cov := by rw [gcov_]; exact f35.1 ▸ f35.2.1
  have sz_cov : h0.size ≤ cov := by rw [gcov_]; exact f36.1
  have f45 := f35.ext X44
  have f46 := f36.ext X44
  have f47 := f37.ext X44
  have f48 := f38.ext X44
  have f49 := f39.ext X44
  have f50 := f40.ext X44
  have f51 := f41.ext X44
  have f52 := f42.ext X44
  replace A_cov := A_cov.pad (pad_rep [] .null (N - 1))
  show Rn w l _ n0 _ 27 #[.val (.ref a), .val (.int (Int32.ofNat N)), .unset] [(.ref cov), (.ref a)] h43 2 24
  refine Rn.putF K (q := 30) (ty := (.array (.array .int))) (List.mem_of_getElem? (i := 32) rfl) Via.refl f50 f47 (Or.inr ⟨(List.mem_of_getElem? (i := 33) rfl), rfl, rfl⟩) (List.mem_of_getElem? (i := 2) rfl) (by decide) rfl rfl g d1_27 rfl ?_
  intro h53 W54
  have f55 := f45.wr W54 g
  have f56 := f46.wr W54 (Or.inl (List.mem_of_getElem? (i := 0) rfl))
  have f57 := f47.wr W54
  have f58 := Fld.other W54 f48 (Or.inr (slot_ne (Or.inr (K.hw _ (List.mem_of_getElem? (i := 27) rfl))) (Or.inr (K.hw _ (List.mem_of_getElem? (i := 33) rfl))) (by decide) (t := (.object "java/util/Map")) (t' := (.array (.array .int))) (by decide) (by decide)))
  have f59 := Fld.other W54 f49 (Or.inr (slot_ne (Or.inr (K.hw _ (List.mem_of_getElem? (i := 29) rfl))) (Or.inr (K.hw _ (List.mem_of_getElem? (i := 33) rfl))) (by decide) (t := .int) (t' := (.array (.array .int))) (by decide) (by decide)))
  have f60 := Fld.same W54 f50
  have f61 := Fld.other W54 f51 (Or.inr (slot_ne (Or.inr (K.hw _ (List.mem_of_getElem? (i := 37) rfl))) (Or.inr (K.hw _ (List.mem_of_getElem? (i := 33) rfl))) (by decide) (t := (.array (.array .long))) (t' := (.array (.array .int))) (by decide) (by decide)))
  have f62 := f52.wr W54
  have f63 := A_cov.other W54 (Ne.symm ne_a_cov)
  have f64 := E_cov.wr W54
  refine Rn.aloadN K (q := 31) d1_30 rfl rfl rfl ?_
  refine Rn.iloadN K (q := 32) d1_31 rfl rfl ?_
  refine Rn.iconst K (q := 33) (1 : Int32) d1_32 rfl rfl ?_
  refine Rn.isub K (q := 34) d1_33 rfl ?_
  rw [show (Int32.ofNat N) - (1 : Int32) = (Int32.ofNat (N - 1)) from own_sub (b := 1) (by omega) (by omega)]
  refine Rn.newRA K (q := 37) (cap := 16) (ty := .long) rfl (List.mem_of_getElem? (i := 34) rfl) (List.mem_of_getElem? (i := 35) rfl) (own_nn (by omega)) (by rw [own_cl (by omega)]; omega) (by decide) (by decide) (by decide) (ad := "[[J") rfl d1_34 rfl ?_
  intro low h65 klow glow_ X66 A_low E_low O_low
  have ne_a_low : a ≠ low := fun e => absurd f57.lt (by rw [e, glow_]; exact Nat.lt_irrefl _)
  have ne_b1_low : b1 ≠ low := fun e => absurd f62.lt (by rw [e, glow_]; exact Nat.lt_irrefl _)
  have ne_cov_low : cov ≠ low := fun e => absurd f64.lt (by rw [e, glow_]; exact Nat.lt_irrefl _)
  have ne_cov_low : cov ≠ low := fun e => absurd f64.lt (by rw [e, glow_]; exact Nat.lt_irrefl _)
  have g_low : n0 ≤ low := by rw [glow_]; exact f55.1 ▸ f55.2.1
  have sz_low : h0.size ≤ low := by rw [glow_]; exact f56.1
  have f67 := f55.ext X66
  have f68 := f56.ext X66
  have f69 := f57.ext X66
  have f70 := f58.ext X66
  have f71 := f59.ext X66
  have f72 := f60.ext X66
  have f73 := f61.ext X66
  have f74 := f62.ext X66
  have f75 := f63.ext X66
  have f76 := f64.ext X66
  replace A_low := A_low.pad (pad_rep [] .null (N - 1))
  show Rn w l _ n0 _ 37 #[.val (.ref a), .val (.int (Int32.ofNat N)), .unset] [(.ref low), (.ref a)] h65 3 40
  refine Rn.putF K (q := 40) (ty := (.array (.array .long))) (List.mem_of_getElem? (i := 36) rfl) Via.refl f73 f69 (Or.inr ⟨(List.mem_of_getElem? (i := 37) rfl), rfl, rfl⟩) (List.mem_of_getElem? (i := 2) rfl) (by decide) rfl rfl g d1_37 rfl ?_
  intro h77 W78
  have f79 := f67.wr W78 g
  have f80 := f68.wr W78 (Or.inl (List.mem_of_getElem? (i := 0) rfl))
  have f81 := f69.wr W78
  have f82 := Fld.other W78 f70 (Or.inr (slot_ne (Or.inr (K.hw _ (List.mem_of_getElem? (i := 27) rfl))) (Or.inr (K.hw _ (List.mem_of_getElem? (i := 37) rfl))) (by decide) (t := (.object "java/util/Map")) (t' := (.array (.array .long))) (by decide) (by decide)))
  have f83 := Fld.other W78 f71 (Or.inr (slot_ne (Or.inr (K.hw _ (List.mem_of_getElem? (i := 29) rfl))) (Or.inr (K.hw _ (List.mem_of_getElem? (i := 37) rfl))) (by decide) (t := .int) (t' := (.array (.array .long))) (by decide) (by decide)))
  have f84 := Fld.other W78 f72 (Or.inr (slot_ne (Or.inr (K.hw _ (List.mem_of_getElem? (i := 33) rfl))) (Or.inr (K.hw _ (List.mem_of_getElem? (i := 37) rfl))) (by decide) (t := (.array (.array .int))) (t' := (.array (.array .long))) (by decide) (by decide)))
  have f85 := Fld.same W78 f73
  have f86 := f74.wr W78
  have f87 := f75.other W78 (Ne.symm ne_a_cov)
  have f88 := f76.wr W78
  have f89 := A_low.other W78 (Ne.symm ne_a_low)
  have f90 := E_low.wr W78
  refine Rn.iconst K (q := 41) (1 : Int32) d1_40 rfl rfl ?_
  refine Rn.istoreN K (q := 42) (Ls' := #[.val (.ref a), .val (.int (Int32.ofNat N)), .val (.int (1 : Int32))]) d1_41 rfl rfl ?_
  exact l_init K N hN2 hN a cov low kcov klow O_cov O_low g g_cov g_low sz_cov sz_low (N - 1) 0 (by omega) _ 3 40 _ _ f79 f80 f81 f84 f85 f88 f90 f87 (by simp) f89 (by simp) (fun j hj => absurd hj (Nat.not_lt_zero _)) (by omega) (by omega)
theorem d6_0 : decode prog_23_method_7_code 0 = .ok (.aload_n 0, 1) := by decide +kernel
theorem d6_1 : decode prog_23_method_7_code 1 = .ok (.getfield 24, 3) := by decide +kernel
theorem d6_4 : decode prog_23_method_7_code 4 = .ok (.iload_n 1, 1) := by decide +kernel
theorem d6_5 : decode prog_23_method_7_code 5 = .ok (.iconst 1, 1) := by decide +kernel
theorem d6_6 : decode prog_23_method_7_code 6 = .ok (.isub, 1) := by decide +kernel
theorem d6_7 : decode prog_23_method_7_code 7 = .ok (.aaload, 1) := by decide +kernel
theorem d6_8 : decode prog_23_method_7_code 8 = .ok (.invokevirtual 52, 3) := by decide +kernel
theorem d6_11 : decode prog_23_method_7_code 11 = .ok (.checkcast 22, 3) := by decide +kernel
theorem d6_14 : decode prog_23_method_7_code 14 = .ok (.areturn, 1) := by decide +kernel
theorem pn_m_cf : plainName "com/example/spanmask/spanmask/inventory/FreeRuns" = true := by first | (simp [plainName, overriddenIn]; done) | decide +kernel
set_option maxRecDepth 65536 in
set_option maxHeartbeats 40000000 in
theorem m_cf (l : Launch) (Z : State) (a0 : Array Value) (hw : ∀ d ∈ tables_1, d.before a0 Z = true) (n0 : Nat) (h0 : Heap) (a cov c : Addr) (kc kr : ClassId) (vs : List Value) (N F1 : Nat) (hN : N ≤ 17) (hF : F1 + 1 < N) (F : Fld Z h0 a "com/example/spanmask/spanmask/inventory/FreeRuns" "covering" "[[I" (.ref cov)) (A : Arv Z h0 cov kc (.array .int) (Int32.ofNat (N - 1)) vs .null) (hv : vs[F1]? = some (.ref c)) (Ec : Exa Z h0 c "[I") (Ac : Arv Z h0 c kr .int (Int32.ofNat (N - 1 - F1)) [] (.int (0 : Int32))) :
    Met l Z (⟨"com/example/spanmask/spanmask/inventory/FreeRuns", "countsFrom", "(I)[I"⟩ : MethodName) prog_23_method_7_code 2 (some (.array .int)) ({ frames := 1, cells := 1, slots := 16, locals := 14 } : Room) n0 [] #[(.ref a), (.int (Int32.ofNat (F1 + 1)))] h0 (fun v h => ∃ b, v = some (.ref b) ∧ b = h0.size ∧ Ext h0 h ∧ Arv Z h b kr .int (Int32.ofNat (N - 1 - F1)) [] (.int (0 : Int32)) ∧ Exa Z h b "[I") := by
  refine Met.intro (Ls := #[.val (.ref a), .val (.int (Int32.ofNat (F1 + 1)))]) (plainFor_of_name pn_m_cf) hw (fun m => by first | rfl | (simp [entryFrame, mkF, argsToLocals, Value.category]; done)) ?_
  intro w K0
  have K : Cx w Z a0 "com/example/spanmask/spanmask/inventory/FreeRuns" prog_23_method_7_code 2 (some (.array .int)) "countsFrom" := K0
  refine Rn.aloadN K (q := 1) d6_0 rfl rfl rfl ?_
  refine Rn.getF K (q := 4) (List.mem_of_getElem? (i := 32) rfl) Via.refl F d6_1 rfl ?_
  refine Rn.iloadN K (q := 5) d6_4 rfl rfl ?_
  refine Rn.iconst K (q := 6) (1 : Int32) d6_5 rfl rfl ?_
  refine Rn.isub K (q := 7) d6_6 rfl ?_
  rw [show (Int32.ofNat (F1 + 1)) - (1 : Int32) = (Int32.ofNat F1) from own_sub (b := 1) (by omega) (by omega)]
  refine Rn.aaload K (q := 8) (v := .ref c) A rfl (own_in (by omega) (by omega)) (own_getat hv (by omega)) d6_7 rfl ?_
  refine Rn.clone K (q := 11) (W := 0) (cap := 16) (List.mem_of_getElem? (i := 52) rfl) (List.mem_of_getElem? (i := 53) rfl) (List.mem_of_getElem? (i := 57) rfl) (List.mem_of_getElem? (i := 55) rfl) (List.mem_of_getElem? (i := 56) rfl) (List.mem_of_getElem? (i := 58) rfl) Ac Ec rfl (by decide) (by decide) (by decide) (by rw [own_cl (by omega)]; omega) (by decide) (by decide) d6_8 rfl ?_
  intro b h1 gb Eb Ab XAb
  show Rn w l _ n0 _ 11 #[.val (.ref a), .val (.int (Int32.ofNat (F1 + 1)))] [(.ref b)] h1 1 16
  refine Rn.castY K (q := 14) (List.mem_of_getElem? (i := 30) rfl) (Ins.self XAb) d6_11 rfl ?_
  exact Rn.retA K (.array .int) rfl rfl rfl d6_14 (by decide) (by decide) ⟨b, rfl, gb, Eb, Ab, XAb⟩
theorem d7_0 : decode prog_23_method_6_code 0 = .ok (.aload_n 0, 1) := by decide +kernel
theorem d7_1 : decode prog_23_method_6_code 1 = .ok (.getfield 24, 3) := by decide +kernel
theorem d7_4 : decode prog_23_method_6_code 4 = .ok (.iload_n 1, 1) := by decide +kernel
theorem d7_5 : decode prog_23_method_6_code 5 = .ok (.iconst 1, 1) := by decide +kernel
theorem d7_6 : decode prog_23_method_6_code 6 = .ok (.isub, 1) := by decide +kernel
theorem d7_7 : decode prog_23_method_6_code 7 = .ok (.aaload, 1) := by decide +kernel
theorem d7_8 : decode prog_23_method_6_code 8 = .ok (.iload_n 2, 1) := by decide +kernel
theorem d7_9 : decode prog_23_method_6_code 9 = .ok (.iload_n 1, 1) := by decide +kernel
theorem d7_10 : decode prog_23_method_6_code 10 = .ok (.isub, 1) := by decide +kernel
theorem d7_11 : decode prog_23_method_6_code 11 = .ok (.iconst 1, 1) := by decide +kernel
theorem d7_12 : decode prog_23_method_6_code 12 = .ok (.isub, 1) := by decide +kernel
theorem d7_13 : decode prog_23_method_6_code 13 = .ok (.iaload, 1) := by decide +kernel
theorem d7_14 : decode prog_23_method_6_code 14 = .ok (.ireturn, 1) := by decide +kernel
theorem pn_m_ct : plainName "com/example/spanmask/spanmask/inventory/FreeRuns" = true := by first | (simp [plainName, overriddenIn]; done) | decide +kernel
set_option maxRecDepth 65536 in
set_option maxHeartbeats 40000000 in
theorem m_ct (l : Launch) (Z : State) (a0 : Array Value) (hw : ∀ d ∈ tables_1, d.before a0 Z = true) (n0 : Nat) (h0 : Heap) (a cov c : Addr) (kc kr : ClassId) (vs : List Value) (N F1 I1 : Nat) (hN : N ≤ 17) (hF : F1 + 1 < N) (hI : I1 < N - 1 - F1) (F : Fld Z h0 a "com/example/spanmask/spanmask/inventory/FreeRuns" "covering" "[[I" (.ref cov)) (A : Arv Z h0 cov kc (.array .int) (Int32.ofNat (N - 1)) vs .null) (hv : vs[F1]? = some (.ref c)) (Ec : Exa Z h0 c "[I") (Ac : Arv Z h0 c kr .int (Int32.ofNat (N - 1 - F1)) [] (.int (0 : Int32))) :
    Met l Z (⟨"com/example/spanmask/spanmask/inventory/FreeRuns", "count", "(II)I"⟩ : MethodName) prog_23_method_6_code 3 (some .int) ({ frames := 0, cells := 0, slots := 0, locals := 0 } : Room) n0 [] #[(.ref a), (.int (Int32.ofNat (F1 + 1))), (.int (Int32.ofNat (F1 + 1 + I1 + 1)))] h0 (fun v h => v = some (.int (0 : Int32)) ∧ h0 = h) := by
  refine Met.intro (Ls := #[.val (.ref a), .val (.int (Int32.ofNat (F1 + 1))), .val (.int (Int32.ofNat (F1 + 1 + I1 + 1)))]) (plainFor_of_name pn_m_ct) hw (fun m => by first | rfl | (simp [entryFrame, mkF, argsToLocals, Value.category]; done)) ?_
  intro w K0
  have K : Cx w Z a0 "com/example/spanmask/spanmask/inventory/FreeRuns" prog_23_method_6_code 3 (some .int) "count" := K0
  refine Rn.aloadN K (q := 1) d7_0 rfl rfl rfl ?_
  refine Rn.getF K (q := 4) (List.mem_of_getElem? (i := 32) rfl) Via.refl F d7_1 rfl ?_
  refine Rn.iloadN K (q := 5) d7_4 rfl rfl ?_
  refine Rn.iconst K (q := 6) (1 : Int32) d7_5 rfl rfl ?_
  refine Rn.isub K (q := 7) d7_6 rfl ?_
  rw [show (Int32.ofNat (F1 + 1)) - (1 : Int32) = (Int32.ofNat F1) from own_sub (b := 1) (by omega) (by omega)]
  refine Rn.aaload K (q := 8) (v := .ref c) A rfl (own_in (by omega) (by omega)) (own_getat hv (by omega)) d7_7 rfl ?_
  refine Rn.iloadN K (q := 9) d7_8 rfl rfl ?_
  refine Rn.iloadN K (q := 10) d7_9 rfl rfl ?_
  refine Rn.isub K (q := 11) d7_10 rfl ?_
  rw [show (Int32.ofNat (F1 + 1 + I1 + 1)) - (Int32.ofNat (F1 + 1)) = (Int32.ofNat (I1 + 1)) from (own_sub (by omega) (by omega)).trans (congrArg Int32.ofNat (by omega))]
  refine Rn.iconst K (q := 12) (1 : Int32) d7_11 rfl rfl ?_
  refine Rn.isub K (q := 13) d7_12 rfl ?_
  rw [show (Int32.ofNat (I1 + 1)) - (1 : Int32) = (Int32.ofNat I1) from own_sub (b := 1) (by omega) (by omega)]
  refine Rn.iaload K (q := 14) (v := .int (0 : Int32)) Ac (own_in (by omega) (by omega)) rfl d7_13 rfl ?_
  exact Rn.retI K rfl d7_14 (by decide) (by decide) ⟨rfl, rfl⟩
theorem pn_m_law : plainName "com/example/spanmask/spanmask/inventory/FreeRunsCountsFromPinLaw" = true := by first | (simp [plainName, overriddenIn]; done) | decide +kernel
set_option maxRecDepth 65536 in
set_option maxHeartbeats 40000000 in
theorem m_law (l : Launch) (Z : State) (a0 : Array Value) (hw : ∀ d ∈ tables_1, d.before a0 Z = true) (n0 : Nat) (h0 : Heap) (p1 p2 p3 p4 : Int32) (X0 : Old Z n0 h0) :
    Met l Z x code maxLocals ret room_1 n0 tables_1 #[(.int p1), (.int p2), (.int p3), (.int p4)] h0 (fun v _ => v = some (.int (1 : Int32))) := by
  refine Met.intro (Ls := #[.val (.int p1), .val (.int p2), .val (.int p3), .val (.int p4), .unset, .unset, .unset, .unset, .unset, .unset, .unset, .unset]) (plainFor_of_name pn_m_law) hw (fun m => by first | rfl | (simp [entryFrame, mkF, argsToLocals, Value.category, maxLocals]; done)) ?_
  intro w K0
  have K : Cx w Z a0 "com/example/spanmask/spanmask/inventory/FreeRunsCountsFromPinLaw" code 12 (some .boolean) "law" := K0
  refine Rn.iconst K (q := 1) (2 : Int32) at_0 rfl rfl ?_
  refine Rn.iloadN K (q := 2) at_1 rfl rfl ?_
  refine Rn.bipush K (q := 4) (15 : Int32) at_2 rfl rfl ?_
  refine Rn.iand K (q := 5) at_4 rfl ?_
  refine Rn.iadd K (q := 6) at_5 rfl ?_
  obtain ⟨N, hN2, hN, eN⟩ := own_n p1
  rw [eN]
  refine Rn.istore K (q := 8) (Ls' := #[.val (.int p1), .val (.int p2), .val (.int p3), .val (.int p4), .val (.int (Int32.ofNat N)), .unset, .unset, .unset, .unset, .unset, .unset, .unset]) at_6 rfl rfl ?_
  refine Rn.iconst K (q := 9) (1 : Int32) at_8 rfl rfl ?_
  refine Rn.iloadN K (q := 10) at_9 rfl rfl ?_
  refine Rn.ldcI K (q := 12) (2147483647 : Int32) (List.mem_of_getElem? (i := 0) rfl) at_10 rfl ?_
  refine Rn.iand K (q := 13) at_12 rfl ?_
  refine Rn.iload K (q := 15) at_13 rfl rfl ?_
  refine Rn.iconst K (q := 16) (1 : Int32) at_15 rfl rfl ?_
  refine Rn.isub K (q := 17) at_16 rfl ?_
  rw [show Int32.ofNat N - (1 : Int32) = Int32.ofNat (N - 1) from own_sub (b := 1) (by omega) (by omega)]
  refine Rn.irem K (q := 18) at_17 (own_nz (by omega) (by omega)) rfl ?_
  obtain ⟨F1, hF1, eF⟩ := own_rem p2 (m := N - 1) (by omega) (by omega)
  rw [eF]
  refine Rn.iadd K (q := 19) at_18 rfl ?_
  rw [show (1 : Int32) + Int32.ofNat F1 = Int32.ofNat (F1 + 1) from (own_add (a := 1) (by omega)).trans (congrArg Int32.ofNat (by omega))]
  refine Rn.istore K (q := 21) (Ls' := #[.val (.int p1), .val (.int p2), .val (.int p3), .val (.int p4), .val (.int (Int32.ofNat N)), .val (.int (Int32.ofNat (F1 + 1))), .unset, .unset, .unset, .unset, .unset, .unset]) at_19 rfl rfl ?_
  refine Rn.newO K (q := 24) (List.mem_of_getElem? (i := 1) rfl) (List.mem_of_getElem? (i := 2) rfl) (List.mem_of_getElem? (i := 3) rfl) (by decide) (by decide) at_21 rfl ?_
  intro b1 h2 gb1_ X3 A_b1 D4
  have g_b1 : n0 ≤ b1 := by rw [gb1_]; exact X0.1 ▸ X0.2.1
  have f5 := X0.ext X3
  have f6 : Fld Z h2 b1 "com/example/spanmask/spanmask/inventory/FreeRuns" "runs" "Ljava/util/Map;" .null := D4 (Or.inr (K.hw _ (List.mem_of_getElem? (i := 27) rfl))) (ty := (.object "java/util/Map")) (by decide)
  have f7 : Fld Z h2 b1 "com/example/spanmask/spanmask/inventory/FreeRuns" "stops" "I" (.int (0 : Int32)) := D4 (Or.inr (K.hw _ (List.mem_of_getElem? (i := 29) rfl))) (ty := .int) (by decide)
  have f8 : Fld Z h2 b1 "com/example/spanmask/spanmask/inventory/FreeRuns" "covering" "[[I" .null := D4 (Or.inr (K.hw _ (List.mem_of_getElem? (i := 33) rfl))) (ty := (.array (.array .int))) (by decide)
  have f9 : Fld Z h2 b1 "com/example/spanmask/spanmask/inventory/FreeRuns" "lowest" "[[J" .null := D4 (Or.inr (K.hw _ (List.mem_of_getElem? (i := 37) rfl))) (ty := (.array (.array .long))) (by decide)
  show Rn w l _ n0 _ 24 #[.val (.int p1), .val (.int p2), .val (.int p3), .val (.int p4), .val (.int (Int32.ofNat N)), .val (.int (Int32.ofNat (F1 + 1))), .unset, .unset, .unset, .unset, .unset, .unset] [(.ref b1)] h2 1 4
  refine Rn.dup K (q := 25) at_24 rfl rfl ?_
  refine Rn.iload K (q := 27) at_25 rfl rfl ?_
  refine Rn.spec K (q := 30) (W := 1) (y := (⟨"com/example/spanmask/spanmask/inventory/FreeRuns", "<init>", "(I)V"⟩ : MethodName)) (b := b1) (argsL := [(.int (Int32.ofNat N))]) (rest := [(.ref b1)]) rfl (List.mem_of_getElem? (i := 4) rfl) (List.mem_of_getElem? (i := 5) rfl) (List.mem_of_getElem? (i := 6) rfl) (List.mem_of_getElem? (i := 3) rfl) (by decide) (m_init l Z a0 hw n0 h2 b1 N hN2 hN f5 A_b1 g_b1 f6 f7 f8 f9) (by decide) (by decide) rfl (lenOf pd_2 rfl) rfl (Nat.le_of_ble_eq_true rfl) at_27 rfl (by decide) (by decide) ?_
  rintro _ hi ⟨rfl, Ki, cov, kc, vs, szc, Fcov, Ecov, Acov, RW⟩
  have f10 := f5.keep Ki (allS g_b1 all0)
  have f11 := A_b1.keep Ki
  obtain ⟨c, kr, hv, gc, Ec, Ac⟩ := RW F1 hF1
  show Rn w l _ n0 _ 30 #[.val (.int p1), .val (.int p2), .val (.int p3), .val (.int p4), .val (.int (Int32.ofNat N)), .val (.int (Int32.ofNat (F1 + 1))), .unset, .unset, .unset, .unset, .unset, .unset] [(.ref b1)] hi 36 560
  refine Rn.astore K (q := 32) (Ls' := #[.val (.int p1), .val (.int p2), .val (.int p3), .val (.int p4), .val (.int (Int32.ofNat N)), .val (.int (Int32.ofNat (F1 + 1))), .val (.ref b1), .unset, .unset, .unset, .unset, .unset]) at_30 rfl rfl rfl ?_
  refine Rn.aload K (q := 34) at_32 rfl rfl rfl ?_
  refine Rn.iload K (q := 36) at_34 rfl rfl ?_
  refine Rn.virt K (q := 39) (W := 0) (y := (⟨"com/example/spanmask/spanmask/inventory/FreeRuns", "countsFrom", "(I)[I"⟩ : MethodName)) (z := (⟨"com/example/spanmask/spanmask/inventory/FreeRuns", "countsFrom", "(I)[I"⟩ : MethodName)) (b := b1) (argsL := [(.int (Int32.ofNat (F1 + 1)))]) (rest := []) (List.mem_of_getElem? (i := 47) rfl) (List.mem_of_getElem? (i := 48) rfl) (nfs K (List.mem_of_getElem? (i := 50) rfl)) (List.mem_of_getElem? (i := 50) rfl) (List.mem_of_getElem? (i := 49) rfl) (List.mem_of_getElem? (i := 51) rfl) (List.mem_of_getElem? (i := 3) rfl) (by decide) (m_cf l Z a0 hw n0 hi b1 cov c kc kr vs N F1 hN (by omega) Fcov Acov hv Ec Ac) f11 (by decide) (by decide) rfl (lenOf pd_3 rfl) rfl (Nat.le_of_ble_eq_true rfl) at_36 rfl (by decide) (by decide) ?_
  rintro _ hr1 ⟨r1, rfl, gr1_, Er1, Ar1, XAr1⟩
  have ne_b1_r1 : b1 ≠ r1 := fun e => absurd f11.lt (by rw [e, gr1_]; exact Nat.lt_irrefl _)
  have ne_cov_r1 : cov ≠ r1 := fun e => absurd Ecov.lt (by rw [e, gr1_]; exact Nat.lt_irrefl _)
  have ne_cov_r1 : cov ≠ r1 := fun e => absurd Ecov.lt (by rw [e, gr1_]; exact Nat.lt_irrefl _)
  have ne_c_r1 : c ≠ r1 := fun e => absurd Ec.lt (by rw [e, gr1_]; exact Nat.lt_irrefl _)
  have ne_c_r1 : c ≠ r1 := fun e => absurd Ec.lt (by rw [e, gr1_]; exact Nat.lt_irrefl _)
  have g_r1 : n0 ≤ r1 := by rw [gr1_]; exact f10.1 ▸ f10.2.1
  have f12 := f10.ext Er1
  have f13 := f11.ext Er1
  have f14 := Fcov.ext Er1
  have f15 := Ecov.ext Er1
  have f16 := Acov.ext Er1
  have f17 := Ec.ext Er1
  have f18 := Ac.ext Er1
  show Rn w l _ n0 _ 39 #[.val (.int p1), .val (.int p2), .val (.int p3), .val (.int p4), .val (.int (Int32.ofNat N)), .val (.int (Int32.ofNat (F1 + 1))), .val (.ref b1), .unset, .unset, .unset, .unset, .unset] [(.ref r1)] hr1 37 576
  refine Rn.astore K (q := 41) (Ls' := #[.val (.int p1), .val (.int p2), .val (.int p3), .val (.int p4), .val (.int (Int32.ofNat N)), .val (.int (Int32.ofNat (F1 + 1))), .val (.ref b1), .val (.ref r1), .unset, .unset, .unset, .unset]) at_39 rfl rfl rfl ?_
  refine Rn.aload K (q := 43) at_41 rfl rfl rfl ?_
  refine Rn.arraylength K (q := 44) Ar1 at_43 rfl ?_
  refine Rn.iload K (q := 46) at_44 rfl rfl ?_
  refine Rn.iload K (q := 48) at_46 rfl rfl ?_
  refine Rn.isub K (q := 49) at_48 rfl ?_
  rw [show Int32.ofNat N - Int32.ofNat (F1 + 1) = Int32.ofNat (N - 1 - F1) from (own_sub (by omega) (by omega)).trans (congrArg Int32.ofNat (by omega))]
  refine Rn.icY K (q := 54) at_49 (XT.ii_eq_t rfl) (by decide) (by decide) ?_
  refine Rn.iloadN K (q := 55) at_54 rfl rfl ?_
  refine Rn.ldcI K (q := 57) (2147483647 : Int32) (List.mem_of_getElem? (i := 0) rfl) at_55 rfl ?_
  refine Rn.iand K (q := 58) at_57 rfl ?_
  refine Rn.aload K (q := 60) at_58 rfl rfl rfl ?_
  refine Rn.arraylength K (q := 61) Ar1 at_60 rfl ?_
  refine Rn.irem K (q := 62) at_61 (own_nz (by omega) (by omega)) rfl ?_
  obtain ⟨I1, hI1, eI⟩ := own_rem p3 (m := N - 1 - F1) (by omega) (by omega)
  rw [eI]
  refine Rn.istore K (q := 64) (Ls' := #[.val (.int p1), .val (.int p2), .val (.int p3), .val (.int p4), .val (.int (Int32.ofNat N)), .val (.int (Int32.ofNat (F1 + 1))), .val (.ref b1), .val (.ref r1), .val (.int (Int32.ofNat I1)), .unset, .unset, .unset]) at_62 rfl rfl ?_
  refine Rn.aload K (q := 66) at_64 rfl rfl rfl ?_
  refine Rn.arraylength K (q := 67) Ar1 at_66 rfl ?_
  refine Rn.iconst K (q := 68) (1 : Int32) at_67 rfl rfl ?_
  refine Rn.isub K (q := 69) at_68 rfl ?_
  rw [show Int32.ofNat (N - 1 - F1) - (1 : Int32) = Int32.ofNat (N - 1 - F1 - 1) from own_sub (b := 1) (by omega) (by omega)]
  refine Rn.istore K (q := 71) (Ls' := #[.val (.int p1), .val (.int p2), .val (.int p3), .val (.int p4), .val (.int (Int32.ofNat N)), .val (.int (Int32.ofNat (F1 + 1))), .val (.ref b1), .val (.ref r1), .val (.int (Int32.ofNat I1)), .val (.int (Int32.ofNat (N - 1 - F1 - 1))), .unset, .unset]) at_69 rfl rfl ?_
  refine Rn.aload K (q := 73) at_71 rfl rfl rfl ?_
  refine Rn.iconst K (q := 74) (0 : Int32) at_73 rfl rfl ?_
  refine Rn.iaload K (q := 75) (v := .int (0 : Int32)) Ar1 ⟨by decide, own_lt (a := 0) (by omega) (by omega)⟩ rfl at_74 rfl ?_
  refine Rn.ifN K (q := 78) at_75 (XT.i0_ne_f rfl) rfl ?_
  refine Rn.aload K (q := 80) at_78 rfl rfl rfl ?_
  refine Rn.iload K (q := 82) at_80 rfl rfl ?_
  refine Rn.iaload K (q := 83) (v := .int (0 : Int32)) Ar1 (own_in (by omega) (by omega)) rfl at_82 rfl ?_
  refine Rn.ifN K (q := 86) at_83 (XT.i0_ne_f rfl) rfl ?_
  refine Rn.aload K (q := 88) at_86 rfl rfl rfl ?_
  refine Rn.iload K (q := 90) at_88 rfl rfl ?_
  refine Rn.iaload K (q := 91) (v := .int (0 : Int32)) Ar1 (own_in (by omega) (by omega)) rfl at_90 rfl ?_
  refine Rn.ifN K (q := 94) at_91 (XT.i0_ne_f rfl) rfl ?_
  refine Rn.aload K (q := 96) at_94 rfl rfl rfl ?_
  refine Rn.iload K (q := 98) at_96 rfl rfl ?_
  refine Rn.iaload K (q := 99) (v := .int (0 : Int32)) Ar1 (own_in (by omega) (by omega)) rfl at_98 rfl ?_
  refine Rn.aload K (q := 101) at_99 rfl rfl rfl ?_
  refine Rn.iload K (q := 103) at_101 rfl rfl ?_
  refine Rn.iload K (q := 105) at_103 rfl rfl ?_
  refine Rn.iload K (q := 107) at_105 rfl rfl ?_
  refine Rn.iadd K (q := 108) at_107 rfl ?_
  rw [show Int32.ofNat (F1 + 1) + Int32.ofNat I1 = Int32.ofNat (F1 + 1 + I1) from own_add (by omega)]
  refine Rn.iconst K (q := 109) (1 : Int32) at_108 rfl rfl ?_
  refine Rn.iadd K (q := 110) at_109 rfl ?_
  rw [show Int32.ofNat (F1 + 1 + I1) + (1 : Int32) = Int32.ofNat (F1 + 1 + I1 + 1) from own_add (b := 1) (by omega)]
  refine Rn.virt K (q := 113) (W := 1) (y := (⟨"com/example/spanmask/spanmask/inventory/FreeRuns", "count", "(II)I"⟩ : MethodName)) (z := (⟨"com/example/spanmask/spanmask/inventory/FreeRuns", "count", "(II)I"⟩ : MethodName)) (b := b1) (argsL := [(.int (Int32.ofNat (F1 + 1))), (.int (Int32.ofNat (F1 + 1 + I1 + 1)))]) (rest := [(.int (0 : Int32))]) (List.mem_of_getElem? (i := 59) rfl) (List.mem_of_getElem? (i := 60) rfl) (nfs K (List.mem_of_getElem? (i := 62) rfl)) (List.mem_of_getElem? (i := 62) rfl) (List.mem_of_getElem? (i := 61) rfl) (List.mem_of_getElem? (i := 63) rfl) (List.mem_of_getElem? (i := 3) rfl) (by decide) (m_ct l Z a0 hw n0 hr1 b1 cov c kc kr vs N F1 I1 hN (by omega) hI1 f14 f16 hv f17 f18) f13 (by decide) (by decide) rfl (lenOf pd_4 rfl) rfl (Nat.le_of_ble_eq_true rfl) at_110 rfl (by decide) (by decide) ?_
  rintro _ _ ⟨rfl, rfl⟩
  show Rn w l _ n0 _ 113 #[.val (.int p1), .val (.int p2), .val (.int p3), .val (.int p4), .val (.int (Int32.ofNat N)), .val (.int (Int32.ofNat (F1 + 1))), .val (.ref b1), .val (.ref r1), .val (.int (Int32.ofNat I1)), .val (.int (Int32.ofNat (N - 1 - F1 - 1))), .unset, .unset] [(.int (0 : Int32)), (.int (0 : Int32))] hr1 37 576
  refine Rn.icN K (q := 116) at_113 (XT.ii_ne_f rfl) rfl ?_
  refine Rn.iconst K (q := 117) (1 : Int32) at_116 rfl rfl ?_
  refine Rn.goto K (q := 121) at_117 (by decide) (by decide) ?_
  refine Rn.istore K (q := 123) (Ls' := #[.val (.int p1), .val (.int p2), .val (.int p3), .val (.int p4), .val (.int (Int32.ofNat N)), .val (.int (Int32.ofNat (F1 + 1))), .val (.ref b1), .val (.ref r1), .val (.int (Int32.ofNat I1)), .val (.int (Int32.ofNat (N - 1 - F1 - 1))), .val (.int (1 : Int32)), .unset]) at_121 rfl rfl ?_
  refine Rn.aload K (q := 125) at_123 rfl rfl rfl ?_
  refine Rn.iload K (q := 127) at_125 rfl rfl ?_
  refine Rn.iloadN K (q := 128) at_127 rfl rfl ?_
  refine Rn.iconst K (q := 129) (1 : Int32) at_128 rfl rfl ?_
  refine Rn.ior K (q := 130) at_129 rfl ?_
  refine Rn.iastore K (q := 131) (i := I1) (Ar1.pad (pad_rep [] (.int (0 : Int32)) 16)) (own_in (by omega) (by omega)) (own_cl (by omega)) (by simp; omega) g_r1 at_130 rfl ?_
  intro hz Wz Az
  have f19 := f12.wr Wz g_r1
  have f20 := f13.wr Wz
  have f21 := Fld.other Wz f14 (Or.inl ne_b1_r1)
  have f22 := f15.wr Wz
  have f23 := f16.other Wz ne_cov_r1
  have f24 := f17.wr Wz
  have f25 := f18.other Wz ne_c_r1
  have f26 := XAr1.wr Wz
  refine Rn.aload K (q := 133) at_131 rfl rfl rfl ?_
  refine Rn.iload K (q := 135) at_133 rfl rfl ?_
  refine Rn.virt K (q := 138) (W := 0) (y := (⟨"com/example/spanmask/spanmask/inventory/FreeRuns", "countsFrom", "(I)[I"⟩ : MethodName)) (z := (⟨"com/example/spanmask/spanmask/inventory/FreeRuns", "countsFrom", "(I)[I"⟩ : MethodName)) (b := b1) (argsL := [(.int (Int32.ofNat (F1 + 1)))]) (rest := []) (List.mem_of_getElem? (i := 47) rfl) (List.mem_of_getElem? (i := 48) rfl) (nfs K (List.mem_of_getElem? (i := 50) rfl)) (List.mem_of_getElem? (i := 50) rfl) (List.mem_of_getElem? (i := 49) rfl) (List.mem_of_getElem? (i := 51) rfl) (List.mem_of_getElem? (i := 3) rfl) (by decide) (m_cf l Z a0 hw n0 hz b1 cov c kc kr vs N F1 hN (by omega) f21 f23 hv f24 f25) f20 (by decide) (by decide) rfl (lenOf pd_3 rfl) rfl (Nat.le_of_ble_eq_true rfl) at_135 rfl (by decide) (by decide) ?_
  rintro _ hr2 ⟨r2, rfl, gr2_, Er2, Ar2, XAr2⟩
  have ne_b1_r2 : b1 ≠ r2 := fun e => absurd f20.lt (by rw [e, gr2_]; exact Nat.lt_irrefl _)
  have ne_cov_r2 : cov ≠ r2 := fun e => absurd f22.lt (by rw [e, gr2_]; exact Nat.lt_irrefl _)
  have ne_cov_r2 : cov ≠ r2 := fun e => absurd f22.lt (by rw [e, gr2_]; exact Nat.lt_irrefl _)
  have ne_c_r2 : c ≠ r2 := fun e => absurd f24.lt (by rw [e, gr2_]; exact Nat.lt_irrefl _)
  have ne_c_r2 : c ≠ r2 := fun e => absurd f24.lt (by rw [e, gr2_]; exact Nat.lt_irrefl _)
  have ne_r1_r2 : r1 ≠ r2 := fun e => absurd f26.lt (by rw [e, gr2_]; exact Nat.lt_irrefl _)
  have g_r2 : n0 ≤ r2 := by rw [gr2_]; exact f19.1 ▸ f19.2.1
  have f27 := f19.ext Er2
  have f28 := f20.ext Er2
  have f29 := f21.ext Er2
  have f30 := f22.ext Er2
  have f31 := f23.ext Er2
  have f32 := f24.ext Er2
  have f33 := f25.ext Er2
  have f34 := f26.ext Er2
  show Rn w l _ n0 _ 138 #[.val (.int p1), .val (.int p2), .val (.int p3), .val (.int p4), .val (.int (Int32.ofNat N)), .val (.int (Int32.ofNat (F1 + 1))), .val (.ref b1), .val (.ref r1), .val (.int (Int32.ofNat I1)), .val (.int (Int32.ofNat (N - 1 - F1 - 1))), .val (.int (1 : Int32)), .unset] [(.ref r2)] hr2 38 592
  refine Rn.astore K (q := 140) (Ls' := #[.val (.int p1), .val (.int p2), .val (.int p3), .val (.int p4), .val (.int (Int32.ofNat N)), .val (.int (Int32.ofNat (F1 + 1))), .val (.ref b1), .val (.ref r1), .val (.int (Int32.ofNat I1)), .val (.int (Int32.ofNat (N - 1 - F1 - 1))), .val (.int (1 : Int32)), .val (.ref r2)]) at_138 rfl rfl rfl ?_
  refine Rn.iload K (q := 142) at_140 rfl rfl ?_
  refine Rn.ifN K (q := 145) at_142 (XT.i0_eq_f (by decide)) rfl ?_
  refine Rn.aload K (q := 147) at_145 rfl rfl rfl ?_
  refine Rn.aload K (q := 149) at_147 rfl rfl rfl ?_
  refine Rn.acN K (q := 152) at_149 rfl rfl (XT.aa_eq_f (fun q => (Ne.symm ne_r1_r2) (Value.ref.inj q))) rfl ?_
  refine Rn.aload K (q := 154) at_152 rfl rfl rfl ?_
  refine Rn.arraylength K (q := 155) Ar2 at_154 rfl ?_
  refine Rn.iload K (q := 157) at_155 rfl rfl ?_
  refine Rn.iload K (q := 159) at_157 rfl rfl ?_
  refine Rn.isub K (q := 160) at_159 rfl ?_
  rw [show Int32.ofNat N - Int32.ofNat (F1 + 1) = Int32.ofNat (N - 1 - F1) from (own_sub (by omega) (by omega)).trans (congrArg Int32.ofNat (by omega))]
  refine Rn.icN K (q := 163) at_160 (XT.ii_ne_f rfl) rfl ?_
  refine Rn.aload K (q := 165) at_163 rfl rfl rfl ?_
  refine Rn.iload K (q := 167) at_165 rfl rfl ?_
  refine Rn.iaload K (q := 168) (v := .int (0 : Int32)) Ar2 (own_in (by omega) (by omega)) rfl at_167 rfl ?_
  refine Rn.ifN K (q := 171) at_168 (XT.i0_ne_f rfl) rfl ?_
  refine Rn.aload K (q := 173) at_171 rfl rfl rfl ?_
  refine Rn.iload K (q := 175) at_173 rfl rfl ?_
  refine Rn.iload K (q := 177) at_175 rfl rfl ?_
  refine Rn.iload K (q := 179) at_177 rfl rfl ?_
  refine Rn.iadd K (q := 180) at_179 rfl ?_
  rw [show Int32.ofNat (F1 + 1) + Int32.ofNat I1 = Int32.ofNat (F1 + 1 + I1) from own_add (by omega)]
  refine Rn.iconst K (q := 181) (1 : Int32) at_180 rfl rfl ?_
  refine Rn.iadd K (q := 182) at_181 rfl ?_
  rw [show Int32.ofNat (F1 + 1 + I1) + (1 : Int32) = Int32.ofNat (F1 + 1 + I1 + 1) from own_add (b := 1) (by omega)]
  refine Rn.virt K (q := 185) (W := 0) (y := (⟨"com/example/spanmask/spanmask/inventory/FreeRuns", "count", "(II)I"⟩ : MethodName)) (z := (⟨"com/example/spanmask/spanmask/inventory/FreeRuns", "count", "(II)I"⟩ : MethodName)) (b := b1) (argsL := [(.int (Int32.ofNat (F1 + 1))), (.int (Int32.ofNat (F1 + 1 + I1 + 1)))]) (rest := []) (List.mem_of_getElem? (i := 59) rfl) (List.mem_of_getElem? (i := 60) rfl) (nfs K (List.mem_of_getElem? (i := 62) rfl)) (List.mem_of_getElem? (i := 62) rfl) (List.mem_of_getElem? (i := 61) rfl) (List.mem_of_getElem? (i := 63) rfl) (List.mem_of_getElem? (i := 3) rfl) (by decide) (m_ct l Z a0 hw n0 hr2 b1 cov c kc kr vs N F1 I1 hN (by omega) hI1 f29 f31 hv f32 f33) f28 (by decide) (by decide) rfl (lenOf pd_4 rfl) rfl (Nat.le_of_ble_eq_true rfl) at_182 rfl (by decide) (by decide) ?_
  rintro _ _ ⟨rfl, rfl⟩
  show Rn w l _ n0 _ 185 #[.val (.int p1), .val (.int p2), .val (.int p3), .val (.int p4), .val (.int (Int32.ofNat N)), .val (.int (Int32.ofNat (F1 + 1))), .val (.ref b1), .val (.ref r1), .val (.int (Int32.ofNat I1)), .val (.int (Int32.ofNat (N - 1 - F1 - 1))), .val (.int (1 : Int32)), .val (.ref r2)] [(.int (0 : Int32))] hr2 38 592
  refine Rn.ifN K (q := 188) at_185 (XT.i0_ne_f rfl) rfl ?_
  refine Rn.iconst K (q := 189) (1 : Int32) at_188 rfl rfl ?_
  refine Rn.goto K (q := 193) at_189 (by decide) (by decide) ?_
  refine Rn.istore K (q := 195) (Ls' := #[.val (.int p1), .val (.int p2), .val (.int p3), .val (.int p4), .val (.int (Int32.ofNat N)), .val (.int (Int32.ofNat (F1 + 1))), .val (.ref b1), .val (.ref r1), .val (.int (Int32.ofNat I1)), .val (.int (Int32.ofNat (N - 1 - F1 - 1))), .val (.int (1 : Int32)), .val (.ref r2)]) at_193 rfl rfl ?_
  refine Rn.iload K (q := 197) at_195 rfl rfl ?_
  exact Rn.retN K .boolean rfl (by simp) at_197 (by decide) (by decide) rfl
set_option maxRecDepth 65536 in
set_option maxHeartbeats 40000000 in
theorem comes_1 {Post : Tables → Env → Array Value → State → Outcome → State → Prop} (hpost : ∀ tb e args s v u, (limb_1_1.after args s (.returned v) u = true ∧ limb_1_2.after args s (.returned v) u = true ∧ True) → FrameEnd s (.returned v) u (Jvm.fieldLocs frame_1_writes args s ++ Jvm.arrayLocs frame_1_arrays args s ++ Jvm.staticLocs frame_1_statics s) 88 768 → Post tb e args s (.returned v) u) :
    ArmFor flags0 classFile x code maxLocals ret World_1 tables_1 room_1 Calls_1 rest_1 Pre_1 Post := by
  intro l hfl _ _ p e ha hc hk s m args below hf hA hF happ hP
  obtain ⟨hcalls, hrest, hpre⟩ := hP
  obtain ⟨-, -, -, hnamed, -, -, -, hat⟩ := (Spec.applies_iff hf).mp happ
  obtain ⟨hg, hn⟩ := and_e (Cond.before_iff.mp (show (Jvm.Cond.and given_1 narrow_1).before args s = true from hpre))
  obtain ⟨hcnt, hgs0⟩ := and_e hg
  obtain ⟨ga0, hgs1⟩ := and_e hgs0
  obtain ⟨ga1, hgs2⟩ := and_e hgs1
  obtain ⟨ga2, hgs3⟩ := and_e hgs2
  obtain ⟨w0, w1, w2, w3, rfl⟩ : ∃ w0 w1 w2 w3 : Value, args = #[w0, w1, w2, w3] := by
    have hs : args.size = 4 := by simpa [Cond.value, given_1] using hcnt
    obtain ⟨L⟩ := args
    match L, hs with
    | [w0, w1, w2, w3], _ => exact ⟨w0, w1, w2, w3, rfl⟩
  have hw := fun d (hd : d ∈ tables_1) => atoms_spec (ws := Jvm.Cond.code x code maxLocals ret :: tables_1) hat d (List.mem_cons_of_mem _ hd)
  have hfit : Fit s := fun {y c} hc i hi => by
    obtain ⟨ha, rfl⟩ := Array.getElem?_eq_some_iff.mp hc
    have q := List.all_eq_true.mp ((Array.all_eq_true_iff_forall_mem.mp hF) _ (Array.getElem_mem ha)) i (List.mem_range.mpr hi)
    simpa [Array.getElem?_eq_getElem hi] using q
  obtain ⟨i0, ei0⟩ := is_v ga0
  obtain rfl : w0 = (.int i0) := Option.some.inj ei0
  obtain ⟨i1, ei1⟩ := is_v ga1
  obtain rfl : w1 = (.int i1) := Option.some.inj ei1
  obtain ⟨i2, ei2⟩ := is_v ga2
  obtain rfl : w2 = (.int i2) := Option.some.inj ei2
  obtain ⟨i3, ei3⟩ := is_v hgs3
  obtain rfl : w3 = (.int i3) := Option.some.inj ei3
  obtain ⟨n, o, h1, h2, h3, _, L, rfl, ⟨N, rfl⟩, hq⟩ := m_law l s _ hw s.heap.size s.heap i0 i1 i2 i3 (Old.start s) p e ha hc hk s m _ below hf ((Spec.applies_iff_loose hf).mp happ).1 ⟨rfl, State.Warmed39.refl s, rfl⟩ trivial
  refine ⟨n, _, h1, h2, h3, hpost _ _ _ _ _ _ ⟨Cond.after_iff.mpr rfl, Cond.after_iff.mpr (eq_i res_at (Term.int_eval (1)) rfl), trivial⟩ ⟨hq.1, hq.2.1, (hq.2.2.sift fun y hy => Or.inr (N y hy)).mono (by decide) (by decide)⟩⟩
theorem main_1_1 : Claimed_1_1 := comes_1 fun _ _ _ _ _ _ h hF => ⟨h.1, hF⟩
theorem main_1_2 : Claimed_1_2 := comes_1 fun _ _ _ _ _ _ h hF => ⟨h.2.1, hF⟩
end Jvm.Pilot.@@N@@
namespace Jvm.Pilot.@@N@@
open Jvm Jvm.ClassFile Sem Op Lib Jvm.Free Jvm.Stand Jvm.Pilot.@@N@@.Jvm.D
/-! MADE BY PROGRAM (witnessworld.py) out of the Statement's table words and the real class files: 15 classes; the members and pool entries that the words name. The judged class is class 1, her method 1. -/
namespace start1
open Jvm.ClassFile
def u (s : String) : CpInfo := .utf8 (stringToUtf16 s)
/-- a pool by its gaps: so many unusable entries, then the entry; so many at the end -/
def gap : Nat → List CpInfo → List CpInfo
  | 0, r => r
  | n + 1, r => .unusable :: gap n r
def poolList (es : List (Nat × CpInfo)) (last : Nat) : List CpInfo := es.foldr (fun e r => gap e.1 (e.2 :: r)) (gap last [])
def pool (es : List (Nat × CpInfo)) (last : Nat) : Array CpInfo := ⟨poolList es last⟩
def fileOf (pool : Array CpInfo) (this : Nat) (attrs : Array Attribute := #[]) (ms : Array MethodInfo := #[]) (fl : Nat := 33) (sup : Nat := 0) (ifs : Array Nat := #[]) (fds : Array FieldInfo := #[]) : ClassFile where
  minorVersion := 0
  majorVersion := 65
  constantPool := pool
  accessFlags := fl
  thisClass := this
  superClass := sup
  interfaces := ifs
  fields := fds
  methods := ms
  attributes := attrs
def plain (name : String) (sup : Option ClassId) : Class where
  name := name
  kind := .ordinary
  loader := none
  accessFlags := 33
  super := sup
  interfaces := #[]
  cf := none
  fields := #[]
  methods := #[]
  instanceTypes := #[]
  staticTypes := #[]
  resolved := #[]
  callSites := []
  init := .initialized
  statics := none
  mirror := none

def pool0 : Array CpInfo := pool [(5, u "<init>"), (0, u "()V"), (1, .class_ 10), (1, u "java/lang/Object"), (85, u "clone"), (0, u "()Ljava/lang/Object;")] 26

def k0c0 : Code := { maxStack := 0, maxLocals := 1, code := object_method_1_code, exceptionTable := #[], attributes := #[] }
def k0m0 : Method := { name := "<init>", desc := "()V", sig := { parameters := [], returnType := none }, accessFlags := 1, code := some k0c0 }
def k0m1 : Method := { name := "clone", desc := "()Ljava/lang/Object;", sig := { parameters := [], returnType := some (.object "java/lang/Object") }, accessFlags := 260, code := none }
/-- java/lang/Object -/
def k0 : Class := { plain "java/lang/Object" none with
  accessFlags := 33
  interfaces := #[]
  cf := some (fileOf pool0 8 #[] #[{ accessFlags := 1, nameIndex := 5, descriptorIndex := 6, attributes := #[] }, { accessFlags := 260, nameIndex := 96, descriptorIndex := 97, attributes := #[] }] 33 0 #[] #[])
  fields := #[]
  methods := #[k0m0, k0m1]
  instanceTypes := #[]
  staticTypes := #[]
  resolved := Array.replicate 124 none
  statics := none }

def pool1 : Array CpInfo := pool [(2, .class_ 4), (1, u "java/lang/Object"), (0, u "<init>"), (0, u "()V"), (0, .integer 2147483647), (0, .class_ 9), (0, u "com/example/spanmask/spanmask/inventory/FreeRuns"), (0, .methodref 8 11), (0, .nameAndType 5 12), (0, u "(I)V"), (0, .methodref 8 14), (0, .nameAndType 15 16), (0, u "countsFrom"), (0, u "(I)[I"), (0, .methodref 8 18), (0, .nameAndType 19 20), (0, u "count"), (0, u "(II)I"), (0, .class_ 22), (0, u "com/example/spanmask/spanmask/inventory/FreeRunsCountsFromPinLaw"), (2, u "law"), (0, u "(IIII)Z")] 5

def k1m0 : Method := { name := "<init>", desc := "()V", sig := { parameters := [], returnType := none }, accessFlags := 1, code := none }
def k1c1 : Code := { maxStack := 5, maxLocals := 12, code := code, exceptionTable := #[], attributes := #[] }
def k1m1 : Method := { name := "law", desc := "(IIII)Z", sig := { parameters := [.int, .int, .int, .int], returnType := some .boolean }, accessFlags := 9, code := some k1c1 }
/-- com/example/spanmask/spanmask/inventory/FreeRunsCountsFromPinLaw -/
def k1 : Class := { plain "com/example/spanmask/spanmask/inventory/FreeRunsCountsFromPinLaw" (some 0) with
  accessFlags := 49
  interfaces := #[]
  cf := some (fileOf pool1 21 #[] #[{ accessFlags := 1, nameIndex := 5, descriptorIndex := 6, attributes := #[] }, { accessFlags := 9, nameIndex := 25, descriptorIndex := 26, attributes := #[] }] 49 2 #[] #[])
  fields := #[]
  methods := #[k1m0, k1m1]
  instanceTypes := #[]
  staticTypes := #[]
  resolved := Array.replicate 32 none
  statics := none }

def pool2 : Array CpInfo := pool [(3, .methodref 4 5), (0, .class_ 6), (0, .nameAndType 7 8), (0, u "java/lang/Object"), (0, u "<init>"), (0, u "()V"), (0, .class_ 10), (0, u "java/util/HashMap"), (0, .methodref 9 5), (0, .fieldref 13 14), (0, .class_ 15), (0, .nameAndType 16 17), (0, u "com/example/spanmask/spanmask/inventory/FreeRuns"), (0, u "runs"), (0, u "Ljava/util/Map;"), (0, .fieldref 13 19), (0, .nameAndType 20 21), (0, u "stops"), (0, u "I"), (0, .class_ 23), (0, u "[I"), (0, .fieldref 13 25), (0, .nameAndType 26 27), (0, u "covering"), (0, u "[[I"), (0, .class_ 29), (0, u "[J"), (0, .fieldref 13 31), (0, .nameAndType 32 33), (0, u "lowest"), (0, u "[[J"), (0, .long 9223372036854775807), (1, .methodref 37 38), (0, .class_ 39), (0, .nameAndType 40 41), (0, u "java/util/Arrays"), (0, u "fill"), (0, u "([JJ)V"), (10, .methodref 22 53), (0, .nameAndType 54 55), (0, u "clone"), (0, u "()Ljava/lang/Object;"), (58, u "NONE"), (0, u "J"), (3, u "(I)V"), (6, u "count"), (0, u "(II)I"), (0, u "countsFrom"), (0, u "(I)[I")] 24

def k2c0 : Code := { maxStack := 4, maxLocals := 3, code := prog_23_method_1_code, exceptionTable := #[], attributes := #[] }
def k2m0 : Method := { name := "<init>", desc := "(I)V", sig := { parameters := [.int], returnType := none }, accessFlags := 0, code := some k2c0 }
def k2c1 : Code := { maxStack := 3, maxLocals := 3, code := prog_23_method_6_code, exceptionTable := #[], attributes := #[] }
def k2m1 : Method := { name := "count", desc := "(II)I", sig := { parameters := [.int, .int], returnType := some .int }, accessFlags := 0, code := some k2c1 }
def k2c2 : Code := { maxStack := 3, maxLocals := 2, code := prog_23_method_7_code, exceptionTable := #[], attributes := #[] }
def k2m2 : Method := { name := "countsFrom", desc := "(I)[I", sig := { parameters := [.int], returnType := some (.array .int) }, accessFlags := 0, code := some k2c2 }
/-- com/example/spanmask/spanmask/inventory/FreeRuns -/
def k2 : Class := { plain "com/example/spanmask/spanmask/inventory/FreeRuns" (some 0) with
  accessFlags := 48
  interfaces := #[]
  cf := some (fileOf pool2 13 #[] #[{ accessFlags := 0, nameIndex := 7, descriptorIndex := 119, attributes := #[] }, { accessFlags := 0, nameIndex := 126, descriptorIndex := 127, attributes := #[] }, { accessFlags := 0, nameIndex := 128, descriptorIndex := 129, attributes := #[] }] 48 4 #[] #[{ accessFlags := 24, nameIndex := 114, descriptorIndex := 115, attributes := #[] }, { accessFlags := 18, nameIndex := 20, descriptorIndex := 21, attributes := #[] }, { accessFlags := 18, nameIndex := 26, descriptorIndex := 27, attributes := #[] }, { accessFlags := 18, nameIndex := 32, descriptorIndex := 33, attributes := #[] }, { accessFlags := 18, nameIndex := 16, descriptorIndex := 17, attributes := #[] }])
  fields := #[{ name := "NONE", type := .long, accessFlags := 24, slot := 0, constantValue := 0 }, { name := "stops", type := .int, accessFlags := 18, slot := 0, constantValue := 0 }, { name := "covering", type := (.array (.array .int)), accessFlags := 18, slot := 1, constantValue := 0 }, { name := "lowest", type := (.array (.array .long)), accessFlags := 18, slot := 2, constantValue := 0 }, { name := "runs", type := (.object "java/util/Map"), accessFlags := 18, slot := 3, constantValue := 0 }]
  methods := #[k2m0, k2m1, k2m2]
  instanceTypes := #[.int, (.array (.array .int)), (.array (.array .long)), (.object "java/util/Map")]
  staticTypes := #[.long]
  resolved := Array.replicate 154 none
  statics := none }

def pool3 : Array CpInfo := pool [(2, .class_ 4), (1, u "java/util/Map"), (31, .class_ 37), (0, u "java/util/Map$Entry"), (55, .class_ 94), (0, u "java/lang/Object")] 168

/-- java/util/Map -/
def k3 : Class := { plain "java/util/Map" (some 0) with
  accessFlags := 1537
  interfaces := #[]
  cf := some (fileOf pool3 2 #[.nestMembers #[36]] #[] 1537 93 #[] #[])
  fields := #[]
  methods := #[]
  instanceTypes := #[]
  staticTypes := #[]
  resolved := Array.replicate 263 none
  statics := none }

def pool4 : Array CpInfo := pool [(1, .methodref 2 3), (0, .class_ 4), (0, .nameAndType 5 6), (0, u "java/lang/Object"), (0, u "<init>"), (0, u "()V"), (1, .class_ 10), (1, u "java/util/AbstractMap"), (42, .class_ 54), (0, u "java/util/Map"), (9, u "keySet"), (0, u "Ljava/util/Set;"), (0, .class_ 67), (0, u "java/util/AbstractMap$1"), (5, u "values"), (0, u "Ljava/util/Collection;"), (0, .class_ 76), (0, u "java/util/AbstractMap$2"), (104, .class_ 182), (0, u "java/util/AbstractMap$ViewCollection"), (0, .class_ 184), (0, u "java/util/AbstractMap$SimpleImmutableEntry"), (0, .class_ 186), (0, u "java/util/AbstractMap$SimpleEntry"), (0, .class_ 188), (0, u "java/util/AbstractMap$2$1"), (0, .class_ 190), (0, u "java/util/AbstractMap$1$1")] 5

def k4c0 : Code := { maxStack := 1, maxLocals := 1, code := jdk_71_method_1_code, exceptionTable := #[], attributes := #[] }
def k4m0 : Method := { name := "<init>", desc := "()V", sig := { parameters := [], returnType := none }, accessFlags := 4, code := some k4c0 }
/-- java/util/AbstractMap -/
def k4 : Class := { plain "java/util/AbstractMap" (some 0) with
  accessFlags := 1057
  interfaces := #[3]
  cf := some (fileOf pool4 8 #[.nestMembers #[181, 183, 185, 75, 187, 66, 189]] #[{ accessFlags := 4, nameIndex := 5, descriptorIndex := 6, attributes := #[] }] 1057 2 #[53] #[{ accessFlags := 128, nameIndex := 64, descriptorIndex := 65, attributes := #[] }, { accessFlags := 128, nameIndex := 73, descriptorIndex := 74, attributes := #[] }])
  fields := #[{ name := "keySet", type := (.object "java/util/Set"), accessFlags := 128, slot := 0, constantValue := 0 }, { name := "values", type := (.object "java/util/Collection"), accessFlags := 128, slot := 1, constantValue := 0 }]
  methods := #[k4m0]
  instanceTypes := #[(.object "java/util/Set"), (.object "java/util/Collection")]
  staticTypes := #[]
  resolved := Array.replicate 196 none
  statics := none }

def pool5 : Array CpInfo := pool [(1, .class_ 2), (0, u "java/lang/Cloneable"), (0, .class_ 4), (0, u "java/lang/Object")] 2

/-- java/lang/Cloneable -/
def k5 : Class := { plain "java/lang/Cloneable" (some 0) with
  accessFlags := 1537
  interfaces := #[]
  cf := some (fileOf pool5 1 #[] #[] 1537 3 #[] #[])
  fields := #[]
  methods := #[]
  instanceTypes := #[]
  staticTypes := #[]
  resolved := Array.replicate 7 none
  statics := none }

def pool6 : Array CpInfo := pool [(1, .class_ 2), (0, u "java/io/Serializable"), (0, .class_ 4), (0, u "java/lang/Object")] 2

/-- java/io/Serializable -/
def k6 : Class := { plain "java/io/Serializable" (some 0) with
  accessFlags := 1537
  interfaces := #[]
  cf := some (fileOf pool6 1 #[] #[] 1537 3 #[] #[])
  fields := #[]
  methods := #[]
  instanceTypes := #[]
  staticTypes := #[]
  resolved := Array.replicate 7 none
  statics := none }

def pool7 : Array CpInfo := pool [(40, .class_ 41), (0, u "java/util/HashMap"), (1, .methodref 44 45), (0, .class_ 46), (0, .nameAndType 47 48), (0, u "java/util/AbstractMap"), (0, u "<init>"), (0, u "()V"), (32, .fieldref 40 82), (0, .nameAndType 83 84), (0, u "loadFactor"), (0, u "F"), (5, u "threshold"), (0, u "I"), (0, .float 1061158912), (8, .class_ 103), (1, u "java/util/Map"), (0, u "size"), (2, u "table"), (0, u "[Ljava/util/HashMap$Node;"), (14, u "entrySet"), (39, .class_ 165), (1, u "java/util/HashMap$Node"), (14, .class_ 181), (0, u "java/util/HashMap$TreeNode"), (22, u "modCount"), (37, u "Ljava/util/Set;"), (0, .class_ 244), (0, u "java/util/HashMap$KeySet"), (18, .class_ 264), (0, u "java/util/HashMap$Values"), (3, .class_ 269), (0, u "java/util/HashMap$EntrySet"), (76, .class_ 348), (1, u "java/util/HashMap$UnsafeHolder"), (43, .class_ 393), (0, u "java/lang/Cloneable"), (0, .class_ 395), (0, u "java/io/Serializable"), (0, u "serialVersionUID"), (0, u "J"), (3, u "DEFAULT_INITIAL_CAPACITY"), (1, u "MAXIMUM_CAPACITY"), (0, u "DEFAULT_LOAD_FACTOR"), (0, u "TREEIFY_THRESHOLD"), (1, u "UNTREEIFY_THRESHOLD"), (1, u "MIN_TREEIFY_CAPACITY"), (186, .class_ 597), (0, u "java/util/HashMap$EntrySpliterator"), (0, .class_ 599), (0, u "java/util/HashMap$ValueSpliterator"), (0, .class_ 601), (0, u "java/util/HashMap$KeySpliterator"), (0, .class_ 603), (0, u "java/util/HashMap$HashMapSpliterator"), (0, .class_ 605), (0, u "java/util/HashMap$EntryIterator"), (0, .class_ 607), (0, u "java/util/HashMap$ValueIterator"), (0, .class_ 609), (0, u "java/util/HashMap$KeyIterator"), (0, .class_ 611), (0, u "java/util/HashMap$HashIterator")] 17

def k7c0 : Code := { maxStack := 2, maxLocals := 1, code := jdk_69_method_7_code, exceptionTable := #[], attributes := #[] }
def k7m0 : Method := { name := "<init>", desc := "()V", sig := { parameters := [], returnType := none }, accessFlags := 1, code := some k7c0 }
/-- java/util/HashMap -/
def k7 : Class := { plain "java/util/HashMap" (some 4) with
  accessFlags := 33
  interfaces := #[3, 5, 6]
  cf := some (fileOf pool7 40 #[.nestMembers #[180, 596, 598, 600, 602, 604, 606, 608, 610, 346, 268, 263, 243, 163]] #[{ accessFlags := 1, nameIndex := 47, descriptorIndex := 48, attributes := #[] }] 33 44 #[101, 392, 394] #[{ accessFlags := 26, nameIndex := 396, descriptorIndex := 397, attributes := #[] }, { accessFlags := 24, nameIndex := 401, descriptorIndex := 91, attributes := #[] }, { accessFlags := 24, nameIndex := 403, descriptorIndex := 91, attributes := #[] }, { accessFlags := 24, nameIndex := 404, descriptorIndex := 84, attributes := #[] }, { accessFlags := 24, nameIndex := 405, descriptorIndex := 91, attributes := #[] }, { accessFlags := 24, nameIndex := 407, descriptorIndex := 91, attributes := #[] }, { accessFlags := 24, nameIndex := 409, descriptorIndex := 91, attributes := #[] }, { accessFlags := 128, nameIndex := 107, descriptorIndex := 108, attributes := #[] }, { accessFlags := 128, nameIndex := 123, descriptorIndex := 242, attributes := #[] }, { accessFlags := 128, nameIndex := 104, descriptorIndex := 91, attributes := #[] }, { accessFlags := 128, nameIndex := 204, descriptorIndex := 91, attributes := #[] }, { accessFlags := 0, nameIndex := 90, descriptorIndex := 91, attributes := #[] }, { accessFlags := 16, nameIndex := 83, descriptorIndex := 84, attributes := #[] }])
  fields := #[{ name := "serialVersionUID", type := .long, accessFlags := 26, slot := 0, constantValue := 0 }, { name := "DEFAULT_INITIAL_CAPACITY", type := .int, accessFlags := 24, slot := 1, constantValue := 0 }, { name := "MAXIMUM_CAPACITY", type := .int, accessFlags := 24, slot := 2, constantValue := 0 }, { name := "DEFAULT_LOAD_FACTOR", type := .float, accessFlags := 24, slot := 3, constantValue := 0 }, { name := "TREEIFY_THRESHOLD", type := .int, accessFlags := 24, slot := 4, constantValue := 0 }, { name := "UNTREEIFY_THRESHOLD", type := .int, accessFlags := 24, slot := 5, constantValue := 0 }, { name := "MIN_TREEIFY_CAPACITY", type := .int, accessFlags := 24, slot := 6, constantValue := 0 }, { name := "table", type := (.array (.object "java/util/HashMap$Node")), accessFlags := 128, slot := 2, constantValue := 0 }, { name := "entrySet", type := (.object "java/util/Set"), accessFlags := 128, slot := 3, constantValue := 0 }, { name := "size", type := .int, accessFlags := 128, slot := 4, constantValue := 0 }, { name := "modCount", type := .int, accessFlags := 128, slot := 5, constantValue := 0 }, { name := "threshold", type := .int, accessFlags := 0, slot := 6, constantValue := 0 }, { name := "loadFactor", type := .float, accessFlags := 16, slot := 7, constantValue := 0 }]
  methods := #[k7m0]
  instanceTypes := #[(.object "java/util/Set"), (.object "java/util/Collection"), (.array (.object "java/util/HashMap$Node")), (.object "java/util/Set"), .int, .int, .int, .float]
  staticTypes := #[.long, .int, .int, .float, .int, .int, .int]
  resolved := Array.replicate 629 none
  statics := none }

def pool8 : Array CpInfo := pool [(2, .class_ 4), (1, u "java/lang/Object"), (0, u "<init>"), (0, u "()V"), (7, .class_ 16), (1, u "java/util/Arrays"), (57, .class_ 76), (1, u "java/util/Arrays$NaturalOrder"), (36, .class_ 115), (1, u "java/util/Arrays$LegacyMergeSort"), (1, u "Z"), (257, .class_ 376), (0, u "java/util/Arrays$ArrayList"), (68, u "$assertionsDisabled"), (269, u "MIN_ARRAY_SORT_GRAN"), (0, u "I"), (2, u "INSERTIONSORT_THRESHOLD"), (120, u "fill"), (0, u "([JJ)V"), (133, .class_ 976), (0, u "java/util/Arrays$ArrayItr")] 52

def k8m0 : Method := { name := "<init>", desc := "()V", sig := { parameters := [], returnType := none }, accessFlags := 2, code := none }
def k8c1 : Code := { maxStack := 4, maxLocals := 5, code := jdk_65_method_101_code, exceptionTable := #[], attributes := #[] }
def k8m1 : Method := { name := "fill", desc := "([JJ)V", sig := { parameters := [(.array .long), .long], returnType := none }, accessFlags := 9, code := some k8c1 }
/-- java/util/Arrays -/
def k8 : Class := { plain "java/util/Arrays" (some 0) with
  accessFlags := 49
  interfaces := #[]
  cf := some (fileOf pool8 14 #[.nestMembers #[975, 375, 113, 74]] #[{ accessFlags := 2, nameIndex := 5, descriptorIndex := 6, attributes := #[] }, { accessFlags := 9, nameIndex := 840, descriptorIndex := 841, attributes := #[] }] 49 2 #[] #[{ accessFlags := 26, nameIndex := 715, descriptorIndex := 716, attributes := #[] }, { accessFlags := 26, nameIndex := 719, descriptorIndex := 716, attributes := #[] }, { accessFlags := 4120, nameIndex := 445, descriptorIndex := 117, attributes := #[] }])
  fields := #[{ name := "MIN_ARRAY_SORT_GRAN", type := .int, accessFlags := 26, slot := 0, constantValue := 0 }, { name := "INSERTIONSORT_THRESHOLD", type := .int, accessFlags := 26, slot := 1, constantValue := 0 }, { name := "$assertionsDisabled", type := .boolean, accessFlags := 4120, slot := 2, constantValue := 0 }]
  methods := #[k8m0, k8m1]
  instanceTypes := #[]
  staticTypes := #[.int, .int, .boolean]
  resolved := Array.replicate 1029 none
  statics := none }

/-- the primitive byte -/
def k9 : Class := { plain "byte" none with kind := .primitive 'B', accessFlags := 0x411 }
/-- [B -/
def k10 : Class := { plain "[B" (some 0) with kind := .array 9 .byte, interfaces := #[5, 6], accessFlags := 1041 }

/-- the primitive int -/
def k11 : Class := { plain "int" none with kind := .primitive 'I', accessFlags := 0x411 }
/-- [I -/
def k12 : Class := { plain "[I" (some 0) with kind := .array 11 .int, interfaces := #[5, 6], accessFlags := 1041 }

/-- the primitive long -/
def k13 : Class := { plain "long" none with kind := .primitive 'J', accessFlags := 0x411 }
/-- [J -/
def k14 : Class := { plain "[J" (some 0) with kind := .array 13 .long, interfaces := #[5, 6], accessFlags := 1041 }

def heap : Heap := #[]
def k15 : Class := { plain "[[I" (some 0) with kind := .array 12 (.array .int), interfaces := #[5, 6], accessFlags := 1041 }
def k16 : Class := { plain "[[J" (some 0) with kind := .array 14 (.array .long), interfaces := #[5, 6], accessFlags := 1041 }
def classes : Array Class := #[k0, k1, k2, k3, k4, k5, k6, k7, k8, k9, k10, k11, k12, k13, k14, k15, k16]
def interned : List (Array UInt16 × Addr) := []
def slotsUsed : Nat := 0
def theMethod : MethodId := ⟨1, 1⟩
def args0 : Array Value := #[.int 5, .int 7, .int 2, .int 9]
def aboutOver (below : List Frame) : State where
  vm := { classes := classes, interned := interned.toArray }
  heap := heap
  slotsUsed := slotsUsed
  threads := #[{ frames := .invoking theMethod args0 :: below }]
def below0 : List Frame := [.native { method := ⟨0, 0⟩, args := #[] }]
def about1 : State := aboutOver below0
def p0 : Program := .bare "" "" ""
def e0 : Env := launch0.env 0 0 0
theorem w_frames : about1.frames = Frame.invoking theMethod args0 :: below0 := rfl
set_option maxRecDepth 65536 in
theorem w_args : argsFit about1.vm theMethod args0 = true := by decide +kernel
set_option maxRecDepth 65536 in
theorem w_heap : heapFits about1 = true := by decide +kernel
set_option maxRecDepth 65536 in
theorem w_runnable : about1.curStatus? = some .runnable := by decide +kernel
set_option maxRecDepth 65536 in
theorem w_alone : about1.alone = true := by decide +kernel
set_option maxRecDepth 65536 in
theorem w_named : about1.methodNamed? x = some theMethod := by decide +kernel
set_option maxRecDepth 65536 in
theorem w_hears : about1.hears theMethod below0 = true := by decide +kernel
set_option maxRecDepth 65536 in
theorem w_ripe : about1.ripe theMethod args0 below0 = true := by decide +kernel
theorem w_running : about1.status = .running := rfl
set_option maxRecDepth 65536 in
theorem w_room : about1.hasRoom e0.platform room_1 = true :=
  launch0.hasRoom_least _ room_1 (by decide +kernel) (by decide +kernel) (by decide +kernel) (by decide +kernel) (by decide +kernel) (by decide +kernel)
theorem allAtoms_all (ts : List Jvm.Cond) (a : Array Jvm.Value) (st : Jvm.State) : (allAtoms ts).before a st = ts.all (fun c => c.before a st) := by
  induction ts with
  | nil => rfl
  | cons c t ih =>
    show (Jvm.Cond.and c (allAtoms t)).before a st = _
    rw [Jvm.Cond.before_and, ih, List.all_cons]
def words1 : List Jvm.Cond := Jvm.Cond.code x code maxLocals ret :: tables_1
/-- a 'code' word, met by the world's own term for the bytes: nothing is compared byte by byte -/
theorem code_word {y : MethodName} {bytes : ByteArray} {mx : Nat} {rt : Option FieldType} {a : Array Value} {s : State} {m : MethodId} {meth : Method} {c : Code} (h1 : s.methodNamed? y = some m) (h2 : s.vm.method? m = some meth) (h3 : meth.code = some c) (h4 : c.code = bytes)
    (h5 : (c.maxLocals == mx && c.exceptionTable.isEmpty && decide (c.maxStack ≤ mostOperands) && decide (meth.sig.returnType = rt) && !meth.locks && decide (parseMethodDescriptor y.desc = some meth.sig)) = true) : (Jvm.Cond.code y bytes mx rt).before a s = true := by
  simp only [Bool.and_eq_true, beq_iff_eq, Bool.not_eq_true', decide_eq_true_eq] at h5
  obtain ⟨⟨⟨⟨⟨g1, g2⟩, g3⟩, g4⟩, g5⟩, g6⟩ := h5
  simp [Cond.before, Cond.holds, Cond.value, h1, h2, h3, h4, g1, g2, g3, g4, g5, g6]
def isCode : Jvm.Cond → Bool
  | .code _ _ _ _ => true
  | _ => false
theorem all_split {L : List Jvm.Cond} {P : Jvm.Cond → Bool} (h1 : L.all (fun c => isCode c || P c) = true) (h2 : ∀ c ∈ L.filter isCode, P c = true) : L.all P = true := by
  refine List.all_eq_true.mpr fun c hc => ?_
  have h := List.all_eq_true.mp h1 c hc
  rcases Bool.eq_false_or_eq_true (isCode c) with hi | hi
  · exact h2 c (List.mem_filter.mpr ⟨hc, hi⟩)
  · simpa [hi] using h
set_option maxRecDepth 65536 in
theorem w_c0 : (Jvm.Cond.code x code maxLocals ret).before args0 about1 = true := code_word (m := ⟨1, 1⟩) (meth := k1m1) (c := k1c1) (by decide +kernel) rfl rfl rfl (by decide +kernel)
set_option maxRecDepth 65536 in
theorem w_c1 : (Jvm.Cond.code ({ cls := "com/example/spanmask/spanmask/inventory/FreeRuns", name := "<init>", desc := "(I)V" } : Jvm.MethodName) prog_23_method_1_code (3 : Nat) (Option.none : Option Jvm.ClassFile.FieldType)).before args0 about1 = true := code_word (m := ⟨2, 0⟩) (meth := k2m0) (c := k2c0) (by decide +kernel) rfl rfl rfl (by decide +kernel)
set_option maxRecDepth 65536 in
theorem w_c2 : (Jvm.Cond.code ({ cls := "java/lang/Object", name := "<init>", desc := "()V" } : Jvm.MethodName) object_method_1_code (1 : Nat) (Option.none : Option Jvm.ClassFile.FieldType)).before args0 about1 = true := code_word (m := ⟨0, 0⟩) (meth := k0m0) (c := k0c0) (by decide +kernel) rfl rfl rfl (by decide +kernel)
set_option maxRecDepth 65536 in
theorem w_c3 : (Jvm.Cond.code ({ cls := "java/util/HashMap", name := "<init>", desc := "()V" } : Jvm.MethodName) jdk_69_method_7_code (1 : Nat) (Option.none : Option Jvm.ClassFile.FieldType)).before args0 about1 = true := code_word (m := ⟨7, 0⟩) (meth := k7m0) (c := k7c0) (by decide +kernel) rfl rfl rfl (by decide +kernel)
set_option maxRecDepth 65536 in
theorem w_c4 : (Jvm.Cond.code ({ cls := "java/util/AbstractMap", name := "<init>", desc := "()V" } : Jvm.MethodName) jdk_71_method_1_code (1 : Nat) (Option.none : Option Jvm.ClassFile.FieldType)).before args0 about1 = true := code_word (m := ⟨4, 0⟩) (meth := k4m0) (c := k4c0) (by decide +kernel) rfl rfl rfl (by decide +kernel)
set_option maxRecDepth 65536 in
theorem w_c5 : (Jvm.Cond.code ({ cls := "java/util/Arrays", name := "fill", desc := "([JJ)V" } : Jvm.MethodName) jdk_65_method_101_code (5 : Nat) (Option.none : Option Jvm.ClassFile.FieldType)).before args0 about1 = true := code_word (m := ⟨8, 1⟩) (meth := k8m1) (c := k8c1) (by decide +kernel) rfl rfl rfl (by decide +kernel)
set_option maxRecDepth 65536 in
theorem w_c6 : (Jvm.Cond.code ({ cls := "com/example/spanmask/spanmask/inventory/FreeRuns", name := "countsFrom", desc := "(I)[I" } : Jvm.MethodName) prog_23_method_7_code (2 : Nat) (Option.some (Jvm.ClassFile.FieldType.array Jvm.ClassFile.FieldType.int))).before args0 about1 = true := code_word (m := ⟨2, 2⟩) (meth := k2m2) (c := k2c2) (by decide +kernel) rfl rfl rfl (by decide +kernel)
set_option maxRecDepth 65536 in
theorem w_c7 : (Jvm.Cond.code ({ cls := "com/example/spanmask/spanmask/inventory/FreeRuns", name := "count", desc := "(II)I" } : Jvm.MethodName) prog_23_method_6_code (3 : Nat) (Option.some Jvm.ClassFile.FieldType.int)).before args0 about1 = true := code_word (m := ⟨2, 1⟩) (meth := k2m1) (c := k2c1) (by decide +kernel) rfl rfl rfl (by decide +kernel)
def codes1 : List Jvm.Cond := [Jvm.Cond.code x code maxLocals ret, Jvm.Cond.code ({ cls := "com/example/spanmask/spanmask/inventory/FreeRuns", name := "<init>", desc := "(I)V" } : Jvm.MethodName) prog_23_method_1_code (3 : Nat) (Option.none : Option Jvm.ClassFile.FieldType), Jvm.Cond.code ({ cls := "java/lang/Object", name := "<init>", desc := "()V" } : Jvm.MethodName) object_method_1_code (1 : Nat) (Option.none : Option Jvm.ClassFile.FieldType), Jvm.Cond.code ({ cls := "java/util/HashMap", name := "<init>", desc := "()V" } : Jvm.MethodName) jdk_69_method_7_code (1 : Nat) (Option.none : Option Jvm.ClassFile.FieldType), Jvm.Cond.code ({ cls := "java/util/AbstractMap", name := "<init>", desc := "()V" } : Jvm.MethodName) jdk_71_method_1_code (1 : Nat) (Option.none : Option Jvm.ClassFile.FieldType), Jvm.Cond.code ({ cls := "java/util/Arrays", name := "fill", desc := "([JJ)V" } : Jvm.MethodName) jdk_65_method_101_code (5 : Nat) (Option.none : Option Jvm.ClassFile.FieldType), Jvm.Cond.code ({ cls := "com/example/spanmask/spanmask/inventory/FreeRuns", name := "countsFrom", desc := "(I)[I" } : Jvm.MethodName) prog_23_method_7_code (2 : Nat) (Option.some (Jvm.ClassFile.FieldType.array Jvm.ClassFile.FieldType.int)), Jvm.Cond.code ({ cls := "com/example/spanmask/spanmask/inventory/FreeRuns", name := "count", desc := "(II)I" } : Jvm.MethodName) prog_23_method_6_code (3 : Nat) (Option.some Jvm.ClassFile.FieldType.int)]
set_option maxRecDepth 65536 in
theorem codes_eq : words1.filter isCode = codes1 := rfl
theorem w_codes : ∀ c ∈ words1.filter isCode, c.before args0 about1 = true := by
  rw [codes_eq]
  intro c hc
  simp only [codes1, List.mem_cons, List.not_mem_nil, or_false] at hc
  rcases hc with rfl | rfl | rfl | rfl | rfl | rfl | rfl | rfl
  · exact w_c0
  · exact w_c1
  · exact w_c2
  · exact w_c3
  · exact w_c4
  · exact w_c5
  · exact w_c6
  · exact w_c7
set_option maxRecDepth 65536 in
theorem w_t1 : (words1.take 24).all (fun c => isCode c || c.before args0 about1) = true := by decide +kernel
set_option maxRecDepth 65536 in
theorem w_t2 : ((words1.drop 24).take 24).all (fun c => isCode c || c.before args0 about1) = true := by decide +kernel
set_option maxRecDepth 65536 in
theorem w_t3 : ((words1.drop 24).drop 24).all (fun c => isCode c || c.before args0 about1) = true := by decide +kernel
theorem w_tables : (allAtoms (Jvm.Cond.code x code maxLocals ret :: tables_1)).before args0 about1 = true := by
  rw [allAtoms_all]
  show words1.all (fun c => c.before args0 about1) = true
  refine all_split ?_ w_codes
  rw [← List.take_append_drop 24 words1, List.all_append, w_t1, ← List.take_append_drop 24 (words1.drop 24), List.all_append, w_t2, w_t3]
  rfl
set_option maxRecDepth 65536 in
theorem w_case : (Jvm.Cond.and given_1 narrow_1).before args0 about1 = true := by decide +kernel
theorem w_applies : (headSpec (Jvm.Cond.code x code maxLocals ret :: tables_1) room_1).applies x e0.platform about1 = true :=
  (Spec.applies_iff w_frames).mpr ⟨w_running, w_runnable, w_alone, w_named, w_hears, w_ripe, w_room, w_tables⟩
theorem atStart : AtStart classFile x code maxLocals ret World_1 tables_1 room_1 Calls_1 rest_1 Pre_1 launch0 p0 e0 about1 theMethod args0 below0 :=
  ⟨lists_1, trivial, launch0.admits_env _ _ _, launch0.least_env, fairChoices_fair.cas, fairChoices_fair.clock, w_frames, w_args, w_heap, w_applies, trivial, trivial, w_case⟩
end start1
theorem witness_1 : WitnessClaimed_1 := ⟨start1.p0, start1.e0, start1.about1, start1.theMethod, start1.args0, start1.below0, start1.atStart⟩
end Jvm.Pilot.@@N@@
