import JvmDerived
import JvmDerived.Pilot.@@N@@Statement
import JvmDerived.Pilot.@@N@@Code
set_option linter.unusedVariables false
set_option linter.unusedSimpArgs false
namespace Jvm.RoadKit
open Sem ClassFile Op Lib Jvm.Stand Jvm.Free Jvm.LawKit
section New
variable {p : Program} {l : Launch} {e : Env} {R : Room} {s : State} {m : MethodId} {args : Array Value} {below : List Frame} {meth : Method} {c : Code} {T : State} {locs : List Loc} {cells slots : Nat}
theorem retI (X : Stand p l e R s m args below meth c T locs cells slots) (hx : p.tables.exec = Jvm.exec) {pc : Nat} {Ls : Array Slot} {z : Int32} {rest : List Value} (hret : meth.sig.returnType = some .int) (hd : decode c.code pc = .ok (.ireturn, 1)) {fs : List Frame}
    (hl : ∀ (f : JFrame) (acts : List Action), f.method = m → f.locked = none → f.entered = [] → (doReturn e (T.setTop f) acts (some (.int z))).1 = T.setFrames fs) : Steps p.tables e below (T.setTop (mkF m pc Ls (.int z :: rest))) (T.setFrames fs) := by
  have hm' : T.vm.method? m = some meth := X.method'
  have hn : narrow .int (.int z) = .int z := rfl
  show Steps p.tables e below (T.setTop { method := m, pc := pc, locals := Ls, stack := _ :: rest, locked := none }) _
  jvm_step X.here [X.here.top, hx, hd, hm', hret, hn]
  first | (intro acts; rw [hl _ acts rfl rfl rfl]) | rw [hl _ _ rfl rfl rfl]
  exact Steps.refl _
end New
end Jvm.RoadKit
namespace Jvm.Pilot.@@N@@
open Jvm Jvm.ClassFile Sem Op Lib Jvm.Free Jvm.Stand Jvm.LawKit Jvm.RoadKit Bundle Jvm.Pilot.@@N@@.Jvm.D
section OwnKit
/-! The own kit: a walk as one relation 'Rn' on (pc, locals, stack, heap): "from here the body runs to its promise". Each row is a library law read backwards, so that a walk may fork anywhere. -/
abbrev Wk : Type := Program × Env × State × MethodId × Array Value × List Frame × Method × Code
abbrev Wk.p (w : Wk) : Program := w.1
abbrev Wk.e (w : Wk) : Env := w.2.1
abbrev Wk.s (w : Wk) : State := w.2.2.1
abbrev Wk.m (w : Wk) : MethodId := w.2.2.2.1
abbrev Wk.a (w : Wk) : Array Value := w.2.2.2.2.1
abbrev Wk.b (w : Wk) : List Frame := w.2.2.2.2.2.1
abbrev Wk.t (w : Wk) : Method := w.2.2.2.2.2.2.1
abbrev Wk.c (w : Wk) : Code := w.2.2.2.2.2.2.2
/-- the run from (pc, Ls, S) over the heap h, with cs cells and ss slots made so far, ends in Q -/
def Rn (w : Wk) (l : Launch) (R : Room) (n0 : Nat) (F : Outcome → State → Prop) (pc : Nat) (Ls : Array Slot) (S : List Value) (h : Heap) (cs ss : Nat) : Prop :=
  ∀ (T : State) (locs : List Loc), Stand w.p l w.e R w.s w.m w.a w.b w.t w.c T locs cs ss → T.heap = h → Fr n0 locs →
    ∃ s₂ o, Steps w.p.tables w.e w.b (T.setTop (mkF w.m pc Ls S)) s₂ ∧ s₂.status = .running ∧ Ended s₂ w.b o ∧ F o s₂
/-- the promise of a body that interns nothing -/
abbrev FinQ (w : Wk) (R : Room) (n0 : Nat) (Q : Option Value → Heap → Prop) (o : Outcome) (s₂ : State) : Prop := ∃ v L, o = .returned v ∧ (Fr n0 L ∧ Q v s₂.heap) ∧ FrameEnd w.s o s₂ L R.cells R.slots
/-- what stands throughout the walk of one body -/
def Cx (w : Wk) (Z : State) (a0 : Array Value) (own : String) (bytes : ByteArray) (ml : Nat) (rt : Option FieldType) (nm : String) : Prop :=
  w.p.tables.exec = Jvm.exec ∧ w.c.code = bytes ∧ w.c.maxLocals = ml ∧ w.s.vm.findClass own = some w.m.cls ∧ Z.Warmed39 w.s.vm ∧ w.t.sig.returnType = rt ∧ w.t.locks = false ∧ w.t.name = nm ∧ ∀ d ∈ tables_1, d.before a0 Z = true
/-- a body's contract at the arguments as' over the heap h0 -/
def Met (l : Launch) (Z : State) (y : MethodName) (bytes : ByteArray) (ml : Nat) (rt : Option FieldType) (rm : Room) (n0 : Nat) (ws : List Jvm.Cond) (as' : Array Value) (h0 : Heap) (Q : Option Value → Heap → Prop) : Prop :=
  MetFree l y (head1 (Jvm.Cond.code y bytes ml rt :: ws) rm) (fun a U => a = as' ∧ Z.Warmed39 U.vm ∧ U.heap = h0) (fun _ _ _ _ _ => True) (fun _ U o U' => ∃ v L, o = .returned v ∧ (Fr n0 L ∧ Q v U'.heap) ∧ FrameEnd U o U' L rm.cells rm.slots)
variable {w : Wk} {l : Launch} {R : Room} {n0 : Nat} {F : Outcome → State → Prop} {Q : Option Value → Heap → Prop} {pc q : Nat} {Ls Ls' : Array Slot} {S : List Value} {h : Heap} {cs ss : Nat} {Z : State} {a0 : Array Value} {own : String} {bytes : ByteArray} {ml : Nat} {rt : Option FieldType} {nm : String}
theorem Cx.x (K : Cx w Z a0 own bytes ml rt nm) : w.p.tables.exec = Jvm.exec := K.1
theorem Cx.cd (K : Cx w Z a0 own bytes ml rt nm) : w.c.code = bytes := K.2.1
theorem Cx.mx (K : Cx w Z a0 own bytes ml rt nm) : w.c.maxLocals = ml := K.2.2.1
theorem Cx.ow (K : Cx w Z a0 own bytes ml rt nm) : w.s.vm.findClass own = some w.m.cls := K.2.2.2.1
theorem Cx.z (K : Cx w Z a0 own bytes ml rt nm) : Z.Warmed39 w.s.vm := K.2.2.2.2.1
theorem Cx.ret (K : Cx w Z a0 own bytes ml rt nm) : w.t.sig.returnType = rt := K.2.2.2.2.2.1
theorem Cx.lk (K : Cx w Z a0 own bytes ml rt nm) : w.t.locks = false := K.2.2.2.2.2.2.1
theorem Cx.nme (K : Cx w Z a0 own bytes ml rt nm) : w.t.name = nm := K.2.2.2.2.2.2.2.1
theorem Cx.hw (K : Cx w Z a0 own bytes ml rt nm) : ∀ d ∈ tables_1, d.before a0 Z = true := K.2.2.2.2.2.2.2.2
theorem Met.intro {y : MethodName} {as' : Array Value} {h0 : Heap} {rm : Room} {ws : List Jvm.Cond} (hp : plainFor y = true) (hw : ∀ d ∈ tables_1, d.before a0 Z = true) (ef : ∀ m, entryFrame m as' ml = mkF m 0 Ls [])
    (k : ∀ w : Wk, Cx w Z a0 y.cls bytes ml rt y.name → Rn w l rm n0 (FinQ w rm n0 Q) 0 Ls [] h0 0 0) : Met l Z y bytes ml rt rm n0 ws as' h0 Q := by
  refine MetFree.of_bodySF hp hisR ?_
  intro p e s m args below meth c s₁ Bd hml0 hP hK
  obtain ⟨ha, hZ, hh⟩ := hP
  subst ha
  have e0 : s₁.heap = h0 := by rw [← hh, Bd.state]; rfl
  obtain ⟨s₂, o, h1, h2, h3, h4⟩ := k (p, e, s, m, args, below, meth, c) ⟨Bd.exec, Bd.bytes, hml0, findClass_of_methodNamed Bd.named, hZ, Bd.returns, Bd.notSynchronized, (name_of_methodNamed Bd.named Bd.method).1, hw⟩ s₁ [] (Stand.of_body Bd) e0 (Fr.nil n0)
  exact ⟨s₂, o, castTop (ef m) h1, h2, h3, h4⟩
theorem Rn.step {S' : List Value} (st : ∀ (T : State) (locs : List Loc), Stand w.p l w.e R w.s w.m w.a w.b w.t w.c T locs cs ss → ∀ t, Steps w.p.tables w.e w.b (T.setTop (mkF w.m q Ls' S')) t → Steps w.p.tables w.e w.b (T.setTop (mkF w.m pc Ls S)) t)
    (k : Rn w l R n0 F q Ls' S' h cs ss) : Rn w l R n0 F pc Ls S h cs ss := fun T locs X eT N => by
  obtain ⟨s₂, o, h1, r⟩ := k T locs X eT N
  exact ⟨s₂, o, st T locs X _ h1, r⟩
/-! plain steps -/
theorem Rn.iloadN (K : Cx w Z a0 own bytes ml rt nm) {k : Fin 4} {v : Int32} (hd : decode bytes pc = .ok (.iload_n k, 1)) (hl : Ls[k.val]? = some (.val (.int v))) (hq : pc + 1 = q) (r : Rn w l R n0 F q Ls (.int v :: S) h cs ss) : Rn w l R n0 F pc Ls S h cs ss := by
  subst hq; exact Rn.step (fun T locs X t k => XS.iloadN X.here K.x rfl (hb K.cd hd) hl k) r
theorem Rn.iload (K : Cx w Z a0 own bytes ml rt nm) {k : Nat} {v : Int32} (hd : decode bytes pc = .ok (.iload k, 2)) (hl : Ls[k]? = some (.val (.int v))) (hq : pc + 2 = q) (r : Rn w l R n0 F q Ls (.int v :: S) h cs ss) : Rn w l R n0 F pc Ls S h cs ss := by
  subst hq; exact Rn.step (fun T locs X t k => XS.iload X.here K.x rfl (hb K.cd hd) hl k) r
theorem Rn.lloadN (K : Cx w Z a0 own bytes ml rt nm) {k : Fin 4} {v : Int64} (hd : decode bytes pc = .ok (.lload_n k, 1)) (hl : Ls[k.val]? = some (.val (.long v))) (hq : pc + 1 = q) (r : Rn w l R n0 F q Ls (.long v :: S) h cs ss) : Rn w l R n0 F pc Ls S h cs ss := by
  subst hq; exact Rn.step (fun T locs X t k => XS.lloadN X.here K.x rfl (hb K.cd hd) hl k) r
theorem Rn.aloadN (K : Cx w Z a0 own bytes ml rt nm) {k : Fin 4} {v : Value} (hd : decode bytes pc = .ok (.aload_n k, 1)) (hl : Ls[k.val]? = some (.val v)) (hv : v.isRef = true) (hq : pc + 1 = q) (r : Rn w l R n0 F q Ls (v :: S) h cs ss) : Rn w l R n0 F pc Ls S h cs ss := by
  subst hq; exact Rn.step (fun T locs X t k => XS.aloadN X.here K.x rfl (hb K.cd hd) hl hv k) r
theorem Rn.aload (K : Cx w Z a0 own bytes ml rt nm) {k : Nat} {v : Value} (hd : decode bytes pc = .ok (.aload k, 2)) (hl : Ls[k]? = some (.val v)) (hv : v.isRef = true) (hq : pc + 2 = q) (r : Rn w l R n0 F q Ls (v :: S) h cs ss) : Rn w l R n0 F pc Ls S h cs ss := by
  subst hq; exact Rn.step (fun T locs X t k => XS.aload X.here K.x rfl (hb K.cd hd) hl hv k) r
theorem Rn.istoreN (K : Cx w Z a0 own bytes ml rt nm) {k : Fin 4} {v : Int32} (hd : decode bytes pc = .ok (.istore_n k, 1)) (hl : storeLocals Ls k.val (.int v) = some Ls') (hq : pc + 1 = q) (r : Rn w l R n0 F q Ls' S h cs ss) : Rn w l R n0 F pc Ls (.int v :: S) h cs ss := by
  subst hq; exact Rn.step (fun T locs X t k => XS.istoreN X.here K.x rfl (hb K.cd hd) rfl hl k) r
theorem Rn.istore (K : Cx w Z a0 own bytes ml rt nm) {k : Nat} {v : Int32} (hd : decode bytes pc = .ok (.istore k, 2)) (hl : storeLocals Ls k (.int v) = some Ls') (hq : pc + 2 = q) (r : Rn w l R n0 F q Ls' S h cs ss) : Rn w l R n0 F pc Ls (.int v :: S) h cs ss := by
  subst hq; exact Rn.step (fun T locs X t k => XS.istore X.here K.x rfl (hb K.cd hd) rfl hl k) r
theorem Rn.lstoreN (K : Cx w Z a0 own bytes ml rt nm) {k : Fin 4} {v : Int64} (hd : decode bytes pc = .ok (.lstore_n k, 1)) (hl : storeLocals Ls k.val (.long v) = some Ls') (hq : pc + 1 = q) (r : Rn w l R n0 F q Ls' S h cs ss) : Rn w l R n0 F pc Ls (.long v :: S) h cs ss := by
  subst hq; exact Rn.step (fun T locs X t k => XS.lstoreN X.here K.x rfl (hb K.cd hd) rfl hl k) r
theorem Rn.astoreN (K : Cx w Z a0 own bytes ml rt nm) {k : Fin 4} {v : Value} (hd : decode bytes pc = .ok (.astore_n k, 1)) (hv : v.isRef = true) (hl : storeLocals Ls k.val v = some Ls') (hq : pc + 1 = q) (r : Rn w l R n0 F q Ls' S h cs ss) : Rn w l R n0 F pc Ls (v :: S) h cs ss := by
  subst hq; exact Rn.step (fun T locs X t k => XS.astoreN X.here K.x rfl (hb K.cd hd) rfl hv hl k) r
theorem Rn.astore (K : Cx w Z a0 own bytes ml rt nm) {k : Nat} {v : Value} (hd : decode bytes pc = .ok (.astore k, 2)) (hv : v.isRef = true) (hl : storeLocals Ls k v = some Ls') (hq : pc + 2 = q) (r : Rn w l R n0 F q Ls' S h cs ss) : Rn w l R n0 F pc Ls (v :: S) h cs ss := by
  subst hq; exact Rn.step (fun T locs X t k => XS.astore X.here K.x rfl (hb K.cd hd) rfl hv hl k) r
theorem Rn.iconst (K : Cx w Z a0 own bytes ml rt nm) {i : Int} (v : Int32) (hd : decode bytes pc = .ok (.iconst i, 1)) (hv : Int32.ofInt i = v) (hq : pc + 1 = q) (r : Rn w l R n0 F q Ls (.int v :: S) h cs ss) : Rn w l R n0 F pc Ls S h cs ss := by
  subst hq hv; exact Rn.step (fun T locs X t k => XS.iconst X.here K.x rfl (hb K.cd hd) k) r
theorem Rn.bipush (K : Cx w Z a0 own bytes ml rt nm) {i : Int} (v : Int32) (hd : decode bytes pc = .ok (.bipush i, 2)) (hv : (Int8.ofInt i).toInt32 = v) (hq : pc + 2 = q) (r : Rn w l R n0 F q Ls (.int v :: S) h cs ss) : Rn w l R n0 F pc Ls S h cs ss := by
  subst hq hv; exact Rn.step (fun T locs X t k => XS.bipush X.here K.x rfl (hb K.cd hd) k) r
theorem Rn.sipush (K : Cx w Z a0 own bytes ml rt nm) {i : Int} (v : Int32) (hd : decode bytes pc = .ok (.sipush i, 3)) (hv : (Int16.ofInt i).toInt32 = v) (hq : pc + 3 = q) (r : Rn w l R n0 F q Ls (.int v :: S) h cs ss) : Rn w l R n0 F pc Ls S h cs ss := by
  subst hq hv; exact Rn.step (fun T locs X t k => XS.sipush X.here K.x rfl (hb K.cd hd) k) r
theorem Rn.lconst (K : Cx w Z a0 own bytes ml rt nm) {i : Fin 2} (v : Int64) (hd : decode bytes pc = .ok (.lconst i, 1)) (hv : Int64.ofNat i = v) (hq : pc + 1 = q) (r : Rn w l R n0 F q Ls (.long v :: S) h cs ss) : Rn w l R n0 F pc Ls S h cs ss := by
  subst hq hv; exact Rn.step (fun T locs X t k => XS.lconst X.here K.x rfl (hb K.cd hd) k) r
theorem Rn.aconst_null (K : Cx w Z a0 own bytes ml rt nm) (hd : decode bytes pc = .ok (.aconst_null, 1)) (hq : pc + 1 = q) (r : Rn w l R n0 F q Ls (.null :: S) h cs ss) : Rn w l R n0 F pc Ls S h cs ss := by
  subst hq; exact Rn.step (fun T locs X t k => XS.aconstNull X.here K.x rfl (hb K.cd hd) k) r
theorem Rn.ldcI (K : Cx w Z a0 own bytes ml rt nm) {i : Nat} (v : Int32) (hi : Jvm.Cond.constant own i v ∈ tables_1) (hd : decode bytes pc = .ok (.ldc i, 2)) (hq : pc + 2 = q) (r : Rn w l R n0 F q Ls (.int v :: S) h cs ss) : Rn w l R n0 F pc Ls S h cs ss := by
  subst hq; exact Rn.step (fun T locs X t k => X.ldcI K.x K.ow (mvT K.z (K.hw _ hi)) rfl (hb K.cd hd) k) r
theorem Rn.ldc2J (K : Cx w Z a0 own bytes ml rt nm) {i : Nat} (v : Int64) (hi : Jvm.Cond.constantLong own i v ∈ tables_1) (hd : decode bytes pc = .ok (.ldc2_w i, 3)) (hq : pc + 3 = q) (r : Rn w l R n0 F q Ls (.long v :: S) h cs ss) : Rn w l R n0 F pc Ls S h cs ss := by
  subst hq; exact Rn.step (fun T locs X t k => X.ldc2J K.x K.ow (mvT K.z (K.hw _ hi)) rfl (hb K.cd hd) k) r
theorem Rn.iadd (K : Cx w Z a0 own bytes ml rt nm) {x y : Int32} (hd : decode bytes pc = .ok (.iadd, 1)) (hq : pc + 1 = q) (r : Rn w l R n0 F q Ls (.int (x + y) :: S) h cs ss) : Rn w l R n0 F pc Ls (.int y :: .int x :: S) h cs ss := by
  subst hq; exact Rn.step (fun T locs X t k => XS.iadd X.here K.x rfl (hb K.cd hd) rfl k) r
theorem Rn.isub (K : Cx w Z a0 own bytes ml rt nm) {x y : Int32} (hd : decode bytes pc = .ok (.isub, 1)) (hq : pc + 1 = q) (r : Rn w l R n0 F q Ls (.int (x - y) :: S) h cs ss) : Rn w l R n0 F pc Ls (.int y :: .int x :: S) h cs ss := by
  subst hq; exact Rn.step (fun T locs X t k => XS.isub X.here K.x rfl (hb K.cd hd) rfl k) r
theorem Rn.imul (K : Cx w Z a0 own bytes ml rt nm) {x y : Int32} (hd : decode bytes pc = .ok (.imul, 1)) (hq : pc + 1 = q) (r : Rn w l R n0 F q Ls (.int (x * y) :: S) h cs ss) : Rn w l R n0 F pc Ls (.int y :: .int x :: S) h cs ss := by
  subst hq; exact Rn.step (fun T locs X t k => XS.imul X.here K.x rfl (hb K.cd hd) rfl k) r
theorem Rn.iand (K : Cx w Z a0 own bytes ml rt nm) {x y : Int32} (hd : decode bytes pc = .ok (.iand, 1)) (hq : pc + 1 = q) (r : Rn w l R n0 F q Ls (.int (x &&& y) :: S) h cs ss) : Rn w l R n0 F pc Ls (.int y :: .int x :: S) h cs ss := by
  subst hq; exact Rn.step (fun T locs X t k => XS.iand X.here K.x rfl (hb K.cd hd) rfl k) r
theorem Rn.ior (K : Cx w Z a0 own bytes ml rt nm) {x y : Int32} (hd : decode bytes pc = .ok (.ior, 1)) (hq : pc + 1 = q) (r : Rn w l R n0 F q Ls (.int (x ||| y) :: S) h cs ss) : Rn w l R n0 F pc Ls (.int y :: .int x :: S) h cs ss := by
  subst hq; exact Rn.step (fun T locs X t k => XS.ior X.here K.x rfl (hb K.cd hd) rfl k) r
theorem Rn.iushr (K : Cx w Z a0 own bytes ml rt nm) {x y : Int32} (hd : decode bytes pc = .ok (.iushr, 1)) (hq : pc + 1 = q) (r : Rn w l R n0 F q Ls (.int ((x.toUInt32 >>> (y &&& 31).toUInt32).toInt32) :: S) h cs ss) : Rn w l R n0 F pc Ls (.int y :: .int x :: S) h cs ss := by
  subst hq; exact Rn.step (fun T locs X t k => XS.iushr X.here K.x rfl (hb K.cd hd) rfl k) r
theorem Rn.ishr (K : Cx w Z a0 own bytes ml rt nm) {x y : Int32} (hd : decode bytes pc = .ok (.ishr, 1)) (hq : pc + 1 = q) (r : Rn w l R n0 F q Ls (.int (x >>> (y &&& 31)) :: S) h cs ss) : Rn w l R n0 F pc Ls (.int y :: .int x :: S) h cs ss := by
  subst hq; exact Rn.step (fun T locs X t k => XS.ishr X.here K.x rfl (hb K.cd hd) rfl k) r
theorem Rn.irem (K : Cx w Z a0 own bytes ml rt nm) {x y : Int32} (hd : decode bytes pc = .ok (.irem, 1)) (hy : y ≠ 0) (hq : pc + 1 = q) (r : Rn w l R n0 F q Ls (.int (x % y) :: S) h cs ss) : Rn w l R n0 F pc Ls (.int y :: .int x :: S) h cs ss := by
  subst hq; exact Rn.step (fun T locs X t k => iremM X K.x rfl (hb K.cd hd) rfl hy k) r
theorem Rn.land (K : Cx w Z a0 own bytes ml rt nm) {x y : Int64} (hd : decode bytes pc = .ok (.land, 1)) (hq : pc + 1 = q) (r : Rn w l R n0 F q Ls (.long (x &&& y) :: S) h cs ss) : Rn w l R n0 F pc Ls (.long y :: .long x :: S) h cs ss := by
  subst hq; exact Rn.step (fun T locs X t k => XS.land X.here K.x rfl (hb K.cd hd) rfl k) r
theorem Rn.lcmp (K : Cx w Z a0 own bytes ml rt nm) {x y : Int64} (hd : decode bytes pc = .ok (.lcmp, 1)) (hq : pc + 1 = q) (r : Rn w l R n0 F q Ls (.int (lcmpW x y) :: S) h cs ss) : Rn w l R n0 F pc Ls (.long y :: .long x :: S) h cs ss := by
  subst hq; exact Rn.step (fun T locs X t k => XS.lcmp X.here K.x rfl (hb K.cd hd) rfl k) r
theorem Rn.i2l (K : Cx w Z a0 own bytes ml rt nm) {x : Int32} (hd : decode bytes pc = .ok (.i2l, 1)) (hq : pc + 1 = q) (r : Rn w l R n0 F q Ls (.long x.toInt64 :: S) h cs ss) : Rn w l R n0 F pc Ls (.int x :: S) h cs ss := by
  subst hq; exact Rn.step (fun T locs X t k => XS.i2l X.here K.x rfl (hb K.cd hd) rfl k) r
theorem Rn.i2c (K : Cx w Z a0 own bytes ml rt nm) {x : Int32} (hd : decode bytes pc = .ok (.i2c, 1)) (hq : pc + 1 = q) (r : Rn w l R n0 F q Ls (.int x.toUInt32.toUInt16.toUInt32.toInt32 :: S) h cs ss) : Rn w l R n0 F pc Ls (.int x :: S) h cs ss := by
  subst hq; exact Rn.step (fun T locs X t k => XS.i2c X.here K.x rfl (hb K.cd hd) rfl k) r
theorem Rn.dup (K : Cx w Z a0 own bytes ml rt nm) {x : Value} (hd : decode bytes pc = .ok (.dup, 1)) (hc : x.category = 1) (hq : pc + 1 = q) (r : Rn w l R n0 F q Ls (x :: x :: S) h cs ss) : Rn w l R n0 F pc Ls (x :: S) h cs ss := by
  subst hq; exact Rn.step (fun T locs X t k => XS.dup X.here K.x rfl (hb K.cd hd) rfl hc k) r
theorem Rn.pop (K : Cx w Z a0 own bytes ml rt nm) {x : Value} (hd : decode bytes pc = .ok (.pop, 1)) (hc : x.category = 1) (hq : pc + 1 = q) (r : Rn w l R n0 F q Ls S h cs ss) : Rn w l R n0 F pc Ls (x :: S) h cs ss := by
  subst hq; exact Rn.step (fun T locs X t k => XS.pop X.here K.x rfl (hb K.cd hd) rfl hc k) r
theorem Rn.dup_x1 (K : Cx w Z a0 own bytes ml rt nm) {x y : Value} (hd : decode bytes pc = .ok (.dup_x1, 1)) (hc : x.category = 1) (hc' : y.category = 1) (hq : pc + 1 = q) (r : Rn w l R n0 F q Ls (x :: y :: x :: S) h cs ss) : Rn w l R n0 F pc Ls (x :: y :: S) h cs ss := by
  subst hq; exact Rn.step (fun T locs X t k => XS.dupX1 X.here K.x rfl (hb K.cd hd) rfl hc hc' k) r
theorem Rn.iinc (K : Cx w Z a0 own bytes ml rt nm) {k : Nat} {i : Int} {x : Int32} (v : Int32) (hd : decode bytes pc = .ok (.iinc k i, 3)) (hv : Int32.ofInt i = v) (hl : Ls[k]? = some (.val (.int x))) (hl' : storeLocals Ls k (.int (x + v)) = some Ls') (hq : pc + 3 = q) (r : Rn w l R n0 F q Ls' S h cs ss) : Rn w l R n0 F pc Ls S h cs ss := by
  subst hq hv; exact Rn.step (fun T locs X t k => XS.iinc X.here K.x rfl (hb K.cd hd) hl hl' k) r
theorem Rn.goto (K : Cx w Z a0 own bytes ml rt nm) {o : Int} (hd : decode bytes pc = .ok (.goto o, 3)) (ho : 0 ≤ (pc : Int) + o) (hq : ((pc : Int) + o).toNat = q) (r : Rn w l R n0 F q Ls S h cs ss) : Rn w l R n0 F pc Ls S h cs ss :=
  Rn.step (fun T locs X t k => XS.goto X.here K.x rfl rfl (hb K.cd hd) ho hq k) r
theorem Rn.ifY (K : Cx w Z a0 own bytes ml rt nm) {cd : ClassFile.Cond} {x : Int32} {o : Int} (hd : decode bytes pc = .ok (.ifCond cd o, 3)) (hc : ifCond.holds cd x = true) (ho : 0 ≤ (pc : Int) + o) (hq : ((pc : Int) + o).toNat = q) (r : Rn w l R n0 F q Ls S h cs ss) : Rn w l R n0 F pc Ls (.int x :: S) h cs ss :=
  Rn.step (fun T locs X t k => XS.ifYes X.here K.x rfl rfl (hb K.cd hd) rfl hc ho hq k) r
theorem Rn.ifN (K : Cx w Z a0 own bytes ml rt nm) {cd : ClassFile.Cond} {x : Int32} {o : Int} (hd : decode bytes pc = .ok (.ifCond cd o, 3)) (hc : ifCond.holds cd x = false) (hq : pc + 3 = q) (r : Rn w l R n0 F q Ls S h cs ss) : Rn w l R n0 F pc Ls (.int x :: S) h cs ss := by
  subst hq; exact Rn.step (fun T locs X t k => XS.ifNo X.here K.x rfl (hb K.cd hd) rfl hc k) r
theorem Rn.icY (K : Cx w Z a0 own bytes ml rt nm) {cd : ClassFile.Cond} {x y : Int32} {o : Int} (hd : decode bytes pc = .ok (.if_icmp cd o, 3)) (hc : if_icmp.holds cd x y = true) (ho : 0 ≤ (pc : Int) + o) (hq : ((pc : Int) + o).toNat = q) (r : Rn w l R n0 F q Ls S h cs ss) : Rn w l R n0 F pc Ls (.int y :: .int x :: S) h cs ss :=
  Rn.step (fun T locs X t k => XS.icmpYes X.here K.x rfl rfl (hb K.cd hd) rfl hc ho hq k) r
theorem Rn.icN (K : Cx w Z a0 own bytes ml rt nm) {cd : ClassFile.Cond} {x y : Int32} {o : Int} (hd : decode bytes pc = .ok (.if_icmp cd o, 3)) (hc : if_icmp.holds cd x y = false) (hq : pc + 3 = q) (r : Rn w l R n0 F q Ls S h cs ss) : Rn w l R n0 F pc Ls (.int y :: .int x :: S) h cs ss := by
  subst hq; exact Rn.step (fun T locs X t k => XS.icmpNo X.here K.x rfl (hb K.cd hd) rfl hc k) r
/-! the ends -/
theorem Rn.retN (K : Cx w Z a0 own bytes ml rt nm) {x : Int32} (t : FieldType) (ht : rt = some t) (ht' : t = .boolean ∨ t = .byte ∨ t = .char ∨ t = .short) (hd : decode bytes pc = .ok (.ireturn, 1)) (hc : cs ≤ R.cells) (hs : ss ≤ R.slots) (hQ : Q (some (.int (nar t x))) h) : Rn w l R n0 (FinQ w R n0 Q) pc Ls (.int x :: S) h cs ss := fun T locs X eT N => by
  obtain ⟨fs, hr, hrun, hended, hW, hsame⟩ := X.leave (v := some (.int (nar t x))) (fun h => by rw [K.ret, ht] at h; cases h) K.lk
  exact ⟨_, _, Jvm.RoadKit.retN X K.x (K.ret.trans ht) ht' (hb K.cd hd) hr, hrun, hended, _, _, rfl, ⟨N, by rw [← eT] at hQ; exact hQ⟩, ⟨_, rfl⟩, hW, hsame.mono hc hs⟩
theorem Rn.retI (K : Cx w Z a0 own bytes ml rt nm) {x : Int32} (ht : rt = some .int) (hd : decode bytes pc = .ok (.ireturn, 1)) (hc : cs ≤ R.cells) (hs : ss ≤ R.slots) (hQ : Q (some (.int x)) h) : Rn w l R n0 (FinQ w R n0 Q) pc Ls (.int x :: S) h cs ss := fun T locs X eT N => by
  obtain ⟨fs, hr, hrun, hended, hW, hsame⟩ := X.leave (v := some (.int x)) (fun h => by rw [K.ret, ht] at h; cases h) K.lk
  exact ⟨_, _, Jvm.RoadKit.retI X K.x (K.ret.trans ht) (hb K.cd hd) hr, hrun, hended, _, _, rfl, ⟨N, by rw [← eT] at hQ; exact hQ⟩, ⟨_, rfl⟩, hW, hsame.mono hc hs⟩
theorem Rn.retJ (K : Cx w Z a0 own bytes ml rt nm) {x : Int64} (ht : rt = some .long) (hd : decode bytes pc = .ok (.lreturn, 1)) (hc : cs ≤ R.cells) (hs : ss ≤ R.slots) (hQ : Q (some (.long x)) h) : Rn w l R n0 (FinQ w R n0 Q) pc Ls [.long x] h cs ss := fun T locs X eT N => by
  obtain ⟨fs, hr, hrun, hended, hW, hsame⟩ := X.leave (v := some (.long x)) (fun h => by rw [K.ret, ht] at h; cases h) K.lk
  exact ⟨_, _, X.lreturnOut K.x (K.ret.trans ht) (hb K.cd hd) hr, hrun, hended, _, _, rfl, ⟨N, by rw [← eT] at hQ; exact hQ⟩, ⟨_, rfl⟩, hW, hsame.mono hc hs⟩
theorem Rn.retA (K : Cx w Z a0 own bytes ml rt nm) {v : Value} (t : FieldType) (hv : v.isRef = true) (ht : rt = some t) (ht' : t.isReference = true) (hd : decode bytes pc = .ok (.areturn, 1)) (hc : cs ≤ R.cells) (hs : ss ≤ R.slots) (hQ : Q (some v) h) : Rn w l R n0 (FinQ w R n0 Q) pc Ls [v] h cs ss := fun T locs X eT N => by
  obtain ⟨fs, hr, hrun, hended, hW, hsame⟩ := X.leave (v := some v) (fun h => by rw [K.ret, ht] at h; cases h) K.lk
  exact ⟨_, _, X.areturnOut K.x hv (K.ret.trans ht) ht' (hb K.cd hd) hr, hrun, hended, _, _, rfl, ⟨N, by rw [← eT] at hQ; exact hQ⟩, ⟨_, rfl⟩, hW, hsame.mono hc hs⟩
theorem Rn.retV (K : Cx w Z a0 own bytes ml rt nm) (ht : rt = none) (hd : decode bytes pc = .ok (.return_, 1)) (hc : cs ≤ R.cells) (hs : ss ≤ R.slots) (hQ : Q none h) : Rn w l R n0 (FinQ w R n0 Q) pc Ls [] h cs ss := fun T locs X eT N => by
  obtain ⟨fs, hr, hrun, hended, hW, hsame⟩ := X.leave (v := none) (fun _ => rfl) K.lk
  exact ⟨_, _, X.returnOut K.x (K.ret.trans ht) (hb K.cd hd) hr, hrun, hended, _, _, rfl, ⟨N, by rw [← eT] at hQ; exact hQ⟩, ⟨_, rfl⟩, hW, hsame.mono hc hs⟩
/-! fields and statics -/
theorem Rn.getS (K : Cx w Z a0 own bytes ml rt nm) {i : Nat} {C n d : String} {v : Value} (hi : Jvm.Cond.fieldLink own i C n d ∈ tables_1) (FF : Sta Z h C n d v) (hd : decode bytes pc = .ok (.getstatic i, 3)) (hq : pc + 3 = q) (r : Rn w l R n0 F q Ls (v :: S) h cs ss) : Rn w l R n0 F pc Ls S h cs ss := fun T locs X eT N => by
  subst hq
  obtain ⟨T', X', e', st⟩ := getS2 X K.x K.z K.ow (host := "") (Or.inl (K.hw _ hi)) Via.refl eT FF (g := mkF w.m pc Ls S) rfl (hb K.cd hd)
  obtain ⟨s₂, o, h1, r'⟩ := r T' locs X' e' N
  exact ⟨s₂, o, st _ h1, r'⟩
theorem Rn.getF (K : Cx w Z a0 own bytes ml rt nm) {i : Nat} {C O n d : String} {a : Addr} {v : Value} (hi : Jvm.Cond.fieldLink own i C n d ∈ tables_1) (via : Via Z C O n d) (FF : Fld Z h a O n d v) (hd : decode bytes pc = .ok (.getfield i, 3)) (hq : pc + 3 = q) (r : Rn w l R n0 F q Ls (v :: S) h cs ss) : Rn w l R n0 F pc Ls (.ref a :: S) h cs ss := fun T locs X eT N => by
  subst hq
  obtain ⟨T', X', e', st⟩ := Jvm.RoadKit.getF X K.x K.z K.ow (host := "") (Or.inl (K.hw _ hi)) via eT FF (g := mkF w.m pc Ls (.ref a :: S)) rfl rfl (hb K.cd hd)
  obtain ⟨s₂, o, h1, r'⟩ := r T' locs X' e' N
  exact ⟨s₂, o, st _ h1, r'⟩
theorem Rn.putF (K : Cx w Z a0 own bytes ml rt nm) {i kk : Nat} {C0 O n d C : String} {ty : FieldType} {a : Addr} {v v' old : Value} (hi : Jvm.Cond.fieldLink own i C0 n d ∈ tables_1) (via : Via Z C0 O n d) (FF : Fld Z h a O n d old) (E : Exa Z h a C)
    (hl : Jvm.Cond.lays C O n d ∈ tables_1 ∨ (Jvm.Cond.laysFinal C O n d ∈ tables_1 ∧ own = O ∧ nm = "<init>")) (hin : Jvm.Cond.instantiable C kk ∈ tables_1) (hty : parseFieldDescriptor d = some ty) (hn : narrow ty v = v') (hf : fits ty v' = true) (hg : n0 ≤ a)
    (hd : decode bytes pc = .ok (.putfield i, 3)) (hq : pc + 3 = q) (r : ∀ h', Wr h h' a (Jvm.RoadKit.slotOf Z O n d) v' → Rn w l R n0 F q Ls S h' cs ss) : Rn w l R n0 F pc Ls (v :: .ref a :: S) h cs ss := fun T locs X eT N => by
  subst hq
  obtain ⟨T', h', X', e', W, st⟩ := putFN X K.x K.z K.ow (K.hw _ hi) via eT FF E (hl.elim (fun z => Or.inl (K.hw _ z)) (fun z => Or.inr ⟨K.hw _ z.1, z.2.1, K.nme.trans z.2.2⟩)) (K.hw _ hin) hty hn hf (g := mkF w.m pc Ls (v :: .ref a :: S)) rfl rfl (hb K.cd hd)
  obtain ⟨s₂, o, h1, r'⟩ := r h' W T' _ X' e' (Fr.snoc X' N hg)
  exact ⟨s₂, o, st _ h1, r'⟩
/-! making -/
theorem Rn.newO (K : Cx w Z a0 own bytes ml rt nm) {i k : Nat} {C : String} (hi : Jvm.Cond.classLink own i C ∈ tables_1) (hin : Jvm.Cond.instantiable C k ∈ tables_1) (hz : Jvm.Cond.initialized C ∈ tables_1) (hc : cs + 1 ≤ R.cells) (hs : ss + k ≤ R.slots) (hd : decode bytes pc = .ok (.new i, 3)) (hq : pc + 3 = q)
    (r : ∀ b h', b = h.size → Ext h h' → Exa Z h' b C → (∀ {O n d : String} {ty : FieldType}, Laid Z a0 C O n d → parseFieldDescriptor d = some ty → Fld Z h' b O n d (defaultValue ty)) → Rn w l R n0 F q Ls (.ref b :: S) h' (cs + 1) (ss + k)) : Rn w l R n0 F pc Ls S h cs ss := fun T locs X eT N => by
  subst hq
  obtain ⟨T', h', X', e', E, A, D, -, st⟩ := Jvm.RoadKit.newO X K.x K.z K.ow (K.hw _ hi) (K.hw _ hin) (K.hw _ hz) eT (g := mkF w.m pc Ls S) rfl (hb K.cd hd) hc hs
  obtain ⟨s₂, o, h1, r'⟩ := r _ h' rfl E A D T' _ X' e' N
  exact ⟨s₂, o, st _ h1, r'⟩
theorem Rn.newP (K : Cx w Z a0 own bytes ml rt nm) {aty : ArrayType} {x : Int32} {cap : Nat} (hi : Jvm.Cond.arrayClass (newarray.typeOf aty) ∈ tables_1) (hn : ¬ x < 0) (hcap : x.toNatClampNeg ≤ cap) (hb8 : cap * 8 ≤ 536870912) (hc : cs + 1 ≤ R.cells) (hs : ss + cap ≤ R.slots) {ad : String} (had : "[" ++ (newarray.typeOf aty).toString = ad) (hd : decode bytes pc = .ok (.newarray aty, 2)) (hq : pc + 2 = q)
    (r : ∀ b h' k, b = h.size → Ext h h' → Arv Z h' b k (newarray.typeOf aty) x [] (defaultValue (newarray.typeOf aty)) → Exa Z h' b ad → Rn w l R n0 F q Ls (.ref b :: S) h' (cs + 1) (ss + cap)) : Rn w l R n0 F pc Ls (.int x :: S) h cs ss := fun T locs X eT N => by
  subst hq
  obtain ⟨T', h', k, X', e', E, A, EA, st⟩ := newPE X K.x K.z (K.hw _ hi) eT (g := mkF w.m pc Ls (.int x :: S)) rfl (hb K.cd hd) rfl hn hcap hb8 hc hs had
  obtain ⟨s₂, o, h1, r'⟩ := r _ h' k rfl E (Arv.new A hn) EA T' _ X' e' N
  exact ⟨s₂, o, st _ h1, r'⟩
/-! calls -/
theorem nfs (K : Cx w Z a0 own bytes ml rt nm) {C : String} {y : MethodName} (i : Jvm.Cond.selects C y y ∈ tables_1) : NotFace w.s y := notFace_of_selects (args := #[]) (mvT K.z (K.hw _ i))
theorem Rn.virt (K : Cx w Z a0 own bytes ml rt nm) {index W : Nat} {y z : MethodName} {C : String} {b : Addr} {argsL rest : List Value} {bz : ByteArray} {mz : Nat} {rz : Option FieldType} {rm : Room} {Q' : Option Value → Heap → Prop}
    (i1 : Jvm.Cond.methodLink own index y ∈ tables_1) (i2 : Jvm.Cond.declares y ∈ tables_1) (nf : NotFace w.s y) (i3 : Jvm.Cond.selects C y z ∈ tables_1) (i4 : Jvm.Cond.instanceMethod z ∈ tables_1) (i5 : Jvm.Cond.code z bz mz rz ∈ tables_1) (i6 : Jvm.Cond.initialized z.cls ∈ tables_1)
    (hy : y.cls ≠ "java/lang/invoke/MethodHandle" ∧ y.cls ≠ "java/lang/invoke/VarHandle") (M : Met l Z z bz mz rz rm n0 [] (.ref b :: argsL).toArray h Q') (E : Exa Z h b C) (hf : rm.frames + 1 ≤ R.frames) (hlo : W + (mz + 11) + rm.locals ≤ R.locals)
    (hsz : Ls.size = ml) (hlen : ∀ sig, parseMethodDescriptor y.desc = some sig → argsL.length = sig.parameters.length) (hS : S = argsL.reverse ++ .ref b :: rest) (hW : (rest.map fun v => v.category).sum ≤ W)
    (hd : decode bytes pc = .ok (.invokevirtual index, 3)) (hq : pc + 3 = q) (hc : cs + rm.cells ≤ R.cells) (hs : ss + rm.slots ≤ R.slots)
    (r : ∀ v h', Q' v h' → Rn w l R n0 F q Ls (v.toList ++ rest) h' (cs + rm.cells) (ss + rm.slots)) : Rn w l R n0 F pc Ls S h cs ss := fun T locs X eT N => by
  subst hq hS
  obtain ⟨cq, kq, qa, qb, qc⟩ := isOf K.z eT E
  obtain ⟨v, _, ⟨T', L', k', n'⟩, -, X', ⟨Lc, hQ, l', y', z'⟩, st⟩ := X.virtualBack K.x (y := y) (z := z) K.ow (mvT K.z (K.hw _ i1)) (mvT K.z (K.hw _ i2)) nf (mvT K.z (K.hw _ i3)) (mvT K.z (K.hw _ i4)) hy (backOf (Q := fun v h L => Fr n0 L ∧ Q' v h) (W := W) M K.z (K.hw _ i5) (K.hw _ i6) hf hlo) qa qc (g := mkF w.m pc Ls (argsL.reverse ++ .ref b :: rest)) rfl (hsz.trans K.mx.symm) (Steps.refl _) (argsL := argsL) (rest := rest) hlen rfl (by show 2 * 0 + _ ≤ _; rw [Nat.mul_zero, Nat.zero_add]; exact hW) (hb K.cd hd) (fun _ _ => ⟨rfl, eT, hc, hs⟩)
  dsimp only [Pt.U, Pt.locs, Pt.cells, Pt.slots] at X' l' y' z' st hQ
  subst l' y' z'
  obtain ⟨s₂, o, h1, r'⟩ := r v T'.heap hQ.2 T' _ X' rfl (Fr.app N hQ.1)
  exact ⟨s₂, o, st.trans h1, r'⟩
theorem Rn.stat (K : Cx w Z a0 own bytes ml rt nm) {index W : Nat} {y : MethodName} {argsL rest : List Value} {bz : ByteArray} {mz : Nat} {rz : Option FieldType} {rm : Room} {Q' : Option Value → Heap → Prop}
    (i1 : Jvm.Cond.methodLink own index y ∈ tables_1) (i2 : Jvm.Cond.static y ∈ tables_1) (i5 : Jvm.Cond.code y bz mz rz ∈ tables_1) (i6 : Jvm.Cond.initialized y.cls ∈ tables_1)
    (hy : y.cls ≠ "java/lang/invoke/MethodHandle" ∧ y.cls ≠ "java/lang/invoke/VarHandle") (M : Met l Z y bz mz rz rm n0 [] argsL.toArray h Q') (hf : rm.frames + 1 ≤ R.frames) (hlo : W + (mz + 11) + rm.locals ≤ R.locals)
    (hsz : Ls.size = ml) (hlen : ∀ sig, parseMethodDescriptor y.desc = some sig → argsL.length = sig.parameters.length) (hS : S = argsL.reverse ++ rest) (hW : (rest.map fun v => v.category).sum ≤ W)
    (hd : decode bytes pc = .ok (.invokestatic index, 3)) (hq : pc + 3 = q) (hc : cs + rm.cells ≤ R.cells) (hs : ss + rm.slots ≤ R.slots)
    (r : ∀ v h', Q' v h' → Rn w l R n0 F q Ls (v.toList ++ rest) h' (cs + rm.cells) (ss + rm.slots)) : Rn w l R n0 F pc Ls S h cs ss := fun T locs X eT N => by
  subst hq hS
  obtain ⟨v, _, ⟨T', L', k', n'⟩, -, X', ⟨Lc, hQ, l', y', z'⟩, st⟩ := Jvm.LawKit.callS X K.x (y := y) K.ow (mvT K.z (K.hw _ i1)) (mvT K.z (K.hw _ i2)) (mvT K.z (K.hw _ i6)) (mvT K.z (K.hw _ i5)) hy (backOf (Q := fun v h L => Fr n0 L ∧ Q' v h) (W := W) M K.z (K.hw _ i5) (K.hw _ i6) hf hlo) (g := mkF w.m pc Ls (argsL.reverse ++ rest)) rfl (hsz.trans K.mx.symm) (argsL := argsL) (rest := rest) hlen rfl (by show 2 * 0 + _ ≤ _; rw [Nat.mul_zero, Nat.zero_add]; exact hW) (hb K.cd hd) (fun _ _ => ⟨rfl, eT, hc, hs⟩)
  dsimp only [Pt.U, Pt.locs, Pt.cells, Pt.slots] at X' l' y' z' st hQ
  subst l' y' z'
  obtain ⟨s₂, o, h1, r'⟩ := r v T'.heap hQ.2 T' _ X' rfl (Fr.app N hQ.1)
  exact ⟨s₂, o, st _ h1, r'⟩
theorem Rn.spec (K : Cx w Z a0 own bytes ml rt nm) {index W : Nat} {y : MethodName} {b : Addr} {argsL rest : List Value} {bz : ByteArray} {mz : Nat} {rm : Room} {Q' : Option Value → Heap → Prop}
    (hn : y.name = "<init>") (i1 : Jvm.Cond.methodLink own index y ∈ tables_1) (i4 : Jvm.Cond.instanceMethod y ∈ tables_1) (i5 : Jvm.Cond.code y bz mz none ∈ tables_1) (i6 : Jvm.Cond.initialized y.cls ∈ tables_1)
    (hy : y.cls ≠ "java/lang/invoke/MethodHandle" ∧ y.cls ≠ "java/lang/invoke/VarHandle") (M : Met l Z y bz mz none rm n0 [] (.ref b :: argsL).toArray h Q') (hf : rm.frames + 1 ≤ R.frames) (hlo : W + (mz + 11) + rm.locals ≤ R.locals)
    (hsz : Ls.size = ml) (hlen : ∀ sig, parseMethodDescriptor y.desc = some sig → argsL.length = sig.parameters.length) (hS : S = argsL.reverse ++ .ref b :: rest) (hW : (rest.map fun v => v.category).sum ≤ W)
    (hd : decode bytes pc = .ok (.invokespecial index, 3)) (hq : pc + 3 = q) (hc : cs + rm.cells ≤ R.cells) (hs : ss + rm.slots ≤ R.slots)
    (r : ∀ v h', Q' v h' → Rn w l R n0 F q Ls (v.toList ++ rest) h' (cs + rm.cells) (ss + rm.slots)) : Rn w l R n0 F pc Ls S h cs ss := fun T locs X eT N => by
  subst hq hS
  obtain ⟨v, _, ⟨T', L', k', n'⟩, -, X', ⟨Lc, hQ, l', y', z'⟩, st⟩ := X.specialBack K.x (y := y) hn K.ow (mvT K.z (K.hw _ i1)) (mvT K.z (K.hw _ i4)) (mvT K.z (K.hw _ i5)) hy (backOf (Q := fun v h L => Fr n0 L ∧ Q' v h) (W := W) M K.z (K.hw _ i5) (K.hw _ i6) hf hlo) (g := mkF w.m pc Ls (argsL.reverse ++ .ref b :: rest)) rfl (hsz.trans K.mx.symm) (Steps.refl _) (a := b) (argsL := argsL) (rest := rest) hlen rfl (by show 2 * 0 + _ ≤ _; rw [Nat.mul_zero, Nat.zero_add]; exact hW) (hb K.cd hd) (fun _ _ => ⟨rfl, eT, hc, hs⟩)
  dsimp only [Pt.U, Pt.locs, Pt.cells, Pt.slots] at X' l' y' z' st hQ
  subst l' y' z'
  obtain ⟨s₂, o, h1, r'⟩ := r v T'.heap hQ.2 T' _ X' rfl (Fr.app N hQ.1)
  exact ⟨s₂, o, st.trans h1, r'⟩
theorem Rn.initO (K : Cx w Z a0 own bytes ml rt nm) {index W : Nat} {b : Addr} (i1 : Jvm.Cond.methodLink own index Lib.objectInit ∈ tables_1) (i4 : Jvm.Cond.instanceMethod Lib.objectInit ∈ tables_1) (i5 : Jvm.Cond.code Lib.objectInit ⟨#[0xb1]⟩ 1 none ∈ tables_1)
    (hf : 1 ≤ R.frames) (hlo : W + 12 ≤ R.locals) (hsz : Ls.size = ml) (hW : (S.map fun v => v.category).sum ≤ W) (hd : decode bytes pc = .ok (.invokespecial index, 3)) (hq : pc + 3 = q) (r : Rn w l R n0 F q Ls S h cs ss) : Rn w l R n0 F pc Ls (.ref b :: S) h cs ss := fun T locs X eT N => by
  subst hq
  obtain ⟨T', X', e', st⟩ := Jvm.RoadKit.initO X K.x K.z K.ow (K.hw _ i1) (K.hw _ i4) (K.hw _ i5) eT (g := mkF w.m pc Ls (.ref b :: S)) rfl (hsz.trans K.mx.symm) rfl (hb K.cd hd) hf (W := W) (by show 2 * 0 + _ ≤ _; rw [Nat.mul_zero, Nat.zero_add]; exact hW) hlo
  obtain ⟨s₂, o, h1, r'⟩ := r T' locs X' e' N
  exact ⟨s₂, o, st _ h1, r'⟩
end OwnKit
section OwnKit2
variable {w : Wk} {l : Launch} {R : Room} {n0 : Nat} {F : Outcome → State → Prop} {Q : Option Value → Heap → Prop} {pc q : Nat} {Ls Ls' : Array Slot} {S : List Value} {h : Heap} {cs ss : Nat} {Z : State} {a0 : Array Value} {own : String} {bytes : ByteArray} {ml : Nat} {rt : Option FieldType} {nm : String}
theorem Rn.stepH {S' : List Value} (st : ∀ (T : State) (locs : List Loc), Stand w.p l w.e R w.s w.m w.a w.b w.t w.c T locs cs ss → T.heap = h → ∀ t, Steps w.p.tables w.e w.b (T.setTop (mkF w.m q Ls' S')) t → Steps w.p.tables w.e w.b (T.setTop (mkF w.m pc Ls S)) t)
    (k : Rn w l R n0 F q Ls' S' h cs ss) : Rn w l R n0 F pc Ls S h cs ss := fun T locs X eT N => by
  obtain ⟨s₂, o, h1, r⟩ := k T locs X eT N
  exact ⟨s₂, o, st T locs X eT _ h1, r⟩
/-! arrays, by Arv -/
section Arrays
variable {a : Addr} {k : ClassId} {z j : Int32} {vs : List Value} {d v : Value} {ty : FieldType}
theorem Rn.arraylength (K : Cx w Z a0 own bytes ml rt nm) (A : Arv Z h a k ty z vs d) (hd : decode bytes pc = .ok (.arraylength, 1)) (hq : pc + 1 = q) (r : Rn w l R n0 F q Ls (.int z :: S) h cs ss) : Rn w l R n0 F pc Ls (.ref a :: S) h cs ss := by
  subst hq
  obtain ⟨c, A1, A2, A3, A4, A5, A6⟩ := A
  refine Rn.stepH (fun T locs X eT t kt => ?_) r
  refine X.arraylength K.x (by rw [eT]; exact A1.1) (State.isArrayOf_alike K.z.alike A1.2.1) (g := mkF w.m pc Ls (.ref a :: S)) rfl rfl (hb K.cd hd) _ ?_
  rw [len_of A3 A4]
  exact kt
theorem Rn.laload (K : Cx w Z a0 own bytes ml rt nm) (A : Arv Z h a k .long z vs d) (hj : ¬ j < 0 ∧ j < z) (hv : vs.getD j.toNatClampNeg d = v) (hd : decode bytes pc = .ok (.laload, 1)) (hq : pc + 1 = q) (r : Rn w l R n0 F q Ls (v :: S) h cs ss) : Rn w l R n0 F pc Ls (.int j :: .ref a :: S) h cs ss := by
  subst hq
  obtain ⟨c, A1, A2, A3, A4, A5, A6⟩ := A
  exact Rn.stepH (fun T locs X eT t kt => X.laload K.x (by rw [eT]; exact A1.1) (State.isArrayOf_alike K.z.alike A1.2.1) A1.2.2 (inb_of A3 hj) (A5.at (inb_of A3 hj) hv) (g := mkF w.m pc Ls (.int j :: .ref a :: S)) rfl rfl (hb K.cd hd) _ kt) r
theorem Rn.caload (K : Cx w Z a0 own bytes ml rt nm) (A : Arv Z h a k .char z vs d) (hj : ¬ j < 0 ∧ j < z) (hv : vs.getD j.toNatClampNeg d = v) (hd : decode bytes pc = .ok (.caload, 1)) (hq : pc + 1 = q) (r : Rn w l R n0 F q Ls (v :: S) h cs ss) : Rn w l R n0 F pc Ls (.int j :: .ref a :: S) h cs ss := by
  subst hq
  obtain ⟨c, A1, A2, A3, A4, A5, A6⟩ := A
  exact Rn.stepH (fun T locs X eT t kt => X.caload K.x (by rw [eT]; exact A1.1) (State.isArrayOf_alike K.z.alike A1.2.1) A1.2.2 (inb_of A3 hj) (A5.at (inb_of A3 hj) hv) (g := mkF w.m pc Ls (.int j :: .ref a :: S)) rfl rfl (hb K.cd hd) _ kt) r
theorem Rn.baloadB (K : Cx w Z a0 own bytes ml rt nm) (A : Arv Z h a k .byte z vs d) (hj : ¬ j < 0 ∧ j < z) (hv : vs.getD j.toNatClampNeg d = v) (hd : decode bytes pc = .ok (.baload, 1)) (hq : pc + 1 = q) (r : Rn w l R n0 F q Ls (v :: S) h cs ss) : Rn w l R n0 F pc Ls (.int j :: .ref a :: S) h cs ss := by
  subst hq
  obtain ⟨c, A1, A2, A3, A4, A5, A6⟩ := A
  exact Rn.stepH (fun T locs X eT t kt => X.baloadBytes K.x (by rw [eT]; exact A1.1) (State.isArrayOf_alike K.z.alike A1.2.1) A1.2.2 (inb_of A3 hj) (A5.at (inb_of A3 hj) hv) (g := mkF w.m pc Ls (.int j :: .ref a :: S)) rfl rfl (hb K.cd hd) _ kt) r
theorem Rn.aaload (K : Cx w Z a0 own bytes ml rt nm) (A : Arv Z h a k ty z vs d) (hty : ty.isReference = true) (hj : ¬ j < 0 ∧ j < z) (hv : vs.getD j.toNatClampNeg d = v) (hd : decode bytes pc = .ok (.aaload, 1)) (hq : pc + 1 = q) (r : Rn w l R n0 F q Ls (v :: S) h cs ss) : Rn w l R n0 F pc Ls (.int j :: .ref a :: S) h cs ss := by
  subst hq
  obtain ⟨c, A1, A2, A3, A4, A5, A6⟩ := A
  exact Rn.stepH (fun T locs X eT t kt => X.aaload K.x (by rw [eT]; exact A1.1) (State.isArrayOf_alike K.z.alike A1.2.1) hty A1.2.2 (inb_of A3 hj) (A5.at (inb_of A3 hj) hv) (g := mkF w.m pc Ls (.int j :: .ref a :: S)) rfl rfl (hb K.cd hd) _ kt) r
theorem Rn.lastore (K : Cx w Z a0 own bytes ml rt nm) (A : Arv Z h a k .long z vs d) {x : Int64} (hj : ¬ j < 0 ∧ j < z) {i : Nat} (hi : j.toNatClampNeg = i) (hi' : i < vs.length) (hg : n0 ≤ a) (hd : decode bytes pc = .ok (.lastore, 1)) (hq : pc + 1 = q)
    (r : ∀ h', Wr h h' a i (.long x) → Arv Z h' a k .long z (vs.set i (.long x)) d → Rn w l R n0 F q Ls S h' cs ss) : Rn w l R n0 F pc Ls (.long x :: .int j :: .ref a :: S) h cs ss := fun T locs X eT N => by
  subst hq hi
  obtain ⟨c, A1, A2, A3, A4, A5, A6⟩ := A
  obtain ⟨T', h', X', e', W, st⟩ := stJ X K.x K.z eT A1 (inb_of A3 hj) (g := mkF w.m pc Ls (.long x :: .int j :: .ref a :: S)) rfl rfl (hb K.cd hd)
  obtain ⟨s₂, o, h1, r'⟩ := r h' W (Arv.set A1 A2 A3 A4 A5 A6 rfl W _ rfl hi') T' _ X' e' (Fr.snoc X' N hg)
  exact ⟨s₂, o, st _ h1, r'⟩
theorem Rn.castore (K : Cx w Z a0 own bytes ml rt nm) (A : Arv Z h a k .char z vs d) {x : Int32} (hj : ¬ j < 0 ∧ j < z) {i : Nat} (hi : j.toNatClampNeg = i) (hi' : i < vs.length) (hg : n0 ≤ a) (hd : decode bytes pc = .ok (.castore, 1)) (hq : pc + 1 = q)
    (r : ∀ h', Wr h h' a i (.int (nar .char x)) → Arv Z h' a k .char z (vs.set i (.int (nar .char x))) d → Rn w l R n0 F q Ls S h' cs ss) : Rn w l R n0 F pc Ls (.int x :: .int j :: .ref a :: S) h cs ss := fun T locs X eT N => by
  subst hq hi
  obtain ⟨c, A1, A2, A3, A4, A5, A6⟩ := A
  obtain ⟨T', h', X', e', W, st⟩ := Jvm.RoadKit.stC X K.x K.z eT A1 (inb_of A3 hj) (g := mkF w.m pc Ls (.int x :: .int j :: .ref a :: S)) rfl rfl (hb K.cd hd)
  obtain ⟨s₂, o, h1, r'⟩ := r h' W (Arv.set A1 A2 A3 A4 A5 A6 (fits_nar_char _) W _ rfl hi') T' _ X' e' (Fr.snoc X' N hg)
  exact ⟨s₂, o, st _ h1, r'⟩
theorem Rn.aastore (K : Cx w Z a0 own bytes ml rt nm) (A : Arv Z h a k ty z vs d) (hty : ty.isReference = true) (FF : ∀ c : Cell, Arr Z h a c ty → c.cls = k → Sto Z h a v) (hfit : fits ty v = true) (hj : ¬ j < 0 ∧ j < z) {i : Nat} (hi : j.toNatClampNeg = i) (hi' : i < vs.length) (hg : n0 ≤ a) (hd : decode bytes pc = .ok (.aastore, 1)) (hq : pc + 1 = q)
    (r : ∀ h', Wr h h' a i v → Arv Z h' a k ty z (vs.set i v) d → Rn w l R n0 F q Ls S h' cs ss) : Rn w l R n0 F pc Ls (v :: .int j :: .ref a :: S) h cs ss := fun T locs X eT N => by
  subst hq hi
  obtain ⟨c, A1, A2, A3, A4, A5, A6⟩ := A
  obtain ⟨T', h', X', e', W, st⟩ := Jvm.RoadKit.stR X K.x K.z eT A1 (inb_of A3 hj) hty (FF c A1 A2) (g := mkF w.m pc Ls (v :: .int j :: .ref a :: S)) rfl rfl (hb K.cd hd)
  obtain ⟨s₂, o, h1, r'⟩ := r h' W (Arv.set A1 A2 A3 A4 A5 A6 hfit W _ rfl hi') T' _ X' e' (Fr.snoc X' N hg)
  exact ⟨s₂, o, st _ h1, r'⟩
end Arrays
/-! switches -/
/-! more calls -/
end OwnKit2
section OwnKit3
variable {w : Wk} {l : Launch} {R : Room} {n0 : Nat} {F : Outcome → State → Prop} {Q : Option Value → Heap → Prop} {pc q : Nat} {Ls Ls' : Array Slot} {S : List Value} {h : Heap} {cs ss : Nat} {Z : State} {a0 : Array Value} {own : String} {bytes : ByteArray} {ml : Nat} {rt : Option FieldType} {nm : String}
/-- a callee that a law of the library pays -/
def Pay (w : Wk) (l : Launch) (R : Room) (y : MethodName) (len W : Nat) (as' : Array Value) (h : Heap) (kc ks : Nat) (Qf : Option Value → Heap → List Loc → Prop) : Prop :=
  Back l R w.p w.e w.b w.s w.a y len W (fun P a => a = as' ∧ P.U.heap = h ∧ P.cells + kc ≤ R.cells ∧ P.slots + ks ≤ R.slots) (fun P _ v B => ∃ L, Qf v B.U.heap L ∧ B.locs = P.locs ++ L ∧ B.cells = P.cells + kc ∧ B.slots = P.slots + ks)
/-! arrays of arrays, clone, constants of floats, instanceof -/
theorem Rn.newRA (K : Cx w Z a0 own bytes ml rt nm) {i cap : Nat} {C : String} {ty : FieldType} {x : Int32} (hC : (FieldType.array ty).toString = C) (hi : Jvm.Cond.classLink own i C ∈ tables_1) (ho : Jvm.Cond.arrayOver (.array ty) ∈ tables_1) (hn : ¬ x < 0) (hcap : x.toNatClampNeg ≤ cap) (hb8 : cap * 8 ≤ 536870912) (hc : cs + 1 ≤ R.cells) (hs : ss + cap ≤ R.slots) {ad : String} (had : "[" ++ C = ad) (hd : decode bytes pc = .ok (.anewarray i, 3)) (hq : pc + 3 = q)
    (r : ∀ b h' k, b = h.size → Ext h h' → Arv Z h' b k (.array ty) x [] .null → Exa Z h' b ad → OvrA Z k ty C → Rn w l R n0 F q Ls (.ref b :: S) h' (cs + 1) (ss + cap)) : Rn w l R n0 F pc Ls (.int x :: S) h cs ss := fun T locs X eT N => by
  subst hq
  obtain ⟨T', h', k, X', e', E, A, EA, O, st⟩ := Jvm.RoadKit.newRA X K.x K.z K.ow hC (K.hw _ hi) (K.hw _ ho) eT (g := mkF w.m pc Ls (.int x :: S)) rfl (hb K.cd hd) rfl hn hcap hb8 hc hs had
  obtain ⟨s₂, o, h1, r'⟩ := r _ h' k rfl E (Arv.new A hn) EA O T' _ X' e' N
  exact ⟨s₂, o, st _ h1, r'⟩
end OwnKit3
section OwnKit4
variable {w : Wk} {l : Launch} {R : Room} {n0 : Nat} {F : Outcome → State → Prop} {Q : Option Value → Heap → Prop} {pc q : Nat} {Ls Ls' : Array Slot} {S : List Value} {h : Heap} {cs ss : Nat} {Z : State} {a0 : Array Value} {own : String} {bytes : ByteArray} {ml : Nat} {rt : Option FieldType} {nm : String} {a : Addr} {k : ClassId} {z j : Int32} {vs : List Value} {d v : Value}
theorem Rn.i2b (K : Cx w Z a0 own bytes ml rt nm) {x : Int32} (hd : decode bytes pc = .ok (.i2b, 1)) (hq : pc + 1 = q) (r : Rn w l R n0 F q Ls (.int x.toInt8.toInt32 :: S) h cs ss) : Rn w l R n0 F pc Ls (.int x :: S) h cs ss := by
  subst hq; exact Rn.step (fun T locs X t k => XS.i2b X.here K.x rfl (hb K.cd hd) rfl k) r
theorem Rn.bastoreB (K : Cx w Z a0 own bytes ml rt nm) (A : Arv Z h a k .byte z vs d) {x : Int32} (hj : ¬ j < 0 ∧ j < z) {i : Nat} (hi : j.toNatClampNeg = i) (hi' : i < vs.length) (hg : n0 ≤ a) (hd : decode bytes pc = .ok (.bastore, 1)) (hq : pc + 1 = q)
    (r : ∀ h', Wr h h' a i (.int (nar .byte x)) → Arv Z h' a k .byte z (vs.set i (.int (nar .byte x))) d → Rn w l R n0 F q Ls S h' cs ss) : Rn w l R n0 F pc Ls (.int x :: .int j :: .ref a :: S) h cs ss := fun T locs X eT N => by
  subst hq hi
  obtain ⟨c, A1, A2, A3, A4, A5, A6⟩ := A
  obtain ⟨T', h', X', e', W, st⟩ := Jvm.RoadKit.stB X K.x K.z eT A1 (inb_of A3 hj) (g := mkF w.m pc Ls (.int x :: .int j :: .ref a :: S)) rfl rfl (hb K.cd hd)
  obtain ⟨s₂, o, h1, r'⟩ := r h' W (Arv.set A1 A2 A3 A4 A5 A6 (fits_nar_byte _) W _ rfl hi') T' _ X' e' (Fr.snoc X' N hg)
  exact ⟨s₂, o, st _ h1, r'⟩
end OwnKit4
section OwnKit5
variable {w : Wk} {l : Launch} {R : Room} {n0 : Nat} {F : Outcome → State → Prop} {Q : Option Value → Heap → Prop} {pc q : Nat} {Ls Ls' : Array Slot} {S : List Value} {h : Heap} {cs ss : Nat} {Z : State} {a0 : Array Value} {own : String} {bytes : ByteArray} {ml : Nat} {rt : Option FieldType} {nm : String}
/-- what stands in the target after a copy -/
def cpd (vs ws : List Value) (o p n z : Nat) (d : Value) : List Value := (List.range z).map fun j => if p ≤ j ∧ j < p + n then vs.getD (o + (j - p)) d else ws.getD j d
/-- System.arraycopy between two arrays of one primitive kind -/
theorem Rn.acopy (K : Cx w Z a0 own bytes ml rt nm) {i W o p n : Nat} {jo jp jn za zb : Int32} {a b : Addr} {ka kb : ClassId} {ty : FieldType} {vs ws : List Value} {d : Value} (hty : ((Jvm.refKind ty != Jvm.refKind ty) || (!Jvm.refKind ty && ty != ty)) = false) (hpr : ty.isReference = false)
    (w1 : Jvm.Cond.methodLink own i ⟨"java/lang/System", "arraycopy", "(Ljava/lang/Object;ILjava/lang/Object;II)V"⟩ ∈ tables_1) (w2 : Jvm.Cond.native ⟨"java/lang/System", "arraycopy", "(Ljava/lang/Object;ILjava/lang/Object;II)V"⟩ ∈ tables_1) (w3 : Jvm.Cond.static ⟨"java/lang/System", "arraycopy", "(Ljava/lang/Object;ILjava/lang/Object;II)V"⟩ ∈ tables_1) (w4 : Jvm.Cond.initialized "java/lang/System" ∈ tables_1)
    (A : Arv Z h a ka ty za vs d) (B : Arv Z h b kb ty zb ws d) (ho : jo = Int32.ofNat o) (hp : jp = Int32.ofNat p) (hn : jn = Int32.ofNat n) (h4 : o + n ≤ za.toNatClampNeg) {z : Nat} (hz : zb.toNatClampNeg = z) (h5 : p + n ≤ z) (hg : n0 ≤ b)
    (hsz : Ls.size = ml) (hW : (S.map fun v => v.category).sum ≤ W) (hf : 1 ≤ R.frames) (hlo : W + 40 ≤ R.locals) (hd : decode bytes pc = .ok (.invokestatic i, 3)) (hq : pc + 3 = q)
    (r : ∀ h', Keep h h' [b] → Arv Z h' b kb ty zb (cpd vs ws o p n z d) d → Rn w l R n0 F q Ls S h' cs ss) : Rn w l R n0 F pc Ls (.int jn :: .int jp :: .ref b :: .int jo :: .ref a :: S) h cs ss := fun T locs X eT N => by
  subst hq hz
  obtain ⟨ca, A1, A2, A3, A4, A5, A6⟩ := A
  obtain ⟨cb, B1, B2, B3, B4, B5, B6⟩ := B
  have lz : ∀ z : Int32, z.toNatClampNeg < 2 ^ 31 := fun z => by have := Int32.toInt_lt z; have e : z.toNatClampNeg = z.toInt.toNat := rfl; omega
  have al : Z.vm.Alike T.vm := K.z.alike.trans X.warmed.alike
  have XA : Jvm.Free.XT.Arr ty a ca T := ⟨by rw [eT]; exact A1.1, State.isArrayOf_alike al A1.2.1, A1.2.2, by rw [A3]; exact lz za⟩
  have XB : Jvm.Free.XT.Arr ty b cb T := ⟨by rw [eT]; exact B1.1, State.isArrayOf_alike al B1.2.1, B1.2.2, by rw [B3]; exact lz zb⟩
  have gA : ∀ i, i < n → ca.slots.getD (o + i) .null = vs.getD (o + i) d := fun i hi => by
    have e := A5 (o + i) (by rw [A3]; omega)
    rw [Array.getD_eq_getD_getElem?, e]; rfl
  obtain ⟨T', B', X', ⟨P1, P2, P3⟩, b1, b2, b3, b4, st⟩ := X.acopy K.x (a := a) (b := b) (o := o) (q := p) (n := n) K.ow (fun d hd => by
      simp only [Jvm.Free.XT.acW, List.mem_cons, List.not_mem_nil, or_false] at hd
      rcases hd with rfl | rfl | rfl | rfl
      · exact mvT K.z (K.hw _ w1)
      · exact mvT K.z (K.hw _ w2)
      · exact mvT K.z (K.hw _ w3)
      · exact mvT K.z (K.hw _ w4)) XA XB hty ho hp hn (by rw [A3]; exact h4) (by rw [B3]; exact h5)
    (fun i hi => ⟨by rw [gA i hi]; exact A6 (o + i) (by rw [A3]; omega), fun q => by rw [hpr] at q; cases q⟩) (g := mkF w.m pc Ls (.int jn :: .int jp :: .ref b :: .int jo :: .ref a :: S)) rfl (hsz.trans K.mx.symm) rfl (hb K.cd hd) (W := W) (by show 2 * 0 + _ ≤ _; rw [Nat.mul_zero, Nat.zero_add]; exact hW) hf hlo
  have hb' : T'.heap[b]? = some B' := P1
  have KP : Keep h T'.heap [b] := by
    rw [eT] at P2 P3
    refine ⟨Nat.le_of_eq P3.symm, fun x c hx hn => by rw [P2 x (fun e => hn (by rw [e]; exact List.mem_singleton.mpr rfl))]; exact hx, fun x c hx => ?_⟩
    by_cases e : x = b
    · subst e
      cases B1.1.symm.trans hx
      exact ⟨B', hb', b1, b2, b3⟩
    · exact ⟨c, by rw [P2 x e]; exact hx, rfl, rfl, rfl⟩
  have GD : ∀ j, j < zb.toNatClampNeg → (cpd vs ws o p n zb.toNatClampNeg d).getD j d = if p ≤ j ∧ j < p + n then vs.getD (o + (j - p)) d else ws.getD j d := fun j hj => by
    unfold cpd
    rw [List.getD_eq_getElem?_getD, List.getElem?_map, List.getElem?_range hj]; rfl
  have AR : Arv Z T'.heap b kb ty zb (cpd vs ws o p n zb.toNatClampNeg d) d := by
    refine ⟨B', ⟨hb', ?_, by rw [b2]; exact B1.2.2⟩, b1.trans B2, b3.trans B3, B4, fun j hj => ?_, fun j hj => ?_⟩
    · obtain ⟨q1, kk, q2, q3⟩ := B1.2.1
      exact ⟨fun x => by rw [b2]; exact q1 x, kk, by rw [b1]; exact q2, q3⟩
    · rw [b3, B3] at hj
      rw [b4 j, GD j hj]
      by_cases u : p ≤ j ∧ j < p + n
      · rw [if_pos u, if_pos u, gA (j - p) (by omega)]
      · rw [if_neg u, if_neg u]; exact B5 j (by rw [B3]; exact hj)
    · rw [b3, B3] at hj
      rw [GD j hj]
      by_cases u : p ≤ j ∧ j < p + n
      · rw [if_pos u]; exact A6 _ (by rw [A3]; omega)
      · rw [if_neg u]; exact B6 j (by rw [B3]; exact hj)
  obtain ⟨s₂, o', h1, r'⟩ := r T'.heap KP AR T' _ X' rfl (Fr.app N (fun y hy => by
    unfold copyLocs at hy
    obtain ⟨k, -, rfl⟩ := List.mem_map.mp hy
    exact hg))
  exact ⟨s₂, o', st _ h1, r'⟩
/-! a call of the superclass's method; words that the sheet says of another method of that class -/
theorem own_nf (K : Cx w Z a0 own bytes ml rt nm) {y y2 : MethodName} {C : String} (i2 : Jvm.Cond.declares y2 ∈ tables_1) (i3 : Jvm.Cond.selects C y2 y2 ∈ tables_1) (hc : y2.cls = y.cls) : NotFace w.s y := fun r0 hn => by
  obtain ⟨r2, _, hn2, -⟩ := Cond.declares_spec (mvT (args := w.a) K.z (K.hw _ i2))
  obtain ⟨kr, hk, hni⟩ := notFace_of_selects (mvT (args := w.a) K.z (K.hw _ i3)) r2 hn2
  have c1 := findClass_of_methodNamed hn
  have c2 := findClass_of_methodNamed hn2
  rw [hc] at c2
  have e : r2.cls = r0.cls := Option.some.inj (c2.symm.trans c1)
  exact ⟨kr, e ▸ hk, hni⟩
theorem Rn.ishl (K : Cx w Z a0 own bytes ml rt nm) {x y : Int32} (hd : decode bytes pc = .ok (.ishl, 1)) (hq : pc + 1 = q) (r : Rn w l R n0 F q Ls (.int (x <<< (y &&& 31)) :: S) h cs ss) : Rn w l R n0 F pc Ls (.int y :: .int x :: S) h cs ss := by
  subst hq; exact Rn.step (fun T locs X t k => XS.ishl X.here K.x rfl (hb K.cd hd) rfl k) r
end OwnKit5
section OwnKit6
variable {w : Wk} {l : Launch} {R : Room} {n0 : Nat} {F : Outcome → State → Prop} {Q : Option Value → Heap → Prop} {pc q : Nat} {Ls Ls' : Array Slot} {S : List Value} {h : Heap} {cs ss : Nat} {Z : State} {a0 : Array Value} {own : String} {bytes : ByteArray} {ml : Nat} {rt : Option FieldType} {nm : String}
theorem Rn.lushr (K : Cx w Z a0 own bytes ml rt nm) {x : Int64} {y : Int32} (hd : decode bytes pc = .ok (.lushr, 1)) (hq : pc + 1 = q) (r : Rn w l R n0 F q Ls (.long (x.toUInt64 >>> (y &&& 63).toInt64.toUInt64).toInt64 :: S) h cs ss) : Rn w l R n0 F pc Ls (.int y :: .long x :: S) h cs ss := by
  subst hq; exact Rn.step (fun T locs X t k => XS.lushr X.here K.x rfl (hb K.cd hd) rfl k) r
theorem Rn.l2i (K : Cx w Z a0 own bytes ml rt nm) {x : Int64} (hd : decode bytes pc = .ok (.l2i, 1)) (hq : pc + 1 = q) (r : Rn w l R n0 F q Ls (.int x.toInt32 :: S) h cs ss) : Rn w l R n0 F pc Ls (.long x :: S) h cs ss := by
  subst hq; exact Rn.step (fun T locs X t k => XS.l2i X.here K.x rfl (hb K.cd hd) rfl k) r
theorem Rn.ladd (K : Cx w Z a0 own bytes ml rt nm) {x y : Int64} (hd : decode bytes pc = .ok (.ladd, 1)) (hq : pc + 1 = q) (r : Rn w l R n0 F q Ls (.long (x + y) :: S) h cs ss) : Rn w l R n0 F pc Ls (.long y :: .long x :: S) h cs ss := by
  subst hq; exact Rn.step (fun T locs X t k => XS.ladd X.here K.x rfl (hb K.cd hd) rfl k) r
theorem own_self2 (K : Cx w Z a0 own bytes ml rt nm) {y y2 : MethodName} {C : String} (i4 : Jvm.Cond.instanceMethod y ∈ tables_1) (i2 : Jvm.Cond.declares y2 ∈ tables_1) (i3 : Jvm.Cond.selects C y2 y2 ∈ tables_1) (hc : y2.cls = y.cls) (i7 : Jvm.Cond.privateMethod y ∈ tables_1) (hy : y.cls ≠ "java/lang/invoke/MethodHandle" ∧ y.cls ≠ "java/lang/invoke/VarHandle") : (Jvm.Cond.selects y.cls y y).before w.a w.s = true := by
  obtain ⟨mk, methM, hn, hm, -⟩ := Cond.instanceMethod_spec (mvT (args := w.a) K.z (K.hw _ i4))
  obtain ⟨kr, hk, hni⟩ := own_nf K i2 i3 hc mk hn
  exact selects_self_of_private (findClass_of_methodNamed hn) hk hni (Cond.privateMethod_at (mvP K.z (K.hw _ i7) (args := #[]))) (mvT K.z (K.hw _ i4)) hy
theorem Rn.privD (K : Cx w Z a0 own bytes ml rt nm) {index W : Nat} {y y2 : MethodName} {C C2 : String} {b : Addr} {argsL rest : List Value} {bz : ByteArray} {mz : Nat} {rz : Option FieldType} {rm : Room} {Q' : Option Value → Heap → Prop}
    (i1 : Jvm.Cond.methodLink own index y ∈ tables_1) (i4 : Jvm.Cond.instanceMethod y ∈ tables_1) (i2 : Jvm.Cond.declares y2 ∈ tables_1) (i3 : Jvm.Cond.selects C2 y2 y2 ∈ tables_1) (hcl : y2.cls = y.cls) (i7 : Jvm.Cond.privateMethod y ∈ tables_1) (i5 : Jvm.Cond.code y bz mz rz ∈ tables_1) (i6 : Jvm.Cond.initialized y.cls ∈ tables_1)
    (hy : y.cls ≠ "java/lang/invoke/MethodHandle" ∧ y.cls ≠ "java/lang/invoke/VarHandle") (M : Met l Z y bz mz rz rm n0 [] (.ref b :: argsL).toArray h Q') (E : Exa Z h b C) (hf : rm.frames + 1 ≤ R.frames) (hlo : W + (mz + 11) + rm.locals ≤ R.locals)
    (hsz : Ls.size = ml) (hlen : ∀ sig, parseMethodDescriptor y.desc = some sig → argsL.length = sig.parameters.length) (hS : S = argsL.reverse ++ .ref b :: rest) (hW : (rest.map fun v => v.category).sum ≤ W)
    (hd : decode bytes pc = .ok (.invokevirtual index, 3)) (hq : pc + 3 = q) (hc : cs + rm.cells ≤ R.cells) (hs : ss + rm.slots ≤ R.slots)
    (r : ∀ v h', Q' v h' → Rn w l R n0 F q Ls (v.toList ++ rest) h' (cs + rm.cells) (ss + rm.slots)) : Rn w l R n0 F pc Ls S h cs ss := fun T locs X eT N => by
  subst hq hS
  obtain ⟨cq, q1, q2⟩ := E.cell
  obtain ⟨v, _, ⟨T', L', k', n'⟩, -, X', ⟨Lc, hQ, l', y', z'⟩, st⟩ := X.privateBack K.x (y := y) K.ow (mvT K.z (K.hw _ i1)) (mvT K.z (K.hw _ i4)) (own_self2 K i4 i2 i3 hcl i7 hy) (Cond.privateMethod_at (mvP K.z (K.hw _ i7) (args := #[]))) (mvT K.z (K.hw _ i5)) hy (backOf (Q := fun v h L => Fr n0 L ∧ Q' v h) (W := W) M K.z (K.hw _ i5) (K.hw _ i6) hf hlo) (g := mkF w.m pc Ls (argsL.reverse ++ .ref b :: rest)) rfl (hsz.trans K.mx.symm) (Steps.refl _) (a := b) (by rw [eT]; exact q1) q2 (argsL := argsL) (rest := rest) hlen rfl (by show 2 * 0 + _ ≤ _; rw [Nat.mul_zero, Nat.zero_add]; exact hW) (hb K.cd hd) (fun _ _ => ⟨rfl, eT, hc, hs⟩)
  dsimp only [Pt.U, Pt.locs, Pt.cells, Pt.slots] at X' l' y' z' st hQ
  subst l' y' z'
  obtain ⟨s₂, o, h1, r'⟩ := r v T'.heap hQ.2 T' _ X' rfl (Fr.app N hQ.1)
  exact ⟨s₂, o, st.trans h1, r'⟩
end OwnKit6
theorem own_eqI {args : Array Value} {s : State} {t : Term} {k : Int32} (h : (Jvm.Cond.eq t (.int k)).value args s none s [] = some true) : t.eval args s none [] s = some (.int k) := by
  obtain ⟨x, y, hx, hy, hk, hk'⟩ := cmp_v (Or.inl h)
  rw [Term.int_eval] at hy
  cases hy
  obtain ⟨z, rfl⟩ := hk'
  have e : z = k := by simpa [Cond.value, hx, Term.eval] using h
  rw [hx, e]
theorem own_mask (x : Int32) : 0 ≤ (x &&& (2147483647 : Int32)).toInt := by
  have h : ¬ (x &&& (2147483647 : Int32)) < 0 := fun q => by
    have := (XT.and_neg32 _ _).mp q
    exact absurd this.2 (by decide)
  rw [Int32.lt_iff_toInt_lt] at h
  have e0 : (0 : Int32).toInt = 0 := rfl
  omega
theorem own_mod (x : Int32) {n : Int32} {k : Int} (hn : n.toInt = k) (hk : 0 < k) : 0 ≤ ((x &&& (2147483647 : Int32)) % n).toInt ∧ ((x &&& (2147483647 : Int32)) % n).toInt < k := by
  have h := own_mask x
  rw [Int32.toInt_mod, hn]
  exact ⟨Int.tmod_nonneg _ h, Int.tmod_lt_of_pos _ hk⟩
def Enm (Z : State) (h : Heap) (C : String) (a : Addr) (k : Int32) : Prop := Exa Z h a C ∧ Fld Z h a "java/lang/Enum" "ordinal" "I" (.int k)
theorem Enm.ne {Z : State} {h : Heap} {C D : String} {a b : Addr} {k j : Int32} (A : Enm Z h C a k) (B : Enm Z h D b j) (q : k ≠ j) : a ≠ b := Fld.ne A.2 B.2 (fun e => q (Value.int.inj e))
theorem own_lc_lt (x y : Int64) : lcmpW x y < 0 ↔ x < y := by rw [lcW]; exact lc_lt x y
theorem own_lc_gt (x y : Int64) : 0 < lcmpW x y ↔ y < x := by rw [lcW]; exact lc_gt x y
section OwnKitS
open Jvm.Free.Exc in
/-! walks that may intern literals: vm0 is the tables at hand; the words on constants are kept up (CHv, CHr, Safe: Shelf42/RW14) -/
abbrev Wk.on (w : Wk) (vm : Vm) : Wk := (w.1, w.2.1, w.2.2.1.setVm vm, w.2.2.2.1, w.2.2.2.2.1, w.2.2.2.2.2.1, w.2.2.2.2.2.2.1, w.2.2.2.2.2.2.2)
def Sd (w : Wk) (Z : State) (EL : List (String × Nat)) (sf : List Addr) (vm0 : Vm) (h : Heap) : Prop :=
  (∃ k0, w.s.Since vm0 k0 ∧ k0 ≤ h.size) ∧ Z.Warmed39 vm0 ∧ CHr Z EL w.s.vm w.s.heap vm0 h ∧ ∀ x ∈ sf, Safe Z EL vm0 h x ∧ x < h.size
abbrev FinS (w : Wk) (R : Room) (n0 : Nat) (Z : State) (EL : List (String × Nat)) (Q : Option Value → Heap → Prop) (o : Outcome) (s₂ : State) : Prop :=
  ∃ v L, o = .returned v ∧ (Fr n0 L ∧ Q v s₂.heap) ∧ CHr Z EL w.s.vm w.s.heap s₂.vm s₂.heap ∧ ReturnedEndW w.s o s₂ L R.cells R.slots
def RnS (w : Wk) (l : Launch) (R : Room) (n0 : Nat) (F : Outcome → State → Prop) (Z : State) (EL : List (String × Nat)) (sf : List Addr) (pc : Nat) (Ls : Array Slot) (S : List Value) (h : Heap) (cs ss : Nat) : Prop :=
  ∀ vm0, Sd w Z EL sf vm0 h → Rn (w.on vm0) l R n0 F pc Ls S h cs ss
def MetS (l : Launch) (Z : State) (EL : List (String × Nat)) (y : MethodName) (bytes : ByteArray) (ml : Nat) (rt : Option FieldType) (rm : Room) (n0 : Nat) (ws : List Jvm.Cond) (sf : List Addr) (as' : Array Value) (h0 : Heap) (Q : Option Value → Heap → Prop) : Prop :=
  MetFree l y (head1 (Jvm.Cond.code y bytes ml rt :: ws) rm) (fun a U => a = as' ∧ Z.Warmed39 U.vm ∧ U.heap = h0 ∧ CHv Z EL U.vm h0 ∧ ∀ x ∈ sf, Safe Z EL U.vm h0 x ∧ x < h0.size) (fun _ _ _ _ _ => True)
    (fun _ U o U' => ∃ v L, o = .returned v ∧ (Fr n0 L ∧ Q v U'.heap) ∧ CHr Z EL U.vm U.heap U'.vm U'.heap ∧ ReturnedEndW U o U' L rm.cells rm.slots)
variable {w : Wk} {l : Launch} {R : Room} {n0 : Nat} {F : Outcome → State → Prop} {Q : Option Value → Heap → Prop} {pc q : Nat} {Ls Ls' : Array Slot} {S S' : List Value} {h h' : Heap} {cs ss cs' ss' : Nat} {Z : State} {a0 : Array Value} {own : String} {bytes : ByteArray} {ml : Nat} {rt : Option FieldType} {nm : String} {EL : List (String × Nat)} {sf sf' : List Addr} {vm0 : Vm}
theorem Cx.on (K : Cx w Z a0 own bytes ml rt nm) (hs : Sd w Z EL sf vm0 h) : Cx (w.on vm0) Z a0 own bytes ml rt nm := by
  obtain ⟨⟨k0, hS, -⟩, hZ, -, -⟩ := hs
  exact ⟨K.1, K.2.1, K.2.2.1, (by show vm0.findClass own = some w.m.cls; rw [hS.1.alike.findClass]; exact K.ow), hZ, K.ret, K.lk, K.nme, K.hw⟩
/-- x may be written: it is no cell of a booked literal -/
def Wok (Z : State) (h : Heap) (sf : List Addr) (x : Addr) : Prop := x ∈ sf ∨ ∃ C, Exa Z h x C ∧ C ≠ "java/lang/String" ∧ C ≠ "[B"
theorem Wok.safe {x : Addr} (hs : Sd w Z EL sf vm0 h) (W : Wok Z h sf x) : Safe Z EL vm0 h x := by
  rcases W with q | ⟨C, E, h1, h2⟩
  · exact (hs.2.2.2 x q).1
  · exact Safe.exa hs.2.1.alike E h1 h2
theorem Sd.ext (hs : Sd w Z EL sf vm0 h) (E : Ext h h') : Sd w Z EL sf vm0 h' := by
  obtain ⟨⟨k0, hS, hk⟩, hZ, hC, hF⟩ := hs
  exact ⟨⟨k0, hS, Nat.le_trans hk E.1⟩, hZ, hC.trans (CHr.ext E hC.1), fun x hx => ⟨(hF x hx).1.ext E hC.1, Nat.lt_of_lt_of_le (hF x hx).2 E.1⟩⟩
theorem Sd.add {b : Addr} (hs : Sd w Z EL sf vm0 h) (E : Ext h h') (hb : b = h.size) (hb' : b < h'.size) : Sd w Z EL (b :: sf) vm0 h' := by
  have h1 := hs.ext E
  refine ⟨h1.1, h1.2.1, h1.2.2.1, fun x hx => (List.mem_cons.mp hx).elim (fun e => ?_) (h1.2.2.2 x)⟩
  subst e
  exact ⟨(Safe.new (Nat.le_of_eq hb.symm)).ext E hs.2.2.1.1, hb'⟩
theorem Sd.wr {a : Addr} {sl : Nat} {v : Value} (hs : Sd w Z EL sf vm0 h) (W : Wr h h' a sl v) (k : Wok Z h sf a) : Sd w Z EL sf vm0 h' := by
  have sa := k.safe hs
  obtain ⟨⟨k0, hS, hk⟩, hZ, hC, hF⟩ := hs
  exact ⟨⟨k0, hS, by rw [W.size]; exact hk⟩, hZ, hC.trans (CHr.wr W sa hC.1), fun x hx => ⟨Safe.wr W sa hC.1 (hF x hx).1, by rw [W.size]; exact (hF x hx).2⟩⟩
theorem Sd.keep {ws : List Addr} (hs : Sd w Z EL sf vm0 h) (K : Keep h h' ws) (k : ∀ x ∈ ws, Wok Z h sf x) : Sd w Z EL sf vm0 h' := by
  have sa : ∀ x ∈ ws, Safe Z EL vm0 h x := fun x hx => (k x hx).safe hs
  obtain ⟨⟨k0, hS, hk⟩, hZ, hC, hF⟩ := hs
  exact ⟨⟨k0, hS, Nat.le_trans hk K.1⟩, hZ, hC.trans (CHr.keep K sa hC.1), fun x hx => ⟨Safe.keep K sa hC.1 (hF x hx).1, Nat.lt_of_lt_of_le (hF x hx).2 K.1⟩⟩
theorem Sd.less (hs : Sd w Z EL sf vm0 h) (k : ∀ x ∈ sf', x ∈ sf) : Sd w Z EL sf' vm0 h := ⟨hs.1, hs.2.1, hs.2.2.1, fun x hx => hs.2.2.2 x (k x hx)⟩
/-- from one vm to a later one -/
theorem Sd.later {vm1 : Vm} (hs : Sd w Z EL sf vm0 h) (h1 : ∃ k1, w.s.Since vm1 k1 ∧ k1 ≤ h'.size) (hZ1 : Z.Warmed39 vm1) (hC : CHr Z EL vm0 h vm1 h') : Sd w Z EL sf vm1 h' := by
  obtain ⟨-, -, hC0, hF⟩ := hs
  exact ⟨h1, hZ1, hC0.trans hC, fun x hx => ⟨hC.safe (hF x hx).2 (hF x hx).1, Nat.lt_of_lt_of_le (hF x hx).2 hC.2.1⟩⟩
/-! lifting -/
theorem RnS.lift (f : ∀ vm0, Sd w Z EL sf vm0 h → Rn (w.on vm0) l R n0 F q Ls' S' h cs ss → Rn (w.on vm0) l R n0 F pc Ls S h cs ss) (r : RnS w l R n0 F Z EL sf q Ls' S' h cs ss) : RnS w l R n0 F Z EL sf pc Ls S h cs ss := fun vm0 hs => f vm0 hs (r vm0 hs)
theorem RnS.liftW {a : Addr} {sl : Nat} {v : Value} (k : Wok Z h sf a) (f : ∀ vm0, Sd w Z EL sf vm0 h → (∀ h', Wr h h' a sl v → Rn (w.on vm0) l R n0 F q Ls' S' h' cs ss) → Rn (w.on vm0) l R n0 F pc Ls S h cs ss) (r : ∀ h', Wr h h' a sl v → RnS w l R n0 F Z EL sf q Ls' S' h' cs ss) : RnS w l R n0 F Z EL sf pc Ls S h cs ss :=
  fun vm0 hs => f vm0 hs (fun h' W => r h' W vm0 (hs.wr W k))
/-- a callee that interns nothing -/
theorem RnS.liftC {Q' : Option Value → Heap → Prop} {rest : List Value} (f : ∀ vm0, Sd w Z EL sf vm0 h → (∀ v h', Q' v h' → Rn (w.on vm0) l R n0 F q Ls (v.toList ++ rest) h' cs' ss') → Rn (w.on vm0) l R n0 F pc Ls S h cs ss)
    (k : ∀ v h', Q' v h' → ∃ ws, Keep h h' ws ∧ ∀ x ∈ ws, Wok Z h sf x) (r : ∀ v h', Q' v h' → RnS w l R n0 F Z EL sf q Ls (v.toList ++ rest) h' cs' ss') : RnS w l R n0 F Z EL sf pc Ls S h cs ss :=
  fun vm0 hs => f vm0 hs (fun v h' hq => by obtain ⟨ws, K, kk⟩ := k v h' hq; exact r v h' hq vm0 (hs.keep K kk))
theorem RnS.liftWP {a : Addr} {sl : Nat} {v : Value} {P : Heap → Prop} (k : Wok Z h sf a) (f : ∀ vm0, Sd w Z EL sf vm0 h → (∀ h', Wr h h' a sl v → P h' → Rn (w.on vm0) l R n0 F q Ls' S' h' cs ss) → Rn (w.on vm0) l R n0 F pc Ls S h cs ss) (r : ∀ h', Wr h h' a sl v → P h' → RnS w l R n0 F Z EL sf q Ls' S' h' cs ss) : RnS w l R n0 F Z EL sf pc Ls S h cs ss :=
  fun vm0 hs => f vm0 hs (fun h' W p => r h' W p vm0 (hs.wr W k))
theorem Sd.keepN {ws bs : List Addr} (hs : Sd w Z EL sf vm0 h) (K : Keep h h' ws) (k : ∀ x ∈ ws, Wok Z h sf x) (hb : ∀ b ∈ bs, h.size ≤ b ∧ b < h'.size) : Sd w Z EL (bs ++ sf) vm0 h' := by
  have h1 := hs.keep K k
  have sa : ∀ x ∈ ws, Safe Z EL vm0 h x := fun x hx => (k x hx).safe hs
  exact ⟨h1.1, h1.2.1, h1.2.2.1, fun x hx => (List.mem_append.mp hx).elim (fun hx => ⟨Safe.keep K sa hs.2.2.1.1 (Safe.new (hb x hx).1), (hb x hx).2⟩) (h1.2.2.2 x)⟩
/-! making: what is made is safe -/
theorem RnS.newO (K : Cx w Z a0 own bytes ml rt nm) {i k : Nat} {C : String} (hi : Jvm.Cond.classLink own i C ∈ tables_1) (hin : Jvm.Cond.instantiable C k ∈ tables_1) (hz : Jvm.Cond.initialized C ∈ tables_1) (hc : cs + 1 ≤ R.cells) (hs : ss + k ≤ R.slots) (hd : decode bytes pc = .ok (.new i, 3)) (hq : pc + 3 = q)
    (r : ∀ b h', b = h.size → Ext h h' → Exa Z h' b C → (∀ {O n d : String} {ty : FieldType}, Laid Z a0 C O n d → parseFieldDescriptor d = some ty → Fld Z h' b O n d (defaultValue ty)) → RnS w l R n0 F Z EL (b :: sf) q Ls (.ref b :: S) h' (cs + 1) (ss + k)) : RnS w l R n0 F Z EL sf pc Ls S h cs ss :=
  fun vm0 hv => Rn.newO (K.on hv) hi hin hz hc hs hd hq (fun b h' e E A D => r b h' e E A D vm0 (hv.add E e A.lt))
theorem RnS.newP (K : Cx w Z a0 own bytes ml rt nm) {aty : ArrayType} {x : Int32} {cap : Nat} (hi : Jvm.Cond.arrayClass (newarray.typeOf aty) ∈ tables_1) (hn : ¬ x < 0) (hcap : x.toNatClampNeg ≤ cap) (hb8 : cap * 8 ≤ 536870912) (hc : cs + 1 ≤ R.cells) (hs : ss + cap ≤ R.slots) {ad : String} (had : "[" ++ (newarray.typeOf aty).toString = ad) (hd : decode bytes pc = .ok (.newarray aty, 2)) (hq : pc + 2 = q)
    (r : ∀ b h' k, b = h.size → Ext h h' → Arv Z h' b k (newarray.typeOf aty) x [] (defaultValue (newarray.typeOf aty)) → Exa Z h' b ad → RnS w l R n0 F Z EL (b :: sf) q Ls (.ref b :: S) h' (cs + 1) (ss + cap)) : RnS w l R n0 F Z EL sf pc Ls (.int x :: S) h cs ss :=
  fun vm0 hv => Rn.newP (K.on hv) hi hn hcap hb8 hc hs had hd hq (fun b h' k e E A D => r b h' k e E A D vm0 (hv.add E e A.lt))
/-! ldc of a String constant, read -/
theorem RnS.ldcS (K : Cx w Z a0 own bytes ml rt nm) {i n : Nat} {text : String} {vs : List Value} {z : Int32} (hi : Jvm.Cond.stringLink own i text ∈ tables_1) (wS : ∀ a ∈ Bundle.stringAtoms, a.before a0 Z = true) (hEL : EW Z a0 EL) (hmem : (own, i) ∈ EL) (ht : (∀ c ∈ text.toList, c.toNat < 256) ∧ text.toList.map (fun c => Value.int (Jvm.Lit.byteI c.toNat.toUInt16)) = vs) (hz : ¬ z < 0) (hl : z.toNatClampNeg = vs.length)
    (hn : 4 * text.toList.length ≤ n) (hbig : n ≤ 536870912) (hc : cs + 2 ≤ R.cells) (hsl : ss + (n + 4) ≤ R.slots) (hd : decode bytes pc = .ok (.ldc i, 2)) (hq : pc + 2 = q)
    (r : ∀ a b k h', Ext h h' → Exa Z h' a "java/lang/String" → Fld Z h' a "java/lang/String" "coder" "B" (.int 0) → Fld Z h' a "java/lang/String" "value" "[B" (.ref b) → Arv Z h' b k .byte z vs (.int 0) → (∀ x ∈ sf, x ≠ a ∧ x ≠ b) → RnS w l R n0 F Z EL sf q Ls (.ref a :: S) h' (cs + 2) (ss + (n + 4))) : RnS w l R n0 F Z EL sf pc Ls S h cs ss := fun vm0 hs T locs X eT N => by
  subst hq
  obtain ⟨k0, hS, hk⟩ := hs.1
  obtain ⟨a, T', h', k1, b, k, X', e', E, hS1, hk1, hZ1, -, q1, q2, q3, q4, -, -, hC, -, hne, st⟩ := ldcCH (s := w.s) (vm0 := vm0) X K.x hs.2.1 (K.on hs).ow (K.hw _ hi) wS eT hS hk hEL hmem hs.2.2.1.1 ht hz hl (g := mkF w.m pc Ls S) rfl (hb K.cd hd) hn hbig hc hsl
  have hs1 := hs.later ⟨k1, hS1, hk1⟩ hZ1 hC
  obtain ⟨s₂, o, h1, r'⟩ := r a b k h' E q1 q2 q3 q4 (fun x hx => hne x (hs1.2.2.2 x hx).1) T'.vm hs1 T' _ X' e' N
  exact ⟨s₂, o, st _ h1, r'⟩
/-! the ends -/
theorem RnS.fin {v : Option Value} {T : State} {locs : List Loc} {fs : List Frame} (hEL : EW Z a0 EL) (hs : Sd w Z EL sf vm0 h) (X : Stand w.p l w.e R (w.s.setVm vm0) w.m w.a w.b w.t w.c T locs cs ss) (eT : T.heap = h) (N : Fr n0 locs) (hW : (w.s.setVm vm0).WarmedH (T.setFrames fs).vm) (hsame : (w.s.setVm vm0).sameButNew ({ T.setFrames fs with vm := (w.s.setVm vm0).vm } : State) locs cs ss) (hc : cs ≤ R.cells) (hsl : ss ≤ R.slots) (hQ : Q v h) :
    FinS w R n0 Z EL Q (.returned v) (T.setFrames fs) := by
  obtain ⟨⟨k0, hS, hk⟩, hZ, hC, -⟩ := hs
  have hS2 : w.s.Since (T.setFrames fs).vm (T.setFrames fs).heap.size := hS.trans (hW.since _) (by show k0 ≤ T.heap.size; rw [eT]; exact hk)
  have hC2 : CHr Z EL vm0 h T.vm h := CHv.at X hZ hEL hC.1
  refine ⟨v, locs, rfl, ⟨N, by rw [← eT] at hQ; exact hQ⟩, ?_, ⟨_, rfl⟩, hS2.1, hS2.2, (hsame.setVm w.s.vm).mono hc hsl⟩
  have := hC.trans hC2
  rw [← eT] at this
  exact this
theorem RnS.retN (K : Cx w Z a0 own bytes ml rt nm) (hEL : EW Z a0 EL) {x : Int32} (t : FieldType) (ht : rt = some t) (ht' : t = .boolean ∨ t = .byte ∨ t = .char ∨ t = .short) (hd : decode bytes pc = .ok (.ireturn, 1)) (hc : cs ≤ R.cells) (hsl : ss ≤ R.slots) (hQ : Q (some (.int (nar t x))) h) : RnS w l R n0 (FinS w R n0 Z EL Q) Z EL sf pc Ls (.int x :: S) h cs ss := fun vm0 hs T locs X eT N => by
  obtain ⟨fs, hr, hrun, hended, hW, hsame⟩ := X.leave (v := some (.int (nar t x))) (fun h => by rw [K.ret, ht] at h; cases h) K.lk
  exact ⟨_, _, Jvm.RoadKit.retN X K.x (K.ret.trans ht) ht' (hb K.cd hd) hr, hrun, hended, RnS.fin hEL hs X eT N hW hsame hc hsl hQ⟩
theorem RnS.retA (K : Cx w Z a0 own bytes ml rt nm) (hEL : EW Z a0 EL) {v : Value} (t : FieldType) (hv : v.isRef = true) (ht : rt = some t) (ht' : t.isReference = true) (hd : decode bytes pc = .ok (.areturn, 1)) (hc : cs ≤ R.cells) (hsl : ss ≤ R.slots) (hQ : Q (some v) h) : RnS w l R n0 (FinS w R n0 Z EL Q) Z EL sf pc Ls [v] h cs ss := fun vm0 hs T locs X eT N => by
  obtain ⟨fs, hr, hrun, hended, hW, hsame⟩ := X.leave (v := some v) (fun h => by rw [K.ret, ht] at h; cases h) K.lk
  exact ⟨_, _, X.areturnOut K.x hv (K.ret.trans ht) ht' (hb K.cd hd) hr, hrun, hended, RnS.fin hEL hs X eT N hW hsame hc hsl hQ⟩
theorem RnS.retV (K : Cx w Z a0 own bytes ml rt nm) (hEL : EW Z a0 EL) (ht : rt = none) (hd : decode bytes pc = .ok (.return_, 1)) (hc : cs ≤ R.cells) (hsl : ss ≤ R.slots) (hQ : Q none h) : RnS w l R n0 (FinS w R n0 Z EL Q) Z EL sf pc Ls [] h cs ss := fun vm0 hs T locs X eT N => by
  obtain ⟨fs, hr, hrun, hended, hW, hsame⟩ := X.leave (v := none) (fun _ => rfl) K.lk
  exact ⟨_, _, X.returnOut K.x (K.ret.trans ht) (hb K.cd hd) hr, hrun, hended, RnS.fin hEL hs X eT N hW hsame hc hsl hQ⟩
/-! contracts -/
theorem MetS.intro {y : MethodName} {as' : Array Value} {h0 : Heap} {rm : Room} {ws : List Jvm.Cond} (hp : plainFor y = true) (hw : ∀ d ∈ tables_1, d.before a0 Z = true) (ef : ∀ m, entryFrame m as' ml = mkF m 0 Ls [])
    (k : ∀ w : Wk, Cx w Z a0 y.cls bytes ml rt y.name → RnS w l rm n0 (FinS w rm n0 Z EL Q) Z EL sf 0 Ls [] h0 0 0) : MetS l Z EL y bytes ml rt rm n0 ws sf as' h0 Q := by
  refine MetFree.of_bodySF hp hisR ?_
  intro p e s m args below meth c s₁ Bd hml0 hP hK
  obtain ⟨ha, hZ, hh, hC, hF⟩ := hP
  subst ha
  have e0 : s₁.heap = h0 := by rw [← hh, Bd.state]; rfl
  obtain ⟨s₂, o, h1, h2, h3, h4⟩ := k (p, e, s, m, args, below, meth, c) ⟨Bd.exec, Bd.bytes, hml0, findClass_of_methodNamed Bd.named, hZ, Bd.returns, Bd.notSynchronized, (name_of_methodNamed Bd.named Bd.method).1, hw⟩ s.vm ⟨⟨0, (State.WarmedH.refl s).since 0, Nat.zero_le _⟩, hZ, by show CHr Z EL s.vm s.heap s.vm h0; rw [hh]; exact CHr.refl hC, hF⟩ s₁ [] (Stand.of_body Bd) e0 (Fr.nil n0)
  exact ⟨s₂, o, castTop (ef m) h1, h2, h3, h4⟩
theorem own_backS {y : MethodName} {bz : ByteArray} {mz : Nat} {rz : Option FieldType} {rm : Room} {len W : Nat} {as' : Array Value} {Q' : Option Value → Heap → Prop} (ksf : ∀ x ∈ sf', x ∈ sf) (M : MetS l Z EL y bz mz rz rm n0 [] sf' as' h Q') (hs : Sd w Z EL sf vm0 h) (wc : (Jvm.Cond.code y bz mz rz).before a0 Z = true) (wz : (Jvm.Cond.initialized y.cls).before a0 Z = true) (hf : rm.frames + 1 ≤ R.frames) (hl : W + (mz + 11) + rm.locals ≤ R.locals) (hEL : EW Z a0 EL) :
    BackS l R w.p w.e w.b (w.s.setVm vm0) w.a y len W (fun A a => a = as' ∧ A.U.heap = h ∧ A.cells + rm.cells ≤ R.cells ∧ A.slots + rm.slots ≤ R.slots)
      (fun A _ v B => ∃ L, (Fr n0 L ∧ Q' v B.U.heap) ∧ B.locs = A.locs ++ L ∧ B.cells = A.cells + rm.cells ∧ B.slots = A.slots + rm.slots ∧ CHr Z EL vm0 h B.U.vm B.U.heap) :=
  BackS.of_freeW (bytes := bz) (maxL := mz) (ret := rz) (E := fun _ first o t L k n => k = rm.cells ∧ n = rm.slots ∧ (∃ v, o = .returned v ∧ Fr n0 L ∧ Q' v t.heap) ∧ CHr Z EL first.vm first.heap t.vm t.heap) M hf hl
    (fun m meth c A a Y hp => have hU : Z.Warmed39 A.U.vm := wtrans (s := w.s.setVm vm0) hs.2.1 Y.warmed
      ⟨by show (Jvm.Cond.and _ .tt).before a A.U = true; rw [Cond.before_and, mv hU wc]; rfl, mv hU wc, mv hU wz, hp.2.2.1, hp.2.2.2⟩)
    (fun m meth c A a g mk Y hp => ⟨hp.1, wtrans (s := w.s.setVm vm0) hs.2.1 Y.warmed, hp.2.1, (CHv.at Y hs.2.1 hEL hs.2.2.1.1).1, fun x hx' => have hx := ksf x hx'; ⟨(CHv.at Y hs.2.1 hEL hs.2.2.1.1).safe (hs.2.2.2 x hx).2 (hs.2.2.2 x hx).1, (hs.2.2.2 x hx).2⟩⟩) (fun _ _ _ _ _ _ _ _ _ => trivial)
    (fun _ _ _ _ ⟨v, L, h1, h2, h3, h4⟩ => ⟨L, _, _, h4, rfl, rfl, ⟨v, h1, h2⟩, h3⟩)
    (fun m meth c A a g mk v t L k n Y hp _ _ ⟨e1, e2, ⟨v', e3, e4⟩, e5⟩ => by
      cases e3; subst e1 e2
      refine ⟨L, e4, rfl, rfl, rfl, (CHv.at Y hs.2.1 hEL hs.2.2.1.1).trans ?_⟩
      rw [← hp.2.1]; exact e5)
theorem RnS.statS (K : Cx w Z a0 own bytes ml rt nm) (hEL : EW Z a0 EL) {index W : Nat} {y : MethodName} {argsL rest : List Value} {bz : ByteArray} {mz : Nat} {rz : Option FieldType} {rm : Room} {Q' : Option Value → Heap → Prop}
    (i1 : Jvm.Cond.methodLink own index y ∈ tables_1) (i2 : Jvm.Cond.static y ∈ tables_1) (i5 : Jvm.Cond.code y bz mz rz ∈ tables_1) (i6 : Jvm.Cond.initialized y.cls ∈ tables_1)
    (hy : y.cls ≠ "java/lang/invoke/MethodHandle" ∧ y.cls ≠ "java/lang/invoke/VarHandle") (ksf : ∀ x ∈ sf', x ∈ sf) (M : MetS l Z EL y bz mz rz rm n0 [] sf' argsL.toArray h Q') (hf : rm.frames + 1 ≤ R.frames) (hlo : W + (mz + 11) + rm.locals ≤ R.locals)
    (hsz : Ls.size = ml) (hlen : ∀ sig, parseMethodDescriptor y.desc = some sig → argsL.length = sig.parameters.length) (hS : S = argsL.reverse ++ rest) (hW : (rest.map fun v => v.category).sum ≤ W)
    (hd : decode bytes pc = .ok (.invokestatic index, 3)) (hq : pc + 3 = q) (hc : cs + rm.cells ≤ R.cells) (hsl : ss + rm.slots ≤ R.slots)
    (r : ∀ v h', Q' v h' → RnS w l R n0 F Z EL sf q Ls (v.toList ++ rest) h' (cs + rm.cells) (ss + rm.slots)) : RnS w l R n0 F Z EL sf pc Ls S h cs ss := fun vm0 hs T locs X eT N => by
  subst hq hS
  have K2 := K.on hs
  obtain ⟨v, _, ⟨T', L', k', n'⟩, -, X', hS1, hle, ⟨Lc, hQ, l', y', z', hC⟩, st⟩ := callSS X K.x (y := y) K2.ow (mvT hs.2.1 (K.hw _ i1)) (mvT hs.2.1 (K.hw _ i2)) (mvT hs.2.1 (K.hw _ i6)) (mvT hs.2.1 (K.hw _ i5)) hy (own_backS (w := w) (W := W) ksf M hs (K.hw _ i5) (K.hw _ i6) hf hlo hEL) (g := mkF w.m pc Ls (argsL.reverse ++ rest)) rfl (hsz.trans K.mx.symm) (argsL := argsL) (rest := rest) hlen rfl (by show 2 * 0 + _ ≤ _; rw [Nat.mul_zero, Nat.zero_add]; exact hW) (hb K.cd hd) (fun _ _ => ⟨rfl, eT, hc, hsl⟩)
  dsimp only [Pt.U, Pt.locs, Pt.cells, Pt.slots] at X' l' y' z' st hQ hC hS1 hle
  subst l' y' z'
  obtain ⟨k0, hS0, hk⟩ := hs.1
  have hs1 := hs.later ⟨_, hS0.trans hS1 (Nat.le_trans hk (by rw [← eT]; exact hle)), Nat.le_refl _⟩ (State.Warmed39.trans (t := w.s.setVm vm0) hs.2.1 hS1.1) hC
  obtain ⟨s₂, o, h1, r'⟩ := r v T'.heap hQ.2 T'.vm hs1 T' _ X' rfl (Fr.app N hQ.1)
  exact ⟨s₂, o, st.trans h1, r'⟩
theorem RnS.specS (K : Cx w Z a0 own bytes ml rt nm) (hEL : EW Z a0 EL) {index W : Nat} {y : MethodName} {b : Addr} {argsL rest : List Value} {bz : ByteArray} {mz : Nat} {rm : Room} {Q' : Option Value → Heap → Prop}
    (hn : y.name = "<init>") (i1 : Jvm.Cond.methodLink own index y ∈ tables_1) (i4 : Jvm.Cond.instanceMethod y ∈ tables_1) (i5 : Jvm.Cond.code y bz mz none ∈ tables_1) (i6 : Jvm.Cond.initialized y.cls ∈ tables_1)
    (hy : y.cls ≠ "java/lang/invoke/MethodHandle" ∧ y.cls ≠ "java/lang/invoke/VarHandle") (ksf : ∀ x ∈ sf', x ∈ sf) (M : MetS l Z EL y bz mz none rm n0 [] sf' (.ref b :: argsL).toArray h Q') (hf : rm.frames + 1 ≤ R.frames) (hlo : W + (mz + 11) + rm.locals ≤ R.locals)
    (hsz : Ls.size = ml) (hlen : ∀ sig, parseMethodDescriptor y.desc = some sig → argsL.length = sig.parameters.length) (hS : S = argsL.reverse ++ .ref b :: rest) (hW : (rest.map fun v => v.category).sum ≤ W)
    (hd : decode bytes pc = .ok (.invokespecial index, 3)) (hq : pc + 3 = q) (hc : cs + rm.cells ≤ R.cells) (hsl : ss + rm.slots ≤ R.slots)
    (r : ∀ v h', Q' v h' → RnS w l R n0 F Z EL sf q Ls (v.toList ++ rest) h' (cs + rm.cells) (ss + rm.slots)) : RnS w l R n0 F Z EL sf pc Ls S h cs ss := fun vm0 hs T locs X eT N => by
  subst hq hS
  have K2 := K.on hs
  obtain ⟨v, _, ⟨T', L', k', n'⟩, -, X', hS1, hle, ⟨Lc, hQ, l', y', z', hC⟩, st⟩ := X.specialBackS K.x (y := y) hn K2.ow (mvT hs.2.1 (K.hw _ i1)) (mvT hs.2.1 (K.hw _ i4)) (mvT hs.2.1 (K.hw _ i5)) hy (own_backS (w := w) (W := W) ksf M hs (K.hw _ i5) (K.hw _ i6) hf hlo hEL) (g := mkF w.m pc Ls (argsL.reverse ++ .ref b :: rest)) rfl (hsz.trans K.mx.symm) (Steps.refl _) (a := b) (argsL := argsL) (rest := rest) hlen rfl (by show 2 * 0 + _ ≤ _; rw [Nat.mul_zero, Nat.zero_add]; exact hW) (hb K.cd hd) (fun _ _ => ⟨rfl, eT, hc, hsl⟩)
  dsimp only [Pt.U, Pt.locs, Pt.cells, Pt.slots] at X' l' y' z' st hQ hC hS1 hle
  subst l' y' z'
  obtain ⟨k0, hS0, hk⟩ := hs.1
  have hs1 := hs.later ⟨_, hS0.trans hS1 (Nat.le_trans hk (by rw [← eT]; exact hle)), Nat.le_refl _⟩ (State.Warmed39.trans (t := w.s.setVm vm0) hs.2.1 hS1.1) hC
  obtain ⟨s₂, o, h1, r'⟩ := r v T'.heap hQ.2 T'.vm hs1 T' _ X' rfl (Fr.app N hQ.1)
  exact ⟨s₂, o, st.trans h1, r'⟩
theorem nfsS (K : Cx w Z a0 own bytes ml rt nm) {C : String} {y : MethodName} (i : Jvm.Cond.selects C y y ∈ tables_1) (vm0 : Vm) (hs : Sd w Z EL sf vm0 h) : NotFace (w.s.setVm vm0) y := notFace_of_selects (args := #[]) (mvT hs.2.1 (K.hw _ i))
theorem own_kp0 {Z : State} {h : Heap} {sf : List Addr} : ∃ ws, Keep h h ws ∧ ∀ x ∈ ws, Wok Z h sf x := ⟨[], Keep.refl h _, fun _ hx => by cases hx⟩
end OwnKitS
theorem own_ti {k : Nat} (hk : k < 2147483648) : (Int32.ofNat k).toInt = k := len_toInt (n := k) hk
theorem own_cl {k : Nat} (hk : k < 2147483648) : (Int32.ofNat k).toNatClampNeg = k := by simp only [Int32.toNatClampNeg, own_ti hk]; omega
theorem own_lt {a b : Nat} (h : a < b) (hb : b < 2147483648) : Int32.ofNat a < Int32.ofNat b := by rw [Int32.lt_iff_toInt_lt, own_ti (by omega), own_ti hb]; omega
theorem own_nlt {a b : Nat} (h : b ≤ a) (ha : a < 2147483648) : ¬ Int32.ofNat a < Int32.ofNat b := by rw [Int32.lt_iff_toInt_lt, own_ti ha, own_ti (k := b) (by omega)]; omega
theorem own_nn {a : Nat} (ha : a < 2147483648) : ¬ Int32.ofNat a < 0 := own_nlt (b := 0) (Nat.zero_le _) ha
theorem own_in {a b : Nat} (h : a < b) (hb : b < 2147483648) : ¬ Int32.ofNat a < 0 ∧ Int32.ofNat a < Int32.ofNat b := ⟨own_nn (by omega), own_lt h hb⟩
theorem own_of {x : Int32} (h : 0 ≤ x.toInt) : x = Int32.ofNat x.toInt.toNat := by
  have h2 := Int32.toInt_lt x
  apply Int32.toInt_inj.mp
  rw [own_ti (by omega)]
  omega
theorem own_ex {x : Int32} {lo hi : Nat} (h1 : (lo : Int) ≤ x.toInt) (h2 : x.toInt ≤ hi) : ∃ k : Nat, lo ≤ k ∧ k ≤ hi ∧ x = Int32.ofNat k := ⟨x.toInt.toNat, by omega, by omega, own_of (by omega)⟩
theorem own_rem (x : Int32) {m : Nat} (hm : 0 < m) (hb : m < 2147483648) : ∃ k : Nat, k < m ∧ (x &&& (2147483647 : Int32)) % Int32.ofNat m = Int32.ofNat k := by
  obtain ⟨h1, h2⟩ := own_mod x (own_ti hb) (by omega : (0 : Int) < (m : Int))
  obtain ⟨k, -, k2, e⟩ := own_ex (lo := 0) (hi := m - 1) (by omega) (by omega : ((x &&& (2147483647 : Int32)) % Int32.ofNat m).toInt ≤ ((m - 1 : Nat) : Int))
  exact ⟨k, by omega, e⟩
def Chr (c : Int32) : Prop := ∃ k : Nat, k < 65536 ∧ c = Int32.ofNat k
theorem own_bvN {k : Nat} (hk : k < 4294967296) : (Int32.ofNat k).toBitVec.toNat = k := by
  rw [Int32.toBitVec_ofNat', BitVec.toNat_ofNat]; exact Nat.mod_eq_of_lt hk
theorem own_eqN {a b : Int32} (h : a.toBitVec.toNat = b.toBitVec.toNat) : a = b := Int32.toBitVec_inj.mp (BitVec.eq_of_toNat_eq h)
theorem own_i2cN (x : Int32) : (x.toUInt32.toUInt16.toUInt32.toInt32).toBitVec.toNat = x.toBitVec.toNat % 65536 := by
  show (x.toUInt32.toUInt16.toUInt32).toNat = _
  simp; rfl
theorem Chr.mk (x : Int32) : Chr (x.toUInt32.toUInt16.toUInt32.toInt32) :=
  ⟨x.toBitVec.toNat % 65536, Nat.mod_lt _ (by decide), own_eqN (by rw [own_i2cN, own_bvN (Nat.lt_trans (Nat.mod_lt _ (by decide)) (by decide))])⟩
theorem own_nc {c : Int32} (h : Chr c) : nar .char c = c := by
  obtain ⟨k, hk, rfl⟩ := h
  apply own_eqN
  show (Int32.toBitVec ((Int32.ofNat k).toUInt32.toUInt16.toUInt32.toInt32)).toNat = _
  rw [own_i2cN, own_bvN (by omega)]; omega
theorem own_b255 (y : Int32) : (nar .byte y.toInt8.toInt32 &&& 255).toBitVec.toNat = y.toBitVec.toNat % 256 := by
  have e : nar .byte y.toInt8.toInt32 = y.toInt8.toInt32 := by simp [nar]
  rw [e]
  have h : ∀ b : Fin 256, ((BitVec.ofFin b : BitVec 8).signExtend 32 &&& 255#32) = (BitVec.ofFin b : BitVec 8).setWidth 32 := by decide +kernel
  have h2 : (y.toInt8.toInt32 &&& 255).toBitVec = (y.toBitVec.setWidth 8).signExtend 32 &&& 255#32 := by
    rw [Int32.toBitVec_and, Int8.toBitVec_toInt32, Int32.toBitVec_toInt8, BitVec.signExtend_eq_setWidth_of_le _ (by decide : 8 ≤ 32)]; rfl
  rw [h2]
  have h3 := h (y.toBitVec.setWidth 8).toFin
  rw [show (BitVec.ofFin (y.toBitVec.setWidth 8).toFin : BitVec 8) = y.toBitVec.setWidth 8 from rfl] at h3
  rw [h3, BitVec.toNat_setWidth, BitVec.toNat_setWidth]
  omega
theorem own_lo {c : Int32} (h : Chr c) (q : ¬ (255 : Int32) < c) : nar .char ((nar .byte c.toInt8.toInt32 &&& (255 : Int32)).toUInt32.toUInt16.toUInt32.toInt32) = c := by
  obtain ⟨k, hk, rfl⟩ := h
  have hk2 : k < 256 := by
    rw [Int32.lt_iff_toInt_lt] at q
    have e : (Int32.ofNat k).toInt = k := own_ti (by omega)
    rw [e] at q
    have e2 : (255 : Int32).toInt = 255 := rfl
    omega
  apply own_eqN
  show (Int32.toBitVec (Int32.toUInt32 ((nar .byte (Int32.ofNat k).toInt8.toInt32 &&& (255 : Int32)).toUInt32.toUInt16.toUInt32.toInt32)).toUInt16.toUInt32.toInt32).toNat = _
  rw [own_i2cN, own_i2cN, own_b255, own_bvN (by omega)]
  omega
theorem own_gc {c : Int32} (h : Chr c) : nar .char ((((nar .byte (c >>> ((0 : Int32) &&& 31)).toInt8.toInt32) &&& (255 : Int32)) <<< ((0 : Int32) &&& 31)) ||| (((nar .byte (c >>> ((8 : Int32) &&& 31)).toInt8.toInt32) &&& (255 : Int32)) <<< ((8 : Int32) &&& 31))).toUInt32.toUInt16.toUInt32.toInt32 = c := by
  obtain ⟨k, hk, rfl⟩ := h
  have e0 : Int32.ofNat k >>> ((0 : Int32) &&& 31) = Int32.ofNat k := by
    apply Int32.toBitVec_inj.mp
    show (Int32.ofNat k).toBitVec.sshiftRight' (((0 : Int32) &&& 31).toBitVec.smod 32) = _
    rw [show (((0 : Int32) &&& 31).toBitVec.smod 32) = 0#32 from by decide]
    simp [BitVec.sshiftRight']
  have e8 : (Int32.ofNat k >>> ((8 : Int32) &&& 31)).toBitVec.toNat = k / 256 := by
    show ((Int32.ofNat k).toBitVec.sshiftRight' (((8 : Int32) &&& 31).toBitVec.smod 32)).toNat = _
    rw [show (((8 : Int32) &&& 31).toBitVec.smod 32) = 8#32 from by decide]
    show ((Int32.ofNat k).toBitVec.sshiftRight 8).toNat = _
    rw [BitVec.sshiftRight_eq_of_msb_false (by rw [BitVec.msb_eq_false_iff_two_mul_lt, own_bvN (by omega)]; omega), BitVec.toNat_ushiftRight, own_bvN (by omega), Nat.shiftRight_eq_div_pow]
  apply own_eqN
  show (Int32.toBitVec (Int32.toUInt32 (Int32.toUInt32 _).toUInt16.toUInt32.toInt32).toUInt16.toUInt32.toInt32).toNat = _
  rw [own_i2cN, own_i2cN, own_bvN (by omega), e0]
  generalize ha : (nar .byte (Int32.ofNat k).toInt8.toInt32 &&& (255 : Int32)) = a
  generalize hb : (nar .byte (Int32.ofNat k >>> ((8 : Int32) &&& 31)).toInt8.toInt32 &&& (255 : Int32)) = b
  have na : a.toBitVec.toNat = k % 256 := by rw [← ha, own_b255, own_bvN (by omega)]
  have nb : b.toBitVec.toNat = k / 256 := by rw [← hb, own_b255, e8]; omega
  have s0 : (a <<< ((0 : Int32) &&& 31)) = a := by
    apply Int32.toBitVec_inj.mp
    show a.toBitVec <<< (((0 : Int32) &&& 31).toBitVec.smod 32) = _
    rw [show (((0 : Int32) &&& 31).toBitVec.smod 32) = 0#32 from by decide]
    simp
  have s8 : (b <<< ((8 : Int32) &&& 31)).toBitVec.toNat = (k / 256) * 256 := by
    show (b.toBitVec <<< (((8 : Int32) &&& 31).toBitVec.smod 32)).toNat = _
    rw [show (((8 : Int32) &&& 31).toBitVec.smod 32) = 8#32 from by decide]
    show (b.toBitVec <<< (8#32).toNat).toNat = _
    rw [BitVec.toNat_shiftLeft, nb, show (8#32).toNat = 8 from rfl, Nat.shiftLeft_eq]; omega
  rw [s0]
  have o : (a ||| b <<< ((8 : Int32) &&& 31)).toBitVec.toNat = k := by
    show (a.toBitVec ||| (b <<< ((8 : Int32) &&& 31)).toBitVec).toNat = _
    rw [BitVec.toNat_or, na, s8, Nat.or_comm]
    have := Nat.shiftLeft_add_eq_or_of_lt (i := 8) (b := k % 256) (by omega) (k / 256)
    rw [Nat.shiftLeft_eq] at this
    rw [← this]; omega
  rw [o]; omega

theorem own_g {Z : State} {n0 : Nat} {h : Heap} {b : Addr} (X : Old Z n0 h) (q : h.size ≤ b) : n0 ≤ b := Nat.le_trans (by exact X.1 ▸ X.2.1) q
theorem own_old {x t n : Nat} (h : x < n) (e : t = n) : x ≠ t := by omega
theorem own_old2 {x t n : Nat} (h : x < n) (e : n ≤ t) : x ≠ t := by omega
def own_B0 (c : Int32) : Value := .int (nar .byte c.toInt8.toInt32)
def own_B1 : List Int32 → List Value
  | [] => []
  | c :: t => .int (nar .byte (c >>> ((0 : Int32) &&& 31)).toInt8.toInt32) :: .int (nar .byte (c >>> ((8 : Int32) &&& 31)).toInt8.toInt32) :: own_B1 t
/-- the String at s, over the bytes at v, holds the chars cs -/
def STR (Z : State) (h : Heap) (s v : Addr) (cs : List Int32) : Prop :=
  Exa Z h s "java/lang/String" ∧ Fld Z h s "java/lang/String" "value" "[B" (.ref v) ∧ ∃ k : ClassId,
    (Fld Z h s "java/lang/String" "coder" "B" (.int (0 : Int32)) ∧ Arv Z h v k .byte (Int32.ofNat cs.length) (cs.map own_B0) (.int (0 : Int32)) ∧ ∀ c ∈ cs, ¬ (255 : Int32) < c) ∨
    (cs ≠ [] ∧ Fld Z h s "java/lang/String" "coder" "B" (.int (1 : Int32)) ∧ Arv Z h v k .byte (Int32.ofNat (2 * cs.length)) (own_B1 cs) (.int (0 : Int32)))
section StrLaws
variable {Z : State} {h h' : Heap} {s v : Addr} {cs : List Int32} {ws : List Addr}
theorem STR.ext (F : STR Z h s v cs) (E : Ext h h') : STR Z h' s v cs := by
  obtain ⟨a, b, k, ⟨c, d, e⟩ | ⟨c, d, e⟩⟩ := F
  · exact ⟨a.ext E, b.ext E, k, Or.inl ⟨c.ext E, d.ext E, e⟩⟩
  · exact ⟨a.ext E, b.ext E, k, Or.inr ⟨c, d.ext E, e.ext E⟩⟩
theorem STR.keep (F : STR Z h s v cs) (K : Keep h h' ws) (q1 : s ∉ ws) (q2 : v ∉ ws) : STR Z h' s v cs := by
  obtain ⟨a, b, k, ⟨c, d, e⟩ | ⟨c, d, e⟩⟩ := F
  · exact ⟨a.keep K, b.keep K q1, k, Or.inl ⟨c.keep K q1, d.keep K q2, e⟩⟩
  · exact ⟨a.keep K, b.keep K q1, k, Or.inr ⟨c, d.keep K q1, e.keep K q2⟩⟩
theorem STR.lt (F : STR Z h s v cs) : s < h.size ∧ v < h.size := by
  obtain ⟨a, b, k, ⟨c, d, e⟩ | ⟨c, d, e⟩⟩ := F
  · exact ⟨a.lt, d.lt⟩
  · exact ⟨a.lt, e.lt⟩
end StrLaws
/-- the column at t: its chunk ck holds the chars ws, its ends en the values es -/
def COL (Z : State) (h : Heap) (t ch ck en : Addr) (ws : List Int32) (es : List Value) (z : Int32) : Prop :=
  Exa Z h t "com/example/spanmask/spanmask/ledger/TextColumn" ∧ Exa Z h ch "[[C" ∧ Exa Z h ck "[C" ∧ Exa Z h en "[J" ∧ Fld Z h t "com/example/spanmask/spanmask/ledger/TextColumn" "chunks" "[[C" (.ref ch) ∧ Fld Z h t "com/example/spanmask/spanmask/ledger/TextColumn" "ends" "[J" (.ref en) ∧ Fld Z h t "com/example/spanmask/spanmask/ledger/TextColumn" "size" "I" (.int z) ∧ Fld Z h t "com/example/spanmask/spanmask/ledger/TextColumn" "length" "J" (.long (Int64.ofNat ws.length)) ∧
    (∃ k : ClassId, Arv Z h ch k (.array .char) (1 : Int32) [(.ref ck)] .null) ∧ (∃ k : ClassId, Arv Z h ck k .char (256 : Int32) (ws.map .int) (.int (0 : Int32))) ∧ (∃ k : ClassId, Arv Z h en k .long (16 : Int32) es (.long (0 : Int64)))
theorem COL.keep {Z : State} {h h' : Heap} {t ch ck en : Addr} {ws : List Int32} {es : List Value} {z : Int32} {us : List Addr} (F : COL Z h t ch ck en ws es z) (K : Keep h h' us) (q1 : t ∉ us) (q2 : ch ∉ us) (q3 : ck ∉ us) (q4 : en ∉ us) : COL Z h' t ch ck en ws es z := by
  obtain ⟨a, b, c, d, e, f, g, i, ⟨k1, j⟩, ⟨k2, m⟩, ⟨k3, n⟩⟩ := F
  exact ⟨a.keep K, b.keep K, c.keep K, d.keep K, e.keep K q1, f.keep K q1, g.keep K q1, i.keep K q1, ⟨k1, j.keep K q2⟩, ⟨k2, m.keep K q3⟩, ⟨k3, n.keep K q4⟩⟩
theorem own_kpS {Z : State} {h h' : Heap} {b : Addr} {sf : List Addr} (K : Keep h h' [b]) (m : b ∈ sf) : ∃ ws, Keep h h' ws ∧ ∀ x ∈ ws, Wok Z h sf x := ⟨_, K, fun y hy => by rw [List.mem_singleton.mp hy]; exact Or.inl m⟩
theorem own_kpE {Z : State} {h h' : Heap} {t : Addr} {sf : List Addr} (K : Keep h h' [t]) (E : Exa Z h t "com/example/spanmask/spanmask/ledger/TextColumn") : ∃ ws, Keep h h' ws ∧ ∀ x ∈ ws, Wok Z h sf x := ⟨_, K, fun y hy => by rw [List.mem_singleton.mp hy]; exact Or.inr ⟨_, E, by decide, by decide⟩⟩
theorem own_kpC {Z : State} {h h' : Heap} {t ch ck en : Addr} {ws : List Int32} {es : List Value} {z : Int32} {sf : List Addr} (K : Keep h h' [t, ck, en]) (Q : COL Z h t ch ck en ws es z) : ∃ ws, Keep h h' ws ∧ ∀ x ∈ ws, Wok Z h sf x := ⟨_, K, fun y hy => by
  simp only [List.mem_cons, List.not_mem_nil, or_false] at hy
  rcases hy with rfl | rfl | rfl
  · exact Or.inr ⟨_, Q.1, by decide, by decide⟩
  · exact Or.inr ⟨_, Q.2.2.1, by decide, by decide⟩
  · exact Or.inr ⟨_, Q.2.2.2.1, by decide, by decide⟩⟩
theorem own_cp {ws cs : List Int32} (h : ws.length + cs.length ≤ 256) : ∀ i, ((ws ++ cs).map Value.int).getD i (.int (0 : Int32)) = (cpd (cs.map .int) (ws.map .int) 0 ws.length cs.length 256 (.int (0 : Int32))).getD i (.int (0 : Int32)) := fun i => by
  unfold cpd
  simp only [List.getD_eq_getElem?_getD, List.getElem?_map]
  by_cases hi : i < 256
  · rw [List.getElem?_range hi]
    simp only [Option.map_some, Option.getD_some]
    by_cases u : ws.length ≤ i ∧ i < ws.length + cs.length
    · rw [if_pos u, List.getElem?_append_right u.1]; simp
    · rw [if_neg u]
      by_cases v : i < ws.length
      · rw [List.getElem?_append_left v]
      · rw [List.getElem?_eq_none (by rw [List.length_append]; omega), List.getElem?_eq_none (by omega)]
  · rw [List.getElem?_eq_none (by rw [List.length_append]; omega), List.getElem?_eq_none (by simp; omega)]
    rfl
theorem own_f16 {P : Nat → Prop} (h : ∀ k : Fin 16, P k) {n : Nat} (q : n ≤ 15) : P n := h ⟨n, by omega⟩
theorem own_r1 {n : Nat} (q : n ≤ 15) : ¬ (0 : Int32).toInt64 < (((Int64.ofNat n).toUInt64 >>> ((22 : Int32) &&& 63).toInt64.toUInt64).toInt64) := own_f16 (P := fun n => ¬ (0 : Int32).toInt64 < (((Int64.ofNat n).toUInt64 >>> ((22 : Int32) &&& 63).toInt64.toUInt64).toInt64)) (by decide +kernel) q
theorem own_l1' {n : Nat} (q : n ≤ 15) : (Int64.ofNat n &&& (4194303 : Int64)).toInt32 = Int32.ofNat n := own_f16 (P := fun n => (Int64.ofNat n &&& (4194303 : Int64)).toInt32 = Int32.ofNat n) (by decide +kernel) q
theorem own_l1 {n : Nat} (q : n ≤ 10) : (Int64.ofNat n &&& (4194303 : Int64)).toInt32 = Int32.ofNat n := own_l1' (by omega)
theorem own_r2 {n : Nat} (q : n ≤ 15) : ¬ (Int64.ofNat n &&& (4194303 : Int64)).toInt32 = (256 : Int32) := own_f16 (P := fun n => ¬ (Int64.ofNat n &&& (4194303 : Int64)).toInt32 = (256 : Int32)) (by decide +kernel) q
theorem own_h0 {n : Nat} (q : n ≤ 15) : (((Int64.ofNat n).toUInt64 >>> ((22 : Int32) &&& 63).toInt64.toUInt64).toInt64).toInt32 = (0 : Int32) := own_f16 (P := fun n => (((Int64.ofNat n).toUInt64 >>> ((22 : Int32) &&& 63).toInt64.toUInt64).toInt64).toInt32 = (0 : Int32)) (by decide +kernel) q
theorem own_mn {L n : Nat} (q : L ≤ 10) (q2 : n ≤ 5) : ¬ ((256 : Int32) - Int32.ofNat L) < Int32.ofNat n := (by decide +kernel : ∀ (L : Fin 11) (n : Fin 6), ¬ ((256 : Int32) - Int32.ofNat L) < Int32.ofNat n) ⟨L, by omega⟩ ⟨n, by omega⟩
theorem own_l2 {ws cs : List Int32} (q : ws.length ≤ 10) (q2 : cs.length ≤ 5) : Int64.ofNat ws.length + (Int32.ofNat cs.length).toInt64 = Int64.ofNat (ws ++ cs).length := by
  rw [List.length_append]
  exact (by decide +kernel : ∀ (L : Fin 11) (n : Fin 6), Int64.ofNat L + (Int32.ofNat n).toInt64 = Int64.ofNat (L + n)) ⟨_, by omega⟩ ⟨_, by omega⟩
theorem own_nil {cs : List Int32} (q : ¬ (0 : Int32) < Int32.ofNat cs.length) (h : cs.length ≤ 5) : cs = [] := by
  rcases Nat.eq_zero_or_pos cs.length with e | e
  · exact List.eq_nil_of_length_eq_zero e
  · exact absurd (own_lt (a := 0) e (by omega)) q
theorem own_cv {ws : List Int32} {p : Nat} {x : Int32} (hx : ws.getD p 0 = x) (hp : p < 2147483648) : (ws.map Value.int).getD (Int32.ofNat p).toNatClampNeg (.int (0 : Int32)) = .int x := by
  rw [own_cl hp, ← hx]
  simp only [List.getD_eq_getElem?_getD, List.getElem?_map]
  cases ws[p]? <;> rfl
/-- the hash of a list of chars -/
def hsh (cs : List Int32) : Int32 := cs.foldl (fun h c => (31 : Int32) * h + c) 0
theorem own_hs {M : List Int32} {j : Nat} (hj : j < M.length) : (31 : Int32) * hsh (M.take j) + M.getD j 0 = hsh (M.take (j + 1)) := by
  unfold hsh
  rw [List.take_add_one, List.foldl_append, List.getD_eq_getElem?_getD, List.getElem?_eq_getElem hj]
  rfl
theorem own_j1 {a j : Nat} : Int64.ofNat (a + j) + (1 : Int64) = Int64.ofNat (a + (j + 1)) := by
  rw [← Nat.add_assoc]; exact (Int64.ofNat_add _ 1).symm
theorem own_mid {ws A M B : List Int32} {j : Nat} (h : ws = A ++ M ++ B) (hj : j < M.length) : ws.getD (A.length + j) 0 = M.getD j 0 := by
  rw [h, List.getD_eq_getElem?_getD, List.getD_eq_getElem?_getD, List.append_assoc, List.getElem?_append_right (by omega), Nat.add_sub_cancel_left, List.getElem?_append_left hj]
theorem own_mem {M : List Int32} {j : Nat} (h : ∀ c ∈ M, Chr c) (hj : j < M.length) : Chr (M.getD j 0) := by
  rw [List.getD_eq_getElem?_getD, List.getElem?_eq_getElem hj]; exact h _ (List.getElem_mem hj)
theorem own_ti64 {k : Nat} (hk : k < 9223372036854775808) : (Int64.ofNat k).toInt = k := Int64.toInt_ofNat_of_lt hk
theorem own_lt64 {a b : Nat} (h : a < b) (hb : b < 2147483648) : Int64.ofNat a < Int64.ofNat b := by rw [Int64.lt_iff_toInt_lt, own_ti64 (by omega), own_ti64 (by omega)]; omega
theorem own_nlt64 {a b : Nat} (h : b ≤ a) (hb : a < 2147483648) : ¬ Int64.ofNat a < Int64.ofNat b := by rw [Int64.lt_iff_toInt_lt, own_ti64 (by omega), own_ti64 (k := b) (by omega)]; omega
theorem own_l5 {n : Nat} {a b c d e : Int32} (_ : n < 6) : (List.take n [a, b, c, d, e]).length ≤ 5 := by rw [List.length_take]; exact Nat.min_le_right _ _
theorem own_tk {n : Nat} {a b c d e : Int32} (h1 : Chr a) (h2 : Chr b) (h3 : Chr c) (h4 : Chr d) (h5 : Chr e) : ∀ x ∈ List.take n [a, b, c, d, e], Chr x := fun x hx => by
  have hx := List.mem_of_mem_take hx
  simp only [List.mem_cons, List.not_mem_nil, or_false] at hx
  rcases hx with rfl | rfl | rfl | rfl | rfl <;> assumption
theorem own_ll0 : ([] : List Int32).length ≤ 10 := by decide
theorem own_ll1 {n : Nat} {a b c d e : Int32} : (([] : List Int32) ++ List.take n [a, b, c, d, e]).length ≤ 10 := by simp only [List.length_append, List.length_take, List.length_cons, List.length_nil]; omega
theorem own_ll2 {n m : Nat} {a b c d e f g i j k : Int32} : ((([] : List Int32) ++ List.take n [a, b, c, d, e]) ++ List.take m [f, g, i, j, k]).length ≤ 10 := by simp only [List.length_append, List.length_take, List.length_cons, List.length_nil]; omega
theorem own_l15 {n m : Nat} {a b c d e f g i j k : Int32} (_ : n < 6) (_ : m < 6) : (((([] : List Int32) ++ List.take n [a, b, c, d, e]) ++ List.take m [f, g, i, j, k]) ++ List.take n [a, b, c, d, e]).length ≤ 15 := by simp only [List.length_append, List.length_take, List.length_cons, List.length_nil]; omega
theorem own_rem8 (x : Int32) : ∃ k : Nat, k < 6 ∧ ((x.toUInt32 >>> ((8 : Int32) &&& 31).toUInt32).toInt32) % (6 : Int32) = Int32.ofNat k := by
  have e : ((x.toUInt32 >>> ((8 : Int32) &&& 31).toUInt32).toInt32) = Int32.ofNat (x.toBitVec.toNat / 256) := by
    apply own_eqN
    have hx := x.toBitVec.isLt
    rw [own_bvN (by omega)]
    show (x.toUInt32 >>> ((8 : Int32) &&& 31).toUInt32).toNat = _
    rw [UInt32.toNat_shiftRight, show ((8 : Int32) &&& 31).toUInt32.toNat % 32 = 8 from by decide, Nat.shiftRight_eq_div_pow]
    rfl
  have hx := x.toBitVec.isLt
  rw [e]
  have h1 : (Int32.ofNat (x.toBitVec.toNat / 256) % (6 : Int32)).toInt = ((x.toBitVec.toNat / 256 % 6 : Nat) : Int) := by
    rw [Int32.toInt_mod, own_ti (by omega), show (6 : Int32).toInt = 6 from rfl]
    rw [Int.tmod_eq_emod_of_nonneg (by omega)]; omega
  obtain ⟨k, k1, k2, k3⟩ := own_ex (x := Int32.ofNat (x.toBitVec.toNat / 256) % (6 : Int32)) (lo := 0) (hi := 5) (by rw [h1]; omega) (by rw [h1]; omega)
  exact ⟨k, by omega, k3⟩
theorem own_ne0 {args : Array Value} {s : State} {t : Term} {k : Int32} (ev : t.eval args s none [] s = some (.int k)) (h : (Jvm.Cond.not (Jvm.Cond.eq t (.int (0 : Int32)))).value args s none s [] = some true) : ¬ k = 0 := by
  rintro rfl
  simp [Cond.value, Term.eval, ev] at h
theorem own_isRef {args : Array Value} {s : State} {t : Term} (h : (Jvm.Cond.isRef t).value args s none s [] = some true) : ∃ v, t.eval args s none [] s = some v ∧ v.isRef = true := by
  simp only [Cond.value, Option.bind_eq_bind, Option.bind_eq_some_iff, Option.map_eq_some_iff] at h
  obtain ⟨v, e, q⟩ := h
  exact ⟨v, e, by cases v <;> simp_all [Value.isRef]⟩

theorem oT {α : Type _} {l : List α} {a : α} (i : Nat) (h : l[i]? = some a) : a ∈ l := List.mem_of_getElem? h
theorem oL {a b : Nat} (h : Nat.ble a b = true) : a ≤ b := Nat.le_of_ble_eq_true h
abbrev oR (a b c d : Nat) : Room := { frames := a, cells := b, slots := c, locals := d }
abbrev oH (Z : State) (a0 : Array Value) : Prop := ∀ d ∈ tables_1, d.before a0 Z = true
abbrev oZ : Value := .int (0 : Int32)
abbrev oB (x : Int32) : Int32 := nar .byte x.toInt8.toInt32
abbrev oB0 (x : Int32) : Int32 := nar .byte (x >>> ((0 : Int32) &&& 31)).toInt8.toInt32
abbrev oB8 (x : Int32) : Int32 := nar .byte (x >>> ((8 : Int32) &&& 31)).toInt8.toInt32
abbrev oSC (Z : State) (cst : Int32) : Prop := Sta Z Z.heap "java/lang/String" "COMPACT_STRINGS" "Z" (.int cst)
abbrev oSQ (Z : State) (fv : Value) : Prop := Sta Z Z.heap "jdk/internal/util/Preconditions" "SIOOBE_FORMATTER" "Ljava/util/function/BiFunction;" fv
abbrev oS0 (Z : State) : Prop := Sta Z Z.heap "java/lang/StringUTF16" "$assertionsDisabled" "Z" (.int (1 : Int32))
abbrev oS1 (Z : State) : Prop := Sta Z Z.heap "java/lang/StringUTF16" "HI_BYTE_SHIFT" "I" (.int (0 : Int32))
abbrev oS2 (Z : State) : Prop := Sta Z Z.heap "java/lang/StringUTF16" "LO_BYTE_SHIFT" "I" (.int (8 : Int32))
abbrev oM0 : MethodName := ⟨"java/lang/StringUTF16", "compress", "([CI[BII)I"⟩
abbrev oM1 : MethodName := ⟨"java/lang/StringUTF16", "newBytesLength", "(I)I"⟩
abbrev oM2 : MethodName := ⟨"java/lang/StringUTF16", "newBytesFor", "(I)[B"⟩
abbrev oM3 : MethodName := ⟨"java/lang/StringUTF16", "putChar", "([BII)V"⟩
abbrev oM4 : MethodName := ⟨"java/lang/StringUTF16", "getChar", "([BI)C"⟩
abbrev oM5 : MethodName := ⟨"java/lang/StringUTF16", "toBytes", "([CII)[B"⟩
abbrev oM6 : MethodName := ⟨"java/lang/StringUTF16", "compress", "([CII)[B"⟩
abbrev oM7 : MethodName := ⟨"java/lang/StringUTF16", "coderFromArrayLen", "([BI)B"⟩
abbrev oM8 : MethodName := ⟨"java/lang/String", "<init>", "([CIILjava/lang/Void;)V"⟩
abbrev oM9 : MethodName := ⟨"java/lang/String", "<init>", "([C)V"⟩
abbrev oM10 : MethodName := ⟨"java/lang/String", "coder", "()B"⟩
abbrev oM11 : MethodName := ⟨"java/lang/String", "isLatin1", "()Z"⟩
abbrev oM12 : MethodName := ⟨"java/lang/String", "length", "()I"⟩
abbrev oM13 : MethodName := ⟨"jdk/internal/util/Preconditions", "checkFromIndexSize", "(IIILjava/util/function/BiFunction;)I"⟩
abbrev oM14 : MethodName := ⟨"java/lang/String", "checkBoundsOffCount", "(III)I"⟩
abbrev oM15 : MethodName := ⟨"java/lang/StringUTF16", "length", "([B)I"⟩
abbrev oM16 : MethodName := ⟨"java/lang/StringUTF16", "checkBoundsOffCount", "(II[B)V"⟩
abbrev oM17 : MethodName := ⟨"java/lang/StringUTF16", "getChars", "([BII[CI)V"⟩
abbrev oM18 : MethodName := ⟨"java/lang/StringUTF16", "toChars", "([B)[C"⟩
abbrev oM19 : MethodName := ⟨"java/lang/String", "toCharArray", "()[C"⟩
abbrev oM20 : MethodName := ⟨"java/lang/StringLatin1", "inflate", "([BI[CII)V"⟩
abbrev oM21 : MethodName := ⟨"java/lang/StringLatin1", "toChars", "([B)[C"⟩
abbrev oM22 : MethodName := ⟨"com/example/spanmask/spanmask/ledger/TextColumn", "<init>", "()V"⟩
abbrev oM23 : MethodName := ⟨"com/example/spanmask/spanmask/ledger/TextColumn", "room", "()[C"⟩
abbrev oM24 : MethodName := ⟨"java/lang/Math", "min", "(II)I"⟩
abbrev oM25 : MethodName := ⟨"com/example/spanmask/spanmask/ledger/TextColumn", "append", "([CII)V"⟩
abbrev oM26 : MethodName := ⟨"com/example/spanmask/spanmask/ledger/TextColumn", "add", "(Ljava/lang/String;)V"⟩
abbrev oM27 : MethodName := ⟨"com/example/spanmask/spanmask/ledger/TextColumn", "end", "()V"⟩
abbrev oM28 : MethodName := ⟨"com/example/spanmask/spanmask/ledger/TextColumn", "charAt", "(J)C"⟩
abbrev oM29 : MethodName := ⟨"com/example/spanmask/spanmask/ledger/TextColumn", "start", "(I)J"⟩
abbrev oM30 : MethodName := ⟨"com/example/spanmask/spanmask/ledger/TextColumn", "hash", "(I)I"⟩
abbrev oM31 : MethodName := ⟨"com/example/spanmask/spanmask/ledger/TextColumnHashPinLaw", "ref", "(ICCCCC)I"⟩
abbrev oM32 : MethodName := ⟨"com/example/spanmask/spanmask/ledger/TextColumnHashPinLaw", "make", "(ICCCCC)Ljava/lang/String;"⟩
abbrev oC0 : ByteArray := jdk_52_method_21_code
abbrev oC1 : ByteArray := jdk_52_method_3_code
abbrev oC2 : ByteArray := jdk_52_method_2_code
abbrev oC3 : ByteArray := jdk_52_method_4_code
abbrev oC4 : ByteArray := jdk_52_method_5_code
abbrev oC5 : ByteArray := jdk_52_method_14_code
abbrev oC6 : ByteArray := jdk_52_method_16_code
abbrev oC7 : ByteArray := jdk_52_method_15_code
abbrev oC8 : ByteArray := jdk_42_method_149_code
abbrev oC9 : ByteArray := jdk_42_method_3_code
abbrev oC10 : ByteArray := jdk_42_method_152_code
abbrev oC11 : ByteArray := jdk_42_method_154_code
abbrev oC12 : ByteArray := jdk_42_method_54_code
abbrev oC13 : ByteArray := jdk_41_method_13_code
abbrev oC14 : ByteArray := jdk_42_method_157_code
abbrev oC15 : ByteArray := jdk_52_method_6_code
abbrev oC16 : ByteArray := jdk_52_method_94_code
abbrev oC17 : ByteArray := jdk_52_method_26_code
abbrev oC18 : ByteArray := jdk_52_method_13_code
abbrev oC19 : ByteArray := jdk_42_method_129_code
abbrev oC20 : ByteArray := jdk_43_method_49_code
abbrev oC21 : ByteArray := jdk_43_method_9_code
abbrev oC22 : ByteArray := prog_49_method_1_code
abbrev oC23 : ByteArray := prog_49_method_14_code
abbrev oC24 : ByteArray := jdk_29_method_69_code
abbrev oC25 : ByteArray := prog_49_method_12_code
abbrev oC26 : ByteArray := prog_49_method_13_code
abbrev oC27 : ByteArray := prog_49_method_2_code
abbrev oC28 : ByteArray := prog_49_method_10_code
abbrev oC29 : ByteArray := prog_49_method_8_code
abbrev oC30 : ByteArray := prog_49_method_6_code
abbrev oC31 : ByteArray := method_4_code
abbrev oC32 : ByteArray := method_3_code
abbrev oK0 (w : Wk) (Z : State) (a0 : Array Value) : Prop := Cx w Z a0 "java/lang/StringUTF16" jdk_52_method_21_code 7 (some .int) "compress"
abbrev oK1 (w : Wk) (Z : State) (a0 : Array Value) : Prop := Cx w Z a0 "java/lang/StringUTF16" jdk_52_method_3_code 1 (some .int) "newBytesLength"
abbrev oK2 (w : Wk) (Z : State) (a0 : Array Value) : Prop := Cx w Z a0 "java/lang/StringUTF16" jdk_52_method_2_code 1 (some (.array .byte)) "newBytesFor"
abbrev oK3 (w : Wk) (Z : State) (a0 : Array Value) : Prop := Cx w Z a0 "java/lang/StringUTF16" jdk_52_method_4_code 3 none "putChar"
abbrev oK4 (w : Wk) (Z : State) (a0 : Array Value) : Prop := Cx w Z a0 "java/lang/StringUTF16" jdk_52_method_5_code 2 (some .char) "getChar"
abbrev oK5 (w : Wk) (Z : State) (a0 : Array Value) : Prop := Cx w Z a0 "java/lang/StringUTF16" jdk_52_method_14_code 5 (some (.array .byte)) "toBytes"
abbrev oK6 (w : Wk) (Z : State) (a0 : Array Value) : Prop := Cx w Z a0 "java/lang/StringUTF16" jdk_52_method_16_code 6 (some (.array .byte)) "compress"
abbrev oK7 (w : Wk) (Z : State) (a0 : Array Value) : Prop := Cx w Z a0 "java/lang/StringUTF16" jdk_52_method_15_code 2 (some .byte) "coderFromArrayLen"
abbrev oK8 (w : Wk) (Z : State) (a0 : Array Value) : Prop := Cx w Z a0 "java/lang/String" jdk_42_method_149_code 6 none "<init>"
abbrev oK9 (w : Wk) (Z : State) (a0 : Array Value) : Prop := Cx w Z a0 "java/lang/String" jdk_42_method_3_code 2 none "<init>"
abbrev oK10 (w : Wk) (Z : State) (a0 : Array Value) : Prop := Cx w Z a0 "java/lang/String" jdk_42_method_152_code 1 (some .byte) "coder"
abbrev oK11 (w : Wk) (Z : State) (a0 : Array Value) : Prop := Cx w Z a0 "java/lang/String" jdk_42_method_154_code 1 (some .boolean) "isLatin1"
abbrev oK12 (w : Wk) (Z : State) (a0 : Array Value) : Prop := Cx w Z a0 "java/lang/String" jdk_42_method_54_code 1 (some .int) "length"
abbrev oK13 (w : Wk) (Z : State) (a0 : Array Value) : Prop := Cx w Z a0 "jdk/internal/util/Preconditions" jdk_41_method_13_code 4 (some .int) "checkFromIndexSize"
abbrev oK14 (w : Wk) (Z : State) (a0 : Array Value) : Prop := Cx w Z a0 "java/lang/String" jdk_42_method_157_code 3 (some .int) "checkBoundsOffCount"
abbrev oK15 (w : Wk) (Z : State) (a0 : Array Value) : Prop := Cx w Z a0 "java/lang/StringUTF16" jdk_52_method_6_code 1 (some .int) "length"
abbrev oK16 (w : Wk) (Z : State) (a0 : Array Value) : Prop := Cx w Z a0 "java/lang/StringUTF16" jdk_52_method_94_code 3 none "checkBoundsOffCount"
abbrev oK17 (w : Wk) (Z : State) (a0 : Array Value) : Prop := Cx w Z a0 "java/lang/StringUTF16" jdk_52_method_26_code 6 none "getChars"
abbrev oK18 (w : Wk) (Z : State) (a0 : Array Value) : Prop := Cx w Z a0 "java/lang/StringUTF16" jdk_52_method_13_code 2 (some (.array .char)) "toChars"
abbrev oK19 (w : Wk) (Z : State) (a0 : Array Value) : Prop := Cx w Z a0 "java/lang/String" jdk_42_method_129_code 1 (some (.array .char)) "toCharArray"
abbrev oK20 (w : Wk) (Z : State) (a0 : Array Value) : Prop := Cx w Z a0 "java/lang/StringLatin1" jdk_43_method_49_code 6 none "inflate"
abbrev oK21 (w : Wk) (Z : State) (a0 : Array Value) : Prop := Cx w Z a0 "java/lang/StringLatin1" jdk_43_method_9_code 2 (some (.array .char)) "toChars"
abbrev oK22 (w : Wk) (Z : State) (a0 : Array Value) : Prop := Cx w Z a0 "com/example/spanmask/spanmask/ledger/TextColumn" prog_49_method_1_code 1 none "<init>"
abbrev oK23 (w : Wk) (Z : State) (a0 : Array Value) : Prop := Cx w Z a0 "com/example/spanmask/spanmask/ledger/TextColumn" prog_49_method_14_code 3 (some (.array .char)) "room"
abbrev oK24 (w : Wk) (Z : State) (a0 : Array Value) : Prop := Cx w Z a0 "java/lang/Math" jdk_29_method_69_code 2 (some .int) "min"
abbrev oK25 (w : Wk) (Z : State) (a0 : Array Value) : Prop := Cx w Z a0 "com/example/spanmask/spanmask/ledger/TextColumn" prog_49_method_12_code 8 none "append"
abbrev oK26 (w : Wk) (Z : State) (a0 : Array Value) : Prop := Cx w Z a0 "com/example/spanmask/spanmask/ledger/TextColumn" prog_49_method_13_code 1 none "end"
abbrev oK27 (w : Wk) (Z : State) (a0 : Array Value) : Prop := Cx w Z a0 "com/example/spanmask/spanmask/ledger/TextColumn" prog_49_method_2_code 2 none "add"
abbrev oK28 (w : Wk) (Z : State) (a0 : Array Value) : Prop := Cx w Z a0 "com/example/spanmask/spanmask/ledger/TextColumn" prog_49_method_10_code 3 (some .char) "charAt"
abbrev oK29 (w : Wk) (Z : State) (a0 : Array Value) : Prop := Cx w Z a0 "com/example/spanmask/spanmask/ledger/TextColumn" prog_49_method_8_code 2 (some .long) "start"
abbrev oK30 (w : Wk) (Z : State) (a0 : Array Value) : Prop := Cx w Z a0 "com/example/spanmask/spanmask/ledger/TextColumn" prog_49_method_6_code 5 (some .int) "hash"
abbrev oK31 (w : Wk) (Z : State) (a0 : Array Value) : Prop := Cx w Z a0 "com/example/spanmask/spanmask/ledger/TextColumnHashPinLaw" method_4_code 7 (some .int) "ref"
abbrev oK32 (w : Wk) (Z : State) (a0 : Array Value) : Prop := Cx w Z a0 "com/example/spanmask/spanmask/ledger/TextColumnHashPinLaw" method_3_code 6 (some (.object "java/lang/String")) "make"
abbrev oK33 (w : Wk) (Z : State) (a0 : Array Value) : Prop := Cx w Z a0 "com/example/spanmask/spanmask/ledger/TextColumnHashPinLaw" code 23 (some .boolean) "law"
section OwnWalks
set_option maxRecDepth 65536
set_option maxHeartbeats 40000000
theorem pd_0 : parseMethodDescriptor "(I)I" = some ⟨[.int], some .int⟩ := by decide +kernel
theorem pd_1 : parseMethodDescriptor "(I)[B" = some ⟨[.int], some (.array .byte)⟩ := by decide +kernel
theorem pd_2 : parseMethodDescriptor "([BII)V" = some ⟨[(.array .byte), .int, .int], none⟩ := by decide +kernel
theorem pd_3 : parseMethodDescriptor "([CI[BII)I" = some ⟨[(.array .char), .int, (.array .byte), .int, .int], some .int⟩ := by decide +kernel
theorem pd_4 : parseMethodDescriptor "([CII)[B" = some ⟨[(.array .char), .int, .int], some (.array .byte)⟩ := by decide +kernel
theorem pd_5 : parseMethodDescriptor "([BI)C" = some ⟨[(.array .byte), .int], some .char⟩ := by decide +kernel
theorem pd_6 : parseMethodDescriptor "([BI)B" = some ⟨[(.array .byte), .int], some .byte⟩ := by decide +kernel
theorem pd_7 : parseMethodDescriptor "([CIILjava/lang/Void;)V" = some ⟨[(.array .char), .int, .int, (.object "java/lang/Void")], none⟩ := by decide +kernel
theorem pd_8 : parseMethodDescriptor "()B" = some ⟨[], some .byte⟩ := by decide +kernel
theorem pd_9 : parseMethodDescriptor "(IIILjava/util/function/BiFunction;)I" = some ⟨[.int, .int, .int, (.object "java/util/function/BiFunction")], some .int⟩ := by decide +kernel
theorem pd_10 : parseMethodDescriptor "([B)I" = some ⟨[(.array .byte)], some .int⟩ := by decide +kernel
theorem pd_11 : parseMethodDescriptor "(III)I" = some ⟨[.int, .int, .int], some .int⟩ := by decide +kernel
theorem pd_12 : parseMethodDescriptor "(II[B)V" = some ⟨[.int, .int, (.array .byte)], none⟩ := by decide +kernel
theorem pd_13 : parseMethodDescriptor "([BII[CI)V" = some ⟨[(.array .byte), .int, .int, (.array .char), .int], none⟩ := by decide +kernel
theorem pd_14 : parseMethodDescriptor "()Z" = some ⟨[], some .boolean⟩ := by decide +kernel
theorem pd_15 : parseMethodDescriptor "([B)[C" = some ⟨[(.array .byte)], some (.array .char)⟩ := by decide +kernel
theorem pd_16 : parseMethodDescriptor "([BI[CII)V" = some ⟨[(.array .byte), .int, (.array .char), .int, .int], none⟩ := by decide +kernel
theorem pd_17 : parseMethodDescriptor "()[C" = some ⟨[], some (.array .char)⟩ := by decide +kernel
theorem pd_18 : parseMethodDescriptor "(II)I" = some ⟨[.int, .int], some .int⟩ := by decide +kernel
theorem pd_19 : parseMethodDescriptor "()I" = some ⟨[], some .int⟩ := by decide +kernel
theorem pd_20 : parseMethodDescriptor "([CII)V" = some ⟨[(.array .char), .int, .int], none⟩ := by decide +kernel
theorem pd_21 : parseMethodDescriptor "()V" = some ⟨[], none⟩ := by decide +kernel
theorem pd_22 : parseMethodDescriptor "(J)C" = some ⟨[.long], some .char⟩ := by decide +kernel
theorem pd_23 : parseMethodDescriptor "(I)J" = some ⟨[.int], some .long⟩ := by decide +kernel
theorem pd_24 : parseMethodDescriptor "([C)V" = some ⟨[(.array .char)], none⟩ := by decide +kernel
theorem pd_25 : parseMethodDescriptor "(ICCCCC)Ljava/lang/String;" = some ⟨[.int, .char, .char, .char, .char, .char], some (.object "java/lang/String")⟩ := by decide +kernel
theorem pd_26 : parseMethodDescriptor "(ICCCCC)I" = some ⟨[.int, .char, .char, .char, .char, .char], some .int⟩ := by decide +kernel
theorem pd_27 : parseMethodDescriptor "(Ljava/lang/String;)V" = some ⟨[(.object "java/lang/String")], none⟩ := by decide +kernel
theorem d19_0 : decode oC0 0 = .ok (.iconst 0, 1) := by decide +kernel
theorem d19_1 : decode oC0 1 = .ok (.istore 5, 2) := by decide +kernel
theorem d19_3 : decode oC0 3 = .ok (.iload 5, 2) := by decide +kernel
theorem d19_5 : decode oC0 5 = .ok (.iload 4, 2) := by decide +kernel
theorem d19_7 : decode oC0 7 = .ok (.if_icmp .ge 37, 3) := by decide +kernel
theorem d19_10 : decode oC0 10 = .ok (.aload_n 0, 1) := by decide +kernel
theorem d19_11 : decode oC0 11 = .ok (.iload_n 1, 1) := by decide +kernel
theorem d19_12 : decode oC0 12 = .ok (.caload, 1) := by decide +kernel
theorem d19_13 : decode oC0 13 = .ok (.istore 6, 2) := by decide +kernel
theorem d19_15 : decode oC0 15 = .ok (.iload 6, 2) := by decide +kernel
theorem d19_17 : decode oC0 17 = .ok (.sipush 255, 3) := by decide +kernel
theorem d19_20 : decode oC0 20 = .ok (.if_icmp .le 6, 3) := by decide +kernel
theorem d19_23 : decode oC0 23 = .ok (.iload 5, 2) := by decide +kernel
theorem d19_25 : decode oC0 25 = .ok (.ireturn, 1) := by decide +kernel
theorem pn_m_cpr1_0 : plainName "java/lang/StringUTF16" = true := by first | (simp [plainName, overriddenIn]; done) | decide +kernel
theorem m_cpr1_0 (l : Launch) (Z : State) (a0 : Array Value) (hw : oH Z a0) (n0 : Nat) (h0 : Heap) (c b : Addr) (kc k : ClassId) (x0 : Int32) (X0 : Old Z n0 h0) (Ec : Exa Z h0 c "[C") (Ac : Arv Z h0 c kc .char (1 : Int32) [(.int x0)] oZ) (Eb : Exa Z h0 b "[B") (Ab : Arv Z h0 b k .byte (1 : Int32) [oZ] oZ) (gb : n0 ≤ b) (bx : (255 : Int32) < x0) :
    Met l Z oM0 oC0 7 (some .int) (oR 0 0 0 0) n0 [] #[(.ref c), oZ, (.ref b), oZ, (.int (1 : Int32))] h0 (fun v h => v = some (.int (0 : Int32)) ∧ Keep h0 h [b]) := by
  refine Met.intro (Ls := #[.val (.ref c), .val oZ, .val (.ref b), .val oZ, .val (.int (1 : Int32)), .unset, .unset]) (plainFor_of_name pn_m_cpr1_0) hw (fun m => by first | (simp [entryFrame, mkF, argsToLocals, Value.category]; done) | rfl) ?_
  intro w K0
  have K : oK0 w Z a0 := K0
  have K1 := Keep.refl h0 [b]
  refine Rn.iconst K (q := 1) (0 : Int32) d19_0 rfl rfl ?_
  refine Rn.istore K (q := 3) (Ls' := #[.val (.ref c), .val oZ, .val (.ref b), .val oZ, .val (.int (1 : Int32)), .val oZ, .unset]) d19_1 rfl rfl ?_
  refine Rn.iload K (q := 5) d19_3 rfl rfl ?_
  refine Rn.iload K (q := 7) d19_5 rfl rfl ?_
  refine Rn.icN K (q := 10) d19_7 (XT.ii_ge_f (by decide)) rfl ?_
  refine Rn.aloadN K (q := 11) d19_10 rfl rfl rfl ?_
  refine Rn.iloadN K (q := 12) d19_11 rfl rfl ?_
  refine Rn.caload K (q := 13) (v := (.int x0)) Ac (by decide) rfl d19_12 rfl ?_
  refine Rn.istore K (q := 15) (Ls' := #[.val (.ref c), .val oZ, .val (.ref b), .val oZ, .val (.int (1 : Int32)), .val oZ, .val (.int x0)]) d19_13 rfl rfl ?_
  refine Rn.iload K (q := 17) d19_15 rfl rfl ?_
  refine Rn.sipush K (q := 20) (255 : Int32) d19_17 rfl rfl ?_
  refine Rn.icN K (q := 23) d19_20 (XT.ii_le_f bx) rfl ?_
  refine Rn.iload K (q := 25) d19_23 rfl rfl ?_
  exact Rn.retI K rfl d19_25 (by decide) (by decide) ⟨rfl, K1⟩
theorem d19_26 : decode oC0 26 = .ok (.aload_n 2, 1) := by decide +kernel
theorem d19_27 : decode oC0 27 = .ok (.iload_n 3, 1) := by decide +kernel
theorem d19_28 : decode oC0 28 = .ok (.iload 6, 2) := by decide +kernel
theorem d19_30 : decode oC0 30 = .ok (.i2b, 1) := by decide +kernel
theorem d19_31 : decode oC0 31 = .ok (.bastore, 1) := by decide +kernel
theorem d19_32 : decode oC0 32 = .ok (.iinc 1 1, 3) := by decide +kernel
theorem d19_35 : decode oC0 35 = .ok (.iinc 3 1, 3) := by decide +kernel
theorem d19_38 : decode oC0 38 = .ok (.iinc 5 1, 3) := by decide +kernel
theorem d19_41 : decode oC0 41 = .ok (.goto (-38), 3) := by decide +kernel
theorem d19_44 : decode oC0 44 = .ok (.iload 4, 2) := by decide +kernel
theorem d19_46 : decode oC0 46 = .ok (.ireturn, 1) := by decide +kernel
theorem m_cpr1_1 (l : Launch) (Z : State) (a0 : Array Value) (hw : oH Z a0) (n0 : Nat) (h0 : Heap) (c b : Addr) (kc k : ClassId) (x0 : Int32) (X0 : Old Z n0 h0) (Ec : Exa Z h0 c "[C") (Ac : Arv Z h0 c kc .char (1 : Int32) [(.int x0)] oZ) (Eb : Exa Z h0 b "[B") (Ab : Arv Z h0 b k .byte (1 : Int32) [oZ] oZ) (gb : n0 ≤ b) (hx0 : ¬ (255 : Int32) < x0) :
    Met l Z oM0 oC0 7 (some .int) (oR 0 0 0 0) n0 [] #[(.ref c), oZ, (.ref b), oZ, (.int (1 : Int32))] h0 (fun v h => v = some (.int (1 : Int32)) ∧ Keep h0 h [b] ∧ Arv Z h b k .byte (1 : Int32) [(.int (oB x0))] oZ) := by
  refine Met.intro (Ls := #[.val (.ref c), .val oZ, .val (.ref b), .val oZ, .val (.int (1 : Int32)), .unset, .unset]) (plainFor_of_name pn_m_cpr1_0) hw (fun m => by first | (simp [entryFrame, mkF, argsToLocals, Value.category]; done) | rfl) ?_
  intro w K0
  have K : oK0 w Z a0 := K0
  have K1 := Keep.refl h0 [b]
  refine Rn.iconst K (q := 1) (0 : Int32) d19_0 rfl rfl ?_
  refine Rn.istore K (q := 3) (Ls' := #[.val (.ref c), .val oZ, .val (.ref b), .val oZ, .val (.int (1 : Int32)), .val oZ, .unset]) d19_1 rfl rfl ?_
  refine Rn.iload K (q := 5) d19_3 rfl rfl ?_
  refine Rn.iload K (q := 7) d19_5 rfl rfl ?_
  refine Rn.icN K (q := 10) d19_7 (XT.ii_ge_f (by decide)) rfl ?_
  refine Rn.aloadN K (q := 11) d19_10 rfl rfl rfl ?_
  refine Rn.iloadN K (q := 12) d19_11 rfl rfl ?_
  refine Rn.caload K (q := 13) (v := (.int x0)) Ac (by decide) rfl d19_12 rfl ?_
  refine Rn.istore K (q := 15) (Ls' := #[.val (.ref c), .val oZ, .val (.ref b), .val oZ, .val (.int (1 : Int32)), .val oZ, .val (.int x0)]) d19_13 rfl rfl ?_
  refine Rn.iload K (q := 17) d19_15 rfl rfl ?_
  refine Rn.sipush K (q := 20) (255 : Int32) d19_17 rfl rfl ?_
  refine Rn.icY K (q := 26) d19_20 (XT.ii_le_t hx0) (by decide) (by decide) ?_
  refine Rn.aloadN K (q := 27) d19_26 rfl rfl rfl ?_
  refine Rn.iloadN K (q := 28) d19_27 rfl rfl ?_
  refine Rn.iload K (q := 30) d19_28 rfl rfl ?_
  refine Rn.i2b K (q := 31) d19_30 rfl ?_
  refine Rn.bastoreB K (q := 32) (i := 0) Ab (by decide) rfl (oL rfl) gb d19_31 rfl ?_
  intro h1 W2 A3
  have f5 := K1.wr W2 (Or.inl (oT 0 rfl))
  replace A3 : Arv Z h1 b k .byte (1 : Int32) [(.int (oB x0))] oZ := A3
  refine Rn.iinc K (q := 35) (Ls' := #[.val (.ref c), .val (.int (1 : Int32)), .val (.ref b), .val oZ, .val (.int (1 : Int32)), .val oZ, .val (.int x0)]) (1 : Int32) d19_32 rfl rfl rfl rfl ?_
  refine Rn.iinc K (q := 38) (Ls' := #[.val (.ref c), .val (.int (1 : Int32)), .val (.ref b), .val (.int (1 : Int32)), .val (.int (1 : Int32)), .val oZ, .val (.int x0)]) (1 : Int32) d19_35 rfl rfl rfl rfl ?_
  refine Rn.iinc K (q := 41) (Ls' := #[.val (.ref c), .val (.int (1 : Int32)), .val (.ref b), .val (.int (1 : Int32)), .val (.int (1 : Int32)), .val (.int (1 : Int32)), .val (.int x0)]) (1 : Int32) d19_38 rfl rfl rfl rfl ?_
  refine Rn.goto K (q := 3) d19_41 (by decide) (by decide) ?_
  refine Rn.iload K (q := 5) d19_3 rfl rfl ?_
  refine Rn.iload K (q := 7) d19_5 rfl rfl ?_
  refine Rn.icY K (q := 44) d19_7 (XT.ii_ge_t (by decide)) (by decide) (by decide) ?_
  refine Rn.iload K (q := 46) d19_44 rfl rfl ?_
  exact Rn.retI K rfl d19_46 (by decide) (by decide) ⟨rfl, f5, A3⟩
theorem d26_0 : decode oC1 0 = .ok (.iload_n 0, 1) := by decide +kernel
theorem d26_1 : decode oC1 1 = .ok (.ifCond .ge 11, 3) := by decide +kernel
theorem d26_12 : decode oC1 12 = .ok (.iload_n 0, 1) := by decide +kernel
theorem d26_13 : decode oC1 13 = .ok (.ldc 20, 2) := by decide +kernel
theorem d26_15 : decode oC1 15 = .ok (.if_icmp .lt 40, 3) := by decide +kernel
theorem d26_55 : decode oC1 55 = .ok (.iload_n 0, 1) := by decide +kernel
theorem d26_56 : decode oC1 56 = .ok (.iconst 1, 1) := by decide +kernel
theorem d26_57 : decode oC1 57 = .ok (.ishl, 1) := by decide +kernel
theorem d26_58 : decode oC1 58 = .ok (.ireturn, 1) := by decide +kernel
theorem m_nbl1 (l : Launch) (Z : State) (a0 : Array Value) (hw : oH Z a0) (n0 : Nat) (h0 : Heap)  (X0 : Old Z n0 h0) :
    Met l Z oM1 oC1 1 (some .int) (oR 0 0 0 0) n0 [] #[(.int (1 : Int32))] h0 (fun v h => v = some (.int (2 : Int32)) ∧ h0 = h) := by
  refine Met.intro (Ls := #[.val (.int (1 : Int32))]) (plainFor_of_name pn_m_cpr1_0) hw (fun _ => rfl) ?_
  intro w K0
  have K : oK1 w Z a0 := K0
  refine Rn.iloadN K (q := 1) d26_0 rfl rfl ?_
  refine Rn.ifY K (q := 12) d26_1 (XT.i0_ge_t (by decide)) (by decide) (by decide) ?_
  refine Rn.iloadN K (q := 13) d26_12 rfl rfl ?_
  refine Rn.ldcI K (q := 15) (1073741823 : Int32) (oT 136 rfl) d26_13 rfl ?_
  refine Rn.icY K (q := 55) d26_15 (XT.ii_lt_t (by decide)) (by decide) (by decide) ?_
  refine Rn.iloadN K (q := 56) d26_55 rfl rfl ?_
  refine Rn.iconst K (q := 57) (1 : Int32) d26_56 rfl rfl ?_
  refine Rn.ishl K (q := 58) d26_57 rfl ?_
  rw [show ((1 : Int32) <<< ((1 : Int32) &&& 31)) = (2 : Int32) from by decide]
  show Rn w l _ n0 _ 58 _ [(.int (2 : Int32))] h0 0 0
  exact Rn.retI K rfl d26_58 (by decide) (by decide) ⟨rfl, rfl⟩
theorem d25_0 : decode oC2 0 = .ok (.iload_n 0, 1) := by decide +kernel
theorem d25_1 : decode oC2 1 = .ok (.invokestatic 11, 3) := by decide +kernel
theorem d25_4 : decode oC2 4 = .ok (.newarray .byte, 2) := by decide +kernel
theorem d25_6 : decode oC2 6 = .ok (.areturn, 1) := by decide +kernel
theorem m_nbf1 (l : Launch) (Z : State) (a0 : Array Value) (hw : oH Z a0) (n0 : Nat) (h0 : Heap)  (X0 : Old Z n0 h0) :
    Met l Z oM2 oC2 1 (some (.array .byte)) (oR 1 1 2 12) n0 [] #[(.int (1 : Int32))] h0 (fun v h => ∃ b k, v = some (.ref b) ∧ h0.size ≤ b ∧ Keep h0 h [] ∧ Exa Z h b "[B" ∧ Arv Z h b k .byte (2 : Int32) [oZ, oZ] oZ) := by
  refine Met.intro (Ls := #[.val (.int (1 : Int32))]) (plainFor_of_name pn_m_cpr1_0) hw (fun _ => rfl) ?_
  intro w K0
  have K : oK2 w Z a0 := K0
  have K1 := Keep.refl h0 []
  refine Rn.iloadN K (q := 1) d25_0 rfl rfl ?_
  refine Rn.stat K (q := 4) (W := 0) (y := oM1) (argsL := [(.int (1 : Int32))]) (rest := []) (oT 133 rfl) (oT 134 rfl) (oT 135 rfl) (oT 102 rfl) (by decide) (m_nbl1 l Z a0 hw n0 h0 X0) (by decide) (by decide) rfl (lenOf pd_0 rfl) rfl (oL rfl) d25_1 rfl (by decide) (by decide) ?_
  rintro _ _ ⟨rfl, rfl⟩
  show Rn w l _ n0 _ 4 _ [(.int (2 : Int32))] h0 0 0
  refine Rn.newP K (q := 6) (cap := 2) (oT 21 rfl) (by decide) (by decide) (by decide) (by decide) (by decide) (ad := "[B") (by decide) d25_4 rfl ?_
  intro b1 h2 k4 gb1_ X3 A_b1 EA_b1
  have sz_b1 : h0.size ≤ b1 := by rw [gb1_]; exact K1.1
  have f6 := K1.ext X3
  replace A_b1 : Arv Z h2 b1 k4 .byte (2 : Int32) [oZ, oZ] oZ := A_b1.pad (pad_rep [] oZ 2)
  show Rn w l _ n0 _ 6 _ [(.ref b1)] h2 1 2
  exact Rn.retA K (.array .byte) rfl rfl rfl d25_6 (by decide) (by decide) ⟨_, _, rfl, sz_b1, f6, EA_b1, A_b1⟩
theorem d27_0 : decode oC3 0 = .ok (.getstatic 44, 3) := by decide +kernel
theorem d27_3 : decode oC3 3 = .ok (.ifCond .ne 25, 3) := by decide +kernel
theorem d27_28 : decode oC3 28 = .ok (.iload_n 1, 1) := by decide +kernel
theorem d27_29 : decode oC3 29 = .ok (.iconst 1, 1) := by decide +kernel
theorem d27_30 : decode oC3 30 = .ok (.ishl, 1) := by decide +kernel
theorem d27_31 : decode oC3 31 = .ok (.istore_n 1, 1) := by decide +kernel
theorem d27_32 : decode oC3 32 = .ok (.aload_n 0, 1) := by decide +kernel
theorem d27_33 : decode oC3 33 = .ok (.iload_n 1, 1) := by decide +kernel
theorem d27_34 : decode oC3 34 = .ok (.iinc 1 1, 3) := by decide +kernel
theorem d27_37 : decode oC3 37 = .ok (.iload_n 2, 1) := by decide +kernel
theorem d27_38 : decode oC3 38 = .ok (.getstatic 59, 3) := by decide +kernel
theorem d27_41 : decode oC3 41 = .ok (.ishr, 1) := by decide +kernel
theorem d27_42 : decode oC3 42 = .ok (.i2b, 1) := by decide +kernel
theorem d27_43 : decode oC3 43 = .ok (.bastore, 1) := by decide +kernel
theorem d27_44 : decode oC3 44 = .ok (.aload_n 0, 1) := by decide +kernel
theorem d27_45 : decode oC3 45 = .ok (.iload_n 1, 1) := by decide +kernel
theorem d27_46 : decode oC3 46 = .ok (.iload_n 2, 1) := by decide +kernel
theorem d27_47 : decode oC3 47 = .ok (.getstatic 63, 3) := by decide +kernel
theorem d27_50 : decode oC3 50 = .ok (.ishr, 1) := by decide +kernel
theorem d27_51 : decode oC3 51 = .ok (.i2b, 1) := by decide +kernel
theorem d27_52 : decode oC3 52 = .ok (.bastore, 1) := by decide +kernel
theorem d27_53 : decode oC3 53 = .ok (.return_, 1) := by decide +kernel
theorem m_put1_0 (l : Launch) (Z : State) (a0 : Array Value) (hw : oH Z a0) (n0 : Nat) (h0 : Heap) (b : Addr) (k : ClassId) (x y0 y1 : Int32) (X0 : Old Z n0 h0) (SA : oS0 Z) (SH : oS1 Z) (SW : oS2 Z) (Ab : Arv Z h0 b k .byte (2 : Int32) [(.int y0), (.int y1)] oZ) (gb : n0 ≤ b) :
    Met l Z oM3 oC3 3 none (oR 0 0 0 0) n0 [] #[(.ref b), oZ, (.int x)] h0 (fun v h => v = none ∧ Keep h0 h [b] ∧ Arv Z h b k .byte (2 : Int32) [(.int (oB0 x)), (.int (oB8 x))] oZ) := by
  refine Met.intro (Ls := #[.val (.ref b), .val oZ, .val (.int x)]) (plainFor_of_name pn_m_cpr1_0) hw (fun _ => rfl) ?_
  intro w K0
  have K : oK3 w Z a0 := K0
  have K1 := Keep.refl h0 [b]
  refine Rn.getS K (q := 3) (oT 140 rfl) (SA.ext X0.2) d27_0 rfl ?_
  refine Rn.ifY K (q := 28) d27_3 (XT.i0_ne_t (by decide)) (by decide) (by decide) ?_
  refine Rn.iloadN K (q := 29) d27_28 rfl rfl ?_
  refine Rn.iconst K (q := 30) (1 : Int32) d27_29 rfl rfl ?_
  refine Rn.ishl K (q := 31) d27_30 rfl ?_
  rw [show ((0 : Int32) <<< ((1 : Int32) &&& 31)) = (0 : Int32) from by decide]
  show Rn w l _ n0 _ 31 _ [oZ] h0 0 0
  refine Rn.istoreN K (q := 32) (Ls' := #[.val (.ref b), .val oZ, .val (.int x)]) d27_31 rfl rfl ?_
  refine Rn.aloadN K (q := 33) d27_32 rfl rfl rfl ?_
  refine Rn.iloadN K (q := 34) d27_33 rfl rfl ?_
  refine Rn.iinc K (q := 37) (Ls' := #[.val (.ref b), .val (.int (1 : Int32)), .val (.int x)]) (1 : Int32) d27_34 rfl rfl rfl rfl ?_
  refine Rn.iloadN K (q := 38) d27_37 rfl rfl ?_
  refine Rn.getS K (q := 41) (oT 141 rfl) (SH.ext X0.2) d27_38 rfl ?_
  refine Rn.ishr K (q := 42) d27_41 rfl ?_
  refine Rn.i2b K (q := 43) d27_42 rfl ?_
  refine Rn.bastoreB K (q := 44) (i := 0) Ab (by decide) rfl (oL rfl) gb d27_43 rfl ?_
  intro h1 W2 A3
  have f4 := X0.wr W2 gb
  have f5 := K1.wr W2 (Or.inl (oT 0 rfl))
  replace A3 : Arv Z h1 b k .byte (2 : Int32) [(.int (oB0 x)), (.int y1)] oZ := A3
  refine Rn.aloadN K (q := 45) d27_44 rfl rfl rfl ?_
  refine Rn.iloadN K (q := 46) d27_45 rfl rfl ?_
  refine Rn.iloadN K (q := 47) d27_46 rfl rfl ?_
  refine Rn.getS K (q := 50) (oT 142 rfl) (SW.ext f4.2) d27_47 rfl ?_
  refine Rn.ishr K (q := 51) d27_50 rfl ?_
  refine Rn.i2b K (q := 52) d27_51 rfl ?_
  refine Rn.bastoreB K (q := 53) (i := 1) A3 (by decide) rfl (oL rfl) gb d27_52 rfl ?_
  intro h6 W7 A8
  have f10 := f5.wr W7 (Or.inl (oT 0 rfl))
  replace A8 : Arv Z h6 b k .byte (2 : Int32) [(.int (oB0 x)), (.int (oB8 x))] oZ := A8
  exact Rn.retV K rfl d27_53 (by decide) (by decide) ⟨rfl, f10, A8⟩
theorem d28_0 : decode oC4 0 = .ok (.getstatic 44, 3) := by decide +kernel
theorem d28_3 : decode oC4 3 = .ok (.ifCond .ne 25, 3) := by decide +kernel
theorem d28_28 : decode oC4 28 = .ok (.iload_n 1, 1) := by decide +kernel
theorem d28_29 : decode oC4 29 = .ok (.iconst 1, 1) := by decide +kernel
theorem d28_30 : decode oC4 30 = .ok (.ishl, 1) := by decide +kernel
theorem d28_31 : decode oC4 31 = .ok (.istore_n 1, 1) := by decide +kernel
theorem d28_32 : decode oC4 32 = .ok (.aload_n 0, 1) := by decide +kernel
theorem d28_33 : decode oC4 33 = .ok (.iload_n 1, 1) := by decide +kernel
theorem d28_34 : decode oC4 34 = .ok (.iinc 1 1, 3) := by decide +kernel
theorem d28_37 : decode oC4 37 = .ok (.baload, 1) := by decide +kernel
theorem d28_38 : decode oC4 38 = .ok (.sipush 255, 3) := by decide +kernel
theorem d28_41 : decode oC4 41 = .ok (.iand, 1) := by decide +kernel
theorem d28_42 : decode oC4 42 = .ok (.getstatic 59, 3) := by decide +kernel
theorem d28_45 : decode oC4 45 = .ok (.ishl, 1) := by decide +kernel
theorem d28_46 : decode oC4 46 = .ok (.aload_n 0, 1) := by decide +kernel
theorem d28_47 : decode oC4 47 = .ok (.iload_n 1, 1) := by decide +kernel
theorem d28_48 : decode oC4 48 = .ok (.baload, 1) := by decide +kernel
theorem d28_49 : decode oC4 49 = .ok (.sipush 255, 3) := by decide +kernel
theorem d28_52 : decode oC4 52 = .ok (.iand, 1) := by decide +kernel
theorem d28_53 : decode oC4 53 = .ok (.getstatic 63, 3) := by decide +kernel
theorem d28_56 : decode oC4 56 = .ok (.ishl, 1) := by decide +kernel
theorem d28_57 : decode oC4 57 = .ok (.ior, 1) := by decide +kernel
theorem d28_58 : decode oC4 58 = .ok (.i2c, 1) := by decide +kernel
theorem d28_59 : decode oC4 59 = .ok (.ireturn, 1) := by decide +kernel
theorem m_gch1_0 (l : Launch) (Z : State) (a0 : Array Value) (hw : oH Z a0) (n0 : Nat) (h0 : Heap) (b : Addr) (k : ClassId) (x0 : Int32) (X0 : Old Z n0 h0) (SA : oS0 Z) (SH : oS1 Z) (SW : oS2 Z) (Ab : Arv Z h0 b k .byte (2 : Int32) [(.int (oB0 x0)), (.int (oB8 x0))] oZ) (cx : Chr x0) :
    Met l Z oM4 oC4 2 (some .char) (oR 0 0 0 0) n0 [] #[(.ref b), oZ] h0 (fun v h => v = some (.int x0) ∧ h0 = h) := by
  refine Met.intro (Ls := #[.val (.ref b), .val oZ]) (plainFor_of_name pn_m_cpr1_0) hw (fun _ => rfl) ?_
  intro w K0
  have K : oK4 w Z a0 := K0
  refine Rn.getS K (q := 3) (oT 140 rfl) (SA.ext X0.2) d28_0 rfl ?_
  refine Rn.ifY K (q := 28) d28_3 (XT.i0_ne_t (by decide)) (by decide) (by decide) ?_
  refine Rn.iloadN K (q := 29) d28_28 rfl rfl ?_
  refine Rn.iconst K (q := 30) (1 : Int32) d28_29 rfl rfl ?_
  refine Rn.ishl K (q := 31) d28_30 rfl ?_
  rw [show ((0 : Int32) <<< ((1 : Int32) &&& 31)) = (0 : Int32) from by decide]
  show Rn w l _ n0 _ 31 _ [oZ] h0 0 0
  refine Rn.istoreN K (q := 32) (Ls' := #[.val (.ref b), .val oZ]) d28_31 rfl rfl ?_
  refine Rn.aloadN K (q := 33) d28_32 rfl rfl rfl ?_
  refine Rn.iloadN K (q := 34) d28_33 rfl rfl ?_
  refine Rn.iinc K (q := 37) (Ls' := #[.val (.ref b), .val (.int (1 : Int32))]) (1 : Int32) d28_34 rfl rfl rfl rfl ?_
  refine Rn.baloadB K (q := 38) (v := (.int (oB0 x0))) Ab (by decide) rfl d28_37 rfl ?_
  refine Rn.sipush K (q := 41) (255 : Int32) d28_38 rfl rfl ?_
  refine Rn.iand K (q := 42) d28_41 rfl ?_
  refine Rn.getS K (q := 45) (oT 141 rfl) (SH.ext X0.2) d28_42 rfl ?_
  refine Rn.ishl K (q := 46) d28_45 rfl ?_
  refine Rn.aloadN K (q := 47) d28_46 rfl rfl rfl ?_
  refine Rn.iloadN K (q := 48) d28_47 rfl rfl ?_
  refine Rn.baloadB K (q := 49) (v := (.int (oB8 x0))) Ab (by decide) rfl d28_48 rfl ?_
  refine Rn.sipush K (q := 52) (255 : Int32) d28_49 rfl rfl ?_
  refine Rn.iand K (q := 53) d28_52 rfl ?_
  refine Rn.getS K (q := 56) (oT 142 rfl) (SW.ext X0.2) d28_53 rfl ?_
  refine Rn.ishl K (q := 57) d28_56 rfl ?_
  refine Rn.ior K (q := 58) d28_57 rfl ?_
  refine Rn.i2c K (q := 59) d28_58 rfl ?_
  exact Rn.retN K .char rfl (by simp) d28_59 (by decide) (by decide) ⟨by rw [own_gc cx], rfl⟩
theorem d24_0 : decode oC5 0 = .ok (.iload_n 2, 1) := by decide +kernel
theorem d24_1 : decode oC5 1 = .ok (.invokestatic 107, 3) := by decide +kernel
theorem d24_4 : decode oC5 4 = .ok (.astore_n 3, 1) := by decide +kernel
theorem d24_5 : decode oC5 5 = .ok (.iconst 0, 1) := by decide +kernel
theorem d24_6 : decode oC5 6 = .ok (.istore 4, 2) := by decide +kernel
theorem d24_8 : decode oC5 8 = .ok (.iload 4, 2) := by decide +kernel
theorem d24_10 : decode oC5 10 = .ok (.iload_n 2, 1) := by decide +kernel
theorem d24_11 : decode oC5 11 = .ok (.if_icmp .ge 21, 3) := by decide +kernel
theorem d24_14 : decode oC5 14 = .ok (.aload_n 3, 1) := by decide +kernel
theorem d24_15 : decode oC5 15 = .ok (.iload 4, 2) := by decide +kernel
theorem d24_17 : decode oC5 17 = .ok (.aload_n 0, 1) := by decide +kernel
theorem d24_18 : decode oC5 18 = .ok (.iload_n 1, 1) := by decide +kernel
theorem d24_19 : decode oC5 19 = .ok (.caload, 1) := by decide +kernel
theorem d24_20 : decode oC5 20 = .ok (.invokestatic 111, 3) := by decide +kernel
theorem d24_23 : decode oC5 23 = .ok (.iinc 1 1, 3) := by decide +kernel
theorem d24_26 : decode oC5 26 = .ok (.iinc 4 1, 3) := by decide +kernel
theorem d24_29 : decode oC5 29 = .ok (.goto (-21), 3) := by decide +kernel
theorem d24_32 : decode oC5 32 = .ok (.aload_n 3, 1) := by decide +kernel
theorem d24_33 : decode oC5 33 = .ok (.areturn, 1) := by decide +kernel
theorem m_tob1 (l : Launch) (Z : State) (a0 : Array Value) (hw : oH Z a0) (n0 : Nat) (h0 : Heap) (c : Addr) (kc : ClassId) (x0 : Int32) (X0 : Old Z n0 h0) (SA : oS0 Z) (SH : oS1 Z) (SW : oS2 Z) (Ec : Exa Z h0 c "[C") (Ac : Arv Z h0 c kc .char (1 : Int32) [(.int x0)] oZ) :
    Met l Z oM5 oC5 5 (some (.array .byte)) (oR 2 1 2 24) n0 [] #[(.ref c), oZ, (.int (1 : Int32))] h0 (fun v h => ∃ b k, v = some (.ref b) ∧ h0.size ≤ b ∧ Keep h0 h [] ∧ Exa Z h b "[B" ∧ Arv Z h b k .byte (2 : Int32) [(.int (oB0 x0)), (.int (oB8 x0))] oZ) := by
  refine Met.intro (Ls := #[.val (.ref c), .val oZ, .val (.int (1 : Int32)), .unset, .unset]) (plainFor_of_name pn_m_cpr1_0) hw (fun _ => rfl) ?_
  intro w K0
  have K : oK5 w Z a0 := K0
  have K1 := Keep.refl h0 []
  refine Rn.iloadN K (q := 1) d24_0 rfl rfl ?_
  refine Rn.stat K (q := 4) (W := 0) (y := oM2) (argsL := [(.int (1 : Int32))]) (rest := []) (oT 130 rfl) (oT 131 rfl) (oT 132 rfl) (oT 102 rfl) (by decide) (m_nbf1 l Z a0 hw n0 h0 X0) (by decide) (by decide) rfl (lenOf pd_1 rfl) rfl (oL rfl) d24_1 rfl (by decide) (by decide) ?_
  rintro _ h1 ⟨b, k, rfl, sz, Kn, Eb, Ab⟩
  have f1 := X0.keep Kn all0
  have f2 := K1.trans Kn all0
  have f4 := Ac.keep Kn nin0
  show Rn w l _ n0 _ 4 _ [(.ref b)] h1 1 2
  refine Rn.astoreN K (q := 5) (Ls' := #[.val (.ref c), .val oZ, .val (.int (1 : Int32)), .val (.ref b), .unset]) d24_4 rfl rfl rfl ?_
  refine Rn.iconst K (q := 6) (0 : Int32) d24_5 rfl rfl ?_
  refine Rn.istore K (q := 8) (Ls' := #[.val (.ref c), .val oZ, .val (.int (1 : Int32)), .val (.ref b), .val oZ]) d24_6 rfl rfl ?_
  refine Rn.iload K (q := 10) d24_8 rfl rfl ?_
  refine Rn.iloadN K (q := 11) d24_10 rfl rfl ?_
  refine Rn.icN K (q := 14) d24_11 (XT.ii_ge_f (by decide)) rfl ?_
  refine Rn.aloadN K (q := 15) d24_14 rfl rfl rfl ?_
  refine Rn.iload K (q := 17) d24_15 rfl rfl ?_
  refine Rn.aloadN K (q := 18) d24_17 rfl rfl rfl ?_
  refine Rn.iloadN K (q := 19) d24_18 rfl rfl ?_
  refine Rn.caload K (q := 20) (v := (.int x0)) f4 (by decide) rfl d24_19 rfl ?_
  refine Rn.stat K (q := 23) (W := 0) (y := oM3) (argsL := [(.ref b), oZ, (.int x0)]) (rest := []) (oT 137 rfl) (oT 138 rfl) (oT 139 rfl) (oT 102 rfl) (by decide) (m_put1_0 l Z a0 hw n0 h1 b k x0 (0 : Int32) (0 : Int32) f1 SA SH SW Ab (own_g X0 sz)) (by decide) (by decide) rfl (lenOf pd_2 rfl) rfl (oL rfl) d24_20 rfl (by decide) (by decide) ?_
  rintro _ h5 ⟨rfl, K6, A7⟩
  have f9 := f2.trans K6 (allS (Or.inr sz) all0)
  have f12 := Eb.keep K6
  show Rn w l _ n0 _ 23 _ [] h5 1 2
  refine Rn.iinc K (q := 26) (Ls' := #[.val (.ref c), .val (.int (1 : Int32)), .val (.int (1 : Int32)), .val (.ref b), .val oZ]) (1 : Int32) d24_23 rfl rfl rfl rfl ?_
  refine Rn.iinc K (q := 29) (Ls' := #[.val (.ref c), .val (.int (1 : Int32)), .val (.int (1 : Int32)), .val (.ref b), .val (.int (1 : Int32))]) (1 : Int32) d24_26 rfl rfl rfl rfl ?_
  refine Rn.goto K (q := 8) d24_29 (by decide) (by decide) ?_
  refine Rn.iload K (q := 10) d24_8 rfl rfl ?_
  refine Rn.iloadN K (q := 11) d24_10 rfl rfl ?_
  refine Rn.icY K (q := 32) d24_11 (XT.ii_ge_t (by decide)) (by decide) (by decide) ?_
  refine Rn.aloadN K (q := 33) d24_32 rfl rfl rfl ?_
  exact Rn.retA K (.array .byte) rfl rfl rfl d24_33 (by decide) (by decide) ⟨_, _, rfl, sz, f9, f12, A7⟩
theorem d18_0 : decode oC6 0 = .ok (.iload_n 2, 1) := by decide +kernel
theorem d18_1 : decode oC6 1 = .ok (.newarray .byte, 2) := by decide +kernel
theorem d18_3 : decode oC6 3 = .ok (.astore_n 3, 1) := by decide +kernel
theorem d18_4 : decode oC6 4 = .ok (.aload_n 0, 1) := by decide +kernel
theorem d18_5 : decode oC6 5 = .ok (.iload_n 1, 1) := by decide +kernel
theorem d18_6 : decode oC6 6 = .ok (.aload_n 3, 1) := by decide +kernel
theorem d18_7 : decode oC6 7 = .ok (.iconst 0, 1) := by decide +kernel
theorem d18_8 : decode oC6 8 = .ok (.iload_n 2, 1) := by decide +kernel
theorem d18_9 : decode oC6 9 = .ok (.invokestatic 115, 3) := by decide +kernel
theorem d18_12 : decode oC6 12 = .ok (.istore 4, 2) := by decide +kernel
theorem d18_14 : decode oC6 14 = .ok (.iload 4, 2) := by decide +kernel
theorem d18_16 : decode oC6 16 = .ok (.iload_n 2, 1) := by decide +kernel
theorem d18_17 : decode oC6 17 = .ok (.if_icmp .eq 40, 3) := by decide +kernel
theorem d18_20 : decode oC6 20 = .ok (.aload_n 0, 1) := by decide +kernel
theorem d18_21 : decode oC6 21 = .ok (.iload_n 1, 1) := by decide +kernel
theorem d18_22 : decode oC6 22 = .ok (.iload_n 2, 1) := by decide +kernel
theorem d18_23 : decode oC6 23 = .ok (.invokestatic 119, 3) := by decide +kernel
theorem d18_26 : decode oC6 26 = .ok (.astore 5, 2) := by decide +kernel
theorem d18_28 : decode oC6 28 = .ok (.aload 5, 2) := by decide +kernel
theorem d18_30 : decode oC6 30 = .ok (.iload 4, 2) := by decide +kernel
theorem d18_32 : decode oC6 32 = .ok (.invokestatic 71, 3) := by decide +kernel
theorem d18_35 : decode oC6 35 = .ok (.sipush 255, 3) := by decide +kernel
theorem d18_38 : decode oC6 38 = .ok (.if_icmp .gt 16, 3) := by decide +kernel
theorem d18_54 : decode oC6 54 = .ok (.aload 5, 2) := by decide +kernel
theorem d18_56 : decode oC6 56 = .ok (.areturn, 1) := by decide +kernel
theorem m_cp1_0 (l : Launch) (Z : State) (a0 : Array Value) (hw : oH Z a0) (n0 : Nat) (h0 : Heap) (c : Addr) (kc : ClassId) (x0 : Int32) (X0 : Old Z n0 h0) (SA : oS0 Z) (SH : oS1 Z) (SW : oS2 Z) (Ec : Exa Z h0 c "[C") (Ac : Arv Z h0 c kc .char (1 : Int32) [(.int x0)] oZ) (cx0 : Chr x0) (bx : (255 : Int32) < x0) :
    Met l Z oM6 oC6 6 (some (.array .byte)) (oR 3 2 3 40) n0 [] #[(.ref c), oZ, (.int (1 : Int32))] h0 (fun v h => ∃ b k, v = some (.ref b) ∧ Keep h0 h [] ∧ Exa Z h b "[B" ∧ Arv Z h b k .byte (2 : Int32) [(.int (oB0 x0)), (.int (oB8 x0))] oZ) := by
  refine Met.intro (Ls := #[.val (.ref c), .val oZ, .val (.int (1 : Int32)), .unset, .unset, .unset]) (plainFor_of_name pn_m_cpr1_0) hw (fun _ => rfl) ?_
  intro w K0
  have K : oK6 w Z a0 := K0
  have K1 := Keep.refl h0 []
  refine Rn.iloadN K (q := 1) d18_0 rfl rfl ?_
  refine Rn.newP K (q := 3) (cap := 1) (oT 21 rfl) (by decide) (by decide) (by decide) (by decide) (by decide) (ad := "[B") (by decide) d18_1 rfl ?_
  intro b1 h2 k4 gb1_ X3 A_b1 EA_b1
  have ne_c_b1 : c ≠ b1 := fun e => absurd Ec.lt (by rw [e, gb1_]; exact Nat.lt_irrefl _)
  have ne_c_b1 : c ≠ b1 := fun e => absurd Ec.lt (by rw [e, gb1_]; exact Nat.lt_irrefl _)
  have g_b1 : n0 ≤ b1 := by rw [gb1_]; exact X0.1 ▸ X0.2.1
  have sz_b1 : h0.size ≤ b1 := by rw [gb1_]; exact K1.1
  have f5 := X0.ext X3
  have f6 := K1.ext X3
  have f7 := Ec.ext X3
  have f8 := Ac.ext X3
  replace A_b1 : Arv Z h2 b1 k4 .byte (1 : Int32) [oZ] oZ := A_b1.pad (pad_rep [] oZ 1)
  show Rn w l _ n0 _ 3 _ [(.ref b1)] h2 1 1
  refine Rn.astoreN K (q := 4) (Ls' := #[.val (.ref c), .val oZ, .val (.int (1 : Int32)), .val (.ref b1), .unset, .unset]) d18_3 rfl rfl rfl ?_
  refine Rn.aloadN K (q := 5) d18_4 rfl rfl rfl ?_
  refine Rn.iloadN K (q := 6) d18_5 rfl rfl ?_
  refine Rn.aloadN K (q := 7) d18_6 rfl rfl rfl ?_
  refine Rn.iconst K (q := 8) (0 : Int32) d18_7 rfl rfl ?_
  refine Rn.iloadN K (q := 9) d18_8 rfl rfl ?_
  refine Rn.stat K (q := 12) (W := 0) (y := oM0) (argsL := [(.ref c), oZ, (.ref b1), oZ, (.int (1 : Int32))]) (rest := []) (oT 104 rfl) (oT 105 rfl) (oT 106 rfl) (oT 102 rfl) (by decide) (m_cpr1_0 l Z a0 hw n0 h2 c b1 kc k4 x0 f5 f7 f8 EA_b1 A_b1 g_b1 bx) (by decide) (by decide) rfl (lenOf pd_3 rfl) rfl (oL rfl) d18_9 rfl (by decide) (by decide) ?_
  rintro _ h9 ⟨rfl, K10⟩
  have f12 := f5.keep K10 (allS g_b1 all0)
  have f13 := f6.trans K10 (allS (Or.inr sz_b1) all0)
  have f14 := f7.keep K10
  have f15 := f8.keep K10 (ninS ne_c_b1 nin0)
  show Rn w l _ n0 _ 12 _ [oZ] h9 1 1
  refine Rn.istore K (q := 14) (Ls' := #[.val (.ref c), .val oZ, .val (.int (1 : Int32)), .val (.ref b1), .val oZ, .unset]) d18_12 rfl rfl ?_
  refine Rn.iload K (q := 16) d18_14 rfl rfl ?_
  refine Rn.iloadN K (q := 17) d18_16 rfl rfl ?_
  refine Rn.icN K (q := 20) d18_17 (XT.ii_eq_f (by decide)) rfl ?_
  refine Rn.aloadN K (q := 21) d18_20 rfl rfl rfl ?_
  refine Rn.iloadN K (q := 22) d18_21 rfl rfl ?_
  refine Rn.iloadN K (q := 23) d18_22 rfl rfl ?_
  refine Rn.stat K (q := 26) (W := 0) (y := oM5) (argsL := [(.ref c), oZ, (.int (1 : Int32))]) (rest := []) (oT 127 rfl) (oT 128 rfl) (oT 129 rfl) (oT 102 rfl) (by decide) (m_tob1 l Z a0 hw n0 h9 c kc x0 f12 SA SH SW f14 f15) (by decide) (by decide) rfl (lenOf pd_4 rfl) rfl (oL rfl) d18_23 rfl (by decide) (by decide) ?_
  rintro _ h17 ⟨u, ku, rfl, -, K18, E19, A20⟩
  have f21 := f12.keep K18 all0
  have f22 := f13.trans K18 all0
  show Rn w l _ n0 _ 26 _ [(.ref u)] h17 2 3
  refine Rn.astore K (q := 28) (Ls' := #[.val (.ref c), .val oZ, .val (.int (1 : Int32)), .val (.ref b1), .val oZ, .val (.ref u)]) d18_26 rfl rfl rfl ?_
  refine Rn.aload K (q := 30) d18_28 rfl rfl rfl ?_
  refine Rn.iload K (q := 32) d18_30 rfl rfl ?_
  refine Rn.stat K (q := 35) (W := 0) (y := oM4) (argsL := [(.ref u), oZ]) (rest := []) (oT 143 rfl) (oT 144 rfl) (oT 145 rfl) (oT 102 rfl) (by decide) (m_gch1_0 l Z a0 hw n0 h17 u ku x0 f21 SA SH SW A20 cx0) (by decide) (by decide) rfl (lenOf pd_5 rfl) rfl (oL rfl) d18_32 rfl (by decide) (by decide) ?_
  rintro _ _ ⟨rfl, rfl⟩
  show Rn w l _ n0 _ 35 _ [(.int x0)] h17 2 3
  refine Rn.sipush K (q := 38) (255 : Int32) d18_35 rfl rfl ?_
  refine Rn.icY K (q := 54) d18_38 (XT.ii_gt_t bx) (by decide) (by decide) ?_
  refine Rn.aload K (q := 56) d18_54 rfl rfl rfl ?_
  exact Rn.retA K (.array .byte) rfl rfl rfl d18_56 (by decide) (by decide) ⟨_, _, rfl, f22, E19, A20⟩
theorem d18_57 : decode oC6 57 = .ok (.aload_n 3, 1) := by decide +kernel
theorem d18_58 : decode oC6 58 = .ok (.areturn, 1) := by decide +kernel
theorem m_cp1_1 (l : Launch) (Z : State) (a0 : Array Value) (hw : oH Z a0) (n0 : Nat) (h0 : Heap) (c : Addr) (kc : ClassId) (x0 : Int32) (X0 : Old Z n0 h0) (SA : oS0 Z) (SH : oS1 Z) (SW : oS2 Z) (Ec : Exa Z h0 c "[C") (Ac : Arv Z h0 c kc .char (1 : Int32) [(.int x0)] oZ) (cx0 : Chr x0) (hx0 : ¬ (255 : Int32) < x0) :
    Met l Z oM6 oC6 6 (some (.array .byte)) (oR 1 1 1 18) n0 [] #[(.ref c), oZ, (.int (1 : Int32))] h0 (fun v h => ∃ b k, v = some (.ref b) ∧ Keep h0 h [] ∧ Exa Z h b "[B" ∧ Arv Z h b k .byte (1 : Int32) [(.int (oB x0))] oZ) := by
  refine Met.intro (Ls := #[.val (.ref c), .val oZ, .val (.int (1 : Int32)), .unset, .unset, .unset]) (plainFor_of_name pn_m_cpr1_0) hw (fun _ => rfl) ?_
  intro w K0
  have K : oK6 w Z a0 := K0
  have K1 := Keep.refl h0 []
  refine Rn.iloadN K (q := 1) d18_0 rfl rfl ?_
  refine Rn.newP K (q := 3) (cap := 1) (oT 21 rfl) (by decide) (by decide) (by decide) (by decide) (by decide) (ad := "[B") (by decide) d18_1 rfl ?_
  intro b1 h2 k4 gb1_ X3 A_b1 EA_b1
  have ne_c_b1 : c ≠ b1 := fun e => absurd Ec.lt (by rw [e, gb1_]; exact Nat.lt_irrefl _)
  have ne_c_b1 : c ≠ b1 := fun e => absurd Ec.lt (by rw [e, gb1_]; exact Nat.lt_irrefl _)
  have g_b1 : n0 ≤ b1 := by rw [gb1_]; exact X0.1 ▸ X0.2.1
  have sz_b1 : h0.size ≤ b1 := by rw [gb1_]; exact K1.1
  have f5 := X0.ext X3
  have f6 := K1.ext X3
  have f7 := Ec.ext X3
  have f8 := Ac.ext X3
  replace A_b1 : Arv Z h2 b1 k4 .byte (1 : Int32) [oZ] oZ := A_b1.pad (pad_rep [] oZ 1)
  show Rn w l _ n0 _ 3 _ [(.ref b1)] h2 1 1
  refine Rn.astoreN K (q := 4) (Ls' := #[.val (.ref c), .val oZ, .val (.int (1 : Int32)), .val (.ref b1), .unset, .unset]) d18_3 rfl rfl rfl ?_
  refine Rn.aloadN K (q := 5) d18_4 rfl rfl rfl ?_
  refine Rn.iloadN K (q := 6) d18_5 rfl rfl ?_
  refine Rn.aloadN K (q := 7) d18_6 rfl rfl rfl ?_
  refine Rn.iconst K (q := 8) (0 : Int32) d18_7 rfl rfl ?_
  refine Rn.iloadN K (q := 9) d18_8 rfl rfl ?_
  refine Rn.stat K (q := 12) (W := 0) (y := oM0) (argsL := [(.ref c), oZ, (.ref b1), oZ, (.int (1 : Int32))]) (rest := []) (oT 104 rfl) (oT 105 rfl) (oT 106 rfl) (oT 102 rfl) (by decide) (m_cpr1_1 l Z a0 hw n0 h2 c b1 kc k4 x0 f5 f7 f8 EA_b1 A_b1 g_b1 hx0) (by decide) (by decide) rfl (lenOf pd_3 rfl) rfl (oL rfl) d18_9 rfl (by decide) (by decide) ?_
  rintro _ h9 ⟨rfl, K10, A11⟩
  have f13 := f6.trans K10 (allS (Or.inr sz_b1) all0)
  have f16 := EA_b1.keep K10
  show Rn w l _ n0 _ 12 _ [(.int (1 : Int32))] h9 1 1
  refine Rn.istore K (q := 14) (Ls' := #[.val (.ref c), .val oZ, .val (.int (1 : Int32)), .val (.ref b1), .val (.int (1 : Int32)), .unset]) d18_12 rfl rfl ?_
  refine Rn.iload K (q := 16) d18_14 rfl rfl ?_
  refine Rn.iloadN K (q := 17) d18_16 rfl rfl ?_
  refine Rn.icY K (q := 57) d18_17 (XT.ii_eq_t rfl) (by decide) (by decide) ?_
  refine Rn.aloadN K (q := 58) d18_57 rfl rfl rfl ?_
  exact Rn.retA K (.array .byte) rfl rfl rfl d18_58 (by decide) (by decide) ⟨_, _, rfl, f13, f16, A11⟩
theorem m_cpw1 (l : Launch) (Z : State) (a0 : Array Value) (hw : oH Z a0) (n0 : Nat) (h0 : Heap) (c : Addr) (kc : ClassId) (x0 : Int32) (X0 : Old Z n0 h0) (SA : oS0 Z) (SH : oS1 Z) (SW : oS2 Z) (Ec : Exa Z h0 c "[C") (Ac : Arv Z h0 c kc .char (1 : Int32) [(.int x0)] oZ) (cx0 : Chr x0) (hb : ¬ ∀ c ∈ [x0], ¬ (255 : Int32) < c) :
    Met l Z oM6 oC6 6 (some (.array .byte)) (oR 3 2 3 40) n0 [] #[(.ref c), oZ, (.int (1 : Int32))] h0 (fun v h => ∃ b k, v = some (.ref b) ∧ Keep h0 h [] ∧ Exa Z h b "[B" ∧ Arv Z h b k .byte (2 : Int32) [(.int (oB0 x0)), (.int (oB8 x0))] oZ) := by
  by_cases hx0 : (255 : Int32) < x0
  · exact m_cp1_0 l Z a0 hw n0 h0 c kc x0 X0 SA SH SW Ec Ac cx0 hx0
  exact absurd (by simp only [List.mem_cons, List.not_mem_nil, or_false]; intro c hc; rcases hc with rfl <;> assumption) hb
theorem d20_0 : decode oC7 0 = .ok (.iload_n 1, 1) := by decide +kernel
theorem d20_1 : decode oC7 1 = .ok (.aload_n 0, 1) := by decide +kernel
theorem d20_2 : decode oC7 2 = .ok (.arraylength, 1) := by decide +kernel
theorem d20_3 : decode oC7 3 = .ok (.isub, 1) := by decide +kernel
theorem d20_4 : decode oC7 4 = .ok (.bipush 31, 2) := by decide +kernel
theorem d20_6 : decode oC7 6 = .ok (.iushr, 1) := by decide +kernel
theorem d20_7 : decode oC7 7 = .ok (.i2b, 1) := by decide +kernel
theorem d20_8 : decode oC7 8 = .ok (.ireturn, 1) := by decide +kernel
theorem m_cfl1_1 (l : Launch) (Z : State) (a0 : Array Value) (hw : oH Z a0) (n0 : Nat) (h0 : Heap) (b : Addr) (k : ClassId) (x0 : Int32) (X0 : Old Z n0 h0) (Ab : Arv Z h0 b k .byte (2 : Int32) [(.int (oB0 x0)), (.int (oB8 x0))] oZ) :
    Met l Z oM7 oC7 2 (some .byte) (oR 0 0 0 0) n0 [] #[(.ref b), (.int (1 : Int32))] h0 (fun v h => v = some (.int (1 : Int32)) ∧ h0 = h) := by
  refine Met.intro (Ls := #[.val (.ref b), .val (.int (1 : Int32))]) (plainFor_of_name pn_m_cpr1_0) hw (fun _ => rfl) ?_
  intro w K0
  have K : oK7 w Z a0 := K0
  refine Rn.iloadN K (q := 1) d20_0 rfl rfl ?_
  refine Rn.aloadN K (q := 2) d20_1 rfl rfl rfl ?_
  refine Rn.arraylength K (q := 3) Ab d20_2 rfl ?_
  refine Rn.isub K (q := 4) d20_3 rfl ?_
  refine Rn.bipush K (q := 6) (31 : Int32) d20_4 rfl rfl ?_
  refine Rn.iushr K (q := 7) d20_6 rfl ?_
  refine Rn.i2b K (q := 8) d20_7 rfl ?_
  exact Rn.retN K .byte rfl (by simp) d20_8 (by decide) (by decide) ⟨by rw [show nar .byte ((((1 : Int32) - (2 : Int32)).toUInt32 >>> ((31 : Int32) &&& 31).toUInt32).toInt32).toInt8.toInt32 = 1 from by decide], rfl⟩
theorem d3_0 : decode oC8 0 = .ok (.aload_n 0, 1) := by decide +kernel
theorem d3_1 : decode oC8 1 = .ok (.invokespecial 1, 3) := by decide +kernel
theorem d3_4 : decode oC8 4 = .ok (.iload_n 3, 1) := by decide +kernel
theorem d3_5 : decode oC8 5 = .ok (.ifCond .ne 22, 3) := by decide +kernel
theorem d3_27 : decode oC8 27 = .ok (.getstatic 38, 3) := by decide +kernel
theorem d3_30 : decode oC8 30 = .ok (.ifCond .eq 28, 3) := by decide +kernel
theorem d3_33 : decode oC8 33 = .ok (.aload_n 1, 1) := by decide +kernel
theorem d3_34 : decode oC8 34 = .ok (.iload_n 2, 1) := by decide +kernel
theorem d3_35 : decode oC8 35 = .ok (.iload_n 3, 1) := by decide +kernel
theorem d3_36 : decode oC8 36 = .ok (.invokestatic 177, 3) := by decide +kernel
theorem d3_39 : decode oC8 39 = .ok (.astore 5, 2) := by decide +kernel
theorem d3_41 : decode oC8 41 = .ok (.aload_n 0, 1) := by decide +kernel
theorem d3_42 : decode oC8 42 = .ok (.aload 5, 2) := by decide +kernel
theorem d3_44 : decode oC8 44 = .ok (.iload_n 3, 1) := by decide +kernel
theorem d3_45 : decode oC8 45 = .ok (.invokestatic 47, 3) := by decide +kernel
theorem d3_48 : decode oC8 48 = .ok (.putfield 15, 3) := by decide +kernel
theorem d3_51 : decode oC8 51 = .ok (.aload_n 0, 1) := by decide +kernel
theorem d3_52 : decode oC8 52 = .ok (.aload 5, 2) := by decide +kernel
theorem d3_54 : decode oC8 54 = .ok (.putfield 9, 3) := by decide +kernel
theorem d3_57 : decode oC8 57 = .ok (.return_, 1) := by decide +kernel
theorem pn_m_iv1_1 : plainName "java/lang/String" = true := by first | (simp [plainName, overriddenIn]; done) | decide +kernel
theorem m_iv1_1 (l : Launch) (Z : State) (a0 : Array Value) (hw : oH Z a0) (n0 : Nat) (h0 : Heap) (s c : Addr) (kc : ClassId) (x0 : Int32) (cst : Int32) (X0 : Old Z n0 h0) (SC : oSC Z cst) (hcs : ¬ cst = 0) (Es : Exa Z h0 s "java/lang/String") (gs : n0 ≤ s) (Fv : Fld Z h0 s "java/lang/String" "value" "[B" .null) (Fc : Fld Z h0 s "java/lang/String" "coder" "B" (.int (0 : Int32))) (Ec : Exa Z h0 c "[C") (Ac : Arv Z h0 c kc .char (1 : Int32) [(.int x0)] oZ) (SA : oS0 Z) (SH : oS1 Z) (SW : oS2 Z) (cx0 : Chr x0) (ha : ¬ ∀ c ∈ [x0], ¬ (255 : Int32) < c) :
    Met l Z oM8 oC8 6 none (oR 4 2 3 57) n0 [] #[(.ref s), (.ref c), oZ, (.int (1 : Int32)), .null] h0 (fun r h => r = none ∧ Keep h0 h [s] ∧ ∃ v k, Fld Z h s "java/lang/String" "value" "[B" (.ref v) ∧ Fld Z h s "java/lang/String" "coder" "B" (.int (1 : Int32)) ∧ Arv Z h v k .byte (2 : Int32) [(.int (oB0 x0)), (.int (oB8 x0))] oZ) := by
  refine Met.intro (Ls := #[.val (.ref s), .val (.ref c), .val oZ, .val (.int (1 : Int32)), .val .null, .unset]) (plainFor_of_name pn_m_iv1_1) hw (fun m => by first | (simp [entryFrame, mkF, argsToLocals, Value.category]; done) | rfl) ?_
  intro w K0
  have K : oK8 w Z a0 := K0
  have K1 := Keep.refl h0 [s]
  refine Rn.aloadN K (q := 1) d3_0 rfl rfl rfl ?_
  refine Rn.initO K (q := 4) (W := 0) (oT 17 rfl) (oT 18 rfl) (oT 19 rfl) (by decide) (by decide) rfl (oL rfl) d3_1 rfl ?_
  refine Rn.iloadN K (q := 5) d3_4 rfl rfl ?_
  refine Rn.ifY K (q := 27) d3_5 (XT.i0_ne_t (by decide)) (by decide) (by decide) ?_
  refine Rn.getS K (q := 30) (oT 61 rfl) (SC.ext X0.2) d3_27 rfl ?_
  refine Rn.ifN K (q := 33) d3_30 (XT.i0_eq_f hcs) rfl ?_
  refine Rn.aloadN K (q := 34) d3_33 rfl rfl rfl ?_
  refine Rn.iloadN K (q := 35) d3_34 rfl rfl ?_
  refine Rn.iloadN K (q := 36) d3_35 rfl rfl ?_
  refine Rn.stat K (q := 39) (W := 0) (y := oM6) (argsL := [(.ref c), oZ, (.int (1 : Int32))]) (rest := []) (oT 100 rfl) (oT 101 rfl) (oT 103 rfl) (oT 102 rfl) (by decide) (m_cpw1 l Z a0 hw n0 h0 c kc x0 X0 SA SH SW Ec Ac cx0 ha) (by decide) (by decide) rfl (lenOf pd_4 rfl) rfl (oL rfl) d3_36 rfl (by decide) (by decide) ?_
  rintro _ h1 ⟨v, k, rfl, K2, E3, A4⟩
  have f5 := X0.keep K2 all0
  have f6 := K1.trans K2 all0
  have f7 := Es.keep K2
  have f8 := Fv.keep K2 nin0
  have f9 := Fc.keep K2 nin0
  show Rn w l _ n0 _ 39 _ [(.ref v)] h1 2 3
  refine Rn.astore K (q := 41) (Ls' := #[.val (.ref s), .val (.ref c), .val oZ, .val (.int (1 : Int32)), .val .null, .val (.ref v)]) d3_39 rfl rfl rfl ?_
  refine Rn.aloadN K (q := 42) d3_41 rfl rfl rfl ?_
  refine Rn.aload K (q := 44) d3_42 rfl rfl rfl ?_
  refine Rn.iloadN K (q := 45) d3_44 rfl rfl ?_
  refine Rn.stat K (q := 48) (W := 1) (y := oM7) (argsL := [(.ref v), (.int (1 : Int32))]) (rest := [(.ref s)]) (oT 107 rfl) (oT 108 rfl) (oT 109 rfl) (oT 102 rfl) (by decide) (m_cfl1_1 l Z a0 hw n0 h1 v k x0 f5 A4) (by decide) (by decide) rfl (lenOf pd_6 rfl) rfl (oL rfl) d3_45 rfl (by decide) (by decide) ?_
  rintro _ _ ⟨rfl, rfl⟩
  show Rn w l _ n0 _ 48 _ [(.int (1 : Int32)), (.ref s)] h1 2 3
  refine Rn.putF K (q := 51) (ty := .byte) (v' := .int (nar .byte (1 : Int32))) (oT 27 rfl) Via.refl f9 f7 (Or.inr ⟨(oT 23 rfl), rfl, rfl⟩) (oT 7 rfl) (by decide) rfl (fits_nar_byte _) gs d3_48 rfl ?_
  intro h12 W13
  have f15 := f6.wr W13 (Or.inl (oT 0 rfl))
  have f16 := f7.wr W13
  have f17 := Fld.other W13 f8 (Or.inr (slot_ne (Or.inr (K.hw _ (oT 22 rfl))) (Or.inr (K.hw _ (oT 23 rfl))) (by decide) (t := (.array .byte)) (t' := .byte) (by decide) (by decide)))
  have f18 := Fld.same W13 f9
  have f21 := E3.wr W13
  have f22 := A4.other W13 (ne_exa E3 f7 (by decide))
  refine Rn.aloadN K (q := 52) d3_51 rfl rfl rfl ?_
  refine Rn.aload K (q := 54) d3_52 rfl rfl rfl ?_
  refine Rn.putF K (q := 57) (ty := (.array .byte)) (oT 26 rfl) Via.refl f17 f16 (Or.inr ⟨(oT 22 rfl), rfl, rfl⟩) (oT 7 rfl) (by decide) rfl rfl gs d3_54 rfl ?_
  intro h23 W24
  have f26 := f15.wr W24 (Or.inl (oT 0 rfl))
  have f28 := Fld.same W24 f17
  have f29 := Fld.other W24 f18 (Or.inr (slot_ne (Or.inr (K.hw _ (oT 23 rfl))) (Or.inr (K.hw _ (oT 22 rfl))) (by decide) (t := .byte) (t' := (.array .byte)) (by decide) (by decide)))
  have f33 := f22.other W24 (ne_exa f21 f16 (by decide))
  exact Rn.retV K rfl d3_57 (by decide) (by decide) ⟨rfl, f26, _, _, f28, f29, f33⟩
theorem d2_0 : decode oC9 0 = .ok (.aload_n 0, 1) := by decide +kernel
theorem d2_1 : decode oC9 1 = .ok (.aload_n 1, 1) := by decide +kernel
theorem d2_2 : decode oC9 2 = .ok (.iconst 0, 1) := by decide +kernel
theorem d2_3 : decode oC9 3 = .ok (.aload_n 1, 1) := by decide +kernel
theorem d2_4 : decode oC9 4 = .ok (.arraylength, 1) := by decide +kernel
theorem d2_5 : decode oC9 5 = .ok (.aconst_null, 1) := by decide +kernel
theorem d2_6 : decode oC9 6 = .ok (.invokespecial 27, 3) := by decide +kernel
theorem d2_9 : decode oC9 9 = .ok (.return_, 1) := by decide +kernel
theorem m_ic1_1 (l : Launch) (Z : State) (a0 : Array Value) (hw : oH Z a0) (n0 : Nat) (h0 : Heap) (s c : Addr) (kc : ClassId) (x0 : Int32) (cst : Int32) (X0 : Old Z n0 h0) (SC : oSC Z cst) (hcs : ¬ cst = 0) (Es : Exa Z h0 s "java/lang/String") (gs : n0 ≤ s) (Fv : Fld Z h0 s "java/lang/String" "value" "[B" .null) (Fc : Fld Z h0 s "java/lang/String" "coder" "B" (.int (0 : Int32))) (Ec : Exa Z h0 c "[C") (Ac : Arv Z h0 c kc .char (1 : Int32) [(.int x0)] oZ) (SA : oS0 Z) (SH : oS1 Z) (SW : oS2 Z) (cx0 : Chr x0) (ha : ¬ ∀ c ∈ [x0], ¬ (255 : Int32) < c) :
    Met l Z oM9 oC9 2 none (oR 5 2 3 74) n0 [] #[(.ref s), (.ref c)] h0 (fun r h => r = none ∧ Keep h0 h [s] ∧ ∃ v, STR Z h s v [x0]) := by
  refine Met.intro (Ls := #[.val (.ref s), .val (.ref c)]) (plainFor_of_name pn_m_iv1_1) hw (fun _ => rfl) ?_
  intro w K0
  have K : oK9 w Z a0 := K0
  have K1 := Keep.refl h0 [s]
  refine Rn.aloadN K (q := 1) d2_0 rfl rfl rfl ?_
  refine Rn.aloadN K (q := 2) d2_1 rfl rfl rfl ?_
  refine Rn.iconst K (q := 3) (0 : Int32) d2_2 rfl rfl ?_
  refine Rn.aloadN K (q := 4) d2_3 rfl rfl rfl ?_
  refine Rn.arraylength K (q := 5) Ac d2_4 rfl ?_
  refine Rn.aconst_null K (q := 6) d2_5 rfl ?_
  refine Rn.spec K (q := 9) (W := 0) (y := oM8) (b := s) (argsL := [(.ref c), oZ, (.int (1 : Int32)), .null]) (rest := []) rfl (oT 13 rfl) (oT 14 rfl) (oT 16 rfl) (oT 8 rfl) (by decide) (m_iv1_1 l Z a0 hw n0 h0 s c kc x0 cst X0 SC hcs Es gs Fv Fc Ec Ac SA SH SW cx0 ha) (by decide) (by decide) rfl (lenOf pd_7 rfl) rfl (oL rfl) d2_6 rfl (by decide) (by decide) ?_
  rintro _ h1 ⟨rfl, K2, v, k, F1, F2, A2⟩
  have f3 := Es.keep K2
  show Rn w l _ n0 _ 9 _ [] h1 2 3
  exact Rn.retV K rfl d2_9 (by decide) (by decide) ⟨rfl, K2, v, f3, F1, k, Or.inr ⟨by simp, F2, A2⟩⟩
theorem m_cfl1_0 (l : Launch) (Z : State) (a0 : Array Value) (hw : oH Z a0) (n0 : Nat) (h0 : Heap) (b : Addr) (k : ClassId) (x0 : Int32) (X0 : Old Z n0 h0) (Ab : Arv Z h0 b k .byte (1 : Int32) [(.int (oB x0))] oZ) :
    Met l Z oM7 oC7 2 (some .byte) (oR 0 0 0 0) n0 [] #[(.ref b), (.int (1 : Int32))] h0 (fun v h => v = some (.int (0 : Int32)) ∧ h0 = h) := by
  refine Met.intro (Ls := #[.val (.ref b), .val (.int (1 : Int32))]) (plainFor_of_name pn_m_cpr1_0) hw (fun _ => rfl) ?_
  intro w K0
  have K : oK7 w Z a0 := K0
  refine Rn.iloadN K (q := 1) d20_0 rfl rfl ?_
  refine Rn.aloadN K (q := 2) d20_1 rfl rfl rfl ?_
  refine Rn.arraylength K (q := 3) Ab d20_2 rfl ?_
  refine Rn.isub K (q := 4) d20_3 rfl ?_
  refine Rn.bipush K (q := 6) (31 : Int32) d20_4 rfl rfl ?_
  refine Rn.iushr K (q := 7) d20_6 rfl ?_
  refine Rn.i2b K (q := 8) d20_7 rfl ?_
  exact Rn.retN K .byte rfl (by simp) d20_8 (by decide) (by decide) ⟨by rw [show nar .byte ((((1 : Int32) - (1 : Int32)).toUInt32 >>> ((31 : Int32) &&& 31).toUInt32).toInt32).toInt8.toInt32 = 0 from by decide], rfl⟩
theorem m_iv1_0 (l : Launch) (Z : State) (a0 : Array Value) (hw : oH Z a0) (n0 : Nat) (h0 : Heap) (s c : Addr) (kc : ClassId) (x0 : Int32) (cst : Int32) (X0 : Old Z n0 h0) (SC : oSC Z cst) (hcs : ¬ cst = 0) (Es : Exa Z h0 s "java/lang/String") (gs : n0 ≤ s) (Fv : Fld Z h0 s "java/lang/String" "value" "[B" .null) (Fc : Fld Z h0 s "java/lang/String" "coder" "B" (.int (0 : Int32))) (Ec : Exa Z h0 c "[C") (Ac : Arv Z h0 c kc .char (1 : Int32) [(.int x0)] oZ) (SA : oS0 Z) (SH : oS1 Z) (SW : oS2 Z) (cx0 : Chr x0) (ha : ∀ c ∈ [x0], ¬ (255 : Int32) < c) :
    Met l Z oM8 oC8 6 none (oR 4 2 3 57) n0 [] #[(.ref s), (.ref c), oZ, (.int (1 : Int32)), .null] h0 (fun r h => r = none ∧ Keep h0 h [s] ∧ ∃ v k, Fld Z h s "java/lang/String" "value" "[B" (.ref v) ∧ Fld Z h s "java/lang/String" "coder" "B" (.int (0 : Int32)) ∧ Arv Z h v k .byte (1 : Int32) [(.int (oB x0))] oZ) := by
  refine Met.intro (Ls := #[.val (.ref s), .val (.ref c), .val oZ, .val (.int (1 : Int32)), .val .null, .unset]) (plainFor_of_name pn_m_iv1_1) hw (fun m => by first | (simp [entryFrame, mkF, argsToLocals, Value.category]; done) | rfl) ?_
  intro w K0
  have K : oK8 w Z a0 := K0
  have K1 := Keep.refl h0 [s]
  refine Rn.aloadN K (q := 1) d3_0 rfl rfl rfl ?_
  refine Rn.initO K (q := 4) (W := 0) (oT 17 rfl) (oT 18 rfl) (oT 19 rfl) (by decide) (by decide) rfl (oL rfl) d3_1 rfl ?_
  refine Rn.iloadN K (q := 5) d3_4 rfl rfl ?_
  refine Rn.ifY K (q := 27) d3_5 (XT.i0_ne_t (by decide)) (by decide) (by decide) ?_
  refine Rn.getS K (q := 30) (oT 61 rfl) (SC.ext X0.2) d3_27 rfl ?_
  refine Rn.ifN K (q := 33) d3_30 (XT.i0_eq_f hcs) rfl ?_
  refine Rn.aloadN K (q := 34) d3_33 rfl rfl rfl ?_
  refine Rn.iloadN K (q := 35) d3_34 rfl rfl ?_
  refine Rn.iloadN K (q := 36) d3_35 rfl rfl ?_
  refine Rn.stat K (q := 39) (W := 0) (y := oM6) (argsL := [(.ref c), oZ, (.int (1 : Int32))]) (rest := []) (oT 100 rfl) (oT 101 rfl) (oT 103 rfl) (oT 102 rfl) (by decide) (m_cp1_1 l Z a0 hw n0 h0 c kc x0 X0 SA SH SW Ec Ac cx0 (ha x0 (by simp))) (by decide) (by decide) rfl (lenOf pd_4 rfl) rfl (oL rfl) d3_36 rfl (by decide) (by decide) ?_
  rintro _ h1 ⟨v, k, rfl, K2, E3, A4⟩
  have f5 := X0.keep K2 all0
  have f6 := K1.trans K2 all0
  have f7 := Es.keep K2
  have f8 := Fv.keep K2 nin0
  have f9 := Fc.keep K2 nin0
  show Rn w l _ n0 _ 39 _ [(.ref v)] h1 1 1
  refine Rn.astore K (q := 41) (Ls' := #[.val (.ref s), .val (.ref c), .val oZ, .val (.int (1 : Int32)), .val .null, .val (.ref v)]) d3_39 rfl rfl rfl ?_
  refine Rn.aloadN K (q := 42) d3_41 rfl rfl rfl ?_
  refine Rn.aload K (q := 44) d3_42 rfl rfl rfl ?_
  refine Rn.iloadN K (q := 45) d3_44 rfl rfl ?_
  refine Rn.stat K (q := 48) (W := 1) (y := oM7) (argsL := [(.ref v), (.int (1 : Int32))]) (rest := [(.ref s)]) (oT 107 rfl) (oT 108 rfl) (oT 109 rfl) (oT 102 rfl) (by decide) (m_cfl1_0 l Z a0 hw n0 h1 v k x0 f5 A4) (by decide) (by decide) rfl (lenOf pd_6 rfl) rfl (oL rfl) d3_45 rfl (by decide) (by decide) ?_
  rintro _ _ ⟨rfl, rfl⟩
  show Rn w l _ n0 _ 48 _ [oZ, (.ref s)] h1 1 1
  refine Rn.putF K (q := 51) (ty := .byte) (v' := .int (nar .byte (0 : Int32))) (oT 27 rfl) Via.refl f9 f7 (Or.inr ⟨(oT 23 rfl), rfl, rfl⟩) (oT 7 rfl) (by decide) rfl (fits_nar_byte _) gs d3_48 rfl ?_
  intro h12 W13
  have f15 := f6.wr W13 (Or.inl (oT 0 rfl))
  have f16 := f7.wr W13
  have f17 := Fld.other W13 f8 (Or.inr (slot_ne (Or.inr (K.hw _ (oT 22 rfl))) (Or.inr (K.hw _ (oT 23 rfl))) (by decide) (t := (.array .byte)) (t' := .byte) (by decide) (by decide)))
  have f18 := Fld.same W13 f9
  have f21 := E3.wr W13
  have f22 := A4.other W13 (ne_exa E3 f7 (by decide))
  refine Rn.aloadN K (q := 52) d3_51 rfl rfl rfl ?_
  refine Rn.aload K (q := 54) d3_52 rfl rfl rfl ?_
  refine Rn.putF K (q := 57) (ty := (.array .byte)) (oT 26 rfl) Via.refl f17 f16 (Or.inr ⟨(oT 22 rfl), rfl, rfl⟩) (oT 7 rfl) (by decide) rfl rfl gs d3_54 rfl ?_
  intro h23 W24
  have f26 := f15.wr W24 (Or.inl (oT 0 rfl))
  have f28 := Fld.same W24 f17
  have f29 := Fld.other W24 f18 (Or.inr (slot_ne (Or.inr (K.hw _ (oT 23 rfl))) (Or.inr (K.hw _ (oT 22 rfl))) (by decide) (t := .byte) (t' := (.array .byte)) (by decide) (by decide)))
  have f33 := f22.other W24 (ne_exa f21 f16 (by decide))
  exact Rn.retV K rfl d3_57 (by decide) (by decide) ⟨rfl, f26, _, _, f28, f29, f33⟩
theorem m_ic1_0 (l : Launch) (Z : State) (a0 : Array Value) (hw : oH Z a0) (n0 : Nat) (h0 : Heap) (s c : Addr) (kc : ClassId) (x0 : Int32) (cst : Int32) (X0 : Old Z n0 h0) (SC : oSC Z cst) (hcs : ¬ cst = 0) (Es : Exa Z h0 s "java/lang/String") (gs : n0 ≤ s) (Fv : Fld Z h0 s "java/lang/String" "value" "[B" .null) (Fc : Fld Z h0 s "java/lang/String" "coder" "B" (.int (0 : Int32))) (Ec : Exa Z h0 c "[C") (Ac : Arv Z h0 c kc .char (1 : Int32) [(.int x0)] oZ) (SA : oS0 Z) (SH : oS1 Z) (SW : oS2 Z) (cx0 : Chr x0) (ha : ∀ c ∈ [x0], ¬ (255 : Int32) < c) :
    Met l Z oM9 oC9 2 none (oR 5 2 3 74) n0 [] #[(.ref s), (.ref c)] h0 (fun r h => r = none ∧ Keep h0 h [s] ∧ ∃ v, STR Z h s v [x0]) := by
  refine Met.intro (Ls := #[.val (.ref s), .val (.ref c)]) (plainFor_of_name pn_m_iv1_1) hw (fun _ => rfl) ?_
  intro w K0
  have K : oK9 w Z a0 := K0
  have K1 := Keep.refl h0 [s]
  refine Rn.aloadN K (q := 1) d2_0 rfl rfl rfl ?_
  refine Rn.aloadN K (q := 2) d2_1 rfl rfl rfl ?_
  refine Rn.iconst K (q := 3) (0 : Int32) d2_2 rfl rfl ?_
  refine Rn.aloadN K (q := 4) d2_3 rfl rfl rfl ?_
  refine Rn.arraylength K (q := 5) Ac d2_4 rfl ?_
  refine Rn.aconst_null K (q := 6) d2_5 rfl ?_
  refine Rn.spec K (q := 9) (W := 0) (y := oM8) (b := s) (argsL := [(.ref c), oZ, (.int (1 : Int32)), .null]) (rest := []) rfl (oT 13 rfl) (oT 14 rfl) (oT 16 rfl) (oT 8 rfl) (by decide) (m_iv1_0 l Z a0 hw n0 h0 s c kc x0 cst X0 SC hcs Es gs Fv Fc Ec Ac SA SH SW cx0 ha) (by decide) (by decide) rfl (lenOf pd_7 rfl) rfl (oL rfl) d2_6 rfl (by decide) (by decide) ?_
  rintro _ h1 ⟨rfl, K2, v, k, F1, F2, A2⟩
  have f3 := Es.keep K2
  show Rn w l _ n0 _ 9 _ [] h1 2 3
  exact Rn.retV K rfl d2_9 (by decide) (by decide) ⟨rfl, K2, v, f3, F1, k, Or.inl ⟨F2, A2, ha⟩⟩
theorem m_icc1 (l : Launch) (Z : State) (a0 : Array Value) (hw : oH Z a0) (n0 : Nat) (h0 : Heap) (s c : Addr) (kc : ClassId) (x0 : Int32) (cst : Int32) (X0 : Old Z n0 h0) (SC : oSC Z cst) (hcs : ¬ cst = 0) (Es : Exa Z h0 s "java/lang/String") (gs : n0 ≤ s) (Fv : Fld Z h0 s "java/lang/String" "value" "[B" .null) (Fc : Fld Z h0 s "java/lang/String" "coder" "B" (.int (0 : Int32))) (Ec : Exa Z h0 c "[C") (Ac : Arv Z h0 c kc .char (1 : Int32) [(.int x0)] oZ) (SA : oS0 Z) (SH : oS1 Z) (SW : oS2 Z) (cx0 : Chr x0) :
    Met l Z oM9 oC9 2 none (oR 5 2 3 74) n0 [] #[(.ref s), (.ref c)] h0 (fun r h => r = none ∧ Keep h0 h [s] ∧ ∃ v, STR Z h s v [x0]) := by
  by_cases ha : ∀ c ∈ [x0], ¬ (255 : Int32) < c
  · exact m_ic1_0 l Z a0 hw n0 h0 s c kc x0 cst X0 SC hcs Es gs Fv Fc Ec Ac SA SH SW cx0 ha
  · exact m_ic1_1 l Z a0 hw n0 h0 s c kc x0 cst X0 SC hcs Es gs Fv Fc Ec Ac SA SH SW cx0 ha
theorem m_cpr2_0 (l : Launch) (Z : State) (a0 : Array Value) (hw : oH Z a0) (n0 : Nat) (h0 : Heap) (c b : Addr) (kc k : ClassId) (x0 x1 : Int32) (X0 : Old Z n0 h0) (Ec : Exa Z h0 c "[C") (Ac : Arv Z h0 c kc .char (2 : Int32) [(.int x0), (.int x1)] oZ) (Eb : Exa Z h0 b "[B") (Ab : Arv Z h0 b k .byte (2 : Int32) [oZ, oZ] oZ) (gb : n0 ≤ b) (bx : (255 : Int32) < x0) :
    Met l Z oM0 oC0 7 (some .int) (oR 0 0 0 0) n0 [] #[(.ref c), oZ, (.ref b), oZ, (.int (2 : Int32))] h0 (fun v h => v = some (.int (0 : Int32)) ∧ Keep h0 h [b]) := by
  refine Met.intro (Ls := #[.val (.ref c), .val oZ, .val (.ref b), .val oZ, .val (.int (2 : Int32)), .unset, .unset]) (plainFor_of_name pn_m_cpr1_0) hw (fun m => by first | (simp [entryFrame, mkF, argsToLocals, Value.category]; done) | rfl) ?_
  intro w K0
  have K : oK0 w Z a0 := K0
  have K1 := Keep.refl h0 [b]
  refine Rn.iconst K (q := 1) (0 : Int32) d19_0 rfl rfl ?_
  refine Rn.istore K (q := 3) (Ls' := #[.val (.ref c), .val oZ, .val (.ref b), .val oZ, .val (.int (2 : Int32)), .val oZ, .unset]) d19_1 rfl rfl ?_
  refine Rn.iload K (q := 5) d19_3 rfl rfl ?_
  refine Rn.iload K (q := 7) d19_5 rfl rfl ?_
  refine Rn.icN K (q := 10) d19_7 (XT.ii_ge_f (by decide)) rfl ?_
  refine Rn.aloadN K (q := 11) d19_10 rfl rfl rfl ?_
  refine Rn.iloadN K (q := 12) d19_11 rfl rfl ?_
  refine Rn.caload K (q := 13) (v := (.int x0)) Ac (by decide) rfl d19_12 rfl ?_
  refine Rn.istore K (q := 15) (Ls' := #[.val (.ref c), .val oZ, .val (.ref b), .val oZ, .val (.int (2 : Int32)), .val oZ, .val (.int x0)]) d19_13 rfl rfl ?_
  refine Rn.iload K (q := 17) d19_15 rfl rfl ?_
  refine Rn.sipush K (q := 20) (255 : Int32) d19_17 rfl rfl ?_
  refine Rn.icN K (q := 23) d19_20 (XT.ii_le_f bx) rfl ?_
  refine Rn.iload K (q := 25) d19_23 rfl rfl ?_
  exact Rn.retI K rfl d19_25 (by decide) (by decide) ⟨rfl, K1⟩
theorem m_cpr2_1 (l : Launch) (Z : State) (a0 : Array Value) (hw : oH Z a0) (n0 : Nat) (h0 : Heap) (c b : Addr) (kc k : ClassId) (x0 x1 : Int32) (X0 : Old Z n0 h0) (Ec : Exa Z h0 c "[C") (Ac : Arv Z h0 c kc .char (2 : Int32) [(.int x0), (.int x1)] oZ) (Eb : Exa Z h0 b "[B") (Ab : Arv Z h0 b k .byte (2 : Int32) [oZ, oZ] oZ) (gb : n0 ≤ b) (hx0 : ¬ (255 : Int32) < x0) (bx : (255 : Int32) < x1) :
    Met l Z oM0 oC0 7 (some .int) (oR 0 0 0 0) n0 [] #[(.ref c), oZ, (.ref b), oZ, (.int (2 : Int32))] h0 (fun v h => v = some (.int (1 : Int32)) ∧ Keep h0 h [b]) := by
  refine Met.intro (Ls := #[.val (.ref c), .val oZ, .val (.ref b), .val oZ, .val (.int (2 : Int32)), .unset, .unset]) (plainFor_of_name pn_m_cpr1_0) hw (fun m => by first | (simp [entryFrame, mkF, argsToLocals, Value.category]; done) | rfl) ?_
  intro w K0
  have K : oK0 w Z a0 := K0
  have K1 := Keep.refl h0 [b]
  refine Rn.iconst K (q := 1) (0 : Int32) d19_0 rfl rfl ?_
  refine Rn.istore K (q := 3) (Ls' := #[.val (.ref c), .val oZ, .val (.ref b), .val oZ, .val (.int (2 : Int32)), .val oZ, .unset]) d19_1 rfl rfl ?_
  refine Rn.iload K (q := 5) d19_3 rfl rfl ?_
  refine Rn.iload K (q := 7) d19_5 rfl rfl ?_
  refine Rn.icN K (q := 10) d19_7 (XT.ii_ge_f (by decide)) rfl ?_
  refine Rn.aloadN K (q := 11) d19_10 rfl rfl rfl ?_
  refine Rn.iloadN K (q := 12) d19_11 rfl rfl ?_
  refine Rn.caload K (q := 13) (v := (.int x0)) Ac (by decide) rfl d19_12 rfl ?_
  refine Rn.istore K (q := 15) (Ls' := #[.val (.ref c), .val oZ, .val (.ref b), .val oZ, .val (.int (2 : Int32)), .val oZ, .val (.int x0)]) d19_13 rfl rfl ?_
  refine Rn.iload K (q := 17) d19_15 rfl rfl ?_
  refine Rn.sipush K (q := 20) (255 : Int32) d19_17 rfl rfl ?_
  refine Rn.icY K (q := 26) d19_20 (XT.ii_le_t hx0) (by decide) (by decide) ?_
  refine Rn.aloadN K (q := 27) d19_26 rfl rfl rfl ?_
  refine Rn.iloadN K (q := 28) d19_27 rfl rfl ?_
  refine Rn.iload K (q := 30) d19_28 rfl rfl ?_
  refine Rn.i2b K (q := 31) d19_30 rfl ?_
  refine Rn.bastoreB K (q := 32) (i := 0) Ab (by decide) rfl (oL rfl) gb d19_31 rfl ?_
  intro h1 W2 A3
  have f5 := K1.wr W2 (Or.inl (oT 0 rfl))
  have f7 := Ac.other W2 (ne_exa Ec Eb (by decide))
  replace A3 : Arv Z h1 b k .byte (2 : Int32) [(.int (oB x0)), oZ] oZ := A3
  refine Rn.iinc K (q := 35) (Ls' := #[.val (.ref c), .val (.int (1 : Int32)), .val (.ref b), .val oZ, .val (.int (2 : Int32)), .val oZ, .val (.int x0)]) (1 : Int32) d19_32 rfl rfl rfl rfl ?_
  refine Rn.iinc K (q := 38) (Ls' := #[.val (.ref c), .val (.int (1 : Int32)), .val (.ref b), .val (.int (1 : Int32)), .val (.int (2 : Int32)), .val oZ, .val (.int x0)]) (1 : Int32) d19_35 rfl rfl rfl rfl ?_
  refine Rn.iinc K (q := 41) (Ls' := #[.val (.ref c), .val (.int (1 : Int32)), .val (.ref b), .val (.int (1 : Int32)), .val (.int (2 : Int32)), .val (.int (1 : Int32)), .val (.int x0)]) (1 : Int32) d19_38 rfl rfl rfl rfl ?_
  refine Rn.goto K (q := 3) d19_41 (by decide) (by decide) ?_
  refine Rn.iload K (q := 5) d19_3 rfl rfl ?_
  refine Rn.iload K (q := 7) d19_5 rfl rfl ?_
  refine Rn.icN K (q := 10) d19_7 (XT.ii_ge_f (by decide)) rfl ?_
  refine Rn.aloadN K (q := 11) d19_10 rfl rfl rfl ?_
  refine Rn.iloadN K (q := 12) d19_11 rfl rfl ?_
  refine Rn.caload K (q := 13) (v := (.int x1)) f7 (by decide) rfl d19_12 rfl ?_
  refine Rn.istore K (q := 15) (Ls' := #[.val (.ref c), .val (.int (1 : Int32)), .val (.ref b), .val (.int (1 : Int32)), .val (.int (2 : Int32)), .val (.int (1 : Int32)), .val (.int x1)]) d19_13 rfl rfl ?_
  refine Rn.iload K (q := 17) d19_15 rfl rfl ?_
  refine Rn.sipush K (q := 20) (255 : Int32) d19_17 rfl rfl ?_
  refine Rn.icN K (q := 23) d19_20 (XT.ii_le_f bx) rfl ?_
  refine Rn.iload K (q := 25) d19_23 rfl rfl ?_
  exact Rn.retI K rfl d19_25 (by decide) (by decide) ⟨rfl, f5⟩
theorem m_cpr2_2 (l : Launch) (Z : State) (a0 : Array Value) (hw : oH Z a0) (n0 : Nat) (h0 : Heap) (c b : Addr) (kc k : ClassId) (x0 x1 : Int32) (X0 : Old Z n0 h0) (Ec : Exa Z h0 c "[C") (Ac : Arv Z h0 c kc .char (2 : Int32) [(.int x0), (.int x1)] oZ) (Eb : Exa Z h0 b "[B") (Ab : Arv Z h0 b k .byte (2 : Int32) [oZ, oZ] oZ) (gb : n0 ≤ b) (hx0 : ¬ (255 : Int32) < x0) (hx1 : ¬ (255 : Int32) < x1) :
    Met l Z oM0 oC0 7 (some .int) (oR 0 0 0 0) n0 [] #[(.ref c), oZ, (.ref b), oZ, (.int (2 : Int32))] h0 (fun v h => v = some (.int (2 : Int32)) ∧ Keep h0 h [b] ∧ Arv Z h b k .byte (2 : Int32) [(.int (oB x0)), (.int (oB x1))] oZ) := by
  refine Met.intro (Ls := #[.val (.ref c), .val oZ, .val (.ref b), .val oZ, .val (.int (2 : Int32)), .unset, .unset]) (plainFor_of_name pn_m_cpr1_0) hw (fun m => by first | (simp [entryFrame, mkF, argsToLocals, Value.category]; done) | rfl) ?_
  intro w K0
  have K : oK0 w Z a0 := K0
  have K1 := Keep.refl h0 [b]
  refine Rn.iconst K (q := 1) (0 : Int32) d19_0 rfl rfl ?_
  refine Rn.istore K (q := 3) (Ls' := #[.val (.ref c), .val oZ, .val (.ref b), .val oZ, .val (.int (2 : Int32)), .val oZ, .unset]) d19_1 rfl rfl ?_
  refine Rn.iload K (q := 5) d19_3 rfl rfl ?_
  refine Rn.iload K (q := 7) d19_5 rfl rfl ?_
  refine Rn.icN K (q := 10) d19_7 (XT.ii_ge_f (by decide)) rfl ?_
  refine Rn.aloadN K (q := 11) d19_10 rfl rfl rfl ?_
  refine Rn.iloadN K (q := 12) d19_11 rfl rfl ?_
  refine Rn.caload K (q := 13) (v := (.int x0)) Ac (by decide) rfl d19_12 rfl ?_
  refine Rn.istore K (q := 15) (Ls' := #[.val (.ref c), .val oZ, .val (.ref b), .val oZ, .val (.int (2 : Int32)), .val oZ, .val (.int x0)]) d19_13 rfl rfl ?_
  refine Rn.iload K (q := 17) d19_15 rfl rfl ?_
  refine Rn.sipush K (q := 20) (255 : Int32) d19_17 rfl rfl ?_
  refine Rn.icY K (q := 26) d19_20 (XT.ii_le_t hx0) (by decide) (by decide) ?_
  refine Rn.aloadN K (q := 27) d19_26 rfl rfl rfl ?_
  refine Rn.iloadN K (q := 28) d19_27 rfl rfl ?_
  refine Rn.iload K (q := 30) d19_28 rfl rfl ?_
  refine Rn.i2b K (q := 31) d19_30 rfl ?_
  refine Rn.bastoreB K (q := 32) (i := 0) Ab (by decide) rfl (oL rfl) gb d19_31 rfl ?_
  intro h1 W2 A3
  have f5 := K1.wr W2 (Or.inl (oT 0 rfl))
  have f7 := Ac.other W2 (ne_exa Ec Eb (by decide))
  replace A3 : Arv Z h1 b k .byte (2 : Int32) [(.int (oB x0)), oZ] oZ := A3
  refine Rn.iinc K (q := 35) (Ls' := #[.val (.ref c), .val (.int (1 : Int32)), .val (.ref b), .val oZ, .val (.int (2 : Int32)), .val oZ, .val (.int x0)]) (1 : Int32) d19_32 rfl rfl rfl rfl ?_
  refine Rn.iinc K (q := 38) (Ls' := #[.val (.ref c), .val (.int (1 : Int32)), .val (.ref b), .val (.int (1 : Int32)), .val (.int (2 : Int32)), .val oZ, .val (.int x0)]) (1 : Int32) d19_35 rfl rfl rfl rfl ?_
  refine Rn.iinc K (q := 41) (Ls' := #[.val (.ref c), .val (.int (1 : Int32)), .val (.ref b), .val (.int (1 : Int32)), .val (.int (2 : Int32)), .val (.int (1 : Int32)), .val (.int x0)]) (1 : Int32) d19_38 rfl rfl rfl rfl ?_
  refine Rn.goto K (q := 3) d19_41 (by decide) (by decide) ?_
  refine Rn.iload K (q := 5) d19_3 rfl rfl ?_
  refine Rn.iload K (q := 7) d19_5 rfl rfl ?_
  refine Rn.icN K (q := 10) d19_7 (XT.ii_ge_f (by decide)) rfl ?_
  refine Rn.aloadN K (q := 11) d19_10 rfl rfl rfl ?_
  refine Rn.iloadN K (q := 12) d19_11 rfl rfl ?_
  refine Rn.caload K (q := 13) (v := (.int x1)) f7 (by decide) rfl d19_12 rfl ?_
  refine Rn.istore K (q := 15) (Ls' := #[.val (.ref c), .val (.int (1 : Int32)), .val (.ref b), .val (.int (1 : Int32)), .val (.int (2 : Int32)), .val (.int (1 : Int32)), .val (.int x1)]) d19_13 rfl rfl ?_
  refine Rn.iload K (q := 17) d19_15 rfl rfl ?_
  refine Rn.sipush K (q := 20) (255 : Int32) d19_17 rfl rfl ?_
  refine Rn.icY K (q := 26) d19_20 (XT.ii_le_t hx1) (by decide) (by decide) ?_
  refine Rn.aloadN K (q := 27) d19_26 rfl rfl rfl ?_
  refine Rn.iloadN K (q := 28) d19_27 rfl rfl ?_
  refine Rn.iload K (q := 30) d19_28 rfl rfl ?_
  refine Rn.i2b K (q := 31) d19_30 rfl ?_
  refine Rn.bastoreB K (q := 32) (i := 1) A3 (by decide) rfl (oL rfl) gb d19_31 rfl ?_
  intro h9 W10 A11
  have f13 := f5.wr W10 (Or.inl (oT 0 rfl))
  replace A11 : Arv Z h9 b k .byte (2 : Int32) [(.int (oB x0)), (.int (oB x1))] oZ := A11
  refine Rn.iinc K (q := 35) (Ls' := #[.val (.ref c), .val (.int (2 : Int32)), .val (.ref b), .val (.int (1 : Int32)), .val (.int (2 : Int32)), .val (.int (1 : Int32)), .val (.int x1)]) (1 : Int32) d19_32 rfl rfl rfl rfl ?_
  refine Rn.iinc K (q := 38) (Ls' := #[.val (.ref c), .val (.int (2 : Int32)), .val (.ref b), .val (.int (2 : Int32)), .val (.int (2 : Int32)), .val (.int (1 : Int32)), .val (.int x1)]) (1 : Int32) d19_35 rfl rfl rfl rfl ?_
  refine Rn.iinc K (q := 41) (Ls' := #[.val (.ref c), .val (.int (2 : Int32)), .val (.ref b), .val (.int (2 : Int32)), .val (.int (2 : Int32)), .val (.int (2 : Int32)), .val (.int x1)]) (1 : Int32) d19_38 rfl rfl rfl rfl ?_
  refine Rn.goto K (q := 3) d19_41 (by decide) (by decide) ?_
  refine Rn.iload K (q := 5) d19_3 rfl rfl ?_
  refine Rn.iload K (q := 7) d19_5 rfl rfl ?_
  refine Rn.icY K (q := 44) d19_7 (XT.ii_ge_t (by decide)) (by decide) (by decide) ?_
  refine Rn.iload K (q := 46) d19_44 rfl rfl ?_
  exact Rn.retI K rfl d19_46 (by decide) (by decide) ⟨rfl, f13, A11⟩
theorem m_nbl2 (l : Launch) (Z : State) (a0 : Array Value) (hw : oH Z a0) (n0 : Nat) (h0 : Heap)  (X0 : Old Z n0 h0) :
    Met l Z oM1 oC1 1 (some .int) (oR 0 0 0 0) n0 [] #[(.int (2 : Int32))] h0 (fun v h => v = some (.int (4 : Int32)) ∧ h0 = h) := by
  refine Met.intro (Ls := #[.val (.int (2 : Int32))]) (plainFor_of_name pn_m_cpr1_0) hw (fun _ => rfl) ?_
  intro w K0
  have K : oK1 w Z a0 := K0
  refine Rn.iloadN K (q := 1) d26_0 rfl rfl ?_
  refine Rn.ifY K (q := 12) d26_1 (XT.i0_ge_t (by decide)) (by decide) (by decide) ?_
  refine Rn.iloadN K (q := 13) d26_12 rfl rfl ?_
  refine Rn.ldcI K (q := 15) (1073741823 : Int32) (oT 136 rfl) d26_13 rfl ?_
  refine Rn.icY K (q := 55) d26_15 (XT.ii_lt_t (by decide)) (by decide) (by decide) ?_
  refine Rn.iloadN K (q := 56) d26_55 rfl rfl ?_
  refine Rn.iconst K (q := 57) (1 : Int32) d26_56 rfl rfl ?_
  refine Rn.ishl K (q := 58) d26_57 rfl ?_
  rw [show ((2 : Int32) <<< ((1 : Int32) &&& 31)) = (4 : Int32) from by decide]
  show Rn w l _ n0 _ 58 _ [(.int (4 : Int32))] h0 0 0
  exact Rn.retI K rfl d26_58 (by decide) (by decide) ⟨rfl, rfl⟩
theorem m_nbf2 (l : Launch) (Z : State) (a0 : Array Value) (hw : oH Z a0) (n0 : Nat) (h0 : Heap)  (X0 : Old Z n0 h0) :
    Met l Z oM2 oC2 1 (some (.array .byte)) (oR 1 1 4 12) n0 [] #[(.int (2 : Int32))] h0 (fun v h => ∃ b k, v = some (.ref b) ∧ h0.size ≤ b ∧ Keep h0 h [] ∧ Exa Z h b "[B" ∧ Arv Z h b k .byte (4 : Int32) [oZ, oZ, oZ, oZ] oZ) := by
  refine Met.intro (Ls := #[.val (.int (2 : Int32))]) (plainFor_of_name pn_m_cpr1_0) hw (fun _ => rfl) ?_
  intro w K0
  have K : oK2 w Z a0 := K0
  have K1 := Keep.refl h0 []
  refine Rn.iloadN K (q := 1) d25_0 rfl rfl ?_
  refine Rn.stat K (q := 4) (W := 0) (y := oM1) (argsL := [(.int (2 : Int32))]) (rest := []) (oT 133 rfl) (oT 134 rfl) (oT 135 rfl) (oT 102 rfl) (by decide) (m_nbl2 l Z a0 hw n0 h0 X0) (by decide) (by decide) rfl (lenOf pd_0 rfl) rfl (oL rfl) d25_1 rfl (by decide) (by decide) ?_
  rintro _ _ ⟨rfl, rfl⟩
  show Rn w l _ n0 _ 4 _ [(.int (4 : Int32))] h0 0 0
  refine Rn.newP K (q := 6) (cap := 4) (oT 21 rfl) (by decide) (by decide) (by decide) (by decide) (by decide) (ad := "[B") (by decide) d25_4 rfl ?_
  intro b1 h2 k4 gb1_ X3 A_b1 EA_b1
  have sz_b1 : h0.size ≤ b1 := by rw [gb1_]; exact K1.1
  have f6 := K1.ext X3
  replace A_b1 : Arv Z h2 b1 k4 .byte (4 : Int32) [oZ, oZ, oZ, oZ] oZ := A_b1.pad (pad_rep [] oZ 4)
  show Rn w l _ n0 _ 6 _ [(.ref b1)] h2 1 4
  exact Rn.retA K (.array .byte) rfl rfl rfl d25_6 (by decide) (by decide) ⟨_, _, rfl, sz_b1, f6, EA_b1, A_b1⟩
theorem m_put2_0 (l : Launch) (Z : State) (a0 : Array Value) (hw : oH Z a0) (n0 : Nat) (h0 : Heap) (b : Addr) (k : ClassId) (x y0 y1 y2 y3 : Int32) (X0 : Old Z n0 h0) (SA : oS0 Z) (SH : oS1 Z) (SW : oS2 Z) (Ab : Arv Z h0 b k .byte (4 : Int32) [(.int y0), (.int y1), (.int y2), (.int y3)] oZ) (gb : n0 ≤ b) :
    Met l Z oM3 oC3 3 none (oR 0 0 0 0) n0 [] #[(.ref b), oZ, (.int x)] h0 (fun v h => v = none ∧ Keep h0 h [b] ∧ Arv Z h b k .byte (4 : Int32) [(.int (oB0 x)), (.int (oB8 x)), (.int y2), (.int y3)] oZ) := by
  refine Met.intro (Ls := #[.val (.ref b), .val oZ, .val (.int x)]) (plainFor_of_name pn_m_cpr1_0) hw (fun _ => rfl) ?_
  intro w K0
  have K : oK3 w Z a0 := K0
  have K1 := Keep.refl h0 [b]
  refine Rn.getS K (q := 3) (oT 140 rfl) (SA.ext X0.2) d27_0 rfl ?_
  refine Rn.ifY K (q := 28) d27_3 (XT.i0_ne_t (by decide)) (by decide) (by decide) ?_
  refine Rn.iloadN K (q := 29) d27_28 rfl rfl ?_
  refine Rn.iconst K (q := 30) (1 : Int32) d27_29 rfl rfl ?_
  refine Rn.ishl K (q := 31) d27_30 rfl ?_
  rw [show ((0 : Int32) <<< ((1 : Int32) &&& 31)) = (0 : Int32) from by decide]
  show Rn w l _ n0 _ 31 _ [oZ] h0 0 0
  refine Rn.istoreN K (q := 32) (Ls' := #[.val (.ref b), .val oZ, .val (.int x)]) d27_31 rfl rfl ?_
  refine Rn.aloadN K (q := 33) d27_32 rfl rfl rfl ?_
  refine Rn.iloadN K (q := 34) d27_33 rfl rfl ?_
  refine Rn.iinc K (q := 37) (Ls' := #[.val (.ref b), .val (.int (1 : Int32)), .val (.int x)]) (1 : Int32) d27_34 rfl rfl rfl rfl ?_
  refine Rn.iloadN K (q := 38) d27_37 rfl rfl ?_
  refine Rn.getS K (q := 41) (oT 141 rfl) (SH.ext X0.2) d27_38 rfl ?_
  refine Rn.ishr K (q := 42) d27_41 rfl ?_
  refine Rn.i2b K (q := 43) d27_42 rfl ?_
  refine Rn.bastoreB K (q := 44) (i := 0) Ab (by decide) rfl (oL rfl) gb d27_43 rfl ?_
  intro h1 W2 A3
  have f4 := X0.wr W2 gb
  have f5 := K1.wr W2 (Or.inl (oT 0 rfl))
  replace A3 : Arv Z h1 b k .byte (4 : Int32) [(.int (oB0 x)), (.int y1), (.int y2), (.int y3)] oZ := A3
  refine Rn.aloadN K (q := 45) d27_44 rfl rfl rfl ?_
  refine Rn.iloadN K (q := 46) d27_45 rfl rfl ?_
  refine Rn.iloadN K (q := 47) d27_46 rfl rfl ?_
  refine Rn.getS K (q := 50) (oT 142 rfl) (SW.ext f4.2) d27_47 rfl ?_
  refine Rn.ishr K (q := 51) d27_50 rfl ?_
  refine Rn.i2b K (q := 52) d27_51 rfl ?_
  refine Rn.bastoreB K (q := 53) (i := 1) A3 (by decide) rfl (oL rfl) gb d27_52 rfl ?_
  intro h6 W7 A8
  have f10 := f5.wr W7 (Or.inl (oT 0 rfl))
  replace A8 : Arv Z h6 b k .byte (4 : Int32) [(.int (oB0 x)), (.int (oB8 x)), (.int y2), (.int y3)] oZ := A8
  exact Rn.retV K rfl d27_53 (by decide) (by decide) ⟨rfl, f10, A8⟩
theorem m_gch2_0 (l : Launch) (Z : State) (a0 : Array Value) (hw : oH Z a0) (n0 : Nat) (h0 : Heap) (b : Addr) (k : ClassId) (x0 x1 : Int32) (X0 : Old Z n0 h0) (SA : oS0 Z) (SH : oS1 Z) (SW : oS2 Z) (Ab : Arv Z h0 b k .byte (4 : Int32) [(.int (oB0 x0)), (.int (oB8 x0)), (.int (oB0 x1)), (.int (oB8 x1))] oZ) (cx : Chr x0) :
    Met l Z oM4 oC4 2 (some .char) (oR 0 0 0 0) n0 [] #[(.ref b), oZ] h0 (fun v h => v = some (.int x0) ∧ h0 = h) := by
  refine Met.intro (Ls := #[.val (.ref b), .val oZ]) (plainFor_of_name pn_m_cpr1_0) hw (fun _ => rfl) ?_
  intro w K0
  have K : oK4 w Z a0 := K0
  refine Rn.getS K (q := 3) (oT 140 rfl) (SA.ext X0.2) d28_0 rfl ?_
  refine Rn.ifY K (q := 28) d28_3 (XT.i0_ne_t (by decide)) (by decide) (by decide) ?_
  refine Rn.iloadN K (q := 29) d28_28 rfl rfl ?_
  refine Rn.iconst K (q := 30) (1 : Int32) d28_29 rfl rfl ?_
  refine Rn.ishl K (q := 31) d28_30 rfl ?_
  rw [show ((0 : Int32) <<< ((1 : Int32) &&& 31)) = (0 : Int32) from by decide]
  show Rn w l _ n0 _ 31 _ [oZ] h0 0 0
  refine Rn.istoreN K (q := 32) (Ls' := #[.val (.ref b), .val oZ]) d28_31 rfl rfl ?_
  refine Rn.aloadN K (q := 33) d28_32 rfl rfl rfl ?_
  refine Rn.iloadN K (q := 34) d28_33 rfl rfl ?_
  refine Rn.iinc K (q := 37) (Ls' := #[.val (.ref b), .val (.int (1 : Int32))]) (1 : Int32) d28_34 rfl rfl rfl rfl ?_
  refine Rn.baloadB K (q := 38) (v := (.int (oB0 x0))) Ab (by decide) rfl d28_37 rfl ?_
  refine Rn.sipush K (q := 41) (255 : Int32) d28_38 rfl rfl ?_
  refine Rn.iand K (q := 42) d28_41 rfl ?_
  refine Rn.getS K (q := 45) (oT 141 rfl) (SH.ext X0.2) d28_42 rfl ?_
  refine Rn.ishl K (q := 46) d28_45 rfl ?_
  refine Rn.aloadN K (q := 47) d28_46 rfl rfl rfl ?_
  refine Rn.iloadN K (q := 48) d28_47 rfl rfl ?_
  refine Rn.baloadB K (q := 49) (v := (.int (oB8 x0))) Ab (by decide) rfl d28_48 rfl ?_
  refine Rn.sipush K (q := 52) (255 : Int32) d28_49 rfl rfl ?_
  refine Rn.iand K (q := 53) d28_52 rfl ?_
  refine Rn.getS K (q := 56) (oT 142 rfl) (SW.ext X0.2) d28_53 rfl ?_
  refine Rn.ishl K (q := 57) d28_56 rfl ?_
  refine Rn.ior K (q := 58) d28_57 rfl ?_
  refine Rn.i2c K (q := 59) d28_58 rfl ?_
  exact Rn.retN K .char rfl (by simp) d28_59 (by decide) (by decide) ⟨by rw [own_gc cx], rfl⟩
theorem m_put2_1 (l : Launch) (Z : State) (a0 : Array Value) (hw : oH Z a0) (n0 : Nat) (h0 : Heap) (b : Addr) (k : ClassId) (x y0 y1 y2 y3 : Int32) (X0 : Old Z n0 h0) (SA : oS0 Z) (SH : oS1 Z) (SW : oS2 Z) (Ab : Arv Z h0 b k .byte (4 : Int32) [(.int y0), (.int y1), (.int y2), (.int y3)] oZ) (gb : n0 ≤ b) :
    Met l Z oM3 oC3 3 none (oR 0 0 0 0) n0 [] #[(.ref b), (.int (1 : Int32)), (.int x)] h0 (fun v h => v = none ∧ Keep h0 h [b] ∧ Arv Z h b k .byte (4 : Int32) [(.int y0), (.int y1), (.int (oB0 x)), (.int (oB8 x))] oZ) := by
  refine Met.intro (Ls := #[.val (.ref b), .val (.int (1 : Int32)), .val (.int x)]) (plainFor_of_name pn_m_cpr1_0) hw (fun _ => rfl) ?_
  intro w K0
  have K : oK3 w Z a0 := K0
  have K1 := Keep.refl h0 [b]
  refine Rn.getS K (q := 3) (oT 140 rfl) (SA.ext X0.2) d27_0 rfl ?_
  refine Rn.ifY K (q := 28) d27_3 (XT.i0_ne_t (by decide)) (by decide) (by decide) ?_
  refine Rn.iloadN K (q := 29) d27_28 rfl rfl ?_
  refine Rn.iconst K (q := 30) (1 : Int32) d27_29 rfl rfl ?_
  refine Rn.ishl K (q := 31) d27_30 rfl ?_
  rw [show ((1 : Int32) <<< ((1 : Int32) &&& 31)) = (2 : Int32) from by decide]
  show Rn w l _ n0 _ 31 _ [(.int (2 : Int32))] h0 0 0
  refine Rn.istoreN K (q := 32) (Ls' := #[.val (.ref b), .val (.int (2 : Int32)), .val (.int x)]) d27_31 rfl rfl ?_
  refine Rn.aloadN K (q := 33) d27_32 rfl rfl rfl ?_
  refine Rn.iloadN K (q := 34) d27_33 rfl rfl ?_
  refine Rn.iinc K (q := 37) (Ls' := #[.val (.ref b), .val (.int (3 : Int32)), .val (.int x)]) (1 : Int32) d27_34 rfl rfl rfl rfl ?_
  refine Rn.iloadN K (q := 38) d27_37 rfl rfl ?_
  refine Rn.getS K (q := 41) (oT 141 rfl) (SH.ext X0.2) d27_38 rfl ?_
  refine Rn.ishr K (q := 42) d27_41 rfl ?_
  refine Rn.i2b K (q := 43) d27_42 rfl ?_
  refine Rn.bastoreB K (q := 44) (i := 2) Ab (by decide) rfl (oL rfl) gb d27_43 rfl ?_
  intro h1 W2 A3
  have f4 := X0.wr W2 gb
  have f5 := K1.wr W2 (Or.inl (oT 0 rfl))
  replace A3 : Arv Z h1 b k .byte (4 : Int32) [(.int y0), (.int y1), (.int (oB0 x)), (.int y3)] oZ := A3
  refine Rn.aloadN K (q := 45) d27_44 rfl rfl rfl ?_
  refine Rn.iloadN K (q := 46) d27_45 rfl rfl ?_
  refine Rn.iloadN K (q := 47) d27_46 rfl rfl ?_
  refine Rn.getS K (q := 50) (oT 142 rfl) (SW.ext f4.2) d27_47 rfl ?_
  refine Rn.ishr K (q := 51) d27_50 rfl ?_
  refine Rn.i2b K (q := 52) d27_51 rfl ?_
  refine Rn.bastoreB K (q := 53) (i := 3) A3 (by decide) rfl (oL rfl) gb d27_52 rfl ?_
  intro h6 W7 A8
  have f10 := f5.wr W7 (Or.inl (oT 0 rfl))
  replace A8 : Arv Z h6 b k .byte (4 : Int32) [(.int y0), (.int y1), (.int (oB0 x)), (.int (oB8 x))] oZ := A8
  exact Rn.retV K rfl d27_53 (by decide) (by decide) ⟨rfl, f10, A8⟩
theorem m_gch2_1 (l : Launch) (Z : State) (a0 : Array Value) (hw : oH Z a0) (n0 : Nat) (h0 : Heap) (b : Addr) (k : ClassId) (x0 x1 : Int32) (X0 : Old Z n0 h0) (SA : oS0 Z) (SH : oS1 Z) (SW : oS2 Z) (Ab : Arv Z h0 b k .byte (4 : Int32) [(.int (oB0 x0)), (.int (oB8 x0)), (.int (oB0 x1)), (.int (oB8 x1))] oZ) (cx : Chr x1) :
    Met l Z oM4 oC4 2 (some .char) (oR 0 0 0 0) n0 [] #[(.ref b), (.int (1 : Int32))] h0 (fun v h => v = some (.int x1) ∧ h0 = h) := by
  refine Met.intro (Ls := #[.val (.ref b), .val (.int (1 : Int32))]) (plainFor_of_name pn_m_cpr1_0) hw (fun _ => rfl) ?_
  intro w K0
  have K : oK4 w Z a0 := K0
  refine Rn.getS K (q := 3) (oT 140 rfl) (SA.ext X0.2) d28_0 rfl ?_
  refine Rn.ifY K (q := 28) d28_3 (XT.i0_ne_t (by decide)) (by decide) (by decide) ?_
  refine Rn.iloadN K (q := 29) d28_28 rfl rfl ?_
  refine Rn.iconst K (q := 30) (1 : Int32) d28_29 rfl rfl ?_
  refine Rn.ishl K (q := 31) d28_30 rfl ?_
  rw [show ((1 : Int32) <<< ((1 : Int32) &&& 31)) = (2 : Int32) from by decide]
  show Rn w l _ n0 _ 31 _ [(.int (2 : Int32))] h0 0 0
  refine Rn.istoreN K (q := 32) (Ls' := #[.val (.ref b), .val (.int (2 : Int32))]) d28_31 rfl rfl ?_
  refine Rn.aloadN K (q := 33) d28_32 rfl rfl rfl ?_
  refine Rn.iloadN K (q := 34) d28_33 rfl rfl ?_
  refine Rn.iinc K (q := 37) (Ls' := #[.val (.ref b), .val (.int (3 : Int32))]) (1 : Int32) d28_34 rfl rfl rfl rfl ?_
  refine Rn.baloadB K (q := 38) (v := (.int (oB0 x1))) Ab (by decide) rfl d28_37 rfl ?_
  refine Rn.sipush K (q := 41) (255 : Int32) d28_38 rfl rfl ?_
  refine Rn.iand K (q := 42) d28_41 rfl ?_
  refine Rn.getS K (q := 45) (oT 141 rfl) (SH.ext X0.2) d28_42 rfl ?_
  refine Rn.ishl K (q := 46) d28_45 rfl ?_
  refine Rn.aloadN K (q := 47) d28_46 rfl rfl rfl ?_
  refine Rn.iloadN K (q := 48) d28_47 rfl rfl ?_
  refine Rn.baloadB K (q := 49) (v := (.int (oB8 x1))) Ab (by decide) rfl d28_48 rfl ?_
  refine Rn.sipush K (q := 52) (255 : Int32) d28_49 rfl rfl ?_
  refine Rn.iand K (q := 53) d28_52 rfl ?_
  refine Rn.getS K (q := 56) (oT 142 rfl) (SW.ext X0.2) d28_53 rfl ?_
  refine Rn.ishl K (q := 57) d28_56 rfl ?_
  refine Rn.ior K (q := 58) d28_57 rfl ?_
  refine Rn.i2c K (q := 59) d28_58 rfl ?_
  exact Rn.retN K .char rfl (by simp) d28_59 (by decide) (by decide) ⟨by rw [own_gc cx], rfl⟩
theorem m_tob2 (l : Launch) (Z : State) (a0 : Array Value) (hw : oH Z a0) (n0 : Nat) (h0 : Heap) (c : Addr) (kc : ClassId) (x0 x1 : Int32) (X0 : Old Z n0 h0) (SA : oS0 Z) (SH : oS1 Z) (SW : oS2 Z) (Ec : Exa Z h0 c "[C") (Ac : Arv Z h0 c kc .char (2 : Int32) [(.int x0), (.int x1)] oZ) :
    Met l Z oM5 oC5 5 (some (.array .byte)) (oR 2 1 4 24) n0 [] #[(.ref c), oZ, (.int (2 : Int32))] h0 (fun v h => ∃ b k, v = some (.ref b) ∧ h0.size ≤ b ∧ Keep h0 h [] ∧ Exa Z h b "[B" ∧ Arv Z h b k .byte (4 : Int32) [(.int (oB0 x0)), (.int (oB8 x0)), (.int (oB0 x1)), (.int (oB8 x1))] oZ) := by
  refine Met.intro (Ls := #[.val (.ref c), .val oZ, .val (.int (2 : Int32)), .unset, .unset]) (plainFor_of_name pn_m_cpr1_0) hw (fun _ => rfl) ?_
  intro w K0
  have K : oK5 w Z a0 := K0
  have K1 := Keep.refl h0 []
  refine Rn.iloadN K (q := 1) d24_0 rfl rfl ?_
  refine Rn.stat K (q := 4) (W := 0) (y := oM2) (argsL := [(.int (2 : Int32))]) (rest := []) (oT 130 rfl) (oT 131 rfl) (oT 132 rfl) (oT 102 rfl) (by decide) (m_nbf2 l Z a0 hw n0 h0 X0) (by decide) (by decide) rfl (lenOf pd_1 rfl) rfl (oL rfl) d24_1 rfl (by decide) (by decide) ?_
  rintro _ h1 ⟨b, k, rfl, sz, Kn, Eb, Ab⟩
  have f1 := X0.keep Kn all0
  have f2 := K1.trans Kn all0
  have f3 := Ec.keep Kn
  have f4 := Ac.keep Kn nin0
  show Rn w l _ n0 _ 4 _ [(.ref b)] h1 1 4
  refine Rn.astoreN K (q := 5) (Ls' := #[.val (.ref c), .val oZ, .val (.int (2 : Int32)), .val (.ref b), .unset]) d24_4 rfl rfl rfl ?_
  refine Rn.iconst K (q := 6) (0 : Int32) d24_5 rfl rfl ?_
  refine Rn.istore K (q := 8) (Ls' := #[.val (.ref c), .val oZ, .val (.int (2 : Int32)), .val (.ref b), .val oZ]) d24_6 rfl rfl ?_
  refine Rn.iload K (q := 10) d24_8 rfl rfl ?_
  refine Rn.iloadN K (q := 11) d24_10 rfl rfl ?_
  refine Rn.icN K (q := 14) d24_11 (XT.ii_ge_f (by decide)) rfl ?_
  refine Rn.aloadN K (q := 15) d24_14 rfl rfl rfl ?_
  refine Rn.iload K (q := 17) d24_15 rfl rfl ?_
  refine Rn.aloadN K (q := 18) d24_17 rfl rfl rfl ?_
  refine Rn.iloadN K (q := 19) d24_18 rfl rfl ?_
  refine Rn.caload K (q := 20) (v := (.int x0)) f4 (by decide) rfl d24_19 rfl ?_
  refine Rn.stat K (q := 23) (W := 0) (y := oM3) (argsL := [(.ref b), oZ, (.int x0)]) (rest := []) (oT 137 rfl) (oT 138 rfl) (oT 139 rfl) (oT 102 rfl) (by decide) (m_put2_0 l Z a0 hw n0 h1 b k x0 (0 : Int32) (0 : Int32) (0 : Int32) (0 : Int32) f1 SA SH SW Ab (own_g X0 sz)) (by decide) (by decide) rfl (lenOf pd_2 rfl) rfl (oL rfl) d24_20 rfl (by decide) (by decide) ?_
  rintro _ h5 ⟨rfl, K6, A7⟩
  have f8 := f1.keep K6 (allS (own_g X0 sz) all0)
  have f9 := f2.trans K6 (allS (Or.inr sz) all0)
  have f11 := f4.keep K6 (ninS (ne_exa f3 Eb (by decide)) nin0)
  have f12 := Eb.keep K6
  show Rn w l _ n0 _ 23 _ [] h5 1 4
  refine Rn.iinc K (q := 26) (Ls' := #[.val (.ref c), .val (.int (1 : Int32)), .val (.int (2 : Int32)), .val (.ref b), .val oZ]) (1 : Int32) d24_23 rfl rfl rfl rfl ?_
  refine Rn.iinc K (q := 29) (Ls' := #[.val (.ref c), .val (.int (1 : Int32)), .val (.int (2 : Int32)), .val (.ref b), .val (.int (1 : Int32))]) (1 : Int32) d24_26 rfl rfl rfl rfl ?_
  refine Rn.goto K (q := 8) d24_29 (by decide) (by decide) ?_
  refine Rn.iload K (q := 10) d24_8 rfl rfl ?_
  refine Rn.iloadN K (q := 11) d24_10 rfl rfl ?_
  refine Rn.icN K (q := 14) d24_11 (XT.ii_ge_f (by decide)) rfl ?_
  refine Rn.aloadN K (q := 15) d24_14 rfl rfl rfl ?_
  refine Rn.iload K (q := 17) d24_15 rfl rfl ?_
  refine Rn.aloadN K (q := 18) d24_17 rfl rfl rfl ?_
  refine Rn.iloadN K (q := 19) d24_18 rfl rfl ?_
  refine Rn.caload K (q := 20) (v := (.int x1)) f11 (by decide) rfl d24_19 rfl ?_
  refine Rn.stat K (q := 23) (W := 0) (y := oM3) (argsL := [(.ref b), (.int (1 : Int32)), (.int x1)]) (rest := []) (oT 137 rfl) (oT 138 rfl) (oT 139 rfl) (oT 102 rfl) (by decide) (m_put2_1 l Z a0 hw n0 h5 b k x1 (oB0 x0) (oB8 x0) (0 : Int32) (0 : Int32) f8 SA SH SW A7 (own_g X0 sz)) (by decide) (by decide) rfl (lenOf pd_2 rfl) rfl (oL rfl) d24_20 rfl (by decide) (by decide) ?_
  rintro _ h13 ⟨rfl, K14, A15⟩
  have f17 := f9.trans K14 (allS (Or.inr sz) all0)
  have f20 := f12.keep K14
  show Rn w l _ n0 _ 23 _ [] h13 1 4
  refine Rn.iinc K (q := 26) (Ls' := #[.val (.ref c), .val (.int (2 : Int32)), .val (.int (2 : Int32)), .val (.ref b), .val (.int (1 : Int32))]) (1 : Int32) d24_23 rfl rfl rfl rfl ?_
  refine Rn.iinc K (q := 29) (Ls' := #[.val (.ref c), .val (.int (2 : Int32)), .val (.int (2 : Int32)), .val (.ref b), .val (.int (2 : Int32))]) (1 : Int32) d24_26 rfl rfl rfl rfl ?_
  refine Rn.goto K (q := 8) d24_29 (by decide) (by decide) ?_
  refine Rn.iload K (q := 10) d24_8 rfl rfl ?_
  refine Rn.iloadN K (q := 11) d24_10 rfl rfl ?_
  refine Rn.icY K (q := 32) d24_11 (XT.ii_ge_t (by decide)) (by decide) (by decide) ?_
  refine Rn.aloadN K (q := 33) d24_32 rfl rfl rfl ?_
  exact Rn.retA K (.array .byte) rfl rfl rfl d24_33 (by decide) (by decide) ⟨_, _, rfl, sz, f17, f20, A15⟩
theorem m_cp2_0 (l : Launch) (Z : State) (a0 : Array Value) (hw : oH Z a0) (n0 : Nat) (h0 : Heap) (c : Addr) (kc : ClassId) (x0 x1 : Int32) (X0 : Old Z n0 h0) (SA : oS0 Z) (SH : oS1 Z) (SW : oS2 Z) (Ec : Exa Z h0 c "[C") (Ac : Arv Z h0 c kc .char (2 : Int32) [(.int x0), (.int x1)] oZ) (cx0 : Chr x0) (cx1 : Chr x1) (bx : (255 : Int32) < x0) :
    Met l Z oM6 oC6 6 (some (.array .byte)) (oR 3 2 6 40) n0 [] #[(.ref c), oZ, (.int (2 : Int32))] h0 (fun v h => ∃ b k, v = some (.ref b) ∧ Keep h0 h [] ∧ Exa Z h b "[B" ∧ Arv Z h b k .byte (4 : Int32) [(.int (oB0 x0)), (.int (oB8 x0)), (.int (oB0 x1)), (.int (oB8 x1))] oZ) := by
  refine Met.intro (Ls := #[.val (.ref c), .val oZ, .val (.int (2 : Int32)), .unset, .unset, .unset]) (plainFor_of_name pn_m_cpr1_0) hw (fun _ => rfl) ?_
  intro w K0
  have K : oK6 w Z a0 := K0
  have K1 := Keep.refl h0 []
  refine Rn.iloadN K (q := 1) d18_0 rfl rfl ?_
  refine Rn.newP K (q := 3) (cap := 2) (oT 21 rfl) (by decide) (by decide) (by decide) (by decide) (by decide) (ad := "[B") (by decide) d18_1 rfl ?_
  intro b1 h2 k4 gb1_ X3 A_b1 EA_b1
  have ne_c_b1 : c ≠ b1 := fun e => absurd Ec.lt (by rw [e, gb1_]; exact Nat.lt_irrefl _)
  have ne_c_b1 : c ≠ b1 := fun e => absurd Ec.lt (by rw [e, gb1_]; exact Nat.lt_irrefl _)
  have g_b1 : n0 ≤ b1 := by rw [gb1_]; exact X0.1 ▸ X0.2.1
  have sz_b1 : h0.size ≤ b1 := by rw [gb1_]; exact K1.1
  have f5 := X0.ext X3
  have f6 := K1.ext X3
  have f7 := Ec.ext X3
  have f8 := Ac.ext X3
  replace A_b1 : Arv Z h2 b1 k4 .byte (2 : Int32) [oZ, oZ] oZ := A_b1.pad (pad_rep [] oZ 2)
  show Rn w l _ n0 _ 3 _ [(.ref b1)] h2 1 2
  refine Rn.astoreN K (q := 4) (Ls' := #[.val (.ref c), .val oZ, .val (.int (2 : Int32)), .val (.ref b1), .unset, .unset]) d18_3 rfl rfl rfl ?_
  refine Rn.aloadN K (q := 5) d18_4 rfl rfl rfl ?_
  refine Rn.iloadN K (q := 6) d18_5 rfl rfl ?_
  refine Rn.aloadN K (q := 7) d18_6 rfl rfl rfl ?_
  refine Rn.iconst K (q := 8) (0 : Int32) d18_7 rfl rfl ?_
  refine Rn.iloadN K (q := 9) d18_8 rfl rfl ?_
  refine Rn.stat K (q := 12) (W := 0) (y := oM0) (argsL := [(.ref c), oZ, (.ref b1), oZ, (.int (2 : Int32))]) (rest := []) (oT 104 rfl) (oT 105 rfl) (oT 106 rfl) (oT 102 rfl) (by decide) (m_cpr2_0 l Z a0 hw n0 h2 c b1 kc k4 x0 x1 f5 f7 f8 EA_b1 A_b1 g_b1 bx) (by decide) (by decide) rfl (lenOf pd_3 rfl) rfl (oL rfl) d18_9 rfl (by decide) (by decide) ?_
  rintro _ h9 ⟨rfl, K10⟩
  have f12 := f5.keep K10 (allS g_b1 all0)
  have f13 := f6.trans K10 (allS (Or.inr sz_b1) all0)
  have f14 := f7.keep K10
  have f15 := f8.keep K10 (ninS ne_c_b1 nin0)
  show Rn w l _ n0 _ 12 _ [oZ] h9 1 2
  refine Rn.istore K (q := 14) (Ls' := #[.val (.ref c), .val oZ, .val (.int (2 : Int32)), .val (.ref b1), .val oZ, .unset]) d18_12 rfl rfl ?_
  refine Rn.iload K (q := 16) d18_14 rfl rfl ?_
  refine Rn.iloadN K (q := 17) d18_16 rfl rfl ?_
  refine Rn.icN K (q := 20) d18_17 (XT.ii_eq_f (by decide)) rfl ?_
  refine Rn.aloadN K (q := 21) d18_20 rfl rfl rfl ?_
  refine Rn.iloadN K (q := 22) d18_21 rfl rfl ?_
  refine Rn.iloadN K (q := 23) d18_22 rfl rfl ?_
  refine Rn.stat K (q := 26) (W := 0) (y := oM5) (argsL := [(.ref c), oZ, (.int (2 : Int32))]) (rest := []) (oT 127 rfl) (oT 128 rfl) (oT 129 rfl) (oT 102 rfl) (by decide) (m_tob2 l Z a0 hw n0 h9 c kc x0 x1 f12 SA SH SW f14 f15) (by decide) (by decide) rfl (lenOf pd_4 rfl) rfl (oL rfl) d18_23 rfl (by decide) (by decide) ?_
  rintro _ h17 ⟨u, ku, rfl, -, K18, E19, A20⟩
  have f21 := f12.keep K18 all0
  have f22 := f13.trans K18 all0
  show Rn w l _ n0 _ 26 _ [(.ref u)] h17 2 6
  refine Rn.astore K (q := 28) (Ls' := #[.val (.ref c), .val oZ, .val (.int (2 : Int32)), .val (.ref b1), .val oZ, .val (.ref u)]) d18_26 rfl rfl rfl ?_
  refine Rn.aload K (q := 30) d18_28 rfl rfl rfl ?_
  refine Rn.iload K (q := 32) d18_30 rfl rfl ?_
  refine Rn.stat K (q := 35) (W := 0) (y := oM4) (argsL := [(.ref u), oZ]) (rest := []) (oT 143 rfl) (oT 144 rfl) (oT 145 rfl) (oT 102 rfl) (by decide) (m_gch2_0 l Z a0 hw n0 h17 u ku x0 x1 f21 SA SH SW A20 cx0) (by decide) (by decide) rfl (lenOf pd_5 rfl) rfl (oL rfl) d18_32 rfl (by decide) (by decide) ?_
  rintro _ _ ⟨rfl, rfl⟩
  show Rn w l _ n0 _ 35 _ [(.int x0)] h17 2 6
  refine Rn.sipush K (q := 38) (255 : Int32) d18_35 rfl rfl ?_
  refine Rn.icY K (q := 54) d18_38 (XT.ii_gt_t bx) (by decide) (by decide) ?_
  refine Rn.aload K (q := 56) d18_54 rfl rfl rfl ?_
  exact Rn.retA K (.array .byte) rfl rfl rfl d18_56 (by decide) (by decide) ⟨_, _, rfl, f22, E19, A20⟩
theorem m_cp2_1 (l : Launch) (Z : State) (a0 : Array Value) (hw : oH Z a0) (n0 : Nat) (h0 : Heap) (c : Addr) (kc : ClassId) (x0 x1 : Int32) (X0 : Old Z n0 h0) (SA : oS0 Z) (SH : oS1 Z) (SW : oS2 Z) (Ec : Exa Z h0 c "[C") (Ac : Arv Z h0 c kc .char (2 : Int32) [(.int x0), (.int x1)] oZ) (cx0 : Chr x0) (cx1 : Chr x1) (hx0 : ¬ (255 : Int32) < x0) (bx : (255 : Int32) < x1) :
    Met l Z oM6 oC6 6 (some (.array .byte)) (oR 3 2 6 40) n0 [] #[(.ref c), oZ, (.int (2 : Int32))] h0 (fun v h => ∃ b k, v = some (.ref b) ∧ Keep h0 h [] ∧ Exa Z h b "[B" ∧ Arv Z h b k .byte (4 : Int32) [(.int (oB0 x0)), (.int (oB8 x0)), (.int (oB0 x1)), (.int (oB8 x1))] oZ) := by
  refine Met.intro (Ls := #[.val (.ref c), .val oZ, .val (.int (2 : Int32)), .unset, .unset, .unset]) (plainFor_of_name pn_m_cpr1_0) hw (fun _ => rfl) ?_
  intro w K0
  have K : oK6 w Z a0 := K0
  have K1 := Keep.refl h0 []
  refine Rn.iloadN K (q := 1) d18_0 rfl rfl ?_
  refine Rn.newP K (q := 3) (cap := 2) (oT 21 rfl) (by decide) (by decide) (by decide) (by decide) (by decide) (ad := "[B") (by decide) d18_1 rfl ?_
  intro b1 h2 k4 gb1_ X3 A_b1 EA_b1
  have ne_c_b1 : c ≠ b1 := fun e => absurd Ec.lt (by rw [e, gb1_]; exact Nat.lt_irrefl _)
  have ne_c_b1 : c ≠ b1 := fun e => absurd Ec.lt (by rw [e, gb1_]; exact Nat.lt_irrefl _)
  have g_b1 : n0 ≤ b1 := by rw [gb1_]; exact X0.1 ▸ X0.2.1
  have sz_b1 : h0.size ≤ b1 := by rw [gb1_]; exact K1.1
  have f5 := X0.ext X3
  have f6 := K1.ext X3
  have f7 := Ec.ext X3
  have f8 := Ac.ext X3
  replace A_b1 : Arv Z h2 b1 k4 .byte (2 : Int32) [oZ, oZ] oZ := A_b1.pad (pad_rep [] oZ 2)
  show Rn w l _ n0 _ 3 _ [(.ref b1)] h2 1 2
  refine Rn.astoreN K (q := 4) (Ls' := #[.val (.ref c), .val oZ, .val (.int (2 : Int32)), .val (.ref b1), .unset, .unset]) d18_3 rfl rfl rfl ?_
  refine Rn.aloadN K (q := 5) d18_4 rfl rfl rfl ?_
  refine Rn.iloadN K (q := 6) d18_5 rfl rfl ?_
  refine Rn.aloadN K (q := 7) d18_6 rfl rfl rfl ?_
  refine Rn.iconst K (q := 8) (0 : Int32) d18_7 rfl rfl ?_
  refine Rn.iloadN K (q := 9) d18_8 rfl rfl ?_
  refine Rn.stat K (q := 12) (W := 0) (y := oM0) (argsL := [(.ref c), oZ, (.ref b1), oZ, (.int (2 : Int32))]) (rest := []) (oT 104 rfl) (oT 105 rfl) (oT 106 rfl) (oT 102 rfl) (by decide) (m_cpr2_1 l Z a0 hw n0 h2 c b1 kc k4 x0 x1 f5 f7 f8 EA_b1 A_b1 g_b1 hx0 bx) (by decide) (by decide) rfl (lenOf pd_3 rfl) rfl (oL rfl) d18_9 rfl (by decide) (by decide) ?_
  rintro _ h9 ⟨rfl, K10⟩
  have f12 := f5.keep K10 (allS g_b1 all0)
  have f13 := f6.trans K10 (allS (Or.inr sz_b1) all0)
  have f14 := f7.keep K10
  have f15 := f8.keep K10 (ninS ne_c_b1 nin0)
  show Rn w l _ n0 _ 12 _ [(.int (1 : Int32))] h9 1 2
  refine Rn.istore K (q := 14) (Ls' := #[.val (.ref c), .val oZ, .val (.int (2 : Int32)), .val (.ref b1), .val (.int (1 : Int32)), .unset]) d18_12 rfl rfl ?_
  refine Rn.iload K (q := 16) d18_14 rfl rfl ?_
  refine Rn.iloadN K (q := 17) d18_16 rfl rfl ?_
  refine Rn.icN K (q := 20) d18_17 (XT.ii_eq_f (by decide)) rfl ?_
  refine Rn.aloadN K (q := 21) d18_20 rfl rfl rfl ?_
  refine Rn.iloadN K (q := 22) d18_21 rfl rfl ?_
  refine Rn.iloadN K (q := 23) d18_22 rfl rfl ?_
  refine Rn.stat K (q := 26) (W := 0) (y := oM5) (argsL := [(.ref c), oZ, (.int (2 : Int32))]) (rest := []) (oT 127 rfl) (oT 128 rfl) (oT 129 rfl) (oT 102 rfl) (by decide) (m_tob2 l Z a0 hw n0 h9 c kc x0 x1 f12 SA SH SW f14 f15) (by decide) (by decide) rfl (lenOf pd_4 rfl) rfl (oL rfl) d18_23 rfl (by decide) (by decide) ?_
  rintro _ h17 ⟨u, ku, rfl, -, K18, E19, A20⟩
  have f21 := f12.keep K18 all0
  have f22 := f13.trans K18 all0
  show Rn w l _ n0 _ 26 _ [(.ref u)] h17 2 6
  refine Rn.astore K (q := 28) (Ls' := #[.val (.ref c), .val oZ, .val (.int (2 : Int32)), .val (.ref b1), .val (.int (1 : Int32)), .val (.ref u)]) d18_26 rfl rfl rfl ?_
  refine Rn.aload K (q := 30) d18_28 rfl rfl rfl ?_
  refine Rn.iload K (q := 32) d18_30 rfl rfl ?_
  refine Rn.stat K (q := 35) (W := 0) (y := oM4) (argsL := [(.ref u), (.int (1 : Int32))]) (rest := []) (oT 143 rfl) (oT 144 rfl) (oT 145 rfl) (oT 102 rfl) (by decide) (m_gch2_1 l Z a0 hw n0 h17 u ku x0 x1 f21 SA SH SW A20 cx1) (by decide) (by decide) rfl (lenOf pd_5 rfl) rfl (oL rfl) d18_32 rfl (by decide) (by decide) ?_
  rintro _ _ ⟨rfl, rfl⟩
  show Rn w l _ n0 _ 35 _ [(.int x1)] h17 2 6
  refine Rn.sipush K (q := 38) (255 : Int32) d18_35 rfl rfl ?_
  refine Rn.icY K (q := 54) d18_38 (XT.ii_gt_t bx) (by decide) (by decide) ?_
  refine Rn.aload K (q := 56) d18_54 rfl rfl rfl ?_
  exact Rn.retA K (.array .byte) rfl rfl rfl d18_56 (by decide) (by decide) ⟨_, _, rfl, f22, E19, A20⟩
theorem m_cp2_2 (l : Launch) (Z : State) (a0 : Array Value) (hw : oH Z a0) (n0 : Nat) (h0 : Heap) (c : Addr) (kc : ClassId) (x0 x1 : Int32) (X0 : Old Z n0 h0) (SA : oS0 Z) (SH : oS1 Z) (SW : oS2 Z) (Ec : Exa Z h0 c "[C") (Ac : Arv Z h0 c kc .char (2 : Int32) [(.int x0), (.int x1)] oZ) (cx0 : Chr x0) (cx1 : Chr x1) (hx0 : ¬ (255 : Int32) < x0) (hx1 : ¬ (255 : Int32) < x1) :
    Met l Z oM6 oC6 6 (some (.array .byte)) (oR 1 1 2 18) n0 [] #[(.ref c), oZ, (.int (2 : Int32))] h0 (fun v h => ∃ b k, v = some (.ref b) ∧ Keep h0 h [] ∧ Exa Z h b "[B" ∧ Arv Z h b k .byte (2 : Int32) [(.int (oB x0)), (.int (oB x1))] oZ) := by
  refine Met.intro (Ls := #[.val (.ref c), .val oZ, .val (.int (2 : Int32)), .unset, .unset, .unset]) (plainFor_of_name pn_m_cpr1_0) hw (fun _ => rfl) ?_
  intro w K0
  have K : oK6 w Z a0 := K0
  have K1 := Keep.refl h0 []
  refine Rn.iloadN K (q := 1) d18_0 rfl rfl ?_
  refine Rn.newP K (q := 3) (cap := 2) (oT 21 rfl) (by decide) (by decide) (by decide) (by decide) (by decide) (ad := "[B") (by decide) d18_1 rfl ?_
  intro b1 h2 k4 gb1_ X3 A_b1 EA_b1
  have ne_c_b1 : c ≠ b1 := fun e => absurd Ec.lt (by rw [e, gb1_]; exact Nat.lt_irrefl _)
  have ne_c_b1 : c ≠ b1 := fun e => absurd Ec.lt (by rw [e, gb1_]; exact Nat.lt_irrefl _)
  have g_b1 : n0 ≤ b1 := by rw [gb1_]; exact X0.1 ▸ X0.2.1
  have sz_b1 : h0.size ≤ b1 := by rw [gb1_]; exact K1.1
  have f5 := X0.ext X3
  have f6 := K1.ext X3
  have f7 := Ec.ext X3
  have f8 := Ac.ext X3
  replace A_b1 : Arv Z h2 b1 k4 .byte (2 : Int32) [oZ, oZ] oZ := A_b1.pad (pad_rep [] oZ 2)
  show Rn w l _ n0 _ 3 _ [(.ref b1)] h2 1 2
  refine Rn.astoreN K (q := 4) (Ls' := #[.val (.ref c), .val oZ, .val (.int (2 : Int32)), .val (.ref b1), .unset, .unset]) d18_3 rfl rfl rfl ?_
  refine Rn.aloadN K (q := 5) d18_4 rfl rfl rfl ?_
  refine Rn.iloadN K (q := 6) d18_5 rfl rfl ?_
  refine Rn.aloadN K (q := 7) d18_6 rfl rfl rfl ?_
  refine Rn.iconst K (q := 8) (0 : Int32) d18_7 rfl rfl ?_
  refine Rn.iloadN K (q := 9) d18_8 rfl rfl ?_
  refine Rn.stat K (q := 12) (W := 0) (y := oM0) (argsL := [(.ref c), oZ, (.ref b1), oZ, (.int (2 : Int32))]) (rest := []) (oT 104 rfl) (oT 105 rfl) (oT 106 rfl) (oT 102 rfl) (by decide) (m_cpr2_2 l Z a0 hw n0 h2 c b1 kc k4 x0 x1 f5 f7 f8 EA_b1 A_b1 g_b1 hx0 hx1) (by decide) (by decide) rfl (lenOf pd_3 rfl) rfl (oL rfl) d18_9 rfl (by decide) (by decide) ?_
  rintro _ h9 ⟨rfl, K10, A11⟩
  have f13 := f6.trans K10 (allS (Or.inr sz_b1) all0)
  have f16 := EA_b1.keep K10
  show Rn w l _ n0 _ 12 _ [(.int (2 : Int32))] h9 1 2
  refine Rn.istore K (q := 14) (Ls' := #[.val (.ref c), .val oZ, .val (.int (2 : Int32)), .val (.ref b1), .val (.int (2 : Int32)), .unset]) d18_12 rfl rfl ?_
  refine Rn.iload K (q := 16) d18_14 rfl rfl ?_
  refine Rn.iloadN K (q := 17) d18_16 rfl rfl ?_
  refine Rn.icY K (q := 57) d18_17 (XT.ii_eq_t rfl) (by decide) (by decide) ?_
  refine Rn.aloadN K (q := 58) d18_57 rfl rfl rfl ?_
  exact Rn.retA K (.array .byte) rfl rfl rfl d18_58 (by decide) (by decide) ⟨_, _, rfl, f13, f16, A11⟩
theorem m_cpw2 (l : Launch) (Z : State) (a0 : Array Value) (hw : oH Z a0) (n0 : Nat) (h0 : Heap) (c : Addr) (kc : ClassId) (x0 x1 : Int32) (X0 : Old Z n0 h0) (SA : oS0 Z) (SH : oS1 Z) (SW : oS2 Z) (Ec : Exa Z h0 c "[C") (Ac : Arv Z h0 c kc .char (2 : Int32) [(.int x0), (.int x1)] oZ) (cx0 : Chr x0) (cx1 : Chr x1) (hb : ¬ ∀ c ∈ [x0, x1], ¬ (255 : Int32) < c) :
    Met l Z oM6 oC6 6 (some (.array .byte)) (oR 3 2 6 40) n0 [] #[(.ref c), oZ, (.int (2 : Int32))] h0 (fun v h => ∃ b k, v = some (.ref b) ∧ Keep h0 h [] ∧ Exa Z h b "[B" ∧ Arv Z h b k .byte (4 : Int32) [(.int (oB0 x0)), (.int (oB8 x0)), (.int (oB0 x1)), (.int (oB8 x1))] oZ) := by
  by_cases hx0 : (255 : Int32) < x0
  · exact m_cp2_0 l Z a0 hw n0 h0 c kc x0 x1 X0 SA SH SW Ec Ac cx0 cx1 hx0
  by_cases hx1 : (255 : Int32) < x1
  · exact m_cp2_1 l Z a0 hw n0 h0 c kc x0 x1 X0 SA SH SW Ec Ac cx0 cx1 hx0 hx1
  exact absurd (by simp only [List.mem_cons, List.not_mem_nil, or_false]; intro c hc; rcases hc with rfl | rfl <;> assumption) hb
theorem m_cfl2_1 (l : Launch) (Z : State) (a0 : Array Value) (hw : oH Z a0) (n0 : Nat) (h0 : Heap) (b : Addr) (k : ClassId) (x0 x1 : Int32) (X0 : Old Z n0 h0) (Ab : Arv Z h0 b k .byte (4 : Int32) [(.int (oB0 x0)), (.int (oB8 x0)), (.int (oB0 x1)), (.int (oB8 x1))] oZ) :
    Met l Z oM7 oC7 2 (some .byte) (oR 0 0 0 0) n0 [] #[(.ref b), (.int (2 : Int32))] h0 (fun v h => v = some (.int (1 : Int32)) ∧ h0 = h) := by
  refine Met.intro (Ls := #[.val (.ref b), .val (.int (2 : Int32))]) (plainFor_of_name pn_m_cpr1_0) hw (fun _ => rfl) ?_
  intro w K0
  have K : oK7 w Z a0 := K0
  refine Rn.iloadN K (q := 1) d20_0 rfl rfl ?_
  refine Rn.aloadN K (q := 2) d20_1 rfl rfl rfl ?_
  refine Rn.arraylength K (q := 3) Ab d20_2 rfl ?_
  refine Rn.isub K (q := 4) d20_3 rfl ?_
  refine Rn.bipush K (q := 6) (31 : Int32) d20_4 rfl rfl ?_
  refine Rn.iushr K (q := 7) d20_6 rfl ?_
  refine Rn.i2b K (q := 8) d20_7 rfl ?_
  exact Rn.retN K .byte rfl (by simp) d20_8 (by decide) (by decide) ⟨by rw [show nar .byte ((((2 : Int32) - (4 : Int32)).toUInt32 >>> ((31 : Int32) &&& 31).toUInt32).toInt32).toInt8.toInt32 = 1 from by decide], rfl⟩
theorem m_iv2_1 (l : Launch) (Z : State) (a0 : Array Value) (hw : oH Z a0) (n0 : Nat) (h0 : Heap) (s c : Addr) (kc : ClassId) (x0 x1 : Int32) (cst : Int32) (X0 : Old Z n0 h0) (SC : oSC Z cst) (hcs : ¬ cst = 0) (Es : Exa Z h0 s "java/lang/String") (gs : n0 ≤ s) (Fv : Fld Z h0 s "java/lang/String" "value" "[B" .null) (Fc : Fld Z h0 s "java/lang/String" "coder" "B" (.int (0 : Int32))) (Ec : Exa Z h0 c "[C") (Ac : Arv Z h0 c kc .char (2 : Int32) [(.int x0), (.int x1)] oZ) (SA : oS0 Z) (SH : oS1 Z) (SW : oS2 Z) (cx0 : Chr x0) (cx1 : Chr x1) (ha : ¬ ∀ c ∈ [x0, x1], ¬ (255 : Int32) < c) :
    Met l Z oM8 oC8 6 none (oR 4 2 6 57) n0 [] #[(.ref s), (.ref c), oZ, (.int (2 : Int32)), .null] h0 (fun r h => r = none ∧ Keep h0 h [s] ∧ ∃ v k, Fld Z h s "java/lang/String" "value" "[B" (.ref v) ∧ Fld Z h s "java/lang/String" "coder" "B" (.int (1 : Int32)) ∧ Arv Z h v k .byte (4 : Int32) [(.int (oB0 x0)), (.int (oB8 x0)), (.int (oB0 x1)), (.int (oB8 x1))] oZ) := by
  refine Met.intro (Ls := #[.val (.ref s), .val (.ref c), .val oZ, .val (.int (2 : Int32)), .val .null, .unset]) (plainFor_of_name pn_m_iv1_1) hw (fun m => by first | (simp [entryFrame, mkF, argsToLocals, Value.category]; done) | rfl) ?_
  intro w K0
  have K : oK8 w Z a0 := K0
  have K1 := Keep.refl h0 [s]
  refine Rn.aloadN K (q := 1) d3_0 rfl rfl rfl ?_
  refine Rn.initO K (q := 4) (W := 0) (oT 17 rfl) (oT 18 rfl) (oT 19 rfl) (by decide) (by decide) rfl (oL rfl) d3_1 rfl ?_
  refine Rn.iloadN K (q := 5) d3_4 rfl rfl ?_
  refine Rn.ifY K (q := 27) d3_5 (XT.i0_ne_t (by decide)) (by decide) (by decide) ?_
  refine Rn.getS K (q := 30) (oT 61 rfl) (SC.ext X0.2) d3_27 rfl ?_
  refine Rn.ifN K (q := 33) d3_30 (XT.i0_eq_f hcs) rfl ?_
  refine Rn.aloadN K (q := 34) d3_33 rfl rfl rfl ?_
  refine Rn.iloadN K (q := 35) d3_34 rfl rfl ?_
  refine Rn.iloadN K (q := 36) d3_35 rfl rfl ?_
  refine Rn.stat K (q := 39) (W := 0) (y := oM6) (argsL := [(.ref c), oZ, (.int (2 : Int32))]) (rest := []) (oT 100 rfl) (oT 101 rfl) (oT 103 rfl) (oT 102 rfl) (by decide) (m_cpw2 l Z a0 hw n0 h0 c kc x0 x1 X0 SA SH SW Ec Ac cx0 cx1 ha) (by decide) (by decide) rfl (lenOf pd_4 rfl) rfl (oL rfl) d3_36 rfl (by decide) (by decide) ?_
  rintro _ h1 ⟨v, k, rfl, K2, E3, A4⟩
  have f5 := X0.keep K2 all0
  have f6 := K1.trans K2 all0
  have f7 := Es.keep K2
  have f8 := Fv.keep K2 nin0
  have f9 := Fc.keep K2 nin0
  show Rn w l _ n0 _ 39 _ [(.ref v)] h1 2 6
  refine Rn.astore K (q := 41) (Ls' := #[.val (.ref s), .val (.ref c), .val oZ, .val (.int (2 : Int32)), .val .null, .val (.ref v)]) d3_39 rfl rfl rfl ?_
  refine Rn.aloadN K (q := 42) d3_41 rfl rfl rfl ?_
  refine Rn.aload K (q := 44) d3_42 rfl rfl rfl ?_
  refine Rn.iloadN K (q := 45) d3_44 rfl rfl ?_
  refine Rn.stat K (q := 48) (W := 1) (y := oM7) (argsL := [(.ref v), (.int (2 : Int32))]) (rest := [(.ref s)]) (oT 107 rfl) (oT 108 rfl) (oT 109 rfl) (oT 102 rfl) (by decide) (m_cfl2_1 l Z a0 hw n0 h1 v k x0 x1 f5 A4) (by decide) (by decide) rfl (lenOf pd_6 rfl) rfl (oL rfl) d3_45 rfl (by decide) (by decide) ?_
  rintro _ _ ⟨rfl, rfl⟩
  show Rn w l _ n0 _ 48 _ [(.int (1 : Int32)), (.ref s)] h1 2 6
  refine Rn.putF K (q := 51) (ty := .byte) (v' := .int (nar .byte (1 : Int32))) (oT 27 rfl) Via.refl f9 f7 (Or.inr ⟨(oT 23 rfl), rfl, rfl⟩) (oT 7 rfl) (by decide) rfl (fits_nar_byte _) gs d3_48 rfl ?_
  intro h12 W13
  have f15 := f6.wr W13 (Or.inl (oT 0 rfl))
  have f16 := f7.wr W13
  have f17 := Fld.other W13 f8 (Or.inr (slot_ne (Or.inr (K.hw _ (oT 22 rfl))) (Or.inr (K.hw _ (oT 23 rfl))) (by decide) (t := (.array .byte)) (t' := .byte) (by decide) (by decide)))
  have f18 := Fld.same W13 f9
  have f21 := E3.wr W13
  have f22 := A4.other W13 (ne_exa E3 f7 (by decide))
  refine Rn.aloadN K (q := 52) d3_51 rfl rfl rfl ?_
  refine Rn.aload K (q := 54) d3_52 rfl rfl rfl ?_
  refine Rn.putF K (q := 57) (ty := (.array .byte)) (oT 26 rfl) Via.refl f17 f16 (Or.inr ⟨(oT 22 rfl), rfl, rfl⟩) (oT 7 rfl) (by decide) rfl rfl gs d3_54 rfl ?_
  intro h23 W24
  have f26 := f15.wr W24 (Or.inl (oT 0 rfl))
  have f28 := Fld.same W24 f17
  have f29 := Fld.other W24 f18 (Or.inr (slot_ne (Or.inr (K.hw _ (oT 23 rfl))) (Or.inr (K.hw _ (oT 22 rfl))) (by decide) (t := .byte) (t' := (.array .byte)) (by decide) (by decide)))
  have f33 := f22.other W24 (ne_exa f21 f16 (by decide))
  exact Rn.retV K rfl d3_57 (by decide) (by decide) ⟨rfl, f26, _, _, f28, f29, f33⟩
theorem m_ic2_1 (l : Launch) (Z : State) (a0 : Array Value) (hw : oH Z a0) (n0 : Nat) (h0 : Heap) (s c : Addr) (kc : ClassId) (x0 x1 : Int32) (cst : Int32) (X0 : Old Z n0 h0) (SC : oSC Z cst) (hcs : ¬ cst = 0) (Es : Exa Z h0 s "java/lang/String") (gs : n0 ≤ s) (Fv : Fld Z h0 s "java/lang/String" "value" "[B" .null) (Fc : Fld Z h0 s "java/lang/String" "coder" "B" (.int (0 : Int32))) (Ec : Exa Z h0 c "[C") (Ac : Arv Z h0 c kc .char (2 : Int32) [(.int x0), (.int x1)] oZ) (SA : oS0 Z) (SH : oS1 Z) (SW : oS2 Z) (cx0 : Chr x0) (cx1 : Chr x1) (ha : ¬ ∀ c ∈ [x0, x1], ¬ (255 : Int32) < c) :
    Met l Z oM9 oC9 2 none (oR 5 2 6 74) n0 [] #[(.ref s), (.ref c)] h0 (fun r h => r = none ∧ Keep h0 h [s] ∧ ∃ v, STR Z h s v [x0, x1]) := by
  refine Met.intro (Ls := #[.val (.ref s), .val (.ref c)]) (plainFor_of_name pn_m_iv1_1) hw (fun _ => rfl) ?_
  intro w K0
  have K : oK9 w Z a0 := K0
  have K1 := Keep.refl h0 [s]
  refine Rn.aloadN K (q := 1) d2_0 rfl rfl rfl ?_
  refine Rn.aloadN K (q := 2) d2_1 rfl rfl rfl ?_
  refine Rn.iconst K (q := 3) (0 : Int32) d2_2 rfl rfl ?_
  refine Rn.aloadN K (q := 4) d2_3 rfl rfl rfl ?_
  refine Rn.arraylength K (q := 5) Ac d2_4 rfl ?_
  refine Rn.aconst_null K (q := 6) d2_5 rfl ?_
  refine Rn.spec K (q := 9) (W := 0) (y := oM8) (b := s) (argsL := [(.ref c), oZ, (.int (2 : Int32)), .null]) (rest := []) rfl (oT 13 rfl) (oT 14 rfl) (oT 16 rfl) (oT 8 rfl) (by decide) (m_iv2_1 l Z a0 hw n0 h0 s c kc x0 x1 cst X0 SC hcs Es gs Fv Fc Ec Ac SA SH SW cx0 cx1 ha) (by decide) (by decide) rfl (lenOf pd_7 rfl) rfl (oL rfl) d2_6 rfl (by decide) (by decide) ?_
  rintro _ h1 ⟨rfl, K2, v, k, F1, F2, A2⟩
  have f3 := Es.keep K2
  show Rn w l _ n0 _ 9 _ [] h1 2 6
  exact Rn.retV K rfl d2_9 (by decide) (by decide) ⟨rfl, K2, v, f3, F1, k, Or.inr ⟨by simp, F2, A2⟩⟩
theorem m_cfl2_0 (l : Launch) (Z : State) (a0 : Array Value) (hw : oH Z a0) (n0 : Nat) (h0 : Heap) (b : Addr) (k : ClassId) (x0 x1 : Int32) (X0 : Old Z n0 h0) (Ab : Arv Z h0 b k .byte (2 : Int32) [(.int (oB x0)), (.int (oB x1))] oZ) :
    Met l Z oM7 oC7 2 (some .byte) (oR 0 0 0 0) n0 [] #[(.ref b), (.int (2 : Int32))] h0 (fun v h => v = some (.int (0 : Int32)) ∧ h0 = h) := by
  refine Met.intro (Ls := #[.val (.ref b), .val (.int (2 : Int32))]) (plainFor_of_name pn_m_cpr1_0) hw (fun _ => rfl) ?_
  intro w K0
  have K : oK7 w Z a0 := K0
  refine Rn.iloadN K (q := 1) d20_0 rfl rfl ?_
  refine Rn.aloadN K (q := 2) d20_1 rfl rfl rfl ?_
  refine Rn.arraylength K (q := 3) Ab d20_2 rfl ?_
  refine Rn.isub K (q := 4) d20_3 rfl ?_
  refine Rn.bipush K (q := 6) (31 : Int32) d20_4 rfl rfl ?_
  refine Rn.iushr K (q := 7) d20_6 rfl ?_
  refine Rn.i2b K (q := 8) d20_7 rfl ?_
  exact Rn.retN K .byte rfl (by simp) d20_8 (by decide) (by decide) ⟨by rw [show nar .byte ((((2 : Int32) - (2 : Int32)).toUInt32 >>> ((31 : Int32) &&& 31).toUInt32).toInt32).toInt8.toInt32 = 0 from by decide], rfl⟩
theorem m_iv2_0 (l : Launch) (Z : State) (a0 : Array Value) (hw : oH Z a0) (n0 : Nat) (h0 : Heap) (s c : Addr) (kc : ClassId) (x0 x1 : Int32) (cst : Int32) (X0 : Old Z n0 h0) (SC : oSC Z cst) (hcs : ¬ cst = 0) (Es : Exa Z h0 s "java/lang/String") (gs : n0 ≤ s) (Fv : Fld Z h0 s "java/lang/String" "value" "[B" .null) (Fc : Fld Z h0 s "java/lang/String" "coder" "B" (.int (0 : Int32))) (Ec : Exa Z h0 c "[C") (Ac : Arv Z h0 c kc .char (2 : Int32) [(.int x0), (.int x1)] oZ) (SA : oS0 Z) (SH : oS1 Z) (SW : oS2 Z) (cx0 : Chr x0) (cx1 : Chr x1) (ha : ∀ c ∈ [x0, x1], ¬ (255 : Int32) < c) :
    Met l Z oM8 oC8 6 none (oR 4 2 6 57) n0 [] #[(.ref s), (.ref c), oZ, (.int (2 : Int32)), .null] h0 (fun r h => r = none ∧ Keep h0 h [s] ∧ ∃ v k, Fld Z h s "java/lang/String" "value" "[B" (.ref v) ∧ Fld Z h s "java/lang/String" "coder" "B" (.int (0 : Int32)) ∧ Arv Z h v k .byte (2 : Int32) [(.int (oB x0)), (.int (oB x1))] oZ) := by
  refine Met.intro (Ls := #[.val (.ref s), .val (.ref c), .val oZ, .val (.int (2 : Int32)), .val .null, .unset]) (plainFor_of_name pn_m_iv1_1) hw (fun m => by first | (simp [entryFrame, mkF, argsToLocals, Value.category]; done) | rfl) ?_
  intro w K0
  have K : oK8 w Z a0 := K0
  have K1 := Keep.refl h0 [s]
  refine Rn.aloadN K (q := 1) d3_0 rfl rfl rfl ?_
  refine Rn.initO K (q := 4) (W := 0) (oT 17 rfl) (oT 18 rfl) (oT 19 rfl) (by decide) (by decide) rfl (oL rfl) d3_1 rfl ?_
  refine Rn.iloadN K (q := 5) d3_4 rfl rfl ?_
  refine Rn.ifY K (q := 27) d3_5 (XT.i0_ne_t (by decide)) (by decide) (by decide) ?_
  refine Rn.getS K (q := 30) (oT 61 rfl) (SC.ext X0.2) d3_27 rfl ?_
  refine Rn.ifN K (q := 33) d3_30 (XT.i0_eq_f hcs) rfl ?_
  refine Rn.aloadN K (q := 34) d3_33 rfl rfl rfl ?_
  refine Rn.iloadN K (q := 35) d3_34 rfl rfl ?_
  refine Rn.iloadN K (q := 36) d3_35 rfl rfl ?_
  refine Rn.stat K (q := 39) (W := 0) (y := oM6) (argsL := [(.ref c), oZ, (.int (2 : Int32))]) (rest := []) (oT 100 rfl) (oT 101 rfl) (oT 103 rfl) (oT 102 rfl) (by decide) (m_cp2_2 l Z a0 hw n0 h0 c kc x0 x1 X0 SA SH SW Ec Ac cx0 cx1 (ha x0 (by simp)) (ha x1 (by simp))) (by decide) (by decide) rfl (lenOf pd_4 rfl) rfl (oL rfl) d3_36 rfl (by decide) (by decide) ?_
  rintro _ h1 ⟨v, k, rfl, K2, E3, A4⟩
  have f5 := X0.keep K2 all0
  have f6 := K1.trans K2 all0
  have f7 := Es.keep K2
  have f8 := Fv.keep K2 nin0
  have f9 := Fc.keep K2 nin0
  show Rn w l _ n0 _ 39 _ [(.ref v)] h1 1 2
  refine Rn.astore K (q := 41) (Ls' := #[.val (.ref s), .val (.ref c), .val oZ, .val (.int (2 : Int32)), .val .null, .val (.ref v)]) d3_39 rfl rfl rfl ?_
  refine Rn.aloadN K (q := 42) d3_41 rfl rfl rfl ?_
  refine Rn.aload K (q := 44) d3_42 rfl rfl rfl ?_
  refine Rn.iloadN K (q := 45) d3_44 rfl rfl ?_
  refine Rn.stat K (q := 48) (W := 1) (y := oM7) (argsL := [(.ref v), (.int (2 : Int32))]) (rest := [(.ref s)]) (oT 107 rfl) (oT 108 rfl) (oT 109 rfl) (oT 102 rfl) (by decide) (m_cfl2_0 l Z a0 hw n0 h1 v k x0 x1 f5 A4) (by decide) (by decide) rfl (lenOf pd_6 rfl) rfl (oL rfl) d3_45 rfl (by decide) (by decide) ?_
  rintro _ _ ⟨rfl, rfl⟩
  show Rn w l _ n0 _ 48 _ [oZ, (.ref s)] h1 1 2
  refine Rn.putF K (q := 51) (ty := .byte) (v' := .int (nar .byte (0 : Int32))) (oT 27 rfl) Via.refl f9 f7 (Or.inr ⟨(oT 23 rfl), rfl, rfl⟩) (oT 7 rfl) (by decide) rfl (fits_nar_byte _) gs d3_48 rfl ?_
  intro h12 W13
  have f15 := f6.wr W13 (Or.inl (oT 0 rfl))
  have f16 := f7.wr W13
  have f17 := Fld.other W13 f8 (Or.inr (slot_ne (Or.inr (K.hw _ (oT 22 rfl))) (Or.inr (K.hw _ (oT 23 rfl))) (by decide) (t := (.array .byte)) (t' := .byte) (by decide) (by decide)))
  have f18 := Fld.same W13 f9
  have f21 := E3.wr W13
  have f22 := A4.other W13 (ne_exa E3 f7 (by decide))
  refine Rn.aloadN K (q := 52) d3_51 rfl rfl rfl ?_
  refine Rn.aload K (q := 54) d3_52 rfl rfl rfl ?_
  refine Rn.putF K (q := 57) (ty := (.array .byte)) (oT 26 rfl) Via.refl f17 f16 (Or.inr ⟨(oT 22 rfl), rfl, rfl⟩) (oT 7 rfl) (by decide) rfl rfl gs d3_54 rfl ?_
  intro h23 W24
  have f26 := f15.wr W24 (Or.inl (oT 0 rfl))
  have f28 := Fld.same W24 f17
  have f29 := Fld.other W24 f18 (Or.inr (slot_ne (Or.inr (K.hw _ (oT 23 rfl))) (Or.inr (K.hw _ (oT 22 rfl))) (by decide) (t := .byte) (t' := (.array .byte)) (by decide) (by decide)))
  have f33 := f22.other W24 (ne_exa f21 f16 (by decide))
  exact Rn.retV K rfl d3_57 (by decide) (by decide) ⟨rfl, f26, _, _, f28, f29, f33⟩
theorem m_ic2_0 (l : Launch) (Z : State) (a0 : Array Value) (hw : oH Z a0) (n0 : Nat) (h0 : Heap) (s c : Addr) (kc : ClassId) (x0 x1 : Int32) (cst : Int32) (X0 : Old Z n0 h0) (SC : oSC Z cst) (hcs : ¬ cst = 0) (Es : Exa Z h0 s "java/lang/String") (gs : n0 ≤ s) (Fv : Fld Z h0 s "java/lang/String" "value" "[B" .null) (Fc : Fld Z h0 s "java/lang/String" "coder" "B" (.int (0 : Int32))) (Ec : Exa Z h0 c "[C") (Ac : Arv Z h0 c kc .char (2 : Int32) [(.int x0), (.int x1)] oZ) (SA : oS0 Z) (SH : oS1 Z) (SW : oS2 Z) (cx0 : Chr x0) (cx1 : Chr x1) (ha : ∀ c ∈ [x0, x1], ¬ (255 : Int32) < c) :
    Met l Z oM9 oC9 2 none (oR 5 2 6 74) n0 [] #[(.ref s), (.ref c)] h0 (fun r h => r = none ∧ Keep h0 h [s] ∧ ∃ v, STR Z h s v [x0, x1]) := by
  refine Met.intro (Ls := #[.val (.ref s), .val (.ref c)]) (plainFor_of_name pn_m_iv1_1) hw (fun _ => rfl) ?_
  intro w K0
  have K : oK9 w Z a0 := K0
  have K1 := Keep.refl h0 [s]
  refine Rn.aloadN K (q := 1) d2_0 rfl rfl rfl ?_
  refine Rn.aloadN K (q := 2) d2_1 rfl rfl rfl ?_
  refine Rn.iconst K (q := 3) (0 : Int32) d2_2 rfl rfl ?_
  refine Rn.aloadN K (q := 4) d2_3 rfl rfl rfl ?_
  refine Rn.arraylength K (q := 5) Ac d2_4 rfl ?_
  refine Rn.aconst_null K (q := 6) d2_5 rfl ?_
  refine Rn.spec K (q := 9) (W := 0) (y := oM8) (b := s) (argsL := [(.ref c), oZ, (.int (2 : Int32)), .null]) (rest := []) rfl (oT 13 rfl) (oT 14 rfl) (oT 16 rfl) (oT 8 rfl) (by decide) (m_iv2_0 l Z a0 hw n0 h0 s c kc x0 x1 cst X0 SC hcs Es gs Fv Fc Ec Ac SA SH SW cx0 cx1 ha) (by decide) (by decide) rfl (lenOf pd_7 rfl) rfl (oL rfl) d2_6 rfl (by decide) (by decide) ?_
  rintro _ h1 ⟨rfl, K2, v, k, F1, F2, A2⟩
  have f3 := Es.keep K2
  show Rn w l _ n0 _ 9 _ [] h1 2 6
  exact Rn.retV K rfl d2_9 (by decide) (by decide) ⟨rfl, K2, v, f3, F1, k, Or.inl ⟨F2, A2, ha⟩⟩
theorem m_icc2 (l : Launch) (Z : State) (a0 : Array Value) (hw : oH Z a0) (n0 : Nat) (h0 : Heap) (s c : Addr) (kc : ClassId) (x0 x1 : Int32) (cst : Int32) (X0 : Old Z n0 h0) (SC : oSC Z cst) (hcs : ¬ cst = 0) (Es : Exa Z h0 s "java/lang/String") (gs : n0 ≤ s) (Fv : Fld Z h0 s "java/lang/String" "value" "[B" .null) (Fc : Fld Z h0 s "java/lang/String" "coder" "B" (.int (0 : Int32))) (Ec : Exa Z h0 c "[C") (Ac : Arv Z h0 c kc .char (2 : Int32) [(.int x0), (.int x1)] oZ) (SA : oS0 Z) (SH : oS1 Z) (SW : oS2 Z) (cx0 : Chr x0) (cx1 : Chr x1) :
    Met l Z oM9 oC9 2 none (oR 5 2 6 74) n0 [] #[(.ref s), (.ref c)] h0 (fun r h => r = none ∧ Keep h0 h [s] ∧ ∃ v, STR Z h s v [x0, x1]) := by
  by_cases ha : ∀ c ∈ [x0, x1], ¬ (255 : Int32) < c
  · exact m_ic2_0 l Z a0 hw n0 h0 s c kc x0 x1 cst X0 SC hcs Es gs Fv Fc Ec Ac SA SH SW cx0 cx1 ha
  · exact m_ic2_1 l Z a0 hw n0 h0 s c kc x0 x1 cst X0 SC hcs Es gs Fv Fc Ec Ac SA SH SW cx0 cx1 ha
theorem m_cpr3_0 (l : Launch) (Z : State) (a0 : Array Value) (hw : oH Z a0) (n0 : Nat) (h0 : Heap) (c b : Addr) (kc k : ClassId) (x0 x1 x2 : Int32) (X0 : Old Z n0 h0) (Ec : Exa Z h0 c "[C") (Ac : Arv Z h0 c kc .char (3 : Int32) [(.int x0), (.int x1), (.int x2)] oZ) (Eb : Exa Z h0 b "[B") (Ab : Arv Z h0 b k .byte (3 : Int32) [oZ, oZ, oZ] oZ) (gb : n0 ≤ b) (bx : (255 : Int32) < x0) :
    Met l Z oM0 oC0 7 (some .int) (oR 0 0 0 0) n0 [] #[(.ref c), oZ, (.ref b), oZ, (.int (3 : Int32))] h0 (fun v h => v = some (.int (0 : Int32)) ∧ Keep h0 h [b]) := by
  refine Met.intro (Ls := #[.val (.ref c), .val oZ, .val (.ref b), .val oZ, .val (.int (3 : Int32)), .unset, .unset]) (plainFor_of_name pn_m_cpr1_0) hw (fun m => by first | (simp [entryFrame, mkF, argsToLocals, Value.category]; done) | rfl) ?_
  intro w K0
  have K : oK0 w Z a0 := K0
  have K1 := Keep.refl h0 [b]
  refine Rn.iconst K (q := 1) (0 : Int32) d19_0 rfl rfl ?_
  refine Rn.istore K (q := 3) (Ls' := #[.val (.ref c), .val oZ, .val (.ref b), .val oZ, .val (.int (3 : Int32)), .val oZ, .unset]) d19_1 rfl rfl ?_
  refine Rn.iload K (q := 5) d19_3 rfl rfl ?_
  refine Rn.iload K (q := 7) d19_5 rfl rfl ?_
  refine Rn.icN K (q := 10) d19_7 (XT.ii_ge_f (by decide)) rfl ?_
  refine Rn.aloadN K (q := 11) d19_10 rfl rfl rfl ?_
  refine Rn.iloadN K (q := 12) d19_11 rfl rfl ?_
  refine Rn.caload K (q := 13) (v := (.int x0)) Ac (by decide) rfl d19_12 rfl ?_
  refine Rn.istore K (q := 15) (Ls' := #[.val (.ref c), .val oZ, .val (.ref b), .val oZ, .val (.int (3 : Int32)), .val oZ, .val (.int x0)]) d19_13 rfl rfl ?_
  refine Rn.iload K (q := 17) d19_15 rfl rfl ?_
  refine Rn.sipush K (q := 20) (255 : Int32) d19_17 rfl rfl ?_
  refine Rn.icN K (q := 23) d19_20 (XT.ii_le_f bx) rfl ?_
  refine Rn.iload K (q := 25) d19_23 rfl rfl ?_
  exact Rn.retI K rfl d19_25 (by decide) (by decide) ⟨rfl, K1⟩
theorem m_cpr3_1 (l : Launch) (Z : State) (a0 : Array Value) (hw : oH Z a0) (n0 : Nat) (h0 : Heap) (c b : Addr) (kc k : ClassId) (x0 x1 x2 : Int32) (X0 : Old Z n0 h0) (Ec : Exa Z h0 c "[C") (Ac : Arv Z h0 c kc .char (3 : Int32) [(.int x0), (.int x1), (.int x2)] oZ) (Eb : Exa Z h0 b "[B") (Ab : Arv Z h0 b k .byte (3 : Int32) [oZ, oZ, oZ] oZ) (gb : n0 ≤ b) (hx0 : ¬ (255 : Int32) < x0) (bx : (255 : Int32) < x1) :
    Met l Z oM0 oC0 7 (some .int) (oR 0 0 0 0) n0 [] #[(.ref c), oZ, (.ref b), oZ, (.int (3 : Int32))] h0 (fun v h => v = some (.int (1 : Int32)) ∧ Keep h0 h [b]) := by
  refine Met.intro (Ls := #[.val (.ref c), .val oZ, .val (.ref b), .val oZ, .val (.int (3 : Int32)), .unset, .unset]) (plainFor_of_name pn_m_cpr1_0) hw (fun m => by first | (simp [entryFrame, mkF, argsToLocals, Value.category]; done) | rfl) ?_
  intro w K0
  have K : oK0 w Z a0 := K0
  have K1 := Keep.refl h0 [b]
  refine Rn.iconst K (q := 1) (0 : Int32) d19_0 rfl rfl ?_
  refine Rn.istore K (q := 3) (Ls' := #[.val (.ref c), .val oZ, .val (.ref b), .val oZ, .val (.int (3 : Int32)), .val oZ, .unset]) d19_1 rfl rfl ?_
  refine Rn.iload K (q := 5) d19_3 rfl rfl ?_
  refine Rn.iload K (q := 7) d19_5 rfl rfl ?_
  refine Rn.icN K (q := 10) d19_7 (XT.ii_ge_f (by decide)) rfl ?_
  refine Rn.aloadN K (q := 11) d19_10 rfl rfl rfl ?_
  refine Rn.iloadN K (q := 12) d19_11 rfl rfl ?_
  refine Rn.caload K (q := 13) (v := (.int x0)) Ac (by decide) rfl d19_12 rfl ?_
  refine Rn.istore K (q := 15) (Ls' := #[.val (.ref c), .val oZ, .val (.ref b), .val oZ, .val (.int (3 : Int32)), .val oZ, .val (.int x0)]) d19_13 rfl rfl ?_
  refine Rn.iload K (q := 17) d19_15 rfl rfl ?_
  refine Rn.sipush K (q := 20) (255 : Int32) d19_17 rfl rfl ?_
  refine Rn.icY K (q := 26) d19_20 (XT.ii_le_t hx0) (by decide) (by decide) ?_
  refine Rn.aloadN K (q := 27) d19_26 rfl rfl rfl ?_
  refine Rn.iloadN K (q := 28) d19_27 rfl rfl ?_
  refine Rn.iload K (q := 30) d19_28 rfl rfl ?_
  refine Rn.i2b K (q := 31) d19_30 rfl ?_
  refine Rn.bastoreB K (q := 32) (i := 0) Ab (by decide) rfl (oL rfl) gb d19_31 rfl ?_
  intro h1 W2 A3
  have f5 := K1.wr W2 (Or.inl (oT 0 rfl))
  have f7 := Ac.other W2 (ne_exa Ec Eb (by decide))
  replace A3 : Arv Z h1 b k .byte (3 : Int32) [(.int (oB x0)), oZ, oZ] oZ := A3
  refine Rn.iinc K (q := 35) (Ls' := #[.val (.ref c), .val (.int (1 : Int32)), .val (.ref b), .val oZ, .val (.int (3 : Int32)), .val oZ, .val (.int x0)]) (1 : Int32) d19_32 rfl rfl rfl rfl ?_
  refine Rn.iinc K (q := 38) (Ls' := #[.val (.ref c), .val (.int (1 : Int32)), .val (.ref b), .val (.int (1 : Int32)), .val (.int (3 : Int32)), .val oZ, .val (.int x0)]) (1 : Int32) d19_35 rfl rfl rfl rfl ?_
  refine Rn.iinc K (q := 41) (Ls' := #[.val (.ref c), .val (.int (1 : Int32)), .val (.ref b), .val (.int (1 : Int32)), .val (.int (3 : Int32)), .val (.int (1 : Int32)), .val (.int x0)]) (1 : Int32) d19_38 rfl rfl rfl rfl ?_
  refine Rn.goto K (q := 3) d19_41 (by decide) (by decide) ?_
  refine Rn.iload K (q := 5) d19_3 rfl rfl ?_
  refine Rn.iload K (q := 7) d19_5 rfl rfl ?_
  refine Rn.icN K (q := 10) d19_7 (XT.ii_ge_f (by decide)) rfl ?_
  refine Rn.aloadN K (q := 11) d19_10 rfl rfl rfl ?_
  refine Rn.iloadN K (q := 12) d19_11 rfl rfl ?_
  refine Rn.caload K (q := 13) (v := (.int x1)) f7 (by decide) rfl d19_12 rfl ?_
  refine Rn.istore K (q := 15) (Ls' := #[.val (.ref c), .val (.int (1 : Int32)), .val (.ref b), .val (.int (1 : Int32)), .val (.int (3 : Int32)), .val (.int (1 : Int32)), .val (.int x1)]) d19_13 rfl rfl ?_
  refine Rn.iload K (q := 17) d19_15 rfl rfl ?_
  refine Rn.sipush K (q := 20) (255 : Int32) d19_17 rfl rfl ?_
  refine Rn.icN K (q := 23) d19_20 (XT.ii_le_f bx) rfl ?_
  refine Rn.iload K (q := 25) d19_23 rfl rfl ?_
  exact Rn.retI K rfl d19_25 (by decide) (by decide) ⟨rfl, f5⟩
theorem m_cpr3_2 (l : Launch) (Z : State) (a0 : Array Value) (hw : oH Z a0) (n0 : Nat) (h0 : Heap) (c b : Addr) (kc k : ClassId) (x0 x1 x2 : Int32) (X0 : Old Z n0 h0) (Ec : Exa Z h0 c "[C") (Ac : Arv Z h0 c kc .char (3 : Int32) [(.int x0), (.int x1), (.int x2)] oZ) (Eb : Exa Z h0 b "[B") (Ab : Arv Z h0 b k .byte (3 : Int32) [oZ, oZ, oZ] oZ) (gb : n0 ≤ b) (hx0 : ¬ (255 : Int32) < x0) (hx1 : ¬ (255 : Int32) < x1) (bx : (255 : Int32) < x2) :
    Met l Z oM0 oC0 7 (some .int) (oR 0 0 0 0) n0 [] #[(.ref c), oZ, (.ref b), oZ, (.int (3 : Int32))] h0 (fun v h => v = some (.int (2 : Int32)) ∧ Keep h0 h [b]) := by
  refine Met.intro (Ls := #[.val (.ref c), .val oZ, .val (.ref b), .val oZ, .val (.int (3 : Int32)), .unset, .unset]) (plainFor_of_name pn_m_cpr1_0) hw (fun m => by first | (simp [entryFrame, mkF, argsToLocals, Value.category]; done) | rfl) ?_
  intro w K0
  have K : oK0 w Z a0 := K0
  have K1 := Keep.refl h0 [b]
  refine Rn.iconst K (q := 1) (0 : Int32) d19_0 rfl rfl ?_
  refine Rn.istore K (q := 3) (Ls' := #[.val (.ref c), .val oZ, .val (.ref b), .val oZ, .val (.int (3 : Int32)), .val oZ, .unset]) d19_1 rfl rfl ?_
  refine Rn.iload K (q := 5) d19_3 rfl rfl ?_
  refine Rn.iload K (q := 7) d19_5 rfl rfl ?_
  refine Rn.icN K (q := 10) d19_7 (XT.ii_ge_f (by decide)) rfl ?_
  refine Rn.aloadN K (q := 11) d19_10 rfl rfl rfl ?_
  refine Rn.iloadN K (q := 12) d19_11 rfl rfl ?_
  refine Rn.caload K (q := 13) (v := (.int x0)) Ac (by decide) rfl d19_12 rfl ?_
  refine Rn.istore K (q := 15) (Ls' := #[.val (.ref c), .val oZ, .val (.ref b), .val oZ, .val (.int (3 : Int32)), .val oZ, .val (.int x0)]) d19_13 rfl rfl ?_
  refine Rn.iload K (q := 17) d19_15 rfl rfl ?_
  refine Rn.sipush K (q := 20) (255 : Int32) d19_17 rfl rfl ?_
  refine Rn.icY K (q := 26) d19_20 (XT.ii_le_t hx0) (by decide) (by decide) ?_
  refine Rn.aloadN K (q := 27) d19_26 rfl rfl rfl ?_
  refine Rn.iloadN K (q := 28) d19_27 rfl rfl ?_
  refine Rn.iload K (q := 30) d19_28 rfl rfl ?_
  refine Rn.i2b K (q := 31) d19_30 rfl ?_
  refine Rn.bastoreB K (q := 32) (i := 0) Ab (by decide) rfl (oL rfl) gb d19_31 rfl ?_
  intro h1 W2 A3
  have f5 := K1.wr W2 (Or.inl (oT 0 rfl))
  have f6 := Ec.wr W2
  have f7 := Ac.other W2 (ne_exa Ec Eb (by decide))
  have f8 := Eb.wr W2
  replace A3 : Arv Z h1 b k .byte (3 : Int32) [(.int (oB x0)), oZ, oZ] oZ := A3
  refine Rn.iinc K (q := 35) (Ls' := #[.val (.ref c), .val (.int (1 : Int32)), .val (.ref b), .val oZ, .val (.int (3 : Int32)), .val oZ, .val (.int x0)]) (1 : Int32) d19_32 rfl rfl rfl rfl ?_
  refine Rn.iinc K (q := 38) (Ls' := #[.val (.ref c), .val (.int (1 : Int32)), .val (.ref b), .val (.int (1 : Int32)), .val (.int (3 : Int32)), .val oZ, .val (.int x0)]) (1 : Int32) d19_35 rfl rfl rfl rfl ?_
  refine Rn.iinc K (q := 41) (Ls' := #[.val (.ref c), .val (.int (1 : Int32)), .val (.ref b), .val (.int (1 : Int32)), .val (.int (3 : Int32)), .val (.int (1 : Int32)), .val (.int x0)]) (1 : Int32) d19_38 rfl rfl rfl rfl ?_
  refine Rn.goto K (q := 3) d19_41 (by decide) (by decide) ?_
  refine Rn.iload K (q := 5) d19_3 rfl rfl ?_
  refine Rn.iload K (q := 7) d19_5 rfl rfl ?_
  refine Rn.icN K (q := 10) d19_7 (XT.ii_ge_f (by decide)) rfl ?_
  refine Rn.aloadN K (q := 11) d19_10 rfl rfl rfl ?_
  refine Rn.iloadN K (q := 12) d19_11 rfl rfl ?_
  refine Rn.caload K (q := 13) (v := (.int x1)) f7 (by decide) rfl d19_12 rfl ?_
  refine Rn.istore K (q := 15) (Ls' := #[.val (.ref c), .val (.int (1 : Int32)), .val (.ref b), .val (.int (1 : Int32)), .val (.int (3 : Int32)), .val (.int (1 : Int32)), .val (.int x1)]) d19_13 rfl rfl ?_
  refine Rn.iload K (q := 17) d19_15 rfl rfl ?_
  refine Rn.sipush K (q := 20) (255 : Int32) d19_17 rfl rfl ?_
  refine Rn.icY K (q := 26) d19_20 (XT.ii_le_t hx1) (by decide) (by decide) ?_
  refine Rn.aloadN K (q := 27) d19_26 rfl rfl rfl ?_
  refine Rn.iloadN K (q := 28) d19_27 rfl rfl ?_
  refine Rn.iload K (q := 30) d19_28 rfl rfl ?_
  refine Rn.i2b K (q := 31) d19_30 rfl ?_
  refine Rn.bastoreB K (q := 32) (i := 1) A3 (by decide) rfl (oL rfl) gb d19_31 rfl ?_
  intro h9 W10 A11
  have f13 := f5.wr W10 (Or.inl (oT 0 rfl))
  have f15 := f7.other W10 (ne_exa f6 f8 (by decide))
  replace A11 : Arv Z h9 b k .byte (3 : Int32) [(.int (oB x0)), (.int (oB x1)), oZ] oZ := A11
  refine Rn.iinc K (q := 35) (Ls' := #[.val (.ref c), .val (.int (2 : Int32)), .val (.ref b), .val (.int (1 : Int32)), .val (.int (3 : Int32)), .val (.int (1 : Int32)), .val (.int x1)]) (1 : Int32) d19_32 rfl rfl rfl rfl ?_
  refine Rn.iinc K (q := 38) (Ls' := #[.val (.ref c), .val (.int (2 : Int32)), .val (.ref b), .val (.int (2 : Int32)), .val (.int (3 : Int32)), .val (.int (1 : Int32)), .val (.int x1)]) (1 : Int32) d19_35 rfl rfl rfl rfl ?_
  refine Rn.iinc K (q := 41) (Ls' := #[.val (.ref c), .val (.int (2 : Int32)), .val (.ref b), .val (.int (2 : Int32)), .val (.int (3 : Int32)), .val (.int (2 : Int32)), .val (.int x1)]) (1 : Int32) d19_38 rfl rfl rfl rfl ?_
  refine Rn.goto K (q := 3) d19_41 (by decide) (by decide) ?_
  refine Rn.iload K (q := 5) d19_3 rfl rfl ?_
  refine Rn.iload K (q := 7) d19_5 rfl rfl ?_
  refine Rn.icN K (q := 10) d19_7 (XT.ii_ge_f (by decide)) rfl ?_
  refine Rn.aloadN K (q := 11) d19_10 rfl rfl rfl ?_
  refine Rn.iloadN K (q := 12) d19_11 rfl rfl ?_
  refine Rn.caload K (q := 13) (v := (.int x2)) f15 (by decide) rfl d19_12 rfl ?_
  refine Rn.istore K (q := 15) (Ls' := #[.val (.ref c), .val (.int (2 : Int32)), .val (.ref b), .val (.int (2 : Int32)), .val (.int (3 : Int32)), .val (.int (2 : Int32)), .val (.int x2)]) d19_13 rfl rfl ?_
  refine Rn.iload K (q := 17) d19_15 rfl rfl ?_
  refine Rn.sipush K (q := 20) (255 : Int32) d19_17 rfl rfl ?_
  refine Rn.icN K (q := 23) d19_20 (XT.ii_le_f bx) rfl ?_
  refine Rn.iload K (q := 25) d19_23 rfl rfl ?_
  exact Rn.retI K rfl d19_25 (by decide) (by decide) ⟨rfl, f13⟩
theorem m_cpr3_3 (l : Launch) (Z : State) (a0 : Array Value) (hw : oH Z a0) (n0 : Nat) (h0 : Heap) (c b : Addr) (kc k : ClassId) (x0 x1 x2 : Int32) (X0 : Old Z n0 h0) (Ec : Exa Z h0 c "[C") (Ac : Arv Z h0 c kc .char (3 : Int32) [(.int x0), (.int x1), (.int x2)] oZ) (Eb : Exa Z h0 b "[B") (Ab : Arv Z h0 b k .byte (3 : Int32) [oZ, oZ, oZ] oZ) (gb : n0 ≤ b) (hx0 : ¬ (255 : Int32) < x0) (hx1 : ¬ (255 : Int32) < x1) (hx2 : ¬ (255 : Int32) < x2) :
    Met l Z oM0 oC0 7 (some .int) (oR 0 0 0 0) n0 [] #[(.ref c), oZ, (.ref b), oZ, (.int (3 : Int32))] h0 (fun v h => v = some (.int (3 : Int32)) ∧ Keep h0 h [b] ∧ Arv Z h b k .byte (3 : Int32) [(.int (oB x0)), (.int (oB x1)), (.int (oB x2))] oZ) := by
  refine Met.intro (Ls := #[.val (.ref c), .val oZ, .val (.ref b), .val oZ, .val (.int (3 : Int32)), .unset, .unset]) (plainFor_of_name pn_m_cpr1_0) hw (fun m => by first | (simp [entryFrame, mkF, argsToLocals, Value.category]; done) | rfl) ?_
  intro w K0
  have K : oK0 w Z a0 := K0
  have K1 := Keep.refl h0 [b]
  refine Rn.iconst K (q := 1) (0 : Int32) d19_0 rfl rfl ?_
  refine Rn.istore K (q := 3) (Ls' := #[.val (.ref c), .val oZ, .val (.ref b), .val oZ, .val (.int (3 : Int32)), .val oZ, .unset]) d19_1 rfl rfl ?_
  refine Rn.iload K (q := 5) d19_3 rfl rfl ?_
  refine Rn.iload K (q := 7) d19_5 rfl rfl ?_
  refine Rn.icN K (q := 10) d19_7 (XT.ii_ge_f (by decide)) rfl ?_
  refine Rn.aloadN K (q := 11) d19_10 rfl rfl rfl ?_
  refine Rn.iloadN K (q := 12) d19_11 rfl rfl ?_
  refine Rn.caload K (q := 13) (v := (.int x0)) Ac (by decide) rfl d19_12 rfl ?_
  refine Rn.istore K (q := 15) (Ls' := #[.val (.ref c), .val oZ, .val (.ref b), .val oZ, .val (.int (3 : Int32)), .val oZ, .val (.int x0)]) d19_13 rfl rfl ?_
  refine Rn.iload K (q := 17) d19_15 rfl rfl ?_
  refine Rn.sipush K (q := 20) (255 : Int32) d19_17 rfl rfl ?_
  refine Rn.icY K (q := 26) d19_20 (XT.ii_le_t hx0) (by decide) (by decide) ?_
  refine Rn.aloadN K (q := 27) d19_26 rfl rfl rfl ?_
  refine Rn.iloadN K (q := 28) d19_27 rfl rfl ?_
  refine Rn.iload K (q := 30) d19_28 rfl rfl ?_
  refine Rn.i2b K (q := 31) d19_30 rfl ?_
  refine Rn.bastoreB K (q := 32) (i := 0) Ab (by decide) rfl (oL rfl) gb d19_31 rfl ?_
  intro h1 W2 A3
  have f5 := K1.wr W2 (Or.inl (oT 0 rfl))
  have f6 := Ec.wr W2
  have f7 := Ac.other W2 (ne_exa Ec Eb (by decide))
  have f8 := Eb.wr W2
  replace A3 : Arv Z h1 b k .byte (3 : Int32) [(.int (oB x0)), oZ, oZ] oZ := A3
  refine Rn.iinc K (q := 35) (Ls' := #[.val (.ref c), .val (.int (1 : Int32)), .val (.ref b), .val oZ, .val (.int (3 : Int32)), .val oZ, .val (.int x0)]) (1 : Int32) d19_32 rfl rfl rfl rfl ?_
  refine Rn.iinc K (q := 38) (Ls' := #[.val (.ref c), .val (.int (1 : Int32)), .val (.ref b), .val (.int (1 : Int32)), .val (.int (3 : Int32)), .val oZ, .val (.int x0)]) (1 : Int32) d19_35 rfl rfl rfl rfl ?_
  refine Rn.iinc K (q := 41) (Ls' := #[.val (.ref c), .val (.int (1 : Int32)), .val (.ref b), .val (.int (1 : Int32)), .val (.int (3 : Int32)), .val (.int (1 : Int32)), .val (.int x0)]) (1 : Int32) d19_38 rfl rfl rfl rfl ?_
  refine Rn.goto K (q := 3) d19_41 (by decide) (by decide) ?_
  refine Rn.iload K (q := 5) d19_3 rfl rfl ?_
  refine Rn.iload K (q := 7) d19_5 rfl rfl ?_
  refine Rn.icN K (q := 10) d19_7 (XT.ii_ge_f (by decide)) rfl ?_
  refine Rn.aloadN K (q := 11) d19_10 rfl rfl rfl ?_
  refine Rn.iloadN K (q := 12) d19_11 rfl rfl ?_
  refine Rn.caload K (q := 13) (v := (.int x1)) f7 (by decide) rfl d19_12 rfl ?_
  refine Rn.istore K (q := 15) (Ls' := #[.val (.ref c), .val (.int (1 : Int32)), .val (.ref b), .val (.int (1 : Int32)), .val (.int (3 : Int32)), .val (.int (1 : Int32)), .val (.int x1)]) d19_13 rfl rfl ?_
  refine Rn.iload K (q := 17) d19_15 rfl rfl ?_
  refine Rn.sipush K (q := 20) (255 : Int32) d19_17 rfl rfl ?_
  refine Rn.icY K (q := 26) d19_20 (XT.ii_le_t hx1) (by decide) (by decide) ?_
  refine Rn.aloadN K (q := 27) d19_26 rfl rfl rfl ?_
  refine Rn.iloadN K (q := 28) d19_27 rfl rfl ?_
  refine Rn.iload K (q := 30) d19_28 rfl rfl ?_
  refine Rn.i2b K (q := 31) d19_30 rfl ?_
  refine Rn.bastoreB K (q := 32) (i := 1) A3 (by decide) rfl (oL rfl) gb d19_31 rfl ?_
  intro h9 W10 A11
  have f13 := f5.wr W10 (Or.inl (oT 0 rfl))
  have f15 := f7.other W10 (ne_exa f6 f8 (by decide))
  replace A11 : Arv Z h9 b k .byte (3 : Int32) [(.int (oB x0)), (.int (oB x1)), oZ] oZ := A11
  refine Rn.iinc K (q := 35) (Ls' := #[.val (.ref c), .val (.int (2 : Int32)), .val (.ref b), .val (.int (1 : Int32)), .val (.int (3 : Int32)), .val (.int (1 : Int32)), .val (.int x1)]) (1 : Int32) d19_32 rfl rfl rfl rfl ?_
  refine Rn.iinc K (q := 38) (Ls' := #[.val (.ref c), .val (.int (2 : Int32)), .val (.ref b), .val (.int (2 : Int32)), .val (.int (3 : Int32)), .val (.int (1 : Int32)), .val (.int x1)]) (1 : Int32) d19_35 rfl rfl rfl rfl ?_
  refine Rn.iinc K (q := 41) (Ls' := #[.val (.ref c), .val (.int (2 : Int32)), .val (.ref b), .val (.int (2 : Int32)), .val (.int (3 : Int32)), .val (.int (2 : Int32)), .val (.int x1)]) (1 : Int32) d19_38 rfl rfl rfl rfl ?_
  refine Rn.goto K (q := 3) d19_41 (by decide) (by decide) ?_
  refine Rn.iload K (q := 5) d19_3 rfl rfl ?_
  refine Rn.iload K (q := 7) d19_5 rfl rfl ?_
  refine Rn.icN K (q := 10) d19_7 (XT.ii_ge_f (by decide)) rfl ?_
  refine Rn.aloadN K (q := 11) d19_10 rfl rfl rfl ?_
  refine Rn.iloadN K (q := 12) d19_11 rfl rfl ?_
  refine Rn.caload K (q := 13) (v := (.int x2)) f15 (by decide) rfl d19_12 rfl ?_
  refine Rn.istore K (q := 15) (Ls' := #[.val (.ref c), .val (.int (2 : Int32)), .val (.ref b), .val (.int (2 : Int32)), .val (.int (3 : Int32)), .val (.int (2 : Int32)), .val (.int x2)]) d19_13 rfl rfl ?_
  refine Rn.iload K (q := 17) d19_15 rfl rfl ?_
  refine Rn.sipush K (q := 20) (255 : Int32) d19_17 rfl rfl ?_
  refine Rn.icY K (q := 26) d19_20 (XT.ii_le_t hx2) (by decide) (by decide) ?_
  refine Rn.aloadN K (q := 27) d19_26 rfl rfl rfl ?_
  refine Rn.iloadN K (q := 28) d19_27 rfl rfl ?_
  refine Rn.iload K (q := 30) d19_28 rfl rfl ?_
  refine Rn.i2b K (q := 31) d19_30 rfl ?_
  refine Rn.bastoreB K (q := 32) (i := 2) A11 (by decide) rfl (oL rfl) gb d19_31 rfl ?_
  intro h17 W18 A19
  have f21 := f13.wr W18 (Or.inl (oT 0 rfl))
  replace A19 : Arv Z h17 b k .byte (3 : Int32) [(.int (oB x0)), (.int (oB x1)), (.int (oB x2))] oZ := A19
  refine Rn.iinc K (q := 35) (Ls' := #[.val (.ref c), .val (.int (3 : Int32)), .val (.ref b), .val (.int (2 : Int32)), .val (.int (3 : Int32)), .val (.int (2 : Int32)), .val (.int x2)]) (1 : Int32) d19_32 rfl rfl rfl rfl ?_
  refine Rn.iinc K (q := 38) (Ls' := #[.val (.ref c), .val (.int (3 : Int32)), .val (.ref b), .val (.int (3 : Int32)), .val (.int (3 : Int32)), .val (.int (2 : Int32)), .val (.int x2)]) (1 : Int32) d19_35 rfl rfl rfl rfl ?_
  refine Rn.iinc K (q := 41) (Ls' := #[.val (.ref c), .val (.int (3 : Int32)), .val (.ref b), .val (.int (3 : Int32)), .val (.int (3 : Int32)), .val (.int (3 : Int32)), .val (.int x2)]) (1 : Int32) d19_38 rfl rfl rfl rfl ?_
  refine Rn.goto K (q := 3) d19_41 (by decide) (by decide) ?_
  refine Rn.iload K (q := 5) d19_3 rfl rfl ?_
  refine Rn.iload K (q := 7) d19_5 rfl rfl ?_
  refine Rn.icY K (q := 44) d19_7 (XT.ii_ge_t (by decide)) (by decide) (by decide) ?_
  refine Rn.iload K (q := 46) d19_44 rfl rfl ?_
  exact Rn.retI K rfl d19_46 (by decide) (by decide) ⟨rfl, f21, A19⟩
theorem m_nbl3 (l : Launch) (Z : State) (a0 : Array Value) (hw : oH Z a0) (n0 : Nat) (h0 : Heap)  (X0 : Old Z n0 h0) :
    Met l Z oM1 oC1 1 (some .int) (oR 0 0 0 0) n0 [] #[(.int (3 : Int32))] h0 (fun v h => v = some (.int (6 : Int32)) ∧ h0 = h) := by
  refine Met.intro (Ls := #[.val (.int (3 : Int32))]) (plainFor_of_name pn_m_cpr1_0) hw (fun _ => rfl) ?_
  intro w K0
  have K : oK1 w Z a0 := K0
  refine Rn.iloadN K (q := 1) d26_0 rfl rfl ?_
  refine Rn.ifY K (q := 12) d26_1 (XT.i0_ge_t (by decide)) (by decide) (by decide) ?_
  refine Rn.iloadN K (q := 13) d26_12 rfl rfl ?_
  refine Rn.ldcI K (q := 15) (1073741823 : Int32) (oT 136 rfl) d26_13 rfl ?_
  refine Rn.icY K (q := 55) d26_15 (XT.ii_lt_t (by decide)) (by decide) (by decide) ?_
  refine Rn.iloadN K (q := 56) d26_55 rfl rfl ?_
  refine Rn.iconst K (q := 57) (1 : Int32) d26_56 rfl rfl ?_
  refine Rn.ishl K (q := 58) d26_57 rfl ?_
  rw [show ((3 : Int32) <<< ((1 : Int32) &&& 31)) = (6 : Int32) from by decide]
  show Rn w l _ n0 _ 58 _ [(.int (6 : Int32))] h0 0 0
  exact Rn.retI K rfl d26_58 (by decide) (by decide) ⟨rfl, rfl⟩
theorem m_nbf3 (l : Launch) (Z : State) (a0 : Array Value) (hw : oH Z a0) (n0 : Nat) (h0 : Heap)  (X0 : Old Z n0 h0) :
    Met l Z oM2 oC2 1 (some (.array .byte)) (oR 1 1 6 12) n0 [] #[(.int (3 : Int32))] h0 (fun v h => ∃ b k, v = some (.ref b) ∧ h0.size ≤ b ∧ Keep h0 h [] ∧ Exa Z h b "[B" ∧ Arv Z h b k .byte (6 : Int32) [oZ, oZ, oZ, oZ, oZ, oZ] oZ) := by
  refine Met.intro (Ls := #[.val (.int (3 : Int32))]) (plainFor_of_name pn_m_cpr1_0) hw (fun _ => rfl) ?_
  intro w K0
  have K : oK2 w Z a0 := K0
  have K1 := Keep.refl h0 []
  refine Rn.iloadN K (q := 1) d25_0 rfl rfl ?_
  refine Rn.stat K (q := 4) (W := 0) (y := oM1) (argsL := [(.int (3 : Int32))]) (rest := []) (oT 133 rfl) (oT 134 rfl) (oT 135 rfl) (oT 102 rfl) (by decide) (m_nbl3 l Z a0 hw n0 h0 X0) (by decide) (by decide) rfl (lenOf pd_0 rfl) rfl (oL rfl) d25_1 rfl (by decide) (by decide) ?_
  rintro _ _ ⟨rfl, rfl⟩
  show Rn w l _ n0 _ 4 _ [(.int (6 : Int32))] h0 0 0
  refine Rn.newP K (q := 6) (cap := 6) (oT 21 rfl) (by decide) (by decide) (by decide) (by decide) (by decide) (ad := "[B") (by decide) d25_4 rfl ?_
  intro b1 h2 k4 gb1_ X3 A_b1 EA_b1
  have sz_b1 : h0.size ≤ b1 := by rw [gb1_]; exact K1.1
  have f6 := K1.ext X3
  replace A_b1 : Arv Z h2 b1 k4 .byte (6 : Int32) [oZ, oZ, oZ, oZ, oZ, oZ] oZ := A_b1.pad (pad_rep [] oZ 6)
  show Rn w l _ n0 _ 6 _ [(.ref b1)] h2 1 6
  exact Rn.retA K (.array .byte) rfl rfl rfl d25_6 (by decide) (by decide) ⟨_, _, rfl, sz_b1, f6, EA_b1, A_b1⟩
theorem m_put3_0 (l : Launch) (Z : State) (a0 : Array Value) (hw : oH Z a0) (n0 : Nat) (h0 : Heap) (b : Addr) (k : ClassId) (x y0 y1 y2 y3 y4 y5 : Int32) (X0 : Old Z n0 h0) (SA : oS0 Z) (SH : oS1 Z) (SW : oS2 Z) (Ab : Arv Z h0 b k .byte (6 : Int32) [(.int y0), (.int y1), (.int y2), (.int y3), (.int y4), (.int y5)] oZ) (gb : n0 ≤ b) :
    Met l Z oM3 oC3 3 none (oR 0 0 0 0) n0 [] #[(.ref b), oZ, (.int x)] h0 (fun v h => v = none ∧ Keep h0 h [b] ∧ Arv Z h b k .byte (6 : Int32) [(.int (oB0 x)), (.int (oB8 x)), (.int y2), (.int y3), (.int y4), (.int y5)] oZ) := by
  refine Met.intro (Ls := #[.val (.ref b), .val oZ, .val (.int x)]) (plainFor_of_name pn_m_cpr1_0) hw (fun _ => rfl) ?_
  intro w K0
  have K : oK3 w Z a0 := K0
  have K1 := Keep.refl h0 [b]
  refine Rn.getS K (q := 3) (oT 140 rfl) (SA.ext X0.2) d27_0 rfl ?_
  refine Rn.ifY K (q := 28) d27_3 (XT.i0_ne_t (by decide)) (by decide) (by decide) ?_
  refine Rn.iloadN K (q := 29) d27_28 rfl rfl ?_
  refine Rn.iconst K (q := 30) (1 : Int32) d27_29 rfl rfl ?_
  refine Rn.ishl K (q := 31) d27_30 rfl ?_
  rw [show ((0 : Int32) <<< ((1 : Int32) &&& 31)) = (0 : Int32) from by decide]
  show Rn w l _ n0 _ 31 _ [oZ] h0 0 0
  refine Rn.istoreN K (q := 32) (Ls' := #[.val (.ref b), .val oZ, .val (.int x)]) d27_31 rfl rfl ?_
  refine Rn.aloadN K (q := 33) d27_32 rfl rfl rfl ?_
  refine Rn.iloadN K (q := 34) d27_33 rfl rfl ?_
  refine Rn.iinc K (q := 37) (Ls' := #[.val (.ref b), .val (.int (1 : Int32)), .val (.int x)]) (1 : Int32) d27_34 rfl rfl rfl rfl ?_
  refine Rn.iloadN K (q := 38) d27_37 rfl rfl ?_
  refine Rn.getS K (q := 41) (oT 141 rfl) (SH.ext X0.2) d27_38 rfl ?_
  refine Rn.ishr K (q := 42) d27_41 rfl ?_
  refine Rn.i2b K (q := 43) d27_42 rfl ?_
  refine Rn.bastoreB K (q := 44) (i := 0) Ab (by decide) rfl (oL rfl) gb d27_43 rfl ?_
  intro h1 W2 A3
  have f4 := X0.wr W2 gb
  have f5 := K1.wr W2 (Or.inl (oT 0 rfl))
  replace A3 : Arv Z h1 b k .byte (6 : Int32) [(.int (oB0 x)), (.int y1), (.int y2), (.int y3), (.int y4), (.int y5)] oZ := A3
  refine Rn.aloadN K (q := 45) d27_44 rfl rfl rfl ?_
  refine Rn.iloadN K (q := 46) d27_45 rfl rfl ?_
  refine Rn.iloadN K (q := 47) d27_46 rfl rfl ?_
  refine Rn.getS K (q := 50) (oT 142 rfl) (SW.ext f4.2) d27_47 rfl ?_
  refine Rn.ishr K (q := 51) d27_50 rfl ?_
  refine Rn.i2b K (q := 52) d27_51 rfl ?_
  refine Rn.bastoreB K (q := 53) (i := 1) A3 (by decide) rfl (oL rfl) gb d27_52 rfl ?_
  intro h6 W7 A8
  have f10 := f5.wr W7 (Or.inl (oT 0 rfl))
  replace A8 : Arv Z h6 b k .byte (6 : Int32) [(.int (oB0 x)), (.int (oB8 x)), (.int y2), (.int y3), (.int y4), (.int y5)] oZ := A8
  exact Rn.retV K rfl d27_53 (by decide) (by decide) ⟨rfl, f10, A8⟩
theorem m_gch3_0 (l : Launch) (Z : State) (a0 : Array Value) (hw : oH Z a0) (n0 : Nat) (h0 : Heap) (b : Addr) (k : ClassId) (x0 x1 x2 : Int32) (X0 : Old Z n0 h0) (SA : oS0 Z) (SH : oS1 Z) (SW : oS2 Z) (Ab : Arv Z h0 b k .byte (6 : Int32) [(.int (oB0 x0)), (.int (oB8 x0)), (.int (oB0 x1)), (.int (oB8 x1)), (.int (oB0 x2)), (.int (oB8 x2))] oZ) (cx : Chr x0) :
    Met l Z oM4 oC4 2 (some .char) (oR 0 0 0 0) n0 [] #[(.ref b), oZ] h0 (fun v h => v = some (.int x0) ∧ h0 = h) := by
  refine Met.intro (Ls := #[.val (.ref b), .val oZ]) (plainFor_of_name pn_m_cpr1_0) hw (fun _ => rfl) ?_
  intro w K0
  have K : oK4 w Z a0 := K0
  refine Rn.getS K (q := 3) (oT 140 rfl) (SA.ext X0.2) d28_0 rfl ?_
  refine Rn.ifY K (q := 28) d28_3 (XT.i0_ne_t (by decide)) (by decide) (by decide) ?_
  refine Rn.iloadN K (q := 29) d28_28 rfl rfl ?_
  refine Rn.iconst K (q := 30) (1 : Int32) d28_29 rfl rfl ?_
  refine Rn.ishl K (q := 31) d28_30 rfl ?_
  rw [show ((0 : Int32) <<< ((1 : Int32) &&& 31)) = (0 : Int32) from by decide]
  show Rn w l _ n0 _ 31 _ [oZ] h0 0 0
  refine Rn.istoreN K (q := 32) (Ls' := #[.val (.ref b), .val oZ]) d28_31 rfl rfl ?_
  refine Rn.aloadN K (q := 33) d28_32 rfl rfl rfl ?_
  refine Rn.iloadN K (q := 34) d28_33 rfl rfl ?_
  refine Rn.iinc K (q := 37) (Ls' := #[.val (.ref b), .val (.int (1 : Int32))]) (1 : Int32) d28_34 rfl rfl rfl rfl ?_
  refine Rn.baloadB K (q := 38) (v := (.int (oB0 x0))) Ab (by decide) rfl d28_37 rfl ?_
  refine Rn.sipush K (q := 41) (255 : Int32) d28_38 rfl rfl ?_
  refine Rn.iand K (q := 42) d28_41 rfl ?_
  refine Rn.getS K (q := 45) (oT 141 rfl) (SH.ext X0.2) d28_42 rfl ?_
  refine Rn.ishl K (q := 46) d28_45 rfl ?_
  refine Rn.aloadN K (q := 47) d28_46 rfl rfl rfl ?_
  refine Rn.iloadN K (q := 48) d28_47 rfl rfl ?_
  refine Rn.baloadB K (q := 49) (v := (.int (oB8 x0))) Ab (by decide) rfl d28_48 rfl ?_
  refine Rn.sipush K (q := 52) (255 : Int32) d28_49 rfl rfl ?_
  refine Rn.iand K (q := 53) d28_52 rfl ?_
  refine Rn.getS K (q := 56) (oT 142 rfl) (SW.ext X0.2) d28_53 rfl ?_
  refine Rn.ishl K (q := 57) d28_56 rfl ?_
  refine Rn.ior K (q := 58) d28_57 rfl ?_
  refine Rn.i2c K (q := 59) d28_58 rfl ?_
  exact Rn.retN K .char rfl (by simp) d28_59 (by decide) (by decide) ⟨by rw [own_gc cx], rfl⟩
theorem m_put3_1 (l : Launch) (Z : State) (a0 : Array Value) (hw : oH Z a0) (n0 : Nat) (h0 : Heap) (b : Addr) (k : ClassId) (x y0 y1 y2 y3 y4 y5 : Int32) (X0 : Old Z n0 h0) (SA : oS0 Z) (SH : oS1 Z) (SW : oS2 Z) (Ab : Arv Z h0 b k .byte (6 : Int32) [(.int y0), (.int y1), (.int y2), (.int y3), (.int y4), (.int y5)] oZ) (gb : n0 ≤ b) :
    Met l Z oM3 oC3 3 none (oR 0 0 0 0) n0 [] #[(.ref b), (.int (1 : Int32)), (.int x)] h0 (fun v h => v = none ∧ Keep h0 h [b] ∧ Arv Z h b k .byte (6 : Int32) [(.int y0), (.int y1), (.int (oB0 x)), (.int (oB8 x)), (.int y4), (.int y5)] oZ) := by
  refine Met.intro (Ls := #[.val (.ref b), .val (.int (1 : Int32)), .val (.int x)]) (plainFor_of_name pn_m_cpr1_0) hw (fun _ => rfl) ?_
  intro w K0
  have K : oK3 w Z a0 := K0
  have K1 := Keep.refl h0 [b]
  refine Rn.getS K (q := 3) (oT 140 rfl) (SA.ext X0.2) d27_0 rfl ?_
  refine Rn.ifY K (q := 28) d27_3 (XT.i0_ne_t (by decide)) (by decide) (by decide) ?_
  refine Rn.iloadN K (q := 29) d27_28 rfl rfl ?_
  refine Rn.iconst K (q := 30) (1 : Int32) d27_29 rfl rfl ?_
  refine Rn.ishl K (q := 31) d27_30 rfl ?_
  rw [show ((1 : Int32) <<< ((1 : Int32) &&& 31)) = (2 : Int32) from by decide]
  show Rn w l _ n0 _ 31 _ [(.int (2 : Int32))] h0 0 0
  refine Rn.istoreN K (q := 32) (Ls' := #[.val (.ref b), .val (.int (2 : Int32)), .val (.int x)]) d27_31 rfl rfl ?_
  refine Rn.aloadN K (q := 33) d27_32 rfl rfl rfl ?_
  refine Rn.iloadN K (q := 34) d27_33 rfl rfl ?_
  refine Rn.iinc K (q := 37) (Ls' := #[.val (.ref b), .val (.int (3 : Int32)), .val (.int x)]) (1 : Int32) d27_34 rfl rfl rfl rfl ?_
  refine Rn.iloadN K (q := 38) d27_37 rfl rfl ?_
  refine Rn.getS K (q := 41) (oT 141 rfl) (SH.ext X0.2) d27_38 rfl ?_
  refine Rn.ishr K (q := 42) d27_41 rfl ?_
  refine Rn.i2b K (q := 43) d27_42 rfl ?_
  refine Rn.bastoreB K (q := 44) (i := 2) Ab (by decide) rfl (oL rfl) gb d27_43 rfl ?_
  intro h1 W2 A3
  have f4 := X0.wr W2 gb
  have f5 := K1.wr W2 (Or.inl (oT 0 rfl))
  replace A3 : Arv Z h1 b k .byte (6 : Int32) [(.int y0), (.int y1), (.int (oB0 x)), (.int y3), (.int y4), (.int y5)] oZ := A3
  refine Rn.aloadN K (q := 45) d27_44 rfl rfl rfl ?_
  refine Rn.iloadN K (q := 46) d27_45 rfl rfl ?_
  refine Rn.iloadN K (q := 47) d27_46 rfl rfl ?_
  refine Rn.getS K (q := 50) (oT 142 rfl) (SW.ext f4.2) d27_47 rfl ?_
  refine Rn.ishr K (q := 51) d27_50 rfl ?_
  refine Rn.i2b K (q := 52) d27_51 rfl ?_
  refine Rn.bastoreB K (q := 53) (i := 3) A3 (by decide) rfl (oL rfl) gb d27_52 rfl ?_
  intro h6 W7 A8
  have f10 := f5.wr W7 (Or.inl (oT 0 rfl))
  replace A8 : Arv Z h6 b k .byte (6 : Int32) [(.int y0), (.int y1), (.int (oB0 x)), (.int (oB8 x)), (.int y4), (.int y5)] oZ := A8
  exact Rn.retV K rfl d27_53 (by decide) (by decide) ⟨rfl, f10, A8⟩
theorem m_gch3_1 (l : Launch) (Z : State) (a0 : Array Value) (hw : oH Z a0) (n0 : Nat) (h0 : Heap) (b : Addr) (k : ClassId) (x0 x1 x2 : Int32) (X0 : Old Z n0 h0) (SA : oS0 Z) (SH : oS1 Z) (SW : oS2 Z) (Ab : Arv Z h0 b k .byte (6 : Int32) [(.int (oB0 x0)), (.int (oB8 x0)), (.int (oB0 x1)), (.int (oB8 x1)), (.int (oB0 x2)), (.int (oB8 x2))] oZ) (cx : Chr x1) :
    Met l Z oM4 oC4 2 (some .char) (oR 0 0 0 0) n0 [] #[(.ref b), (.int (1 : Int32))] h0 (fun v h => v = some (.int x1) ∧ h0 = h) := by
  refine Met.intro (Ls := #[.val (.ref b), .val (.int (1 : Int32))]) (plainFor_of_name pn_m_cpr1_0) hw (fun _ => rfl) ?_
  intro w K0
  have K : oK4 w Z a0 := K0
  refine Rn.getS K (q := 3) (oT 140 rfl) (SA.ext X0.2) d28_0 rfl ?_
  refine Rn.ifY K (q := 28) d28_3 (XT.i0_ne_t (by decide)) (by decide) (by decide) ?_
  refine Rn.iloadN K (q := 29) d28_28 rfl rfl ?_
  refine Rn.iconst K (q := 30) (1 : Int32) d28_29 rfl rfl ?_
  refine Rn.ishl K (q := 31) d28_30 rfl ?_
  rw [show ((1 : Int32) <<< ((1 : Int32) &&& 31)) = (2 : Int32) from by decide]
  show Rn w l _ n0 _ 31 _ [(.int (2 : Int32))] h0 0 0
  refine Rn.istoreN K (q := 32) (Ls' := #[.val (.ref b), .val (.int (2 : Int32))]) d28_31 rfl rfl ?_
  refine Rn.aloadN K (q := 33) d28_32 rfl rfl rfl ?_
  refine Rn.iloadN K (q := 34) d28_33 rfl rfl ?_
  refine Rn.iinc K (q := 37) (Ls' := #[.val (.ref b), .val (.int (3 : Int32))]) (1 : Int32) d28_34 rfl rfl rfl rfl ?_
  refine Rn.baloadB K (q := 38) (v := (.int (oB0 x1))) Ab (by decide) rfl d28_37 rfl ?_
  refine Rn.sipush K (q := 41) (255 : Int32) d28_38 rfl rfl ?_
  refine Rn.iand K (q := 42) d28_41 rfl ?_
  refine Rn.getS K (q := 45) (oT 141 rfl) (SH.ext X0.2) d28_42 rfl ?_
  refine Rn.ishl K (q := 46) d28_45 rfl ?_
  refine Rn.aloadN K (q := 47) d28_46 rfl rfl rfl ?_
  refine Rn.iloadN K (q := 48) d28_47 rfl rfl ?_
  refine Rn.baloadB K (q := 49) (v := (.int (oB8 x1))) Ab (by decide) rfl d28_48 rfl ?_
  refine Rn.sipush K (q := 52) (255 : Int32) d28_49 rfl rfl ?_
  refine Rn.iand K (q := 53) d28_52 rfl ?_
  refine Rn.getS K (q := 56) (oT 142 rfl) (SW.ext X0.2) d28_53 rfl ?_
  refine Rn.ishl K (q := 57) d28_56 rfl ?_
  refine Rn.ior K (q := 58) d28_57 rfl ?_
  refine Rn.i2c K (q := 59) d28_58 rfl ?_
  exact Rn.retN K .char rfl (by simp) d28_59 (by decide) (by decide) ⟨by rw [own_gc cx], rfl⟩
theorem m_put3_2 (l : Launch) (Z : State) (a0 : Array Value) (hw : oH Z a0) (n0 : Nat) (h0 : Heap) (b : Addr) (k : ClassId) (x y0 y1 y2 y3 y4 y5 : Int32) (X0 : Old Z n0 h0) (SA : oS0 Z) (SH : oS1 Z) (SW : oS2 Z) (Ab : Arv Z h0 b k .byte (6 : Int32) [(.int y0), (.int y1), (.int y2), (.int y3), (.int y4), (.int y5)] oZ) (gb : n0 ≤ b) :
    Met l Z oM3 oC3 3 none (oR 0 0 0 0) n0 [] #[(.ref b), (.int (2 : Int32)), (.int x)] h0 (fun v h => v = none ∧ Keep h0 h [b] ∧ Arv Z h b k .byte (6 : Int32) [(.int y0), (.int y1), (.int y2), (.int y3), (.int (oB0 x)), (.int (oB8 x))] oZ) := by
  refine Met.intro (Ls := #[.val (.ref b), .val (.int (2 : Int32)), .val (.int x)]) (plainFor_of_name pn_m_cpr1_0) hw (fun _ => rfl) ?_
  intro w K0
  have K : oK3 w Z a0 := K0
  have K1 := Keep.refl h0 [b]
  refine Rn.getS K (q := 3) (oT 140 rfl) (SA.ext X0.2) d27_0 rfl ?_
  refine Rn.ifY K (q := 28) d27_3 (XT.i0_ne_t (by decide)) (by decide) (by decide) ?_
  refine Rn.iloadN K (q := 29) d27_28 rfl rfl ?_
  refine Rn.iconst K (q := 30) (1 : Int32) d27_29 rfl rfl ?_
  refine Rn.ishl K (q := 31) d27_30 rfl ?_
  rw [show ((2 : Int32) <<< ((1 : Int32) &&& 31)) = (4 : Int32) from by decide]
  show Rn w l _ n0 _ 31 _ [(.int (4 : Int32))] h0 0 0
  refine Rn.istoreN K (q := 32) (Ls' := #[.val (.ref b), .val (.int (4 : Int32)), .val (.int x)]) d27_31 rfl rfl ?_
  refine Rn.aloadN K (q := 33) d27_32 rfl rfl rfl ?_
  refine Rn.iloadN K (q := 34) d27_33 rfl rfl ?_
  refine Rn.iinc K (q := 37) (Ls' := #[.val (.ref b), .val (.int (5 : Int32)), .val (.int x)]) (1 : Int32) d27_34 rfl rfl rfl rfl ?_
  refine Rn.iloadN K (q := 38) d27_37 rfl rfl ?_
  refine Rn.getS K (q := 41) (oT 141 rfl) (SH.ext X0.2) d27_38 rfl ?_
  refine Rn.ishr K (q := 42) d27_41 rfl ?_
  refine Rn.i2b K (q := 43) d27_42 rfl ?_
  refine Rn.bastoreB K (q := 44) (i := 4) Ab (by decide) rfl (oL rfl) gb d27_43 rfl ?_
  intro h1 W2 A3
  have f4 := X0.wr W2 gb
  have f5 := K1.wr W2 (Or.inl (oT 0 rfl))
  replace A3 : Arv Z h1 b k .byte (6 : Int32) [(.int y0), (.int y1), (.int y2), (.int y3), (.int (oB0 x)), (.int y5)] oZ := A3
  refine Rn.aloadN K (q := 45) d27_44 rfl rfl rfl ?_
  refine Rn.iloadN K (q := 46) d27_45 rfl rfl ?_
  refine Rn.iloadN K (q := 47) d27_46 rfl rfl ?_
  refine Rn.getS K (q := 50) (oT 142 rfl) (SW.ext f4.2) d27_47 rfl ?_
  refine Rn.ishr K (q := 51) d27_50 rfl ?_
  refine Rn.i2b K (q := 52) d27_51 rfl ?_
  refine Rn.bastoreB K (q := 53) (i := 5) A3 (by decide) rfl (oL rfl) gb d27_52 rfl ?_
  intro h6 W7 A8
  have f10 := f5.wr W7 (Or.inl (oT 0 rfl))
  replace A8 : Arv Z h6 b k .byte (6 : Int32) [(.int y0), (.int y1), (.int y2), (.int y3), (.int (oB0 x)), (.int (oB8 x))] oZ := A8
  exact Rn.retV K rfl d27_53 (by decide) (by decide) ⟨rfl, f10, A8⟩
theorem m_gch3_2 (l : Launch) (Z : State) (a0 : Array Value) (hw : oH Z a0) (n0 : Nat) (h0 : Heap) (b : Addr) (k : ClassId) (x0 x1 x2 : Int32) (X0 : Old Z n0 h0) (SA : oS0 Z) (SH : oS1 Z) (SW : oS2 Z) (Ab : Arv Z h0 b k .byte (6 : Int32) [(.int (oB0 x0)), (.int (oB8 x0)), (.int (oB0 x1)), (.int (oB8 x1)), (.int (oB0 x2)), (.int (oB8 x2))] oZ) (cx : Chr x2) :
    Met l Z oM4 oC4 2 (some .char) (oR 0 0 0 0) n0 [] #[(.ref b), (.int (2 : Int32))] h0 (fun v h => v = some (.int x2) ∧ h0 = h) := by
  refine Met.intro (Ls := #[.val (.ref b), .val (.int (2 : Int32))]) (plainFor_of_name pn_m_cpr1_0) hw (fun _ => rfl) ?_
  intro w K0
  have K : oK4 w Z a0 := K0
  refine Rn.getS K (q := 3) (oT 140 rfl) (SA.ext X0.2) d28_0 rfl ?_
  refine Rn.ifY K (q := 28) d28_3 (XT.i0_ne_t (by decide)) (by decide) (by decide) ?_
  refine Rn.iloadN K (q := 29) d28_28 rfl rfl ?_
  refine Rn.iconst K (q := 30) (1 : Int32) d28_29 rfl rfl ?_
  refine Rn.ishl K (q := 31) d28_30 rfl ?_
  rw [show ((2 : Int32) <<< ((1 : Int32) &&& 31)) = (4 : Int32) from by decide]
  show Rn w l _ n0 _ 31 _ [(.int (4 : Int32))] h0 0 0
  refine Rn.istoreN K (q := 32) (Ls' := #[.val (.ref b), .val (.int (4 : Int32))]) d28_31 rfl rfl ?_
  refine Rn.aloadN K (q := 33) d28_32 rfl rfl rfl ?_
  refine Rn.iloadN K (q := 34) d28_33 rfl rfl ?_
  refine Rn.iinc K (q := 37) (Ls' := #[.val (.ref b), .val (.int (5 : Int32))]) (1 : Int32) d28_34 rfl rfl rfl rfl ?_
  refine Rn.baloadB K (q := 38) (v := (.int (oB0 x2))) Ab (by decide) rfl d28_37 rfl ?_
  refine Rn.sipush K (q := 41) (255 : Int32) d28_38 rfl rfl ?_
  refine Rn.iand K (q := 42) d28_41 rfl ?_
  refine Rn.getS K (q := 45) (oT 141 rfl) (SH.ext X0.2) d28_42 rfl ?_
  refine Rn.ishl K (q := 46) d28_45 rfl ?_
  refine Rn.aloadN K (q := 47) d28_46 rfl rfl rfl ?_
  refine Rn.iloadN K (q := 48) d28_47 rfl rfl ?_
  refine Rn.baloadB K (q := 49) (v := (.int (oB8 x2))) Ab (by decide) rfl d28_48 rfl ?_
  refine Rn.sipush K (q := 52) (255 : Int32) d28_49 rfl rfl ?_
  refine Rn.iand K (q := 53) d28_52 rfl ?_
  refine Rn.getS K (q := 56) (oT 142 rfl) (SW.ext X0.2) d28_53 rfl ?_
  refine Rn.ishl K (q := 57) d28_56 rfl ?_
  refine Rn.ior K (q := 58) d28_57 rfl ?_
  refine Rn.i2c K (q := 59) d28_58 rfl ?_
  exact Rn.retN K .char rfl (by simp) d28_59 (by decide) (by decide) ⟨by rw [own_gc cx], rfl⟩
theorem m_tob3 (l : Launch) (Z : State) (a0 : Array Value) (hw : oH Z a0) (n0 : Nat) (h0 : Heap) (c : Addr) (kc : ClassId) (x0 x1 x2 : Int32) (X0 : Old Z n0 h0) (SA : oS0 Z) (SH : oS1 Z) (SW : oS2 Z) (Ec : Exa Z h0 c "[C") (Ac : Arv Z h0 c kc .char (3 : Int32) [(.int x0), (.int x1), (.int x2)] oZ) :
    Met l Z oM5 oC5 5 (some (.array .byte)) (oR 2 1 6 24) n0 [] #[(.ref c), oZ, (.int (3 : Int32))] h0 (fun v h => ∃ b k, v = some (.ref b) ∧ h0.size ≤ b ∧ Keep h0 h [] ∧ Exa Z h b "[B" ∧ Arv Z h b k .byte (6 : Int32) [(.int (oB0 x0)), (.int (oB8 x0)), (.int (oB0 x1)), (.int (oB8 x1)), (.int (oB0 x2)), (.int (oB8 x2))] oZ) := by
  refine Met.intro (Ls := #[.val (.ref c), .val oZ, .val (.int (3 : Int32)), .unset, .unset]) (plainFor_of_name pn_m_cpr1_0) hw (fun _ => rfl) ?_
  intro w K0
  have K : oK5 w Z a0 := K0
  have K1 := Keep.refl h0 []
  refine Rn.iloadN K (q := 1) d24_0 rfl rfl ?_
  refine Rn.stat K (q := 4) (W := 0) (y := oM2) (argsL := [(.int (3 : Int32))]) (rest := []) (oT 130 rfl) (oT 131 rfl) (oT 132 rfl) (oT 102 rfl) (by decide) (m_nbf3 l Z a0 hw n0 h0 X0) (by decide) (by decide) rfl (lenOf pd_1 rfl) rfl (oL rfl) d24_1 rfl (by decide) (by decide) ?_
  rintro _ h1 ⟨b, k, rfl, sz, Kn, Eb, Ab⟩
  have f1 := X0.keep Kn all0
  have f2 := K1.trans Kn all0
  have f3 := Ec.keep Kn
  have f4 := Ac.keep Kn nin0
  show Rn w l _ n0 _ 4 _ [(.ref b)] h1 1 6
  refine Rn.astoreN K (q := 5) (Ls' := #[.val (.ref c), .val oZ, .val (.int (3 : Int32)), .val (.ref b), .unset]) d24_4 rfl rfl rfl ?_
  refine Rn.iconst K (q := 6) (0 : Int32) d24_5 rfl rfl ?_
  refine Rn.istore K (q := 8) (Ls' := #[.val (.ref c), .val oZ, .val (.int (3 : Int32)), .val (.ref b), .val oZ]) d24_6 rfl rfl ?_
  refine Rn.iload K (q := 10) d24_8 rfl rfl ?_
  refine Rn.iloadN K (q := 11) d24_10 rfl rfl ?_
  refine Rn.icN K (q := 14) d24_11 (XT.ii_ge_f (by decide)) rfl ?_
  refine Rn.aloadN K (q := 15) d24_14 rfl rfl rfl ?_
  refine Rn.iload K (q := 17) d24_15 rfl rfl ?_
  refine Rn.aloadN K (q := 18) d24_17 rfl rfl rfl ?_
  refine Rn.iloadN K (q := 19) d24_18 rfl rfl ?_
  refine Rn.caload K (q := 20) (v := (.int x0)) f4 (by decide) rfl d24_19 rfl ?_
  refine Rn.stat K (q := 23) (W := 0) (y := oM3) (argsL := [(.ref b), oZ, (.int x0)]) (rest := []) (oT 137 rfl) (oT 138 rfl) (oT 139 rfl) (oT 102 rfl) (by decide) (m_put3_0 l Z a0 hw n0 h1 b k x0 (0 : Int32) (0 : Int32) (0 : Int32) (0 : Int32) (0 : Int32) (0 : Int32) f1 SA SH SW Ab (own_g X0 sz)) (by decide) (by decide) rfl (lenOf pd_2 rfl) rfl (oL rfl) d24_20 rfl (by decide) (by decide) ?_
  rintro _ h5 ⟨rfl, K6, A7⟩
  have f8 := f1.keep K6 (allS (own_g X0 sz) all0)
  have f9 := f2.trans K6 (allS (Or.inr sz) all0)
  have f10 := f3.keep K6
  have f11 := f4.keep K6 (ninS (ne_exa f3 Eb (by decide)) nin0)
  have f12 := Eb.keep K6
  show Rn w l _ n0 _ 23 _ [] h5 1 6
  refine Rn.iinc K (q := 26) (Ls' := #[.val (.ref c), .val (.int (1 : Int32)), .val (.int (3 : Int32)), .val (.ref b), .val oZ]) (1 : Int32) d24_23 rfl rfl rfl rfl ?_
  refine Rn.iinc K (q := 29) (Ls' := #[.val (.ref c), .val (.int (1 : Int32)), .val (.int (3 : Int32)), .val (.ref b), .val (.int (1 : Int32))]) (1 : Int32) d24_26 rfl rfl rfl rfl ?_
  refine Rn.goto K (q := 8) d24_29 (by decide) (by decide) ?_
  refine Rn.iload K (q := 10) d24_8 rfl rfl ?_
  refine Rn.iloadN K (q := 11) d24_10 rfl rfl ?_
  refine Rn.icN K (q := 14) d24_11 (XT.ii_ge_f (by decide)) rfl ?_
  refine Rn.aloadN K (q := 15) d24_14 rfl rfl rfl ?_
  refine Rn.iload K (q := 17) d24_15 rfl rfl ?_
  refine Rn.aloadN K (q := 18) d24_17 rfl rfl rfl ?_
  refine Rn.iloadN K (q := 19) d24_18 rfl rfl ?_
  refine Rn.caload K (q := 20) (v := (.int x1)) f11 (by decide) rfl d24_19 rfl ?_
  refine Rn.stat K (q := 23) (W := 0) (y := oM3) (argsL := [(.ref b), (.int (1 : Int32)), (.int x1)]) (rest := []) (oT 137 rfl) (oT 138 rfl) (oT 139 rfl) (oT 102 rfl) (by decide) (m_put3_1 l Z a0 hw n0 h5 b k x1 (oB0 x0) (oB8 x0) (0 : Int32) (0 : Int32) (0 : Int32) (0 : Int32) f8 SA SH SW A7 (own_g X0 sz)) (by decide) (by decide) rfl (lenOf pd_2 rfl) rfl (oL rfl) d24_20 rfl (by decide) (by decide) ?_
  rintro _ h13 ⟨rfl, K14, A15⟩
  have f16 := f8.keep K14 (allS (own_g X0 sz) all0)
  have f17 := f9.trans K14 (allS (Or.inr sz) all0)
  have f19 := f11.keep K14 (ninS (ne_exa f10 f12 (by decide)) nin0)
  have f20 := f12.keep K14
  show Rn w l _ n0 _ 23 _ [] h13 1 6
  refine Rn.iinc K (q := 26) (Ls' := #[.val (.ref c), .val (.int (2 : Int32)), .val (.int (3 : Int32)), .val (.ref b), .val (.int (1 : Int32))]) (1 : Int32) d24_23 rfl rfl rfl rfl ?_
  refine Rn.iinc K (q := 29) (Ls' := #[.val (.ref c), .val (.int (2 : Int32)), .val (.int (3 : Int32)), .val (.ref b), .val (.int (2 : Int32))]) (1 : Int32) d24_26 rfl rfl rfl rfl ?_
  refine Rn.goto K (q := 8) d24_29 (by decide) (by decide) ?_
  refine Rn.iload K (q := 10) d24_8 rfl rfl ?_
  refine Rn.iloadN K (q := 11) d24_10 rfl rfl ?_
  refine Rn.icN K (q := 14) d24_11 (XT.ii_ge_f (by decide)) rfl ?_
  refine Rn.aloadN K (q := 15) d24_14 rfl rfl rfl ?_
  refine Rn.iload K (q := 17) d24_15 rfl rfl ?_
  refine Rn.aloadN K (q := 18) d24_17 rfl rfl rfl ?_
  refine Rn.iloadN K (q := 19) d24_18 rfl rfl ?_
  refine Rn.caload K (q := 20) (v := (.int x2)) f19 (by decide) rfl d24_19 rfl ?_
  refine Rn.stat K (q := 23) (W := 0) (y := oM3) (argsL := [(.ref b), (.int (2 : Int32)), (.int x2)]) (rest := []) (oT 137 rfl) (oT 138 rfl) (oT 139 rfl) (oT 102 rfl) (by decide) (m_put3_2 l Z a0 hw n0 h13 b k x2 (oB0 x0) (oB8 x0) (oB0 x1) (oB8 x1) (0 : Int32) (0 : Int32) f16 SA SH SW A15 (own_g X0 sz)) (by decide) (by decide) rfl (lenOf pd_2 rfl) rfl (oL rfl) d24_20 rfl (by decide) (by decide) ?_
  rintro _ h21 ⟨rfl, K22, A23⟩
  have f25 := f17.trans K22 (allS (Or.inr sz) all0)
  have f28 := f20.keep K22
  show Rn w l _ n0 _ 23 _ [] h21 1 6
  refine Rn.iinc K (q := 26) (Ls' := #[.val (.ref c), .val (.int (3 : Int32)), .val (.int (3 : Int32)), .val (.ref b), .val (.int (2 : Int32))]) (1 : Int32) d24_23 rfl rfl rfl rfl ?_
  refine Rn.iinc K (q := 29) (Ls' := #[.val (.ref c), .val (.int (3 : Int32)), .val (.int (3 : Int32)), .val (.ref b), .val (.int (3 : Int32))]) (1 : Int32) d24_26 rfl rfl rfl rfl ?_
  refine Rn.goto K (q := 8) d24_29 (by decide) (by decide) ?_
  refine Rn.iload K (q := 10) d24_8 rfl rfl ?_
  refine Rn.iloadN K (q := 11) d24_10 rfl rfl ?_
  refine Rn.icY K (q := 32) d24_11 (XT.ii_ge_t (by decide)) (by decide) (by decide) ?_
  refine Rn.aloadN K (q := 33) d24_32 rfl rfl rfl ?_
  exact Rn.retA K (.array .byte) rfl rfl rfl d24_33 (by decide) (by decide) ⟨_, _, rfl, sz, f25, f28, A23⟩
theorem m_cp3_0 (l : Launch) (Z : State) (a0 : Array Value) (hw : oH Z a0) (n0 : Nat) (h0 : Heap) (c : Addr) (kc : ClassId) (x0 x1 x2 : Int32) (X0 : Old Z n0 h0) (SA : oS0 Z) (SH : oS1 Z) (SW : oS2 Z) (Ec : Exa Z h0 c "[C") (Ac : Arv Z h0 c kc .char (3 : Int32) [(.int x0), (.int x1), (.int x2)] oZ) (cx0 : Chr x0) (cx1 : Chr x1) (cx2 : Chr x2) (bx : (255 : Int32) < x0) :
    Met l Z oM6 oC6 6 (some (.array .byte)) (oR 3 2 9 40) n0 [] #[(.ref c), oZ, (.int (3 : Int32))] h0 (fun v h => ∃ b k, v = some (.ref b) ∧ Keep h0 h [] ∧ Exa Z h b "[B" ∧ Arv Z h b k .byte (6 : Int32) [(.int (oB0 x0)), (.int (oB8 x0)), (.int (oB0 x1)), (.int (oB8 x1)), (.int (oB0 x2)), (.int (oB8 x2))] oZ) := by
  refine Met.intro (Ls := #[.val (.ref c), .val oZ, .val (.int (3 : Int32)), .unset, .unset, .unset]) (plainFor_of_name pn_m_cpr1_0) hw (fun _ => rfl) ?_
  intro w K0
  have K : oK6 w Z a0 := K0
  have K1 := Keep.refl h0 []
  refine Rn.iloadN K (q := 1) d18_0 rfl rfl ?_
  refine Rn.newP K (q := 3) (cap := 3) (oT 21 rfl) (by decide) (by decide) (by decide) (by decide) (by decide) (ad := "[B") (by decide) d18_1 rfl ?_
  intro b1 h2 k4 gb1_ X3 A_b1 EA_b1
  have ne_c_b1 : c ≠ b1 := fun e => absurd Ec.lt (by rw [e, gb1_]; exact Nat.lt_irrefl _)
  have ne_c_b1 : c ≠ b1 := fun e => absurd Ec.lt (by rw [e, gb1_]; exact Nat.lt_irrefl _)
  have g_b1 : n0 ≤ b1 := by rw [gb1_]; exact X0.1 ▸ X0.2.1
  have sz_b1 : h0.size ≤ b1 := by rw [gb1_]; exact K1.1
  have f5 := X0.ext X3
  have f6 := K1.ext X3
  have f7 := Ec.ext X3
  have f8 := Ac.ext X3
  replace A_b1 : Arv Z h2 b1 k4 .byte (3 : Int32) [oZ, oZ, oZ] oZ := A_b1.pad (pad_rep [] oZ 3)
  show Rn w l _ n0 _ 3 _ [(.ref b1)] h2 1 3
  refine Rn.astoreN K (q := 4) (Ls' := #[.val (.ref c), .val oZ, .val (.int (3 : Int32)), .val (.ref b1), .unset, .unset]) d18_3 rfl rfl rfl ?_
  refine Rn.aloadN K (q := 5) d18_4 rfl rfl rfl ?_
  refine Rn.iloadN K (q := 6) d18_5 rfl rfl ?_
  refine Rn.aloadN K (q := 7) d18_6 rfl rfl rfl ?_
  refine Rn.iconst K (q := 8) (0 : Int32) d18_7 rfl rfl ?_
  refine Rn.iloadN K (q := 9) d18_8 rfl rfl ?_
  refine Rn.stat K (q := 12) (W := 0) (y := oM0) (argsL := [(.ref c), oZ, (.ref b1), oZ, (.int (3 : Int32))]) (rest := []) (oT 104 rfl) (oT 105 rfl) (oT 106 rfl) (oT 102 rfl) (by decide) (m_cpr3_0 l Z a0 hw n0 h2 c b1 kc k4 x0 x1 x2 f5 f7 f8 EA_b1 A_b1 g_b1 bx) (by decide) (by decide) rfl (lenOf pd_3 rfl) rfl (oL rfl) d18_9 rfl (by decide) (by decide) ?_
  rintro _ h9 ⟨rfl, K10⟩
  have f12 := f5.keep K10 (allS g_b1 all0)
  have f13 := f6.trans K10 (allS (Or.inr sz_b1) all0)
  have f14 := f7.keep K10
  have f15 := f8.keep K10 (ninS ne_c_b1 nin0)
  show Rn w l _ n0 _ 12 _ [oZ] h9 1 3
  refine Rn.istore K (q := 14) (Ls' := #[.val (.ref c), .val oZ, .val (.int (3 : Int32)), .val (.ref b1), .val oZ, .unset]) d18_12 rfl rfl ?_
  refine Rn.iload K (q := 16) d18_14 rfl rfl ?_
  refine Rn.iloadN K (q := 17) d18_16 rfl rfl ?_
  refine Rn.icN K (q := 20) d18_17 (XT.ii_eq_f (by decide)) rfl ?_
  refine Rn.aloadN K (q := 21) d18_20 rfl rfl rfl ?_
  refine Rn.iloadN K (q := 22) d18_21 rfl rfl ?_
  refine Rn.iloadN K (q := 23) d18_22 rfl rfl ?_
  refine Rn.stat K (q := 26) (W := 0) (y := oM5) (argsL := [(.ref c), oZ, (.int (3 : Int32))]) (rest := []) (oT 127 rfl) (oT 128 rfl) (oT 129 rfl) (oT 102 rfl) (by decide) (m_tob3 l Z a0 hw n0 h9 c kc x0 x1 x2 f12 SA SH SW f14 f15) (by decide) (by decide) rfl (lenOf pd_4 rfl) rfl (oL rfl) d18_23 rfl (by decide) (by decide) ?_
  rintro _ h17 ⟨u, ku, rfl, -, K18, E19, A20⟩
  have f21 := f12.keep K18 all0
  have f22 := f13.trans K18 all0
  show Rn w l _ n0 _ 26 _ [(.ref u)] h17 2 9
  refine Rn.astore K (q := 28) (Ls' := #[.val (.ref c), .val oZ, .val (.int (3 : Int32)), .val (.ref b1), .val oZ, .val (.ref u)]) d18_26 rfl rfl rfl ?_
  refine Rn.aload K (q := 30) d18_28 rfl rfl rfl ?_
  refine Rn.iload K (q := 32) d18_30 rfl rfl ?_
  refine Rn.stat K (q := 35) (W := 0) (y := oM4) (argsL := [(.ref u), oZ]) (rest := []) (oT 143 rfl) (oT 144 rfl) (oT 145 rfl) (oT 102 rfl) (by decide) (m_gch3_0 l Z a0 hw n0 h17 u ku x0 x1 x2 f21 SA SH SW A20 cx0) (by decide) (by decide) rfl (lenOf pd_5 rfl) rfl (oL rfl) d18_32 rfl (by decide) (by decide) ?_
  rintro _ _ ⟨rfl, rfl⟩
  show Rn w l _ n0 _ 35 _ [(.int x0)] h17 2 9
  refine Rn.sipush K (q := 38) (255 : Int32) d18_35 rfl rfl ?_
  refine Rn.icY K (q := 54) d18_38 (XT.ii_gt_t bx) (by decide) (by decide) ?_
  refine Rn.aload K (q := 56) d18_54 rfl rfl rfl ?_
  exact Rn.retA K (.array .byte) rfl rfl rfl d18_56 (by decide) (by decide) ⟨_, _, rfl, f22, E19, A20⟩
theorem m_cp3_1 (l : Launch) (Z : State) (a0 : Array Value) (hw : oH Z a0) (n0 : Nat) (h0 : Heap) (c : Addr) (kc : ClassId) (x0 x1 x2 : Int32) (X0 : Old Z n0 h0) (SA : oS0 Z) (SH : oS1 Z) (SW : oS2 Z) (Ec : Exa Z h0 c "[C") (Ac : Arv Z h0 c kc .char (3 : Int32) [(.int x0), (.int x1), (.int x2)] oZ) (cx0 : Chr x0) (cx1 : Chr x1) (cx2 : Chr x2) (hx0 : ¬ (255 : Int32) < x0) (bx : (255 : Int32) < x1) :
    Met l Z oM6 oC6 6 (some (.array .byte)) (oR 3 2 9 40) n0 [] #[(.ref c), oZ, (.int (3 : Int32))] h0 (fun v h => ∃ b k, v = some (.ref b) ∧ Keep h0 h [] ∧ Exa Z h b "[B" ∧ Arv Z h b k .byte (6 : Int32) [(.int (oB0 x0)), (.int (oB8 x0)), (.int (oB0 x1)), (.int (oB8 x1)), (.int (oB0 x2)), (.int (oB8 x2))] oZ) := by
  refine Met.intro (Ls := #[.val (.ref c), .val oZ, .val (.int (3 : Int32)), .unset, .unset, .unset]) (plainFor_of_name pn_m_cpr1_0) hw (fun _ => rfl) ?_
  intro w K0
  have K : oK6 w Z a0 := K0
  have K1 := Keep.refl h0 []
  refine Rn.iloadN K (q := 1) d18_0 rfl rfl ?_
  refine Rn.newP K (q := 3) (cap := 3) (oT 21 rfl) (by decide) (by decide) (by decide) (by decide) (by decide) (ad := "[B") (by decide) d18_1 rfl ?_
  intro b1 h2 k4 gb1_ X3 A_b1 EA_b1
  have ne_c_b1 : c ≠ b1 := fun e => absurd Ec.lt (by rw [e, gb1_]; exact Nat.lt_irrefl _)
  have ne_c_b1 : c ≠ b1 := fun e => absurd Ec.lt (by rw [e, gb1_]; exact Nat.lt_irrefl _)
  have g_b1 : n0 ≤ b1 := by rw [gb1_]; exact X0.1 ▸ X0.2.1
  have sz_b1 : h0.size ≤ b1 := by rw [gb1_]; exact K1.1
  have f5 := X0.ext X3
  have f6 := K1.ext X3
  have f7 := Ec.ext X3
  have f8 := Ac.ext X3
  replace A_b1 : Arv Z h2 b1 k4 .byte (3 : Int32) [oZ, oZ, oZ] oZ := A_b1.pad (pad_rep [] oZ 3)
  show Rn w l _ n0 _ 3 _ [(.ref b1)] h2 1 3
  refine Rn.astoreN K (q := 4) (Ls' := #[.val (.ref c), .val oZ, .val (.int (3 : Int32)), .val (.ref b1), .unset, .unset]) d18_3 rfl rfl rfl ?_
  refine Rn.aloadN K (q := 5) d18_4 rfl rfl rfl ?_
  refine Rn.iloadN K (q := 6) d18_5 rfl rfl ?_
  refine Rn.aloadN K (q := 7) d18_6 rfl rfl rfl ?_
  refine Rn.iconst K (q := 8) (0 : Int32) d18_7 rfl rfl ?_
  refine Rn.iloadN K (q := 9) d18_8 rfl rfl ?_
  refine Rn.stat K (q := 12) (W := 0) (y := oM0) (argsL := [(.ref c), oZ, (.ref b1), oZ, (.int (3 : Int32))]) (rest := []) (oT 104 rfl) (oT 105 rfl) (oT 106 rfl) (oT 102 rfl) (by decide) (m_cpr3_1 l Z a0 hw n0 h2 c b1 kc k4 x0 x1 x2 f5 f7 f8 EA_b1 A_b1 g_b1 hx0 bx) (by decide) (by decide) rfl (lenOf pd_3 rfl) rfl (oL rfl) d18_9 rfl (by decide) (by decide) ?_
  rintro _ h9 ⟨rfl, K10⟩
  have f12 := f5.keep K10 (allS g_b1 all0)
  have f13 := f6.trans K10 (allS (Or.inr sz_b1) all0)
  have f14 := f7.keep K10
  have f15 := f8.keep K10 (ninS ne_c_b1 nin0)
  show Rn w l _ n0 _ 12 _ [(.int (1 : Int32))] h9 1 3
  refine Rn.istore K (q := 14) (Ls' := #[.val (.ref c), .val oZ, .val (.int (3 : Int32)), .val (.ref b1), .val (.int (1 : Int32)), .unset]) d18_12 rfl rfl ?_
  refine Rn.iload K (q := 16) d18_14 rfl rfl ?_
  refine Rn.iloadN K (q := 17) d18_16 rfl rfl ?_
  refine Rn.icN K (q := 20) d18_17 (XT.ii_eq_f (by decide)) rfl ?_
  refine Rn.aloadN K (q := 21) d18_20 rfl rfl rfl ?_
  refine Rn.iloadN K (q := 22) d18_21 rfl rfl ?_
  refine Rn.iloadN K (q := 23) d18_22 rfl rfl ?_
  refine Rn.stat K (q := 26) (W := 0) (y := oM5) (argsL := [(.ref c), oZ, (.int (3 : Int32))]) (rest := []) (oT 127 rfl) (oT 128 rfl) (oT 129 rfl) (oT 102 rfl) (by decide) (m_tob3 l Z a0 hw n0 h9 c kc x0 x1 x2 f12 SA SH SW f14 f15) (by decide) (by decide) rfl (lenOf pd_4 rfl) rfl (oL rfl) d18_23 rfl (by decide) (by decide) ?_
  rintro _ h17 ⟨u, ku, rfl, -, K18, E19, A20⟩
  have f21 := f12.keep K18 all0
  have f22 := f13.trans K18 all0
  show Rn w l _ n0 _ 26 _ [(.ref u)] h17 2 9
  refine Rn.astore K (q := 28) (Ls' := #[.val (.ref c), .val oZ, .val (.int (3 : Int32)), .val (.ref b1), .val (.int (1 : Int32)), .val (.ref u)]) d18_26 rfl rfl rfl ?_
  refine Rn.aload K (q := 30) d18_28 rfl rfl rfl ?_
  refine Rn.iload K (q := 32) d18_30 rfl rfl ?_
  refine Rn.stat K (q := 35) (W := 0) (y := oM4) (argsL := [(.ref u), (.int (1 : Int32))]) (rest := []) (oT 143 rfl) (oT 144 rfl) (oT 145 rfl) (oT 102 rfl) (by decide) (m_gch3_1 l Z a0 hw n0 h17 u ku x0 x1 x2 f21 SA SH SW A20 cx1) (by decide) (by decide) rfl (lenOf pd_5 rfl) rfl (oL rfl) d18_32 rfl (by decide) (by decide) ?_
  rintro _ _ ⟨rfl, rfl⟩
  show Rn w l _ n0 _ 35 _ [(.int x1)] h17 2 9
  refine Rn.sipush K (q := 38) (255 : Int32) d18_35 rfl rfl ?_
  refine Rn.icY K (q := 54) d18_38 (XT.ii_gt_t bx) (by decide) (by decide) ?_
  refine Rn.aload K (q := 56) d18_54 rfl rfl rfl ?_
  exact Rn.retA K (.array .byte) rfl rfl rfl d18_56 (by decide) (by decide) ⟨_, _, rfl, f22, E19, A20⟩
theorem m_cp3_2 (l : Launch) (Z : State) (a0 : Array Value) (hw : oH Z a0) (n0 : Nat) (h0 : Heap) (c : Addr) (kc : ClassId) (x0 x1 x2 : Int32) (X0 : Old Z n0 h0) (SA : oS0 Z) (SH : oS1 Z) (SW : oS2 Z) (Ec : Exa Z h0 c "[C") (Ac : Arv Z h0 c kc .char (3 : Int32) [(.int x0), (.int x1), (.int x2)] oZ) (cx0 : Chr x0) (cx1 : Chr x1) (cx2 : Chr x2) (hx0 : ¬ (255 : Int32) < x0) (hx1 : ¬ (255 : Int32) < x1) (bx : (255 : Int32) < x2) :
    Met l Z oM6 oC6 6 (some (.array .byte)) (oR 3 2 9 40) n0 [] #[(.ref c), oZ, (.int (3 : Int32))] h0 (fun v h => ∃ b k, v = some (.ref b) ∧ Keep h0 h [] ∧ Exa Z h b "[B" ∧ Arv Z h b k .byte (6 : Int32) [(.int (oB0 x0)), (.int (oB8 x0)), (.int (oB0 x1)), (.int (oB8 x1)), (.int (oB0 x2)), (.int (oB8 x2))] oZ) := by
  refine Met.intro (Ls := #[.val (.ref c), .val oZ, .val (.int (3 : Int32)), .unset, .unset, .unset]) (plainFor_of_name pn_m_cpr1_0) hw (fun _ => rfl) ?_
  intro w K0
  have K : oK6 w Z a0 := K0
  have K1 := Keep.refl h0 []
  refine Rn.iloadN K (q := 1) d18_0 rfl rfl ?_
  refine Rn.newP K (q := 3) (cap := 3) (oT 21 rfl) (by decide) (by decide) (by decide) (by decide) (by decide) (ad := "[B") (by decide) d18_1 rfl ?_
  intro b1 h2 k4 gb1_ X3 A_b1 EA_b1
  have ne_c_b1 : c ≠ b1 := fun e => absurd Ec.lt (by rw [e, gb1_]; exact Nat.lt_irrefl _)
  have ne_c_b1 : c ≠ b1 := fun e => absurd Ec.lt (by rw [e, gb1_]; exact Nat.lt_irrefl _)
  have g_b1 : n0 ≤ b1 := by rw [gb1_]; exact X0.1 ▸ X0.2.1
  have sz_b1 : h0.size ≤ b1 := by rw [gb1_]; exact K1.1
  have f5 := X0.ext X3
  have f6 := K1.ext X3
  have f7 := Ec.ext X3
  have f8 := Ac.ext X3
  replace A_b1 : Arv Z h2 b1 k4 .byte (3 : Int32) [oZ, oZ, oZ] oZ := A_b1.pad (pad_rep [] oZ 3)
  show Rn w l _ n0 _ 3 _ [(.ref b1)] h2 1 3
  refine Rn.astoreN K (q := 4) (Ls' := #[.val (.ref c), .val oZ, .val (.int (3 : Int32)), .val (.ref b1), .unset, .unset]) d18_3 rfl rfl rfl ?_
  refine Rn.aloadN K (q := 5) d18_4 rfl rfl rfl ?_
  refine Rn.iloadN K (q := 6) d18_5 rfl rfl ?_
  refine Rn.aloadN K (q := 7) d18_6 rfl rfl rfl ?_
  refine Rn.iconst K (q := 8) (0 : Int32) d18_7 rfl rfl ?_
  refine Rn.iloadN K (q := 9) d18_8 rfl rfl ?_
  refine Rn.stat K (q := 12) (W := 0) (y := oM0) (argsL := [(.ref c), oZ, (.ref b1), oZ, (.int (3 : Int32))]) (rest := []) (oT 104 rfl) (oT 105 rfl) (oT 106 rfl) (oT 102 rfl) (by decide) (m_cpr3_2 l Z a0 hw n0 h2 c b1 kc k4 x0 x1 x2 f5 f7 f8 EA_b1 A_b1 g_b1 hx0 hx1 bx) (by decide) (by decide) rfl (lenOf pd_3 rfl) rfl (oL rfl) d18_9 rfl (by decide) (by decide) ?_
  rintro _ h9 ⟨rfl, K10⟩
  have f12 := f5.keep K10 (allS g_b1 all0)
  have f13 := f6.trans K10 (allS (Or.inr sz_b1) all0)
  have f14 := f7.keep K10
  have f15 := f8.keep K10 (ninS ne_c_b1 nin0)
  show Rn w l _ n0 _ 12 _ [(.int (2 : Int32))] h9 1 3
  refine Rn.istore K (q := 14) (Ls' := #[.val (.ref c), .val oZ, .val (.int (3 : Int32)), .val (.ref b1), .val (.int (2 : Int32)), .unset]) d18_12 rfl rfl ?_
  refine Rn.iload K (q := 16) d18_14 rfl rfl ?_
  refine Rn.iloadN K (q := 17) d18_16 rfl rfl ?_
  refine Rn.icN K (q := 20) d18_17 (XT.ii_eq_f (by decide)) rfl ?_
  refine Rn.aloadN K (q := 21) d18_20 rfl rfl rfl ?_
  refine Rn.iloadN K (q := 22) d18_21 rfl rfl ?_
  refine Rn.iloadN K (q := 23) d18_22 rfl rfl ?_
  refine Rn.stat K (q := 26) (W := 0) (y := oM5) (argsL := [(.ref c), oZ, (.int (3 : Int32))]) (rest := []) (oT 127 rfl) (oT 128 rfl) (oT 129 rfl) (oT 102 rfl) (by decide) (m_tob3 l Z a0 hw n0 h9 c kc x0 x1 x2 f12 SA SH SW f14 f15) (by decide) (by decide) rfl (lenOf pd_4 rfl) rfl (oL rfl) d18_23 rfl (by decide) (by decide) ?_
  rintro _ h17 ⟨u, ku, rfl, -, K18, E19, A20⟩
  have f21 := f12.keep K18 all0
  have f22 := f13.trans K18 all0
  show Rn w l _ n0 _ 26 _ [(.ref u)] h17 2 9
  refine Rn.astore K (q := 28) (Ls' := #[.val (.ref c), .val oZ, .val (.int (3 : Int32)), .val (.ref b1), .val (.int (2 : Int32)), .val (.ref u)]) d18_26 rfl rfl rfl ?_
  refine Rn.aload K (q := 30) d18_28 rfl rfl rfl ?_
  refine Rn.iload K (q := 32) d18_30 rfl rfl ?_
  refine Rn.stat K (q := 35) (W := 0) (y := oM4) (argsL := [(.ref u), (.int (2 : Int32))]) (rest := []) (oT 143 rfl) (oT 144 rfl) (oT 145 rfl) (oT 102 rfl) (by decide) (m_gch3_2 l Z a0 hw n0 h17 u ku x0 x1 x2 f21 SA SH SW A20 cx2) (by decide) (by decide) rfl (lenOf pd_5 rfl) rfl (oL rfl) d18_32 rfl (by decide) (by decide) ?_
  rintro _ _ ⟨rfl, rfl⟩
  show Rn w l _ n0 _ 35 _ [(.int x2)] h17 2 9
  refine Rn.sipush K (q := 38) (255 : Int32) d18_35 rfl rfl ?_
  refine Rn.icY K (q := 54) d18_38 (XT.ii_gt_t bx) (by decide) (by decide) ?_
  refine Rn.aload K (q := 56) d18_54 rfl rfl rfl ?_
  exact Rn.retA K (.array .byte) rfl rfl rfl d18_56 (by decide) (by decide) ⟨_, _, rfl, f22, E19, A20⟩
theorem m_cp3_3 (l : Launch) (Z : State) (a0 : Array Value) (hw : oH Z a0) (n0 : Nat) (h0 : Heap) (c : Addr) (kc : ClassId) (x0 x1 x2 : Int32) (X0 : Old Z n0 h0) (SA : oS0 Z) (SH : oS1 Z) (SW : oS2 Z) (Ec : Exa Z h0 c "[C") (Ac : Arv Z h0 c kc .char (3 : Int32) [(.int x0), (.int x1), (.int x2)] oZ) (cx0 : Chr x0) (cx1 : Chr x1) (cx2 : Chr x2) (hx0 : ¬ (255 : Int32) < x0) (hx1 : ¬ (255 : Int32) < x1) (hx2 : ¬ (255 : Int32) < x2) :
    Met l Z oM6 oC6 6 (some (.array .byte)) (oR 1 1 3 18) n0 [] #[(.ref c), oZ, (.int (3 : Int32))] h0 (fun v h => ∃ b k, v = some (.ref b) ∧ Keep h0 h [] ∧ Exa Z h b "[B" ∧ Arv Z h b k .byte (3 : Int32) [(.int (oB x0)), (.int (oB x1)), (.int (oB x2))] oZ) := by
  refine Met.intro (Ls := #[.val (.ref c), .val oZ, .val (.int (3 : Int32)), .unset, .unset, .unset]) (plainFor_of_name pn_m_cpr1_0) hw (fun _ => rfl) ?_
  intro w K0
  have K : oK6 w Z a0 := K0
  have K1 := Keep.refl h0 []
  refine Rn.iloadN K (q := 1) d18_0 rfl rfl ?_
  refine Rn.newP K (q := 3) (cap := 3) (oT 21 rfl) (by decide) (by decide) (by decide) (by decide) (by decide) (ad := "[B") (by decide) d18_1 rfl ?_
  intro b1 h2 k4 gb1_ X3 A_b1 EA_b1
  have ne_c_b1 : c ≠ b1 := fun e => absurd Ec.lt (by rw [e, gb1_]; exact Nat.lt_irrefl _)
  have ne_c_b1 : c ≠ b1 := fun e => absurd Ec.lt (by rw [e, gb1_]; exact Nat.lt_irrefl _)
  have g_b1 : n0 ≤ b1 := by rw [gb1_]; exact X0.1 ▸ X0.2.1
  have sz_b1 : h0.size ≤ b1 := by rw [gb1_]; exact K1.1
  have f5 := X0.ext X3
  have f6 := K1.ext X3
  have f7 := Ec.ext X3
  have f8 := Ac.ext X3
  replace A_b1 : Arv Z h2 b1 k4 .byte (3 : Int32) [oZ, oZ, oZ] oZ := A_b1.pad (pad_rep [] oZ 3)
  show Rn w l _ n0 _ 3 _ [(.ref b1)] h2 1 3
  refine Rn.astoreN K (q := 4) (Ls' := #[.val (.ref c), .val oZ, .val (.int (3 : Int32)), .val (.ref b1), .unset, .unset]) d18_3 rfl rfl rfl ?_
  refine Rn.aloadN K (q := 5) d18_4 rfl rfl rfl ?_
  refine Rn.iloadN K (q := 6) d18_5 rfl rfl ?_
  refine Rn.aloadN K (q := 7) d18_6 rfl rfl rfl ?_
  refine Rn.iconst K (q := 8) (0 : Int32) d18_7 rfl rfl ?_
  refine Rn.iloadN K (q := 9) d18_8 rfl rfl ?_
  refine Rn.stat K (q := 12) (W := 0) (y := oM0) (argsL := [(.ref c), oZ, (.ref b1), oZ, (.int (3 : Int32))]) (rest := []) (oT 104 rfl) (oT 105 rfl) (oT 106 rfl) (oT 102 rfl) (by decide) (m_cpr3_3 l Z a0 hw n0 h2 c b1 kc k4 x0 x1 x2 f5 f7 f8 EA_b1 A_b1 g_b1 hx0 hx1 hx2) (by decide) (by decide) rfl (lenOf pd_3 rfl) rfl (oL rfl) d18_9 rfl (by decide) (by decide) ?_
  rintro _ h9 ⟨rfl, K10, A11⟩
  have f13 := f6.trans K10 (allS (Or.inr sz_b1) all0)
  have f16 := EA_b1.keep K10
  show Rn w l _ n0 _ 12 _ [(.int (3 : Int32))] h9 1 3
  refine Rn.istore K (q := 14) (Ls' := #[.val (.ref c), .val oZ, .val (.int (3 : Int32)), .val (.ref b1), .val (.int (3 : Int32)), .unset]) d18_12 rfl rfl ?_
  refine Rn.iload K (q := 16) d18_14 rfl rfl ?_
  refine Rn.iloadN K (q := 17) d18_16 rfl rfl ?_
  refine Rn.icY K (q := 57) d18_17 (XT.ii_eq_t rfl) (by decide) (by decide) ?_
  refine Rn.aloadN K (q := 58) d18_57 rfl rfl rfl ?_
  exact Rn.retA K (.array .byte) rfl rfl rfl d18_58 (by decide) (by decide) ⟨_, _, rfl, f13, f16, A11⟩
theorem m_cpw3 (l : Launch) (Z : State) (a0 : Array Value) (hw : oH Z a0) (n0 : Nat) (h0 : Heap) (c : Addr) (kc : ClassId) (x0 x1 x2 : Int32) (X0 : Old Z n0 h0) (SA : oS0 Z) (SH : oS1 Z) (SW : oS2 Z) (Ec : Exa Z h0 c "[C") (Ac : Arv Z h0 c kc .char (3 : Int32) [(.int x0), (.int x1), (.int x2)] oZ) (cx0 : Chr x0) (cx1 : Chr x1) (cx2 : Chr x2) (hb : ¬ ∀ c ∈ [x0, x1, x2], ¬ (255 : Int32) < c) :
    Met l Z oM6 oC6 6 (some (.array .byte)) (oR 3 2 9 40) n0 [] #[(.ref c), oZ, (.int (3 : Int32))] h0 (fun v h => ∃ b k, v = some (.ref b) ∧ Keep h0 h [] ∧ Exa Z h b "[B" ∧ Arv Z h b k .byte (6 : Int32) [(.int (oB0 x0)), (.int (oB8 x0)), (.int (oB0 x1)), (.int (oB8 x1)), (.int (oB0 x2)), (.int (oB8 x2))] oZ) := by
  by_cases hx0 : (255 : Int32) < x0
  · exact m_cp3_0 l Z a0 hw n0 h0 c kc x0 x1 x2 X0 SA SH SW Ec Ac cx0 cx1 cx2 hx0
  by_cases hx1 : (255 : Int32) < x1
  · exact m_cp3_1 l Z a0 hw n0 h0 c kc x0 x1 x2 X0 SA SH SW Ec Ac cx0 cx1 cx2 hx0 hx1
  by_cases hx2 : (255 : Int32) < x2
  · exact m_cp3_2 l Z a0 hw n0 h0 c kc x0 x1 x2 X0 SA SH SW Ec Ac cx0 cx1 cx2 hx0 hx1 hx2
  exact absurd (by simp only [List.mem_cons, List.not_mem_nil, or_false]; intro c hc; rcases hc with rfl | rfl | rfl <;> assumption) hb
theorem m_cfl3_1 (l : Launch) (Z : State) (a0 : Array Value) (hw : oH Z a0) (n0 : Nat) (h0 : Heap) (b : Addr) (k : ClassId) (x0 x1 x2 : Int32) (X0 : Old Z n0 h0) (Ab : Arv Z h0 b k .byte (6 : Int32) [(.int (oB0 x0)), (.int (oB8 x0)), (.int (oB0 x1)), (.int (oB8 x1)), (.int (oB0 x2)), (.int (oB8 x2))] oZ) :
    Met l Z oM7 oC7 2 (some .byte) (oR 0 0 0 0) n0 [] #[(.ref b), (.int (3 : Int32))] h0 (fun v h => v = some (.int (1 : Int32)) ∧ h0 = h) := by
  refine Met.intro (Ls := #[.val (.ref b), .val (.int (3 : Int32))]) (plainFor_of_name pn_m_cpr1_0) hw (fun _ => rfl) ?_
  intro w K0
  have K : oK7 w Z a0 := K0
  refine Rn.iloadN K (q := 1) d20_0 rfl rfl ?_
  refine Rn.aloadN K (q := 2) d20_1 rfl rfl rfl ?_
  refine Rn.arraylength K (q := 3) Ab d20_2 rfl ?_
  refine Rn.isub K (q := 4) d20_3 rfl ?_
  refine Rn.bipush K (q := 6) (31 : Int32) d20_4 rfl rfl ?_
  refine Rn.iushr K (q := 7) d20_6 rfl ?_
  refine Rn.i2b K (q := 8) d20_7 rfl ?_
  exact Rn.retN K .byte rfl (by simp) d20_8 (by decide) (by decide) ⟨by rw [show nar .byte ((((3 : Int32) - (6 : Int32)).toUInt32 >>> ((31 : Int32) &&& 31).toUInt32).toInt32).toInt8.toInt32 = 1 from by decide], rfl⟩
theorem m_iv3_1 (l : Launch) (Z : State) (a0 : Array Value) (hw : oH Z a0) (n0 : Nat) (h0 : Heap) (s c : Addr) (kc : ClassId) (x0 x1 x2 : Int32) (cst : Int32) (X0 : Old Z n0 h0) (SC : oSC Z cst) (hcs : ¬ cst = 0) (Es : Exa Z h0 s "java/lang/String") (gs : n0 ≤ s) (Fv : Fld Z h0 s "java/lang/String" "value" "[B" .null) (Fc : Fld Z h0 s "java/lang/String" "coder" "B" (.int (0 : Int32))) (Ec : Exa Z h0 c "[C") (Ac : Arv Z h0 c kc .char (3 : Int32) [(.int x0), (.int x1), (.int x2)] oZ) (SA : oS0 Z) (SH : oS1 Z) (SW : oS2 Z) (cx0 : Chr x0) (cx1 : Chr x1) (cx2 : Chr x2) (ha : ¬ ∀ c ∈ [x0, x1, x2], ¬ (255 : Int32) < c) :
    Met l Z oM8 oC8 6 none (oR 4 2 9 57) n0 [] #[(.ref s), (.ref c), oZ, (.int (3 : Int32)), .null] h0 (fun r h => r = none ∧ Keep h0 h [s] ∧ ∃ v k, Fld Z h s "java/lang/String" "value" "[B" (.ref v) ∧ Fld Z h s "java/lang/String" "coder" "B" (.int (1 : Int32)) ∧ Arv Z h v k .byte (6 : Int32) [(.int (oB0 x0)), (.int (oB8 x0)), (.int (oB0 x1)), (.int (oB8 x1)), (.int (oB0 x2)), (.int (oB8 x2))] oZ) := by
  refine Met.intro (Ls := #[.val (.ref s), .val (.ref c), .val oZ, .val (.int (3 : Int32)), .val .null, .unset]) (plainFor_of_name pn_m_iv1_1) hw (fun m => by first | (simp [entryFrame, mkF, argsToLocals, Value.category]; done) | rfl) ?_
  intro w K0
  have K : oK8 w Z a0 := K0
  have K1 := Keep.refl h0 [s]
  refine Rn.aloadN K (q := 1) d3_0 rfl rfl rfl ?_
  refine Rn.initO K (q := 4) (W := 0) (oT 17 rfl) (oT 18 rfl) (oT 19 rfl) (by decide) (by decide) rfl (oL rfl) d3_1 rfl ?_
  refine Rn.iloadN K (q := 5) d3_4 rfl rfl ?_
  refine Rn.ifY K (q := 27) d3_5 (XT.i0_ne_t (by decide)) (by decide) (by decide) ?_
  refine Rn.getS K (q := 30) (oT 61 rfl) (SC.ext X0.2) d3_27 rfl ?_
  refine Rn.ifN K (q := 33) d3_30 (XT.i0_eq_f hcs) rfl ?_
  refine Rn.aloadN K (q := 34) d3_33 rfl rfl rfl ?_
  refine Rn.iloadN K (q := 35) d3_34 rfl rfl ?_
  refine Rn.iloadN K (q := 36) d3_35 rfl rfl ?_
  refine Rn.stat K (q := 39) (W := 0) (y := oM6) (argsL := [(.ref c), oZ, (.int (3 : Int32))]) (rest := []) (oT 100 rfl) (oT 101 rfl) (oT 103 rfl) (oT 102 rfl) (by decide) (m_cpw3 l Z a0 hw n0 h0 c kc x0 x1 x2 X0 SA SH SW Ec Ac cx0 cx1 cx2 ha) (by decide) (by decide) rfl (lenOf pd_4 rfl) rfl (oL rfl) d3_36 rfl (by decide) (by decide) ?_
  rintro _ h1 ⟨v, k, rfl, K2, E3, A4⟩
  have f5 := X0.keep K2 all0
  have f6 := K1.trans K2 all0
  have f7 := Es.keep K2
  have f8 := Fv.keep K2 nin0
  have f9 := Fc.keep K2 nin0
  show Rn w l _ n0 _ 39 _ [(.ref v)] h1 2 9
  refine Rn.astore K (q := 41) (Ls' := #[.val (.ref s), .val (.ref c), .val oZ, .val (.int (3 : Int32)), .val .null, .val (.ref v)]) d3_39 rfl rfl rfl ?_
  refine Rn.aloadN K (q := 42) d3_41 rfl rfl rfl ?_
  refine Rn.aload K (q := 44) d3_42 rfl rfl rfl ?_
  refine Rn.iloadN K (q := 45) d3_44 rfl rfl ?_
  refine Rn.stat K (q := 48) (W := 1) (y := oM7) (argsL := [(.ref v), (.int (3 : Int32))]) (rest := [(.ref s)]) (oT 107 rfl) (oT 108 rfl) (oT 109 rfl) (oT 102 rfl) (by decide) (m_cfl3_1 l Z a0 hw n0 h1 v k x0 x1 x2 f5 A4) (by decide) (by decide) rfl (lenOf pd_6 rfl) rfl (oL rfl) d3_45 rfl (by decide) (by decide) ?_
  rintro _ _ ⟨rfl, rfl⟩
  show Rn w l _ n0 _ 48 _ [(.int (1 : Int32)), (.ref s)] h1 2 9
  refine Rn.putF K (q := 51) (ty := .byte) (v' := .int (nar .byte (1 : Int32))) (oT 27 rfl) Via.refl f9 f7 (Or.inr ⟨(oT 23 rfl), rfl, rfl⟩) (oT 7 rfl) (by decide) rfl (fits_nar_byte _) gs d3_48 rfl ?_
  intro h12 W13
  have f15 := f6.wr W13 (Or.inl (oT 0 rfl))
  have f16 := f7.wr W13
  have f17 := Fld.other W13 f8 (Or.inr (slot_ne (Or.inr (K.hw _ (oT 22 rfl))) (Or.inr (K.hw _ (oT 23 rfl))) (by decide) (t := (.array .byte)) (t' := .byte) (by decide) (by decide)))
  have f18 := Fld.same W13 f9
  have f21 := E3.wr W13
  have f22 := A4.other W13 (ne_exa E3 f7 (by decide))
  refine Rn.aloadN K (q := 52) d3_51 rfl rfl rfl ?_
  refine Rn.aload K (q := 54) d3_52 rfl rfl rfl ?_
  refine Rn.putF K (q := 57) (ty := (.array .byte)) (oT 26 rfl) Via.refl f17 f16 (Or.inr ⟨(oT 22 rfl), rfl, rfl⟩) (oT 7 rfl) (by decide) rfl rfl gs d3_54 rfl ?_
  intro h23 W24
  have f26 := f15.wr W24 (Or.inl (oT 0 rfl))
  have f28 := Fld.same W24 f17
  have f29 := Fld.other W24 f18 (Or.inr (slot_ne (Or.inr (K.hw _ (oT 23 rfl))) (Or.inr (K.hw _ (oT 22 rfl))) (by decide) (t := .byte) (t' := (.array .byte)) (by decide) (by decide)))
  have f33 := f22.other W24 (ne_exa f21 f16 (by decide))
  exact Rn.retV K rfl d3_57 (by decide) (by decide) ⟨rfl, f26, _, _, f28, f29, f33⟩
theorem m_ic3_1 (l : Launch) (Z : State) (a0 : Array Value) (hw : oH Z a0) (n0 : Nat) (h0 : Heap) (s c : Addr) (kc : ClassId) (x0 x1 x2 : Int32) (cst : Int32) (X0 : Old Z n0 h0) (SC : oSC Z cst) (hcs : ¬ cst = 0) (Es : Exa Z h0 s "java/lang/String") (gs : n0 ≤ s) (Fv : Fld Z h0 s "java/lang/String" "value" "[B" .null) (Fc : Fld Z h0 s "java/lang/String" "coder" "B" (.int (0 : Int32))) (Ec : Exa Z h0 c "[C") (Ac : Arv Z h0 c kc .char (3 : Int32) [(.int x0), (.int x1), (.int x2)] oZ) (SA : oS0 Z) (SH : oS1 Z) (SW : oS2 Z) (cx0 : Chr x0) (cx1 : Chr x1) (cx2 : Chr x2) (ha : ¬ ∀ c ∈ [x0, x1, x2], ¬ (255 : Int32) < c) :
    Met l Z oM9 oC9 2 none (oR 5 2 9 74) n0 [] #[(.ref s), (.ref c)] h0 (fun r h => r = none ∧ Keep h0 h [s] ∧ ∃ v, STR Z h s v [x0, x1, x2]) := by
  refine Met.intro (Ls := #[.val (.ref s), .val (.ref c)]) (plainFor_of_name pn_m_iv1_1) hw (fun _ => rfl) ?_
  intro w K0
  have K : oK9 w Z a0 := K0
  have K1 := Keep.refl h0 [s]
  refine Rn.aloadN K (q := 1) d2_0 rfl rfl rfl ?_
  refine Rn.aloadN K (q := 2) d2_1 rfl rfl rfl ?_
  refine Rn.iconst K (q := 3) (0 : Int32) d2_2 rfl rfl ?_
  refine Rn.aloadN K (q := 4) d2_3 rfl rfl rfl ?_
  refine Rn.arraylength K (q := 5) Ac d2_4 rfl ?_
  refine Rn.aconst_null K (q := 6) d2_5 rfl ?_
  refine Rn.spec K (q := 9) (W := 0) (y := oM8) (b := s) (argsL := [(.ref c), oZ, (.int (3 : Int32)), .null]) (rest := []) rfl (oT 13 rfl) (oT 14 rfl) (oT 16 rfl) (oT 8 rfl) (by decide) (m_iv3_1 l Z a0 hw n0 h0 s c kc x0 x1 x2 cst X0 SC hcs Es gs Fv Fc Ec Ac SA SH SW cx0 cx1 cx2 ha) (by decide) (by decide) rfl (lenOf pd_7 rfl) rfl (oL rfl) d2_6 rfl (by decide) (by decide) ?_
  rintro _ h1 ⟨rfl, K2, v, k, F1, F2, A2⟩
  have f3 := Es.keep K2
  show Rn w l _ n0 _ 9 _ [] h1 2 9
  exact Rn.retV K rfl d2_9 (by decide) (by decide) ⟨rfl, K2, v, f3, F1, k, Or.inr ⟨by simp, F2, A2⟩⟩
theorem m_cfl3_0 (l : Launch) (Z : State) (a0 : Array Value) (hw : oH Z a0) (n0 : Nat) (h0 : Heap) (b : Addr) (k : ClassId) (x0 x1 x2 : Int32) (X0 : Old Z n0 h0) (Ab : Arv Z h0 b k .byte (3 : Int32) [(.int (oB x0)), (.int (oB x1)), (.int (oB x2))] oZ) :
    Met l Z oM7 oC7 2 (some .byte) (oR 0 0 0 0) n0 [] #[(.ref b), (.int (3 : Int32))] h0 (fun v h => v = some (.int (0 : Int32)) ∧ h0 = h) := by
  refine Met.intro (Ls := #[.val (.ref b), .val (.int (3 : Int32))]) (plainFor_of_name pn_m_cpr1_0) hw (fun _ => rfl) ?_
  intro w K0
  have K : oK7 w Z a0 := K0
  refine Rn.iloadN K (q := 1) d20_0 rfl rfl ?_
  refine Rn.aloadN K (q := 2) d20_1 rfl rfl rfl ?_
  refine Rn.arraylength K (q := 3) Ab d20_2 rfl ?_
  refine Rn.isub K (q := 4) d20_3 rfl ?_
  refine Rn.bipush K (q := 6) (31 : Int32) d20_4 rfl rfl ?_
  refine Rn.iushr K (q := 7) d20_6 rfl ?_
  refine Rn.i2b K (q := 8) d20_7 rfl ?_
  exact Rn.retN K .byte rfl (by simp) d20_8 (by decide) (by decide) ⟨by rw [show nar .byte ((((3 : Int32) - (3 : Int32)).toUInt32 >>> ((31 : Int32) &&& 31).toUInt32).toInt32).toInt8.toInt32 = 0 from by decide], rfl⟩
theorem m_iv3_0 (l : Launch) (Z : State) (a0 : Array Value) (hw : oH Z a0) (n0 : Nat) (h0 : Heap) (s c : Addr) (kc : ClassId) (x0 x1 x2 : Int32) (cst : Int32) (X0 : Old Z n0 h0) (SC : oSC Z cst) (hcs : ¬ cst = 0) (Es : Exa Z h0 s "java/lang/String") (gs : n0 ≤ s) (Fv : Fld Z h0 s "java/lang/String" "value" "[B" .null) (Fc : Fld Z h0 s "java/lang/String" "coder" "B" (.int (0 : Int32))) (Ec : Exa Z h0 c "[C") (Ac : Arv Z h0 c kc .char (3 : Int32) [(.int x0), (.int x1), (.int x2)] oZ) (SA : oS0 Z) (SH : oS1 Z) (SW : oS2 Z) (cx0 : Chr x0) (cx1 : Chr x1) (cx2 : Chr x2) (ha : ∀ c ∈ [x0, x1, x2], ¬ (255 : Int32) < c) :
    Met l Z oM8 oC8 6 none (oR 4 2 9 57) n0 [] #[(.ref s), (.ref c), oZ, (.int (3 : Int32)), .null] h0 (fun r h => r = none ∧ Keep h0 h [s] ∧ ∃ v k, Fld Z h s "java/lang/String" "value" "[B" (.ref v) ∧ Fld Z h s "java/lang/String" "coder" "B" (.int (0 : Int32)) ∧ Arv Z h v k .byte (3 : Int32) [(.int (oB x0)), (.int (oB x1)), (.int (oB x2))] oZ) := by
  refine Met.intro (Ls := #[.val (.ref s), .val (.ref c), .val oZ, .val (.int (3 : Int32)), .val .null, .unset]) (plainFor_of_name pn_m_iv1_1) hw (fun m => by first | (simp [entryFrame, mkF, argsToLocals, Value.category]; done) | rfl) ?_
  intro w K0
  have K : oK8 w Z a0 := K0
  have K1 := Keep.refl h0 [s]
  refine Rn.aloadN K (q := 1) d3_0 rfl rfl rfl ?_
  refine Rn.initO K (q := 4) (W := 0) (oT 17 rfl) (oT 18 rfl) (oT 19 rfl) (by decide) (by decide) rfl (oL rfl) d3_1 rfl ?_
  refine Rn.iloadN K (q := 5) d3_4 rfl rfl ?_
  refine Rn.ifY K (q := 27) d3_5 (XT.i0_ne_t (by decide)) (by decide) (by decide) ?_
  refine Rn.getS K (q := 30) (oT 61 rfl) (SC.ext X0.2) d3_27 rfl ?_
  refine Rn.ifN K (q := 33) d3_30 (XT.i0_eq_f hcs) rfl ?_
  refine Rn.aloadN K (q := 34) d3_33 rfl rfl rfl ?_
  refine Rn.iloadN K (q := 35) d3_34 rfl rfl ?_
  refine Rn.iloadN K (q := 36) d3_35 rfl rfl ?_
  refine Rn.stat K (q := 39) (W := 0) (y := oM6) (argsL := [(.ref c), oZ, (.int (3 : Int32))]) (rest := []) (oT 100 rfl) (oT 101 rfl) (oT 103 rfl) (oT 102 rfl) (by decide) (m_cp3_3 l Z a0 hw n0 h0 c kc x0 x1 x2 X0 SA SH SW Ec Ac cx0 cx1 cx2 (ha x0 (by simp)) (ha x1 (by simp)) (ha x2 (by simp))) (by decide) (by decide) rfl (lenOf pd_4 rfl) rfl (oL rfl) d3_36 rfl (by decide) (by decide) ?_
  rintro _ h1 ⟨v, k, rfl, K2, E3, A4⟩
  have f5 := X0.keep K2 all0
  have f6 := K1.trans K2 all0
  have f7 := Es.keep K2
  have f8 := Fv.keep K2 nin0
  have f9 := Fc.keep K2 nin0
  show Rn w l _ n0 _ 39 _ [(.ref v)] h1 1 3
  refine Rn.astore K (q := 41) (Ls' := #[.val (.ref s), .val (.ref c), .val oZ, .val (.int (3 : Int32)), .val .null, .val (.ref v)]) d3_39 rfl rfl rfl ?_
  refine Rn.aloadN K (q := 42) d3_41 rfl rfl rfl ?_
  refine Rn.aload K (q := 44) d3_42 rfl rfl rfl ?_
  refine Rn.iloadN K (q := 45) d3_44 rfl rfl ?_
  refine Rn.stat K (q := 48) (W := 1) (y := oM7) (argsL := [(.ref v), (.int (3 : Int32))]) (rest := [(.ref s)]) (oT 107 rfl) (oT 108 rfl) (oT 109 rfl) (oT 102 rfl) (by decide) (m_cfl3_0 l Z a0 hw n0 h1 v k x0 x1 x2 f5 A4) (by decide) (by decide) rfl (lenOf pd_6 rfl) rfl (oL rfl) d3_45 rfl (by decide) (by decide) ?_
  rintro _ _ ⟨rfl, rfl⟩
  show Rn w l _ n0 _ 48 _ [oZ, (.ref s)] h1 1 3
  refine Rn.putF K (q := 51) (ty := .byte) (v' := .int (nar .byte (0 : Int32))) (oT 27 rfl) Via.refl f9 f7 (Or.inr ⟨(oT 23 rfl), rfl, rfl⟩) (oT 7 rfl) (by decide) rfl (fits_nar_byte _) gs d3_48 rfl ?_
  intro h12 W13
  have f15 := f6.wr W13 (Or.inl (oT 0 rfl))
  have f16 := f7.wr W13
  have f17 := Fld.other W13 f8 (Or.inr (slot_ne (Or.inr (K.hw _ (oT 22 rfl))) (Or.inr (K.hw _ (oT 23 rfl))) (by decide) (t := (.array .byte)) (t' := .byte) (by decide) (by decide)))
  have f18 := Fld.same W13 f9
  have f21 := E3.wr W13
  have f22 := A4.other W13 (ne_exa E3 f7 (by decide))
  refine Rn.aloadN K (q := 52) d3_51 rfl rfl rfl ?_
  refine Rn.aload K (q := 54) d3_52 rfl rfl rfl ?_
  refine Rn.putF K (q := 57) (ty := (.array .byte)) (oT 26 rfl) Via.refl f17 f16 (Or.inr ⟨(oT 22 rfl), rfl, rfl⟩) (oT 7 rfl) (by decide) rfl rfl gs d3_54 rfl ?_
  intro h23 W24
  have f26 := f15.wr W24 (Or.inl (oT 0 rfl))
  have f28 := Fld.same W24 f17
  have f29 := Fld.other W24 f18 (Or.inr (slot_ne (Or.inr (K.hw _ (oT 23 rfl))) (Or.inr (K.hw _ (oT 22 rfl))) (by decide) (t := .byte) (t' := (.array .byte)) (by decide) (by decide)))
  have f33 := f22.other W24 (ne_exa f21 f16 (by decide))
  exact Rn.retV K rfl d3_57 (by decide) (by decide) ⟨rfl, f26, _, _, f28, f29, f33⟩
theorem m_ic3_0 (l : Launch) (Z : State) (a0 : Array Value) (hw : oH Z a0) (n0 : Nat) (h0 : Heap) (s c : Addr) (kc : ClassId) (x0 x1 x2 : Int32) (cst : Int32) (X0 : Old Z n0 h0) (SC : oSC Z cst) (hcs : ¬ cst = 0) (Es : Exa Z h0 s "java/lang/String") (gs : n0 ≤ s) (Fv : Fld Z h0 s "java/lang/String" "value" "[B" .null) (Fc : Fld Z h0 s "java/lang/String" "coder" "B" (.int (0 : Int32))) (Ec : Exa Z h0 c "[C") (Ac : Arv Z h0 c kc .char (3 : Int32) [(.int x0), (.int x1), (.int x2)] oZ) (SA : oS0 Z) (SH : oS1 Z) (SW : oS2 Z) (cx0 : Chr x0) (cx1 : Chr x1) (cx2 : Chr x2) (ha : ∀ c ∈ [x0, x1, x2], ¬ (255 : Int32) < c) :
    Met l Z oM9 oC9 2 none (oR 5 2 9 74) n0 [] #[(.ref s), (.ref c)] h0 (fun r h => r = none ∧ Keep h0 h [s] ∧ ∃ v, STR Z h s v [x0, x1, x2]) := by
  refine Met.intro (Ls := #[.val (.ref s), .val (.ref c)]) (plainFor_of_name pn_m_iv1_1) hw (fun _ => rfl) ?_
  intro w K0
  have K : oK9 w Z a0 := K0
  have K1 := Keep.refl h0 [s]
  refine Rn.aloadN K (q := 1) d2_0 rfl rfl rfl ?_
  refine Rn.aloadN K (q := 2) d2_1 rfl rfl rfl ?_
  refine Rn.iconst K (q := 3) (0 : Int32) d2_2 rfl rfl ?_
  refine Rn.aloadN K (q := 4) d2_3 rfl rfl rfl ?_
  refine Rn.arraylength K (q := 5) Ac d2_4 rfl ?_
  refine Rn.aconst_null K (q := 6) d2_5 rfl ?_
  refine Rn.spec K (q := 9) (W := 0) (y := oM8) (b := s) (argsL := [(.ref c), oZ, (.int (3 : Int32)), .null]) (rest := []) rfl (oT 13 rfl) (oT 14 rfl) (oT 16 rfl) (oT 8 rfl) (by decide) (m_iv3_0 l Z a0 hw n0 h0 s c kc x0 x1 x2 cst X0 SC hcs Es gs Fv Fc Ec Ac SA SH SW cx0 cx1 cx2 ha) (by decide) (by decide) rfl (lenOf pd_7 rfl) rfl (oL rfl) d2_6 rfl (by decide) (by decide) ?_
  rintro _ h1 ⟨rfl, K2, v, k, F1, F2, A2⟩
  have f3 := Es.keep K2
  show Rn w l _ n0 _ 9 _ [] h1 2 9
  exact Rn.retV K rfl d2_9 (by decide) (by decide) ⟨rfl, K2, v, f3, F1, k, Or.inl ⟨F2, A2, ha⟩⟩
theorem m_icc3 (l : Launch) (Z : State) (a0 : Array Value) (hw : oH Z a0) (n0 : Nat) (h0 : Heap) (s c : Addr) (kc : ClassId) (x0 x1 x2 : Int32) (cst : Int32) (X0 : Old Z n0 h0) (SC : oSC Z cst) (hcs : ¬ cst = 0) (Es : Exa Z h0 s "java/lang/String") (gs : n0 ≤ s) (Fv : Fld Z h0 s "java/lang/String" "value" "[B" .null) (Fc : Fld Z h0 s "java/lang/String" "coder" "B" (.int (0 : Int32))) (Ec : Exa Z h0 c "[C") (Ac : Arv Z h0 c kc .char (3 : Int32) [(.int x0), (.int x1), (.int x2)] oZ) (SA : oS0 Z) (SH : oS1 Z) (SW : oS2 Z) (cx0 : Chr x0) (cx1 : Chr x1) (cx2 : Chr x2) :
    Met l Z oM9 oC9 2 none (oR 5 2 9 74) n0 [] #[(.ref s), (.ref c)] h0 (fun r h => r = none ∧ Keep h0 h [s] ∧ ∃ v, STR Z h s v [x0, x1, x2]) := by
  by_cases ha : ∀ c ∈ [x0, x1, x2], ¬ (255 : Int32) < c
  · exact m_ic3_0 l Z a0 hw n0 h0 s c kc x0 x1 x2 cst X0 SC hcs Es gs Fv Fc Ec Ac SA SH SW cx0 cx1 cx2 ha
  · exact m_ic3_1 l Z a0 hw n0 h0 s c kc x0 x1 x2 cst X0 SC hcs Es gs Fv Fc Ec Ac SA SH SW cx0 cx1 cx2 ha
theorem m_cpr4_0 (l : Launch) (Z : State) (a0 : Array Value) (hw : oH Z a0) (n0 : Nat) (h0 : Heap) (c b : Addr) (kc k : ClassId) (x0 x1 x2 x3 : Int32) (X0 : Old Z n0 h0) (Ec : Exa Z h0 c "[C") (Ac : Arv Z h0 c kc .char (4 : Int32) [(.int x0), (.int x1), (.int x2), (.int x3)] oZ) (Eb : Exa Z h0 b "[B") (Ab : Arv Z h0 b k .byte (4 : Int32) [oZ, oZ, oZ, oZ] oZ) (gb : n0 ≤ b) (bx : (255 : Int32) < x0) :
    Met l Z oM0 oC0 7 (some .int) (oR 0 0 0 0) n0 [] #[(.ref c), oZ, (.ref b), oZ, (.int (4 : Int32))] h0 (fun v h => v = some (.int (0 : Int32)) ∧ Keep h0 h [b]) := by
  refine Met.intro (Ls := #[.val (.ref c), .val oZ, .val (.ref b), .val oZ, .val (.int (4 : Int32)), .unset, .unset]) (plainFor_of_name pn_m_cpr1_0) hw (fun m => by first | (simp [entryFrame, mkF, argsToLocals, Value.category]; done) | rfl) ?_
  intro w K0
  have K : oK0 w Z a0 := K0
  have K1 := Keep.refl h0 [b]
  refine Rn.iconst K (q := 1) (0 : Int32) d19_0 rfl rfl ?_
  refine Rn.istore K (q := 3) (Ls' := #[.val (.ref c), .val oZ, .val (.ref b), .val oZ, .val (.int (4 : Int32)), .val oZ, .unset]) d19_1 rfl rfl ?_
  refine Rn.iload K (q := 5) d19_3 rfl rfl ?_
  refine Rn.iload K (q := 7) d19_5 rfl rfl ?_
  refine Rn.icN K (q := 10) d19_7 (XT.ii_ge_f (by decide)) rfl ?_
  refine Rn.aloadN K (q := 11) d19_10 rfl rfl rfl ?_
  refine Rn.iloadN K (q := 12) d19_11 rfl rfl ?_
  refine Rn.caload K (q := 13) (v := (.int x0)) Ac (by decide) rfl d19_12 rfl ?_
  refine Rn.istore K (q := 15) (Ls' := #[.val (.ref c), .val oZ, .val (.ref b), .val oZ, .val (.int (4 : Int32)), .val oZ, .val (.int x0)]) d19_13 rfl rfl ?_
  refine Rn.iload K (q := 17) d19_15 rfl rfl ?_
  refine Rn.sipush K (q := 20) (255 : Int32) d19_17 rfl rfl ?_
  refine Rn.icN K (q := 23) d19_20 (XT.ii_le_f bx) rfl ?_
  refine Rn.iload K (q := 25) d19_23 rfl rfl ?_
  exact Rn.retI K rfl d19_25 (by decide) (by decide) ⟨rfl, K1⟩
theorem m_cpr4_1 (l : Launch) (Z : State) (a0 : Array Value) (hw : oH Z a0) (n0 : Nat) (h0 : Heap) (c b : Addr) (kc k : ClassId) (x0 x1 x2 x3 : Int32) (X0 : Old Z n0 h0) (Ec : Exa Z h0 c "[C") (Ac : Arv Z h0 c kc .char (4 : Int32) [(.int x0), (.int x1), (.int x2), (.int x3)] oZ) (Eb : Exa Z h0 b "[B") (Ab : Arv Z h0 b k .byte (4 : Int32) [oZ, oZ, oZ, oZ] oZ) (gb : n0 ≤ b) (hx0 : ¬ (255 : Int32) < x0) (bx : (255 : Int32) < x1) :
    Met l Z oM0 oC0 7 (some .int) (oR 0 0 0 0) n0 [] #[(.ref c), oZ, (.ref b), oZ, (.int (4 : Int32))] h0 (fun v h => v = some (.int (1 : Int32)) ∧ Keep h0 h [b]) := by
  refine Met.intro (Ls := #[.val (.ref c), .val oZ, .val (.ref b), .val oZ, .val (.int (4 : Int32)), .unset, .unset]) (plainFor_of_name pn_m_cpr1_0) hw (fun m => by first | (simp [entryFrame, mkF, argsToLocals, Value.category]; done) | rfl) ?_
  intro w K0
  have K : oK0 w Z a0 := K0
  have K1 := Keep.refl h0 [b]
  refine Rn.iconst K (q := 1) (0 : Int32) d19_0 rfl rfl ?_
  refine Rn.istore K (q := 3) (Ls' := #[.val (.ref c), .val oZ, .val (.ref b), .val oZ, .val (.int (4 : Int32)), .val oZ, .unset]) d19_1 rfl rfl ?_
  refine Rn.iload K (q := 5) d19_3 rfl rfl ?_
  refine Rn.iload K (q := 7) d19_5 rfl rfl ?_
  refine Rn.icN K (q := 10) d19_7 (XT.ii_ge_f (by decide)) rfl ?_
  refine Rn.aloadN K (q := 11) d19_10 rfl rfl rfl ?_
  refine Rn.iloadN K (q := 12) d19_11 rfl rfl ?_
  refine Rn.caload K (q := 13) (v := (.int x0)) Ac (by decide) rfl d19_12 rfl ?_
  refine Rn.istore K (q := 15) (Ls' := #[.val (.ref c), .val oZ, .val (.ref b), .val oZ, .val (.int (4 : Int32)), .val oZ, .val (.int x0)]) d19_13 rfl rfl ?_
  refine Rn.iload K (q := 17) d19_15 rfl rfl ?_
  refine Rn.sipush K (q := 20) (255 : Int32) d19_17 rfl rfl ?_
  refine Rn.icY K (q := 26) d19_20 (XT.ii_le_t hx0) (by decide) (by decide) ?_
  refine Rn.aloadN K (q := 27) d19_26 rfl rfl rfl ?_
  refine Rn.iloadN K (q := 28) d19_27 rfl rfl ?_
  refine Rn.iload K (q := 30) d19_28 rfl rfl ?_
  refine Rn.i2b K (q := 31) d19_30 rfl ?_
  refine Rn.bastoreB K (q := 32) (i := 0) Ab (by decide) rfl (oL rfl) gb d19_31 rfl ?_
  intro h1 W2 A3
  have f5 := K1.wr W2 (Or.inl (oT 0 rfl))
  have f7 := Ac.other W2 (ne_exa Ec Eb (by decide))
  replace A3 : Arv Z h1 b k .byte (4 : Int32) [(.int (oB x0)), oZ, oZ, oZ] oZ := A3
  refine Rn.iinc K (q := 35) (Ls' := #[.val (.ref c), .val (.int (1 : Int32)), .val (.ref b), .val oZ, .val (.int (4 : Int32)), .val oZ, .val (.int x0)]) (1 : Int32) d19_32 rfl rfl rfl rfl ?_
  refine Rn.iinc K (q := 38) (Ls' := #[.val (.ref c), .val (.int (1 : Int32)), .val (.ref b), .val (.int (1 : Int32)), .val (.int (4 : Int32)), .val oZ, .val (.int x0)]) (1 : Int32) d19_35 rfl rfl rfl rfl ?_
  refine Rn.iinc K (q := 41) (Ls' := #[.val (.ref c), .val (.int (1 : Int32)), .val (.ref b), .val (.int (1 : Int32)), .val (.int (4 : Int32)), .val (.int (1 : Int32)), .val (.int x0)]) (1 : Int32) d19_38 rfl rfl rfl rfl ?_
  refine Rn.goto K (q := 3) d19_41 (by decide) (by decide) ?_
  refine Rn.iload K (q := 5) d19_3 rfl rfl ?_
  refine Rn.iload K (q := 7) d19_5 rfl rfl ?_
  refine Rn.icN K (q := 10) d19_7 (XT.ii_ge_f (by decide)) rfl ?_
  refine Rn.aloadN K (q := 11) d19_10 rfl rfl rfl ?_
  refine Rn.iloadN K (q := 12) d19_11 rfl rfl ?_
  refine Rn.caload K (q := 13) (v := (.int x1)) f7 (by decide) rfl d19_12 rfl ?_
  refine Rn.istore K (q := 15) (Ls' := #[.val (.ref c), .val (.int (1 : Int32)), .val (.ref b), .val (.int (1 : Int32)), .val (.int (4 : Int32)), .val (.int (1 : Int32)), .val (.int x1)]) d19_13 rfl rfl ?_
  refine Rn.iload K (q := 17) d19_15 rfl rfl ?_
  refine Rn.sipush K (q := 20) (255 : Int32) d19_17 rfl rfl ?_
  refine Rn.icN K (q := 23) d19_20 (XT.ii_le_f bx) rfl ?_
  refine Rn.iload K (q := 25) d19_23 rfl rfl ?_
  exact Rn.retI K rfl d19_25 (by decide) (by decide) ⟨rfl, f5⟩
theorem m_cpr4_2 (l : Launch) (Z : State) (a0 : Array Value) (hw : oH Z a0) (n0 : Nat) (h0 : Heap) (c b : Addr) (kc k : ClassId) (x0 x1 x2 x3 : Int32) (X0 : Old Z n0 h0) (Ec : Exa Z h0 c "[C") (Ac : Arv Z h0 c kc .char (4 : Int32) [(.int x0), (.int x1), (.int x2), (.int x3)] oZ) (Eb : Exa Z h0 b "[B") (Ab : Arv Z h0 b k .byte (4 : Int32) [oZ, oZ, oZ, oZ] oZ) (gb : n0 ≤ b) (hx0 : ¬ (255 : Int32) < x0) (hx1 : ¬ (255 : Int32) < x1) (bx : (255 : Int32) < x2) :
    Met l Z oM0 oC0 7 (some .int) (oR 0 0 0 0) n0 [] #[(.ref c), oZ, (.ref b), oZ, (.int (4 : Int32))] h0 (fun v h => v = some (.int (2 : Int32)) ∧ Keep h0 h [b]) := by
  refine Met.intro (Ls := #[.val (.ref c), .val oZ, .val (.ref b), .val oZ, .val (.int (4 : Int32)), .unset, .unset]) (plainFor_of_name pn_m_cpr1_0) hw (fun m => by first | (simp [entryFrame, mkF, argsToLocals, Value.category]; done) | rfl) ?_
  intro w K0
  have K : oK0 w Z a0 := K0
  have K1 := Keep.refl h0 [b]
  refine Rn.iconst K (q := 1) (0 : Int32) d19_0 rfl rfl ?_
  refine Rn.istore K (q := 3) (Ls' := #[.val (.ref c), .val oZ, .val (.ref b), .val oZ, .val (.int (4 : Int32)), .val oZ, .unset]) d19_1 rfl rfl ?_
  refine Rn.iload K (q := 5) d19_3 rfl rfl ?_
  refine Rn.iload K (q := 7) d19_5 rfl rfl ?_
  refine Rn.icN K (q := 10) d19_7 (XT.ii_ge_f (by decide)) rfl ?_
  refine Rn.aloadN K (q := 11) d19_10 rfl rfl rfl ?_
  refine Rn.iloadN K (q := 12) d19_11 rfl rfl ?_
  refine Rn.caload K (q := 13) (v := (.int x0)) Ac (by decide) rfl d19_12 rfl ?_
  refine Rn.istore K (q := 15) (Ls' := #[.val (.ref c), .val oZ, .val (.ref b), .val oZ, .val (.int (4 : Int32)), .val oZ, .val (.int x0)]) d19_13 rfl rfl ?_
  refine Rn.iload K (q := 17) d19_15 rfl rfl ?_
  refine Rn.sipush K (q := 20) (255 : Int32) d19_17 rfl rfl ?_
  refine Rn.icY K (q := 26) d19_20 (XT.ii_le_t hx0) (by decide) (by decide) ?_
  refine Rn.aloadN K (q := 27) d19_26 rfl rfl rfl ?_
  refine Rn.iloadN K (q := 28) d19_27 rfl rfl ?_
  refine Rn.iload K (q := 30) d19_28 rfl rfl ?_
  refine Rn.i2b K (q := 31) d19_30 rfl ?_
  refine Rn.bastoreB K (q := 32) (i := 0) Ab (by decide) rfl (oL rfl) gb d19_31 rfl ?_
  intro h1 W2 A3
  have f5 := K1.wr W2 (Or.inl (oT 0 rfl))
  have f6 := Ec.wr W2
  have f7 := Ac.other W2 (ne_exa Ec Eb (by decide))
  have f8 := Eb.wr W2
  replace A3 : Arv Z h1 b k .byte (4 : Int32) [(.int (oB x0)), oZ, oZ, oZ] oZ := A3
  refine Rn.iinc K (q := 35) (Ls' := #[.val (.ref c), .val (.int (1 : Int32)), .val (.ref b), .val oZ, .val (.int (4 : Int32)), .val oZ, .val (.int x0)]) (1 : Int32) d19_32 rfl rfl rfl rfl ?_
  refine Rn.iinc K (q := 38) (Ls' := #[.val (.ref c), .val (.int (1 : Int32)), .val (.ref b), .val (.int (1 : Int32)), .val (.int (4 : Int32)), .val oZ, .val (.int x0)]) (1 : Int32) d19_35 rfl rfl rfl rfl ?_
  refine Rn.iinc K (q := 41) (Ls' := #[.val (.ref c), .val (.int (1 : Int32)), .val (.ref b), .val (.int (1 : Int32)), .val (.int (4 : Int32)), .val (.int (1 : Int32)), .val (.int x0)]) (1 : Int32) d19_38 rfl rfl rfl rfl ?_
  refine Rn.goto K (q := 3) d19_41 (by decide) (by decide) ?_
  refine Rn.iload K (q := 5) d19_3 rfl rfl ?_
  refine Rn.iload K (q := 7) d19_5 rfl rfl ?_
  refine Rn.icN K (q := 10) d19_7 (XT.ii_ge_f (by decide)) rfl ?_
  refine Rn.aloadN K (q := 11) d19_10 rfl rfl rfl ?_
  refine Rn.iloadN K (q := 12) d19_11 rfl rfl ?_
  refine Rn.caload K (q := 13) (v := (.int x1)) f7 (by decide) rfl d19_12 rfl ?_
  refine Rn.istore K (q := 15) (Ls' := #[.val (.ref c), .val (.int (1 : Int32)), .val (.ref b), .val (.int (1 : Int32)), .val (.int (4 : Int32)), .val (.int (1 : Int32)), .val (.int x1)]) d19_13 rfl rfl ?_
  refine Rn.iload K (q := 17) d19_15 rfl rfl ?_
  refine Rn.sipush K (q := 20) (255 : Int32) d19_17 rfl rfl ?_
  refine Rn.icY K (q := 26) d19_20 (XT.ii_le_t hx1) (by decide) (by decide) ?_
  refine Rn.aloadN K (q := 27) d19_26 rfl rfl rfl ?_
  refine Rn.iloadN K (q := 28) d19_27 rfl rfl ?_
  refine Rn.iload K (q := 30) d19_28 rfl rfl ?_
  refine Rn.i2b K (q := 31) d19_30 rfl ?_
  refine Rn.bastoreB K (q := 32) (i := 1) A3 (by decide) rfl (oL rfl) gb d19_31 rfl ?_
  intro h9 W10 A11
  have f13 := f5.wr W10 (Or.inl (oT 0 rfl))
  have f15 := f7.other W10 (ne_exa f6 f8 (by decide))
  replace A11 : Arv Z h9 b k .byte (4 : Int32) [(.int (oB x0)), (.int (oB x1)), oZ, oZ] oZ := A11
  refine Rn.iinc K (q := 35) (Ls' := #[.val (.ref c), .val (.int (2 : Int32)), .val (.ref b), .val (.int (1 : Int32)), .val (.int (4 : Int32)), .val (.int (1 : Int32)), .val (.int x1)]) (1 : Int32) d19_32 rfl rfl rfl rfl ?_
  refine Rn.iinc K (q := 38) (Ls' := #[.val (.ref c), .val (.int (2 : Int32)), .val (.ref b), .val (.int (2 : Int32)), .val (.int (4 : Int32)), .val (.int (1 : Int32)), .val (.int x1)]) (1 : Int32) d19_35 rfl rfl rfl rfl ?_
  refine Rn.iinc K (q := 41) (Ls' := #[.val (.ref c), .val (.int (2 : Int32)), .val (.ref b), .val (.int (2 : Int32)), .val (.int (4 : Int32)), .val (.int (2 : Int32)), .val (.int x1)]) (1 : Int32) d19_38 rfl rfl rfl rfl ?_
  refine Rn.goto K (q := 3) d19_41 (by decide) (by decide) ?_
  refine Rn.iload K (q := 5) d19_3 rfl rfl ?_
  refine Rn.iload K (q := 7) d19_5 rfl rfl ?_
  refine Rn.icN K (q := 10) d19_7 (XT.ii_ge_f (by decide)) rfl ?_
  refine Rn.aloadN K (q := 11) d19_10 rfl rfl rfl ?_
  refine Rn.iloadN K (q := 12) d19_11 rfl rfl ?_
  refine Rn.caload K (q := 13) (v := (.int x2)) f15 (by decide) rfl d19_12 rfl ?_
  refine Rn.istore K (q := 15) (Ls' := #[.val (.ref c), .val (.int (2 : Int32)), .val (.ref b), .val (.int (2 : Int32)), .val (.int (4 : Int32)), .val (.int (2 : Int32)), .val (.int x2)]) d19_13 rfl rfl ?_
  refine Rn.iload K (q := 17) d19_15 rfl rfl ?_
  refine Rn.sipush K (q := 20) (255 : Int32) d19_17 rfl rfl ?_
  refine Rn.icN K (q := 23) d19_20 (XT.ii_le_f bx) rfl ?_
  refine Rn.iload K (q := 25) d19_23 rfl rfl ?_
  exact Rn.retI K rfl d19_25 (by decide) (by decide) ⟨rfl, f13⟩
theorem m_cpr4_3 (l : Launch) (Z : State) (a0 : Array Value) (hw : oH Z a0) (n0 : Nat) (h0 : Heap) (c b : Addr) (kc k : ClassId) (x0 x1 x2 x3 : Int32) (X0 : Old Z n0 h0) (Ec : Exa Z h0 c "[C") (Ac : Arv Z h0 c kc .char (4 : Int32) [(.int x0), (.int x1), (.int x2), (.int x3)] oZ) (Eb : Exa Z h0 b "[B") (Ab : Arv Z h0 b k .byte (4 : Int32) [oZ, oZ, oZ, oZ] oZ) (gb : n0 ≤ b) (hx0 : ¬ (255 : Int32) < x0) (hx1 : ¬ (255 : Int32) < x1) (hx2 : ¬ (255 : Int32) < x2) (bx : (255 : Int32) < x3) :
    Met l Z oM0 oC0 7 (some .int) (oR 0 0 0 0) n0 [] #[(.ref c), oZ, (.ref b), oZ, (.int (4 : Int32))] h0 (fun v h => v = some (.int (3 : Int32)) ∧ Keep h0 h [b]) := by
  refine Met.intro (Ls := #[.val (.ref c), .val oZ, .val (.ref b), .val oZ, .val (.int (4 : Int32)), .unset, .unset]) (plainFor_of_name pn_m_cpr1_0) hw (fun m => by first | (simp [entryFrame, mkF, argsToLocals, Value.category]; done) | rfl) ?_
  intro w K0
  have K : oK0 w Z a0 := K0
  have K1 := Keep.refl h0 [b]
  refine Rn.iconst K (q := 1) (0 : Int32) d19_0 rfl rfl ?_
  refine Rn.istore K (q := 3) (Ls' := #[.val (.ref c), .val oZ, .val (.ref b), .val oZ, .val (.int (4 : Int32)), .val oZ, .unset]) d19_1 rfl rfl ?_
  refine Rn.iload K (q := 5) d19_3 rfl rfl ?_
  refine Rn.iload K (q := 7) d19_5 rfl rfl ?_
  refine Rn.icN K (q := 10) d19_7 (XT.ii_ge_f (by decide)) rfl ?_
  refine Rn.aloadN K (q := 11) d19_10 rfl rfl rfl ?_
  refine Rn.iloadN K (q := 12) d19_11 rfl rfl ?_
  refine Rn.caload K (q := 13) (v := (.int x0)) Ac (by decide) rfl d19_12 rfl ?_
  refine Rn.istore K (q := 15) (Ls' := #[.val (.ref c), .val oZ, .val (.ref b), .val oZ, .val (.int (4 : Int32)), .val oZ, .val (.int x0)]) d19_13 rfl rfl ?_
  refine Rn.iload K (q := 17) d19_15 rfl rfl ?_
  refine Rn.sipush K (q := 20) (255 : Int32) d19_17 rfl rfl ?_
  refine Rn.icY K (q := 26) d19_20 (XT.ii_le_t hx0) (by decide) (by decide) ?_
  refine Rn.aloadN K (q := 27) d19_26 rfl rfl rfl ?_
  refine Rn.iloadN K (q := 28) d19_27 rfl rfl ?_
  refine Rn.iload K (q := 30) d19_28 rfl rfl ?_
  refine Rn.i2b K (q := 31) d19_30 rfl ?_
  refine Rn.bastoreB K (q := 32) (i := 0) Ab (by decide) rfl (oL rfl) gb d19_31 rfl ?_
  intro h1 W2 A3
  have f5 := K1.wr W2 (Or.inl (oT 0 rfl))
  have f6 := Ec.wr W2
  have f7 := Ac.other W2 (ne_exa Ec Eb (by decide))
  have f8 := Eb.wr W2
  replace A3 : Arv Z h1 b k .byte (4 : Int32) [(.int (oB x0)), oZ, oZ, oZ] oZ := A3
  refine Rn.iinc K (q := 35) (Ls' := #[.val (.ref c), .val (.int (1 : Int32)), .val (.ref b), .val oZ, .val (.int (4 : Int32)), .val oZ, .val (.int x0)]) (1 : Int32) d19_32 rfl rfl rfl rfl ?_
  refine Rn.iinc K (q := 38) (Ls' := #[.val (.ref c), .val (.int (1 : Int32)), .val (.ref b), .val (.int (1 : Int32)), .val (.int (4 : Int32)), .val oZ, .val (.int x0)]) (1 : Int32) d19_35 rfl rfl rfl rfl ?_
  refine Rn.iinc K (q := 41) (Ls' := #[.val (.ref c), .val (.int (1 : Int32)), .val (.ref b), .val (.int (1 : Int32)), .val (.int (4 : Int32)), .val (.int (1 : Int32)), .val (.int x0)]) (1 : Int32) d19_38 rfl rfl rfl rfl ?_
  refine Rn.goto K (q := 3) d19_41 (by decide) (by decide) ?_
  refine Rn.iload K (q := 5) d19_3 rfl rfl ?_
  refine Rn.iload K (q := 7) d19_5 rfl rfl ?_
  refine Rn.icN K (q := 10) d19_7 (XT.ii_ge_f (by decide)) rfl ?_
  refine Rn.aloadN K (q := 11) d19_10 rfl rfl rfl ?_
  refine Rn.iloadN K (q := 12) d19_11 rfl rfl ?_
  refine Rn.caload K (q := 13) (v := (.int x1)) f7 (by decide) rfl d19_12 rfl ?_
  refine Rn.istore K (q := 15) (Ls' := #[.val (.ref c), .val (.int (1 : Int32)), .val (.ref b), .val (.int (1 : Int32)), .val (.int (4 : Int32)), .val (.int (1 : Int32)), .val (.int x1)]) d19_13 rfl rfl ?_
  refine Rn.iload K (q := 17) d19_15 rfl rfl ?_
  refine Rn.sipush K (q := 20) (255 : Int32) d19_17 rfl rfl ?_
  refine Rn.icY K (q := 26) d19_20 (XT.ii_le_t hx1) (by decide) (by decide) ?_
  refine Rn.aloadN K (q := 27) d19_26 rfl rfl rfl ?_
  refine Rn.iloadN K (q := 28) d19_27 rfl rfl ?_
  refine Rn.iload K (q := 30) d19_28 rfl rfl ?_
  refine Rn.i2b K (q := 31) d19_30 rfl ?_
  refine Rn.bastoreB K (q := 32) (i := 1) A3 (by decide) rfl (oL rfl) gb d19_31 rfl ?_
  intro h9 W10 A11
  have f13 := f5.wr W10 (Or.inl (oT 0 rfl))
  have f14 := f6.wr W10
  have f15 := f7.other W10 (ne_exa f6 f8 (by decide))
  have f16 := f8.wr W10
  replace A11 : Arv Z h9 b k .byte (4 : Int32) [(.int (oB x0)), (.int (oB x1)), oZ, oZ] oZ := A11
  refine Rn.iinc K (q := 35) (Ls' := #[.val (.ref c), .val (.int (2 : Int32)), .val (.ref b), .val (.int (1 : Int32)), .val (.int (4 : Int32)), .val (.int (1 : Int32)), .val (.int x1)]) (1 : Int32) d19_32 rfl rfl rfl rfl ?_
  refine Rn.iinc K (q := 38) (Ls' := #[.val (.ref c), .val (.int (2 : Int32)), .val (.ref b), .val (.int (2 : Int32)), .val (.int (4 : Int32)), .val (.int (1 : Int32)), .val (.int x1)]) (1 : Int32) d19_35 rfl rfl rfl rfl ?_
  refine Rn.iinc K (q := 41) (Ls' := #[.val (.ref c), .val (.int (2 : Int32)), .val (.ref b), .val (.int (2 : Int32)), .val (.int (4 : Int32)), .val (.int (2 : Int32)), .val (.int x1)]) (1 : Int32) d19_38 rfl rfl rfl rfl ?_
  refine Rn.goto K (q := 3) d19_41 (by decide) (by decide) ?_
  refine Rn.iload K (q := 5) d19_3 rfl rfl ?_
  refine Rn.iload K (q := 7) d19_5 rfl rfl ?_
  refine Rn.icN K (q := 10) d19_7 (XT.ii_ge_f (by decide)) rfl ?_
  refine Rn.aloadN K (q := 11) d19_10 rfl rfl rfl ?_
  refine Rn.iloadN K (q := 12) d19_11 rfl rfl ?_
  refine Rn.caload K (q := 13) (v := (.int x2)) f15 (by decide) rfl d19_12 rfl ?_
  refine Rn.istore K (q := 15) (Ls' := #[.val (.ref c), .val (.int (2 : Int32)), .val (.ref b), .val (.int (2 : Int32)), .val (.int (4 : Int32)), .val (.int (2 : Int32)), .val (.int x2)]) d19_13 rfl rfl ?_
  refine Rn.iload K (q := 17) d19_15 rfl rfl ?_
  refine Rn.sipush K (q := 20) (255 : Int32) d19_17 rfl rfl ?_
  refine Rn.icY K (q := 26) d19_20 (XT.ii_le_t hx2) (by decide) (by decide) ?_
  refine Rn.aloadN K (q := 27) d19_26 rfl rfl rfl ?_
  refine Rn.iloadN K (q := 28) d19_27 rfl rfl ?_
  refine Rn.iload K (q := 30) d19_28 rfl rfl ?_
  refine Rn.i2b K (q := 31) d19_30 rfl ?_
  refine Rn.bastoreB K (q := 32) (i := 2) A11 (by decide) rfl (oL rfl) gb d19_31 rfl ?_
  intro h17 W18 A19
  have f21 := f13.wr W18 (Or.inl (oT 0 rfl))
  have f23 := f15.other W18 (ne_exa f14 f16 (by decide))
  replace A19 : Arv Z h17 b k .byte (4 : Int32) [(.int (oB x0)), (.int (oB x1)), (.int (oB x2)), oZ] oZ := A19
  refine Rn.iinc K (q := 35) (Ls' := #[.val (.ref c), .val (.int (3 : Int32)), .val (.ref b), .val (.int (2 : Int32)), .val (.int (4 : Int32)), .val (.int (2 : Int32)), .val (.int x2)]) (1 : Int32) d19_32 rfl rfl rfl rfl ?_
  refine Rn.iinc K (q := 38) (Ls' := #[.val (.ref c), .val (.int (3 : Int32)), .val (.ref b), .val (.int (3 : Int32)), .val (.int (4 : Int32)), .val (.int (2 : Int32)), .val (.int x2)]) (1 : Int32) d19_35 rfl rfl rfl rfl ?_
  refine Rn.iinc K (q := 41) (Ls' := #[.val (.ref c), .val (.int (3 : Int32)), .val (.ref b), .val (.int (3 : Int32)), .val (.int (4 : Int32)), .val (.int (3 : Int32)), .val (.int x2)]) (1 : Int32) d19_38 rfl rfl rfl rfl ?_
  refine Rn.goto K (q := 3) d19_41 (by decide) (by decide) ?_
  refine Rn.iload K (q := 5) d19_3 rfl rfl ?_
  refine Rn.iload K (q := 7) d19_5 rfl rfl ?_
  refine Rn.icN K (q := 10) d19_7 (XT.ii_ge_f (by decide)) rfl ?_
  refine Rn.aloadN K (q := 11) d19_10 rfl rfl rfl ?_
  refine Rn.iloadN K (q := 12) d19_11 rfl rfl ?_
  refine Rn.caload K (q := 13) (v := (.int x3)) f23 (by decide) rfl d19_12 rfl ?_
  refine Rn.istore K (q := 15) (Ls' := #[.val (.ref c), .val (.int (3 : Int32)), .val (.ref b), .val (.int (3 : Int32)), .val (.int (4 : Int32)), .val (.int (3 : Int32)), .val (.int x3)]) d19_13 rfl rfl ?_
  refine Rn.iload K (q := 17) d19_15 rfl rfl ?_
  refine Rn.sipush K (q := 20) (255 : Int32) d19_17 rfl rfl ?_
  refine Rn.icN K (q := 23) d19_20 (XT.ii_le_f bx) rfl ?_
  refine Rn.iload K (q := 25) d19_23 rfl rfl ?_
  exact Rn.retI K rfl d19_25 (by decide) (by decide) ⟨rfl, f21⟩
theorem m_cpr4_4 (l : Launch) (Z : State) (a0 : Array Value) (hw : oH Z a0) (n0 : Nat) (h0 : Heap) (c b : Addr) (kc k : ClassId) (x0 x1 x2 x3 : Int32) (X0 : Old Z n0 h0) (Ec : Exa Z h0 c "[C") (Ac : Arv Z h0 c kc .char (4 : Int32) [(.int x0), (.int x1), (.int x2), (.int x3)] oZ) (Eb : Exa Z h0 b "[B") (Ab : Arv Z h0 b k .byte (4 : Int32) [oZ, oZ, oZ, oZ] oZ) (gb : n0 ≤ b) (hx0 : ¬ (255 : Int32) < x0) (hx1 : ¬ (255 : Int32) < x1) (hx2 : ¬ (255 : Int32) < x2) (hx3 : ¬ (255 : Int32) < x3) :
    Met l Z oM0 oC0 7 (some .int) (oR 0 0 0 0) n0 [] #[(.ref c), oZ, (.ref b), oZ, (.int (4 : Int32))] h0 (fun v h => v = some (.int (4 : Int32)) ∧ Keep h0 h [b] ∧ Arv Z h b k .byte (4 : Int32) [(.int (oB x0)), (.int (oB x1)), (.int (oB x2)), (.int (oB x3))] oZ) := by
  refine Met.intro (Ls := #[.val (.ref c), .val oZ, .val (.ref b), .val oZ, .val (.int (4 : Int32)), .unset, .unset]) (plainFor_of_name pn_m_cpr1_0) hw (fun m => by first | (simp [entryFrame, mkF, argsToLocals, Value.category]; done) | rfl) ?_
  intro w K0
  have K : oK0 w Z a0 := K0
  have K1 := Keep.refl h0 [b]
  refine Rn.iconst K (q := 1) (0 : Int32) d19_0 rfl rfl ?_
  refine Rn.istore K (q := 3) (Ls' := #[.val (.ref c), .val oZ, .val (.ref b), .val oZ, .val (.int (4 : Int32)), .val oZ, .unset]) d19_1 rfl rfl ?_
  refine Rn.iload K (q := 5) d19_3 rfl rfl ?_
  refine Rn.iload K (q := 7) d19_5 rfl rfl ?_
  refine Rn.icN K (q := 10) d19_7 (XT.ii_ge_f (by decide)) rfl ?_
  refine Rn.aloadN K (q := 11) d19_10 rfl rfl rfl ?_
  refine Rn.iloadN K (q := 12) d19_11 rfl rfl ?_
  refine Rn.caload K (q := 13) (v := (.int x0)) Ac (by decide) rfl d19_12 rfl ?_
  refine Rn.istore K (q := 15) (Ls' := #[.val (.ref c), .val oZ, .val (.ref b), .val oZ, .val (.int (4 : Int32)), .val oZ, .val (.int x0)]) d19_13 rfl rfl ?_
  refine Rn.iload K (q := 17) d19_15 rfl rfl ?_
  refine Rn.sipush K (q := 20) (255 : Int32) d19_17 rfl rfl ?_
  refine Rn.icY K (q := 26) d19_20 (XT.ii_le_t hx0) (by decide) (by decide) ?_
  refine Rn.aloadN K (q := 27) d19_26 rfl rfl rfl ?_
  refine Rn.iloadN K (q := 28) d19_27 rfl rfl ?_
  refine Rn.iload K (q := 30) d19_28 rfl rfl ?_
  refine Rn.i2b K (q := 31) d19_30 rfl ?_
  refine Rn.bastoreB K (q := 32) (i := 0) Ab (by decide) rfl (oL rfl) gb d19_31 rfl ?_
  intro h1 W2 A3
  have f5 := K1.wr W2 (Or.inl (oT 0 rfl))
  have f6 := Ec.wr W2
  have f7 := Ac.other W2 (ne_exa Ec Eb (by decide))
  have f8 := Eb.wr W2
  replace A3 : Arv Z h1 b k .byte (4 : Int32) [(.int (oB x0)), oZ, oZ, oZ] oZ := A3
  refine Rn.iinc K (q := 35) (Ls' := #[.val (.ref c), .val (.int (1 : Int32)), .val (.ref b), .val oZ, .val (.int (4 : Int32)), .val oZ, .val (.int x0)]) (1 : Int32) d19_32 rfl rfl rfl rfl ?_
  refine Rn.iinc K (q := 38) (Ls' := #[.val (.ref c), .val (.int (1 : Int32)), .val (.ref b), .val (.int (1 : Int32)), .val (.int (4 : Int32)), .val oZ, .val (.int x0)]) (1 : Int32) d19_35 rfl rfl rfl rfl ?_
  refine Rn.iinc K (q := 41) (Ls' := #[.val (.ref c), .val (.int (1 : Int32)), .val (.ref b), .val (.int (1 : Int32)), .val (.int (4 : Int32)), .val (.int (1 : Int32)), .val (.int x0)]) (1 : Int32) d19_38 rfl rfl rfl rfl ?_
  refine Rn.goto K (q := 3) d19_41 (by decide) (by decide) ?_
  refine Rn.iload K (q := 5) d19_3 rfl rfl ?_
  refine Rn.iload K (q := 7) d19_5 rfl rfl ?_
  refine Rn.icN K (q := 10) d19_7 (XT.ii_ge_f (by decide)) rfl ?_
  refine Rn.aloadN K (q := 11) d19_10 rfl rfl rfl ?_
  refine Rn.iloadN K (q := 12) d19_11 rfl rfl ?_
  refine Rn.caload K (q := 13) (v := (.int x1)) f7 (by decide) rfl d19_12 rfl ?_
  refine Rn.istore K (q := 15) (Ls' := #[.val (.ref c), .val (.int (1 : Int32)), .val (.ref b), .val (.int (1 : Int32)), .val (.int (4 : Int32)), .val (.int (1 : Int32)), .val (.int x1)]) d19_13 rfl rfl ?_
  refine Rn.iload K (q := 17) d19_15 rfl rfl ?_
  refine Rn.sipush K (q := 20) (255 : Int32) d19_17 rfl rfl ?_
  refine Rn.icY K (q := 26) d19_20 (XT.ii_le_t hx1) (by decide) (by decide) ?_
  refine Rn.aloadN K (q := 27) d19_26 rfl rfl rfl ?_
  refine Rn.iloadN K (q := 28) d19_27 rfl rfl ?_
  refine Rn.iload K (q := 30) d19_28 rfl rfl ?_
  refine Rn.i2b K (q := 31) d19_30 rfl ?_
  refine Rn.bastoreB K (q := 32) (i := 1) A3 (by decide) rfl (oL rfl) gb d19_31 rfl ?_
  intro h9 W10 A11
  have f13 := f5.wr W10 (Or.inl (oT 0 rfl))
  have f14 := f6.wr W10
  have f15 := f7.other W10 (ne_exa f6 f8 (by decide))
  have f16 := f8.wr W10
  replace A11 : Arv Z h9 b k .byte (4 : Int32) [(.int (oB x0)), (.int (oB x1)), oZ, oZ] oZ := A11
  refine Rn.iinc K (q := 35) (Ls' := #[.val (.ref c), .val (.int (2 : Int32)), .val (.ref b), .val (.int (1 : Int32)), .val (.int (4 : Int32)), .val (.int (1 : Int32)), .val (.int x1)]) (1 : Int32) d19_32 rfl rfl rfl rfl ?_
  refine Rn.iinc K (q := 38) (Ls' := #[.val (.ref c), .val (.int (2 : Int32)), .val (.ref b), .val (.int (2 : Int32)), .val (.int (4 : Int32)), .val (.int (1 : Int32)), .val (.int x1)]) (1 : Int32) d19_35 rfl rfl rfl rfl ?_
  refine Rn.iinc K (q := 41) (Ls' := #[.val (.ref c), .val (.int (2 : Int32)), .val (.ref b), .val (.int (2 : Int32)), .val (.int (4 : Int32)), .val (.int (2 : Int32)), .val (.int x1)]) (1 : Int32) d19_38 rfl rfl rfl rfl ?_
  refine Rn.goto K (q := 3) d19_41 (by decide) (by decide) ?_
  refine Rn.iload K (q := 5) d19_3 rfl rfl ?_
  refine Rn.iload K (q := 7) d19_5 rfl rfl ?_
  refine Rn.icN K (q := 10) d19_7 (XT.ii_ge_f (by decide)) rfl ?_
  refine Rn.aloadN K (q := 11) d19_10 rfl rfl rfl ?_
  refine Rn.iloadN K (q := 12) d19_11 rfl rfl ?_
  refine Rn.caload K (q := 13) (v := (.int x2)) f15 (by decide) rfl d19_12 rfl ?_
  refine Rn.istore K (q := 15) (Ls' := #[.val (.ref c), .val (.int (2 : Int32)), .val (.ref b), .val (.int (2 : Int32)), .val (.int (4 : Int32)), .val (.int (2 : Int32)), .val (.int x2)]) d19_13 rfl rfl ?_
  refine Rn.iload K (q := 17) d19_15 rfl rfl ?_
  refine Rn.sipush K (q := 20) (255 : Int32) d19_17 rfl rfl ?_
  refine Rn.icY K (q := 26) d19_20 (XT.ii_le_t hx2) (by decide) (by decide) ?_
  refine Rn.aloadN K (q := 27) d19_26 rfl rfl rfl ?_
  refine Rn.iloadN K (q := 28) d19_27 rfl rfl ?_
  refine Rn.iload K (q := 30) d19_28 rfl rfl ?_
  refine Rn.i2b K (q := 31) d19_30 rfl ?_
  refine Rn.bastoreB K (q := 32) (i := 2) A11 (by decide) rfl (oL rfl) gb d19_31 rfl ?_
  intro h17 W18 A19
  have f21 := f13.wr W18 (Or.inl (oT 0 rfl))
  have f23 := f15.other W18 (ne_exa f14 f16 (by decide))
  replace A19 : Arv Z h17 b k .byte (4 : Int32) [(.int (oB x0)), (.int (oB x1)), (.int (oB x2)), oZ] oZ := A19
  refine Rn.iinc K (q := 35) (Ls' := #[.val (.ref c), .val (.int (3 : Int32)), .val (.ref b), .val (.int (2 : Int32)), .val (.int (4 : Int32)), .val (.int (2 : Int32)), .val (.int x2)]) (1 : Int32) d19_32 rfl rfl rfl rfl ?_
  refine Rn.iinc K (q := 38) (Ls' := #[.val (.ref c), .val (.int (3 : Int32)), .val (.ref b), .val (.int (3 : Int32)), .val (.int (4 : Int32)), .val (.int (2 : Int32)), .val (.int x2)]) (1 : Int32) d19_35 rfl rfl rfl rfl ?_
  refine Rn.iinc K (q := 41) (Ls' := #[.val (.ref c), .val (.int (3 : Int32)), .val (.ref b), .val (.int (3 : Int32)), .val (.int (4 : Int32)), .val (.int (3 : Int32)), .val (.int x2)]) (1 : Int32) d19_38 rfl rfl rfl rfl ?_
  refine Rn.goto K (q := 3) d19_41 (by decide) (by decide) ?_
  refine Rn.iload K (q := 5) d19_3 rfl rfl ?_
  refine Rn.iload K (q := 7) d19_5 rfl rfl ?_
  refine Rn.icN K (q := 10) d19_7 (XT.ii_ge_f (by decide)) rfl ?_
  refine Rn.aloadN K (q := 11) d19_10 rfl rfl rfl ?_
  refine Rn.iloadN K (q := 12) d19_11 rfl rfl ?_
  refine Rn.caload K (q := 13) (v := (.int x3)) f23 (by decide) rfl d19_12 rfl ?_
  refine Rn.istore K (q := 15) (Ls' := #[.val (.ref c), .val (.int (3 : Int32)), .val (.ref b), .val (.int (3 : Int32)), .val (.int (4 : Int32)), .val (.int (3 : Int32)), .val (.int x3)]) d19_13 rfl rfl ?_
  refine Rn.iload K (q := 17) d19_15 rfl rfl ?_
  refine Rn.sipush K (q := 20) (255 : Int32) d19_17 rfl rfl ?_
  refine Rn.icY K (q := 26) d19_20 (XT.ii_le_t hx3) (by decide) (by decide) ?_
  refine Rn.aloadN K (q := 27) d19_26 rfl rfl rfl ?_
  refine Rn.iloadN K (q := 28) d19_27 rfl rfl ?_
  refine Rn.iload K (q := 30) d19_28 rfl rfl ?_
  refine Rn.i2b K (q := 31) d19_30 rfl ?_
  refine Rn.bastoreB K (q := 32) (i := 3) A19 (by decide) rfl (oL rfl) gb d19_31 rfl ?_
  intro h25 W26 A27
  have f29 := f21.wr W26 (Or.inl (oT 0 rfl))
  replace A27 : Arv Z h25 b k .byte (4 : Int32) [(.int (oB x0)), (.int (oB x1)), (.int (oB x2)), (.int (oB x3))] oZ := A27
  refine Rn.iinc K (q := 35) (Ls' := #[.val (.ref c), .val (.int (4 : Int32)), .val (.ref b), .val (.int (3 : Int32)), .val (.int (4 : Int32)), .val (.int (3 : Int32)), .val (.int x3)]) (1 : Int32) d19_32 rfl rfl rfl rfl ?_
  refine Rn.iinc K (q := 38) (Ls' := #[.val (.ref c), .val (.int (4 : Int32)), .val (.ref b), .val (.int (4 : Int32)), .val (.int (4 : Int32)), .val (.int (3 : Int32)), .val (.int x3)]) (1 : Int32) d19_35 rfl rfl rfl rfl ?_
  refine Rn.iinc K (q := 41) (Ls' := #[.val (.ref c), .val (.int (4 : Int32)), .val (.ref b), .val (.int (4 : Int32)), .val (.int (4 : Int32)), .val (.int (4 : Int32)), .val (.int x3)]) (1 : Int32) d19_38 rfl rfl rfl rfl ?_
  refine Rn.goto K (q := 3) d19_41 (by decide) (by decide) ?_
  refine Rn.iload K (q := 5) d19_3 rfl rfl ?_
  refine Rn.iload K (q := 7) d19_5 rfl rfl ?_
  refine Rn.icY K (q := 44) d19_7 (XT.ii_ge_t (by decide)) (by decide) (by decide) ?_
  refine Rn.iload K (q := 46) d19_44 rfl rfl ?_
  exact Rn.retI K rfl d19_46 (by decide) (by decide) ⟨rfl, f29, A27⟩
theorem m_nbl4 (l : Launch) (Z : State) (a0 : Array Value) (hw : oH Z a0) (n0 : Nat) (h0 : Heap)  (X0 : Old Z n0 h0) :
    Met l Z oM1 oC1 1 (some .int) (oR 0 0 0 0) n0 [] #[(.int (4 : Int32))] h0 (fun v h => v = some (.int (8 : Int32)) ∧ h0 = h) := by
  refine Met.intro (Ls := #[.val (.int (4 : Int32))]) (plainFor_of_name pn_m_cpr1_0) hw (fun _ => rfl) ?_
  intro w K0
  have K : oK1 w Z a0 := K0
  refine Rn.iloadN K (q := 1) d26_0 rfl rfl ?_
  refine Rn.ifY K (q := 12) d26_1 (XT.i0_ge_t (by decide)) (by decide) (by decide) ?_
  refine Rn.iloadN K (q := 13) d26_12 rfl rfl ?_
  refine Rn.ldcI K (q := 15) (1073741823 : Int32) (oT 136 rfl) d26_13 rfl ?_
  refine Rn.icY K (q := 55) d26_15 (XT.ii_lt_t (by decide)) (by decide) (by decide) ?_
  refine Rn.iloadN K (q := 56) d26_55 rfl rfl ?_
  refine Rn.iconst K (q := 57) (1 : Int32) d26_56 rfl rfl ?_
  refine Rn.ishl K (q := 58) d26_57 rfl ?_
  rw [show ((4 : Int32) <<< ((1 : Int32) &&& 31)) = (8 : Int32) from by decide]
  show Rn w l _ n0 _ 58 _ [(.int (8 : Int32))] h0 0 0
  exact Rn.retI K rfl d26_58 (by decide) (by decide) ⟨rfl, rfl⟩
theorem m_nbf4 (l : Launch) (Z : State) (a0 : Array Value) (hw : oH Z a0) (n0 : Nat) (h0 : Heap)  (X0 : Old Z n0 h0) :
    Met l Z oM2 oC2 1 (some (.array .byte)) (oR 1 1 8 12) n0 [] #[(.int (4 : Int32))] h0 (fun v h => ∃ b k, v = some (.ref b) ∧ h0.size ≤ b ∧ Keep h0 h [] ∧ Exa Z h b "[B" ∧ Arv Z h b k .byte (8 : Int32) [oZ, oZ, oZ, oZ, oZ, oZ, oZ, oZ] oZ) := by
  refine Met.intro (Ls := #[.val (.int (4 : Int32))]) (plainFor_of_name pn_m_cpr1_0) hw (fun _ => rfl) ?_
  intro w K0
  have K : oK2 w Z a0 := K0
  have K1 := Keep.refl h0 []
  refine Rn.iloadN K (q := 1) d25_0 rfl rfl ?_
  refine Rn.stat K (q := 4) (W := 0) (y := oM1) (argsL := [(.int (4 : Int32))]) (rest := []) (oT 133 rfl) (oT 134 rfl) (oT 135 rfl) (oT 102 rfl) (by decide) (m_nbl4 l Z a0 hw n0 h0 X0) (by decide) (by decide) rfl (lenOf pd_0 rfl) rfl (oL rfl) d25_1 rfl (by decide) (by decide) ?_
  rintro _ _ ⟨rfl, rfl⟩
  show Rn w l _ n0 _ 4 _ [(.int (8 : Int32))] h0 0 0
  refine Rn.newP K (q := 6) (cap := 8) (oT 21 rfl) (by decide) (by decide) (by decide) (by decide) (by decide) (ad := "[B") (by decide) d25_4 rfl ?_
  intro b1 h2 k4 gb1_ X3 A_b1 EA_b1
  have sz_b1 : h0.size ≤ b1 := by rw [gb1_]; exact K1.1
  have f6 := K1.ext X3
  replace A_b1 : Arv Z h2 b1 k4 .byte (8 : Int32) [oZ, oZ, oZ, oZ, oZ, oZ, oZ, oZ] oZ := A_b1.pad (pad_rep [] oZ 8)
  show Rn w l _ n0 _ 6 _ [(.ref b1)] h2 1 8
  exact Rn.retA K (.array .byte) rfl rfl rfl d25_6 (by decide) (by decide) ⟨_, _, rfl, sz_b1, f6, EA_b1, A_b1⟩
theorem m_put4_0 (l : Launch) (Z : State) (a0 : Array Value) (hw : oH Z a0) (n0 : Nat) (h0 : Heap) (b : Addr) (k : ClassId) (x y0 y1 y2 y3 y4 y5 y6 y7 : Int32) (X0 : Old Z n0 h0) (SA : oS0 Z) (SH : oS1 Z) (SW : oS2 Z) (Ab : Arv Z h0 b k .byte (8 : Int32) [(.int y0), (.int y1), (.int y2), (.int y3), (.int y4), (.int y5), (.int y6), (.int y7)] oZ) (gb : n0 ≤ b) :
    Met l Z oM3 oC3 3 none (oR 0 0 0 0) n0 [] #[(.ref b), oZ, (.int x)] h0 (fun v h => v = none ∧ Keep h0 h [b] ∧ Arv Z h b k .byte (8 : Int32) [(.int (oB0 x)), (.int (oB8 x)), (.int y2), (.int y3), (.int y4), (.int y5), (.int y6), (.int y7)] oZ) := by
  refine Met.intro (Ls := #[.val (.ref b), .val oZ, .val (.int x)]) (plainFor_of_name pn_m_cpr1_0) hw (fun _ => rfl) ?_
  intro w K0
  have K : oK3 w Z a0 := K0
  have K1 := Keep.refl h0 [b]
  refine Rn.getS K (q := 3) (oT 140 rfl) (SA.ext X0.2) d27_0 rfl ?_
  refine Rn.ifY K (q := 28) d27_3 (XT.i0_ne_t (by decide)) (by decide) (by decide) ?_
  refine Rn.iloadN K (q := 29) d27_28 rfl rfl ?_
  refine Rn.iconst K (q := 30) (1 : Int32) d27_29 rfl rfl ?_
  refine Rn.ishl K (q := 31) d27_30 rfl ?_
  rw [show ((0 : Int32) <<< ((1 : Int32) &&& 31)) = (0 : Int32) from by decide]
  show Rn w l _ n0 _ 31 _ [oZ] h0 0 0
  refine Rn.istoreN K (q := 32) (Ls' := #[.val (.ref b), .val oZ, .val (.int x)]) d27_31 rfl rfl ?_
  refine Rn.aloadN K (q := 33) d27_32 rfl rfl rfl ?_
  refine Rn.iloadN K (q := 34) d27_33 rfl rfl ?_
  refine Rn.iinc K (q := 37) (Ls' := #[.val (.ref b), .val (.int (1 : Int32)), .val (.int x)]) (1 : Int32) d27_34 rfl rfl rfl rfl ?_
  refine Rn.iloadN K (q := 38) d27_37 rfl rfl ?_
  refine Rn.getS K (q := 41) (oT 141 rfl) (SH.ext X0.2) d27_38 rfl ?_
  refine Rn.ishr K (q := 42) d27_41 rfl ?_
  refine Rn.i2b K (q := 43) d27_42 rfl ?_
  refine Rn.bastoreB K (q := 44) (i := 0) Ab (by decide) rfl (oL rfl) gb d27_43 rfl ?_
  intro h1 W2 A3
  have f4 := X0.wr W2 gb
  have f5 := K1.wr W2 (Or.inl (oT 0 rfl))
  replace A3 : Arv Z h1 b k .byte (8 : Int32) [(.int (oB0 x)), (.int y1), (.int y2), (.int y3), (.int y4), (.int y5), (.int y6), (.int y7)] oZ := A3
  refine Rn.aloadN K (q := 45) d27_44 rfl rfl rfl ?_
  refine Rn.iloadN K (q := 46) d27_45 rfl rfl ?_
  refine Rn.iloadN K (q := 47) d27_46 rfl rfl ?_
  refine Rn.getS K (q := 50) (oT 142 rfl) (SW.ext f4.2) d27_47 rfl ?_
  refine Rn.ishr K (q := 51) d27_50 rfl ?_
  refine Rn.i2b K (q := 52) d27_51 rfl ?_
  refine Rn.bastoreB K (q := 53) (i := 1) A3 (by decide) rfl (oL rfl) gb d27_52 rfl ?_
  intro h6 W7 A8
  have f10 := f5.wr W7 (Or.inl (oT 0 rfl))
  replace A8 : Arv Z h6 b k .byte (8 : Int32) [(.int (oB0 x)), (.int (oB8 x)), (.int y2), (.int y3), (.int y4), (.int y5), (.int y6), (.int y7)] oZ := A8
  exact Rn.retV K rfl d27_53 (by decide) (by decide) ⟨rfl, f10, A8⟩
theorem m_gch4_0 (l : Launch) (Z : State) (a0 : Array Value) (hw : oH Z a0) (n0 : Nat) (h0 : Heap) (b : Addr) (k : ClassId) (x0 x1 x2 x3 : Int32) (X0 : Old Z n0 h0) (SA : oS0 Z) (SH : oS1 Z) (SW : oS2 Z) (Ab : Arv Z h0 b k .byte (8 : Int32) [(.int (oB0 x0)), (.int (oB8 x0)), (.int (oB0 x1)), (.int (oB8 x1)), (.int (oB0 x2)), (.int (oB8 x2)), (.int (oB0 x3)), (.int (oB8 x3))] oZ) (cx : Chr x0) :
    Met l Z oM4 oC4 2 (some .char) (oR 0 0 0 0) n0 [] #[(.ref b), oZ] h0 (fun v h => v = some (.int x0) ∧ h0 = h) := by
  refine Met.intro (Ls := #[.val (.ref b), .val oZ]) (plainFor_of_name pn_m_cpr1_0) hw (fun _ => rfl) ?_
  intro w K0
  have K : oK4 w Z a0 := K0
  refine Rn.getS K (q := 3) (oT 140 rfl) (SA.ext X0.2) d28_0 rfl ?_
  refine Rn.ifY K (q := 28) d28_3 (XT.i0_ne_t (by decide)) (by decide) (by decide) ?_
  refine Rn.iloadN K (q := 29) d28_28 rfl rfl ?_
  refine Rn.iconst K (q := 30) (1 : Int32) d28_29 rfl rfl ?_
  refine Rn.ishl K (q := 31) d28_30 rfl ?_
  rw [show ((0 : Int32) <<< ((1 : Int32) &&& 31)) = (0 : Int32) from by decide]
  show Rn w l _ n0 _ 31 _ [oZ] h0 0 0
  refine Rn.istoreN K (q := 32) (Ls' := #[.val (.ref b), .val oZ]) d28_31 rfl rfl ?_
  refine Rn.aloadN K (q := 33) d28_32 rfl rfl rfl ?_
  refine Rn.iloadN K (q := 34) d28_33 rfl rfl ?_
  refine Rn.iinc K (q := 37) (Ls' := #[.val (.ref b), .val (.int (1 : Int32))]) (1 : Int32) d28_34 rfl rfl rfl rfl ?_
  refine Rn.baloadB K (q := 38) (v := (.int (oB0 x0))) Ab (by decide) rfl d28_37 rfl ?_
  refine Rn.sipush K (q := 41) (255 : Int32) d28_38 rfl rfl ?_
  refine Rn.iand K (q := 42) d28_41 rfl ?_
  refine Rn.getS K (q := 45) (oT 141 rfl) (SH.ext X0.2) d28_42 rfl ?_
  refine Rn.ishl K (q := 46) d28_45 rfl ?_
  refine Rn.aloadN K (q := 47) d28_46 rfl rfl rfl ?_
  refine Rn.iloadN K (q := 48) d28_47 rfl rfl ?_
  refine Rn.baloadB K (q := 49) (v := (.int (oB8 x0))) Ab (by decide) rfl d28_48 rfl ?_
  refine Rn.sipush K (q := 52) (255 : Int32) d28_49 rfl rfl ?_
  refine Rn.iand K (q := 53) d28_52 rfl ?_
  refine Rn.getS K (q := 56) (oT 142 rfl) (SW.ext X0.2) d28_53 rfl ?_
  refine Rn.ishl K (q := 57) d28_56 rfl ?_
  refine Rn.ior K (q := 58) d28_57 rfl ?_
  refine Rn.i2c K (q := 59) d28_58 rfl ?_
  exact Rn.retN K .char rfl (by simp) d28_59 (by decide) (by decide) ⟨by rw [own_gc cx], rfl⟩
theorem m_put4_1 (l : Launch) (Z : State) (a0 : Array Value) (hw : oH Z a0) (n0 : Nat) (h0 : Heap) (b : Addr) (k : ClassId) (x y0 y1 y2 y3 y4 y5 y6 y7 : Int32) (X0 : Old Z n0 h0) (SA : oS0 Z) (SH : oS1 Z) (SW : oS2 Z) (Ab : Arv Z h0 b k .byte (8 : Int32) [(.int y0), (.int y1), (.int y2), (.int y3), (.int y4), (.int y5), (.int y6), (.int y7)] oZ) (gb : n0 ≤ b) :
    Met l Z oM3 oC3 3 none (oR 0 0 0 0) n0 [] #[(.ref b), (.int (1 : Int32)), (.int x)] h0 (fun v h => v = none ∧ Keep h0 h [b] ∧ Arv Z h b k .byte (8 : Int32) [(.int y0), (.int y1), (.int (oB0 x)), (.int (oB8 x)), (.int y4), (.int y5), (.int y6), (.int y7)] oZ) := by
  refine Met.intro (Ls := #[.val (.ref b), .val (.int (1 : Int32)), .val (.int x)]) (plainFor_of_name pn_m_cpr1_0) hw (fun _ => rfl) ?_
  intro w K0
  have K : oK3 w Z a0 := K0
  have K1 := Keep.refl h0 [b]
  refine Rn.getS K (q := 3) (oT 140 rfl) (SA.ext X0.2) d27_0 rfl ?_
  refine Rn.ifY K (q := 28) d27_3 (XT.i0_ne_t (by decide)) (by decide) (by decide) ?_
  refine Rn.iloadN K (q := 29) d27_28 rfl rfl ?_
  refine Rn.iconst K (q := 30) (1 : Int32) d27_29 rfl rfl ?_
  refine Rn.ishl K (q := 31) d27_30 rfl ?_
  rw [show ((1 : Int32) <<< ((1 : Int32) &&& 31)) = (2 : Int32) from by decide]
  show Rn w l _ n0 _ 31 _ [(.int (2 : Int32))] h0 0 0
  refine Rn.istoreN K (q := 32) (Ls' := #[.val (.ref b), .val (.int (2 : Int32)), .val (.int x)]) d27_31 rfl rfl ?_
  refine Rn.aloadN K (q := 33) d27_32 rfl rfl rfl ?_
  refine Rn.iloadN K (q := 34) d27_33 rfl rfl ?_
  refine Rn.iinc K (q := 37) (Ls' := #[.val (.ref b), .val (.int (3 : Int32)), .val (.int x)]) (1 : Int32) d27_34 rfl rfl rfl rfl ?_
  refine Rn.iloadN K (q := 38) d27_37 rfl rfl ?_
  refine Rn.getS K (q := 41) (oT 141 rfl) (SH.ext X0.2) d27_38 rfl ?_
  refine Rn.ishr K (q := 42) d27_41 rfl ?_
  refine Rn.i2b K (q := 43) d27_42 rfl ?_
  refine Rn.bastoreB K (q := 44) (i := 2) Ab (by decide) rfl (oL rfl) gb d27_43 rfl ?_
  intro h1 W2 A3
  have f4 := X0.wr W2 gb
  have f5 := K1.wr W2 (Or.inl (oT 0 rfl))
  replace A3 : Arv Z h1 b k .byte (8 : Int32) [(.int y0), (.int y1), (.int (oB0 x)), (.int y3), (.int y4), (.int y5), (.int y6), (.int y7)] oZ := A3
  refine Rn.aloadN K (q := 45) d27_44 rfl rfl rfl ?_
  refine Rn.iloadN K (q := 46) d27_45 rfl rfl ?_
  refine Rn.iloadN K (q := 47) d27_46 rfl rfl ?_
  refine Rn.getS K (q := 50) (oT 142 rfl) (SW.ext f4.2) d27_47 rfl ?_
  refine Rn.ishr K (q := 51) d27_50 rfl ?_
  refine Rn.i2b K (q := 52) d27_51 rfl ?_
  refine Rn.bastoreB K (q := 53) (i := 3) A3 (by decide) rfl (oL rfl) gb d27_52 rfl ?_
  intro h6 W7 A8
  have f10 := f5.wr W7 (Or.inl (oT 0 rfl))
  replace A8 : Arv Z h6 b k .byte (8 : Int32) [(.int y0), (.int y1), (.int (oB0 x)), (.int (oB8 x)), (.int y4), (.int y5), (.int y6), (.int y7)] oZ := A8
  exact Rn.retV K rfl d27_53 (by decide) (by decide) ⟨rfl, f10, A8⟩
theorem m_gch4_1 (l : Launch) (Z : State) (a0 : Array Value) (hw : oH Z a0) (n0 : Nat) (h0 : Heap) (b : Addr) (k : ClassId) (x0 x1 x2 x3 : Int32) (X0 : Old Z n0 h0) (SA : oS0 Z) (SH : oS1 Z) (SW : oS2 Z) (Ab : Arv Z h0 b k .byte (8 : Int32) [(.int (oB0 x0)), (.int (oB8 x0)), (.int (oB0 x1)), (.int (oB8 x1)), (.int (oB0 x2)), (.int (oB8 x2)), (.int (oB0 x3)), (.int (oB8 x3))] oZ) (cx : Chr x1) :
    Met l Z oM4 oC4 2 (some .char) (oR 0 0 0 0) n0 [] #[(.ref b), (.int (1 : Int32))] h0 (fun v h => v = some (.int x1) ∧ h0 = h) := by
  refine Met.intro (Ls := #[.val (.ref b), .val (.int (1 : Int32))]) (plainFor_of_name pn_m_cpr1_0) hw (fun _ => rfl) ?_
  intro w K0
  have K : oK4 w Z a0 := K0
  refine Rn.getS K (q := 3) (oT 140 rfl) (SA.ext X0.2) d28_0 rfl ?_
  refine Rn.ifY K (q := 28) d28_3 (XT.i0_ne_t (by decide)) (by decide) (by decide) ?_
  refine Rn.iloadN K (q := 29) d28_28 rfl rfl ?_
  refine Rn.iconst K (q := 30) (1 : Int32) d28_29 rfl rfl ?_
  refine Rn.ishl K (q := 31) d28_30 rfl ?_
  rw [show ((1 : Int32) <<< ((1 : Int32) &&& 31)) = (2 : Int32) from by decide]
  show Rn w l _ n0 _ 31 _ [(.int (2 : Int32))] h0 0 0
  refine Rn.istoreN K (q := 32) (Ls' := #[.val (.ref b), .val (.int (2 : Int32))]) d28_31 rfl rfl ?_
  refine Rn.aloadN K (q := 33) d28_32 rfl rfl rfl ?_
  refine Rn.iloadN K (q := 34) d28_33 rfl rfl ?_
  refine Rn.iinc K (q := 37) (Ls' := #[.val (.ref b), .val (.int (3 : Int32))]) (1 : Int32) d28_34 rfl rfl rfl rfl ?_
  refine Rn.baloadB K (q := 38) (v := (.int (oB0 x1))) Ab (by decide) rfl d28_37 rfl ?_
  refine Rn.sipush K (q := 41) (255 : Int32) d28_38 rfl rfl ?_
  refine Rn.iand K (q := 42) d28_41 rfl ?_
  refine Rn.getS K (q := 45) (oT 141 rfl) (SH.ext X0.2) d28_42 rfl ?_
  refine Rn.ishl K (q := 46) d28_45 rfl ?_
  refine Rn.aloadN K (q := 47) d28_46 rfl rfl rfl ?_
  refine Rn.iloadN K (q := 48) d28_47 rfl rfl ?_
  refine Rn.baloadB K (q := 49) (v := (.int (oB8 x1))) Ab (by decide) rfl d28_48 rfl ?_
  refine Rn.sipush K (q := 52) (255 : Int32) d28_49 rfl rfl ?_
  refine Rn.iand K (q := 53) d28_52 rfl ?_
  refine Rn.getS K (q := 56) (oT 142 rfl) (SW.ext X0.2) d28_53 rfl ?_
  refine Rn.ishl K (q := 57) d28_56 rfl ?_
  refine Rn.ior K (q := 58) d28_57 rfl ?_
  refine Rn.i2c K (q := 59) d28_58 rfl ?_
  exact Rn.retN K .char rfl (by simp) d28_59 (by decide) (by decide) ⟨by rw [own_gc cx], rfl⟩
theorem m_put4_2 (l : Launch) (Z : State) (a0 : Array Value) (hw : oH Z a0) (n0 : Nat) (h0 : Heap) (b : Addr) (k : ClassId) (x y0 y1 y2 y3 y4 y5 y6 y7 : Int32) (X0 : Old Z n0 h0) (SA : oS0 Z) (SH : oS1 Z) (SW : oS2 Z) (Ab : Arv Z h0 b k .byte (8 : Int32) [(.int y0), (.int y1), (.int y2), (.int y3), (.int y4), (.int y5), (.int y6), (.int y7)] oZ) (gb : n0 ≤ b) :
    Met l Z oM3 oC3 3 none (oR 0 0 0 0) n0 [] #[(.ref b), (.int (2 : Int32)), (.int x)] h0 (fun v h => v = none ∧ Keep h0 h [b] ∧ Arv Z h b k .byte (8 : Int32) [(.int y0), (.int y1), (.int y2), (.int y3), (.int (oB0 x)), (.int (oB8 x)), (.int y6), (.int y7)] oZ) := by
  refine Met.intro (Ls := #[.val (.ref b), .val (.int (2 : Int32)), .val (.int x)]) (plainFor_of_name pn_m_cpr1_0) hw (fun _ => rfl) ?_
  intro w K0
  have K : oK3 w Z a0 := K0
  have K1 := Keep.refl h0 [b]
  refine Rn.getS K (q := 3) (oT 140 rfl) (SA.ext X0.2) d27_0 rfl ?_
  refine Rn.ifY K (q := 28) d27_3 (XT.i0_ne_t (by decide)) (by decide) (by decide) ?_
  refine Rn.iloadN K (q := 29) d27_28 rfl rfl ?_
  refine Rn.iconst K (q := 30) (1 : Int32) d27_29 rfl rfl ?_
  refine Rn.ishl K (q := 31) d27_30 rfl ?_
  rw [show ((2 : Int32) <<< ((1 : Int32) &&& 31)) = (4 : Int32) from by decide]
  show Rn w l _ n0 _ 31 _ [(.int (4 : Int32))] h0 0 0
  refine Rn.istoreN K (q := 32) (Ls' := #[.val (.ref b), .val (.int (4 : Int32)), .val (.int x)]) d27_31 rfl rfl ?_
  refine Rn.aloadN K (q := 33) d27_32 rfl rfl rfl ?_
  refine Rn.iloadN K (q := 34) d27_33 rfl rfl ?_
  refine Rn.iinc K (q := 37) (Ls' := #[.val (.ref b), .val (.int (5 : Int32)), .val (.int x)]) (1 : Int32) d27_34 rfl rfl rfl rfl ?_
  refine Rn.iloadN K (q := 38) d27_37 rfl rfl ?_
  refine Rn.getS K (q := 41) (oT 141 rfl) (SH.ext X0.2) d27_38 rfl ?_
  refine Rn.ishr K (q := 42) d27_41 rfl ?_
  refine Rn.i2b K (q := 43) d27_42 rfl ?_
  refine Rn.bastoreB K (q := 44) (i := 4) Ab (by decide) rfl (oL rfl) gb d27_43 rfl ?_
  intro h1 W2 A3
  have f4 := X0.wr W2 gb
  have f5 := K1.wr W2 (Or.inl (oT 0 rfl))
  replace A3 : Arv Z h1 b k .byte (8 : Int32) [(.int y0), (.int y1), (.int y2), (.int y3), (.int (oB0 x)), (.int y5), (.int y6), (.int y7)] oZ := A3
  refine Rn.aloadN K (q := 45) d27_44 rfl rfl rfl ?_
  refine Rn.iloadN K (q := 46) d27_45 rfl rfl ?_
  refine Rn.iloadN K (q := 47) d27_46 rfl rfl ?_
  refine Rn.getS K (q := 50) (oT 142 rfl) (SW.ext f4.2) d27_47 rfl ?_
  refine Rn.ishr K (q := 51) d27_50 rfl ?_
  refine Rn.i2b K (q := 52) d27_51 rfl ?_
  refine Rn.bastoreB K (q := 53) (i := 5) A3 (by decide) rfl (oL rfl) gb d27_52 rfl ?_
  intro h6 W7 A8
  have f10 := f5.wr W7 (Or.inl (oT 0 rfl))
  replace A8 : Arv Z h6 b k .byte (8 : Int32) [(.int y0), (.int y1), (.int y2), (.int y3), (.int (oB0 x)), (.int (oB8 x)), (.int y6), (.int y7)] oZ := A8
  exact Rn.retV K rfl d27_53 (by decide) (by decide) ⟨rfl, f10, A8⟩
theorem m_gch4_2 (l : Launch) (Z : State) (a0 : Array Value) (hw : oH Z a0) (n0 : Nat) (h0 : Heap) (b : Addr) (k : ClassId) (x0 x1 x2 x3 : Int32) (X0 : Old Z n0 h0) (SA : oS0 Z) (SH : oS1 Z) (SW : oS2 Z) (Ab : Arv Z h0 b k .byte (8 : Int32) [(.int (oB0 x0)), (.int (oB8 x0)), (.int (oB0 x1)), (.int (oB8 x1)), (.int (oB0 x2)), (.int (oB8 x2)), (.int (oB0 x3)), (.int (oB8 x3))] oZ) (cx : Chr x2) :
    Met l Z oM4 oC4 2 (some .char) (oR 0 0 0 0) n0 [] #[(.ref b), (.int (2 : Int32))] h0 (fun v h => v = some (.int x2) ∧ h0 = h) := by
  refine Met.intro (Ls := #[.val (.ref b), .val (.int (2 : Int32))]) (plainFor_of_name pn_m_cpr1_0) hw (fun _ => rfl) ?_
  intro w K0
  have K : oK4 w Z a0 := K0
  refine Rn.getS K (q := 3) (oT 140 rfl) (SA.ext X0.2) d28_0 rfl ?_
  refine Rn.ifY K (q := 28) d28_3 (XT.i0_ne_t (by decide)) (by decide) (by decide) ?_
  refine Rn.iloadN K (q := 29) d28_28 rfl rfl ?_
  refine Rn.iconst K (q := 30) (1 : Int32) d28_29 rfl rfl ?_
  refine Rn.ishl K (q := 31) d28_30 rfl ?_
  rw [show ((2 : Int32) <<< ((1 : Int32) &&& 31)) = (4 : Int32) from by decide]
  show Rn w l _ n0 _ 31 _ [(.int (4 : Int32))] h0 0 0
  refine Rn.istoreN K (q := 32) (Ls' := #[.val (.ref b), .val (.int (4 : Int32))]) d28_31 rfl rfl ?_
  refine Rn.aloadN K (q := 33) d28_32 rfl rfl rfl ?_
  refine Rn.iloadN K (q := 34) d28_33 rfl rfl ?_
  refine Rn.iinc K (q := 37) (Ls' := #[.val (.ref b), .val (.int (5 : Int32))]) (1 : Int32) d28_34 rfl rfl rfl rfl ?_
  refine Rn.baloadB K (q := 38) (v := (.int (oB0 x2))) Ab (by decide) rfl d28_37 rfl ?_
  refine Rn.sipush K (q := 41) (255 : Int32) d28_38 rfl rfl ?_
  refine Rn.iand K (q := 42) d28_41 rfl ?_
  refine Rn.getS K (q := 45) (oT 141 rfl) (SH.ext X0.2) d28_42 rfl ?_
  refine Rn.ishl K (q := 46) d28_45 rfl ?_
  refine Rn.aloadN K (q := 47) d28_46 rfl rfl rfl ?_
  refine Rn.iloadN K (q := 48) d28_47 rfl rfl ?_
  refine Rn.baloadB K (q := 49) (v := (.int (oB8 x2))) Ab (by decide) rfl d28_48 rfl ?_
  refine Rn.sipush K (q := 52) (255 : Int32) d28_49 rfl rfl ?_
  refine Rn.iand K (q := 53) d28_52 rfl ?_
  refine Rn.getS K (q := 56) (oT 142 rfl) (SW.ext X0.2) d28_53 rfl ?_
  refine Rn.ishl K (q := 57) d28_56 rfl ?_
  refine Rn.ior K (q := 58) d28_57 rfl ?_
  refine Rn.i2c K (q := 59) d28_58 rfl ?_
  exact Rn.retN K .char rfl (by simp) d28_59 (by decide) (by decide) ⟨by rw [own_gc cx], rfl⟩
theorem m_put4_3 (l : Launch) (Z : State) (a0 : Array Value) (hw : oH Z a0) (n0 : Nat) (h0 : Heap) (b : Addr) (k : ClassId) (x y0 y1 y2 y3 y4 y5 y6 y7 : Int32) (X0 : Old Z n0 h0) (SA : oS0 Z) (SH : oS1 Z) (SW : oS2 Z) (Ab : Arv Z h0 b k .byte (8 : Int32) [(.int y0), (.int y1), (.int y2), (.int y3), (.int y4), (.int y5), (.int y6), (.int y7)] oZ) (gb : n0 ≤ b) :
    Met l Z oM3 oC3 3 none (oR 0 0 0 0) n0 [] #[(.ref b), (.int (3 : Int32)), (.int x)] h0 (fun v h => v = none ∧ Keep h0 h [b] ∧ Arv Z h b k .byte (8 : Int32) [(.int y0), (.int y1), (.int y2), (.int y3), (.int y4), (.int y5), (.int (oB0 x)), (.int (oB8 x))] oZ) := by
  refine Met.intro (Ls := #[.val (.ref b), .val (.int (3 : Int32)), .val (.int x)]) (plainFor_of_name pn_m_cpr1_0) hw (fun _ => rfl) ?_
  intro w K0
  have K : oK3 w Z a0 := K0
  have K1 := Keep.refl h0 [b]
  refine Rn.getS K (q := 3) (oT 140 rfl) (SA.ext X0.2) d27_0 rfl ?_
  refine Rn.ifY K (q := 28) d27_3 (XT.i0_ne_t (by decide)) (by decide) (by decide) ?_
  refine Rn.iloadN K (q := 29) d27_28 rfl rfl ?_
  refine Rn.iconst K (q := 30) (1 : Int32) d27_29 rfl rfl ?_
  refine Rn.ishl K (q := 31) d27_30 rfl ?_
  rw [show ((3 : Int32) <<< ((1 : Int32) &&& 31)) = (6 : Int32) from by decide]
  show Rn w l _ n0 _ 31 _ [(.int (6 : Int32))] h0 0 0
  refine Rn.istoreN K (q := 32) (Ls' := #[.val (.ref b), .val (.int (6 : Int32)), .val (.int x)]) d27_31 rfl rfl ?_
  refine Rn.aloadN K (q := 33) d27_32 rfl rfl rfl ?_
  refine Rn.iloadN K (q := 34) d27_33 rfl rfl ?_
  refine Rn.iinc K (q := 37) (Ls' := #[.val (.ref b), .val (.int (7 : Int32)), .val (.int x)]) (1 : Int32) d27_34 rfl rfl rfl rfl ?_
  refine Rn.iloadN K (q := 38) d27_37 rfl rfl ?_
  refine Rn.getS K (q := 41) (oT 141 rfl) (SH.ext X0.2) d27_38 rfl ?_
  refine Rn.ishr K (q := 42) d27_41 rfl ?_
  refine Rn.i2b K (q := 43) d27_42 rfl ?_
  refine Rn.bastoreB K (q := 44) (i := 6) Ab (by decide) rfl (oL rfl) gb d27_43 rfl ?_
  intro h1 W2 A3
  have f4 := X0.wr W2 gb
  have f5 := K1.wr W2 (Or.inl (oT 0 rfl))
  replace A3 : Arv Z h1 b k .byte (8 : Int32) [(.int y0), (.int y1), (.int y2), (.int y3), (.int y4), (.int y5), (.int (oB0 x)), (.int y7)] oZ := A3
  refine Rn.aloadN K (q := 45) d27_44 rfl rfl rfl ?_
  refine Rn.iloadN K (q := 46) d27_45 rfl rfl ?_
  refine Rn.iloadN K (q := 47) d27_46 rfl rfl ?_
  refine Rn.getS K (q := 50) (oT 142 rfl) (SW.ext f4.2) d27_47 rfl ?_
  refine Rn.ishr K (q := 51) d27_50 rfl ?_
  refine Rn.i2b K (q := 52) d27_51 rfl ?_
  refine Rn.bastoreB K (q := 53) (i := 7) A3 (by decide) rfl (oL rfl) gb d27_52 rfl ?_
  intro h6 W7 A8
  have f10 := f5.wr W7 (Or.inl (oT 0 rfl))
  replace A8 : Arv Z h6 b k .byte (8 : Int32) [(.int y0), (.int y1), (.int y2), (.int y3), (.int y4), (.int y5), (.int (oB0 x)), (.int (oB8 x))] oZ := A8
  exact Rn.retV K rfl d27_53 (by decide) (by decide) ⟨rfl, f10, A8⟩
theorem m_gch4_3 (l : Launch) (Z : State) (a0 : Array Value) (hw : oH Z a0) (n0 : Nat) (h0 : Heap) (b : Addr) (k : ClassId) (x0 x1 x2 x3 : Int32) (X0 : Old Z n0 h0) (SA : oS0 Z) (SH : oS1 Z) (SW : oS2 Z) (Ab : Arv Z h0 b k .byte (8 : Int32) [(.int (oB0 x0)), (.int (oB8 x0)), (.int (oB0 x1)), (.int (oB8 x1)), (.int (oB0 x2)), (.int (oB8 x2)), (.int (oB0 x3)), (.int (oB8 x3))] oZ) (cx : Chr x3) :
    Met l Z oM4 oC4 2 (some .char) (oR 0 0 0 0) n0 [] #[(.ref b), (.int (3 : Int32))] h0 (fun v h => v = some (.int x3) ∧ h0 = h) := by
  refine Met.intro (Ls := #[.val (.ref b), .val (.int (3 : Int32))]) (plainFor_of_name pn_m_cpr1_0) hw (fun _ => rfl) ?_
  intro w K0
  have K : oK4 w Z a0 := K0
  refine Rn.getS K (q := 3) (oT 140 rfl) (SA.ext X0.2) d28_0 rfl ?_
  refine Rn.ifY K (q := 28) d28_3 (XT.i0_ne_t (by decide)) (by decide) (by decide) ?_
  refine Rn.iloadN K (q := 29) d28_28 rfl rfl ?_
  refine Rn.iconst K (q := 30) (1 : Int32) d28_29 rfl rfl ?_
  refine Rn.ishl K (q := 31) d28_30 rfl ?_
  rw [show ((3 : Int32) <<< ((1 : Int32) &&& 31)) = (6 : Int32) from by decide]
  show Rn w l _ n0 _ 31 _ [(.int (6 : Int32))] h0 0 0
  refine Rn.istoreN K (q := 32) (Ls' := #[.val (.ref b), .val (.int (6 : Int32))]) d28_31 rfl rfl ?_
  refine Rn.aloadN K (q := 33) d28_32 rfl rfl rfl ?_
  refine Rn.iloadN K (q := 34) d28_33 rfl rfl ?_
  refine Rn.iinc K (q := 37) (Ls' := #[.val (.ref b), .val (.int (7 : Int32))]) (1 : Int32) d28_34 rfl rfl rfl rfl ?_
  refine Rn.baloadB K (q := 38) (v := (.int (oB0 x3))) Ab (by decide) rfl d28_37 rfl ?_
  refine Rn.sipush K (q := 41) (255 : Int32) d28_38 rfl rfl ?_
  refine Rn.iand K (q := 42) d28_41 rfl ?_
  refine Rn.getS K (q := 45) (oT 141 rfl) (SH.ext X0.2) d28_42 rfl ?_
  refine Rn.ishl K (q := 46) d28_45 rfl ?_
  refine Rn.aloadN K (q := 47) d28_46 rfl rfl rfl ?_
  refine Rn.iloadN K (q := 48) d28_47 rfl rfl ?_
  refine Rn.baloadB K (q := 49) (v := (.int (oB8 x3))) Ab (by decide) rfl d28_48 rfl ?_
  refine Rn.sipush K (q := 52) (255 : Int32) d28_49 rfl rfl ?_
  refine Rn.iand K (q := 53) d28_52 rfl ?_
  refine Rn.getS K (q := 56) (oT 142 rfl) (SW.ext X0.2) d28_53 rfl ?_
  refine Rn.ishl K (q := 57) d28_56 rfl ?_
  refine Rn.ior K (q := 58) d28_57 rfl ?_
  refine Rn.i2c K (q := 59) d28_58 rfl ?_
  exact Rn.retN K .char rfl (by simp) d28_59 (by decide) (by decide) ⟨by rw [own_gc cx], rfl⟩
theorem m_tob4 (l : Launch) (Z : State) (a0 : Array Value) (hw : oH Z a0) (n0 : Nat) (h0 : Heap) (c : Addr) (kc : ClassId) (x0 x1 x2 x3 : Int32) (X0 : Old Z n0 h0) (SA : oS0 Z) (SH : oS1 Z) (SW : oS2 Z) (Ec : Exa Z h0 c "[C") (Ac : Arv Z h0 c kc .char (4 : Int32) [(.int x0), (.int x1), (.int x2), (.int x3)] oZ) :
    Met l Z oM5 oC5 5 (some (.array .byte)) (oR 2 1 8 24) n0 [] #[(.ref c), oZ, (.int (4 : Int32))] h0 (fun v h => ∃ b k, v = some (.ref b) ∧ h0.size ≤ b ∧ Keep h0 h [] ∧ Exa Z h b "[B" ∧ Arv Z h b k .byte (8 : Int32) [(.int (oB0 x0)), (.int (oB8 x0)), (.int (oB0 x1)), (.int (oB8 x1)), (.int (oB0 x2)), (.int (oB8 x2)), (.int (oB0 x3)), (.int (oB8 x3))] oZ) := by
  refine Met.intro (Ls := #[.val (.ref c), .val oZ, .val (.int (4 : Int32)), .unset, .unset]) (plainFor_of_name pn_m_cpr1_0) hw (fun _ => rfl) ?_
  intro w K0
  have K : oK5 w Z a0 := K0
  have K1 := Keep.refl h0 []
  refine Rn.iloadN K (q := 1) d24_0 rfl rfl ?_
  refine Rn.stat K (q := 4) (W := 0) (y := oM2) (argsL := [(.int (4 : Int32))]) (rest := []) (oT 130 rfl) (oT 131 rfl) (oT 132 rfl) (oT 102 rfl) (by decide) (m_nbf4 l Z a0 hw n0 h0 X0) (by decide) (by decide) rfl (lenOf pd_1 rfl) rfl (oL rfl) d24_1 rfl (by decide) (by decide) ?_
  rintro _ h1 ⟨b, k, rfl, sz, Kn, Eb, Ab⟩
  have f1 := X0.keep Kn all0
  have f2 := K1.trans Kn all0
  have f3 := Ec.keep Kn
  have f4 := Ac.keep Kn nin0
  show Rn w l _ n0 _ 4 _ [(.ref b)] h1 1 8
  refine Rn.astoreN K (q := 5) (Ls' := #[.val (.ref c), .val oZ, .val (.int (4 : Int32)), .val (.ref b), .unset]) d24_4 rfl rfl rfl ?_
  refine Rn.iconst K (q := 6) (0 : Int32) d24_5 rfl rfl ?_
  refine Rn.istore K (q := 8) (Ls' := #[.val (.ref c), .val oZ, .val (.int (4 : Int32)), .val (.ref b), .val oZ]) d24_6 rfl rfl ?_
  refine Rn.iload K (q := 10) d24_8 rfl rfl ?_
  refine Rn.iloadN K (q := 11) d24_10 rfl rfl ?_
  refine Rn.icN K (q := 14) d24_11 (XT.ii_ge_f (by decide)) rfl ?_
  refine Rn.aloadN K (q := 15) d24_14 rfl rfl rfl ?_
  refine Rn.iload K (q := 17) d24_15 rfl rfl ?_
  refine Rn.aloadN K (q := 18) d24_17 rfl rfl rfl ?_
  refine Rn.iloadN K (q := 19) d24_18 rfl rfl ?_
  refine Rn.caload K (q := 20) (v := (.int x0)) f4 (by decide) rfl d24_19 rfl ?_
  refine Rn.stat K (q := 23) (W := 0) (y := oM3) (argsL := [(.ref b), oZ, (.int x0)]) (rest := []) (oT 137 rfl) (oT 138 rfl) (oT 139 rfl) (oT 102 rfl) (by decide) (m_put4_0 l Z a0 hw n0 h1 b k x0 (0 : Int32) (0 : Int32) (0 : Int32) (0 : Int32) (0 : Int32) (0 : Int32) (0 : Int32) (0 : Int32) f1 SA SH SW Ab (own_g X0 sz)) (by decide) (by decide) rfl (lenOf pd_2 rfl) rfl (oL rfl) d24_20 rfl (by decide) (by decide) ?_
  rintro _ h5 ⟨rfl, K6, A7⟩
  have f8 := f1.keep K6 (allS (own_g X0 sz) all0)
  have f9 := f2.trans K6 (allS (Or.inr sz) all0)
  have f10 := f3.keep K6
  have f11 := f4.keep K6 (ninS (ne_exa f3 Eb (by decide)) nin0)
  have f12 := Eb.keep K6
  show Rn w l _ n0 _ 23 _ [] h5 1 8
  refine Rn.iinc K (q := 26) (Ls' := #[.val (.ref c), .val (.int (1 : Int32)), .val (.int (4 : Int32)), .val (.ref b), .val oZ]) (1 : Int32) d24_23 rfl rfl rfl rfl ?_
  refine Rn.iinc K (q := 29) (Ls' := #[.val (.ref c), .val (.int (1 : Int32)), .val (.int (4 : Int32)), .val (.ref b), .val (.int (1 : Int32))]) (1 : Int32) d24_26 rfl rfl rfl rfl ?_
  refine Rn.goto K (q := 8) d24_29 (by decide) (by decide) ?_
  refine Rn.iload K (q := 10) d24_8 rfl rfl ?_
  refine Rn.iloadN K (q := 11) d24_10 rfl rfl ?_
  refine Rn.icN K (q := 14) d24_11 (XT.ii_ge_f (by decide)) rfl ?_
  refine Rn.aloadN K (q := 15) d24_14 rfl rfl rfl ?_
  refine Rn.iload K (q := 17) d24_15 rfl rfl ?_
  refine Rn.aloadN K (q := 18) d24_17 rfl rfl rfl ?_
  refine Rn.iloadN K (q := 19) d24_18 rfl rfl ?_
  refine Rn.caload K (q := 20) (v := (.int x1)) f11 (by decide) rfl d24_19 rfl ?_
  refine Rn.stat K (q := 23) (W := 0) (y := oM3) (argsL := [(.ref b), (.int (1 : Int32)), (.int x1)]) (rest := []) (oT 137 rfl) (oT 138 rfl) (oT 139 rfl) (oT 102 rfl) (by decide) (m_put4_1 l Z a0 hw n0 h5 b k x1 (oB0 x0) (oB8 x0) (0 : Int32) (0 : Int32) (0 : Int32) (0 : Int32) (0 : Int32) (0 : Int32) f8 SA SH SW A7 (own_g X0 sz)) (by decide) (by decide) rfl (lenOf pd_2 rfl) rfl (oL rfl) d24_20 rfl (by decide) (by decide) ?_
  rintro _ h13 ⟨rfl, K14, A15⟩
  have f16 := f8.keep K14 (allS (own_g X0 sz) all0)
  have f17 := f9.trans K14 (allS (Or.inr sz) all0)
  have f18 := f10.keep K14
  have f19 := f11.keep K14 (ninS (ne_exa f10 f12 (by decide)) nin0)
  have f20 := f12.keep K14
  show Rn w l _ n0 _ 23 _ [] h13 1 8
  refine Rn.iinc K (q := 26) (Ls' := #[.val (.ref c), .val (.int (2 : Int32)), .val (.int (4 : Int32)), .val (.ref b), .val (.int (1 : Int32))]) (1 : Int32) d24_23 rfl rfl rfl rfl ?_
  refine Rn.iinc K (q := 29) (Ls' := #[.val (.ref c), .val (.int (2 : Int32)), .val (.int (4 : Int32)), .val (.ref b), .val (.int (2 : Int32))]) (1 : Int32) d24_26 rfl rfl rfl rfl ?_
  refine Rn.goto K (q := 8) d24_29 (by decide) (by decide) ?_
  refine Rn.iload K (q := 10) d24_8 rfl rfl ?_
  refine Rn.iloadN K (q := 11) d24_10 rfl rfl ?_
  refine Rn.icN K (q := 14) d24_11 (XT.ii_ge_f (by decide)) rfl ?_
  refine Rn.aloadN K (q := 15) d24_14 rfl rfl rfl ?_
  refine Rn.iload K (q := 17) d24_15 rfl rfl ?_
  refine Rn.aloadN K (q := 18) d24_17 rfl rfl rfl ?_
  refine Rn.iloadN K (q := 19) d24_18 rfl rfl ?_
  refine Rn.caload K (q := 20) (v := (.int x2)) f19 (by decide) rfl d24_19 rfl ?_
  refine Rn.stat K (q := 23) (W := 0) (y := oM3) (argsL := [(.ref b), (.int (2 : Int32)), (.int x2)]) (rest := []) (oT 137 rfl) (oT 138 rfl) (oT 139 rfl) (oT 102 rfl) (by decide) (m_put4_2 l Z a0 hw n0 h13 b k x2 (oB0 x0) (oB8 x0) (oB0 x1) (oB8 x1) (0 : Int32) (0 : Int32) (0 : Int32) (0 : Int32) f16 SA SH SW A15 (own_g X0 sz)) (by decide) (by decide) rfl (lenOf pd_2 rfl) rfl (oL rfl) d24_20 rfl (by decide) (by decide) ?_
  rintro _ h21 ⟨rfl, K22, A23⟩
  have f24 := f16.keep K22 (allS (own_g X0 sz) all0)
  have f25 := f17.trans K22 (allS (Or.inr sz) all0)
  have f27 := f19.keep K22 (ninS (ne_exa f18 f20 (by decide)) nin0)
  have f28 := f20.keep K22
  show Rn w l _ n0 _ 23 _ [] h21 1 8
  refine Rn.iinc K (q := 26) (Ls' := #[.val (.ref c), .val (.int (3 : Int32)), .val (.int (4 : Int32)), .val (.ref b), .val (.int (2 : Int32))]) (1 : Int32) d24_23 rfl rfl rfl rfl ?_
  refine Rn.iinc K (q := 29) (Ls' := #[.val (.ref c), .val (.int (3 : Int32)), .val (.int (4 : Int32)), .val (.ref b), .val (.int (3 : Int32))]) (1 : Int32) d24_26 rfl rfl rfl rfl ?_
  refine Rn.goto K (q := 8) d24_29 (by decide) (by decide) ?_
  refine Rn.iload K (q := 10) d24_8 rfl rfl ?_
  refine Rn.iloadN K (q := 11) d24_10 rfl rfl ?_
  refine Rn.icN K (q := 14) d24_11 (XT.ii_ge_f (by decide)) rfl ?_
  refine Rn.aloadN K (q := 15) d24_14 rfl rfl rfl ?_
  refine Rn.iload K (q := 17) d24_15 rfl rfl ?_
  refine Rn.aloadN K (q := 18) d24_17 rfl rfl rfl ?_
  refine Rn.iloadN K (q := 19) d24_18 rfl rfl ?_
  refine Rn.caload K (q := 20) (v := (.int x3)) f27 (by decide) rfl d24_19 rfl ?_
  refine Rn.stat K (q := 23) (W := 0) (y := oM3) (argsL := [(.ref b), (.int (3 : Int32)), (.int x3)]) (rest := []) (oT 137 rfl) (oT 138 rfl) (oT 139 rfl) (oT 102 rfl) (by decide) (m_put4_3 l Z a0 hw n0 h21 b k x3 (oB0 x0) (oB8 x0) (oB0 x1) (oB8 x1) (oB0 x2) (oB8 x2) (0 : Int32) (0 : Int32) f24 SA SH SW A23 (own_g X0 sz)) (by decide) (by decide) rfl (lenOf pd_2 rfl) rfl (oL rfl) d24_20 rfl (by decide) (by decide) ?_
  rintro _ h29 ⟨rfl, K30, A31⟩
  have f33 := f25.trans K30 (allS (Or.inr sz) all0)
  have f36 := f28.keep K30
  show Rn w l _ n0 _ 23 _ [] h29 1 8
  refine Rn.iinc K (q := 26) (Ls' := #[.val (.ref c), .val (.int (4 : Int32)), .val (.int (4 : Int32)), .val (.ref b), .val (.int (3 : Int32))]) (1 : Int32) d24_23 rfl rfl rfl rfl ?_
  refine Rn.iinc K (q := 29) (Ls' := #[.val (.ref c), .val (.int (4 : Int32)), .val (.int (4 : Int32)), .val (.ref b), .val (.int (4 : Int32))]) (1 : Int32) d24_26 rfl rfl rfl rfl ?_
  refine Rn.goto K (q := 8) d24_29 (by decide) (by decide) ?_
  refine Rn.iload K (q := 10) d24_8 rfl rfl ?_
  refine Rn.iloadN K (q := 11) d24_10 rfl rfl ?_
  refine Rn.icY K (q := 32) d24_11 (XT.ii_ge_t (by decide)) (by decide) (by decide) ?_
  refine Rn.aloadN K (q := 33) d24_32 rfl rfl rfl ?_
  exact Rn.retA K (.array .byte) rfl rfl rfl d24_33 (by decide) (by decide) ⟨_, _, rfl, sz, f33, f36, A31⟩
theorem m_cp4_0 (l : Launch) (Z : State) (a0 : Array Value) (hw : oH Z a0) (n0 : Nat) (h0 : Heap) (c : Addr) (kc : ClassId) (x0 x1 x2 x3 : Int32) (X0 : Old Z n0 h0) (SA : oS0 Z) (SH : oS1 Z) (SW : oS2 Z) (Ec : Exa Z h0 c "[C") (Ac : Arv Z h0 c kc .char (4 : Int32) [(.int x0), (.int x1), (.int x2), (.int x3)] oZ) (cx0 : Chr x0) (cx1 : Chr x1) (cx2 : Chr x2) (cx3 : Chr x3) (bx : (255 : Int32) < x0) :
    Met l Z oM6 oC6 6 (some (.array .byte)) (oR 3 2 12 40) n0 [] #[(.ref c), oZ, (.int (4 : Int32))] h0 (fun v h => ∃ b k, v = some (.ref b) ∧ Keep h0 h [] ∧ Exa Z h b "[B" ∧ Arv Z h b k .byte (8 : Int32) [(.int (oB0 x0)), (.int (oB8 x0)), (.int (oB0 x1)), (.int (oB8 x1)), (.int (oB0 x2)), (.int (oB8 x2)), (.int (oB0 x3)), (.int (oB8 x3))] oZ) := by
  refine Met.intro (Ls := #[.val (.ref c), .val oZ, .val (.int (4 : Int32)), .unset, .unset, .unset]) (plainFor_of_name pn_m_cpr1_0) hw (fun _ => rfl) ?_
  intro w K0
  have K : oK6 w Z a0 := K0
  have K1 := Keep.refl h0 []
  refine Rn.iloadN K (q := 1) d18_0 rfl rfl ?_
  refine Rn.newP K (q := 3) (cap := 4) (oT 21 rfl) (by decide) (by decide) (by decide) (by decide) (by decide) (ad := "[B") (by decide) d18_1 rfl ?_
  intro b1 h2 k4 gb1_ X3 A_b1 EA_b1
  have ne_c_b1 : c ≠ b1 := fun e => absurd Ec.lt (by rw [e, gb1_]; exact Nat.lt_irrefl _)
  have ne_c_b1 : c ≠ b1 := fun e => absurd Ec.lt (by rw [e, gb1_]; exact Nat.lt_irrefl _)
  have g_b1 : n0 ≤ b1 := by rw [gb1_]; exact X0.1 ▸ X0.2.1
  have sz_b1 : h0.size ≤ b1 := by rw [gb1_]; exact K1.1
  have f5 := X0.ext X3
  have f6 := K1.ext X3
  have f7 := Ec.ext X3
  have f8 := Ac.ext X3
  replace A_b1 : Arv Z h2 b1 k4 .byte (4 : Int32) [oZ, oZ, oZ, oZ] oZ := A_b1.pad (pad_rep [] oZ 4)
  show Rn w l _ n0 _ 3 _ [(.ref b1)] h2 1 4
  refine Rn.astoreN K (q := 4) (Ls' := #[.val (.ref c), .val oZ, .val (.int (4 : Int32)), .val (.ref b1), .unset, .unset]) d18_3 rfl rfl rfl ?_
  refine Rn.aloadN K (q := 5) d18_4 rfl rfl rfl ?_
  refine Rn.iloadN K (q := 6) d18_5 rfl rfl ?_
  refine Rn.aloadN K (q := 7) d18_6 rfl rfl rfl ?_
  refine Rn.iconst K (q := 8) (0 : Int32) d18_7 rfl rfl ?_
  refine Rn.iloadN K (q := 9) d18_8 rfl rfl ?_
  refine Rn.stat K (q := 12) (W := 0) (y := oM0) (argsL := [(.ref c), oZ, (.ref b1), oZ, (.int (4 : Int32))]) (rest := []) (oT 104 rfl) (oT 105 rfl) (oT 106 rfl) (oT 102 rfl) (by decide) (m_cpr4_0 l Z a0 hw n0 h2 c b1 kc k4 x0 x1 x2 x3 f5 f7 f8 EA_b1 A_b1 g_b1 bx) (by decide) (by decide) rfl (lenOf pd_3 rfl) rfl (oL rfl) d18_9 rfl (by decide) (by decide) ?_
  rintro _ h9 ⟨rfl, K10⟩
  have f12 := f5.keep K10 (allS g_b1 all0)
  have f13 := f6.trans K10 (allS (Or.inr sz_b1) all0)
  have f14 := f7.keep K10
  have f15 := f8.keep K10 (ninS ne_c_b1 nin0)
  show Rn w l _ n0 _ 12 _ [oZ] h9 1 4
  refine Rn.istore K (q := 14) (Ls' := #[.val (.ref c), .val oZ, .val (.int (4 : Int32)), .val (.ref b1), .val oZ, .unset]) d18_12 rfl rfl ?_
  refine Rn.iload K (q := 16) d18_14 rfl rfl ?_
  refine Rn.iloadN K (q := 17) d18_16 rfl rfl ?_
  refine Rn.icN K (q := 20) d18_17 (XT.ii_eq_f (by decide)) rfl ?_
  refine Rn.aloadN K (q := 21) d18_20 rfl rfl rfl ?_
  refine Rn.iloadN K (q := 22) d18_21 rfl rfl ?_
  refine Rn.iloadN K (q := 23) d18_22 rfl rfl ?_
  refine Rn.stat K (q := 26) (W := 0) (y := oM5) (argsL := [(.ref c), oZ, (.int (4 : Int32))]) (rest := []) (oT 127 rfl) (oT 128 rfl) (oT 129 rfl) (oT 102 rfl) (by decide) (m_tob4 l Z a0 hw n0 h9 c kc x0 x1 x2 x3 f12 SA SH SW f14 f15) (by decide) (by decide) rfl (lenOf pd_4 rfl) rfl (oL rfl) d18_23 rfl (by decide) (by decide) ?_
  rintro _ h17 ⟨u, ku, rfl, -, K18, E19, A20⟩
  have f21 := f12.keep K18 all0
  have f22 := f13.trans K18 all0
  show Rn w l _ n0 _ 26 _ [(.ref u)] h17 2 12
  refine Rn.astore K (q := 28) (Ls' := #[.val (.ref c), .val oZ, .val (.int (4 : Int32)), .val (.ref b1), .val oZ, .val (.ref u)]) d18_26 rfl rfl rfl ?_
  refine Rn.aload K (q := 30) d18_28 rfl rfl rfl ?_
  refine Rn.iload K (q := 32) d18_30 rfl rfl ?_
  refine Rn.stat K (q := 35) (W := 0) (y := oM4) (argsL := [(.ref u), oZ]) (rest := []) (oT 143 rfl) (oT 144 rfl) (oT 145 rfl) (oT 102 rfl) (by decide) (m_gch4_0 l Z a0 hw n0 h17 u ku x0 x1 x2 x3 f21 SA SH SW A20 cx0) (by decide) (by decide) rfl (lenOf pd_5 rfl) rfl (oL rfl) d18_32 rfl (by decide) (by decide) ?_
  rintro _ _ ⟨rfl, rfl⟩
  show Rn w l _ n0 _ 35 _ [(.int x0)] h17 2 12
  refine Rn.sipush K (q := 38) (255 : Int32) d18_35 rfl rfl ?_
  refine Rn.icY K (q := 54) d18_38 (XT.ii_gt_t bx) (by decide) (by decide) ?_
  refine Rn.aload K (q := 56) d18_54 rfl rfl rfl ?_
  exact Rn.retA K (.array .byte) rfl rfl rfl d18_56 (by decide) (by decide) ⟨_, _, rfl, f22, E19, A20⟩
theorem m_cp4_1 (l : Launch) (Z : State) (a0 : Array Value) (hw : oH Z a0) (n0 : Nat) (h0 : Heap) (c : Addr) (kc : ClassId) (x0 x1 x2 x3 : Int32) (X0 : Old Z n0 h0) (SA : oS0 Z) (SH : oS1 Z) (SW : oS2 Z) (Ec : Exa Z h0 c "[C") (Ac : Arv Z h0 c kc .char (4 : Int32) [(.int x0), (.int x1), (.int x2), (.int x3)] oZ) (cx0 : Chr x0) (cx1 : Chr x1) (cx2 : Chr x2) (cx3 : Chr x3) (hx0 : ¬ (255 : Int32) < x0) (bx : (255 : Int32) < x1) :
    Met l Z oM6 oC6 6 (some (.array .byte)) (oR 3 2 12 40) n0 [] #[(.ref c), oZ, (.int (4 : Int32))] h0 (fun v h => ∃ b k, v = some (.ref b) ∧ Keep h0 h [] ∧ Exa Z h b "[B" ∧ Arv Z h b k .byte (8 : Int32) [(.int (oB0 x0)), (.int (oB8 x0)), (.int (oB0 x1)), (.int (oB8 x1)), (.int (oB0 x2)), (.int (oB8 x2)), (.int (oB0 x3)), (.int (oB8 x3))] oZ) := by
  refine Met.intro (Ls := #[.val (.ref c), .val oZ, .val (.int (4 : Int32)), .unset, .unset, .unset]) (plainFor_of_name pn_m_cpr1_0) hw (fun _ => rfl) ?_
  intro w K0
  have K : oK6 w Z a0 := K0
  have K1 := Keep.refl h0 []
  refine Rn.iloadN K (q := 1) d18_0 rfl rfl ?_
  refine Rn.newP K (q := 3) (cap := 4) (oT 21 rfl) (by decide) (by decide) (by decide) (by decide) (by decide) (ad := "[B") (by decide) d18_1 rfl ?_
  intro b1 h2 k4 gb1_ X3 A_b1 EA_b1
  have ne_c_b1 : c ≠ b1 := fun e => absurd Ec.lt (by rw [e, gb1_]; exact Nat.lt_irrefl _)
  have ne_c_b1 : c ≠ b1 := fun e => absurd Ec.lt (by rw [e, gb1_]; exact Nat.lt_irrefl _)
  have g_b1 : n0 ≤ b1 := by rw [gb1_]; exact X0.1 ▸ X0.2.1
  have sz_b1 : h0.size ≤ b1 := by rw [gb1_]; exact K1.1
  have f5 := X0.ext X3
  have f6 := K1.ext X3
  have f7 := Ec.ext X3
  have f8 := Ac.ext X3
  replace A_b1 : Arv Z h2 b1 k4 .byte (4 : Int32) [oZ, oZ, oZ, oZ] oZ := A_b1.pad (pad_rep [] oZ 4)
  show Rn w l _ n0 _ 3 _ [(.ref b1)] h2 1 4
  refine Rn.astoreN K (q := 4) (Ls' := #[.val (.ref c), .val oZ, .val (.int (4 : Int32)), .val (.ref b1), .unset, .unset]) d18_3 rfl rfl rfl ?_
  refine Rn.aloadN K (q := 5) d18_4 rfl rfl rfl ?_
  refine Rn.iloadN K (q := 6) d18_5 rfl rfl ?_
  refine Rn.aloadN K (q := 7) d18_6 rfl rfl rfl ?_
  refine Rn.iconst K (q := 8) (0 : Int32) d18_7 rfl rfl ?_
  refine Rn.iloadN K (q := 9) d18_8 rfl rfl ?_
  refine Rn.stat K (q := 12) (W := 0) (y := oM0) (argsL := [(.ref c), oZ, (.ref b1), oZ, (.int (4 : Int32))]) (rest := []) (oT 104 rfl) (oT 105 rfl) (oT 106 rfl) (oT 102 rfl) (by decide) (m_cpr4_1 l Z a0 hw n0 h2 c b1 kc k4 x0 x1 x2 x3 f5 f7 f8 EA_b1 A_b1 g_b1 hx0 bx) (by decide) (by decide) rfl (lenOf pd_3 rfl) rfl (oL rfl) d18_9 rfl (by decide) (by decide) ?_
  rintro _ h9 ⟨rfl, K10⟩
  have f12 := f5.keep K10 (allS g_b1 all0)
  have f13 := f6.trans K10 (allS (Or.inr sz_b1) all0)
  have f14 := f7.keep K10
  have f15 := f8.keep K10 (ninS ne_c_b1 nin0)
  show Rn w l _ n0 _ 12 _ [(.int (1 : Int32))] h9 1 4
  refine Rn.istore K (q := 14) (Ls' := #[.val (.ref c), .val oZ, .val (.int (4 : Int32)), .val (.ref b1), .val (.int (1 : Int32)), .unset]) d18_12 rfl rfl ?_
  refine Rn.iload K (q := 16) d18_14 rfl rfl ?_
  refine Rn.iloadN K (q := 17) d18_16 rfl rfl ?_
  refine Rn.icN K (q := 20) d18_17 (XT.ii_eq_f (by decide)) rfl ?_
  refine Rn.aloadN K (q := 21) d18_20 rfl rfl rfl ?_
  refine Rn.iloadN K (q := 22) d18_21 rfl rfl ?_
  refine Rn.iloadN K (q := 23) d18_22 rfl rfl ?_
  refine Rn.stat K (q := 26) (W := 0) (y := oM5) (argsL := [(.ref c), oZ, (.int (4 : Int32))]) (rest := []) (oT 127 rfl) (oT 128 rfl) (oT 129 rfl) (oT 102 rfl) (by decide) (m_tob4 l Z a0 hw n0 h9 c kc x0 x1 x2 x3 f12 SA SH SW f14 f15) (by decide) (by decide) rfl (lenOf pd_4 rfl) rfl (oL rfl) d18_23 rfl (by decide) (by decide) ?_
  rintro _ h17 ⟨u, ku, rfl, -, K18, E19, A20⟩
  have f21 := f12.keep K18 all0
  have f22 := f13.trans K18 all0
  show Rn w l _ n0 _ 26 _ [(.ref u)] h17 2 12
  refine Rn.astore K (q := 28) (Ls' := #[.val (.ref c), .val oZ, .val (.int (4 : Int32)), .val (.ref b1), .val (.int (1 : Int32)), .val (.ref u)]) d18_26 rfl rfl rfl ?_
  refine Rn.aload K (q := 30) d18_28 rfl rfl rfl ?_
  refine Rn.iload K (q := 32) d18_30 rfl rfl ?_
  refine Rn.stat K (q := 35) (W := 0) (y := oM4) (argsL := [(.ref u), (.int (1 : Int32))]) (rest := []) (oT 143 rfl) (oT 144 rfl) (oT 145 rfl) (oT 102 rfl) (by decide) (m_gch4_1 l Z a0 hw n0 h17 u ku x0 x1 x2 x3 f21 SA SH SW A20 cx1) (by decide) (by decide) rfl (lenOf pd_5 rfl) rfl (oL rfl) d18_32 rfl (by decide) (by decide) ?_
  rintro _ _ ⟨rfl, rfl⟩
  show Rn w l _ n0 _ 35 _ [(.int x1)] h17 2 12
  refine Rn.sipush K (q := 38) (255 : Int32) d18_35 rfl rfl ?_
  refine Rn.icY K (q := 54) d18_38 (XT.ii_gt_t bx) (by decide) (by decide) ?_
  refine Rn.aload K (q := 56) d18_54 rfl rfl rfl ?_
  exact Rn.retA K (.array .byte) rfl rfl rfl d18_56 (by decide) (by decide) ⟨_, _, rfl, f22, E19, A20⟩
theorem m_cp4_2 (l : Launch) (Z : State) (a0 : Array Value) (hw : oH Z a0) (n0 : Nat) (h0 : Heap) (c : Addr) (kc : ClassId) (x0 x1 x2 x3 : Int32) (X0 : Old Z n0 h0) (SA : oS0 Z) (SH : oS1 Z) (SW : oS2 Z) (Ec : Exa Z h0 c "[C") (Ac : Arv Z h0 c kc .char (4 : Int32) [(.int x0), (.int x1), (.int x2), (.int x3)] oZ) (cx0 : Chr x0) (cx1 : Chr x1) (cx2 : Chr x2) (cx3 : Chr x3) (hx0 : ¬ (255 : Int32) < x0) (hx1 : ¬ (255 : Int32) < x1) (bx : (255 : Int32) < x2) :
    Met l Z oM6 oC6 6 (some (.array .byte)) (oR 3 2 12 40) n0 [] #[(.ref c), oZ, (.int (4 : Int32))] h0 (fun v h => ∃ b k, v = some (.ref b) ∧ Keep h0 h [] ∧ Exa Z h b "[B" ∧ Arv Z h b k .byte (8 : Int32) [(.int (oB0 x0)), (.int (oB8 x0)), (.int (oB0 x1)), (.int (oB8 x1)), (.int (oB0 x2)), (.int (oB8 x2)), (.int (oB0 x3)), (.int (oB8 x3))] oZ) := by
  refine Met.intro (Ls := #[.val (.ref c), .val oZ, .val (.int (4 : Int32)), .unset, .unset, .unset]) (plainFor_of_name pn_m_cpr1_0) hw (fun _ => rfl) ?_
  intro w K0
  have K : oK6 w Z a0 := K0
  have K1 := Keep.refl h0 []
  refine Rn.iloadN K (q := 1) d18_0 rfl rfl ?_
  refine Rn.newP K (q := 3) (cap := 4) (oT 21 rfl) (by decide) (by decide) (by decide) (by decide) (by decide) (ad := "[B") (by decide) d18_1 rfl ?_
  intro b1 h2 k4 gb1_ X3 A_b1 EA_b1
  have ne_c_b1 : c ≠ b1 := fun e => absurd Ec.lt (by rw [e, gb1_]; exact Nat.lt_irrefl _)
  have ne_c_b1 : c ≠ b1 := fun e => absurd Ec.lt (by rw [e, gb1_]; exact Nat.lt_irrefl _)
  have g_b1 : n0 ≤ b1 := by rw [gb1_]; exact X0.1 ▸ X0.2.1
  have sz_b1 : h0.size ≤ b1 := by rw [gb1_]; exact K1.1
  have f5 := X0.ext X3
  have f6 := K1.ext X3
  have f7 := Ec.ext X3
  have f8 := Ac.ext X3
  replace A_b1 : Arv Z h2 b1 k4 .byte (4 : Int32) [oZ, oZ, oZ, oZ] oZ := A_b1.pad (pad_rep [] oZ 4)
  show Rn w l _ n0 _ 3 _ [(.ref b1)] h2 1 4
  refine Rn.astoreN K (q := 4) (Ls' := #[.val (.ref c), .val oZ, .val (.int (4 : Int32)), .val (.ref b1), .unset, .unset]) d18_3 rfl rfl rfl ?_
  refine Rn.aloadN K (q := 5) d18_4 rfl rfl rfl ?_
  refine Rn.iloadN K (q := 6) d18_5 rfl rfl ?_
  refine Rn.aloadN K (q := 7) d18_6 rfl rfl rfl ?_
  refine Rn.iconst K (q := 8) (0 : Int32) d18_7 rfl rfl ?_
  refine Rn.iloadN K (q := 9) d18_8 rfl rfl ?_
  refine Rn.stat K (q := 12) (W := 0) (y := oM0) (argsL := [(.ref c), oZ, (.ref b1), oZ, (.int (4 : Int32))]) (rest := []) (oT 104 rfl) (oT 105 rfl) (oT 106 rfl) (oT 102 rfl) (by decide) (m_cpr4_2 l Z a0 hw n0 h2 c b1 kc k4 x0 x1 x2 x3 f5 f7 f8 EA_b1 A_b1 g_b1 hx0 hx1 bx) (by decide) (by decide) rfl (lenOf pd_3 rfl) rfl (oL rfl) d18_9 rfl (by decide) (by decide) ?_
  rintro _ h9 ⟨rfl, K10⟩
  have f12 := f5.keep K10 (allS g_b1 all0)
  have f13 := f6.trans K10 (allS (Or.inr sz_b1) all0)
  have f14 := f7.keep K10
  have f15 := f8.keep K10 (ninS ne_c_b1 nin0)
  show Rn w l _ n0 _ 12 _ [(.int (2 : Int32))] h9 1 4
  refine Rn.istore K (q := 14) (Ls' := #[.val (.ref c), .val oZ, .val (.int (4 : Int32)), .val (.ref b1), .val (.int (2 : Int32)), .unset]) d18_12 rfl rfl ?_
  refine Rn.iload K (q := 16) d18_14 rfl rfl ?_
  refine Rn.iloadN K (q := 17) d18_16 rfl rfl ?_
  refine Rn.icN K (q := 20) d18_17 (XT.ii_eq_f (by decide)) rfl ?_
  refine Rn.aloadN K (q := 21) d18_20 rfl rfl rfl ?_
  refine Rn.iloadN K (q := 22) d18_21 rfl rfl ?_
  refine Rn.iloadN K (q := 23) d18_22 rfl rfl ?_
  refine Rn.stat K (q := 26) (W := 0) (y := oM5) (argsL := [(.ref c), oZ, (.int (4 : Int32))]) (rest := []) (oT 127 rfl) (oT 128 rfl) (oT 129 rfl) (oT 102 rfl) (by decide) (m_tob4 l Z a0 hw n0 h9 c kc x0 x1 x2 x3 f12 SA SH SW f14 f15) (by decide) (by decide) rfl (lenOf pd_4 rfl) rfl (oL rfl) d18_23 rfl (by decide) (by decide) ?_
  rintro _ h17 ⟨u, ku, rfl, -, K18, E19, A20⟩
  have f21 := f12.keep K18 all0
  have f22 := f13.trans K18 all0
  show Rn w l _ n0 _ 26 _ [(.ref u)] h17 2 12
  refine Rn.astore K (q := 28) (Ls' := #[.val (.ref c), .val oZ, .val (.int (4 : Int32)), .val (.ref b1), .val (.int (2 : Int32)), .val (.ref u)]) d18_26 rfl rfl rfl ?_
  refine Rn.aload K (q := 30) d18_28 rfl rfl rfl ?_
  refine Rn.iload K (q := 32) d18_30 rfl rfl ?_
  refine Rn.stat K (q := 35) (W := 0) (y := oM4) (argsL := [(.ref u), (.int (2 : Int32))]) (rest := []) (oT 143 rfl) (oT 144 rfl) (oT 145 rfl) (oT 102 rfl) (by decide) (m_gch4_2 l Z a0 hw n0 h17 u ku x0 x1 x2 x3 f21 SA SH SW A20 cx2) (by decide) (by decide) rfl (lenOf pd_5 rfl) rfl (oL rfl) d18_32 rfl (by decide) (by decide) ?_
  rintro _ _ ⟨rfl, rfl⟩
  show Rn w l _ n0 _ 35 _ [(.int x2)] h17 2 12
  refine Rn.sipush K (q := 38) (255 : Int32) d18_35 rfl rfl ?_
  refine Rn.icY K (q := 54) d18_38 (XT.ii_gt_t bx) (by decide) (by decide) ?_
  refine Rn.aload K (q := 56) d18_54 rfl rfl rfl ?_
  exact Rn.retA K (.array .byte) rfl rfl rfl d18_56 (by decide) (by decide) ⟨_, _, rfl, f22, E19, A20⟩
theorem m_cp4_3 (l : Launch) (Z : State) (a0 : Array Value) (hw : oH Z a0) (n0 : Nat) (h0 : Heap) (c : Addr) (kc : ClassId) (x0 x1 x2 x3 : Int32) (X0 : Old Z n0 h0) (SA : oS0 Z) (SH : oS1 Z) (SW : oS2 Z) (Ec : Exa Z h0 c "[C") (Ac : Arv Z h0 c kc .char (4 : Int32) [(.int x0), (.int x1), (.int x2), (.int x3)] oZ) (cx0 : Chr x0) (cx1 : Chr x1) (cx2 : Chr x2) (cx3 : Chr x3) (hx0 : ¬ (255 : Int32) < x0) (hx1 : ¬ (255 : Int32) < x1) (hx2 : ¬ (255 : Int32) < x2) (bx : (255 : Int32) < x3) :
    Met l Z oM6 oC6 6 (some (.array .byte)) (oR 3 2 12 40) n0 [] #[(.ref c), oZ, (.int (4 : Int32))] h0 (fun v h => ∃ b k, v = some (.ref b) ∧ Keep h0 h [] ∧ Exa Z h b "[B" ∧ Arv Z h b k .byte (8 : Int32) [(.int (oB0 x0)), (.int (oB8 x0)), (.int (oB0 x1)), (.int (oB8 x1)), (.int (oB0 x2)), (.int (oB8 x2)), (.int (oB0 x3)), (.int (oB8 x3))] oZ) := by
  refine Met.intro (Ls := #[.val (.ref c), .val oZ, .val (.int (4 : Int32)), .unset, .unset, .unset]) (plainFor_of_name pn_m_cpr1_0) hw (fun _ => rfl) ?_
  intro w K0
  have K : oK6 w Z a0 := K0
  have K1 := Keep.refl h0 []
  refine Rn.iloadN K (q := 1) d18_0 rfl rfl ?_
  refine Rn.newP K (q := 3) (cap := 4) (oT 21 rfl) (by decide) (by decide) (by decide) (by decide) (by decide) (ad := "[B") (by decide) d18_1 rfl ?_
  intro b1 h2 k4 gb1_ X3 A_b1 EA_b1
  have ne_c_b1 : c ≠ b1 := fun e => absurd Ec.lt (by rw [e, gb1_]; exact Nat.lt_irrefl _)
  have ne_c_b1 : c ≠ b1 := fun e => absurd Ec.lt (by rw [e, gb1_]; exact Nat.lt_irrefl _)
  have g_b1 : n0 ≤ b1 := by rw [gb1_]; exact X0.1 ▸ X0.2.1
  have sz_b1 : h0.size ≤ b1 := by rw [gb1_]; exact K1.1
  have f5 := X0.ext X3
  have f6 := K1.ext X3
  have f7 := Ec.ext X3
  have f8 := Ac.ext X3
  replace A_b1 : Arv Z h2 b1 k4 .byte (4 : Int32) [oZ, oZ, oZ, oZ] oZ := A_b1.pad (pad_rep [] oZ 4)
  show Rn w l _ n0 _ 3 _ [(.ref b1)] h2 1 4
  refine Rn.astoreN K (q := 4) (Ls' := #[.val (.ref c), .val oZ, .val (.int (4 : Int32)), .val (.ref b1), .unset, .unset]) d18_3 rfl rfl rfl ?_
  refine Rn.aloadN K (q := 5) d18_4 rfl rfl rfl ?_
  refine Rn.iloadN K (q := 6) d18_5 rfl rfl ?_
  refine Rn.aloadN K (q := 7) d18_6 rfl rfl rfl ?_
  refine Rn.iconst K (q := 8) (0 : Int32) d18_7 rfl rfl ?_
  refine Rn.iloadN K (q := 9) d18_8 rfl rfl ?_
  refine Rn.stat K (q := 12) (W := 0) (y := oM0) (argsL := [(.ref c), oZ, (.ref b1), oZ, (.int (4 : Int32))]) (rest := []) (oT 104 rfl) (oT 105 rfl) (oT 106 rfl) (oT 102 rfl) (by decide) (m_cpr4_3 l Z a0 hw n0 h2 c b1 kc k4 x0 x1 x2 x3 f5 f7 f8 EA_b1 A_b1 g_b1 hx0 hx1 hx2 bx) (by decide) (by decide) rfl (lenOf pd_3 rfl) rfl (oL rfl) d18_9 rfl (by decide) (by decide) ?_
  rintro _ h9 ⟨rfl, K10⟩
  have f12 := f5.keep K10 (allS g_b1 all0)
  have f13 := f6.trans K10 (allS (Or.inr sz_b1) all0)
  have f14 := f7.keep K10
  have f15 := f8.keep K10 (ninS ne_c_b1 nin0)
  show Rn w l _ n0 _ 12 _ [(.int (3 : Int32))] h9 1 4
  refine Rn.istore K (q := 14) (Ls' := #[.val (.ref c), .val oZ, .val (.int (4 : Int32)), .val (.ref b1), .val (.int (3 : Int32)), .unset]) d18_12 rfl rfl ?_
  refine Rn.iload K (q := 16) d18_14 rfl rfl ?_
  refine Rn.iloadN K (q := 17) d18_16 rfl rfl ?_
  refine Rn.icN K (q := 20) d18_17 (XT.ii_eq_f (by decide)) rfl ?_
  refine Rn.aloadN K (q := 21) d18_20 rfl rfl rfl ?_
  refine Rn.iloadN K (q := 22) d18_21 rfl rfl ?_
  refine Rn.iloadN K (q := 23) d18_22 rfl rfl ?_
  refine Rn.stat K (q := 26) (W := 0) (y := oM5) (argsL := [(.ref c), oZ, (.int (4 : Int32))]) (rest := []) (oT 127 rfl) (oT 128 rfl) (oT 129 rfl) (oT 102 rfl) (by decide) (m_tob4 l Z a0 hw n0 h9 c kc x0 x1 x2 x3 f12 SA SH SW f14 f15) (by decide) (by decide) rfl (lenOf pd_4 rfl) rfl (oL rfl) d18_23 rfl (by decide) (by decide) ?_
  rintro _ h17 ⟨u, ku, rfl, -, K18, E19, A20⟩
  have f21 := f12.keep K18 all0
  have f22 := f13.trans K18 all0
  show Rn w l _ n0 _ 26 _ [(.ref u)] h17 2 12
  refine Rn.astore K (q := 28) (Ls' := #[.val (.ref c), .val oZ, .val (.int (4 : Int32)), .val (.ref b1), .val (.int (3 : Int32)), .val (.ref u)]) d18_26 rfl rfl rfl ?_
  refine Rn.aload K (q := 30) d18_28 rfl rfl rfl ?_
  refine Rn.iload K (q := 32) d18_30 rfl rfl ?_
  refine Rn.stat K (q := 35) (W := 0) (y := oM4) (argsL := [(.ref u), (.int (3 : Int32))]) (rest := []) (oT 143 rfl) (oT 144 rfl) (oT 145 rfl) (oT 102 rfl) (by decide) (m_gch4_3 l Z a0 hw n0 h17 u ku x0 x1 x2 x3 f21 SA SH SW A20 cx3) (by decide) (by decide) rfl (lenOf pd_5 rfl) rfl (oL rfl) d18_32 rfl (by decide) (by decide) ?_
  rintro _ _ ⟨rfl, rfl⟩
  show Rn w l _ n0 _ 35 _ [(.int x3)] h17 2 12
  refine Rn.sipush K (q := 38) (255 : Int32) d18_35 rfl rfl ?_
  refine Rn.icY K (q := 54) d18_38 (XT.ii_gt_t bx) (by decide) (by decide) ?_
  refine Rn.aload K (q := 56) d18_54 rfl rfl rfl ?_
  exact Rn.retA K (.array .byte) rfl rfl rfl d18_56 (by decide) (by decide) ⟨_, _, rfl, f22, E19, A20⟩
theorem m_cp4_4 (l : Launch) (Z : State) (a0 : Array Value) (hw : oH Z a0) (n0 : Nat) (h0 : Heap) (c : Addr) (kc : ClassId) (x0 x1 x2 x3 : Int32) (X0 : Old Z n0 h0) (SA : oS0 Z) (SH : oS1 Z) (SW : oS2 Z) (Ec : Exa Z h0 c "[C") (Ac : Arv Z h0 c kc .char (4 : Int32) [(.int x0), (.int x1), (.int x2), (.int x3)] oZ) (cx0 : Chr x0) (cx1 : Chr x1) (cx2 : Chr x2) (cx3 : Chr x3) (hx0 : ¬ (255 : Int32) < x0) (hx1 : ¬ (255 : Int32) < x1) (hx2 : ¬ (255 : Int32) < x2) (hx3 : ¬ (255 : Int32) < x3) :
    Met l Z oM6 oC6 6 (some (.array .byte)) (oR 1 1 4 18) n0 [] #[(.ref c), oZ, (.int (4 : Int32))] h0 (fun v h => ∃ b k, v = some (.ref b) ∧ Keep h0 h [] ∧ Exa Z h b "[B" ∧ Arv Z h b k .byte (4 : Int32) [(.int (oB x0)), (.int (oB x1)), (.int (oB x2)), (.int (oB x3))] oZ) := by
  refine Met.intro (Ls := #[.val (.ref c), .val oZ, .val (.int (4 : Int32)), .unset, .unset, .unset]) (plainFor_of_name pn_m_cpr1_0) hw (fun _ => rfl) ?_
  intro w K0
  have K : oK6 w Z a0 := K0
  have K1 := Keep.refl h0 []
  refine Rn.iloadN K (q := 1) d18_0 rfl rfl ?_
  refine Rn.newP K (q := 3) (cap := 4) (oT 21 rfl) (by decide) (by decide) (by decide) (by decide) (by decide) (ad := "[B") (by decide) d18_1 rfl ?_
  intro b1 h2 k4 gb1_ X3 A_b1 EA_b1
  have ne_c_b1 : c ≠ b1 := fun e => absurd Ec.lt (by rw [e, gb1_]; exact Nat.lt_irrefl _)
  have ne_c_b1 : c ≠ b1 := fun e => absurd Ec.lt (by rw [e, gb1_]; exact Nat.lt_irrefl _)
  have g_b1 : n0 ≤ b1 := by rw [gb1_]; exact X0.1 ▸ X0.2.1
  have sz_b1 : h0.size ≤ b1 := by rw [gb1_]; exact K1.1
  have f5 := X0.ext X3
  have f6 := K1.ext X3
  have f7 := Ec.ext X3
  have f8 := Ac.ext X3
  replace A_b1 : Arv Z h2 b1 k4 .byte (4 : Int32) [oZ, oZ, oZ, oZ] oZ := A_b1.pad (pad_rep [] oZ 4)
  show Rn w l _ n0 _ 3 _ [(.ref b1)] h2 1 4
  refine Rn.astoreN K (q := 4) (Ls' := #[.val (.ref c), .val oZ, .val (.int (4 : Int32)), .val (.ref b1), .unset, .unset]) d18_3 rfl rfl rfl ?_
  refine Rn.aloadN K (q := 5) d18_4 rfl rfl rfl ?_
  refine Rn.iloadN K (q := 6) d18_5 rfl rfl ?_
  refine Rn.aloadN K (q := 7) d18_6 rfl rfl rfl ?_
  refine Rn.iconst K (q := 8) (0 : Int32) d18_7 rfl rfl ?_
  refine Rn.iloadN K (q := 9) d18_8 rfl rfl ?_
  refine Rn.stat K (q := 12) (W := 0) (y := oM0) (argsL := [(.ref c), oZ, (.ref b1), oZ, (.int (4 : Int32))]) (rest := []) (oT 104 rfl) (oT 105 rfl) (oT 106 rfl) (oT 102 rfl) (by decide) (m_cpr4_4 l Z a0 hw n0 h2 c b1 kc k4 x0 x1 x2 x3 f5 f7 f8 EA_b1 A_b1 g_b1 hx0 hx1 hx2 hx3) (by decide) (by decide) rfl (lenOf pd_3 rfl) rfl (oL rfl) d18_9 rfl (by decide) (by decide) ?_
  rintro _ h9 ⟨rfl, K10, A11⟩
  have f13 := f6.trans K10 (allS (Or.inr sz_b1) all0)
  have f16 := EA_b1.keep K10
  show Rn w l _ n0 _ 12 _ [(.int (4 : Int32))] h9 1 4
  refine Rn.istore K (q := 14) (Ls' := #[.val (.ref c), .val oZ, .val (.int (4 : Int32)), .val (.ref b1), .val (.int (4 : Int32)), .unset]) d18_12 rfl rfl ?_
  refine Rn.iload K (q := 16) d18_14 rfl rfl ?_
  refine Rn.iloadN K (q := 17) d18_16 rfl rfl ?_
  refine Rn.icY K (q := 57) d18_17 (XT.ii_eq_t rfl) (by decide) (by decide) ?_
  refine Rn.aloadN K (q := 58) d18_57 rfl rfl rfl ?_
  exact Rn.retA K (.array .byte) rfl rfl rfl d18_58 (by decide) (by decide) ⟨_, _, rfl, f13, f16, A11⟩
theorem m_cpw4 (l : Launch) (Z : State) (a0 : Array Value) (hw : oH Z a0) (n0 : Nat) (h0 : Heap) (c : Addr) (kc : ClassId) (x0 x1 x2 x3 : Int32) (X0 : Old Z n0 h0) (SA : oS0 Z) (SH : oS1 Z) (SW : oS2 Z) (Ec : Exa Z h0 c "[C") (Ac : Arv Z h0 c kc .char (4 : Int32) [(.int x0), (.int x1), (.int x2), (.int x3)] oZ) (cx0 : Chr x0) (cx1 : Chr x1) (cx2 : Chr x2) (cx3 : Chr x3) (hb : ¬ ∀ c ∈ [x0, x1, x2, x3], ¬ (255 : Int32) < c) :
    Met l Z oM6 oC6 6 (some (.array .byte)) (oR 3 2 12 40) n0 [] #[(.ref c), oZ, (.int (4 : Int32))] h0 (fun v h => ∃ b k, v = some (.ref b) ∧ Keep h0 h [] ∧ Exa Z h b "[B" ∧ Arv Z h b k .byte (8 : Int32) [(.int (oB0 x0)), (.int (oB8 x0)), (.int (oB0 x1)), (.int (oB8 x1)), (.int (oB0 x2)), (.int (oB8 x2)), (.int (oB0 x3)), (.int (oB8 x3))] oZ) := by
  by_cases hx0 : (255 : Int32) < x0
  · exact m_cp4_0 l Z a0 hw n0 h0 c kc x0 x1 x2 x3 X0 SA SH SW Ec Ac cx0 cx1 cx2 cx3 hx0
  by_cases hx1 : (255 : Int32) < x1
  · exact m_cp4_1 l Z a0 hw n0 h0 c kc x0 x1 x2 x3 X0 SA SH SW Ec Ac cx0 cx1 cx2 cx3 hx0 hx1
  by_cases hx2 : (255 : Int32) < x2
  · exact m_cp4_2 l Z a0 hw n0 h0 c kc x0 x1 x2 x3 X0 SA SH SW Ec Ac cx0 cx1 cx2 cx3 hx0 hx1 hx2
  by_cases hx3 : (255 : Int32) < x3
  · exact m_cp4_3 l Z a0 hw n0 h0 c kc x0 x1 x2 x3 X0 SA SH SW Ec Ac cx0 cx1 cx2 cx3 hx0 hx1 hx2 hx3
  exact absurd (by simp only [List.mem_cons, List.not_mem_nil, or_false]; intro c hc; rcases hc with rfl | rfl | rfl | rfl <;> assumption) hb
theorem m_cfl4_1 (l : Launch) (Z : State) (a0 : Array Value) (hw : oH Z a0) (n0 : Nat) (h0 : Heap) (b : Addr) (k : ClassId) (x0 x1 x2 x3 : Int32) (X0 : Old Z n0 h0) (Ab : Arv Z h0 b k .byte (8 : Int32) [(.int (oB0 x0)), (.int (oB8 x0)), (.int (oB0 x1)), (.int (oB8 x1)), (.int (oB0 x2)), (.int (oB8 x2)), (.int (oB0 x3)), (.int (oB8 x3))] oZ) :
    Met l Z oM7 oC7 2 (some .byte) (oR 0 0 0 0) n0 [] #[(.ref b), (.int (4 : Int32))] h0 (fun v h => v = some (.int (1 : Int32)) ∧ h0 = h) := by
  refine Met.intro (Ls := #[.val (.ref b), .val (.int (4 : Int32))]) (plainFor_of_name pn_m_cpr1_0) hw (fun _ => rfl) ?_
  intro w K0
  have K : oK7 w Z a0 := K0
  refine Rn.iloadN K (q := 1) d20_0 rfl rfl ?_
  refine Rn.aloadN K (q := 2) d20_1 rfl rfl rfl ?_
  refine Rn.arraylength K (q := 3) Ab d20_2 rfl ?_
  refine Rn.isub K (q := 4) d20_3 rfl ?_
  refine Rn.bipush K (q := 6) (31 : Int32) d20_4 rfl rfl ?_
  refine Rn.iushr K (q := 7) d20_6 rfl ?_
  refine Rn.i2b K (q := 8) d20_7 rfl ?_
  exact Rn.retN K .byte rfl (by simp) d20_8 (by decide) (by decide) ⟨by rw [show nar .byte ((((4 : Int32) - (8 : Int32)).toUInt32 >>> ((31 : Int32) &&& 31).toUInt32).toInt32).toInt8.toInt32 = 1 from by decide], rfl⟩
theorem m_iv4_1 (l : Launch) (Z : State) (a0 : Array Value) (hw : oH Z a0) (n0 : Nat) (h0 : Heap) (s c : Addr) (kc : ClassId) (x0 x1 x2 x3 : Int32) (cst : Int32) (X0 : Old Z n0 h0) (SC : oSC Z cst) (hcs : ¬ cst = 0) (Es : Exa Z h0 s "java/lang/String") (gs : n0 ≤ s) (Fv : Fld Z h0 s "java/lang/String" "value" "[B" .null) (Fc : Fld Z h0 s "java/lang/String" "coder" "B" (.int (0 : Int32))) (Ec : Exa Z h0 c "[C") (Ac : Arv Z h0 c kc .char (4 : Int32) [(.int x0), (.int x1), (.int x2), (.int x3)] oZ) (SA : oS0 Z) (SH : oS1 Z) (SW : oS2 Z) (cx0 : Chr x0) (cx1 : Chr x1) (cx2 : Chr x2) (cx3 : Chr x3) (ha : ¬ ∀ c ∈ [x0, x1, x2, x3], ¬ (255 : Int32) < c) :
    Met l Z oM8 oC8 6 none (oR 4 2 12 57) n0 [] #[(.ref s), (.ref c), oZ, (.int (4 : Int32)), .null] h0 (fun r h => r = none ∧ Keep h0 h [s] ∧ ∃ v k, Fld Z h s "java/lang/String" "value" "[B" (.ref v) ∧ Fld Z h s "java/lang/String" "coder" "B" (.int (1 : Int32)) ∧ Arv Z h v k .byte (8 : Int32) [(.int (oB0 x0)), (.int (oB8 x0)), (.int (oB0 x1)), (.int (oB8 x1)), (.int (oB0 x2)), (.int (oB8 x2)), (.int (oB0 x3)), (.int (oB8 x3))] oZ) := by
  refine Met.intro (Ls := #[.val (.ref s), .val (.ref c), .val oZ, .val (.int (4 : Int32)), .val .null, .unset]) (plainFor_of_name pn_m_iv1_1) hw (fun m => by first | (simp [entryFrame, mkF, argsToLocals, Value.category]; done) | rfl) ?_
  intro w K0
  have K : oK8 w Z a0 := K0
  have K1 := Keep.refl h0 [s]
  refine Rn.aloadN K (q := 1) d3_0 rfl rfl rfl ?_
  refine Rn.initO K (q := 4) (W := 0) (oT 17 rfl) (oT 18 rfl) (oT 19 rfl) (by decide) (by decide) rfl (oL rfl) d3_1 rfl ?_
  refine Rn.iloadN K (q := 5) d3_4 rfl rfl ?_
  refine Rn.ifY K (q := 27) d3_5 (XT.i0_ne_t (by decide)) (by decide) (by decide) ?_
  refine Rn.getS K (q := 30) (oT 61 rfl) (SC.ext X0.2) d3_27 rfl ?_
  refine Rn.ifN K (q := 33) d3_30 (XT.i0_eq_f hcs) rfl ?_
  refine Rn.aloadN K (q := 34) d3_33 rfl rfl rfl ?_
  refine Rn.iloadN K (q := 35) d3_34 rfl rfl ?_
  refine Rn.iloadN K (q := 36) d3_35 rfl rfl ?_
  refine Rn.stat K (q := 39) (W := 0) (y := oM6) (argsL := [(.ref c), oZ, (.int (4 : Int32))]) (rest := []) (oT 100 rfl) (oT 101 rfl) (oT 103 rfl) (oT 102 rfl) (by decide) (m_cpw4 l Z a0 hw n0 h0 c kc x0 x1 x2 x3 X0 SA SH SW Ec Ac cx0 cx1 cx2 cx3 ha) (by decide) (by decide) rfl (lenOf pd_4 rfl) rfl (oL rfl) d3_36 rfl (by decide) (by decide) ?_
  rintro _ h1 ⟨v, k, rfl, K2, E3, A4⟩
  have f5 := X0.keep K2 all0
  have f6 := K1.trans K2 all0
  have f7 := Es.keep K2
  have f8 := Fv.keep K2 nin0
  have f9 := Fc.keep K2 nin0
  show Rn w l _ n0 _ 39 _ [(.ref v)] h1 2 12
  refine Rn.astore K (q := 41) (Ls' := #[.val (.ref s), .val (.ref c), .val oZ, .val (.int (4 : Int32)), .val .null, .val (.ref v)]) d3_39 rfl rfl rfl ?_
  refine Rn.aloadN K (q := 42) d3_41 rfl rfl rfl ?_
  refine Rn.aload K (q := 44) d3_42 rfl rfl rfl ?_
  refine Rn.iloadN K (q := 45) d3_44 rfl rfl ?_
  refine Rn.stat K (q := 48) (W := 1) (y := oM7) (argsL := [(.ref v), (.int (4 : Int32))]) (rest := [(.ref s)]) (oT 107 rfl) (oT 108 rfl) (oT 109 rfl) (oT 102 rfl) (by decide) (m_cfl4_1 l Z a0 hw n0 h1 v k x0 x1 x2 x3 f5 A4) (by decide) (by decide) rfl (lenOf pd_6 rfl) rfl (oL rfl) d3_45 rfl (by decide) (by decide) ?_
  rintro _ _ ⟨rfl, rfl⟩
  show Rn w l _ n0 _ 48 _ [(.int (1 : Int32)), (.ref s)] h1 2 12
  refine Rn.putF K (q := 51) (ty := .byte) (v' := .int (nar .byte (1 : Int32))) (oT 27 rfl) Via.refl f9 f7 (Or.inr ⟨(oT 23 rfl), rfl, rfl⟩) (oT 7 rfl) (by decide) rfl (fits_nar_byte _) gs d3_48 rfl ?_
  intro h12 W13
  have f15 := f6.wr W13 (Or.inl (oT 0 rfl))
  have f16 := f7.wr W13
  have f17 := Fld.other W13 f8 (Or.inr (slot_ne (Or.inr (K.hw _ (oT 22 rfl))) (Or.inr (K.hw _ (oT 23 rfl))) (by decide) (t := (.array .byte)) (t' := .byte) (by decide) (by decide)))
  have f18 := Fld.same W13 f9
  have f21 := E3.wr W13
  have f22 := A4.other W13 (ne_exa E3 f7 (by decide))
  refine Rn.aloadN K (q := 52) d3_51 rfl rfl rfl ?_
  refine Rn.aload K (q := 54) d3_52 rfl rfl rfl ?_
  refine Rn.putF K (q := 57) (ty := (.array .byte)) (oT 26 rfl) Via.refl f17 f16 (Or.inr ⟨(oT 22 rfl), rfl, rfl⟩) (oT 7 rfl) (by decide) rfl rfl gs d3_54 rfl ?_
  intro h23 W24
  have f26 := f15.wr W24 (Or.inl (oT 0 rfl))
  have f28 := Fld.same W24 f17
  have f29 := Fld.other W24 f18 (Or.inr (slot_ne (Or.inr (K.hw _ (oT 23 rfl))) (Or.inr (K.hw _ (oT 22 rfl))) (by decide) (t := .byte) (t' := (.array .byte)) (by decide) (by decide)))
  have f33 := f22.other W24 (ne_exa f21 f16 (by decide))
  exact Rn.retV K rfl d3_57 (by decide) (by decide) ⟨rfl, f26, _, _, f28, f29, f33⟩
theorem m_ic4_1 (l : Launch) (Z : State) (a0 : Array Value) (hw : oH Z a0) (n0 : Nat) (h0 : Heap) (s c : Addr) (kc : ClassId) (x0 x1 x2 x3 : Int32) (cst : Int32) (X0 : Old Z n0 h0) (SC : oSC Z cst) (hcs : ¬ cst = 0) (Es : Exa Z h0 s "java/lang/String") (gs : n0 ≤ s) (Fv : Fld Z h0 s "java/lang/String" "value" "[B" .null) (Fc : Fld Z h0 s "java/lang/String" "coder" "B" (.int (0 : Int32))) (Ec : Exa Z h0 c "[C") (Ac : Arv Z h0 c kc .char (4 : Int32) [(.int x0), (.int x1), (.int x2), (.int x3)] oZ) (SA : oS0 Z) (SH : oS1 Z) (SW : oS2 Z) (cx0 : Chr x0) (cx1 : Chr x1) (cx2 : Chr x2) (cx3 : Chr x3) (ha : ¬ ∀ c ∈ [x0, x1, x2, x3], ¬ (255 : Int32) < c) :
    Met l Z oM9 oC9 2 none (oR 5 2 12 74) n0 [] #[(.ref s), (.ref c)] h0 (fun r h => r = none ∧ Keep h0 h [s] ∧ ∃ v, STR Z h s v [x0, x1, x2, x3]) := by
  refine Met.intro (Ls := #[.val (.ref s), .val (.ref c)]) (plainFor_of_name pn_m_iv1_1) hw (fun _ => rfl) ?_
  intro w K0
  have K : oK9 w Z a0 := K0
  have K1 := Keep.refl h0 [s]
  refine Rn.aloadN K (q := 1) d2_0 rfl rfl rfl ?_
  refine Rn.aloadN K (q := 2) d2_1 rfl rfl rfl ?_
  refine Rn.iconst K (q := 3) (0 : Int32) d2_2 rfl rfl ?_
  refine Rn.aloadN K (q := 4) d2_3 rfl rfl rfl ?_
  refine Rn.arraylength K (q := 5) Ac d2_4 rfl ?_
  refine Rn.aconst_null K (q := 6) d2_5 rfl ?_
  refine Rn.spec K (q := 9) (W := 0) (y := oM8) (b := s) (argsL := [(.ref c), oZ, (.int (4 : Int32)), .null]) (rest := []) rfl (oT 13 rfl) (oT 14 rfl) (oT 16 rfl) (oT 8 rfl) (by decide) (m_iv4_1 l Z a0 hw n0 h0 s c kc x0 x1 x2 x3 cst X0 SC hcs Es gs Fv Fc Ec Ac SA SH SW cx0 cx1 cx2 cx3 ha) (by decide) (by decide) rfl (lenOf pd_7 rfl) rfl (oL rfl) d2_6 rfl (by decide) (by decide) ?_
  rintro _ h1 ⟨rfl, K2, v, k, F1, F2, A2⟩
  have f3 := Es.keep K2
  show Rn w l _ n0 _ 9 _ [] h1 2 12
  exact Rn.retV K rfl d2_9 (by decide) (by decide) ⟨rfl, K2, v, f3, F1, k, Or.inr ⟨by simp, F2, A2⟩⟩
theorem m_cfl4_0 (l : Launch) (Z : State) (a0 : Array Value) (hw : oH Z a0) (n0 : Nat) (h0 : Heap) (b : Addr) (k : ClassId) (x0 x1 x2 x3 : Int32) (X0 : Old Z n0 h0) (Ab : Arv Z h0 b k .byte (4 : Int32) [(.int (oB x0)), (.int (oB x1)), (.int (oB x2)), (.int (oB x3))] oZ) :
    Met l Z oM7 oC7 2 (some .byte) (oR 0 0 0 0) n0 [] #[(.ref b), (.int (4 : Int32))] h0 (fun v h => v = some (.int (0 : Int32)) ∧ h0 = h) := by
  refine Met.intro (Ls := #[.val (.ref b), .val (.int (4 : Int32))]) (plainFor_of_name pn_m_cpr1_0) hw (fun _ => rfl) ?_
  intro w K0
  have K : oK7 w Z a0 := K0
  refine Rn.iloadN K (q := 1) d20_0 rfl rfl ?_
  refine Rn.aloadN K (q := 2) d20_1 rfl rfl rfl ?_
  refine Rn.arraylength K (q := 3) Ab d20_2 rfl ?_
  refine Rn.isub K (q := 4) d20_3 rfl ?_
  refine Rn.bipush K (q := 6) (31 : Int32) d20_4 rfl rfl ?_
  refine Rn.iushr K (q := 7) d20_6 rfl ?_
  refine Rn.i2b K (q := 8) d20_7 rfl ?_
  exact Rn.retN K .byte rfl (by simp) d20_8 (by decide) (by decide) ⟨by rw [show nar .byte ((((4 : Int32) - (4 : Int32)).toUInt32 >>> ((31 : Int32) &&& 31).toUInt32).toInt32).toInt8.toInt32 = 0 from by decide], rfl⟩
theorem m_iv4_0 (l : Launch) (Z : State) (a0 : Array Value) (hw : oH Z a0) (n0 : Nat) (h0 : Heap) (s c : Addr) (kc : ClassId) (x0 x1 x2 x3 : Int32) (cst : Int32) (X0 : Old Z n0 h0) (SC : oSC Z cst) (hcs : ¬ cst = 0) (Es : Exa Z h0 s "java/lang/String") (gs : n0 ≤ s) (Fv : Fld Z h0 s "java/lang/String" "value" "[B" .null) (Fc : Fld Z h0 s "java/lang/String" "coder" "B" (.int (0 : Int32))) (Ec : Exa Z h0 c "[C") (Ac : Arv Z h0 c kc .char (4 : Int32) [(.int x0), (.int x1), (.int x2), (.int x3)] oZ) (SA : oS0 Z) (SH : oS1 Z) (SW : oS2 Z) (cx0 : Chr x0) (cx1 : Chr x1) (cx2 : Chr x2) (cx3 : Chr x3) (ha : ∀ c ∈ [x0, x1, x2, x3], ¬ (255 : Int32) < c) :
    Met l Z oM8 oC8 6 none (oR 4 2 12 57) n0 [] #[(.ref s), (.ref c), oZ, (.int (4 : Int32)), .null] h0 (fun r h => r = none ∧ Keep h0 h [s] ∧ ∃ v k, Fld Z h s "java/lang/String" "value" "[B" (.ref v) ∧ Fld Z h s "java/lang/String" "coder" "B" (.int (0 : Int32)) ∧ Arv Z h v k .byte (4 : Int32) [(.int (oB x0)), (.int (oB x1)), (.int (oB x2)), (.int (oB x3))] oZ) := by
  refine Met.intro (Ls := #[.val (.ref s), .val (.ref c), .val oZ, .val (.int (4 : Int32)), .val .null, .unset]) (plainFor_of_name pn_m_iv1_1) hw (fun m => by first | (simp [entryFrame, mkF, argsToLocals, Value.category]; done) | rfl) ?_
  intro w K0
  have K : oK8 w Z a0 := K0
  have K1 := Keep.refl h0 [s]
  refine Rn.aloadN K (q := 1) d3_0 rfl rfl rfl ?_
  refine Rn.initO K (q := 4) (W := 0) (oT 17 rfl) (oT 18 rfl) (oT 19 rfl) (by decide) (by decide) rfl (oL rfl) d3_1 rfl ?_
  refine Rn.iloadN K (q := 5) d3_4 rfl rfl ?_
  refine Rn.ifY K (q := 27) d3_5 (XT.i0_ne_t (by decide)) (by decide) (by decide) ?_
  refine Rn.getS K (q := 30) (oT 61 rfl) (SC.ext X0.2) d3_27 rfl ?_
  refine Rn.ifN K (q := 33) d3_30 (XT.i0_eq_f hcs) rfl ?_
  refine Rn.aloadN K (q := 34) d3_33 rfl rfl rfl ?_
  refine Rn.iloadN K (q := 35) d3_34 rfl rfl ?_
  refine Rn.iloadN K (q := 36) d3_35 rfl rfl ?_
  refine Rn.stat K (q := 39) (W := 0) (y := oM6) (argsL := [(.ref c), oZ, (.int (4 : Int32))]) (rest := []) (oT 100 rfl) (oT 101 rfl) (oT 103 rfl) (oT 102 rfl) (by decide) (m_cp4_4 l Z a0 hw n0 h0 c kc x0 x1 x2 x3 X0 SA SH SW Ec Ac cx0 cx1 cx2 cx3 (ha x0 (by simp)) (ha x1 (by simp)) (ha x2 (by simp)) (ha x3 (by simp))) (by decide) (by decide) rfl (lenOf pd_4 rfl) rfl (oL rfl) d3_36 rfl (by decide) (by decide) ?_
  rintro _ h1 ⟨v, k, rfl, K2, E3, A4⟩
  have f5 := X0.keep K2 all0
  have f6 := K1.trans K2 all0
  have f7 := Es.keep K2
  have f8 := Fv.keep K2 nin0
  have f9 := Fc.keep K2 nin0
  show Rn w l _ n0 _ 39 _ [(.ref v)] h1 1 4
  refine Rn.astore K (q := 41) (Ls' := #[.val (.ref s), .val (.ref c), .val oZ, .val (.int (4 : Int32)), .val .null, .val (.ref v)]) d3_39 rfl rfl rfl ?_
  refine Rn.aloadN K (q := 42) d3_41 rfl rfl rfl ?_
  refine Rn.aload K (q := 44) d3_42 rfl rfl rfl ?_
  refine Rn.iloadN K (q := 45) d3_44 rfl rfl ?_
  refine Rn.stat K (q := 48) (W := 1) (y := oM7) (argsL := [(.ref v), (.int (4 : Int32))]) (rest := [(.ref s)]) (oT 107 rfl) (oT 108 rfl) (oT 109 rfl) (oT 102 rfl) (by decide) (m_cfl4_0 l Z a0 hw n0 h1 v k x0 x1 x2 x3 f5 A4) (by decide) (by decide) rfl (lenOf pd_6 rfl) rfl (oL rfl) d3_45 rfl (by decide) (by decide) ?_
  rintro _ _ ⟨rfl, rfl⟩
  show Rn w l _ n0 _ 48 _ [oZ, (.ref s)] h1 1 4
  refine Rn.putF K (q := 51) (ty := .byte) (v' := .int (nar .byte (0 : Int32))) (oT 27 rfl) Via.refl f9 f7 (Or.inr ⟨(oT 23 rfl), rfl, rfl⟩) (oT 7 rfl) (by decide) rfl (fits_nar_byte _) gs d3_48 rfl ?_
  intro h12 W13
  have f15 := f6.wr W13 (Or.inl (oT 0 rfl))
  have f16 := f7.wr W13
  have f17 := Fld.other W13 f8 (Or.inr (slot_ne (Or.inr (K.hw _ (oT 22 rfl))) (Or.inr (K.hw _ (oT 23 rfl))) (by decide) (t := (.array .byte)) (t' := .byte) (by decide) (by decide)))
  have f18 := Fld.same W13 f9
  have f21 := E3.wr W13
  have f22 := A4.other W13 (ne_exa E3 f7 (by decide))
  refine Rn.aloadN K (q := 52) d3_51 rfl rfl rfl ?_
  refine Rn.aload K (q := 54) d3_52 rfl rfl rfl ?_
  refine Rn.putF K (q := 57) (ty := (.array .byte)) (oT 26 rfl) Via.refl f17 f16 (Or.inr ⟨(oT 22 rfl), rfl, rfl⟩) (oT 7 rfl) (by decide) rfl rfl gs d3_54 rfl ?_
  intro h23 W24
  have f26 := f15.wr W24 (Or.inl (oT 0 rfl))
  have f28 := Fld.same W24 f17
  have f29 := Fld.other W24 f18 (Or.inr (slot_ne (Or.inr (K.hw _ (oT 23 rfl))) (Or.inr (K.hw _ (oT 22 rfl))) (by decide) (t := .byte) (t' := (.array .byte)) (by decide) (by decide)))
  have f33 := f22.other W24 (ne_exa f21 f16 (by decide))
  exact Rn.retV K rfl d3_57 (by decide) (by decide) ⟨rfl, f26, _, _, f28, f29, f33⟩
theorem m_ic4_0 (l : Launch) (Z : State) (a0 : Array Value) (hw : oH Z a0) (n0 : Nat) (h0 : Heap) (s c : Addr) (kc : ClassId) (x0 x1 x2 x3 : Int32) (cst : Int32) (X0 : Old Z n0 h0) (SC : oSC Z cst) (hcs : ¬ cst = 0) (Es : Exa Z h0 s "java/lang/String") (gs : n0 ≤ s) (Fv : Fld Z h0 s "java/lang/String" "value" "[B" .null) (Fc : Fld Z h0 s "java/lang/String" "coder" "B" (.int (0 : Int32))) (Ec : Exa Z h0 c "[C") (Ac : Arv Z h0 c kc .char (4 : Int32) [(.int x0), (.int x1), (.int x2), (.int x3)] oZ) (SA : oS0 Z) (SH : oS1 Z) (SW : oS2 Z) (cx0 : Chr x0) (cx1 : Chr x1) (cx2 : Chr x2) (cx3 : Chr x3) (ha : ∀ c ∈ [x0, x1, x2, x3], ¬ (255 : Int32) < c) :
    Met l Z oM9 oC9 2 none (oR 5 2 12 74) n0 [] #[(.ref s), (.ref c)] h0 (fun r h => r = none ∧ Keep h0 h [s] ∧ ∃ v, STR Z h s v [x0, x1, x2, x3]) := by
  refine Met.intro (Ls := #[.val (.ref s), .val (.ref c)]) (plainFor_of_name pn_m_iv1_1) hw (fun _ => rfl) ?_
  intro w K0
  have K : oK9 w Z a0 := K0
  have K1 := Keep.refl h0 [s]
  refine Rn.aloadN K (q := 1) d2_0 rfl rfl rfl ?_
  refine Rn.aloadN K (q := 2) d2_1 rfl rfl rfl ?_
  refine Rn.iconst K (q := 3) (0 : Int32) d2_2 rfl rfl ?_
  refine Rn.aloadN K (q := 4) d2_3 rfl rfl rfl ?_
  refine Rn.arraylength K (q := 5) Ac d2_4 rfl ?_
  refine Rn.aconst_null K (q := 6) d2_5 rfl ?_
  refine Rn.spec K (q := 9) (W := 0) (y := oM8) (b := s) (argsL := [(.ref c), oZ, (.int (4 : Int32)), .null]) (rest := []) rfl (oT 13 rfl) (oT 14 rfl) (oT 16 rfl) (oT 8 rfl) (by decide) (m_iv4_0 l Z a0 hw n0 h0 s c kc x0 x1 x2 x3 cst X0 SC hcs Es gs Fv Fc Ec Ac SA SH SW cx0 cx1 cx2 cx3 ha) (by decide) (by decide) rfl (lenOf pd_7 rfl) rfl (oL rfl) d2_6 rfl (by decide) (by decide) ?_
  rintro _ h1 ⟨rfl, K2, v, k, F1, F2, A2⟩
  have f3 := Es.keep K2
  show Rn w l _ n0 _ 9 _ [] h1 2 12
  exact Rn.retV K rfl d2_9 (by decide) (by decide) ⟨rfl, K2, v, f3, F1, k, Or.inl ⟨F2, A2, ha⟩⟩
theorem m_icc4 (l : Launch) (Z : State) (a0 : Array Value) (hw : oH Z a0) (n0 : Nat) (h0 : Heap) (s c : Addr) (kc : ClassId) (x0 x1 x2 x3 : Int32) (cst : Int32) (X0 : Old Z n0 h0) (SC : oSC Z cst) (hcs : ¬ cst = 0) (Es : Exa Z h0 s "java/lang/String") (gs : n0 ≤ s) (Fv : Fld Z h0 s "java/lang/String" "value" "[B" .null) (Fc : Fld Z h0 s "java/lang/String" "coder" "B" (.int (0 : Int32))) (Ec : Exa Z h0 c "[C") (Ac : Arv Z h0 c kc .char (4 : Int32) [(.int x0), (.int x1), (.int x2), (.int x3)] oZ) (SA : oS0 Z) (SH : oS1 Z) (SW : oS2 Z) (cx0 : Chr x0) (cx1 : Chr x1) (cx2 : Chr x2) (cx3 : Chr x3) :
    Met l Z oM9 oC9 2 none (oR 5 2 12 74) n0 [] #[(.ref s), (.ref c)] h0 (fun r h => r = none ∧ Keep h0 h [s] ∧ ∃ v, STR Z h s v [x0, x1, x2, x3]) := by
  by_cases ha : ∀ c ∈ [x0, x1, x2, x3], ¬ (255 : Int32) < c
  · exact m_ic4_0 l Z a0 hw n0 h0 s c kc x0 x1 x2 x3 cst X0 SC hcs Es gs Fv Fc Ec Ac SA SH SW cx0 cx1 cx2 cx3 ha
  · exact m_ic4_1 l Z a0 hw n0 h0 s c kc x0 x1 x2 x3 cst X0 SC hcs Es gs Fv Fc Ec Ac SA SH SW cx0 cx1 cx2 cx3 ha
theorem m_cpr5_0 (l : Launch) (Z : State) (a0 : Array Value) (hw : oH Z a0) (n0 : Nat) (h0 : Heap) (c b : Addr) (kc k : ClassId) (x0 x1 x2 x3 x4 : Int32) (X0 : Old Z n0 h0) (Ec : Exa Z h0 c "[C") (Ac : Arv Z h0 c kc .char (5 : Int32) [(.int x0), (.int x1), (.int x2), (.int x3), (.int x4)] oZ) (Eb : Exa Z h0 b "[B") (Ab : Arv Z h0 b k .byte (5 : Int32) [oZ, oZ, oZ, oZ, oZ] oZ) (gb : n0 ≤ b) (bx : (255 : Int32) < x0) :
    Met l Z oM0 oC0 7 (some .int) (oR 0 0 0 0) n0 [] #[(.ref c), oZ, (.ref b), oZ, (.int (5 : Int32))] h0 (fun v h => v = some (.int (0 : Int32)) ∧ Keep h0 h [b]) := by
  refine Met.intro (Ls := #[.val (.ref c), .val oZ, .val (.ref b), .val oZ, .val (.int (5 : Int32)), .unset, .unset]) (plainFor_of_name pn_m_cpr1_0) hw (fun m => by first | (simp [entryFrame, mkF, argsToLocals, Value.category]; done) | rfl) ?_
  intro w K0
  have K : oK0 w Z a0 := K0
  have K1 := Keep.refl h0 [b]
  refine Rn.iconst K (q := 1) (0 : Int32) d19_0 rfl rfl ?_
  refine Rn.istore K (q := 3) (Ls' := #[.val (.ref c), .val oZ, .val (.ref b), .val oZ, .val (.int (5 : Int32)), .val oZ, .unset]) d19_1 rfl rfl ?_
  refine Rn.iload K (q := 5) d19_3 rfl rfl ?_
  refine Rn.iload K (q := 7) d19_5 rfl rfl ?_
  refine Rn.icN K (q := 10) d19_7 (XT.ii_ge_f (by decide)) rfl ?_
  refine Rn.aloadN K (q := 11) d19_10 rfl rfl rfl ?_
  refine Rn.iloadN K (q := 12) d19_11 rfl rfl ?_
  refine Rn.caload K (q := 13) (v := (.int x0)) Ac (by decide) rfl d19_12 rfl ?_
  refine Rn.istore K (q := 15) (Ls' := #[.val (.ref c), .val oZ, .val (.ref b), .val oZ, .val (.int (5 : Int32)), .val oZ, .val (.int x0)]) d19_13 rfl rfl ?_
  refine Rn.iload K (q := 17) d19_15 rfl rfl ?_
  refine Rn.sipush K (q := 20) (255 : Int32) d19_17 rfl rfl ?_
  refine Rn.icN K (q := 23) d19_20 (XT.ii_le_f bx) rfl ?_
  refine Rn.iload K (q := 25) d19_23 rfl rfl ?_
  exact Rn.retI K rfl d19_25 (by decide) (by decide) ⟨rfl, K1⟩
theorem m_cpr5_1 (l : Launch) (Z : State) (a0 : Array Value) (hw : oH Z a0) (n0 : Nat) (h0 : Heap) (c b : Addr) (kc k : ClassId) (x0 x1 x2 x3 x4 : Int32) (X0 : Old Z n0 h0) (Ec : Exa Z h0 c "[C") (Ac : Arv Z h0 c kc .char (5 : Int32) [(.int x0), (.int x1), (.int x2), (.int x3), (.int x4)] oZ) (Eb : Exa Z h0 b "[B") (Ab : Arv Z h0 b k .byte (5 : Int32) [oZ, oZ, oZ, oZ, oZ] oZ) (gb : n0 ≤ b) (hx0 : ¬ (255 : Int32) < x0) (bx : (255 : Int32) < x1) :
    Met l Z oM0 oC0 7 (some .int) (oR 0 0 0 0) n0 [] #[(.ref c), oZ, (.ref b), oZ, (.int (5 : Int32))] h0 (fun v h => v = some (.int (1 : Int32)) ∧ Keep h0 h [b]) := by
  refine Met.intro (Ls := #[.val (.ref c), .val oZ, .val (.ref b), .val oZ, .val (.int (5 : Int32)), .unset, .unset]) (plainFor_of_name pn_m_cpr1_0) hw (fun m => by first | (simp [entryFrame, mkF, argsToLocals, Value.category]; done) | rfl) ?_
  intro w K0
  have K : oK0 w Z a0 := K0
  have K1 := Keep.refl h0 [b]
  refine Rn.iconst K (q := 1) (0 : Int32) d19_0 rfl rfl ?_
  refine Rn.istore K (q := 3) (Ls' := #[.val (.ref c), .val oZ, .val (.ref b), .val oZ, .val (.int (5 : Int32)), .val oZ, .unset]) d19_1 rfl rfl ?_
  refine Rn.iload K (q := 5) d19_3 rfl rfl ?_
  refine Rn.iload K (q := 7) d19_5 rfl rfl ?_
  refine Rn.icN K (q := 10) d19_7 (XT.ii_ge_f (by decide)) rfl ?_
  refine Rn.aloadN K (q := 11) d19_10 rfl rfl rfl ?_
  refine Rn.iloadN K (q := 12) d19_11 rfl rfl ?_
  refine Rn.caload K (q := 13) (v := (.int x0)) Ac (by decide) rfl d19_12 rfl ?_
  refine Rn.istore K (q := 15) (Ls' := #[.val (.ref c), .val oZ, .val (.ref b), .val oZ, .val (.int (5 : Int32)), .val oZ, .val (.int x0)]) d19_13 rfl rfl ?_
  refine Rn.iload K (q := 17) d19_15 rfl rfl ?_
  refine Rn.sipush K (q := 20) (255 : Int32) d19_17 rfl rfl ?_
  refine Rn.icY K (q := 26) d19_20 (XT.ii_le_t hx0) (by decide) (by decide) ?_
  refine Rn.aloadN K (q := 27) d19_26 rfl rfl rfl ?_
  refine Rn.iloadN K (q := 28) d19_27 rfl rfl ?_
  refine Rn.iload K (q := 30) d19_28 rfl rfl ?_
  refine Rn.i2b K (q := 31) d19_30 rfl ?_
  refine Rn.bastoreB K (q := 32) (i := 0) Ab (by decide) rfl (oL rfl) gb d19_31 rfl ?_
  intro h1 W2 A3
  have f5 := K1.wr W2 (Or.inl (oT 0 rfl))
  have f7 := Ac.other W2 (ne_exa Ec Eb (by decide))
  replace A3 : Arv Z h1 b k .byte (5 : Int32) [(.int (oB x0)), oZ, oZ, oZ, oZ] oZ := A3
  refine Rn.iinc K (q := 35) (Ls' := #[.val (.ref c), .val (.int (1 : Int32)), .val (.ref b), .val oZ, .val (.int (5 : Int32)), .val oZ, .val (.int x0)]) (1 : Int32) d19_32 rfl rfl rfl rfl ?_
  refine Rn.iinc K (q := 38) (Ls' := #[.val (.ref c), .val (.int (1 : Int32)), .val (.ref b), .val (.int (1 : Int32)), .val (.int (5 : Int32)), .val oZ, .val (.int x0)]) (1 : Int32) d19_35 rfl rfl rfl rfl ?_
  refine Rn.iinc K (q := 41) (Ls' := #[.val (.ref c), .val (.int (1 : Int32)), .val (.ref b), .val (.int (1 : Int32)), .val (.int (5 : Int32)), .val (.int (1 : Int32)), .val (.int x0)]) (1 : Int32) d19_38 rfl rfl rfl rfl ?_
  refine Rn.goto K (q := 3) d19_41 (by decide) (by decide) ?_
  refine Rn.iload K (q := 5) d19_3 rfl rfl ?_
  refine Rn.iload K (q := 7) d19_5 rfl rfl ?_
  refine Rn.icN K (q := 10) d19_7 (XT.ii_ge_f (by decide)) rfl ?_
  refine Rn.aloadN K (q := 11) d19_10 rfl rfl rfl ?_
  refine Rn.iloadN K (q := 12) d19_11 rfl rfl ?_
  refine Rn.caload K (q := 13) (v := (.int x1)) f7 (by decide) rfl d19_12 rfl ?_
  refine Rn.istore K (q := 15) (Ls' := #[.val (.ref c), .val (.int (1 : Int32)), .val (.ref b), .val (.int (1 : Int32)), .val (.int (5 : Int32)), .val (.int (1 : Int32)), .val (.int x1)]) d19_13 rfl rfl ?_
  refine Rn.iload K (q := 17) d19_15 rfl rfl ?_
  refine Rn.sipush K (q := 20) (255 : Int32) d19_17 rfl rfl ?_
  refine Rn.icN K (q := 23) d19_20 (XT.ii_le_f bx) rfl ?_
  refine Rn.iload K (q := 25) d19_23 rfl rfl ?_
  exact Rn.retI K rfl d19_25 (by decide) (by decide) ⟨rfl, f5⟩
theorem m_cpr5_2 (l : Launch) (Z : State) (a0 : Array Value) (hw : oH Z a0) (n0 : Nat) (h0 : Heap) (c b : Addr) (kc k : ClassId) (x0 x1 x2 x3 x4 : Int32) (X0 : Old Z n0 h0) (Ec : Exa Z h0 c "[C") (Ac : Arv Z h0 c kc .char (5 : Int32) [(.int x0), (.int x1), (.int x2), (.int x3), (.int x4)] oZ) (Eb : Exa Z h0 b "[B") (Ab : Arv Z h0 b k .byte (5 : Int32) [oZ, oZ, oZ, oZ, oZ] oZ) (gb : n0 ≤ b) (hx0 : ¬ (255 : Int32) < x0) (hx1 : ¬ (255 : Int32) < x1) (bx : (255 : Int32) < x2) :
    Met l Z oM0 oC0 7 (some .int) (oR 0 0 0 0) n0 [] #[(.ref c), oZ, (.ref b), oZ, (.int (5 : Int32))] h0 (fun v h => v = some (.int (2 : Int32)) ∧ Keep h0 h [b]) := by
  refine Met.intro (Ls := #[.val (.ref c), .val oZ, .val (.ref b), .val oZ, .val (.int (5 : Int32)), .unset, .unset]) (plainFor_of_name pn_m_cpr1_0) hw (fun m => by first | (simp [entryFrame, mkF, argsToLocals, Value.category]; done) | rfl) ?_
  intro w K0
  have K : oK0 w Z a0 := K0
  have K1 := Keep.refl h0 [b]
  refine Rn.iconst K (q := 1) (0 : Int32) d19_0 rfl rfl ?_
  refine Rn.istore K (q := 3) (Ls' := #[.val (.ref c), .val oZ, .val (.ref b), .val oZ, .val (.int (5 : Int32)), .val oZ, .unset]) d19_1 rfl rfl ?_
  refine Rn.iload K (q := 5) d19_3 rfl rfl ?_
  refine Rn.iload K (q := 7) d19_5 rfl rfl ?_
  refine Rn.icN K (q := 10) d19_7 (XT.ii_ge_f (by decide)) rfl ?_
  refine Rn.aloadN K (q := 11) d19_10 rfl rfl rfl ?_
  refine Rn.iloadN K (q := 12) d19_11 rfl rfl ?_
  refine Rn.caload K (q := 13) (v := (.int x0)) Ac (by decide) rfl d19_12 rfl ?_
  refine Rn.istore K (q := 15) (Ls' := #[.val (.ref c), .val oZ, .val (.ref b), .val oZ, .val (.int (5 : Int32)), .val oZ, .val (.int x0)]) d19_13 rfl rfl ?_
  refine Rn.iload K (q := 17) d19_15 rfl rfl ?_
  refine Rn.sipush K (q := 20) (255 : Int32) d19_17 rfl rfl ?_
  refine Rn.icY K (q := 26) d19_20 (XT.ii_le_t hx0) (by decide) (by decide) ?_
  refine Rn.aloadN K (q := 27) d19_26 rfl rfl rfl ?_
  refine Rn.iloadN K (q := 28) d19_27 rfl rfl ?_
  refine Rn.iload K (q := 30) d19_28 rfl rfl ?_
  refine Rn.i2b K (q := 31) d19_30 rfl ?_
  refine Rn.bastoreB K (q := 32) (i := 0) Ab (by decide) rfl (oL rfl) gb d19_31 rfl ?_
  intro h1 W2 A3
  have f5 := K1.wr W2 (Or.inl (oT 0 rfl))
  have f6 := Ec.wr W2
  have f7 := Ac.other W2 (ne_exa Ec Eb (by decide))
  have f8 := Eb.wr W2
  replace A3 : Arv Z h1 b k .byte (5 : Int32) [(.int (oB x0)), oZ, oZ, oZ, oZ] oZ := A3
  refine Rn.iinc K (q := 35) (Ls' := #[.val (.ref c), .val (.int (1 : Int32)), .val (.ref b), .val oZ, .val (.int (5 : Int32)), .val oZ, .val (.int x0)]) (1 : Int32) d19_32 rfl rfl rfl rfl ?_
  refine Rn.iinc K (q := 38) (Ls' := #[.val (.ref c), .val (.int (1 : Int32)), .val (.ref b), .val (.int (1 : Int32)), .val (.int (5 : Int32)), .val oZ, .val (.int x0)]) (1 : Int32) d19_35 rfl rfl rfl rfl ?_
  refine Rn.iinc K (q := 41) (Ls' := #[.val (.ref c), .val (.int (1 : Int32)), .val (.ref b), .val (.int (1 : Int32)), .val (.int (5 : Int32)), .val (.int (1 : Int32)), .val (.int x0)]) (1 : Int32) d19_38 rfl rfl rfl rfl ?_
  refine Rn.goto K (q := 3) d19_41 (by decide) (by decide) ?_
  refine Rn.iload K (q := 5) d19_3 rfl rfl ?_
  refine Rn.iload K (q := 7) d19_5 rfl rfl ?_
  refine Rn.icN K (q := 10) d19_7 (XT.ii_ge_f (by decide)) rfl ?_
  refine Rn.aloadN K (q := 11) d19_10 rfl rfl rfl ?_
  refine Rn.iloadN K (q := 12) d19_11 rfl rfl ?_
  refine Rn.caload K (q := 13) (v := (.int x1)) f7 (by decide) rfl d19_12 rfl ?_
  refine Rn.istore K (q := 15) (Ls' := #[.val (.ref c), .val (.int (1 : Int32)), .val (.ref b), .val (.int (1 : Int32)), .val (.int (5 : Int32)), .val (.int (1 : Int32)), .val (.int x1)]) d19_13 rfl rfl ?_
  refine Rn.iload K (q := 17) d19_15 rfl rfl ?_
  refine Rn.sipush K (q := 20) (255 : Int32) d19_17 rfl rfl ?_
  refine Rn.icY K (q := 26) d19_20 (XT.ii_le_t hx1) (by decide) (by decide) ?_
  refine Rn.aloadN K (q := 27) d19_26 rfl rfl rfl ?_
  refine Rn.iloadN K (q := 28) d19_27 rfl rfl ?_
  refine Rn.iload K (q := 30) d19_28 rfl rfl ?_
  refine Rn.i2b K (q := 31) d19_30 rfl ?_
  refine Rn.bastoreB K (q := 32) (i := 1) A3 (by decide) rfl (oL rfl) gb d19_31 rfl ?_
  intro h9 W10 A11
  have f13 := f5.wr W10 (Or.inl (oT 0 rfl))
  have f15 := f7.other W10 (ne_exa f6 f8 (by decide))
  replace A11 : Arv Z h9 b k .byte (5 : Int32) [(.int (oB x0)), (.int (oB x1)), oZ, oZ, oZ] oZ := A11
  refine Rn.iinc K (q := 35) (Ls' := #[.val (.ref c), .val (.int (2 : Int32)), .val (.ref b), .val (.int (1 : Int32)), .val (.int (5 : Int32)), .val (.int (1 : Int32)), .val (.int x1)]) (1 : Int32) d19_32 rfl rfl rfl rfl ?_
  refine Rn.iinc K (q := 38) (Ls' := #[.val (.ref c), .val (.int (2 : Int32)), .val (.ref b), .val (.int (2 : Int32)), .val (.int (5 : Int32)), .val (.int (1 : Int32)), .val (.int x1)]) (1 : Int32) d19_35 rfl rfl rfl rfl ?_
  refine Rn.iinc K (q := 41) (Ls' := #[.val (.ref c), .val (.int (2 : Int32)), .val (.ref b), .val (.int (2 : Int32)), .val (.int (5 : Int32)), .val (.int (2 : Int32)), .val (.int x1)]) (1 : Int32) d19_38 rfl rfl rfl rfl ?_
  refine Rn.goto K (q := 3) d19_41 (by decide) (by decide) ?_
  refine Rn.iload K (q := 5) d19_3 rfl rfl ?_
  refine Rn.iload K (q := 7) d19_5 rfl rfl ?_
  refine Rn.icN K (q := 10) d19_7 (XT.ii_ge_f (by decide)) rfl ?_
  refine Rn.aloadN K (q := 11) d19_10 rfl rfl rfl ?_
  refine Rn.iloadN K (q := 12) d19_11 rfl rfl ?_
  refine Rn.caload K (q := 13) (v := (.int x2)) f15 (by decide) rfl d19_12 rfl ?_
  refine Rn.istore K (q := 15) (Ls' := #[.val (.ref c), .val (.int (2 : Int32)), .val (.ref b), .val (.int (2 : Int32)), .val (.int (5 : Int32)), .val (.int (2 : Int32)), .val (.int x2)]) d19_13 rfl rfl ?_
  refine Rn.iload K (q := 17) d19_15 rfl rfl ?_
  refine Rn.sipush K (q := 20) (255 : Int32) d19_17 rfl rfl ?_
  refine Rn.icN K (q := 23) d19_20 (XT.ii_le_f bx) rfl ?_
  refine Rn.iload K (q := 25) d19_23 rfl rfl ?_
  exact Rn.retI K rfl d19_25 (by decide) (by decide) ⟨rfl, f13⟩
theorem m_cpr5_3 (l : Launch) (Z : State) (a0 : Array Value) (hw : oH Z a0) (n0 : Nat) (h0 : Heap) (c b : Addr) (kc k : ClassId) (x0 x1 x2 x3 x4 : Int32) (X0 : Old Z n0 h0) (Ec : Exa Z h0 c "[C") (Ac : Arv Z h0 c kc .char (5 : Int32) [(.int x0), (.int x1), (.int x2), (.int x3), (.int x4)] oZ) (Eb : Exa Z h0 b "[B") (Ab : Arv Z h0 b k .byte (5 : Int32) [oZ, oZ, oZ, oZ, oZ] oZ) (gb : n0 ≤ b) (hx0 : ¬ (255 : Int32) < x0) (hx1 : ¬ (255 : Int32) < x1) (hx2 : ¬ (255 : Int32) < x2) (bx : (255 : Int32) < x3) :
    Met l Z oM0 oC0 7 (some .int) (oR 0 0 0 0) n0 [] #[(.ref c), oZ, (.ref b), oZ, (.int (5 : Int32))] h0 (fun v h => v = some (.int (3 : Int32)) ∧ Keep h0 h [b]) := by
  refine Met.intro (Ls := #[.val (.ref c), .val oZ, .val (.ref b), .val oZ, .val (.int (5 : Int32)), .unset, .unset]) (plainFor_of_name pn_m_cpr1_0) hw (fun m => by first | (simp [entryFrame, mkF, argsToLocals, Value.category]; done) | rfl) ?_
  intro w K0
  have K : oK0 w Z a0 := K0
  have K1 := Keep.refl h0 [b]
  refine Rn.iconst K (q := 1) (0 : Int32) d19_0 rfl rfl ?_
  refine Rn.istore K (q := 3) (Ls' := #[.val (.ref c), .val oZ, .val (.ref b), .val oZ, .val (.int (5 : Int32)), .val oZ, .unset]) d19_1 rfl rfl ?_
  refine Rn.iload K (q := 5) d19_3 rfl rfl ?_
  refine Rn.iload K (q := 7) d19_5 rfl rfl ?_
  refine Rn.icN K (q := 10) d19_7 (XT.ii_ge_f (by decide)) rfl ?_
  refine Rn.aloadN K (q := 11) d19_10 rfl rfl rfl ?_
  refine Rn.iloadN K (q := 12) d19_11 rfl rfl ?_
  refine Rn.caload K (q := 13) (v := (.int x0)) Ac (by decide) rfl d19_12 rfl ?_
  refine Rn.istore K (q := 15) (Ls' := #[.val (.ref c), .val oZ, .val (.ref b), .val oZ, .val (.int (5 : Int32)), .val oZ, .val (.int x0)]) d19_13 rfl rfl ?_
  refine Rn.iload K (q := 17) d19_15 rfl rfl ?_
  refine Rn.sipush K (q := 20) (255 : Int32) d19_17 rfl rfl ?_
  refine Rn.icY K (q := 26) d19_20 (XT.ii_le_t hx0) (by decide) (by decide) ?_
  refine Rn.aloadN K (q := 27) d19_26 rfl rfl rfl ?_
  refine Rn.iloadN K (q := 28) d19_27 rfl rfl ?_
  refine Rn.iload K (q := 30) d19_28 rfl rfl ?_
  refine Rn.i2b K (q := 31) d19_30 rfl ?_
  refine Rn.bastoreB K (q := 32) (i := 0) Ab (by decide) rfl (oL rfl) gb d19_31 rfl ?_
  intro h1 W2 A3
  have f5 := K1.wr W2 (Or.inl (oT 0 rfl))
  have f6 := Ec.wr W2
  have f7 := Ac.other W2 (ne_exa Ec Eb (by decide))
  have f8 := Eb.wr W2
  replace A3 : Arv Z h1 b k .byte (5 : Int32) [(.int (oB x0)), oZ, oZ, oZ, oZ] oZ := A3
  refine Rn.iinc K (q := 35) (Ls' := #[.val (.ref c), .val (.int (1 : Int32)), .val (.ref b), .val oZ, .val (.int (5 : Int32)), .val oZ, .val (.int x0)]) (1 : Int32) d19_32 rfl rfl rfl rfl ?_
  refine Rn.iinc K (q := 38) (Ls' := #[.val (.ref c), .val (.int (1 : Int32)), .val (.ref b), .val (.int (1 : Int32)), .val (.int (5 : Int32)), .val oZ, .val (.int x0)]) (1 : Int32) d19_35 rfl rfl rfl rfl ?_
  refine Rn.iinc K (q := 41) (Ls' := #[.val (.ref c), .val (.int (1 : Int32)), .val (.ref b), .val (.int (1 : Int32)), .val (.int (5 : Int32)), .val (.int (1 : Int32)), .val (.int x0)]) (1 : Int32) d19_38 rfl rfl rfl rfl ?_
  refine Rn.goto K (q := 3) d19_41 (by decide) (by decide) ?_
  refine Rn.iload K (q := 5) d19_3 rfl rfl ?_
  refine Rn.iload K (q := 7) d19_5 rfl rfl ?_
  refine Rn.icN K (q := 10) d19_7 (XT.ii_ge_f (by decide)) rfl ?_
  refine Rn.aloadN K (q := 11) d19_10 rfl rfl rfl ?_
  refine Rn.iloadN K (q := 12) d19_11 rfl rfl ?_
  refine Rn.caload K (q := 13) (v := (.int x1)) f7 (by decide) rfl d19_12 rfl ?_
  refine Rn.istore K (q := 15) (Ls' := #[.val (.ref c), .val (.int (1 : Int32)), .val (.ref b), .val (.int (1 : Int32)), .val (.int (5 : Int32)), .val (.int (1 : Int32)), .val (.int x1)]) d19_13 rfl rfl ?_
  refine Rn.iload K (q := 17) d19_15 rfl rfl ?_
  refine Rn.sipush K (q := 20) (255 : Int32) d19_17 rfl rfl ?_
  refine Rn.icY K (q := 26) d19_20 (XT.ii_le_t hx1) (by decide) (by decide) ?_
  refine Rn.aloadN K (q := 27) d19_26 rfl rfl rfl ?_
  refine Rn.iloadN K (q := 28) d19_27 rfl rfl ?_
  refine Rn.iload K (q := 30) d19_28 rfl rfl ?_
  refine Rn.i2b K (q := 31) d19_30 rfl ?_
  refine Rn.bastoreB K (q := 32) (i := 1) A3 (by decide) rfl (oL rfl) gb d19_31 rfl ?_
  intro h9 W10 A11
  have f13 := f5.wr W10 (Or.inl (oT 0 rfl))
  have f14 := f6.wr W10
  have f15 := f7.other W10 (ne_exa f6 f8 (by decide))
  have f16 := f8.wr W10
  replace A11 : Arv Z h9 b k .byte (5 : Int32) [(.int (oB x0)), (.int (oB x1)), oZ, oZ, oZ] oZ := A11
  refine Rn.iinc K (q := 35) (Ls' := #[.val (.ref c), .val (.int (2 : Int32)), .val (.ref b), .val (.int (1 : Int32)), .val (.int (5 : Int32)), .val (.int (1 : Int32)), .val (.int x1)]) (1 : Int32) d19_32 rfl rfl rfl rfl ?_
  refine Rn.iinc K (q := 38) (Ls' := #[.val (.ref c), .val (.int (2 : Int32)), .val (.ref b), .val (.int (2 : Int32)), .val (.int (5 : Int32)), .val (.int (1 : Int32)), .val (.int x1)]) (1 : Int32) d19_35 rfl rfl rfl rfl ?_
  refine Rn.iinc K (q := 41) (Ls' := #[.val (.ref c), .val (.int (2 : Int32)), .val (.ref b), .val (.int (2 : Int32)), .val (.int (5 : Int32)), .val (.int (2 : Int32)), .val (.int x1)]) (1 : Int32) d19_38 rfl rfl rfl rfl ?_
  refine Rn.goto K (q := 3) d19_41 (by decide) (by decide) ?_
  refine Rn.iload K (q := 5) d19_3 rfl rfl ?_
  refine Rn.iload K (q := 7) d19_5 rfl rfl ?_
  refine Rn.icN K (q := 10) d19_7 (XT.ii_ge_f (by decide)) rfl ?_
  refine Rn.aloadN K (q := 11) d19_10 rfl rfl rfl ?_
  refine Rn.iloadN K (q := 12) d19_11 rfl rfl ?_
  refine Rn.caload K (q := 13) (v := (.int x2)) f15 (by decide) rfl d19_12 rfl ?_
  refine Rn.istore K (q := 15) (Ls' := #[.val (.ref c), .val (.int (2 : Int32)), .val (.ref b), .val (.int (2 : Int32)), .val (.int (5 : Int32)), .val (.int (2 : Int32)), .val (.int x2)]) d19_13 rfl rfl ?_
  refine Rn.iload K (q := 17) d19_15 rfl rfl ?_
  refine Rn.sipush K (q := 20) (255 : Int32) d19_17 rfl rfl ?_
  refine Rn.icY K (q := 26) d19_20 (XT.ii_le_t hx2) (by decide) (by decide) ?_
  refine Rn.aloadN K (q := 27) d19_26 rfl rfl rfl ?_
  refine Rn.iloadN K (q := 28) d19_27 rfl rfl ?_
  refine Rn.iload K (q := 30) d19_28 rfl rfl ?_
  refine Rn.i2b K (q := 31) d19_30 rfl ?_
  refine Rn.bastoreB K (q := 32) (i := 2) A11 (by decide) rfl (oL rfl) gb d19_31 rfl ?_
  intro h17 W18 A19
  have f21 := f13.wr W18 (Or.inl (oT 0 rfl))
  have f23 := f15.other W18 (ne_exa f14 f16 (by decide))
  replace A19 : Arv Z h17 b k .byte (5 : Int32) [(.int (oB x0)), (.int (oB x1)), (.int (oB x2)), oZ, oZ] oZ := A19
  refine Rn.iinc K (q := 35) (Ls' := #[.val (.ref c), .val (.int (3 : Int32)), .val (.ref b), .val (.int (2 : Int32)), .val (.int (5 : Int32)), .val (.int (2 : Int32)), .val (.int x2)]) (1 : Int32) d19_32 rfl rfl rfl rfl ?_
  refine Rn.iinc K (q := 38) (Ls' := #[.val (.ref c), .val (.int (3 : Int32)), .val (.ref b), .val (.int (3 : Int32)), .val (.int (5 : Int32)), .val (.int (2 : Int32)), .val (.int x2)]) (1 : Int32) d19_35 rfl rfl rfl rfl ?_
  refine Rn.iinc K (q := 41) (Ls' := #[.val (.ref c), .val (.int (3 : Int32)), .val (.ref b), .val (.int (3 : Int32)), .val (.int (5 : Int32)), .val (.int (3 : Int32)), .val (.int x2)]) (1 : Int32) d19_38 rfl rfl rfl rfl ?_
  refine Rn.goto K (q := 3) d19_41 (by decide) (by decide) ?_
  refine Rn.iload K (q := 5) d19_3 rfl rfl ?_
  refine Rn.iload K (q := 7) d19_5 rfl rfl ?_
  refine Rn.icN K (q := 10) d19_7 (XT.ii_ge_f (by decide)) rfl ?_
  refine Rn.aloadN K (q := 11) d19_10 rfl rfl rfl ?_
  refine Rn.iloadN K (q := 12) d19_11 rfl rfl ?_
  refine Rn.caload K (q := 13) (v := (.int x3)) f23 (by decide) rfl d19_12 rfl ?_
  refine Rn.istore K (q := 15) (Ls' := #[.val (.ref c), .val (.int (3 : Int32)), .val (.ref b), .val (.int (3 : Int32)), .val (.int (5 : Int32)), .val (.int (3 : Int32)), .val (.int x3)]) d19_13 rfl rfl ?_
  refine Rn.iload K (q := 17) d19_15 rfl rfl ?_
  refine Rn.sipush K (q := 20) (255 : Int32) d19_17 rfl rfl ?_
  refine Rn.icN K (q := 23) d19_20 (XT.ii_le_f bx) rfl ?_
  refine Rn.iload K (q := 25) d19_23 rfl rfl ?_
  exact Rn.retI K rfl d19_25 (by decide) (by decide) ⟨rfl, f21⟩
theorem m_cpr5_4 (l : Launch) (Z : State) (a0 : Array Value) (hw : oH Z a0) (n0 : Nat) (h0 : Heap) (c b : Addr) (kc k : ClassId) (x0 x1 x2 x3 x4 : Int32) (X0 : Old Z n0 h0) (Ec : Exa Z h0 c "[C") (Ac : Arv Z h0 c kc .char (5 : Int32) [(.int x0), (.int x1), (.int x2), (.int x3), (.int x4)] oZ) (Eb : Exa Z h0 b "[B") (Ab : Arv Z h0 b k .byte (5 : Int32) [oZ, oZ, oZ, oZ, oZ] oZ) (gb : n0 ≤ b) (hx0 : ¬ (255 : Int32) < x0) (hx1 : ¬ (255 : Int32) < x1) (hx2 : ¬ (255 : Int32) < x2) (hx3 : ¬ (255 : Int32) < x3) (bx : (255 : Int32) < x4) :
    Met l Z oM0 oC0 7 (some .int) (oR 0 0 0 0) n0 [] #[(.ref c), oZ, (.ref b), oZ, (.int (5 : Int32))] h0 (fun v h => v = some (.int (4 : Int32)) ∧ Keep h0 h [b]) := by
  refine Met.intro (Ls := #[.val (.ref c), .val oZ, .val (.ref b), .val oZ, .val (.int (5 : Int32)), .unset, .unset]) (plainFor_of_name pn_m_cpr1_0) hw (fun m => by first | (simp [entryFrame, mkF, argsToLocals, Value.category]; done) | rfl) ?_
  intro w K0
  have K : oK0 w Z a0 := K0
  have K1 := Keep.refl h0 [b]
  refine Rn.iconst K (q := 1) (0 : Int32) d19_0 rfl rfl ?_
  refine Rn.istore K (q := 3) (Ls' := #[.val (.ref c), .val oZ, .val (.ref b), .val oZ, .val (.int (5 : Int32)), .val oZ, .unset]) d19_1 rfl rfl ?_
  refine Rn.iload K (q := 5) d19_3 rfl rfl ?_
  refine Rn.iload K (q := 7) d19_5 rfl rfl ?_
  refine Rn.icN K (q := 10) d19_7 (XT.ii_ge_f (by decide)) rfl ?_
  refine Rn.aloadN K (q := 11) d19_10 rfl rfl rfl ?_
  refine Rn.iloadN K (q := 12) d19_11 rfl rfl ?_
  refine Rn.caload K (q := 13) (v := (.int x0)) Ac (by decide) rfl d19_12 rfl ?_
  refine Rn.istore K (q := 15) (Ls' := #[.val (.ref c), .val oZ, .val (.ref b), .val oZ, .val (.int (5 : Int32)), .val oZ, .val (.int x0)]) d19_13 rfl rfl ?_
  refine Rn.iload K (q := 17) d19_15 rfl rfl ?_
  refine Rn.sipush K (q := 20) (255 : Int32) d19_17 rfl rfl ?_
  refine Rn.icY K (q := 26) d19_20 (XT.ii_le_t hx0) (by decide) (by decide) ?_
  refine Rn.aloadN K (q := 27) d19_26 rfl rfl rfl ?_
  refine Rn.iloadN K (q := 28) d19_27 rfl rfl ?_
  refine Rn.iload K (q := 30) d19_28 rfl rfl ?_
  refine Rn.i2b K (q := 31) d19_30 rfl ?_
  refine Rn.bastoreB K (q := 32) (i := 0) Ab (by decide) rfl (oL rfl) gb d19_31 rfl ?_
  intro h1 W2 A3
  have f5 := K1.wr W2 (Or.inl (oT 0 rfl))
  have f6 := Ec.wr W2
  have f7 := Ac.other W2 (ne_exa Ec Eb (by decide))
  have f8 := Eb.wr W2
  replace A3 : Arv Z h1 b k .byte (5 : Int32) [(.int (oB x0)), oZ, oZ, oZ, oZ] oZ := A3
  refine Rn.iinc K (q := 35) (Ls' := #[.val (.ref c), .val (.int (1 : Int32)), .val (.ref b), .val oZ, .val (.int (5 : Int32)), .val oZ, .val (.int x0)]) (1 : Int32) d19_32 rfl rfl rfl rfl ?_
  refine Rn.iinc K (q := 38) (Ls' := #[.val (.ref c), .val (.int (1 : Int32)), .val (.ref b), .val (.int (1 : Int32)), .val (.int (5 : Int32)), .val oZ, .val (.int x0)]) (1 : Int32) d19_35 rfl rfl rfl rfl ?_
  refine Rn.iinc K (q := 41) (Ls' := #[.val (.ref c), .val (.int (1 : Int32)), .val (.ref b), .val (.int (1 : Int32)), .val (.int (5 : Int32)), .val (.int (1 : Int32)), .val (.int x0)]) (1 : Int32) d19_38 rfl rfl rfl rfl ?_
  refine Rn.goto K (q := 3) d19_41 (by decide) (by decide) ?_
  refine Rn.iload K (q := 5) d19_3 rfl rfl ?_
  refine Rn.iload K (q := 7) d19_5 rfl rfl ?_
  refine Rn.icN K (q := 10) d19_7 (XT.ii_ge_f (by decide)) rfl ?_
  refine Rn.aloadN K (q := 11) d19_10 rfl rfl rfl ?_
  refine Rn.iloadN K (q := 12) d19_11 rfl rfl ?_
  refine Rn.caload K (q := 13) (v := (.int x1)) f7 (by decide) rfl d19_12 rfl ?_
  refine Rn.istore K (q := 15) (Ls' := #[.val (.ref c), .val (.int (1 : Int32)), .val (.ref b), .val (.int (1 : Int32)), .val (.int (5 : Int32)), .val (.int (1 : Int32)), .val (.int x1)]) d19_13 rfl rfl ?_
  refine Rn.iload K (q := 17) d19_15 rfl rfl ?_
  refine Rn.sipush K (q := 20) (255 : Int32) d19_17 rfl rfl ?_
  refine Rn.icY K (q := 26) d19_20 (XT.ii_le_t hx1) (by decide) (by decide) ?_
  refine Rn.aloadN K (q := 27) d19_26 rfl rfl rfl ?_
  refine Rn.iloadN K (q := 28) d19_27 rfl rfl ?_
  refine Rn.iload K (q := 30) d19_28 rfl rfl ?_
  refine Rn.i2b K (q := 31) d19_30 rfl ?_
  refine Rn.bastoreB K (q := 32) (i := 1) A3 (by decide) rfl (oL rfl) gb d19_31 rfl ?_
  intro h9 W10 A11
  have f13 := f5.wr W10 (Or.inl (oT 0 rfl))
  have f14 := f6.wr W10
  have f15 := f7.other W10 (ne_exa f6 f8 (by decide))
  have f16 := f8.wr W10
  replace A11 : Arv Z h9 b k .byte (5 : Int32) [(.int (oB x0)), (.int (oB x1)), oZ, oZ, oZ] oZ := A11
  refine Rn.iinc K (q := 35) (Ls' := #[.val (.ref c), .val (.int (2 : Int32)), .val (.ref b), .val (.int (1 : Int32)), .val (.int (5 : Int32)), .val (.int (1 : Int32)), .val (.int x1)]) (1 : Int32) d19_32 rfl rfl rfl rfl ?_
  refine Rn.iinc K (q := 38) (Ls' := #[.val (.ref c), .val (.int (2 : Int32)), .val (.ref b), .val (.int (2 : Int32)), .val (.int (5 : Int32)), .val (.int (1 : Int32)), .val (.int x1)]) (1 : Int32) d19_35 rfl rfl rfl rfl ?_
  refine Rn.iinc K (q := 41) (Ls' := #[.val (.ref c), .val (.int (2 : Int32)), .val (.ref b), .val (.int (2 : Int32)), .val (.int (5 : Int32)), .val (.int (2 : Int32)), .val (.int x1)]) (1 : Int32) d19_38 rfl rfl rfl rfl ?_
  refine Rn.goto K (q := 3) d19_41 (by decide) (by decide) ?_
  refine Rn.iload K (q := 5) d19_3 rfl rfl ?_
  refine Rn.iload K (q := 7) d19_5 rfl rfl ?_
  refine Rn.icN K (q := 10) d19_7 (XT.ii_ge_f (by decide)) rfl ?_
  refine Rn.aloadN K (q := 11) d19_10 rfl rfl rfl ?_
  refine Rn.iloadN K (q := 12) d19_11 rfl rfl ?_
  refine Rn.caload K (q := 13) (v := (.int x2)) f15 (by decide) rfl d19_12 rfl ?_
  refine Rn.istore K (q := 15) (Ls' := #[.val (.ref c), .val (.int (2 : Int32)), .val (.ref b), .val (.int (2 : Int32)), .val (.int (5 : Int32)), .val (.int (2 : Int32)), .val (.int x2)]) d19_13 rfl rfl ?_
  refine Rn.iload K (q := 17) d19_15 rfl rfl ?_
  refine Rn.sipush K (q := 20) (255 : Int32) d19_17 rfl rfl ?_
  refine Rn.icY K (q := 26) d19_20 (XT.ii_le_t hx2) (by decide) (by decide) ?_
  refine Rn.aloadN K (q := 27) d19_26 rfl rfl rfl ?_
  refine Rn.iloadN K (q := 28) d19_27 rfl rfl ?_
  refine Rn.iload K (q := 30) d19_28 rfl rfl ?_
  refine Rn.i2b K (q := 31) d19_30 rfl ?_
  refine Rn.bastoreB K (q := 32) (i := 2) A11 (by decide) rfl (oL rfl) gb d19_31 rfl ?_
  intro h17 W18 A19
  have f21 := f13.wr W18 (Or.inl (oT 0 rfl))
  have f22 := f14.wr W18
  have f23 := f15.other W18 (ne_exa f14 f16 (by decide))
  have f24 := f16.wr W18
  replace A19 : Arv Z h17 b k .byte (5 : Int32) [(.int (oB x0)), (.int (oB x1)), (.int (oB x2)), oZ, oZ] oZ := A19
  refine Rn.iinc K (q := 35) (Ls' := #[.val (.ref c), .val (.int (3 : Int32)), .val (.ref b), .val (.int (2 : Int32)), .val (.int (5 : Int32)), .val (.int (2 : Int32)), .val (.int x2)]) (1 : Int32) d19_32 rfl rfl rfl rfl ?_
  refine Rn.iinc K (q := 38) (Ls' := #[.val (.ref c), .val (.int (3 : Int32)), .val (.ref b), .val (.int (3 : Int32)), .val (.int (5 : Int32)), .val (.int (2 : Int32)), .val (.int x2)]) (1 : Int32) d19_35 rfl rfl rfl rfl ?_
  refine Rn.iinc K (q := 41) (Ls' := #[.val (.ref c), .val (.int (3 : Int32)), .val (.ref b), .val (.int (3 : Int32)), .val (.int (5 : Int32)), .val (.int (3 : Int32)), .val (.int x2)]) (1 : Int32) d19_38 rfl rfl rfl rfl ?_
  refine Rn.goto K (q := 3) d19_41 (by decide) (by decide) ?_
  refine Rn.iload K (q := 5) d19_3 rfl rfl ?_
  refine Rn.iload K (q := 7) d19_5 rfl rfl ?_
  refine Rn.icN K (q := 10) d19_7 (XT.ii_ge_f (by decide)) rfl ?_
  refine Rn.aloadN K (q := 11) d19_10 rfl rfl rfl ?_
  refine Rn.iloadN K (q := 12) d19_11 rfl rfl ?_
  refine Rn.caload K (q := 13) (v := (.int x3)) f23 (by decide) rfl d19_12 rfl ?_
  refine Rn.istore K (q := 15) (Ls' := #[.val (.ref c), .val (.int (3 : Int32)), .val (.ref b), .val (.int (3 : Int32)), .val (.int (5 : Int32)), .val (.int (3 : Int32)), .val (.int x3)]) d19_13 rfl rfl ?_
  refine Rn.iload K (q := 17) d19_15 rfl rfl ?_
  refine Rn.sipush K (q := 20) (255 : Int32) d19_17 rfl rfl ?_
  refine Rn.icY K (q := 26) d19_20 (XT.ii_le_t hx3) (by decide) (by decide) ?_
  refine Rn.aloadN K (q := 27) d19_26 rfl rfl rfl ?_
  refine Rn.iloadN K (q := 28) d19_27 rfl rfl ?_
  refine Rn.iload K (q := 30) d19_28 rfl rfl ?_
  refine Rn.i2b K (q := 31) d19_30 rfl ?_
  refine Rn.bastoreB K (q := 32) (i := 3) A19 (by decide) rfl (oL rfl) gb d19_31 rfl ?_
  intro h25 W26 A27
  have f29 := f21.wr W26 (Or.inl (oT 0 rfl))
  have f31 := f23.other W26 (ne_exa f22 f24 (by decide))
  replace A27 : Arv Z h25 b k .byte (5 : Int32) [(.int (oB x0)), (.int (oB x1)), (.int (oB x2)), (.int (oB x3)), oZ] oZ := A27
  refine Rn.iinc K (q := 35) (Ls' := #[.val (.ref c), .val (.int (4 : Int32)), .val (.ref b), .val (.int (3 : Int32)), .val (.int (5 : Int32)), .val (.int (3 : Int32)), .val (.int x3)]) (1 : Int32) d19_32 rfl rfl rfl rfl ?_
  refine Rn.iinc K (q := 38) (Ls' := #[.val (.ref c), .val (.int (4 : Int32)), .val (.ref b), .val (.int (4 : Int32)), .val (.int (5 : Int32)), .val (.int (3 : Int32)), .val (.int x3)]) (1 : Int32) d19_35 rfl rfl rfl rfl ?_
  refine Rn.iinc K (q := 41) (Ls' := #[.val (.ref c), .val (.int (4 : Int32)), .val (.ref b), .val (.int (4 : Int32)), .val (.int (5 : Int32)), .val (.int (4 : Int32)), .val (.int x3)]) (1 : Int32) d19_38 rfl rfl rfl rfl ?_
  refine Rn.goto K (q := 3) d19_41 (by decide) (by decide) ?_
  refine Rn.iload K (q := 5) d19_3 rfl rfl ?_
  refine Rn.iload K (q := 7) d19_5 rfl rfl ?_
  refine Rn.icN K (q := 10) d19_7 (XT.ii_ge_f (by decide)) rfl ?_
  refine Rn.aloadN K (q := 11) d19_10 rfl rfl rfl ?_
  refine Rn.iloadN K (q := 12) d19_11 rfl rfl ?_
  refine Rn.caload K (q := 13) (v := (.int x4)) f31 (by decide) rfl d19_12 rfl ?_
  refine Rn.istore K (q := 15) (Ls' := #[.val (.ref c), .val (.int (4 : Int32)), .val (.ref b), .val (.int (4 : Int32)), .val (.int (5 : Int32)), .val (.int (4 : Int32)), .val (.int x4)]) d19_13 rfl rfl ?_
  refine Rn.iload K (q := 17) d19_15 rfl rfl ?_
  refine Rn.sipush K (q := 20) (255 : Int32) d19_17 rfl rfl ?_
  refine Rn.icN K (q := 23) d19_20 (XT.ii_le_f bx) rfl ?_
  refine Rn.iload K (q := 25) d19_23 rfl rfl ?_
  exact Rn.retI K rfl d19_25 (by decide) (by decide) ⟨rfl, f29⟩
theorem m_cpr5_5 (l : Launch) (Z : State) (a0 : Array Value) (hw : oH Z a0) (n0 : Nat) (h0 : Heap) (c b : Addr) (kc k : ClassId) (x0 x1 x2 x3 x4 : Int32) (X0 : Old Z n0 h0) (Ec : Exa Z h0 c "[C") (Ac : Arv Z h0 c kc .char (5 : Int32) [(.int x0), (.int x1), (.int x2), (.int x3), (.int x4)] oZ) (Eb : Exa Z h0 b "[B") (Ab : Arv Z h0 b k .byte (5 : Int32) [oZ, oZ, oZ, oZ, oZ] oZ) (gb : n0 ≤ b) (hx0 : ¬ (255 : Int32) < x0) (hx1 : ¬ (255 : Int32) < x1) (hx2 : ¬ (255 : Int32) < x2) (hx3 : ¬ (255 : Int32) < x3) (hx4 : ¬ (255 : Int32) < x4) :
    Met l Z oM0 oC0 7 (some .int) (oR 0 0 0 0) n0 [] #[(.ref c), oZ, (.ref b), oZ, (.int (5 : Int32))] h0 (fun v h => v = some (.int (5 : Int32)) ∧ Keep h0 h [b] ∧ Arv Z h b k .byte (5 : Int32) [(.int (oB x0)), (.int (oB x1)), (.int (oB x2)), (.int (oB x3)), (.int (oB x4))] oZ) := by
  refine Met.intro (Ls := #[.val (.ref c), .val oZ, .val (.ref b), .val oZ, .val (.int (5 : Int32)), .unset, .unset]) (plainFor_of_name pn_m_cpr1_0) hw (fun m => by first | (simp [entryFrame, mkF, argsToLocals, Value.category]; done) | rfl) ?_
  intro w K0
  have K : oK0 w Z a0 := K0
  have K1 := Keep.refl h0 [b]
  refine Rn.iconst K (q := 1) (0 : Int32) d19_0 rfl rfl ?_
  refine Rn.istore K (q := 3) (Ls' := #[.val (.ref c), .val oZ, .val (.ref b), .val oZ, .val (.int (5 : Int32)), .val oZ, .unset]) d19_1 rfl rfl ?_
  refine Rn.iload K (q := 5) d19_3 rfl rfl ?_
  refine Rn.iload K (q := 7) d19_5 rfl rfl ?_
  refine Rn.icN K (q := 10) d19_7 (XT.ii_ge_f (by decide)) rfl ?_
  refine Rn.aloadN K (q := 11) d19_10 rfl rfl rfl ?_
  refine Rn.iloadN K (q := 12) d19_11 rfl rfl ?_
  refine Rn.caload K (q := 13) (v := (.int x0)) Ac (by decide) rfl d19_12 rfl ?_
  refine Rn.istore K (q := 15) (Ls' := #[.val (.ref c), .val oZ, .val (.ref b), .val oZ, .val (.int (5 : Int32)), .val oZ, .val (.int x0)]) d19_13 rfl rfl ?_
  refine Rn.iload K (q := 17) d19_15 rfl rfl ?_
  refine Rn.sipush K (q := 20) (255 : Int32) d19_17 rfl rfl ?_
  refine Rn.icY K (q := 26) d19_20 (XT.ii_le_t hx0) (by decide) (by decide) ?_
  refine Rn.aloadN K (q := 27) d19_26 rfl rfl rfl ?_
  refine Rn.iloadN K (q := 28) d19_27 rfl rfl ?_
  refine Rn.iload K (q := 30) d19_28 rfl rfl ?_
  refine Rn.i2b K (q := 31) d19_30 rfl ?_
  refine Rn.bastoreB K (q := 32) (i := 0) Ab (by decide) rfl (oL rfl) gb d19_31 rfl ?_
  intro h1 W2 A3
  have f5 := K1.wr W2 (Or.inl (oT 0 rfl))
  have f6 := Ec.wr W2
  have f7 := Ac.other W2 (ne_exa Ec Eb (by decide))
  have f8 := Eb.wr W2
  replace A3 : Arv Z h1 b k .byte (5 : Int32) [(.int (oB x0)), oZ, oZ, oZ, oZ] oZ := A3
  refine Rn.iinc K (q := 35) (Ls' := #[.val (.ref c), .val (.int (1 : Int32)), .val (.ref b), .val oZ, .val (.int (5 : Int32)), .val oZ, .val (.int x0)]) (1 : Int32) d19_32 rfl rfl rfl rfl ?_
  refine Rn.iinc K (q := 38) (Ls' := #[.val (.ref c), .val (.int (1 : Int32)), .val (.ref b), .val (.int (1 : Int32)), .val (.int (5 : Int32)), .val oZ, .val (.int x0)]) (1 : Int32) d19_35 rfl rfl rfl rfl ?_
  refine Rn.iinc K (q := 41) (Ls' := #[.val (.ref c), .val (.int (1 : Int32)), .val (.ref b), .val (.int (1 : Int32)), .val (.int (5 : Int32)), .val (.int (1 : Int32)), .val (.int x0)]) (1 : Int32) d19_38 rfl rfl rfl rfl ?_
  refine Rn.goto K (q := 3) d19_41 (by decide) (by decide) ?_
  refine Rn.iload K (q := 5) d19_3 rfl rfl ?_
  refine Rn.iload K (q := 7) d19_5 rfl rfl ?_
  refine Rn.icN K (q := 10) d19_7 (XT.ii_ge_f (by decide)) rfl ?_
  refine Rn.aloadN K (q := 11) d19_10 rfl rfl rfl ?_
  refine Rn.iloadN K (q := 12) d19_11 rfl rfl ?_
  refine Rn.caload K (q := 13) (v := (.int x1)) f7 (by decide) rfl d19_12 rfl ?_
  refine Rn.istore K (q := 15) (Ls' := #[.val (.ref c), .val (.int (1 : Int32)), .val (.ref b), .val (.int (1 : Int32)), .val (.int (5 : Int32)), .val (.int (1 : Int32)), .val (.int x1)]) d19_13 rfl rfl ?_
  refine Rn.iload K (q := 17) d19_15 rfl rfl ?_
  refine Rn.sipush K (q := 20) (255 : Int32) d19_17 rfl rfl ?_
  refine Rn.icY K (q := 26) d19_20 (XT.ii_le_t hx1) (by decide) (by decide) ?_
  refine Rn.aloadN K (q := 27) d19_26 rfl rfl rfl ?_
  refine Rn.iloadN K (q := 28) d19_27 rfl rfl ?_
  refine Rn.iload K (q := 30) d19_28 rfl rfl ?_
  refine Rn.i2b K (q := 31) d19_30 rfl ?_
  refine Rn.bastoreB K (q := 32) (i := 1) A3 (by decide) rfl (oL rfl) gb d19_31 rfl ?_
  intro h9 W10 A11
  have f13 := f5.wr W10 (Or.inl (oT 0 rfl))
  have f14 := f6.wr W10
  have f15 := f7.other W10 (ne_exa f6 f8 (by decide))
  have f16 := f8.wr W10
  replace A11 : Arv Z h9 b k .byte (5 : Int32) [(.int (oB x0)), (.int (oB x1)), oZ, oZ, oZ] oZ := A11
  refine Rn.iinc K (q := 35) (Ls' := #[.val (.ref c), .val (.int (2 : Int32)), .val (.ref b), .val (.int (1 : Int32)), .val (.int (5 : Int32)), .val (.int (1 : Int32)), .val (.int x1)]) (1 : Int32) d19_32 rfl rfl rfl rfl ?_
  refine Rn.iinc K (q := 38) (Ls' := #[.val (.ref c), .val (.int (2 : Int32)), .val (.ref b), .val (.int (2 : Int32)), .val (.int (5 : Int32)), .val (.int (1 : Int32)), .val (.int x1)]) (1 : Int32) d19_35 rfl rfl rfl rfl ?_
  refine Rn.iinc K (q := 41) (Ls' := #[.val (.ref c), .val (.int (2 : Int32)), .val (.ref b), .val (.int (2 : Int32)), .val (.int (5 : Int32)), .val (.int (2 : Int32)), .val (.int x1)]) (1 : Int32) d19_38 rfl rfl rfl rfl ?_
  refine Rn.goto K (q := 3) d19_41 (by decide) (by decide) ?_
  refine Rn.iload K (q := 5) d19_3 rfl rfl ?_
  refine Rn.iload K (q := 7) d19_5 rfl rfl ?_
  refine Rn.icN K (q := 10) d19_7 (XT.ii_ge_f (by decide)) rfl ?_
  refine Rn.aloadN K (q := 11) d19_10 rfl rfl rfl ?_
  refine Rn.iloadN K (q := 12) d19_11 rfl rfl ?_
  refine Rn.caload K (q := 13) (v := (.int x2)) f15 (by decide) rfl d19_12 rfl ?_
  refine Rn.istore K (q := 15) (Ls' := #[.val (.ref c), .val (.int (2 : Int32)), .val (.ref b), .val (.int (2 : Int32)), .val (.int (5 : Int32)), .val (.int (2 : Int32)), .val (.int x2)]) d19_13 rfl rfl ?_
  refine Rn.iload K (q := 17) d19_15 rfl rfl ?_
  refine Rn.sipush K (q := 20) (255 : Int32) d19_17 rfl rfl ?_
  refine Rn.icY K (q := 26) d19_20 (XT.ii_le_t hx2) (by decide) (by decide) ?_
  refine Rn.aloadN K (q := 27) d19_26 rfl rfl rfl ?_
  refine Rn.iloadN K (q := 28) d19_27 rfl rfl ?_
  refine Rn.iload K (q := 30) d19_28 rfl rfl ?_
  refine Rn.i2b K (q := 31) d19_30 rfl ?_
  refine Rn.bastoreB K (q := 32) (i := 2) A11 (by decide) rfl (oL rfl) gb d19_31 rfl ?_
  intro h17 W18 A19
  have f21 := f13.wr W18 (Or.inl (oT 0 rfl))
  have f22 := f14.wr W18
  have f23 := f15.other W18 (ne_exa f14 f16 (by decide))
  have f24 := f16.wr W18
  replace A19 : Arv Z h17 b k .byte (5 : Int32) [(.int (oB x0)), (.int (oB x1)), (.int (oB x2)), oZ, oZ] oZ := A19
  refine Rn.iinc K (q := 35) (Ls' := #[.val (.ref c), .val (.int (3 : Int32)), .val (.ref b), .val (.int (2 : Int32)), .val (.int (5 : Int32)), .val (.int (2 : Int32)), .val (.int x2)]) (1 : Int32) d19_32 rfl rfl rfl rfl ?_
  refine Rn.iinc K (q := 38) (Ls' := #[.val (.ref c), .val (.int (3 : Int32)), .val (.ref b), .val (.int (3 : Int32)), .val (.int (5 : Int32)), .val (.int (2 : Int32)), .val (.int x2)]) (1 : Int32) d19_35 rfl rfl rfl rfl ?_
  refine Rn.iinc K (q := 41) (Ls' := #[.val (.ref c), .val (.int (3 : Int32)), .val (.ref b), .val (.int (3 : Int32)), .val (.int (5 : Int32)), .val (.int (3 : Int32)), .val (.int x2)]) (1 : Int32) d19_38 rfl rfl rfl rfl ?_
  refine Rn.goto K (q := 3) d19_41 (by decide) (by decide) ?_
  refine Rn.iload K (q := 5) d19_3 rfl rfl ?_
  refine Rn.iload K (q := 7) d19_5 rfl rfl ?_
  refine Rn.icN K (q := 10) d19_7 (XT.ii_ge_f (by decide)) rfl ?_
  refine Rn.aloadN K (q := 11) d19_10 rfl rfl rfl ?_
  refine Rn.iloadN K (q := 12) d19_11 rfl rfl ?_
  refine Rn.caload K (q := 13) (v := (.int x3)) f23 (by decide) rfl d19_12 rfl ?_
  refine Rn.istore K (q := 15) (Ls' := #[.val (.ref c), .val (.int (3 : Int32)), .val (.ref b), .val (.int (3 : Int32)), .val (.int (5 : Int32)), .val (.int (3 : Int32)), .val (.int x3)]) d19_13 rfl rfl ?_
  refine Rn.iload K (q := 17) d19_15 rfl rfl ?_
  refine Rn.sipush K (q := 20) (255 : Int32) d19_17 rfl rfl ?_
  refine Rn.icY K (q := 26) d19_20 (XT.ii_le_t hx3) (by decide) (by decide) ?_
  refine Rn.aloadN K (q := 27) d19_26 rfl rfl rfl ?_
  refine Rn.iloadN K (q := 28) d19_27 rfl rfl ?_
  refine Rn.iload K (q := 30) d19_28 rfl rfl ?_
  refine Rn.i2b K (q := 31) d19_30 rfl ?_
  refine Rn.bastoreB K (q := 32) (i := 3) A19 (by decide) rfl (oL rfl) gb d19_31 rfl ?_
  intro h25 W26 A27
  have f29 := f21.wr W26 (Or.inl (oT 0 rfl))
  have f31 := f23.other W26 (ne_exa f22 f24 (by decide))
  replace A27 : Arv Z h25 b k .byte (5 : Int32) [(.int (oB x0)), (.int (oB x1)), (.int (oB x2)), (.int (oB x3)), oZ] oZ := A27
  refine Rn.iinc K (q := 35) (Ls' := #[.val (.ref c), .val (.int (4 : Int32)), .val (.ref b), .val (.int (3 : Int32)), .val (.int (5 : Int32)), .val (.int (3 : Int32)), .val (.int x3)]) (1 : Int32) d19_32 rfl rfl rfl rfl ?_
  refine Rn.iinc K (q := 38) (Ls' := #[.val (.ref c), .val (.int (4 : Int32)), .val (.ref b), .val (.int (4 : Int32)), .val (.int (5 : Int32)), .val (.int (3 : Int32)), .val (.int x3)]) (1 : Int32) d19_35 rfl rfl rfl rfl ?_
  refine Rn.iinc K (q := 41) (Ls' := #[.val (.ref c), .val (.int (4 : Int32)), .val (.ref b), .val (.int (4 : Int32)), .val (.int (5 : Int32)), .val (.int (4 : Int32)), .val (.int x3)]) (1 : Int32) d19_38 rfl rfl rfl rfl ?_
  refine Rn.goto K (q := 3) d19_41 (by decide) (by decide) ?_
  refine Rn.iload K (q := 5) d19_3 rfl rfl ?_
  refine Rn.iload K (q := 7) d19_5 rfl rfl ?_
  refine Rn.icN K (q := 10) d19_7 (XT.ii_ge_f (by decide)) rfl ?_
  refine Rn.aloadN K (q := 11) d19_10 rfl rfl rfl ?_
  refine Rn.iloadN K (q := 12) d19_11 rfl rfl ?_
  refine Rn.caload K (q := 13) (v := (.int x4)) f31 (by decide) rfl d19_12 rfl ?_
  refine Rn.istore K (q := 15) (Ls' := #[.val (.ref c), .val (.int (4 : Int32)), .val (.ref b), .val (.int (4 : Int32)), .val (.int (5 : Int32)), .val (.int (4 : Int32)), .val (.int x4)]) d19_13 rfl rfl ?_
  refine Rn.iload K (q := 17) d19_15 rfl rfl ?_
  refine Rn.sipush K (q := 20) (255 : Int32) d19_17 rfl rfl ?_
  refine Rn.icY K (q := 26) d19_20 (XT.ii_le_t hx4) (by decide) (by decide) ?_
  refine Rn.aloadN K (q := 27) d19_26 rfl rfl rfl ?_
  refine Rn.iloadN K (q := 28) d19_27 rfl rfl ?_
  refine Rn.iload K (q := 30) d19_28 rfl rfl ?_
  refine Rn.i2b K (q := 31) d19_30 rfl ?_
  refine Rn.bastoreB K (q := 32) (i := 4) A27 (by decide) rfl (oL rfl) gb d19_31 rfl ?_
  intro h33 W34 A35
  have f37 := f29.wr W34 (Or.inl (oT 0 rfl))
  replace A35 : Arv Z h33 b k .byte (5 : Int32) [(.int (oB x0)), (.int (oB x1)), (.int (oB x2)), (.int (oB x3)), (.int (oB x4))] oZ := A35
  refine Rn.iinc K (q := 35) (Ls' := #[.val (.ref c), .val (.int (5 : Int32)), .val (.ref b), .val (.int (4 : Int32)), .val (.int (5 : Int32)), .val (.int (4 : Int32)), .val (.int x4)]) (1 : Int32) d19_32 rfl rfl rfl rfl ?_
  refine Rn.iinc K (q := 38) (Ls' := #[.val (.ref c), .val (.int (5 : Int32)), .val (.ref b), .val (.int (5 : Int32)), .val (.int (5 : Int32)), .val (.int (4 : Int32)), .val (.int x4)]) (1 : Int32) d19_35 rfl rfl rfl rfl ?_
  refine Rn.iinc K (q := 41) (Ls' := #[.val (.ref c), .val (.int (5 : Int32)), .val (.ref b), .val (.int (5 : Int32)), .val (.int (5 : Int32)), .val (.int (5 : Int32)), .val (.int x4)]) (1 : Int32) d19_38 rfl rfl rfl rfl ?_
  refine Rn.goto K (q := 3) d19_41 (by decide) (by decide) ?_
  refine Rn.iload K (q := 5) d19_3 rfl rfl ?_
  refine Rn.iload K (q := 7) d19_5 rfl rfl ?_
  refine Rn.icY K (q := 44) d19_7 (XT.ii_ge_t (by decide)) (by decide) (by decide) ?_
  refine Rn.iload K (q := 46) d19_44 rfl rfl ?_
  exact Rn.retI K rfl d19_46 (by decide) (by decide) ⟨rfl, f37, A35⟩
theorem m_nbl5 (l : Launch) (Z : State) (a0 : Array Value) (hw : oH Z a0) (n0 : Nat) (h0 : Heap)  (X0 : Old Z n0 h0) :
    Met l Z oM1 oC1 1 (some .int) (oR 0 0 0 0) n0 [] #[(.int (5 : Int32))] h0 (fun v h => v = some (.int (10 : Int32)) ∧ h0 = h) := by
  refine Met.intro (Ls := #[.val (.int (5 : Int32))]) (plainFor_of_name pn_m_cpr1_0) hw (fun _ => rfl) ?_
  intro w K0
  have K : oK1 w Z a0 := K0
  refine Rn.iloadN K (q := 1) d26_0 rfl rfl ?_
  refine Rn.ifY K (q := 12) d26_1 (XT.i0_ge_t (by decide)) (by decide) (by decide) ?_
  refine Rn.iloadN K (q := 13) d26_12 rfl rfl ?_
  refine Rn.ldcI K (q := 15) (1073741823 : Int32) (oT 136 rfl) d26_13 rfl ?_
  refine Rn.icY K (q := 55) d26_15 (XT.ii_lt_t (by decide)) (by decide) (by decide) ?_
  refine Rn.iloadN K (q := 56) d26_55 rfl rfl ?_
  refine Rn.iconst K (q := 57) (1 : Int32) d26_56 rfl rfl ?_
  refine Rn.ishl K (q := 58) d26_57 rfl ?_
  rw [show ((5 : Int32) <<< ((1 : Int32) &&& 31)) = (10 : Int32) from by decide]
  show Rn w l _ n0 _ 58 _ [(.int (10 : Int32))] h0 0 0
  exact Rn.retI K rfl d26_58 (by decide) (by decide) ⟨rfl, rfl⟩
theorem m_nbf5 (l : Launch) (Z : State) (a0 : Array Value) (hw : oH Z a0) (n0 : Nat) (h0 : Heap)  (X0 : Old Z n0 h0) :
    Met l Z oM2 oC2 1 (some (.array .byte)) (oR 1 1 10 12) n0 [] #[(.int (5 : Int32))] h0 (fun v h => ∃ b k, v = some (.ref b) ∧ h0.size ≤ b ∧ Keep h0 h [] ∧ Exa Z h b "[B" ∧ Arv Z h b k .byte (10 : Int32) [oZ, oZ, oZ, oZ, oZ, oZ, oZ, oZ, oZ, oZ] oZ) := by
  refine Met.intro (Ls := #[.val (.int (5 : Int32))]) (plainFor_of_name pn_m_cpr1_0) hw (fun _ => rfl) ?_
  intro w K0
  have K : oK2 w Z a0 := K0
  have K1 := Keep.refl h0 []
  refine Rn.iloadN K (q := 1) d25_0 rfl rfl ?_
  refine Rn.stat K (q := 4) (W := 0) (y := oM1) (argsL := [(.int (5 : Int32))]) (rest := []) (oT 133 rfl) (oT 134 rfl) (oT 135 rfl) (oT 102 rfl) (by decide) (m_nbl5 l Z a0 hw n0 h0 X0) (by decide) (by decide) rfl (lenOf pd_0 rfl) rfl (oL rfl) d25_1 rfl (by decide) (by decide) ?_
  rintro _ _ ⟨rfl, rfl⟩
  show Rn w l _ n0 _ 4 _ [(.int (10 : Int32))] h0 0 0
  refine Rn.newP K (q := 6) (cap := 10) (oT 21 rfl) (by decide) (by decide) (by decide) (by decide) (by decide) (ad := "[B") (by decide) d25_4 rfl ?_
  intro b1 h2 k4 gb1_ X3 A_b1 EA_b1
  have sz_b1 : h0.size ≤ b1 := by rw [gb1_]; exact K1.1
  have f6 := K1.ext X3
  replace A_b1 : Arv Z h2 b1 k4 .byte (10 : Int32) [oZ, oZ, oZ, oZ, oZ, oZ, oZ, oZ, oZ, oZ] oZ := A_b1.pad (pad_rep [] oZ 10)
  show Rn w l _ n0 _ 6 _ [(.ref b1)] h2 1 10
  exact Rn.retA K (.array .byte) rfl rfl rfl d25_6 (by decide) (by decide) ⟨_, _, rfl, sz_b1, f6, EA_b1, A_b1⟩
theorem m_put5_0 (l : Launch) (Z : State) (a0 : Array Value) (hw : oH Z a0) (n0 : Nat) (h0 : Heap) (b : Addr) (k : ClassId) (x y0 y1 y2 y3 y4 y5 y6 y7 y8 y9 : Int32) (X0 : Old Z n0 h0) (SA : oS0 Z) (SH : oS1 Z) (SW : oS2 Z) (Ab : Arv Z h0 b k .byte (10 : Int32) [(.int y0), (.int y1), (.int y2), (.int y3), (.int y4), (.int y5), (.int y6), (.int y7), (.int y8), (.int y9)] oZ) (gb : n0 ≤ b) :
    Met l Z oM3 oC3 3 none (oR 0 0 0 0) n0 [] #[(.ref b), oZ, (.int x)] h0 (fun v h => v = none ∧ Keep h0 h [b] ∧ Arv Z h b k .byte (10 : Int32) [(.int (oB0 x)), (.int (oB8 x)), (.int y2), (.int y3), (.int y4), (.int y5), (.int y6), (.int y7), (.int y8), (.int y9)] oZ) := by
  refine Met.intro (Ls := #[.val (.ref b), .val oZ, .val (.int x)]) (plainFor_of_name pn_m_cpr1_0) hw (fun _ => rfl) ?_
  intro w K0
  have K : oK3 w Z a0 := K0
  have K1 := Keep.refl h0 [b]
  refine Rn.getS K (q := 3) (oT 140 rfl) (SA.ext X0.2) d27_0 rfl ?_
  refine Rn.ifY K (q := 28) d27_3 (XT.i0_ne_t (by decide)) (by decide) (by decide) ?_
  refine Rn.iloadN K (q := 29) d27_28 rfl rfl ?_
  refine Rn.iconst K (q := 30) (1 : Int32) d27_29 rfl rfl ?_
  refine Rn.ishl K (q := 31) d27_30 rfl ?_
  rw [show ((0 : Int32) <<< ((1 : Int32) &&& 31)) = (0 : Int32) from by decide]
  show Rn w l _ n0 _ 31 _ [oZ] h0 0 0
  refine Rn.istoreN K (q := 32) (Ls' := #[.val (.ref b), .val oZ, .val (.int x)]) d27_31 rfl rfl ?_
  refine Rn.aloadN K (q := 33) d27_32 rfl rfl rfl ?_
  refine Rn.iloadN K (q := 34) d27_33 rfl rfl ?_
  refine Rn.iinc K (q := 37) (Ls' := #[.val (.ref b), .val (.int (1 : Int32)), .val (.int x)]) (1 : Int32) d27_34 rfl rfl rfl rfl ?_
  refine Rn.iloadN K (q := 38) d27_37 rfl rfl ?_
  refine Rn.getS K (q := 41) (oT 141 rfl) (SH.ext X0.2) d27_38 rfl ?_
  refine Rn.ishr K (q := 42) d27_41 rfl ?_
  refine Rn.i2b K (q := 43) d27_42 rfl ?_
  refine Rn.bastoreB K (q := 44) (i := 0) Ab (by decide) rfl (oL rfl) gb d27_43 rfl ?_
  intro h1 W2 A3
  have f4 := X0.wr W2 gb
  have f5 := K1.wr W2 (Or.inl (oT 0 rfl))
  replace A3 : Arv Z h1 b k .byte (10 : Int32) [(.int (oB0 x)), (.int y1), (.int y2), (.int y3), (.int y4), (.int y5), (.int y6), (.int y7), (.int y8), (.int y9)] oZ := A3
  refine Rn.aloadN K (q := 45) d27_44 rfl rfl rfl ?_
  refine Rn.iloadN K (q := 46) d27_45 rfl rfl ?_
  refine Rn.iloadN K (q := 47) d27_46 rfl rfl ?_
  refine Rn.getS K (q := 50) (oT 142 rfl) (SW.ext f4.2) d27_47 rfl ?_
  refine Rn.ishr K (q := 51) d27_50 rfl ?_
  refine Rn.i2b K (q := 52) d27_51 rfl ?_
  refine Rn.bastoreB K (q := 53) (i := 1) A3 (by decide) rfl (oL rfl) gb d27_52 rfl ?_
  intro h6 W7 A8
  have f10 := f5.wr W7 (Or.inl (oT 0 rfl))
  replace A8 : Arv Z h6 b k .byte (10 : Int32) [(.int (oB0 x)), (.int (oB8 x)), (.int y2), (.int y3), (.int y4), (.int y5), (.int y6), (.int y7), (.int y8), (.int y9)] oZ := A8
  exact Rn.retV K rfl d27_53 (by decide) (by decide) ⟨rfl, f10, A8⟩
theorem m_gch5_0 (l : Launch) (Z : State) (a0 : Array Value) (hw : oH Z a0) (n0 : Nat) (h0 : Heap) (b : Addr) (k : ClassId) (x0 x1 x2 x3 x4 : Int32) (X0 : Old Z n0 h0) (SA : oS0 Z) (SH : oS1 Z) (SW : oS2 Z) (Ab : Arv Z h0 b k .byte (10 : Int32) [(.int (oB0 x0)), (.int (oB8 x0)), (.int (oB0 x1)), (.int (oB8 x1)), (.int (oB0 x2)), (.int (oB8 x2)), (.int (oB0 x3)), (.int (oB8 x3)), (.int (oB0 x4)), (.int (oB8 x4))] oZ) (cx : Chr x0) :
    Met l Z oM4 oC4 2 (some .char) (oR 0 0 0 0) n0 [] #[(.ref b), oZ] h0 (fun v h => v = some (.int x0) ∧ h0 = h) := by
  refine Met.intro (Ls := #[.val (.ref b), .val oZ]) (plainFor_of_name pn_m_cpr1_0) hw (fun _ => rfl) ?_
  intro w K0
  have K : oK4 w Z a0 := K0
  refine Rn.getS K (q := 3) (oT 140 rfl) (SA.ext X0.2) d28_0 rfl ?_
  refine Rn.ifY K (q := 28) d28_3 (XT.i0_ne_t (by decide)) (by decide) (by decide) ?_
  refine Rn.iloadN K (q := 29) d28_28 rfl rfl ?_
  refine Rn.iconst K (q := 30) (1 : Int32) d28_29 rfl rfl ?_
  refine Rn.ishl K (q := 31) d28_30 rfl ?_
  rw [show ((0 : Int32) <<< ((1 : Int32) &&& 31)) = (0 : Int32) from by decide]
  show Rn w l _ n0 _ 31 _ [oZ] h0 0 0
  refine Rn.istoreN K (q := 32) (Ls' := #[.val (.ref b), .val oZ]) d28_31 rfl rfl ?_
  refine Rn.aloadN K (q := 33) d28_32 rfl rfl rfl ?_
  refine Rn.iloadN K (q := 34) d28_33 rfl rfl ?_
  refine Rn.iinc K (q := 37) (Ls' := #[.val (.ref b), .val (.int (1 : Int32))]) (1 : Int32) d28_34 rfl rfl rfl rfl ?_
  refine Rn.baloadB K (q := 38) (v := (.int (oB0 x0))) Ab (by decide) rfl d28_37 rfl ?_
  refine Rn.sipush K (q := 41) (255 : Int32) d28_38 rfl rfl ?_
  refine Rn.iand K (q := 42) d28_41 rfl ?_
  refine Rn.getS K (q := 45) (oT 141 rfl) (SH.ext X0.2) d28_42 rfl ?_
  refine Rn.ishl K (q := 46) d28_45 rfl ?_
  refine Rn.aloadN K (q := 47) d28_46 rfl rfl rfl ?_
  refine Rn.iloadN K (q := 48) d28_47 rfl rfl ?_
  refine Rn.baloadB K (q := 49) (v := (.int (oB8 x0))) Ab (by decide) rfl d28_48 rfl ?_
  refine Rn.sipush K (q := 52) (255 : Int32) d28_49 rfl rfl ?_
  refine Rn.iand K (q := 53) d28_52 rfl ?_
  refine Rn.getS K (q := 56) (oT 142 rfl) (SW.ext X0.2) d28_53 rfl ?_
  refine Rn.ishl K (q := 57) d28_56 rfl ?_
  refine Rn.ior K (q := 58) d28_57 rfl ?_
  refine Rn.i2c K (q := 59) d28_58 rfl ?_
  exact Rn.retN K .char rfl (by simp) d28_59 (by decide) (by decide) ⟨by rw [own_gc cx], rfl⟩
theorem m_put5_1 (l : Launch) (Z : State) (a0 : Array Value) (hw : oH Z a0) (n0 : Nat) (h0 : Heap) (b : Addr) (k : ClassId) (x y0 y1 y2 y3 y4 y5 y6 y7 y8 y9 : Int32) (X0 : Old Z n0 h0) (SA : oS0 Z) (SH : oS1 Z) (SW : oS2 Z) (Ab : Arv Z h0 b k .byte (10 : Int32) [(.int y0), (.int y1), (.int y2), (.int y3), (.int y4), (.int y5), (.int y6), (.int y7), (.int y8), (.int y9)] oZ) (gb : n0 ≤ b) :
    Met l Z oM3 oC3 3 none (oR 0 0 0 0) n0 [] #[(.ref b), (.int (1 : Int32)), (.int x)] h0 (fun v h => v = none ∧ Keep h0 h [b] ∧ Arv Z h b k .byte (10 : Int32) [(.int y0), (.int y1), (.int (oB0 x)), (.int (oB8 x)), (.int y4), (.int y5), (.int y6), (.int y7), (.int y8), (.int y9)] oZ) := by
  refine Met.intro (Ls := #[.val (.ref b), .val (.int (1 : Int32)), .val (.int x)]) (plainFor_of_name pn_m_cpr1_0) hw (fun _ => rfl) ?_
  intro w K0
  have K : oK3 w Z a0 := K0
  have K1 := Keep.refl h0 [b]
  refine Rn.getS K (q := 3) (oT 140 rfl) (SA.ext X0.2) d27_0 rfl ?_
  refine Rn.ifY K (q := 28) d27_3 (XT.i0_ne_t (by decide)) (by decide) (by decide) ?_
  refine Rn.iloadN K (q := 29) d27_28 rfl rfl ?_
  refine Rn.iconst K (q := 30) (1 : Int32) d27_29 rfl rfl ?_
  refine Rn.ishl K (q := 31) d27_30 rfl ?_
  rw [show ((1 : Int32) <<< ((1 : Int32) &&& 31)) = (2 : Int32) from by decide]
  show Rn w l _ n0 _ 31 _ [(.int (2 : Int32))] h0 0 0
  refine Rn.istoreN K (q := 32) (Ls' := #[.val (.ref b), .val (.int (2 : Int32)), .val (.int x)]) d27_31 rfl rfl ?_
  refine Rn.aloadN K (q := 33) d27_32 rfl rfl rfl ?_
  refine Rn.iloadN K (q := 34) d27_33 rfl rfl ?_
  refine Rn.iinc K (q := 37) (Ls' := #[.val (.ref b), .val (.int (3 : Int32)), .val (.int x)]) (1 : Int32) d27_34 rfl rfl rfl rfl ?_
  refine Rn.iloadN K (q := 38) d27_37 rfl rfl ?_
  refine Rn.getS K (q := 41) (oT 141 rfl) (SH.ext X0.2) d27_38 rfl ?_
  refine Rn.ishr K (q := 42) d27_41 rfl ?_
  refine Rn.i2b K (q := 43) d27_42 rfl ?_
  refine Rn.bastoreB K (q := 44) (i := 2) Ab (by decide) rfl (oL rfl) gb d27_43 rfl ?_
  intro h1 W2 A3
  have f4 := X0.wr W2 gb
  have f5 := K1.wr W2 (Or.inl (oT 0 rfl))
  replace A3 : Arv Z h1 b k .byte (10 : Int32) [(.int y0), (.int y1), (.int (oB0 x)), (.int y3), (.int y4), (.int y5), (.int y6), (.int y7), (.int y8), (.int y9)] oZ := A3
  refine Rn.aloadN K (q := 45) d27_44 rfl rfl rfl ?_
  refine Rn.iloadN K (q := 46) d27_45 rfl rfl ?_
  refine Rn.iloadN K (q := 47) d27_46 rfl rfl ?_
  refine Rn.getS K (q := 50) (oT 142 rfl) (SW.ext f4.2) d27_47 rfl ?_
  refine Rn.ishr K (q := 51) d27_50 rfl ?_
  refine Rn.i2b K (q := 52) d27_51 rfl ?_
  refine Rn.bastoreB K (q := 53) (i := 3) A3 (by decide) rfl (oL rfl) gb d27_52 rfl ?_
  intro h6 W7 A8
  have f10 := f5.wr W7 (Or.inl (oT 0 rfl))
  replace A8 : Arv Z h6 b k .byte (10 : Int32) [(.int y0), (.int y1), (.int (oB0 x)), (.int (oB8 x)), (.int y4), (.int y5), (.int y6), (.int y7), (.int y8), (.int y9)] oZ := A8
  exact Rn.retV K rfl d27_53 (by decide) (by decide) ⟨rfl, f10, A8⟩
theorem m_gch5_1 (l : Launch) (Z : State) (a0 : Array Value) (hw : oH Z a0) (n0 : Nat) (h0 : Heap) (b : Addr) (k : ClassId) (x0 x1 x2 x3 x4 : Int32) (X0 : Old Z n0 h0) (SA : oS0 Z) (SH : oS1 Z) (SW : oS2 Z) (Ab : Arv Z h0 b k .byte (10 : Int32) [(.int (oB0 x0)), (.int (oB8 x0)), (.int (oB0 x1)), (.int (oB8 x1)), (.int (oB0 x2)), (.int (oB8 x2)), (.int (oB0 x3)), (.int (oB8 x3)), (.int (oB0 x4)), (.int (oB8 x4))] oZ) (cx : Chr x1) :
    Met l Z oM4 oC4 2 (some .char) (oR 0 0 0 0) n0 [] #[(.ref b), (.int (1 : Int32))] h0 (fun v h => v = some (.int x1) ∧ h0 = h) := by
  refine Met.intro (Ls := #[.val (.ref b), .val (.int (1 : Int32))]) (plainFor_of_name pn_m_cpr1_0) hw (fun _ => rfl) ?_
  intro w K0
  have K : oK4 w Z a0 := K0
  refine Rn.getS K (q := 3) (oT 140 rfl) (SA.ext X0.2) d28_0 rfl ?_
  refine Rn.ifY K (q := 28) d28_3 (XT.i0_ne_t (by decide)) (by decide) (by decide) ?_
  refine Rn.iloadN K (q := 29) d28_28 rfl rfl ?_
  refine Rn.iconst K (q := 30) (1 : Int32) d28_29 rfl rfl ?_
  refine Rn.ishl K (q := 31) d28_30 rfl ?_
  rw [show ((1 : Int32) <<< ((1 : Int32) &&& 31)) = (2 : Int32) from by decide]
  show Rn w l _ n0 _ 31 _ [(.int (2 : Int32))] h0 0 0
  refine Rn.istoreN K (q := 32) (Ls' := #[.val (.ref b), .val (.int (2 : Int32))]) d28_31 rfl rfl ?_
  refine Rn.aloadN K (q := 33) d28_32 rfl rfl rfl ?_
  refine Rn.iloadN K (q := 34) d28_33 rfl rfl ?_
  refine Rn.iinc K (q := 37) (Ls' := #[.val (.ref b), .val (.int (3 : Int32))]) (1 : Int32) d28_34 rfl rfl rfl rfl ?_
  refine Rn.baloadB K (q := 38) (v := (.int (oB0 x1))) Ab (by decide) rfl d28_37 rfl ?_
  refine Rn.sipush K (q := 41) (255 : Int32) d28_38 rfl rfl ?_
  refine Rn.iand K (q := 42) d28_41 rfl ?_
  refine Rn.getS K (q := 45) (oT 141 rfl) (SH.ext X0.2) d28_42 rfl ?_
  refine Rn.ishl K (q := 46) d28_45 rfl ?_
  refine Rn.aloadN K (q := 47) d28_46 rfl rfl rfl ?_
  refine Rn.iloadN K (q := 48) d28_47 rfl rfl ?_
  refine Rn.baloadB K (q := 49) (v := (.int (oB8 x1))) Ab (by decide) rfl d28_48 rfl ?_
  refine Rn.sipush K (q := 52) (255 : Int32) d28_49 rfl rfl ?_
  refine Rn.iand K (q := 53) d28_52 rfl ?_
  refine Rn.getS K (q := 56) (oT 142 rfl) (SW.ext X0.2) d28_53 rfl ?_
  refine Rn.ishl K (q := 57) d28_56 rfl ?_
  refine Rn.ior K (q := 58) d28_57 rfl ?_
  refine Rn.i2c K (q := 59) d28_58 rfl ?_
  exact Rn.retN K .char rfl (by simp) d28_59 (by decide) (by decide) ⟨by rw [own_gc cx], rfl⟩
theorem m_put5_2 (l : Launch) (Z : State) (a0 : Array Value) (hw : oH Z a0) (n0 : Nat) (h0 : Heap) (b : Addr) (k : ClassId) (x y0 y1 y2 y3 y4 y5 y6 y7 y8 y9 : Int32) (X0 : Old Z n0 h0) (SA : oS0 Z) (SH : oS1 Z) (SW : oS2 Z) (Ab : Arv Z h0 b k .byte (10 : Int32) [(.int y0), (.int y1), (.int y2), (.int y3), (.int y4), (.int y5), (.int y6), (.int y7), (.int y8), (.int y9)] oZ) (gb : n0 ≤ b) :
    Met l Z oM3 oC3 3 none (oR 0 0 0 0) n0 [] #[(.ref b), (.int (2 : Int32)), (.int x)] h0 (fun v h => v = none ∧ Keep h0 h [b] ∧ Arv Z h b k .byte (10 : Int32) [(.int y0), (.int y1), (.int y2), (.int y3), (.int (oB0 x)), (.int (oB8 x)), (.int y6), (.int y7), (.int y8), (.int y9)] oZ) := by
  refine Met.intro (Ls := #[.val (.ref b), .val (.int (2 : Int32)), .val (.int x)]) (plainFor_of_name pn_m_cpr1_0) hw (fun _ => rfl) ?_
  intro w K0
  have K : oK3 w Z a0 := K0
  have K1 := Keep.refl h0 [b]
  refine Rn.getS K (q := 3) (oT 140 rfl) (SA.ext X0.2) d27_0 rfl ?_
  refine Rn.ifY K (q := 28) d27_3 (XT.i0_ne_t (by decide)) (by decide) (by decide) ?_
  refine Rn.iloadN K (q := 29) d27_28 rfl rfl ?_
  refine Rn.iconst K (q := 30) (1 : Int32) d27_29 rfl rfl ?_
  refine Rn.ishl K (q := 31) d27_30 rfl ?_
  rw [show ((2 : Int32) <<< ((1 : Int32) &&& 31)) = (4 : Int32) from by decide]
  show Rn w l _ n0 _ 31 _ [(.int (4 : Int32))] h0 0 0
  refine Rn.istoreN K (q := 32) (Ls' := #[.val (.ref b), .val (.int (4 : Int32)), .val (.int x)]) d27_31 rfl rfl ?_
  refine Rn.aloadN K (q := 33) d27_32 rfl rfl rfl ?_
  refine Rn.iloadN K (q := 34) d27_33 rfl rfl ?_
  refine Rn.iinc K (q := 37) (Ls' := #[.val (.ref b), .val (.int (5 : Int32)), .val (.int x)]) (1 : Int32) d27_34 rfl rfl rfl rfl ?_
  refine Rn.iloadN K (q := 38) d27_37 rfl rfl ?_
  refine Rn.getS K (q := 41) (oT 141 rfl) (SH.ext X0.2) d27_38 rfl ?_
  refine Rn.ishr K (q := 42) d27_41 rfl ?_
  refine Rn.i2b K (q := 43) d27_42 rfl ?_
  refine Rn.bastoreB K (q := 44) (i := 4) Ab (by decide) rfl (oL rfl) gb d27_43 rfl ?_
  intro h1 W2 A3
  have f4 := X0.wr W2 gb
  have f5 := K1.wr W2 (Or.inl (oT 0 rfl))
  replace A3 : Arv Z h1 b k .byte (10 : Int32) [(.int y0), (.int y1), (.int y2), (.int y3), (.int (oB0 x)), (.int y5), (.int y6), (.int y7), (.int y8), (.int y9)] oZ := A3
  refine Rn.aloadN K (q := 45) d27_44 rfl rfl rfl ?_
  refine Rn.iloadN K (q := 46) d27_45 rfl rfl ?_
  refine Rn.iloadN K (q := 47) d27_46 rfl rfl ?_
  refine Rn.getS K (q := 50) (oT 142 rfl) (SW.ext f4.2) d27_47 rfl ?_
  refine Rn.ishr K (q := 51) d27_50 rfl ?_
  refine Rn.i2b K (q := 52) d27_51 rfl ?_
  refine Rn.bastoreB K (q := 53) (i := 5) A3 (by decide) rfl (oL rfl) gb d27_52 rfl ?_
  intro h6 W7 A8
  have f10 := f5.wr W7 (Or.inl (oT 0 rfl))
  replace A8 : Arv Z h6 b k .byte (10 : Int32) [(.int y0), (.int y1), (.int y2), (.int y3), (.int (oB0 x)), (.int (oB8 x)), (.int y6), (.int y7), (.int y8), (.int y9)] oZ := A8
  exact Rn.retV K rfl d27_53 (by decide) (by decide) ⟨rfl, f10, A8⟩
theorem m_gch5_2 (l : Launch) (Z : State) (a0 : Array Value) (hw : oH Z a0) (n0 : Nat) (h0 : Heap) (b : Addr) (k : ClassId) (x0 x1 x2 x3 x4 : Int32) (X0 : Old Z n0 h0) (SA : oS0 Z) (SH : oS1 Z) (SW : oS2 Z) (Ab : Arv Z h0 b k .byte (10 : Int32) [(.int (oB0 x0)), (.int (oB8 x0)), (.int (oB0 x1)), (.int (oB8 x1)), (.int (oB0 x2)), (.int (oB8 x2)), (.int (oB0 x3)), (.int (oB8 x3)), (.int (oB0 x4)), (.int (oB8 x4))] oZ) (cx : Chr x2) :
    Met l Z oM4 oC4 2 (some .char) (oR 0 0 0 0) n0 [] #[(.ref b), (.int (2 : Int32))] h0 (fun v h => v = some (.int x2) ∧ h0 = h) := by
  refine Met.intro (Ls := #[.val (.ref b), .val (.int (2 : Int32))]) (plainFor_of_name pn_m_cpr1_0) hw (fun _ => rfl) ?_
  intro w K0
  have K : oK4 w Z a0 := K0
  refine Rn.getS K (q := 3) (oT 140 rfl) (SA.ext X0.2) d28_0 rfl ?_
  refine Rn.ifY K (q := 28) d28_3 (XT.i0_ne_t (by decide)) (by decide) (by decide) ?_
  refine Rn.iloadN K (q := 29) d28_28 rfl rfl ?_
  refine Rn.iconst K (q := 30) (1 : Int32) d28_29 rfl rfl ?_
  refine Rn.ishl K (q := 31) d28_30 rfl ?_
  rw [show ((2 : Int32) <<< ((1 : Int32) &&& 31)) = (4 : Int32) from by decide]
  show Rn w l _ n0 _ 31 _ [(.int (4 : Int32))] h0 0 0
  refine Rn.istoreN K (q := 32) (Ls' := #[.val (.ref b), .val (.int (4 : Int32))]) d28_31 rfl rfl ?_
  refine Rn.aloadN K (q := 33) d28_32 rfl rfl rfl ?_
  refine Rn.iloadN K (q := 34) d28_33 rfl rfl ?_
  refine Rn.iinc K (q := 37) (Ls' := #[.val (.ref b), .val (.int (5 : Int32))]) (1 : Int32) d28_34 rfl rfl rfl rfl ?_
  refine Rn.baloadB K (q := 38) (v := (.int (oB0 x2))) Ab (by decide) rfl d28_37 rfl ?_
  refine Rn.sipush K (q := 41) (255 : Int32) d28_38 rfl rfl ?_
  refine Rn.iand K (q := 42) d28_41 rfl ?_
  refine Rn.getS K (q := 45) (oT 141 rfl) (SH.ext X0.2) d28_42 rfl ?_
  refine Rn.ishl K (q := 46) d28_45 rfl ?_
  refine Rn.aloadN K (q := 47) d28_46 rfl rfl rfl ?_
  refine Rn.iloadN K (q := 48) d28_47 rfl rfl ?_
  refine Rn.baloadB K (q := 49) (v := (.int (oB8 x2))) Ab (by decide) rfl d28_48 rfl ?_
  refine Rn.sipush K (q := 52) (255 : Int32) d28_49 rfl rfl ?_
  refine Rn.iand K (q := 53) d28_52 rfl ?_
  refine Rn.getS K (q := 56) (oT 142 rfl) (SW.ext X0.2) d28_53 rfl ?_
  refine Rn.ishl K (q := 57) d28_56 rfl ?_
  refine Rn.ior K (q := 58) d28_57 rfl ?_
  refine Rn.i2c K (q := 59) d28_58 rfl ?_
  exact Rn.retN K .char rfl (by simp) d28_59 (by decide) (by decide) ⟨by rw [own_gc cx], rfl⟩
theorem m_put5_3 (l : Launch) (Z : State) (a0 : Array Value) (hw : oH Z a0) (n0 : Nat) (h0 : Heap) (b : Addr) (k : ClassId) (x y0 y1 y2 y3 y4 y5 y6 y7 y8 y9 : Int32) (X0 : Old Z n0 h0) (SA : oS0 Z) (SH : oS1 Z) (SW : oS2 Z) (Ab : Arv Z h0 b k .byte (10 : Int32) [(.int y0), (.int y1), (.int y2), (.int y3), (.int y4), (.int y5), (.int y6), (.int y7), (.int y8), (.int y9)] oZ) (gb : n0 ≤ b) :
    Met l Z oM3 oC3 3 none (oR 0 0 0 0) n0 [] #[(.ref b), (.int (3 : Int32)), (.int x)] h0 (fun v h => v = none ∧ Keep h0 h [b] ∧ Arv Z h b k .byte (10 : Int32) [(.int y0), (.int y1), (.int y2), (.int y3), (.int y4), (.int y5), (.int (oB0 x)), (.int (oB8 x)), (.int y8), (.int y9)] oZ) := by
  refine Met.intro (Ls := #[.val (.ref b), .val (.int (3 : Int32)), .val (.int x)]) (plainFor_of_name pn_m_cpr1_0) hw (fun _ => rfl) ?_
  intro w K0
  have K : oK3 w Z a0 := K0
  have K1 := Keep.refl h0 [b]
  refine Rn.getS K (q := 3) (oT 140 rfl) (SA.ext X0.2) d27_0 rfl ?_
  refine Rn.ifY K (q := 28) d27_3 (XT.i0_ne_t (by decide)) (by decide) (by decide) ?_
  refine Rn.iloadN K (q := 29) d27_28 rfl rfl ?_
  refine Rn.iconst K (q := 30) (1 : Int32) d27_29 rfl rfl ?_
  refine Rn.ishl K (q := 31) d27_30 rfl ?_
  rw [show ((3 : Int32) <<< ((1 : Int32) &&& 31)) = (6 : Int32) from by decide]
  show Rn w l _ n0 _ 31 _ [(.int (6 : Int32))] h0 0 0
  refine Rn.istoreN K (q := 32) (Ls' := #[.val (.ref b), .val (.int (6 : Int32)), .val (.int x)]) d27_31 rfl rfl ?_
  refine Rn.aloadN K (q := 33) d27_32 rfl rfl rfl ?_
  refine Rn.iloadN K (q := 34) d27_33 rfl rfl ?_
  refine Rn.iinc K (q := 37) (Ls' := #[.val (.ref b), .val (.int (7 : Int32)), .val (.int x)]) (1 : Int32) d27_34 rfl rfl rfl rfl ?_
  refine Rn.iloadN K (q := 38) d27_37 rfl rfl ?_
  refine Rn.getS K (q := 41) (oT 141 rfl) (SH.ext X0.2) d27_38 rfl ?_
  refine Rn.ishr K (q := 42) d27_41 rfl ?_
  refine Rn.i2b K (q := 43) d27_42 rfl ?_
  refine Rn.bastoreB K (q := 44) (i := 6) Ab (by decide) rfl (oL rfl) gb d27_43 rfl ?_
  intro h1 W2 A3
  have f4 := X0.wr W2 gb
  have f5 := K1.wr W2 (Or.inl (oT 0 rfl))
  replace A3 : Arv Z h1 b k .byte (10 : Int32) [(.int y0), (.int y1), (.int y2), (.int y3), (.int y4), (.int y5), (.int (oB0 x)), (.int y7), (.int y8), (.int y9)] oZ := A3
  refine Rn.aloadN K (q := 45) d27_44 rfl rfl rfl ?_
  refine Rn.iloadN K (q := 46) d27_45 rfl rfl ?_
  refine Rn.iloadN K (q := 47) d27_46 rfl rfl ?_
  refine Rn.getS K (q := 50) (oT 142 rfl) (SW.ext f4.2) d27_47 rfl ?_
  refine Rn.ishr K (q := 51) d27_50 rfl ?_
  refine Rn.i2b K (q := 52) d27_51 rfl ?_
  refine Rn.bastoreB K (q := 53) (i := 7) A3 (by decide) rfl (oL rfl) gb d27_52 rfl ?_
  intro h6 W7 A8
  have f10 := f5.wr W7 (Or.inl (oT 0 rfl))
  replace A8 : Arv Z h6 b k .byte (10 : Int32) [(.int y0), (.int y1), (.int y2), (.int y3), (.int y4), (.int y5), (.int (oB0 x)), (.int (oB8 x)), (.int y8), (.int y9)] oZ := A8
  exact Rn.retV K rfl d27_53 (by decide) (by decide) ⟨rfl, f10, A8⟩
theorem m_gch5_3 (l : Launch) (Z : State) (a0 : Array Value) (hw : oH Z a0) (n0 : Nat) (h0 : Heap) (b : Addr) (k : ClassId) (x0 x1 x2 x3 x4 : Int32) (X0 : Old Z n0 h0) (SA : oS0 Z) (SH : oS1 Z) (SW : oS2 Z) (Ab : Arv Z h0 b k .byte (10 : Int32) [(.int (oB0 x0)), (.int (oB8 x0)), (.int (oB0 x1)), (.int (oB8 x1)), (.int (oB0 x2)), (.int (oB8 x2)), (.int (oB0 x3)), (.int (oB8 x3)), (.int (oB0 x4)), (.int (oB8 x4))] oZ) (cx : Chr x3) :
    Met l Z oM4 oC4 2 (some .char) (oR 0 0 0 0) n0 [] #[(.ref b), (.int (3 : Int32))] h0 (fun v h => v = some (.int x3) ∧ h0 = h) := by
  refine Met.intro (Ls := #[.val (.ref b), .val (.int (3 : Int32))]) (plainFor_of_name pn_m_cpr1_0) hw (fun _ => rfl) ?_
  intro w K0
  have K : oK4 w Z a0 := K0
  refine Rn.getS K (q := 3) (oT 140 rfl) (SA.ext X0.2) d28_0 rfl ?_
  refine Rn.ifY K (q := 28) d28_3 (XT.i0_ne_t (by decide)) (by decide) (by decide) ?_
  refine Rn.iloadN K (q := 29) d28_28 rfl rfl ?_
  refine Rn.iconst K (q := 30) (1 : Int32) d28_29 rfl rfl ?_
  refine Rn.ishl K (q := 31) d28_30 rfl ?_
  rw [show ((3 : Int32) <<< ((1 : Int32) &&& 31)) = (6 : Int32) from by decide]
  show Rn w l _ n0 _ 31 _ [(.int (6 : Int32))] h0 0 0
  refine Rn.istoreN K (q := 32) (Ls' := #[.val (.ref b), .val (.int (6 : Int32))]) d28_31 rfl rfl ?_
  refine Rn.aloadN K (q := 33) d28_32 rfl rfl rfl ?_
  refine Rn.iloadN K (q := 34) d28_33 rfl rfl ?_
  refine Rn.iinc K (q := 37) (Ls' := #[.val (.ref b), .val (.int (7 : Int32))]) (1 : Int32) d28_34 rfl rfl rfl rfl ?_
  refine Rn.baloadB K (q := 38) (v := (.int (oB0 x3))) Ab (by decide) rfl d28_37 rfl ?_
  refine Rn.sipush K (q := 41) (255 : Int32) d28_38 rfl rfl ?_
  refine Rn.iand K (q := 42) d28_41 rfl ?_
  refine Rn.getS K (q := 45) (oT 141 rfl) (SH.ext X0.2) d28_42 rfl ?_
  refine Rn.ishl K (q := 46) d28_45 rfl ?_
  refine Rn.aloadN K (q := 47) d28_46 rfl rfl rfl ?_
  refine Rn.iloadN K (q := 48) d28_47 rfl rfl ?_
  refine Rn.baloadB K (q := 49) (v := (.int (oB8 x3))) Ab (by decide) rfl d28_48 rfl ?_
  refine Rn.sipush K (q := 52) (255 : Int32) d28_49 rfl rfl ?_
  refine Rn.iand K (q := 53) d28_52 rfl ?_
  refine Rn.getS K (q := 56) (oT 142 rfl) (SW.ext X0.2) d28_53 rfl ?_
  refine Rn.ishl K (q := 57) d28_56 rfl ?_
  refine Rn.ior K (q := 58) d28_57 rfl ?_
  refine Rn.i2c K (q := 59) d28_58 rfl ?_
  exact Rn.retN K .char rfl (by simp) d28_59 (by decide) (by decide) ⟨by rw [own_gc cx], rfl⟩
theorem m_put5_4 (l : Launch) (Z : State) (a0 : Array Value) (hw : oH Z a0) (n0 : Nat) (h0 : Heap) (b : Addr) (k : ClassId) (x y0 y1 y2 y3 y4 y5 y6 y7 y8 y9 : Int32) (X0 : Old Z n0 h0) (SA : oS0 Z) (SH : oS1 Z) (SW : oS2 Z) (Ab : Arv Z h0 b k .byte (10 : Int32) [(.int y0), (.int y1), (.int y2), (.int y3), (.int y4), (.int y5), (.int y6), (.int y7), (.int y8), (.int y9)] oZ) (gb : n0 ≤ b) :
    Met l Z oM3 oC3 3 none (oR 0 0 0 0) n0 [] #[(.ref b), (.int (4 : Int32)), (.int x)] h0 (fun v h => v = none ∧ Keep h0 h [b] ∧ Arv Z h b k .byte (10 : Int32) [(.int y0), (.int y1), (.int y2), (.int y3), (.int y4), (.int y5), (.int y6), (.int y7), (.int (oB0 x)), (.int (oB8 x))] oZ) := by
  refine Met.intro (Ls := #[.val (.ref b), .val (.int (4 : Int32)), .val (.int x)]) (plainFor_of_name pn_m_cpr1_0) hw (fun _ => rfl) ?_
  intro w K0
  have K : oK3 w Z a0 := K0
  have K1 := Keep.refl h0 [b]
  refine Rn.getS K (q := 3) (oT 140 rfl) (SA.ext X0.2) d27_0 rfl ?_
  refine Rn.ifY K (q := 28) d27_3 (XT.i0_ne_t (by decide)) (by decide) (by decide) ?_
  refine Rn.iloadN K (q := 29) d27_28 rfl rfl ?_
  refine Rn.iconst K (q := 30) (1 : Int32) d27_29 rfl rfl ?_
  refine Rn.ishl K (q := 31) d27_30 rfl ?_
  rw [show ((4 : Int32) <<< ((1 : Int32) &&& 31)) = (8 : Int32) from by decide]
  show Rn w l _ n0 _ 31 _ [(.int (8 : Int32))] h0 0 0
  refine Rn.istoreN K (q := 32) (Ls' := #[.val (.ref b), .val (.int (8 : Int32)), .val (.int x)]) d27_31 rfl rfl ?_
  refine Rn.aloadN K (q := 33) d27_32 rfl rfl rfl ?_
  refine Rn.iloadN K (q := 34) d27_33 rfl rfl ?_
  refine Rn.iinc K (q := 37) (Ls' := #[.val (.ref b), .val (.int (9 : Int32)), .val (.int x)]) (1 : Int32) d27_34 rfl rfl rfl rfl ?_
  refine Rn.iloadN K (q := 38) d27_37 rfl rfl ?_
  refine Rn.getS K (q := 41) (oT 141 rfl) (SH.ext X0.2) d27_38 rfl ?_
  refine Rn.ishr K (q := 42) d27_41 rfl ?_
  refine Rn.i2b K (q := 43) d27_42 rfl ?_
  refine Rn.bastoreB K (q := 44) (i := 8) Ab (by decide) rfl (oL rfl) gb d27_43 rfl ?_
  intro h1 W2 A3
  have f4 := X0.wr W2 gb
  have f5 := K1.wr W2 (Or.inl (oT 0 rfl))
  replace A3 : Arv Z h1 b k .byte (10 : Int32) [(.int y0), (.int y1), (.int y2), (.int y3), (.int y4), (.int y5), (.int y6), (.int y7), (.int (oB0 x)), (.int y9)] oZ := A3
  refine Rn.aloadN K (q := 45) d27_44 rfl rfl rfl ?_
  refine Rn.iloadN K (q := 46) d27_45 rfl rfl ?_
  refine Rn.iloadN K (q := 47) d27_46 rfl rfl ?_
  refine Rn.getS K (q := 50) (oT 142 rfl) (SW.ext f4.2) d27_47 rfl ?_
  refine Rn.ishr K (q := 51) d27_50 rfl ?_
  refine Rn.i2b K (q := 52) d27_51 rfl ?_
  refine Rn.bastoreB K (q := 53) (i := 9) A3 (by decide) rfl (oL rfl) gb d27_52 rfl ?_
  intro h6 W7 A8
  have f10 := f5.wr W7 (Or.inl (oT 0 rfl))
  replace A8 : Arv Z h6 b k .byte (10 : Int32) [(.int y0), (.int y1), (.int y2), (.int y3), (.int y4), (.int y5), (.int y6), (.int y7), (.int (oB0 x)), (.int (oB8 x))] oZ := A8
  exact Rn.retV K rfl d27_53 (by decide) (by decide) ⟨rfl, f10, A8⟩
theorem m_gch5_4 (l : Launch) (Z : State) (a0 : Array Value) (hw : oH Z a0) (n0 : Nat) (h0 : Heap) (b : Addr) (k : ClassId) (x0 x1 x2 x3 x4 : Int32) (X0 : Old Z n0 h0) (SA : oS0 Z) (SH : oS1 Z) (SW : oS2 Z) (Ab : Arv Z h0 b k .byte (10 : Int32) [(.int (oB0 x0)), (.int (oB8 x0)), (.int (oB0 x1)), (.int (oB8 x1)), (.int (oB0 x2)), (.int (oB8 x2)), (.int (oB0 x3)), (.int (oB8 x3)), (.int (oB0 x4)), (.int (oB8 x4))] oZ) (cx : Chr x4) :
    Met l Z oM4 oC4 2 (some .char) (oR 0 0 0 0) n0 [] #[(.ref b), (.int (4 : Int32))] h0 (fun v h => v = some (.int x4) ∧ h0 = h) := by
  refine Met.intro (Ls := #[.val (.ref b), .val (.int (4 : Int32))]) (plainFor_of_name pn_m_cpr1_0) hw (fun _ => rfl) ?_
  intro w K0
  have K : oK4 w Z a0 := K0
  refine Rn.getS K (q := 3) (oT 140 rfl) (SA.ext X0.2) d28_0 rfl ?_
  refine Rn.ifY K (q := 28) d28_3 (XT.i0_ne_t (by decide)) (by decide) (by decide) ?_
  refine Rn.iloadN K (q := 29) d28_28 rfl rfl ?_
  refine Rn.iconst K (q := 30) (1 : Int32) d28_29 rfl rfl ?_
  refine Rn.ishl K (q := 31) d28_30 rfl ?_
  rw [show ((4 : Int32) <<< ((1 : Int32) &&& 31)) = (8 : Int32) from by decide]
  show Rn w l _ n0 _ 31 _ [(.int (8 : Int32))] h0 0 0
  refine Rn.istoreN K (q := 32) (Ls' := #[.val (.ref b), .val (.int (8 : Int32))]) d28_31 rfl rfl ?_
  refine Rn.aloadN K (q := 33) d28_32 rfl rfl rfl ?_
  refine Rn.iloadN K (q := 34) d28_33 rfl rfl ?_
  refine Rn.iinc K (q := 37) (Ls' := #[.val (.ref b), .val (.int (9 : Int32))]) (1 : Int32) d28_34 rfl rfl rfl rfl ?_
  refine Rn.baloadB K (q := 38) (v := (.int (oB0 x4))) Ab (by decide) rfl d28_37 rfl ?_
  refine Rn.sipush K (q := 41) (255 : Int32) d28_38 rfl rfl ?_
  refine Rn.iand K (q := 42) d28_41 rfl ?_
  refine Rn.getS K (q := 45) (oT 141 rfl) (SH.ext X0.2) d28_42 rfl ?_
  refine Rn.ishl K (q := 46) d28_45 rfl ?_
  refine Rn.aloadN K (q := 47) d28_46 rfl rfl rfl ?_
  refine Rn.iloadN K (q := 48) d28_47 rfl rfl ?_
  refine Rn.baloadB K (q := 49) (v := (.int (oB8 x4))) Ab (by decide) rfl d28_48 rfl ?_
  refine Rn.sipush K (q := 52) (255 : Int32) d28_49 rfl rfl ?_
  refine Rn.iand K (q := 53) d28_52 rfl ?_
  refine Rn.getS K (q := 56) (oT 142 rfl) (SW.ext X0.2) d28_53 rfl ?_
  refine Rn.ishl K (q := 57) d28_56 rfl ?_
  refine Rn.ior K (q := 58) d28_57 rfl ?_
  refine Rn.i2c K (q := 59) d28_58 rfl ?_
  exact Rn.retN K .char rfl (by simp) d28_59 (by decide) (by decide) ⟨by rw [own_gc cx], rfl⟩
theorem m_tob5 (l : Launch) (Z : State) (a0 : Array Value) (hw : oH Z a0) (n0 : Nat) (h0 : Heap) (c : Addr) (kc : ClassId) (x0 x1 x2 x3 x4 : Int32) (X0 : Old Z n0 h0) (SA : oS0 Z) (SH : oS1 Z) (SW : oS2 Z) (Ec : Exa Z h0 c "[C") (Ac : Arv Z h0 c kc .char (5 : Int32) [(.int x0), (.int x1), (.int x2), (.int x3), (.int x4)] oZ) :
    Met l Z oM5 oC5 5 (some (.array .byte)) (oR 2 1 10 24) n0 [] #[(.ref c), oZ, (.int (5 : Int32))] h0 (fun v h => ∃ b k, v = some (.ref b) ∧ h0.size ≤ b ∧ Keep h0 h [] ∧ Exa Z h b "[B" ∧ Arv Z h b k .byte (10 : Int32) [(.int (oB0 x0)), (.int (oB8 x0)), (.int (oB0 x1)), (.int (oB8 x1)), (.int (oB0 x2)), (.int (oB8 x2)), (.int (oB0 x3)), (.int (oB8 x3)), (.int (oB0 x4)), (.int (oB8 x4))] oZ) := by
  refine Met.intro (Ls := #[.val (.ref c), .val oZ, .val (.int (5 : Int32)), .unset, .unset]) (plainFor_of_name pn_m_cpr1_0) hw (fun _ => rfl) ?_
  intro w K0
  have K : oK5 w Z a0 := K0
  have K1 := Keep.refl h0 []
  refine Rn.iloadN K (q := 1) d24_0 rfl rfl ?_
  refine Rn.stat K (q := 4) (W := 0) (y := oM2) (argsL := [(.int (5 : Int32))]) (rest := []) (oT 130 rfl) (oT 131 rfl) (oT 132 rfl) (oT 102 rfl) (by decide) (m_nbf5 l Z a0 hw n0 h0 X0) (by decide) (by decide) rfl (lenOf pd_1 rfl) rfl (oL rfl) d24_1 rfl (by decide) (by decide) ?_
  rintro _ h1 ⟨b, k, rfl, sz, Kn, Eb, Ab⟩
  have f1 := X0.keep Kn all0
  have f2 := K1.trans Kn all0
  have f3 := Ec.keep Kn
  have f4 := Ac.keep Kn nin0
  show Rn w l _ n0 _ 4 _ [(.ref b)] h1 1 10
  refine Rn.astoreN K (q := 5) (Ls' := #[.val (.ref c), .val oZ, .val (.int (5 : Int32)), .val (.ref b), .unset]) d24_4 rfl rfl rfl ?_
  refine Rn.iconst K (q := 6) (0 : Int32) d24_5 rfl rfl ?_
  refine Rn.istore K (q := 8) (Ls' := #[.val (.ref c), .val oZ, .val (.int (5 : Int32)), .val (.ref b), .val oZ]) d24_6 rfl rfl ?_
  refine Rn.iload K (q := 10) d24_8 rfl rfl ?_
  refine Rn.iloadN K (q := 11) d24_10 rfl rfl ?_
  refine Rn.icN K (q := 14) d24_11 (XT.ii_ge_f (by decide)) rfl ?_
  refine Rn.aloadN K (q := 15) d24_14 rfl rfl rfl ?_
  refine Rn.iload K (q := 17) d24_15 rfl rfl ?_
  refine Rn.aloadN K (q := 18) d24_17 rfl rfl rfl ?_
  refine Rn.iloadN K (q := 19) d24_18 rfl rfl ?_
  refine Rn.caload K (q := 20) (v := (.int x0)) f4 (by decide) rfl d24_19 rfl ?_
  refine Rn.stat K (q := 23) (W := 0) (y := oM3) (argsL := [(.ref b), oZ, (.int x0)]) (rest := []) (oT 137 rfl) (oT 138 rfl) (oT 139 rfl) (oT 102 rfl) (by decide) (m_put5_0 l Z a0 hw n0 h1 b k x0 (0 : Int32) (0 : Int32) (0 : Int32) (0 : Int32) (0 : Int32) (0 : Int32) (0 : Int32) (0 : Int32) (0 : Int32) (0 : Int32) f1 SA SH SW Ab (own_g X0 sz)) (by decide) (by decide) rfl (lenOf pd_2 rfl) rfl (oL rfl) d24_20 rfl (by decide) (by decide) ?_
  rintro _ h5 ⟨rfl, K6, A7⟩
  have f8 := f1.keep K6 (allS (own_g X0 sz) all0)
  have f9 := f2.trans K6 (allS (Or.inr sz) all0)
  have f10 := f3.keep K6
  have f11 := f4.keep K6 (ninS (ne_exa f3 Eb (by decide)) nin0)
  have f12 := Eb.keep K6
  show Rn w l _ n0 _ 23 _ [] h5 1 10
  refine Rn.iinc K (q := 26) (Ls' := #[.val (.ref c), .val (.int (1 : Int32)), .val (.int (5 : Int32)), .val (.ref b), .val oZ]) (1 : Int32) d24_23 rfl rfl rfl rfl ?_
  refine Rn.iinc K (q := 29) (Ls' := #[.val (.ref c), .val (.int (1 : Int32)), .val (.int (5 : Int32)), .val (.ref b), .val (.int (1 : Int32))]) (1 : Int32) d24_26 rfl rfl rfl rfl ?_
  refine Rn.goto K (q := 8) d24_29 (by decide) (by decide) ?_
  refine Rn.iload K (q := 10) d24_8 rfl rfl ?_
  refine Rn.iloadN K (q := 11) d24_10 rfl rfl ?_
  refine Rn.icN K (q := 14) d24_11 (XT.ii_ge_f (by decide)) rfl ?_
  refine Rn.aloadN K (q := 15) d24_14 rfl rfl rfl ?_
  refine Rn.iload K (q := 17) d24_15 rfl rfl ?_
  refine Rn.aloadN K (q := 18) d24_17 rfl rfl rfl ?_
  refine Rn.iloadN K (q := 19) d24_18 rfl rfl ?_
  refine Rn.caload K (q := 20) (v := (.int x1)) f11 (by decide) rfl d24_19 rfl ?_
  refine Rn.stat K (q := 23) (W := 0) (y := oM3) (argsL := [(.ref b), (.int (1 : Int32)), (.int x1)]) (rest := []) (oT 137 rfl) (oT 138 rfl) (oT 139 rfl) (oT 102 rfl) (by decide) (m_put5_1 l Z a0 hw n0 h5 b k x1 (oB0 x0) (oB8 x0) (0 : Int32) (0 : Int32) (0 : Int32) (0 : Int32) (0 : Int32) (0 : Int32) (0 : Int32) (0 : Int32) f8 SA SH SW A7 (own_g X0 sz)) (by decide) (by decide) rfl (lenOf pd_2 rfl) rfl (oL rfl) d24_20 rfl (by decide) (by decide) ?_
  rintro _ h13 ⟨rfl, K14, A15⟩
  have f16 := f8.keep K14 (allS (own_g X0 sz) all0)
  have f17 := f9.trans K14 (allS (Or.inr sz) all0)
  have f18 := f10.keep K14
  have f19 := f11.keep K14 (ninS (ne_exa f10 f12 (by decide)) nin0)
  have f20 := f12.keep K14
  show Rn w l _ n0 _ 23 _ [] h13 1 10
  refine Rn.iinc K (q := 26) (Ls' := #[.val (.ref c), .val (.int (2 : Int32)), .val (.int (5 : Int32)), .val (.ref b), .val (.int (1 : Int32))]) (1 : Int32) d24_23 rfl rfl rfl rfl ?_
  refine Rn.iinc K (q := 29) (Ls' := #[.val (.ref c), .val (.int (2 : Int32)), .val (.int (5 : Int32)), .val (.ref b), .val (.int (2 : Int32))]) (1 : Int32) d24_26 rfl rfl rfl rfl ?_
  refine Rn.goto K (q := 8) d24_29 (by decide) (by decide) ?_
  refine Rn.iload K (q := 10) d24_8 rfl rfl ?_
  refine Rn.iloadN K (q := 11) d24_10 rfl rfl ?_
  refine Rn.icN K (q := 14) d24_11 (XT.ii_ge_f (by decide)) rfl ?_
  refine Rn.aloadN K (q := 15) d24_14 rfl rfl rfl ?_
  refine Rn.iload K (q := 17) d24_15 rfl rfl ?_
  refine Rn.aloadN K (q := 18) d24_17 rfl rfl rfl ?_
  refine Rn.iloadN K (q := 19) d24_18 rfl rfl ?_
  refine Rn.caload K (q := 20) (v := (.int x2)) f19 (by decide) rfl d24_19 rfl ?_
  refine Rn.stat K (q := 23) (W := 0) (y := oM3) (argsL := [(.ref b), (.int (2 : Int32)), (.int x2)]) (rest := []) (oT 137 rfl) (oT 138 rfl) (oT 139 rfl) (oT 102 rfl) (by decide) (m_put5_2 l Z a0 hw n0 h13 b k x2 (oB0 x0) (oB8 x0) (oB0 x1) (oB8 x1) (0 : Int32) (0 : Int32) (0 : Int32) (0 : Int32) (0 : Int32) (0 : Int32) f16 SA SH SW A15 (own_g X0 sz)) (by decide) (by decide) rfl (lenOf pd_2 rfl) rfl (oL rfl) d24_20 rfl (by decide) (by decide) ?_
  rintro _ h21 ⟨rfl, K22, A23⟩
  have f24 := f16.keep K22 (allS (own_g X0 sz) all0)
  have f25 := f17.trans K22 (allS (Or.inr sz) all0)
  have f26 := f18.keep K22
  have f27 := f19.keep K22 (ninS (ne_exa f18 f20 (by decide)) nin0)
  have f28 := f20.keep K22
  show Rn w l _ n0 _ 23 _ [] h21 1 10
  refine Rn.iinc K (q := 26) (Ls' := #[.val (.ref c), .val (.int (3 : Int32)), .val (.int (5 : Int32)), .val (.ref b), .val (.int (2 : Int32))]) (1 : Int32) d24_23 rfl rfl rfl rfl ?_
  refine Rn.iinc K (q := 29) (Ls' := #[.val (.ref c), .val (.int (3 : Int32)), .val (.int (5 : Int32)), .val (.ref b), .val (.int (3 : Int32))]) (1 : Int32) d24_26 rfl rfl rfl rfl ?_
  refine Rn.goto K (q := 8) d24_29 (by decide) (by decide) ?_
  refine Rn.iload K (q := 10) d24_8 rfl rfl ?_
  refine Rn.iloadN K (q := 11) d24_10 rfl rfl ?_
  refine Rn.icN K (q := 14) d24_11 (XT.ii_ge_f (by decide)) rfl ?_
  refine Rn.aloadN K (q := 15) d24_14 rfl rfl rfl ?_
  refine Rn.iload K (q := 17) d24_15 rfl rfl ?_
  refine Rn.aloadN K (q := 18) d24_17 rfl rfl rfl ?_
  refine Rn.iloadN K (q := 19) d24_18 rfl rfl ?_
  refine Rn.caload K (q := 20) (v := (.int x3)) f27 (by decide) rfl d24_19 rfl ?_
  refine Rn.stat K (q := 23) (W := 0) (y := oM3) (argsL := [(.ref b), (.int (3 : Int32)), (.int x3)]) (rest := []) (oT 137 rfl) (oT 138 rfl) (oT 139 rfl) (oT 102 rfl) (by decide) (m_put5_3 l Z a0 hw n0 h21 b k x3 (oB0 x0) (oB8 x0) (oB0 x1) (oB8 x1) (oB0 x2) (oB8 x2) (0 : Int32) (0 : Int32) (0 : Int32) (0 : Int32) f24 SA SH SW A23 (own_g X0 sz)) (by decide) (by decide) rfl (lenOf pd_2 rfl) rfl (oL rfl) d24_20 rfl (by decide) (by decide) ?_
  rintro _ h29 ⟨rfl, K30, A31⟩
  have f32 := f24.keep K30 (allS (own_g X0 sz) all0)
  have f33 := f25.trans K30 (allS (Or.inr sz) all0)
  have f35 := f27.keep K30 (ninS (ne_exa f26 f28 (by decide)) nin0)
  have f36 := f28.keep K30
  show Rn w l _ n0 _ 23 _ [] h29 1 10
  refine Rn.iinc K (q := 26) (Ls' := #[.val (.ref c), .val (.int (4 : Int32)), .val (.int (5 : Int32)), .val (.ref b), .val (.int (3 : Int32))]) (1 : Int32) d24_23 rfl rfl rfl rfl ?_
  refine Rn.iinc K (q := 29) (Ls' := #[.val (.ref c), .val (.int (4 : Int32)), .val (.int (5 : Int32)), .val (.ref b), .val (.int (4 : Int32))]) (1 : Int32) d24_26 rfl rfl rfl rfl ?_
  refine Rn.goto K (q := 8) d24_29 (by decide) (by decide) ?_
  refine Rn.iload K (q := 10) d24_8 rfl rfl ?_
  refine Rn.iloadN K (q := 11) d24_10 rfl rfl ?_
  refine Rn.icN K (q := 14) d24_11 (XT.ii_ge_f (by decide)) rfl ?_
  refine Rn.aloadN K (q := 15) d24_14 rfl rfl rfl ?_
  refine Rn.iload K (q := 17) d24_15 rfl rfl ?_
  refine Rn.aloadN K (q := 18) d24_17 rfl rfl rfl ?_
  refine Rn.iloadN K (q := 19) d24_18 rfl rfl ?_
  refine Rn.caload K (q := 20) (v := (.int x4)) f35 (by decide) rfl d24_19 rfl ?_
  refine Rn.stat K (q := 23) (W := 0) (y := oM3) (argsL := [(.ref b), (.int (4 : Int32)), (.int x4)]) (rest := []) (oT 137 rfl) (oT 138 rfl) (oT 139 rfl) (oT 102 rfl) (by decide) (m_put5_4 l Z a0 hw n0 h29 b k x4 (oB0 x0) (oB8 x0) (oB0 x1) (oB8 x1) (oB0 x2) (oB8 x2) (oB0 x3) (oB8 x3) (0 : Int32) (0 : Int32) f32 SA SH SW A31 (own_g X0 sz)) (by decide) (by decide) rfl (lenOf pd_2 rfl) rfl (oL rfl) d24_20 rfl (by decide) (by decide) ?_
  rintro _ h37 ⟨rfl, K38, A39⟩
  have f41 := f33.trans K38 (allS (Or.inr sz) all0)
  have f44 := f36.keep K38
  show Rn w l _ n0 _ 23 _ [] h37 1 10
  refine Rn.iinc K (q := 26) (Ls' := #[.val (.ref c), .val (.int (5 : Int32)), .val (.int (5 : Int32)), .val (.ref b), .val (.int (4 : Int32))]) (1 : Int32) d24_23 rfl rfl rfl rfl ?_
  refine Rn.iinc K (q := 29) (Ls' := #[.val (.ref c), .val (.int (5 : Int32)), .val (.int (5 : Int32)), .val (.ref b), .val (.int (5 : Int32))]) (1 : Int32) d24_26 rfl rfl rfl rfl ?_
  refine Rn.goto K (q := 8) d24_29 (by decide) (by decide) ?_
  refine Rn.iload K (q := 10) d24_8 rfl rfl ?_
  refine Rn.iloadN K (q := 11) d24_10 rfl rfl ?_
  refine Rn.icY K (q := 32) d24_11 (XT.ii_ge_t (by decide)) (by decide) (by decide) ?_
  refine Rn.aloadN K (q := 33) d24_32 rfl rfl rfl ?_
  exact Rn.retA K (.array .byte) rfl rfl rfl d24_33 (by decide) (by decide) ⟨_, _, rfl, sz, f41, f44, A39⟩
theorem m_cp5_0 (l : Launch) (Z : State) (a0 : Array Value) (hw : oH Z a0) (n0 : Nat) (h0 : Heap) (c : Addr) (kc : ClassId) (x0 x1 x2 x3 x4 : Int32) (X0 : Old Z n0 h0) (SA : oS0 Z) (SH : oS1 Z) (SW : oS2 Z) (Ec : Exa Z h0 c "[C") (Ac : Arv Z h0 c kc .char (5 : Int32) [(.int x0), (.int x1), (.int x2), (.int x3), (.int x4)] oZ) (cx0 : Chr x0) (cx1 : Chr x1) (cx2 : Chr x2) (cx3 : Chr x3) (cx4 : Chr x4) (bx : (255 : Int32) < x0) :
    Met l Z oM6 oC6 6 (some (.array .byte)) (oR 3 2 15 40) n0 [] #[(.ref c), oZ, (.int (5 : Int32))] h0 (fun v h => ∃ b k, v = some (.ref b) ∧ Keep h0 h [] ∧ Exa Z h b "[B" ∧ Arv Z h b k .byte (10 : Int32) [(.int (oB0 x0)), (.int (oB8 x0)), (.int (oB0 x1)), (.int (oB8 x1)), (.int (oB0 x2)), (.int (oB8 x2)), (.int (oB0 x3)), (.int (oB8 x3)), (.int (oB0 x4)), (.int (oB8 x4))] oZ) := by
  refine Met.intro (Ls := #[.val (.ref c), .val oZ, .val (.int (5 : Int32)), .unset, .unset, .unset]) (plainFor_of_name pn_m_cpr1_0) hw (fun _ => rfl) ?_
  intro w K0
  have K : oK6 w Z a0 := K0
  have K1 := Keep.refl h0 []
  refine Rn.iloadN K (q := 1) d18_0 rfl rfl ?_
  refine Rn.newP K (q := 3) (cap := 5) (oT 21 rfl) (by decide) (by decide) (by decide) (by decide) (by decide) (ad := "[B") (by decide) d18_1 rfl ?_
  intro b1 h2 k4 gb1_ X3 A_b1 EA_b1
  have ne_c_b1 : c ≠ b1 := fun e => absurd Ec.lt (by rw [e, gb1_]; exact Nat.lt_irrefl _)
  have ne_c_b1 : c ≠ b1 := fun e => absurd Ec.lt (by rw [e, gb1_]; exact Nat.lt_irrefl _)
  have g_b1 : n0 ≤ b1 := by rw [gb1_]; exact X0.1 ▸ X0.2.1
  have sz_b1 : h0.size ≤ b1 := by rw [gb1_]; exact K1.1
  have f5 := X0.ext X3
  have f6 := K1.ext X3
  have f7 := Ec.ext X3
  have f8 := Ac.ext X3
  replace A_b1 : Arv Z h2 b1 k4 .byte (5 : Int32) [oZ, oZ, oZ, oZ, oZ] oZ := A_b1.pad (pad_rep [] oZ 5)
  show Rn w l _ n0 _ 3 _ [(.ref b1)] h2 1 5
  refine Rn.astoreN K (q := 4) (Ls' := #[.val (.ref c), .val oZ, .val (.int (5 : Int32)), .val (.ref b1), .unset, .unset]) d18_3 rfl rfl rfl ?_
  refine Rn.aloadN K (q := 5) d18_4 rfl rfl rfl ?_
  refine Rn.iloadN K (q := 6) d18_5 rfl rfl ?_
  refine Rn.aloadN K (q := 7) d18_6 rfl rfl rfl ?_
  refine Rn.iconst K (q := 8) (0 : Int32) d18_7 rfl rfl ?_
  refine Rn.iloadN K (q := 9) d18_8 rfl rfl ?_
  refine Rn.stat K (q := 12) (W := 0) (y := oM0) (argsL := [(.ref c), oZ, (.ref b1), oZ, (.int (5 : Int32))]) (rest := []) (oT 104 rfl) (oT 105 rfl) (oT 106 rfl) (oT 102 rfl) (by decide) (m_cpr5_0 l Z a0 hw n0 h2 c b1 kc k4 x0 x1 x2 x3 x4 f5 f7 f8 EA_b1 A_b1 g_b1 bx) (by decide) (by decide) rfl (lenOf pd_3 rfl) rfl (oL rfl) d18_9 rfl (by decide) (by decide) ?_
  rintro _ h9 ⟨rfl, K10⟩
  have f12 := f5.keep K10 (allS g_b1 all0)
  have f13 := f6.trans K10 (allS (Or.inr sz_b1) all0)
  have f14 := f7.keep K10
  have f15 := f8.keep K10 (ninS ne_c_b1 nin0)
  show Rn w l _ n0 _ 12 _ [oZ] h9 1 5
  refine Rn.istore K (q := 14) (Ls' := #[.val (.ref c), .val oZ, .val (.int (5 : Int32)), .val (.ref b1), .val oZ, .unset]) d18_12 rfl rfl ?_
  refine Rn.iload K (q := 16) d18_14 rfl rfl ?_
  refine Rn.iloadN K (q := 17) d18_16 rfl rfl ?_
  refine Rn.icN K (q := 20) d18_17 (XT.ii_eq_f (by decide)) rfl ?_
  refine Rn.aloadN K (q := 21) d18_20 rfl rfl rfl ?_
  refine Rn.iloadN K (q := 22) d18_21 rfl rfl ?_
  refine Rn.iloadN K (q := 23) d18_22 rfl rfl ?_
  refine Rn.stat K (q := 26) (W := 0) (y := oM5) (argsL := [(.ref c), oZ, (.int (5 : Int32))]) (rest := []) (oT 127 rfl) (oT 128 rfl) (oT 129 rfl) (oT 102 rfl) (by decide) (m_tob5 l Z a0 hw n0 h9 c kc x0 x1 x2 x3 x4 f12 SA SH SW f14 f15) (by decide) (by decide) rfl (lenOf pd_4 rfl) rfl (oL rfl) d18_23 rfl (by decide) (by decide) ?_
  rintro _ h17 ⟨u, ku, rfl, -, K18, E19, A20⟩
  have f21 := f12.keep K18 all0
  have f22 := f13.trans K18 all0
  show Rn w l _ n0 _ 26 _ [(.ref u)] h17 2 15
  refine Rn.astore K (q := 28) (Ls' := #[.val (.ref c), .val oZ, .val (.int (5 : Int32)), .val (.ref b1), .val oZ, .val (.ref u)]) d18_26 rfl rfl rfl ?_
  refine Rn.aload K (q := 30) d18_28 rfl rfl rfl ?_
  refine Rn.iload K (q := 32) d18_30 rfl rfl ?_
  refine Rn.stat K (q := 35) (W := 0) (y := oM4) (argsL := [(.ref u), oZ]) (rest := []) (oT 143 rfl) (oT 144 rfl) (oT 145 rfl) (oT 102 rfl) (by decide) (m_gch5_0 l Z a0 hw n0 h17 u ku x0 x1 x2 x3 x4 f21 SA SH SW A20 cx0) (by decide) (by decide) rfl (lenOf pd_5 rfl) rfl (oL rfl) d18_32 rfl (by decide) (by decide) ?_
  rintro _ _ ⟨rfl, rfl⟩
  show Rn w l _ n0 _ 35 _ [(.int x0)] h17 2 15
  refine Rn.sipush K (q := 38) (255 : Int32) d18_35 rfl rfl ?_
  refine Rn.icY K (q := 54) d18_38 (XT.ii_gt_t bx) (by decide) (by decide) ?_
  refine Rn.aload K (q := 56) d18_54 rfl rfl rfl ?_
  exact Rn.retA K (.array .byte) rfl rfl rfl d18_56 (by decide) (by decide) ⟨_, _, rfl, f22, E19, A20⟩
theorem m_cp5_1 (l : Launch) (Z : State) (a0 : Array Value) (hw : oH Z a0) (n0 : Nat) (h0 : Heap) (c : Addr) (kc : ClassId) (x0 x1 x2 x3 x4 : Int32) (X0 : Old Z n0 h0) (SA : oS0 Z) (SH : oS1 Z) (SW : oS2 Z) (Ec : Exa Z h0 c "[C") (Ac : Arv Z h0 c kc .char (5 : Int32) [(.int x0), (.int x1), (.int x2), (.int x3), (.int x4)] oZ) (cx0 : Chr x0) (cx1 : Chr x1) (cx2 : Chr x2) (cx3 : Chr x3) (cx4 : Chr x4) (hx0 : ¬ (255 : Int32) < x0) (bx : (255 : Int32) < x1) :
    Met l Z oM6 oC6 6 (some (.array .byte)) (oR 3 2 15 40) n0 [] #[(.ref c), oZ, (.int (5 : Int32))] h0 (fun v h => ∃ b k, v = some (.ref b) ∧ Keep h0 h [] ∧ Exa Z h b "[B" ∧ Arv Z h b k .byte (10 : Int32) [(.int (oB0 x0)), (.int (oB8 x0)), (.int (oB0 x1)), (.int (oB8 x1)), (.int (oB0 x2)), (.int (oB8 x2)), (.int (oB0 x3)), (.int (oB8 x3)), (.int (oB0 x4)), (.int (oB8 x4))] oZ) := by
  refine Met.intro (Ls := #[.val (.ref c), .val oZ, .val (.int (5 : Int32)), .unset, .unset, .unset]) (plainFor_of_name pn_m_cpr1_0) hw (fun _ => rfl) ?_
  intro w K0
  have K : oK6 w Z a0 := K0
  have K1 := Keep.refl h0 []
  refine Rn.iloadN K (q := 1) d18_0 rfl rfl ?_
  refine Rn.newP K (q := 3) (cap := 5) (oT 21 rfl) (by decide) (by decide) (by decide) (by decide) (by decide) (ad := "[B") (by decide) d18_1 rfl ?_
  intro b1 h2 k4 gb1_ X3 A_b1 EA_b1
  have ne_c_b1 : c ≠ b1 := fun e => absurd Ec.lt (by rw [e, gb1_]; exact Nat.lt_irrefl _)
  have ne_c_b1 : c ≠ b1 := fun e => absurd Ec.lt (by rw [e, gb1_]; exact Nat.lt_irrefl _)
  have g_b1 : n0 ≤ b1 := by rw [gb1_]; exact X0.1 ▸ X0.2.1
  have sz_b1 : h0.size ≤ b1 := by rw [gb1_]; exact K1.1
  have f5 := X0.ext X3
  have f6 := K1.ext X3
  have f7 := Ec.ext X3
  have f8 := Ac.ext X3
  replace A_b1 : Arv Z h2 b1 k4 .byte (5 : Int32) [oZ, oZ, oZ, oZ, oZ] oZ := A_b1.pad (pad_rep [] oZ 5)
  show Rn w l _ n0 _ 3 _ [(.ref b1)] h2 1 5
  refine Rn.astoreN K (q := 4) (Ls' := #[.val (.ref c), .val oZ, .val (.int (5 : Int32)), .val (.ref b1), .unset, .unset]) d18_3 rfl rfl rfl ?_
  refine Rn.aloadN K (q := 5) d18_4 rfl rfl rfl ?_
  refine Rn.iloadN K (q := 6) d18_5 rfl rfl ?_
  refine Rn.aloadN K (q := 7) d18_6 rfl rfl rfl ?_
  refine Rn.iconst K (q := 8) (0 : Int32) d18_7 rfl rfl ?_
  refine Rn.iloadN K (q := 9) d18_8 rfl rfl ?_
  refine Rn.stat K (q := 12) (W := 0) (y := oM0) (argsL := [(.ref c), oZ, (.ref b1), oZ, (.int (5 : Int32))]) (rest := []) (oT 104 rfl) (oT 105 rfl) (oT 106 rfl) (oT 102 rfl) (by decide) (m_cpr5_1 l Z a0 hw n0 h2 c b1 kc k4 x0 x1 x2 x3 x4 f5 f7 f8 EA_b1 A_b1 g_b1 hx0 bx) (by decide) (by decide) rfl (lenOf pd_3 rfl) rfl (oL rfl) d18_9 rfl (by decide) (by decide) ?_
  rintro _ h9 ⟨rfl, K10⟩
  have f12 := f5.keep K10 (allS g_b1 all0)
  have f13 := f6.trans K10 (allS (Or.inr sz_b1) all0)
  have f14 := f7.keep K10
  have f15 := f8.keep K10 (ninS ne_c_b1 nin0)
  show Rn w l _ n0 _ 12 _ [(.int (1 : Int32))] h9 1 5
  refine Rn.istore K (q := 14) (Ls' := #[.val (.ref c), .val oZ, .val (.int (5 : Int32)), .val (.ref b1), .val (.int (1 : Int32)), .unset]) d18_12 rfl rfl ?_
  refine Rn.iload K (q := 16) d18_14 rfl rfl ?_
  refine Rn.iloadN K (q := 17) d18_16 rfl rfl ?_
  refine Rn.icN K (q := 20) d18_17 (XT.ii_eq_f (by decide)) rfl ?_
  refine Rn.aloadN K (q := 21) d18_20 rfl rfl rfl ?_
  refine Rn.iloadN K (q := 22) d18_21 rfl rfl ?_
  refine Rn.iloadN K (q := 23) d18_22 rfl rfl ?_
  refine Rn.stat K (q := 26) (W := 0) (y := oM5) (argsL := [(.ref c), oZ, (.int (5 : Int32))]) (rest := []) (oT 127 rfl) (oT 128 rfl) (oT 129 rfl) (oT 102 rfl) (by decide) (m_tob5 l Z a0 hw n0 h9 c kc x0 x1 x2 x3 x4 f12 SA SH SW f14 f15) (by decide) (by decide) rfl (lenOf pd_4 rfl) rfl (oL rfl) d18_23 rfl (by decide) (by decide) ?_
  rintro _ h17 ⟨u, ku, rfl, -, K18, E19, A20⟩
  have f21 := f12.keep K18 all0
  have f22 := f13.trans K18 all0
  show Rn w l _ n0 _ 26 _ [(.ref u)] h17 2 15
  refine Rn.astore K (q := 28) (Ls' := #[.val (.ref c), .val oZ, .val (.int (5 : Int32)), .val (.ref b1), .val (.int (1 : Int32)), .val (.ref u)]) d18_26 rfl rfl rfl ?_
  refine Rn.aload K (q := 30) d18_28 rfl rfl rfl ?_
  refine Rn.iload K (q := 32) d18_30 rfl rfl ?_
  refine Rn.stat K (q := 35) (W := 0) (y := oM4) (argsL := [(.ref u), (.int (1 : Int32))]) (rest := []) (oT 143 rfl) (oT 144 rfl) (oT 145 rfl) (oT 102 rfl) (by decide) (m_gch5_1 l Z a0 hw n0 h17 u ku x0 x1 x2 x3 x4 f21 SA SH SW A20 cx1) (by decide) (by decide) rfl (lenOf pd_5 rfl) rfl (oL rfl) d18_32 rfl (by decide) (by decide) ?_
  rintro _ _ ⟨rfl, rfl⟩
  show Rn w l _ n0 _ 35 _ [(.int x1)] h17 2 15
  refine Rn.sipush K (q := 38) (255 : Int32) d18_35 rfl rfl ?_
  refine Rn.icY K (q := 54) d18_38 (XT.ii_gt_t bx) (by decide) (by decide) ?_
  refine Rn.aload K (q := 56) d18_54 rfl rfl rfl ?_
  exact Rn.retA K (.array .byte) rfl rfl rfl d18_56 (by decide) (by decide) ⟨_, _, rfl, f22, E19, A20⟩
theorem m_cp5_2 (l : Launch) (Z : State) (a0 : Array Value) (hw : oH Z a0) (n0 : Nat) (h0 : Heap) (c : Addr) (kc : ClassId) (x0 x1 x2 x3 x4 : Int32) (X0 : Old Z n0 h0) (SA : oS0 Z) (SH : oS1 Z) (SW : oS2 Z) (Ec : Exa Z h0 c "[C") (Ac : Arv Z h0 c kc .char (5 : Int32) [(.int x0), (.int x1), (.int x2), (.int x3), (.int x4)] oZ) (cx0 : Chr x0) (cx1 : Chr x1) (cx2 : Chr x2) (cx3 : Chr x3) (cx4 : Chr x4) (hx0 : ¬ (255 : Int32) < x0) (hx1 : ¬ (255 : Int32) < x1) (bx : (255 : Int32) < x2) :
    Met l Z oM6 oC6 6 (some (.array .byte)) (oR 3 2 15 40) n0 [] #[(.ref c), oZ, (.int (5 : Int32))] h0 (fun v h => ∃ b k, v = some (.ref b) ∧ Keep h0 h [] ∧ Exa Z h b "[B" ∧ Arv Z h b k .byte (10 : Int32) [(.int (oB0 x0)), (.int (oB8 x0)), (.int (oB0 x1)), (.int (oB8 x1)), (.int (oB0 x2)), (.int (oB8 x2)), (.int (oB0 x3)), (.int (oB8 x3)), (.int (oB0 x4)), (.int (oB8 x4))] oZ) := by
  refine Met.intro (Ls := #[.val (.ref c), .val oZ, .val (.int (5 : Int32)), .unset, .unset, .unset]) (plainFor_of_name pn_m_cpr1_0) hw (fun _ => rfl) ?_
  intro w K0
  have K : oK6 w Z a0 := K0
  have K1 := Keep.refl h0 []
  refine Rn.iloadN K (q := 1) d18_0 rfl rfl ?_
  refine Rn.newP K (q := 3) (cap := 5) (oT 21 rfl) (by decide) (by decide) (by decide) (by decide) (by decide) (ad := "[B") (by decide) d18_1 rfl ?_
  intro b1 h2 k4 gb1_ X3 A_b1 EA_b1
  have ne_c_b1 : c ≠ b1 := fun e => absurd Ec.lt (by rw [e, gb1_]; exact Nat.lt_irrefl _)
  have ne_c_b1 : c ≠ b1 := fun e => absurd Ec.lt (by rw [e, gb1_]; exact Nat.lt_irrefl _)
  have g_b1 : n0 ≤ b1 := by rw [gb1_]; exact X0.1 ▸ X0.2.1
  have sz_b1 : h0.size ≤ b1 := by rw [gb1_]; exact K1.1
  have f5 := X0.ext X3
  have f6 := K1.ext X3
  have f7 := Ec.ext X3
  have f8 := Ac.ext X3
  replace A_b1 : Arv Z h2 b1 k4 .byte (5 : Int32) [oZ, oZ, oZ, oZ, oZ] oZ := A_b1.pad (pad_rep [] oZ 5)
  show Rn w l _ n0 _ 3 _ [(.ref b1)] h2 1 5
  refine Rn.astoreN K (q := 4) (Ls' := #[.val (.ref c), .val oZ, .val (.int (5 : Int32)), .val (.ref b1), .unset, .unset]) d18_3 rfl rfl rfl ?_
  refine Rn.aloadN K (q := 5) d18_4 rfl rfl rfl ?_
  refine Rn.iloadN K (q := 6) d18_5 rfl rfl ?_
  refine Rn.aloadN K (q := 7) d18_6 rfl rfl rfl ?_
  refine Rn.iconst K (q := 8) (0 : Int32) d18_7 rfl rfl ?_
  refine Rn.iloadN K (q := 9) d18_8 rfl rfl ?_
  refine Rn.stat K (q := 12) (W := 0) (y := oM0) (argsL := [(.ref c), oZ, (.ref b1), oZ, (.int (5 : Int32))]) (rest := []) (oT 104 rfl) (oT 105 rfl) (oT 106 rfl) (oT 102 rfl) (by decide) (m_cpr5_2 l Z a0 hw n0 h2 c b1 kc k4 x0 x1 x2 x3 x4 f5 f7 f8 EA_b1 A_b1 g_b1 hx0 hx1 bx) (by decide) (by decide) rfl (lenOf pd_3 rfl) rfl (oL rfl) d18_9 rfl (by decide) (by decide) ?_
  rintro _ h9 ⟨rfl, K10⟩
  have f12 := f5.keep K10 (allS g_b1 all0)
  have f13 := f6.trans K10 (allS (Or.inr sz_b1) all0)
  have f14 := f7.keep K10
  have f15 := f8.keep K10 (ninS ne_c_b1 nin0)
  show Rn w l _ n0 _ 12 _ [(.int (2 : Int32))] h9 1 5
  refine Rn.istore K (q := 14) (Ls' := #[.val (.ref c), .val oZ, .val (.int (5 : Int32)), .val (.ref b1), .val (.int (2 : Int32)), .unset]) d18_12 rfl rfl ?_
  refine Rn.iload K (q := 16) d18_14 rfl rfl ?_
  refine Rn.iloadN K (q := 17) d18_16 rfl rfl ?_
  refine Rn.icN K (q := 20) d18_17 (XT.ii_eq_f (by decide)) rfl ?_
  refine Rn.aloadN K (q := 21) d18_20 rfl rfl rfl ?_
  refine Rn.iloadN K (q := 22) d18_21 rfl rfl ?_
  refine Rn.iloadN K (q := 23) d18_22 rfl rfl ?_
  refine Rn.stat K (q := 26) (W := 0) (y := oM5) (argsL := [(.ref c), oZ, (.int (5 : Int32))]) (rest := []) (oT 127 rfl) (oT 128 rfl) (oT 129 rfl) (oT 102 rfl) (by decide) (m_tob5 l Z a0 hw n0 h9 c kc x0 x1 x2 x3 x4 f12 SA SH SW f14 f15) (by decide) (by decide) rfl (lenOf pd_4 rfl) rfl (oL rfl) d18_23 rfl (by decide) (by decide) ?_
  rintro _ h17 ⟨u, ku, rfl, -, K18, E19, A20⟩
  have f21 := f12.keep K18 all0
  have f22 := f13.trans K18 all0
  show Rn w l _ n0 _ 26 _ [(.ref u)] h17 2 15
  refine Rn.astore K (q := 28) (Ls' := #[.val (.ref c), .val oZ, .val (.int (5 : Int32)), .val (.ref b1), .val (.int (2 : Int32)), .val (.ref u)]) d18_26 rfl rfl rfl ?_
  refine Rn.aload K (q := 30) d18_28 rfl rfl rfl ?_
  refine Rn.iload K (q := 32) d18_30 rfl rfl ?_
  refine Rn.stat K (q := 35) (W := 0) (y := oM4) (argsL := [(.ref u), (.int (2 : Int32))]) (rest := []) (oT 143 rfl) (oT 144 rfl) (oT 145 rfl) (oT 102 rfl) (by decide) (m_gch5_2 l Z a0 hw n0 h17 u ku x0 x1 x2 x3 x4 f21 SA SH SW A20 cx2) (by decide) (by decide) rfl (lenOf pd_5 rfl) rfl (oL rfl) d18_32 rfl (by decide) (by decide) ?_
  rintro _ _ ⟨rfl, rfl⟩
  show Rn w l _ n0 _ 35 _ [(.int x2)] h17 2 15
  refine Rn.sipush K (q := 38) (255 : Int32) d18_35 rfl rfl ?_
  refine Rn.icY K (q := 54) d18_38 (XT.ii_gt_t bx) (by decide) (by decide) ?_
  refine Rn.aload K (q := 56) d18_54 rfl rfl rfl ?_
  exact Rn.retA K (.array .byte) rfl rfl rfl d18_56 (by decide) (by decide) ⟨_, _, rfl, f22, E19, A20⟩
theorem m_cp5_3 (l : Launch) (Z : State) (a0 : Array Value) (hw : oH Z a0) (n0 : Nat) (h0 : Heap) (c : Addr) (kc : ClassId) (x0 x1 x2 x3 x4 : Int32) (X0 : Old Z n0 h0) (SA : oS0 Z) (SH : oS1 Z) (SW : oS2 Z) (Ec : Exa Z h0 c "[C") (Ac : Arv Z h0 c kc .char (5 : Int32) [(.int x0), (.int x1), (.int x2), (.int x3), (.int x4)] oZ) (cx0 : Chr x0) (cx1 : Chr x1) (cx2 : Chr x2) (cx3 : Chr x3) (cx4 : Chr x4) (hx0 : ¬ (255 : Int32) < x0) (hx1 : ¬ (255 : Int32) < x1) (hx2 : ¬ (255 : Int32) < x2) (bx : (255 : Int32) < x3) :
    Met l Z oM6 oC6 6 (some (.array .byte)) (oR 3 2 15 40) n0 [] #[(.ref c), oZ, (.int (5 : Int32))] h0 (fun v h => ∃ b k, v = some (.ref b) ∧ Keep h0 h [] ∧ Exa Z h b "[B" ∧ Arv Z h b k .byte (10 : Int32) [(.int (oB0 x0)), (.int (oB8 x0)), (.int (oB0 x1)), (.int (oB8 x1)), (.int (oB0 x2)), (.int (oB8 x2)), (.int (oB0 x3)), (.int (oB8 x3)), (.int (oB0 x4)), (.int (oB8 x4))] oZ) := by
  refine Met.intro (Ls := #[.val (.ref c), .val oZ, .val (.int (5 : Int32)), .unset, .unset, .unset]) (plainFor_of_name pn_m_cpr1_0) hw (fun _ => rfl) ?_
  intro w K0
  have K : oK6 w Z a0 := K0
  have K1 := Keep.refl h0 []
  refine Rn.iloadN K (q := 1) d18_0 rfl rfl ?_
  refine Rn.newP K (q := 3) (cap := 5) (oT 21 rfl) (by decide) (by decide) (by decide) (by decide) (by decide) (ad := "[B") (by decide) d18_1 rfl ?_
  intro b1 h2 k4 gb1_ X3 A_b1 EA_b1
  have ne_c_b1 : c ≠ b1 := fun e => absurd Ec.lt (by rw [e, gb1_]; exact Nat.lt_irrefl _)
  have ne_c_b1 : c ≠ b1 := fun e => absurd Ec.lt (by rw [e, gb1_]; exact Nat.lt_irrefl _)
  have g_b1 : n0 ≤ b1 := by rw [gb1_]; exact X0.1 ▸ X0.2.1
  have sz_b1 : h0.size ≤ b1 := by rw [gb1_]; exact K1.1
  have f5 := X0.ext X3
  have f6 := K1.ext X3
  have f7 := Ec.ext X3
  have f8 := Ac.ext X3
  replace A_b1 : Arv Z h2 b1 k4 .byte (5 : Int32) [oZ, oZ, oZ, oZ, oZ] oZ := A_b1.pad (pad_rep [] oZ 5)
  show Rn w l _ n0 _ 3 _ [(.ref b1)] h2 1 5
  refine Rn.astoreN K (q := 4) (Ls' := #[.val (.ref c), .val oZ, .val (.int (5 : Int32)), .val (.ref b1), .unset, .unset]) d18_3 rfl rfl rfl ?_
  refine Rn.aloadN K (q := 5) d18_4 rfl rfl rfl ?_
  refine Rn.iloadN K (q := 6) d18_5 rfl rfl ?_
  refine Rn.aloadN K (q := 7) d18_6 rfl rfl rfl ?_
  refine Rn.iconst K (q := 8) (0 : Int32) d18_7 rfl rfl ?_
  refine Rn.iloadN K (q := 9) d18_8 rfl rfl ?_
  refine Rn.stat K (q := 12) (W := 0) (y := oM0) (argsL := [(.ref c), oZ, (.ref b1), oZ, (.int (5 : Int32))]) (rest := []) (oT 104 rfl) (oT 105 rfl) (oT 106 rfl) (oT 102 rfl) (by decide) (m_cpr5_3 l Z a0 hw n0 h2 c b1 kc k4 x0 x1 x2 x3 x4 f5 f7 f8 EA_b1 A_b1 g_b1 hx0 hx1 hx2 bx) (by decide) (by decide) rfl (lenOf pd_3 rfl) rfl (oL rfl) d18_9 rfl (by decide) (by decide) ?_
  rintro _ h9 ⟨rfl, K10⟩
  have f12 := f5.keep K10 (allS g_b1 all0)
  have f13 := f6.trans K10 (allS (Or.inr sz_b1) all0)
  have f14 := f7.keep K10
  have f15 := f8.keep K10 (ninS ne_c_b1 nin0)
  show Rn w l _ n0 _ 12 _ [(.int (3 : Int32))] h9 1 5
  refine Rn.istore K (q := 14) (Ls' := #[.val (.ref c), .val oZ, .val (.int (5 : Int32)), .val (.ref b1), .val (.int (3 : Int32)), .unset]) d18_12 rfl rfl ?_
  refine Rn.iload K (q := 16) d18_14 rfl rfl ?_
  refine Rn.iloadN K (q := 17) d18_16 rfl rfl ?_
  refine Rn.icN K (q := 20) d18_17 (XT.ii_eq_f (by decide)) rfl ?_
  refine Rn.aloadN K (q := 21) d18_20 rfl rfl rfl ?_
  refine Rn.iloadN K (q := 22) d18_21 rfl rfl ?_
  refine Rn.iloadN K (q := 23) d18_22 rfl rfl ?_
  refine Rn.stat K (q := 26) (W := 0) (y := oM5) (argsL := [(.ref c), oZ, (.int (5 : Int32))]) (rest := []) (oT 127 rfl) (oT 128 rfl) (oT 129 rfl) (oT 102 rfl) (by decide) (m_tob5 l Z a0 hw n0 h9 c kc x0 x1 x2 x3 x4 f12 SA SH SW f14 f15) (by decide) (by decide) rfl (lenOf pd_4 rfl) rfl (oL rfl) d18_23 rfl (by decide) (by decide) ?_
  rintro _ h17 ⟨u, ku, rfl, -, K18, E19, A20⟩
  have f21 := f12.keep K18 all0
  have f22 := f13.trans K18 all0
  show Rn w l _ n0 _ 26 _ [(.ref u)] h17 2 15
  refine Rn.astore K (q := 28) (Ls' := #[.val (.ref c), .val oZ, .val (.int (5 : Int32)), .val (.ref b1), .val (.int (3 : Int32)), .val (.ref u)]) d18_26 rfl rfl rfl ?_
  refine Rn.aload K (q := 30) d18_28 rfl rfl rfl ?_
  refine Rn.iload K (q := 32) d18_30 rfl rfl ?_
  refine Rn.stat K (q := 35) (W := 0) (y := oM4) (argsL := [(.ref u), (.int (3 : Int32))]) (rest := []) (oT 143 rfl) (oT 144 rfl) (oT 145 rfl) (oT 102 rfl) (by decide) (m_gch5_3 l Z a0 hw n0 h17 u ku x0 x1 x2 x3 x4 f21 SA SH SW A20 cx3) (by decide) (by decide) rfl (lenOf pd_5 rfl) rfl (oL rfl) d18_32 rfl (by decide) (by decide) ?_
  rintro _ _ ⟨rfl, rfl⟩
  show Rn w l _ n0 _ 35 _ [(.int x3)] h17 2 15
  refine Rn.sipush K (q := 38) (255 : Int32) d18_35 rfl rfl ?_
  refine Rn.icY K (q := 54) d18_38 (XT.ii_gt_t bx) (by decide) (by decide) ?_
  refine Rn.aload K (q := 56) d18_54 rfl rfl rfl ?_
  exact Rn.retA K (.array .byte) rfl rfl rfl d18_56 (by decide) (by decide) ⟨_, _, rfl, f22, E19, A20⟩
theorem m_cp5_4 (l : Launch) (Z : State) (a0 : Array Value) (hw : oH Z a0) (n0 : Nat) (h0 : Heap) (c : Addr) (kc : ClassId) (x0 x1 x2 x3 x4 : Int32) (X0 : Old Z n0 h0) (SA : oS0 Z) (SH : oS1 Z) (SW : oS2 Z) (Ec : Exa Z h0 c "[C") (Ac : Arv Z h0 c kc .char (5 : Int32) [(.int x0), (.int x1), (.int x2), (.int x3), (.int x4)] oZ) (cx0 : Chr x0) (cx1 : Chr x1) (cx2 : Chr x2) (cx3 : Chr x3) (cx4 : Chr x4) (hx0 : ¬ (255 : Int32) < x0) (hx1 : ¬ (255 : Int32) < x1) (hx2 : ¬ (255 : Int32) < x2) (hx3 : ¬ (255 : Int32) < x3) (bx : (255 : Int32) < x4) :
    Met l Z oM6 oC6 6 (some (.array .byte)) (oR 3 2 15 40) n0 [] #[(.ref c), oZ, (.int (5 : Int32))] h0 (fun v h => ∃ b k, v = some (.ref b) ∧ Keep h0 h [] ∧ Exa Z h b "[B" ∧ Arv Z h b k .byte (10 : Int32) [(.int (oB0 x0)), (.int (oB8 x0)), (.int (oB0 x1)), (.int (oB8 x1)), (.int (oB0 x2)), (.int (oB8 x2)), (.int (oB0 x3)), (.int (oB8 x3)), (.int (oB0 x4)), (.int (oB8 x4))] oZ) := by
  refine Met.intro (Ls := #[.val (.ref c), .val oZ, .val (.int (5 : Int32)), .unset, .unset, .unset]) (plainFor_of_name pn_m_cpr1_0) hw (fun _ => rfl) ?_
  intro w K0
  have K : oK6 w Z a0 := K0
  have K1 := Keep.refl h0 []
  refine Rn.iloadN K (q := 1) d18_0 rfl rfl ?_
  refine Rn.newP K (q := 3) (cap := 5) (oT 21 rfl) (by decide) (by decide) (by decide) (by decide) (by decide) (ad := "[B") (by decide) d18_1 rfl ?_
  intro b1 h2 k4 gb1_ X3 A_b1 EA_b1
  have ne_c_b1 : c ≠ b1 := fun e => absurd Ec.lt (by rw [e, gb1_]; exact Nat.lt_irrefl _)
  have ne_c_b1 : c ≠ b1 := fun e => absurd Ec.lt (by rw [e, gb1_]; exact Nat.lt_irrefl _)
  have g_b1 : n0 ≤ b1 := by rw [gb1_]; exact X0.1 ▸ X0.2.1
  have sz_b1 : h0.size ≤ b1 := by rw [gb1_]; exact K1.1
  have f5 := X0.ext X3
  have f6 := K1.ext X3
  have f7 := Ec.ext X3
  have f8 := Ac.ext X3
  replace A_b1 : Arv Z h2 b1 k4 .byte (5 : Int32) [oZ, oZ, oZ, oZ, oZ] oZ := A_b1.pad (pad_rep [] oZ 5)
  show Rn w l _ n0 _ 3 _ [(.ref b1)] h2 1 5
  refine Rn.astoreN K (q := 4) (Ls' := #[.val (.ref c), .val oZ, .val (.int (5 : Int32)), .val (.ref b1), .unset, .unset]) d18_3 rfl rfl rfl ?_
  refine Rn.aloadN K (q := 5) d18_4 rfl rfl rfl ?_
  refine Rn.iloadN K (q := 6) d18_5 rfl rfl ?_
  refine Rn.aloadN K (q := 7) d18_6 rfl rfl rfl ?_
  refine Rn.iconst K (q := 8) (0 : Int32) d18_7 rfl rfl ?_
  refine Rn.iloadN K (q := 9) d18_8 rfl rfl ?_
  refine Rn.stat K (q := 12) (W := 0) (y := oM0) (argsL := [(.ref c), oZ, (.ref b1), oZ, (.int (5 : Int32))]) (rest := []) (oT 104 rfl) (oT 105 rfl) (oT 106 rfl) (oT 102 rfl) (by decide) (m_cpr5_4 l Z a0 hw n0 h2 c b1 kc k4 x0 x1 x2 x3 x4 f5 f7 f8 EA_b1 A_b1 g_b1 hx0 hx1 hx2 hx3 bx) (by decide) (by decide) rfl (lenOf pd_3 rfl) rfl (oL rfl) d18_9 rfl (by decide) (by decide) ?_
  rintro _ h9 ⟨rfl, K10⟩
  have f12 := f5.keep K10 (allS g_b1 all0)
  have f13 := f6.trans K10 (allS (Or.inr sz_b1) all0)
  have f14 := f7.keep K10
  have f15 := f8.keep K10 (ninS ne_c_b1 nin0)
  show Rn w l _ n0 _ 12 _ [(.int (4 : Int32))] h9 1 5
  refine Rn.istore K (q := 14) (Ls' := #[.val (.ref c), .val oZ, .val (.int (5 : Int32)), .val (.ref b1), .val (.int (4 : Int32)), .unset]) d18_12 rfl rfl ?_
  refine Rn.iload K (q := 16) d18_14 rfl rfl ?_
  refine Rn.iloadN K (q := 17) d18_16 rfl rfl ?_
  refine Rn.icN K (q := 20) d18_17 (XT.ii_eq_f (by decide)) rfl ?_
  refine Rn.aloadN K (q := 21) d18_20 rfl rfl rfl ?_
  refine Rn.iloadN K (q := 22) d18_21 rfl rfl ?_
  refine Rn.iloadN K (q := 23) d18_22 rfl rfl ?_
  refine Rn.stat K (q := 26) (W := 0) (y := oM5) (argsL := [(.ref c), oZ, (.int (5 : Int32))]) (rest := []) (oT 127 rfl) (oT 128 rfl) (oT 129 rfl) (oT 102 rfl) (by decide) (m_tob5 l Z a0 hw n0 h9 c kc x0 x1 x2 x3 x4 f12 SA SH SW f14 f15) (by decide) (by decide) rfl (lenOf pd_4 rfl) rfl (oL rfl) d18_23 rfl (by decide) (by decide) ?_
  rintro _ h17 ⟨u, ku, rfl, -, K18, E19, A20⟩
  have f21 := f12.keep K18 all0
  have f22 := f13.trans K18 all0
  show Rn w l _ n0 _ 26 _ [(.ref u)] h17 2 15
  refine Rn.astore K (q := 28) (Ls' := #[.val (.ref c), .val oZ, .val (.int (5 : Int32)), .val (.ref b1), .val (.int (4 : Int32)), .val (.ref u)]) d18_26 rfl rfl rfl ?_
  refine Rn.aload K (q := 30) d18_28 rfl rfl rfl ?_
  refine Rn.iload K (q := 32) d18_30 rfl rfl ?_
  refine Rn.stat K (q := 35) (W := 0) (y := oM4) (argsL := [(.ref u), (.int (4 : Int32))]) (rest := []) (oT 143 rfl) (oT 144 rfl) (oT 145 rfl) (oT 102 rfl) (by decide) (m_gch5_4 l Z a0 hw n0 h17 u ku x0 x1 x2 x3 x4 f21 SA SH SW A20 cx4) (by decide) (by decide) rfl (lenOf pd_5 rfl) rfl (oL rfl) d18_32 rfl (by decide) (by decide) ?_
  rintro _ _ ⟨rfl, rfl⟩
  show Rn w l _ n0 _ 35 _ [(.int x4)] h17 2 15
  refine Rn.sipush K (q := 38) (255 : Int32) d18_35 rfl rfl ?_
  refine Rn.icY K (q := 54) d18_38 (XT.ii_gt_t bx) (by decide) (by decide) ?_
  refine Rn.aload K (q := 56) d18_54 rfl rfl rfl ?_
  exact Rn.retA K (.array .byte) rfl rfl rfl d18_56 (by decide) (by decide) ⟨_, _, rfl, f22, E19, A20⟩
theorem m_cp5_5 (l : Launch) (Z : State) (a0 : Array Value) (hw : oH Z a0) (n0 : Nat) (h0 : Heap) (c : Addr) (kc : ClassId) (x0 x1 x2 x3 x4 : Int32) (X0 : Old Z n0 h0) (SA : oS0 Z) (SH : oS1 Z) (SW : oS2 Z) (Ec : Exa Z h0 c "[C") (Ac : Arv Z h0 c kc .char (5 : Int32) [(.int x0), (.int x1), (.int x2), (.int x3), (.int x4)] oZ) (cx0 : Chr x0) (cx1 : Chr x1) (cx2 : Chr x2) (cx3 : Chr x3) (cx4 : Chr x4) (hx0 : ¬ (255 : Int32) < x0) (hx1 : ¬ (255 : Int32) < x1) (hx2 : ¬ (255 : Int32) < x2) (hx3 : ¬ (255 : Int32) < x3) (hx4 : ¬ (255 : Int32) < x4) :
    Met l Z oM6 oC6 6 (some (.array .byte)) (oR 1 1 5 18) n0 [] #[(.ref c), oZ, (.int (5 : Int32))] h0 (fun v h => ∃ b k, v = some (.ref b) ∧ Keep h0 h [] ∧ Exa Z h b "[B" ∧ Arv Z h b k .byte (5 : Int32) [(.int (oB x0)), (.int (oB x1)), (.int (oB x2)), (.int (oB x3)), (.int (oB x4))] oZ) := by
  refine Met.intro (Ls := #[.val (.ref c), .val oZ, .val (.int (5 : Int32)), .unset, .unset, .unset]) (plainFor_of_name pn_m_cpr1_0) hw (fun _ => rfl) ?_
  intro w K0
  have K : oK6 w Z a0 := K0
  have K1 := Keep.refl h0 []
  refine Rn.iloadN K (q := 1) d18_0 rfl rfl ?_
  refine Rn.newP K (q := 3) (cap := 5) (oT 21 rfl) (by decide) (by decide) (by decide) (by decide) (by decide) (ad := "[B") (by decide) d18_1 rfl ?_
  intro b1 h2 k4 gb1_ X3 A_b1 EA_b1
  have ne_c_b1 : c ≠ b1 := fun e => absurd Ec.lt (by rw [e, gb1_]; exact Nat.lt_irrefl _)
  have ne_c_b1 : c ≠ b1 := fun e => absurd Ec.lt (by rw [e, gb1_]; exact Nat.lt_irrefl _)
  have g_b1 : n0 ≤ b1 := by rw [gb1_]; exact X0.1 ▸ X0.2.1
  have sz_b1 : h0.size ≤ b1 := by rw [gb1_]; exact K1.1
  have f5 := X0.ext X3
  have f6 := K1.ext X3
  have f7 := Ec.ext X3
  have f8 := Ac.ext X3
  replace A_b1 : Arv Z h2 b1 k4 .byte (5 : Int32) [oZ, oZ, oZ, oZ, oZ] oZ := A_b1.pad (pad_rep [] oZ 5)
  show Rn w l _ n0 _ 3 _ [(.ref b1)] h2 1 5
  refine Rn.astoreN K (q := 4) (Ls' := #[.val (.ref c), .val oZ, .val (.int (5 : Int32)), .val (.ref b1), .unset, .unset]) d18_3 rfl rfl rfl ?_
  refine Rn.aloadN K (q := 5) d18_4 rfl rfl rfl ?_
  refine Rn.iloadN K (q := 6) d18_5 rfl rfl ?_
  refine Rn.aloadN K (q := 7) d18_6 rfl rfl rfl ?_
  refine Rn.iconst K (q := 8) (0 : Int32) d18_7 rfl rfl ?_
  refine Rn.iloadN K (q := 9) d18_8 rfl rfl ?_
  refine Rn.stat K (q := 12) (W := 0) (y := oM0) (argsL := [(.ref c), oZ, (.ref b1), oZ, (.int (5 : Int32))]) (rest := []) (oT 104 rfl) (oT 105 rfl) (oT 106 rfl) (oT 102 rfl) (by decide) (m_cpr5_5 l Z a0 hw n0 h2 c b1 kc k4 x0 x1 x2 x3 x4 f5 f7 f8 EA_b1 A_b1 g_b1 hx0 hx1 hx2 hx3 hx4) (by decide) (by decide) rfl (lenOf pd_3 rfl) rfl (oL rfl) d18_9 rfl (by decide) (by decide) ?_
  rintro _ h9 ⟨rfl, K10, A11⟩
  have f13 := f6.trans K10 (allS (Or.inr sz_b1) all0)
  have f16 := EA_b1.keep K10
  show Rn w l _ n0 _ 12 _ [(.int (5 : Int32))] h9 1 5
  refine Rn.istore K (q := 14) (Ls' := #[.val (.ref c), .val oZ, .val (.int (5 : Int32)), .val (.ref b1), .val (.int (5 : Int32)), .unset]) d18_12 rfl rfl ?_
  refine Rn.iload K (q := 16) d18_14 rfl rfl ?_
  refine Rn.iloadN K (q := 17) d18_16 rfl rfl ?_
  refine Rn.icY K (q := 57) d18_17 (XT.ii_eq_t rfl) (by decide) (by decide) ?_
  refine Rn.aloadN K (q := 58) d18_57 rfl rfl rfl ?_
  exact Rn.retA K (.array .byte) rfl rfl rfl d18_58 (by decide) (by decide) ⟨_, _, rfl, f13, f16, A11⟩
theorem m_cpw5 (l : Launch) (Z : State) (a0 : Array Value) (hw : oH Z a0) (n0 : Nat) (h0 : Heap) (c : Addr) (kc : ClassId) (x0 x1 x2 x3 x4 : Int32) (X0 : Old Z n0 h0) (SA : oS0 Z) (SH : oS1 Z) (SW : oS2 Z) (Ec : Exa Z h0 c "[C") (Ac : Arv Z h0 c kc .char (5 : Int32) [(.int x0), (.int x1), (.int x2), (.int x3), (.int x4)] oZ) (cx0 : Chr x0) (cx1 : Chr x1) (cx2 : Chr x2) (cx3 : Chr x3) (cx4 : Chr x4) (hb : ¬ ∀ c ∈ [x0, x1, x2, x3, x4], ¬ (255 : Int32) < c) :
    Met l Z oM6 oC6 6 (some (.array .byte)) (oR 3 2 15 40) n0 [] #[(.ref c), oZ, (.int (5 : Int32))] h0 (fun v h => ∃ b k, v = some (.ref b) ∧ Keep h0 h [] ∧ Exa Z h b "[B" ∧ Arv Z h b k .byte (10 : Int32) [(.int (oB0 x0)), (.int (oB8 x0)), (.int (oB0 x1)), (.int (oB8 x1)), (.int (oB0 x2)), (.int (oB8 x2)), (.int (oB0 x3)), (.int (oB8 x3)), (.int (oB0 x4)), (.int (oB8 x4))] oZ) := by
  by_cases hx0 : (255 : Int32) < x0
  · exact m_cp5_0 l Z a0 hw n0 h0 c kc x0 x1 x2 x3 x4 X0 SA SH SW Ec Ac cx0 cx1 cx2 cx3 cx4 hx0
  by_cases hx1 : (255 : Int32) < x1
  · exact m_cp5_1 l Z a0 hw n0 h0 c kc x0 x1 x2 x3 x4 X0 SA SH SW Ec Ac cx0 cx1 cx2 cx3 cx4 hx0 hx1
  by_cases hx2 : (255 : Int32) < x2
  · exact m_cp5_2 l Z a0 hw n0 h0 c kc x0 x1 x2 x3 x4 X0 SA SH SW Ec Ac cx0 cx1 cx2 cx3 cx4 hx0 hx1 hx2
  by_cases hx3 : (255 : Int32) < x3
  · exact m_cp5_3 l Z a0 hw n0 h0 c kc x0 x1 x2 x3 x4 X0 SA SH SW Ec Ac cx0 cx1 cx2 cx3 cx4 hx0 hx1 hx2 hx3
  by_cases hx4 : (255 : Int32) < x4
  · exact m_cp5_4 l Z a0 hw n0 h0 c kc x0 x1 x2 x3 x4 X0 SA SH SW Ec Ac cx0 cx1 cx2 cx3 cx4 hx0 hx1 hx2 hx3 hx4
  exact absurd (by simp only [List.mem_cons, List.not_mem_nil, or_false]; intro c hc; rcases hc with rfl | rfl | rfl | rfl | rfl <;> assumption) hb
theorem m_cfl5_1 (l : Launch) (Z : State) (a0 : Array Value) (hw : oH Z a0) (n0 : Nat) (h0 : Heap) (b : Addr) (k : ClassId) (x0 x1 x2 x3 x4 : Int32) (X0 : Old Z n0 h0) (Ab : Arv Z h0 b k .byte (10 : Int32) [(.int (oB0 x0)), (.int (oB8 x0)), (.int (oB0 x1)), (.int (oB8 x1)), (.int (oB0 x2)), (.int (oB8 x2)), (.int (oB0 x3)), (.int (oB8 x3)), (.int (oB0 x4)), (.int (oB8 x4))] oZ) :
    Met l Z oM7 oC7 2 (some .byte) (oR 0 0 0 0) n0 [] #[(.ref b), (.int (5 : Int32))] h0 (fun v h => v = some (.int (1 : Int32)) ∧ h0 = h) := by
  refine Met.intro (Ls := #[.val (.ref b), .val (.int (5 : Int32))]) (plainFor_of_name pn_m_cpr1_0) hw (fun _ => rfl) ?_
  intro w K0
  have K : oK7 w Z a0 := K0
  refine Rn.iloadN K (q := 1) d20_0 rfl rfl ?_
  refine Rn.aloadN K (q := 2) d20_1 rfl rfl rfl ?_
  refine Rn.arraylength K (q := 3) Ab d20_2 rfl ?_
  refine Rn.isub K (q := 4) d20_3 rfl ?_
  refine Rn.bipush K (q := 6) (31 : Int32) d20_4 rfl rfl ?_
  refine Rn.iushr K (q := 7) d20_6 rfl ?_
  refine Rn.i2b K (q := 8) d20_7 rfl ?_
  exact Rn.retN K .byte rfl (by simp) d20_8 (by decide) (by decide) ⟨by rw [show nar .byte ((((5 : Int32) - (10 : Int32)).toUInt32 >>> ((31 : Int32) &&& 31).toUInt32).toInt32).toInt8.toInt32 = 1 from by decide], rfl⟩
theorem m_iv5_1 (l : Launch) (Z : State) (a0 : Array Value) (hw : oH Z a0) (n0 : Nat) (h0 : Heap) (s c : Addr) (kc : ClassId) (x0 x1 x2 x3 x4 : Int32) (cst : Int32) (X0 : Old Z n0 h0) (SC : oSC Z cst) (hcs : ¬ cst = 0) (Es : Exa Z h0 s "java/lang/String") (gs : n0 ≤ s) (Fv : Fld Z h0 s "java/lang/String" "value" "[B" .null) (Fc : Fld Z h0 s "java/lang/String" "coder" "B" (.int (0 : Int32))) (Ec : Exa Z h0 c "[C") (Ac : Arv Z h0 c kc .char (5 : Int32) [(.int x0), (.int x1), (.int x2), (.int x3), (.int x4)] oZ) (SA : oS0 Z) (SH : oS1 Z) (SW : oS2 Z) (cx0 : Chr x0) (cx1 : Chr x1) (cx2 : Chr x2) (cx3 : Chr x3) (cx4 : Chr x4) (ha : ¬ ∀ c ∈ [x0, x1, x2, x3, x4], ¬ (255 : Int32) < c) :
    Met l Z oM8 oC8 6 none (oR 4 2 15 57) n0 [] #[(.ref s), (.ref c), oZ, (.int (5 : Int32)), .null] h0 (fun r h => r = none ∧ Keep h0 h [s] ∧ ∃ v k, Fld Z h s "java/lang/String" "value" "[B" (.ref v) ∧ Fld Z h s "java/lang/String" "coder" "B" (.int (1 : Int32)) ∧ Arv Z h v k .byte (10 : Int32) [(.int (oB0 x0)), (.int (oB8 x0)), (.int (oB0 x1)), (.int (oB8 x1)), (.int (oB0 x2)), (.int (oB8 x2)), (.int (oB0 x3)), (.int (oB8 x3)), (.int (oB0 x4)), (.int (oB8 x4))] oZ) := by
  refine Met.intro (Ls := #[.val (.ref s), .val (.ref c), .val oZ, .val (.int (5 : Int32)), .val .null, .unset]) (plainFor_of_name pn_m_iv1_1) hw (fun m => by first | (simp [entryFrame, mkF, argsToLocals, Value.category]; done) | rfl) ?_
  intro w K0
  have K : oK8 w Z a0 := K0
  have K1 := Keep.refl h0 [s]
  refine Rn.aloadN K (q := 1) d3_0 rfl rfl rfl ?_
  refine Rn.initO K (q := 4) (W := 0) (oT 17 rfl) (oT 18 rfl) (oT 19 rfl) (by decide) (by decide) rfl (oL rfl) d3_1 rfl ?_
  refine Rn.iloadN K (q := 5) d3_4 rfl rfl ?_
  refine Rn.ifY K (q := 27) d3_5 (XT.i0_ne_t (by decide)) (by decide) (by decide) ?_
  refine Rn.getS K (q := 30) (oT 61 rfl) (SC.ext X0.2) d3_27 rfl ?_
  refine Rn.ifN K (q := 33) d3_30 (XT.i0_eq_f hcs) rfl ?_
  refine Rn.aloadN K (q := 34) d3_33 rfl rfl rfl ?_
  refine Rn.iloadN K (q := 35) d3_34 rfl rfl ?_
  refine Rn.iloadN K (q := 36) d3_35 rfl rfl ?_
  refine Rn.stat K (q := 39) (W := 0) (y := oM6) (argsL := [(.ref c), oZ, (.int (5 : Int32))]) (rest := []) (oT 100 rfl) (oT 101 rfl) (oT 103 rfl) (oT 102 rfl) (by decide) (m_cpw5 l Z a0 hw n0 h0 c kc x0 x1 x2 x3 x4 X0 SA SH SW Ec Ac cx0 cx1 cx2 cx3 cx4 ha) (by decide) (by decide) rfl (lenOf pd_4 rfl) rfl (oL rfl) d3_36 rfl (by decide) (by decide) ?_
  rintro _ h1 ⟨v, k, rfl, K2, E3, A4⟩
  have f5 := X0.keep K2 all0
  have f6 := K1.trans K2 all0
  have f7 := Es.keep K2
  have f8 := Fv.keep K2 nin0
  have f9 := Fc.keep K2 nin0
  show Rn w l _ n0 _ 39 _ [(.ref v)] h1 2 15
  refine Rn.astore K (q := 41) (Ls' := #[.val (.ref s), .val (.ref c), .val oZ, .val (.int (5 : Int32)), .val .null, .val (.ref v)]) d3_39 rfl rfl rfl ?_
  refine Rn.aloadN K (q := 42) d3_41 rfl rfl rfl ?_
  refine Rn.aload K (q := 44) d3_42 rfl rfl rfl ?_
  refine Rn.iloadN K (q := 45) d3_44 rfl rfl ?_
  refine Rn.stat K (q := 48) (W := 1) (y := oM7) (argsL := [(.ref v), (.int (5 : Int32))]) (rest := [(.ref s)]) (oT 107 rfl) (oT 108 rfl) (oT 109 rfl) (oT 102 rfl) (by decide) (m_cfl5_1 l Z a0 hw n0 h1 v k x0 x1 x2 x3 x4 f5 A4) (by decide) (by decide) rfl (lenOf pd_6 rfl) rfl (oL rfl) d3_45 rfl (by decide) (by decide) ?_
  rintro _ _ ⟨rfl, rfl⟩
  show Rn w l _ n0 _ 48 _ [(.int (1 : Int32)), (.ref s)] h1 2 15
  refine Rn.putF K (q := 51) (ty := .byte) (v' := .int (nar .byte (1 : Int32))) (oT 27 rfl) Via.refl f9 f7 (Or.inr ⟨(oT 23 rfl), rfl, rfl⟩) (oT 7 rfl) (by decide) rfl (fits_nar_byte _) gs d3_48 rfl ?_
  intro h12 W13
  have f15 := f6.wr W13 (Or.inl (oT 0 rfl))
  have f16 := f7.wr W13
  have f17 := Fld.other W13 f8 (Or.inr (slot_ne (Or.inr (K.hw _ (oT 22 rfl))) (Or.inr (K.hw _ (oT 23 rfl))) (by decide) (t := (.array .byte)) (t' := .byte) (by decide) (by decide)))
  have f18 := Fld.same W13 f9
  have f21 := E3.wr W13
  have f22 := A4.other W13 (ne_exa E3 f7 (by decide))
  refine Rn.aloadN K (q := 52) d3_51 rfl rfl rfl ?_
  refine Rn.aload K (q := 54) d3_52 rfl rfl rfl ?_
  refine Rn.putF K (q := 57) (ty := (.array .byte)) (oT 26 rfl) Via.refl f17 f16 (Or.inr ⟨(oT 22 rfl), rfl, rfl⟩) (oT 7 rfl) (by decide) rfl rfl gs d3_54 rfl ?_
  intro h23 W24
  have f26 := f15.wr W24 (Or.inl (oT 0 rfl))
  have f28 := Fld.same W24 f17
  have f29 := Fld.other W24 f18 (Or.inr (slot_ne (Or.inr (K.hw _ (oT 23 rfl))) (Or.inr (K.hw _ (oT 22 rfl))) (by decide) (t := .byte) (t' := (.array .byte)) (by decide) (by decide)))
  have f33 := f22.other W24 (ne_exa f21 f16 (by decide))
  exact Rn.retV K rfl d3_57 (by decide) (by decide) ⟨rfl, f26, _, _, f28, f29, f33⟩
theorem m_ic5_1 (l : Launch) (Z : State) (a0 : Array Value) (hw : oH Z a0) (n0 : Nat) (h0 : Heap) (s c : Addr) (kc : ClassId) (x0 x1 x2 x3 x4 : Int32) (cst : Int32) (X0 : Old Z n0 h0) (SC : oSC Z cst) (hcs : ¬ cst = 0) (Es : Exa Z h0 s "java/lang/String") (gs : n0 ≤ s) (Fv : Fld Z h0 s "java/lang/String" "value" "[B" .null) (Fc : Fld Z h0 s "java/lang/String" "coder" "B" (.int (0 : Int32))) (Ec : Exa Z h0 c "[C") (Ac : Arv Z h0 c kc .char (5 : Int32) [(.int x0), (.int x1), (.int x2), (.int x3), (.int x4)] oZ) (SA : oS0 Z) (SH : oS1 Z) (SW : oS2 Z) (cx0 : Chr x0) (cx1 : Chr x1) (cx2 : Chr x2) (cx3 : Chr x3) (cx4 : Chr x4) (ha : ¬ ∀ c ∈ [x0, x1, x2, x3, x4], ¬ (255 : Int32) < c) :
    Met l Z oM9 oC9 2 none (oR 5 2 15 74) n0 [] #[(.ref s), (.ref c)] h0 (fun r h => r = none ∧ Keep h0 h [s] ∧ ∃ v, STR Z h s v [x0, x1, x2, x3, x4]) := by
  refine Met.intro (Ls := #[.val (.ref s), .val (.ref c)]) (plainFor_of_name pn_m_iv1_1) hw (fun _ => rfl) ?_
  intro w K0
  have K : oK9 w Z a0 := K0
  have K1 := Keep.refl h0 [s]
  refine Rn.aloadN K (q := 1) d2_0 rfl rfl rfl ?_
  refine Rn.aloadN K (q := 2) d2_1 rfl rfl rfl ?_
  refine Rn.iconst K (q := 3) (0 : Int32) d2_2 rfl rfl ?_
  refine Rn.aloadN K (q := 4) d2_3 rfl rfl rfl ?_
  refine Rn.arraylength K (q := 5) Ac d2_4 rfl ?_
  refine Rn.aconst_null K (q := 6) d2_5 rfl ?_
  refine Rn.spec K (q := 9) (W := 0) (y := oM8) (b := s) (argsL := [(.ref c), oZ, (.int (5 : Int32)), .null]) (rest := []) rfl (oT 13 rfl) (oT 14 rfl) (oT 16 rfl) (oT 8 rfl) (by decide) (m_iv5_1 l Z a0 hw n0 h0 s c kc x0 x1 x2 x3 x4 cst X0 SC hcs Es gs Fv Fc Ec Ac SA SH SW cx0 cx1 cx2 cx3 cx4 ha) (by decide) (by decide) rfl (lenOf pd_7 rfl) rfl (oL rfl) d2_6 rfl (by decide) (by decide) ?_
  rintro _ h1 ⟨rfl, K2, v, k, F1, F2, A2⟩
  have f3 := Es.keep K2
  show Rn w l _ n0 _ 9 _ [] h1 2 15
  exact Rn.retV K rfl d2_9 (by decide) (by decide) ⟨rfl, K2, v, f3, F1, k, Or.inr ⟨by simp, F2, A2⟩⟩
theorem m_cfl5_0 (l : Launch) (Z : State) (a0 : Array Value) (hw : oH Z a0) (n0 : Nat) (h0 : Heap) (b : Addr) (k : ClassId) (x0 x1 x2 x3 x4 : Int32) (X0 : Old Z n0 h0) (Ab : Arv Z h0 b k .byte (5 : Int32) [(.int (oB x0)), (.int (oB x1)), (.int (oB x2)), (.int (oB x3)), (.int (oB x4))] oZ) :
    Met l Z oM7 oC7 2 (some .byte) (oR 0 0 0 0) n0 [] #[(.ref b), (.int (5 : Int32))] h0 (fun v h => v = some (.int (0 : Int32)) ∧ h0 = h) := by
  refine Met.intro (Ls := #[.val (.ref b), .val (.int (5 : Int32))]) (plainFor_of_name pn_m_cpr1_0) hw (fun _ => rfl) ?_
  intro w K0
  have K : oK7 w Z a0 := K0
  refine Rn.iloadN K (q := 1) d20_0 rfl rfl ?_
  refine Rn.aloadN K (q := 2) d20_1 rfl rfl rfl ?_
  refine Rn.arraylength K (q := 3) Ab d20_2 rfl ?_
  refine Rn.isub K (q := 4) d20_3 rfl ?_
  refine Rn.bipush K (q := 6) (31 : Int32) d20_4 rfl rfl ?_
  refine Rn.iushr K (q := 7) d20_6 rfl ?_
  refine Rn.i2b K (q := 8) d20_7 rfl ?_
  exact Rn.retN K .byte rfl (by simp) d20_8 (by decide) (by decide) ⟨by rw [show nar .byte ((((5 : Int32) - (5 : Int32)).toUInt32 >>> ((31 : Int32) &&& 31).toUInt32).toInt32).toInt8.toInt32 = 0 from by decide], rfl⟩
theorem m_iv5_0 (l : Launch) (Z : State) (a0 : Array Value) (hw : oH Z a0) (n0 : Nat) (h0 : Heap) (s c : Addr) (kc : ClassId) (x0 x1 x2 x3 x4 : Int32) (cst : Int32) (X0 : Old Z n0 h0) (SC : oSC Z cst) (hcs : ¬ cst = 0) (Es : Exa Z h0 s "java/lang/String") (gs : n0 ≤ s) (Fv : Fld Z h0 s "java/lang/String" "value" "[B" .null) (Fc : Fld Z h0 s "java/lang/String" "coder" "B" (.int (0 : Int32))) (Ec : Exa Z h0 c "[C") (Ac : Arv Z h0 c kc .char (5 : Int32) [(.int x0), (.int x1), (.int x2), (.int x3), (.int x4)] oZ) (SA : oS0 Z) (SH : oS1 Z) (SW : oS2 Z) (cx0 : Chr x0) (cx1 : Chr x1) (cx2 : Chr x2) (cx3 : Chr x3) (cx4 : Chr x4) (ha : ∀ c ∈ [x0, x1, x2, x3, x4], ¬ (255 : Int32) < c) :
    Met l Z oM8 oC8 6 none (oR 4 2 15 57) n0 [] #[(.ref s), (.ref c), oZ, (.int (5 : Int32)), .null] h0 (fun r h => r = none ∧ Keep h0 h [s] ∧ ∃ v k, Fld Z h s "java/lang/String" "value" "[B" (.ref v) ∧ Fld Z h s "java/lang/String" "coder" "B" (.int (0 : Int32)) ∧ Arv Z h v k .byte (5 : Int32) [(.int (oB x0)), (.int (oB x1)), (.int (oB x2)), (.int (oB x3)), (.int (oB x4))] oZ) := by
  refine Met.intro (Ls := #[.val (.ref s), .val (.ref c), .val oZ, .val (.int (5 : Int32)), .val .null, .unset]) (plainFor_of_name pn_m_iv1_1) hw (fun m => by first | (simp [entryFrame, mkF, argsToLocals, Value.category]; done) | rfl) ?_
  intro w K0
  have K : oK8 w Z a0 := K0
  have K1 := Keep.refl h0 [s]
  refine Rn.aloadN K (q := 1) d3_0 rfl rfl rfl ?_
  refine Rn.initO K (q := 4) (W := 0) (oT 17 rfl) (oT 18 rfl) (oT 19 rfl) (by decide) (by decide) rfl (oL rfl) d3_1 rfl ?_
  refine Rn.iloadN K (q := 5) d3_4 rfl rfl ?_
  refine Rn.ifY K (q := 27) d3_5 (XT.i0_ne_t (by decide)) (by decide) (by decide) ?_
  refine Rn.getS K (q := 30) (oT 61 rfl) (SC.ext X0.2) d3_27 rfl ?_
  refine Rn.ifN K (q := 33) d3_30 (XT.i0_eq_f hcs) rfl ?_
  refine Rn.aloadN K (q := 34) d3_33 rfl rfl rfl ?_
  refine Rn.iloadN K (q := 35) d3_34 rfl rfl ?_
  refine Rn.iloadN K (q := 36) d3_35 rfl rfl ?_
  refine Rn.stat K (q := 39) (W := 0) (y := oM6) (argsL := [(.ref c), oZ, (.int (5 : Int32))]) (rest := []) (oT 100 rfl) (oT 101 rfl) (oT 103 rfl) (oT 102 rfl) (by decide) (m_cp5_5 l Z a0 hw n0 h0 c kc x0 x1 x2 x3 x4 X0 SA SH SW Ec Ac cx0 cx1 cx2 cx3 cx4 (ha x0 (by simp)) (ha x1 (by simp)) (ha x2 (by simp)) (ha x3 (by simp)) (ha x4 (by simp))) (by decide) (by decide) rfl (lenOf pd_4 rfl) rfl (oL rfl) d3_36 rfl (by decide) (by decide) ?_
  rintro _ h1 ⟨v, k, rfl, K2, E3, A4⟩
  have f5 := X0.keep K2 all0
  have f6 := K1.trans K2 all0
  have f7 := Es.keep K2
  have f8 := Fv.keep K2 nin0
  have f9 := Fc.keep K2 nin0
  show Rn w l _ n0 _ 39 _ [(.ref v)] h1 1 5
  refine Rn.astore K (q := 41) (Ls' := #[.val (.ref s), .val (.ref c), .val oZ, .val (.int (5 : Int32)), .val .null, .val (.ref v)]) d3_39 rfl rfl rfl ?_
  refine Rn.aloadN K (q := 42) d3_41 rfl rfl rfl ?_
  refine Rn.aload K (q := 44) d3_42 rfl rfl rfl ?_
  refine Rn.iloadN K (q := 45) d3_44 rfl rfl ?_
  refine Rn.stat K (q := 48) (W := 1) (y := oM7) (argsL := [(.ref v), (.int (5 : Int32))]) (rest := [(.ref s)]) (oT 107 rfl) (oT 108 rfl) (oT 109 rfl) (oT 102 rfl) (by decide) (m_cfl5_0 l Z a0 hw n0 h1 v k x0 x1 x2 x3 x4 f5 A4) (by decide) (by decide) rfl (lenOf pd_6 rfl) rfl (oL rfl) d3_45 rfl (by decide) (by decide) ?_
  rintro _ _ ⟨rfl, rfl⟩
  show Rn w l _ n0 _ 48 _ [oZ, (.ref s)] h1 1 5
  refine Rn.putF K (q := 51) (ty := .byte) (v' := .int (nar .byte (0 : Int32))) (oT 27 rfl) Via.refl f9 f7 (Or.inr ⟨(oT 23 rfl), rfl, rfl⟩) (oT 7 rfl) (by decide) rfl (fits_nar_byte _) gs d3_48 rfl ?_
  intro h12 W13
  have f15 := f6.wr W13 (Or.inl (oT 0 rfl))
  have f16 := f7.wr W13
  have f17 := Fld.other W13 f8 (Or.inr (slot_ne (Or.inr (K.hw _ (oT 22 rfl))) (Or.inr (K.hw _ (oT 23 rfl))) (by decide) (t := (.array .byte)) (t' := .byte) (by decide) (by decide)))
  have f18 := Fld.same W13 f9
  have f21 := E3.wr W13
  have f22 := A4.other W13 (ne_exa E3 f7 (by decide))
  refine Rn.aloadN K (q := 52) d3_51 rfl rfl rfl ?_
  refine Rn.aload K (q := 54) d3_52 rfl rfl rfl ?_
  refine Rn.putF K (q := 57) (ty := (.array .byte)) (oT 26 rfl) Via.refl f17 f16 (Or.inr ⟨(oT 22 rfl), rfl, rfl⟩) (oT 7 rfl) (by decide) rfl rfl gs d3_54 rfl ?_
  intro h23 W24
  have f26 := f15.wr W24 (Or.inl (oT 0 rfl))
  have f28 := Fld.same W24 f17
  have f29 := Fld.other W24 f18 (Or.inr (slot_ne (Or.inr (K.hw _ (oT 23 rfl))) (Or.inr (K.hw _ (oT 22 rfl))) (by decide) (t := .byte) (t' := (.array .byte)) (by decide) (by decide)))
  have f33 := f22.other W24 (ne_exa f21 f16 (by decide))
  exact Rn.retV K rfl d3_57 (by decide) (by decide) ⟨rfl, f26, _, _, f28, f29, f33⟩
theorem m_ic5_0 (l : Launch) (Z : State) (a0 : Array Value) (hw : oH Z a0) (n0 : Nat) (h0 : Heap) (s c : Addr) (kc : ClassId) (x0 x1 x2 x3 x4 : Int32) (cst : Int32) (X0 : Old Z n0 h0) (SC : oSC Z cst) (hcs : ¬ cst = 0) (Es : Exa Z h0 s "java/lang/String") (gs : n0 ≤ s) (Fv : Fld Z h0 s "java/lang/String" "value" "[B" .null) (Fc : Fld Z h0 s "java/lang/String" "coder" "B" (.int (0 : Int32))) (Ec : Exa Z h0 c "[C") (Ac : Arv Z h0 c kc .char (5 : Int32) [(.int x0), (.int x1), (.int x2), (.int x3), (.int x4)] oZ) (SA : oS0 Z) (SH : oS1 Z) (SW : oS2 Z) (cx0 : Chr x0) (cx1 : Chr x1) (cx2 : Chr x2) (cx3 : Chr x3) (cx4 : Chr x4) (ha : ∀ c ∈ [x0, x1, x2, x3, x4], ¬ (255 : Int32) < c) :
    Met l Z oM9 oC9 2 none (oR 5 2 15 74) n0 [] #[(.ref s), (.ref c)] h0 (fun r h => r = none ∧ Keep h0 h [s] ∧ ∃ v, STR Z h s v [x0, x1, x2, x3, x4]) := by
  refine Met.intro (Ls := #[.val (.ref s), .val (.ref c)]) (plainFor_of_name pn_m_iv1_1) hw (fun _ => rfl) ?_
  intro w K0
  have K : oK9 w Z a0 := K0
  have K1 := Keep.refl h0 [s]
  refine Rn.aloadN K (q := 1) d2_0 rfl rfl rfl ?_
  refine Rn.aloadN K (q := 2) d2_1 rfl rfl rfl ?_
  refine Rn.iconst K (q := 3) (0 : Int32) d2_2 rfl rfl ?_
  refine Rn.aloadN K (q := 4) d2_3 rfl rfl rfl ?_
  refine Rn.arraylength K (q := 5) Ac d2_4 rfl ?_
  refine Rn.aconst_null K (q := 6) d2_5 rfl ?_
  refine Rn.spec K (q := 9) (W := 0) (y := oM8) (b := s) (argsL := [(.ref c), oZ, (.int (5 : Int32)), .null]) (rest := []) rfl (oT 13 rfl) (oT 14 rfl) (oT 16 rfl) (oT 8 rfl) (by decide) (m_iv5_0 l Z a0 hw n0 h0 s c kc x0 x1 x2 x3 x4 cst X0 SC hcs Es gs Fv Fc Ec Ac SA SH SW cx0 cx1 cx2 cx3 cx4 ha) (by decide) (by decide) rfl (lenOf pd_7 rfl) rfl (oL rfl) d2_6 rfl (by decide) (by decide) ?_
  rintro _ h1 ⟨rfl, K2, v, k, F1, F2, A2⟩
  have f3 := Es.keep K2
  show Rn w l _ n0 _ 9 _ [] h1 2 15
  exact Rn.retV K rfl d2_9 (by decide) (by decide) ⟨rfl, K2, v, f3, F1, k, Or.inl ⟨F2, A2, ha⟩⟩
theorem m_icc5 (l : Launch) (Z : State) (a0 : Array Value) (hw : oH Z a0) (n0 : Nat) (h0 : Heap) (s c : Addr) (kc : ClassId) (x0 x1 x2 x3 x4 : Int32) (cst : Int32) (X0 : Old Z n0 h0) (SC : oSC Z cst) (hcs : ¬ cst = 0) (Es : Exa Z h0 s "java/lang/String") (gs : n0 ≤ s) (Fv : Fld Z h0 s "java/lang/String" "value" "[B" .null) (Fc : Fld Z h0 s "java/lang/String" "coder" "B" (.int (0 : Int32))) (Ec : Exa Z h0 c "[C") (Ac : Arv Z h0 c kc .char (5 : Int32) [(.int x0), (.int x1), (.int x2), (.int x3), (.int x4)] oZ) (SA : oS0 Z) (SH : oS1 Z) (SW : oS2 Z) (cx0 : Chr x0) (cx1 : Chr x1) (cx2 : Chr x2) (cx3 : Chr x3) (cx4 : Chr x4) :
    Met l Z oM9 oC9 2 none (oR 5 2 15 74) n0 [] #[(.ref s), (.ref c)] h0 (fun r h => r = none ∧ Keep h0 h [s] ∧ ∃ v, STR Z h s v [x0, x1, x2, x3, x4]) := by
  by_cases ha : ∀ c ∈ [x0, x1, x2, x3, x4], ¬ (255 : Int32) < c
  · exact m_ic5_0 l Z a0 hw n0 h0 s c kc x0 x1 x2 x3 x4 cst X0 SC hcs Es gs Fv Fc Ec Ac SA SH SW cx0 cx1 cx2 cx3 cx4 ha
  · exact m_ic5_1 l Z a0 hw n0 h0 s c kc x0 x1 x2 x3 x4 cst X0 SC hcs Es gs Fv Fc Ec Ac SA SH SW cx0 cx1 cx2 cx3 cx4 ha
theorem d13_0 : decode oC10 0 = .ok (.getstatic 38, 3) := by decide +kernel
theorem d13_3 : decode oC10 3 = .ok (.ifCond .eq 10, 3) := by decide +kernel
theorem d13_6 : decode oC10 6 = .ok (.aload_n 0, 1) := by decide +kernel
theorem d13_7 : decode oC10 7 = .ok (.getfield 15, 3) := by decide +kernel
theorem d13_10 : decode oC10 10 = .ok (.goto 4, 3) := by decide +kernel
theorem d13_14 : decode oC10 14 = .ok (.ireturn, 1) := by decide +kernel
theorem m_cod0 (l : Launch) (Z : State) (a0 : Array Value) (hw : oH Z a0) (n0 : Nat) (h0 : Heap) (s : Addr) (cst : Int32) (X0 : Old Z n0 h0) (SC : oSC Z cst) (hcs : ¬ cst = 0) (Fc : Fld Z h0 s "java/lang/String" "coder" "B" (.int (0 : Int32))) :
    Met l Z oM10 oC10 1 (some .byte) (oR 0 0 0 0) n0 [] #[(.ref s)] h0 (fun v h => v = some (.int (0 : Int32)) ∧ h0 = h) := by
  refine Met.intro (Ls := #[.val (.ref s)]) (plainFor_of_name pn_m_iv1_1) hw (fun _ => rfl) ?_
  intro w K0
  have K : oK10 w Z a0 := K0
  refine Rn.getS K (q := 3) (oT 61 rfl) (SC.ext X0.2) d13_0 rfl ?_
  refine Rn.ifN K (q := 6) d13_3 (XT.i0_eq_f hcs) rfl ?_
  refine Rn.aloadN K (q := 7) d13_6 rfl rfl rfl ?_
  refine Rn.getF K (q := 10) (oT 27 rfl) Via.refl Fc d13_7 rfl ?_
  refine Rn.goto K (q := 14) d13_10 (by decide) (by decide) ?_
  exact Rn.retN K .byte rfl (by simp) d13_14 (by decide) (by decide) ⟨rfl, rfl⟩
theorem d9_0 : decode oC11 0 = .ok (.getstatic 38, 3) := by decide +kernel
theorem d9_3 : decode oC11 3 = .ok (.ifCond .eq 14, 3) := by decide +kernel
theorem d9_6 : decode oC11 6 = .ok (.aload_n 0, 1) := by decide +kernel
theorem d9_7 : decode oC11 7 = .ok (.getfield 15, 3) := by decide +kernel
theorem d9_10 : decode oC11 10 = .ok (.ifCond .ne 7, 3) := by decide +kernel
theorem d9_13 : decode oC11 13 = .ok (.iconst 1, 1) := by decide +kernel
theorem d9_14 : decode oC11 14 = .ok (.goto 4, 3) := by decide +kernel
theorem d9_18 : decode oC11 18 = .ok (.ireturn, 1) := by decide +kernel
theorem m_lat0 (l : Launch) (Z : State) (a0 : Array Value) (hw : oH Z a0) (n0 : Nat) (h0 : Heap) (s : Addr) (cst : Int32) (X0 : Old Z n0 h0) (SC : oSC Z cst) (hcs : ¬ cst = 0) (Fc : Fld Z h0 s "java/lang/String" "coder" "B" (.int (0 : Int32))) :
    Met l Z oM11 oC11 1 (some .boolean) (oR 0 0 0 0) n0 [] #[(.ref s)] h0 (fun v h => v = some (.int (1 : Int32)) ∧ h0 = h) := by
  refine Met.intro (Ls := #[.val (.ref s)]) (plainFor_of_name pn_m_iv1_1) hw (fun _ => rfl) ?_
  intro w K0
  have K : oK11 w Z a0 := K0
  refine Rn.getS K (q := 3) (oT 61 rfl) (SC.ext X0.2) d9_0 rfl ?_
  refine Rn.ifN K (q := 6) d9_3 (XT.i0_eq_f hcs) rfl ?_
  refine Rn.aloadN K (q := 7) d9_6 rfl rfl rfl ?_
  refine Rn.getF K (q := 10) (oT 27 rfl) Via.refl Fc d9_7 rfl ?_
  refine Rn.ifN K (q := 13) d9_10 (XT.i0_ne_f rfl) rfl ?_
  refine Rn.iconst K (q := 14) (1 : Int32) d9_13 rfl rfl ?_
  refine Rn.goto K (q := 18) d9_14 (by decide) (by decide) ?_
  exact Rn.retN K .boolean rfl (by simp) d9_18 (by decide) (by decide) ⟨rfl, rfl⟩
theorem m_cod1 (l : Launch) (Z : State) (a0 : Array Value) (hw : oH Z a0) (n0 : Nat) (h0 : Heap) (s : Addr) (cst : Int32) (X0 : Old Z n0 h0) (SC : oSC Z cst) (hcs : ¬ cst = 0) (Fc : Fld Z h0 s "java/lang/String" "coder" "B" (.int (1 : Int32))) :
    Met l Z oM10 oC10 1 (some .byte) (oR 0 0 0 0) n0 [] #[(.ref s)] h0 (fun v h => v = some (.int (1 : Int32)) ∧ h0 = h) := by
  refine Met.intro (Ls := #[.val (.ref s)]) (plainFor_of_name pn_m_iv1_1) hw (fun _ => rfl) ?_
  intro w K0
  have K : oK10 w Z a0 := K0
  refine Rn.getS K (q := 3) (oT 61 rfl) (SC.ext X0.2) d13_0 rfl ?_
  refine Rn.ifN K (q := 6) d13_3 (XT.i0_eq_f hcs) rfl ?_
  refine Rn.aloadN K (q := 7) d13_6 rfl rfl rfl ?_
  refine Rn.getF K (q := 10) (oT 27 rfl) Via.refl Fc d13_7 rfl ?_
  refine Rn.goto K (q := 14) d13_10 (by decide) (by decide) ?_
  exact Rn.retN K .byte rfl (by simp) d13_14 (by decide) (by decide) ⟨rfl, rfl⟩
theorem d9_17 : decode oC11 17 = .ok (.iconst 0, 1) := by decide +kernel
theorem m_lat1 (l : Launch) (Z : State) (a0 : Array Value) (hw : oH Z a0) (n0 : Nat) (h0 : Heap) (s : Addr) (cst : Int32) (X0 : Old Z n0 h0) (SC : oSC Z cst) (hcs : ¬ cst = 0) (Fc : Fld Z h0 s "java/lang/String" "coder" "B" (.int (1 : Int32))) :
    Met l Z oM11 oC11 1 (some .boolean) (oR 0 0 0 0) n0 [] #[(.ref s)] h0 (fun v h => v = some (.int (0 : Int32)) ∧ h0 = h) := by
  refine Met.intro (Ls := #[.val (.ref s)]) (plainFor_of_name pn_m_iv1_1) hw (fun _ => rfl) ?_
  intro w K0
  have K : oK11 w Z a0 := K0
  refine Rn.getS K (q := 3) (oT 61 rfl) (SC.ext X0.2) d9_0 rfl ?_
  refine Rn.ifN K (q := 6) d9_3 (XT.i0_eq_f hcs) rfl ?_
  refine Rn.aloadN K (q := 7) d9_6 rfl rfl rfl ?_
  refine Rn.getF K (q := 10) (oT 27 rfl) Via.refl Fc d9_7 rfl ?_
  refine Rn.ifY K (q := 17) d9_10 (XT.i0_ne_t (by decide)) (by decide) (by decide) ?_
  refine Rn.iconst K (q := 18) (0 : Int32) d9_17 rfl rfl ?_
  exact Rn.retN K .boolean rfl (by simp) d9_18 (by decide) (by decide) ⟨rfl, rfl⟩
theorem d12_0 : decode oC12 0 = .ok (.aload_n 0, 1) := by decide +kernel
theorem d12_1 : decode oC12 1 = .ok (.getfield 9, 3) := by decide +kernel
theorem d12_4 : decode oC12 4 = .ok (.arraylength, 1) := by decide +kernel
theorem d12_5 : decode oC12 5 = .ok (.aload_n 0, 1) := by decide +kernel
theorem d12_6 : decode oC12 6 = .ok (.invokevirtual 335, 3) := by decide +kernel
theorem d12_9 : decode oC12 9 = .ok (.ishr, 1) := by decide +kernel
theorem d12_10 : decode oC12 10 = .ok (.ireturn, 1) := by decide +kernel
theorem m_len5_1 (l : Launch) (Z : State) (a0 : Array Value) (hw : oH Z a0) (n0 : Nat) (h0 : Heap) (s v : Addr) (k : ClassId) (cst : Int32) (x0 x1 x2 x3 x4 : Int32) (X0 : Old Z n0 h0) (SC : oSC Z cst) (hcs : ¬ cst = 0) (Es : Exa Z h0 s "java/lang/String") (Fv : Fld Z h0 s "java/lang/String" "value" "[B" (.ref v)) (Fc : Fld Z h0 s "java/lang/String" "coder" "B" (.int (1 : Int32))) (Av : Arv Z h0 v k .byte (10 : Int32) [(.int (oB0 x0)), (.int (oB8 x0)), (.int (oB0 x1)), (.int (oB8 x1)), (.int (oB0 x2)), (.int (oB8 x2)), (.int (oB0 x3)), (.int (oB8 x3)), (.int (oB0 x4)), (.int (oB8 x4))] oZ) :
    Met l Z oM12 oC12 1 (some .int) (oR 1 0 0 13) n0 [] #[(.ref s)] h0 (fun v h => v = some (.int (5 : Int32)) ∧ h0 = h) := by
  refine Met.intro (Ls := #[.val (.ref s)]) (plainFor_of_name pn_m_iv1_1) hw (fun _ => rfl) ?_
  intro w K0
  have K : oK12 w Z a0 := K0
  refine Rn.aloadN K (q := 1) d12_0 rfl rfl rfl ?_
  refine Rn.getF K (q := 4) (oT 26 rfl) Via.refl Fv d12_1 rfl ?_
  refine Rn.arraylength K (q := 5) Av d12_4 rfl ?_
  refine Rn.aloadN K (q := 6) d12_5 rfl rfl rfl ?_
  refine Rn.virt K (q := 9) (W := 1) (y := oM10) (z := oM10) (b := s) (argsL := []) (rest := [(.int (10 : Int32))]) (oT 74 rfl) (oT 75 rfl) (nfs K (oT 77 rfl)) (oT 77 rfl) (oT 76 rfl) (oT 78 rfl) (oT 8 rfl) (by decide) (m_cod1 l Z a0 hw n0 h0 s cst X0 SC hcs Fc) Es (by decide) (by decide) rfl (lenOf pd_8 rfl) rfl (oL rfl) d12_6 rfl (by decide) (by decide) ?_
  rintro _ _ ⟨rfl, rfl⟩
  show Rn w l _ n0 _ 9 _ [(.int (1 : Int32)), (.int (10 : Int32))] h0 0 0
  refine Rn.ishr K (q := 10) d12_9 rfl ?_
  rw [show ((10 : Int32) >>> ((1 : Int32) &&& 31)) = (5 : Int32) from by decide]
  show Rn w l _ n0 _ 10 _ [(.int (5 : Int32))] h0 0 0
  exact Rn.retI K rfl d12_10 (by decide) (by decide) ⟨rfl, rfl⟩
theorem d34_0 : decode oC13 0 = .ok (.iload_n 2, 1) := by decide +kernel
theorem d34_1 : decode oC13 1 = .ok (.iload_n 0, 1) := by decide +kernel
theorem d34_2 : decode oC13 2 = .ok (.ior, 1) := by decide +kernel
theorem d34_3 : decode oC13 3 = .ok (.iload_n 1, 1) := by decide +kernel
theorem d34_4 : decode oC13 4 = .ok (.ior, 1) := by decide +kernel
theorem d34_5 : decode oC13 5 = .ok (.ifCond .lt 10, 3) := by decide +kernel
theorem d34_8 : decode oC13 8 = .ok (.iload_n 1, 1) := by decide +kernel
theorem d34_9 : decode oC13 9 = .ok (.iload_n 2, 1) := by decide +kernel
theorem d34_10 : decode oC13 10 = .ok (.iload_n 0, 1) := by decide +kernel
theorem d34_11 : decode oC13 11 = .ok (.isub, 1) := by decide +kernel
theorem d34_12 : decode oC13 12 = .ok (.if_icmp .le 11, 3) := by decide +kernel
theorem d34_23 : decode oC13 23 = .ok (.iload_n 0, 1) := by decide +kernel
theorem d34_24 : decode oC13 24 = .ok (.ireturn, 1) := by decide +kernel
theorem pn_m_pcf5 : plainName "jdk/internal/util/Preconditions" = true := by first | (simp [plainName, overriddenIn]; done) | decide +kernel
theorem m_pcf5 (l : Launch) (Z : State) (a0 : Array Value) (hw : oH Z a0) (n0 : Nat) (h0 : Heap) (fv : Value) (hfv : fv.isRef = true) (X0 : Old Z n0 h0) :
    Met l Z oM13 oC13 4 (some .int) (oR 0 0 0 0) n0 [] #[oZ, (.int (5 : Int32)), (.int (5 : Int32)), fv] h0 (fun v h => v = some (.int (0 : Int32)) ∧ h0 = h) := by
  refine Met.intro (Ls := #[.val oZ, .val (.int (5 : Int32)), .val (.int (5 : Int32)), .val fv]) (plainFor_of_name pn_m_pcf5) hw (fun m => by (rcases XT.refc hfv with qfv | ⟨_, qfv⟩ <;> rw [qfv]) <;> rfl) ?_
  intro w K0
  have K : oK13 w Z a0 := K0
  refine Rn.iloadN K (q := 1) d34_0 rfl rfl ?_
  refine Rn.iloadN K (q := 2) d34_1 rfl rfl ?_
  refine Rn.ior K (q := 3) d34_2 rfl ?_
  refine Rn.iloadN K (q := 4) d34_3 rfl rfl ?_
  refine Rn.ior K (q := 5) d34_4 rfl ?_
  refine Rn.ifN K (q := 8) d34_5 (XT.i0_lt_f (by decide)) rfl ?_
  refine Rn.iloadN K (q := 9) d34_8 rfl rfl ?_
  refine Rn.iloadN K (q := 10) d34_9 rfl rfl ?_
  refine Rn.iloadN K (q := 11) d34_10 rfl rfl ?_
  refine Rn.isub K (q := 12) d34_11 rfl ?_
  show Rn w l _ n0 _ 12 _ [(.int (5 : Int32)), (.int (5 : Int32))] h0 0 0
  refine Rn.icY K (q := 23) d34_12 (XT.ii_le_t (by decide)) (by decide) (by decide) ?_
  refine Rn.iloadN K (q := 24) d34_23 rfl rfl ?_
  exact Rn.retI K rfl d34_24 (by decide) (by decide) ⟨rfl, rfl⟩
theorem d33_0 : decode oC14 0 = .ok (.iload_n 0, 1) := by decide +kernel
theorem d33_1 : decode oC14 1 = .ok (.iload_n 1, 1) := by decide +kernel
theorem d33_2 : decode oC14 2 = .ok (.iload_n 2, 1) := by decide +kernel
theorem d33_3 : decode oC14 3 = .ok (.getstatic 1053, 3) := by decide +kernel
theorem d33_6 : decode oC14 6 = .ok (.invokestatic 1065, 3) := by decide +kernel
theorem d33_9 : decode oC14 9 = .ok (.ireturn, 1) := by decide +kernel
theorem m_scb5 (l : Launch) (Z : State) (a0 : Array Value) (hw : oH Z a0) (n0 : Nat) (h0 : Heap) (fv : Value) (hfv : fv.isRef = true) (X0 : Old Z n0 h0) (SQ : oSQ Z fv) :
    Met l Z oM14 oC14 3 (some .int) (oR 1 0 0 15) n0 [] #[oZ, (.int (5 : Int32)), (.int (5 : Int32))] h0 (fun v h => v = some (.int (0 : Int32)) ∧ h0 = h) := by
  refine Met.intro (Ls := #[.val oZ, .val (.int (5 : Int32)), .val (.int (5 : Int32))]) (plainFor_of_name pn_m_iv1_1) hw (fun _ => rfl) ?_
  intro w K0
  have K : oK14 w Z a0 := K0
  refine Rn.iloadN K (q := 1) d33_0 rfl rfl ?_
  refine Rn.iloadN K (q := 2) d33_1 rfl rfl ?_
  refine Rn.iloadN K (q := 3) d33_2 rfl rfl ?_
  refine Rn.getS K (q := 6) (oT 161 rfl) (SQ.ext X0.2) d33_3 rfl ?_
  refine Rn.stat K (q := 9) (W := 0) (y := oM13) (argsL := [oZ, (.int (5 : Int32)), (.int (5 : Int32)), fv]) (rest := []) (oT 163 rfl) (oT 164 rfl) (oT 165 rfl) (oT 162 rfl) (by decide) (m_pcf5 l Z a0 hw n0 h0 fv hfv X0) (by decide) (by decide) rfl (lenOf pd_9 rfl) rfl (oL rfl) d33_6 rfl (by decide) (by decide) ?_
  rintro _ _ ⟨rfl, rfl⟩
  show Rn w l _ n0 _ 9 _ [oZ] h0 0 0
  exact Rn.retI K rfl d33_9 (by decide) (by decide) ⟨rfl, rfl⟩
theorem d32_0 : decode oC15 0 = .ok (.aload_n 0, 1) := by decide +kernel
theorem d32_1 : decode oC15 1 = .ok (.arraylength, 1) := by decide +kernel
theorem d32_2 : decode oC15 2 = .ok (.iconst 1, 1) := by decide +kernel
theorem d32_3 : decode oC15 3 = .ok (.ishr, 1) := by decide +kernel
theorem d32_4 : decode oC15 4 = .ok (.ireturn, 1) := by decide +kernel
theorem m_sle5 (l : Launch) (Z : State) (a0 : Array Value) (hw : oH Z a0) (n0 : Nat) (h0 : Heap) (v : Addr) (k : ClassId) (x0 x1 x2 x3 x4 : Int32) (X0 : Old Z n0 h0) (Av : Arv Z h0 v k .byte (10 : Int32) [(.int (oB0 x0)), (.int (oB8 x0)), (.int (oB0 x1)), (.int (oB8 x1)), (.int (oB0 x2)), (.int (oB8 x2)), (.int (oB0 x3)), (.int (oB8 x3)), (.int (oB0 x4)), (.int (oB8 x4))] oZ) :
    Met l Z oM15 oC15 1 (some .int) (oR 0 0 0 0) n0 [] #[(.ref v)] h0 (fun v h => v = some (.int (5 : Int32)) ∧ h0 = h) := by
  refine Met.intro (Ls := #[.val (.ref v)]) (plainFor_of_name pn_m_cpr1_0) hw (fun _ => rfl) ?_
  intro w K0
  have K : oK15 w Z a0 := K0
  refine Rn.aloadN K (q := 1) d32_0 rfl rfl rfl ?_
  refine Rn.arraylength K (q := 2) Av d32_1 rfl ?_
  refine Rn.iconst K (q := 3) (1 : Int32) d32_2 rfl rfl ?_
  refine Rn.ishr K (q := 4) d32_3 rfl ?_
  rw [show ((10 : Int32) >>> ((1 : Int32) &&& 31)) = (5 : Int32) from by decide]
  show Rn w l _ n0 _ 4 _ [(.int (5 : Int32))] h0 0 0
  exact Rn.retI K rfl d32_4 (by decide) (by decide) ⟨rfl, rfl⟩
theorem d31_0 : decode oC16 0 = .ok (.iload_n 0, 1) := by decide +kernel
theorem d31_1 : decode oC16 1 = .ok (.iload_n 1, 1) := by decide +kernel
theorem d31_2 : decode oC16 2 = .ok (.aload_n 2, 1) := by decide +kernel
theorem d31_3 : decode oC16 3 = .ok (.invokestatic 48, 3) := by decide +kernel
theorem d31_6 : decode oC16 6 = .ok (.invokestatic 419, 3) := by decide +kernel
theorem d31_9 : decode oC16 9 = .ok (.pop, 1) := by decide +kernel
theorem d31_10 : decode oC16 10 = .ok (.return_, 1) := by decide +kernel
theorem m_cbo5 (l : Launch) (Z : State) (a0 : Array Value) (hw : oH Z a0) (n0 : Nat) (h0 : Heap) (v : Addr) (k : ClassId) (x0 x1 x2 x3 x4 : Int32) (fv : Value) (hfv : fv.isRef = true) (X0 : Old Z n0 h0) (SQ : oSQ Z fv) (Av : Arv Z h0 v k .byte (10 : Int32) [(.int (oB0 x0)), (.int (oB8 x0)), (.int (oB0 x1)), (.int (oB8 x1)), (.int (oB0 x2)), (.int (oB8 x2)), (.int (oB0 x3)), (.int (oB8 x3)), (.int (oB0 x4)), (.int (oB8 x4))] oZ) :
    Met l Z oM16 oC16 3 none (oR 2 0 0 29) n0 [] #[oZ, (.int (5 : Int32)), (.ref v)] h0 (fun v h => v = none ∧ h0 = h) := by
  refine Met.intro (Ls := #[.val oZ, .val (.int (5 : Int32)), .val (.ref v)]) (plainFor_of_name pn_m_cpr1_0) hw (fun _ => rfl) ?_
  intro w K0
  have K : oK16 w Z a0 := K0
  refine Rn.iloadN K (q := 1) d31_0 rfl rfl ?_
  refine Rn.iloadN K (q := 2) d31_1 rfl rfl ?_
  refine Rn.aloadN K (q := 3) d31_2 rfl rfl rfl ?_
  refine Rn.stat K (q := 6) (W := 2) (y := oM15) (argsL := [(.ref v)]) (rest := [(.int (5 : Int32)), oZ]) (oT 155 rfl) (oT 156 rfl) (oT 157 rfl) (oT 102 rfl) (by decide) (m_sle5 l Z a0 hw n0 h0 v k x0 x1 x2 x3 x4 X0 Av) (by decide) (by decide) rfl (lenOf pd_10 rfl) rfl (oL rfl) d31_3 rfl (by decide) (by decide) ?_
  rintro _ _ ⟨rfl, rfl⟩
  show Rn w l _ n0 _ 6 _ [(.int (5 : Int32)), (.int (5 : Int32)), oZ] h0 0 0
  refine Rn.stat K (q := 9) (W := 0) (y := oM14) (argsL := [oZ, (.int (5 : Int32)), (.int (5 : Int32))]) (rest := []) (oT 158 rfl) (oT 159 rfl) (oT 160 rfl) (oT 8 rfl) (by decide) (m_scb5 l Z a0 hw n0 h0 fv hfv X0 SQ) (by decide) (by decide) rfl (lenOf pd_11 rfl) rfl (oL rfl) d31_6 rfl (by decide) (by decide) ?_
  rintro _ _ ⟨rfl, rfl⟩
  show Rn w l _ n0 _ 9 _ [oZ] h0 0 0
  refine Rn.pop K (q := 10) d31_9 rfl rfl ?_
  exact Rn.retV K rfl d31_10 (by decide) (by decide) ⟨rfl, rfl⟩
theorem d30_0 : decode oC17 0 = .ok (.iload_n 1, 1) := by decide +kernel
theorem d30_1 : decode oC17 1 = .ok (.iload_n 2, 1) := by decide +kernel
theorem d30_2 : decode oC17 2 = .ok (.if_icmp .ge 11, 3) := by decide +kernel
theorem d30_5 : decode oC17 5 = .ok (.iload_n 1, 1) := by decide +kernel
theorem d30_6 : decode oC17 6 = .ok (.iload_n 2, 1) := by decide +kernel
theorem d30_7 : decode oC17 7 = .ok (.iload_n 1, 1) := by decide +kernel
theorem d30_8 : decode oC17 8 = .ok (.isub, 1) := by decide +kernel
theorem d30_9 : decode oC17 9 = .ok (.aload_n 0, 1) := by decide +kernel
theorem d30_10 : decode oC17 10 = .ok (.invokestatic 173, 3) := by decide +kernel
theorem d30_13 : decode oC17 13 = .ok (.iload_n 1, 1) := by decide +kernel
theorem d30_14 : decode oC17 14 = .ok (.istore 5, 2) := by decide +kernel
theorem d30_16 : decode oC17 16 = .ok (.iload 5, 2) := by decide +kernel
theorem d30_18 : decode oC17 18 = .ok (.iload_n 2, 1) := by decide +kernel
theorem d30_19 : decode oC17 19 = .ok (.if_icmp .ge 22, 3) := by decide +kernel
theorem d30_22 : decode oC17 22 = .ok (.aload_n 3, 1) := by decide +kernel
theorem d30_23 : decode oC17 23 = .ok (.iload 4, 2) := by decide +kernel
theorem d30_25 : decode oC17 25 = .ok (.iinc 4 1, 3) := by decide +kernel
theorem d30_28 : decode oC17 28 = .ok (.aload_n 0, 1) := by decide +kernel
theorem d30_29 : decode oC17 29 = .ok (.iload 5, 2) := by decide +kernel
theorem d30_31 : decode oC17 31 = .ok (.invokestatic 71, 3) := by decide +kernel
theorem d30_34 : decode oC17 34 = .ok (.castore, 1) := by decide +kernel
theorem d30_35 : decode oC17 35 = .ok (.iinc 5 1, 3) := by decide +kernel
theorem d30_38 : decode oC17 38 = .ok (.goto (-22), 3) := by decide +kernel
theorem d30_41 : decode oC17 41 = .ok (.return_, 1) := by decide +kernel
theorem m_gcs5 (l : Launch) (Z : State) (a0 : Array Value) (hw : oH Z a0) (n0 : Nat) (h0 : Heap) (v c : Addr) (k kc : ClassId) (x0 x1 x2 x3 x4 : Int32) (fv : Value) (hfv : fv.isRef = true) (X0 : Old Z n0 h0) (SQ : oSQ Z fv) (SA : oS0 Z) (SH : oS1 Z) (SW : oS2 Z) (Av : Arv Z h0 v k .byte (10 : Int32) [(.int (oB0 x0)), (.int (oB8 x0)), (.int (oB0 x1)), (.int (oB8 x1)), (.int (oB0 x2)), (.int (oB8 x2)), (.int (oB0 x3)), (.int (oB8 x3)), (.int (oB0 x4)), (.int (oB8 x4))] oZ) (Ec : Exa Z h0 c "[C") (Ac : Arv Z h0 c kc .char (5 : Int32) [oZ, oZ, oZ, oZ, oZ] oZ) (gc : n0 ≤ c) (hvc : v ≠ c) (cx0 : Chr x0) (cx1 : Chr x1) (cx2 : Chr x2) (cx3 : Chr x3) (cx4 : Chr x4) :
    Met l Z oM17 oC17 6 none (oR 3 0 0 43) n0 [] #[(.ref v), oZ, (.int (5 : Int32)), (.ref c), oZ] h0 (fun r h => r = none ∧ Keep h0 h [c] ∧ Arv Z h c kc .char (5 : Int32) [(.int x0), (.int x1), (.int x2), (.int x3), (.int x4)] oZ) := by
  refine Met.intro (Ls := #[.val (.ref v), .val oZ, .val (.int (5 : Int32)), .val (.ref c), .val oZ, .unset]) (plainFor_of_name pn_m_cpr1_0) hw (fun m => by first | (simp [entryFrame, mkF, argsToLocals, Value.category]; done) | rfl) ?_
  intro w K0
  have K : oK17 w Z a0 := K0
  have K1 := Keep.refl h0 [c]
  refine Rn.iloadN K (q := 1) d30_0 rfl rfl ?_
  refine Rn.iloadN K (q := 2) d30_1 rfl rfl ?_
  refine Rn.icN K (q := 5) d30_2 (XT.ii_ge_f (by decide)) rfl ?_
  refine Rn.iloadN K (q := 6) d30_5 rfl rfl ?_
  refine Rn.iloadN K (q := 7) d30_6 rfl rfl ?_
  refine Rn.iloadN K (q := 8) d30_7 rfl rfl ?_
  refine Rn.isub K (q := 9) d30_8 rfl ?_
  show Rn w l _ n0 _ 9 _ [(.int (5 : Int32)), oZ] h0 0 0
  refine Rn.aloadN K (q := 10) d30_9 rfl rfl rfl ?_
  refine Rn.stat K (q := 13) (W := 0) (y := oM16) (argsL := [oZ, (.int (5 : Int32)), (.ref v)]) (rest := []) (oT 152 rfl) (oT 153 rfl) (oT 154 rfl) (oT 102 rfl) (by decide) (m_cbo5 l Z a0 hw n0 h0 v k x0 x1 x2 x3 x4 fv hfv X0 SQ Av) (by decide) (by decide) rfl (lenOf pd_12 rfl) rfl (oL rfl) d30_10 rfl (by decide) (by decide) ?_
  rintro _ _ ⟨rfl, rfl⟩
  show Rn w l _ n0 _ 13 _ [] h0 0 0
  refine Rn.iloadN K (q := 14) d30_13 rfl rfl ?_
  refine Rn.istore K (q := 16) (Ls' := #[.val (.ref v), .val oZ, .val (.int (5 : Int32)), .val (.ref c), .val oZ, .val oZ]) d30_14 rfl rfl ?_
  refine Rn.iload K (q := 18) d30_16 rfl rfl ?_
  refine Rn.iloadN K (q := 19) d30_18 rfl rfl ?_
  refine Rn.icN K (q := 22) d30_19 (XT.ii_ge_f (by decide)) rfl ?_
  refine Rn.aloadN K (q := 23) d30_22 rfl rfl rfl ?_
  refine Rn.iload K (q := 25) d30_23 rfl rfl ?_
  refine Rn.iinc K (q := 28) (Ls' := #[.val (.ref v), .val oZ, .val (.int (5 : Int32)), .val (.ref c), .val (.int (1 : Int32)), .val oZ]) (1 : Int32) d30_25 rfl rfl rfl rfl ?_
  refine Rn.aloadN K (q := 29) d30_28 rfl rfl rfl ?_
  refine Rn.iload K (q := 31) d30_29 rfl rfl ?_
  refine Rn.stat K (q := 34) (W := 2) (y := oM4) (argsL := [(.ref v), oZ]) (rest := [oZ, (.ref c)]) (oT 143 rfl) (oT 144 rfl) (oT 145 rfl) (oT 102 rfl) (by decide) (m_gch5_0 l Z a0 hw n0 h0 v k x0 x1 x2 x3 x4 X0 SA SH SW Av cx0) (by decide) (by decide) rfl (lenOf pd_5 rfl) rfl (oL rfl) d30_31 rfl (by decide) (by decide) ?_
  rintro _ _ ⟨rfl, rfl⟩
  show Rn w l _ n0 _ 34 _ [(.int x0), oZ, (.ref c)] h0 0 0
  refine Rn.castore K (q := 35) (i := 0) Ac (by decide) rfl (oL rfl) gc d30_34 rfl ?_
  intro h1 W2 A3
  have f4 := X0.wr W2 gc
  have f5 := K1.wr W2 (Or.inl (oT 0 rfl))
  have f6 := Av.other W2 hvc
  replace A3 : Arv Z h1 c kc .char (5 : Int32) [(.int (nar .char x0)), oZ, oZ, oZ, oZ] oZ := A3
  refine Rn.iinc K (q := 38) (Ls' := #[.val (.ref v), .val oZ, .val (.int (5 : Int32)), .val (.ref c), .val (.int (1 : Int32)), .val (.int (1 : Int32))]) (1 : Int32) d30_35 rfl rfl rfl rfl ?_
  refine Rn.goto K (q := 16) d30_38 (by decide) (by decide) ?_
  refine Rn.iload K (q := 18) d30_16 rfl rfl ?_
  refine Rn.iloadN K (q := 19) d30_18 rfl rfl ?_
  refine Rn.icN K (q := 22) d30_19 (XT.ii_ge_f (by decide)) rfl ?_
  refine Rn.aloadN K (q := 23) d30_22 rfl rfl rfl ?_
  refine Rn.iload K (q := 25) d30_23 rfl rfl ?_
  refine Rn.iinc K (q := 28) (Ls' := #[.val (.ref v), .val oZ, .val (.int (5 : Int32)), .val (.ref c), .val (.int (2 : Int32)), .val (.int (1 : Int32))]) (1 : Int32) d30_25 rfl rfl rfl rfl ?_
  refine Rn.aloadN K (q := 29) d30_28 rfl rfl rfl ?_
  refine Rn.iload K (q := 31) d30_29 rfl rfl ?_
  refine Rn.stat K (q := 34) (W := 2) (y := oM4) (argsL := [(.ref v), (.int (1 : Int32))]) (rest := [(.int (1 : Int32)), (.ref c)]) (oT 143 rfl) (oT 144 rfl) (oT 145 rfl) (oT 102 rfl) (by decide) (m_gch5_1 l Z a0 hw n0 h1 v k x0 x1 x2 x3 x4 f4 SA SH SW f6 cx1) (by decide) (by decide) rfl (lenOf pd_5 rfl) rfl (oL rfl) d30_31 rfl (by decide) (by decide) ?_
  rintro _ _ ⟨rfl, rfl⟩
  show Rn w l _ n0 _ 34 _ [(.int x1), (.int (1 : Int32)), (.ref c)] h1 0 0
  refine Rn.castore K (q := 35) (i := 1) A3 (by decide) rfl (oL rfl) gc d30_34 rfl ?_
  intro h8 W9 A10
  have f11 := f4.wr W9 gc
  have f12 := f5.wr W9 (Or.inl (oT 0 rfl))
  have f13 := f6.other W9 hvc
  replace A10 : Arv Z h8 c kc .char (5 : Int32) [(.int (nar .char x0)), (.int (nar .char x1)), oZ, oZ, oZ] oZ := A10
  refine Rn.iinc K (q := 38) (Ls' := #[.val (.ref v), .val oZ, .val (.int (5 : Int32)), .val (.ref c), .val (.int (2 : Int32)), .val (.int (2 : Int32))]) (1 : Int32) d30_35 rfl rfl rfl rfl ?_
  refine Rn.goto K (q := 16) d30_38 (by decide) (by decide) ?_
  refine Rn.iload K (q := 18) d30_16 rfl rfl ?_
  refine Rn.iloadN K (q := 19) d30_18 rfl rfl ?_
  refine Rn.icN K (q := 22) d30_19 (XT.ii_ge_f (by decide)) rfl ?_
  refine Rn.aloadN K (q := 23) d30_22 rfl rfl rfl ?_
  refine Rn.iload K (q := 25) d30_23 rfl rfl ?_
  refine Rn.iinc K (q := 28) (Ls' := #[.val (.ref v), .val oZ, .val (.int (5 : Int32)), .val (.ref c), .val (.int (3 : Int32)), .val (.int (2 : Int32))]) (1 : Int32) d30_25 rfl rfl rfl rfl ?_
  refine Rn.aloadN K (q := 29) d30_28 rfl rfl rfl ?_
  refine Rn.iload K (q := 31) d30_29 rfl rfl ?_
  refine Rn.stat K (q := 34) (W := 2) (y := oM4) (argsL := [(.ref v), (.int (2 : Int32))]) (rest := [(.int (2 : Int32)), (.ref c)]) (oT 143 rfl) (oT 144 rfl) (oT 145 rfl) (oT 102 rfl) (by decide) (m_gch5_2 l Z a0 hw n0 h8 v k x0 x1 x2 x3 x4 f11 SA SH SW f13 cx2) (by decide) (by decide) rfl (lenOf pd_5 rfl) rfl (oL rfl) d30_31 rfl (by decide) (by decide) ?_
  rintro _ _ ⟨rfl, rfl⟩
  show Rn w l _ n0 _ 34 _ [(.int x2), (.int (2 : Int32)), (.ref c)] h8 0 0
  refine Rn.castore K (q := 35) (i := 2) A10 (by decide) rfl (oL rfl) gc d30_34 rfl ?_
  intro h15 W16 A17
  have f18 := f11.wr W16 gc
  have f19 := f12.wr W16 (Or.inl (oT 0 rfl))
  have f20 := f13.other W16 hvc
  replace A17 : Arv Z h15 c kc .char (5 : Int32) [(.int (nar .char x0)), (.int (nar .char x1)), (.int (nar .char x2)), oZ, oZ] oZ := A17
  refine Rn.iinc K (q := 38) (Ls' := #[.val (.ref v), .val oZ, .val (.int (5 : Int32)), .val (.ref c), .val (.int (3 : Int32)), .val (.int (3 : Int32))]) (1 : Int32) d30_35 rfl rfl rfl rfl ?_
  refine Rn.goto K (q := 16) d30_38 (by decide) (by decide) ?_
  refine Rn.iload K (q := 18) d30_16 rfl rfl ?_
  refine Rn.iloadN K (q := 19) d30_18 rfl rfl ?_
  refine Rn.icN K (q := 22) d30_19 (XT.ii_ge_f (by decide)) rfl ?_
  refine Rn.aloadN K (q := 23) d30_22 rfl rfl rfl ?_
  refine Rn.iload K (q := 25) d30_23 rfl rfl ?_
  refine Rn.iinc K (q := 28) (Ls' := #[.val (.ref v), .val oZ, .val (.int (5 : Int32)), .val (.ref c), .val (.int (4 : Int32)), .val (.int (3 : Int32))]) (1 : Int32) d30_25 rfl rfl rfl rfl ?_
  refine Rn.aloadN K (q := 29) d30_28 rfl rfl rfl ?_
  refine Rn.iload K (q := 31) d30_29 rfl rfl ?_
  refine Rn.stat K (q := 34) (W := 2) (y := oM4) (argsL := [(.ref v), (.int (3 : Int32))]) (rest := [(.int (3 : Int32)), (.ref c)]) (oT 143 rfl) (oT 144 rfl) (oT 145 rfl) (oT 102 rfl) (by decide) (m_gch5_3 l Z a0 hw n0 h15 v k x0 x1 x2 x3 x4 f18 SA SH SW f20 cx3) (by decide) (by decide) rfl (lenOf pd_5 rfl) rfl (oL rfl) d30_31 rfl (by decide) (by decide) ?_
  rintro _ _ ⟨rfl, rfl⟩
  show Rn w l _ n0 _ 34 _ [(.int x3), (.int (3 : Int32)), (.ref c)] h15 0 0
  refine Rn.castore K (q := 35) (i := 3) A17 (by decide) rfl (oL rfl) gc d30_34 rfl ?_
  intro h22 W23 A24
  have f25 := f18.wr W23 gc
  have f26 := f19.wr W23 (Or.inl (oT 0 rfl))
  have f27 := f20.other W23 hvc
  replace A24 : Arv Z h22 c kc .char (5 : Int32) [(.int (nar .char x0)), (.int (nar .char x1)), (.int (nar .char x2)), (.int (nar .char x3)), oZ] oZ := A24
  refine Rn.iinc K (q := 38) (Ls' := #[.val (.ref v), .val oZ, .val (.int (5 : Int32)), .val (.ref c), .val (.int (4 : Int32)), .val (.int (4 : Int32))]) (1 : Int32) d30_35 rfl rfl rfl rfl ?_
  refine Rn.goto K (q := 16) d30_38 (by decide) (by decide) ?_
  refine Rn.iload K (q := 18) d30_16 rfl rfl ?_
  refine Rn.iloadN K (q := 19) d30_18 rfl rfl ?_
  refine Rn.icN K (q := 22) d30_19 (XT.ii_ge_f (by decide)) rfl ?_
  refine Rn.aloadN K (q := 23) d30_22 rfl rfl rfl ?_
  refine Rn.iload K (q := 25) d30_23 rfl rfl ?_
  refine Rn.iinc K (q := 28) (Ls' := #[.val (.ref v), .val oZ, .val (.int (5 : Int32)), .val (.ref c), .val (.int (5 : Int32)), .val (.int (4 : Int32))]) (1 : Int32) d30_25 rfl rfl rfl rfl ?_
  refine Rn.aloadN K (q := 29) d30_28 rfl rfl rfl ?_
  refine Rn.iload K (q := 31) d30_29 rfl rfl ?_
  refine Rn.stat K (q := 34) (W := 2) (y := oM4) (argsL := [(.ref v), (.int (4 : Int32))]) (rest := [(.int (4 : Int32)), (.ref c)]) (oT 143 rfl) (oT 144 rfl) (oT 145 rfl) (oT 102 rfl) (by decide) (m_gch5_4 l Z a0 hw n0 h22 v k x0 x1 x2 x3 x4 f25 SA SH SW f27 cx4) (by decide) (by decide) rfl (lenOf pd_5 rfl) rfl (oL rfl) d30_31 rfl (by decide) (by decide) ?_
  rintro _ _ ⟨rfl, rfl⟩
  show Rn w l _ n0 _ 34 _ [(.int x4), (.int (4 : Int32)), (.ref c)] h22 0 0
  refine Rn.castore K (q := 35) (i := 4) A24 (by decide) rfl (oL rfl) gc d30_34 rfl ?_
  intro h29 W30 A31
  have f33 := f26.wr W30 (Or.inl (oT 0 rfl))
  replace A31 : Arv Z h29 c kc .char (5 : Int32) [(.int (nar .char x0)), (.int (nar .char x1)), (.int (nar .char x2)), (.int (nar .char x3)), (.int (nar .char x4))] oZ := A31
  refine Rn.iinc K (q := 38) (Ls' := #[.val (.ref v), .val oZ, .val (.int (5 : Int32)), .val (.ref c), .val (.int (5 : Int32)), .val (.int (5 : Int32))]) (1 : Int32) d30_35 rfl rfl rfl rfl ?_
  refine Rn.goto K (q := 16) d30_38 (by decide) (by decide) ?_
  refine Rn.iload K (q := 18) d30_16 rfl rfl ?_
  refine Rn.iloadN K (q := 19) d30_18 rfl rfl ?_
  refine Rn.icY K (q := 41) d30_19 (XT.ii_ge_t (by decide)) (by decide) (by decide) ?_
  exact Rn.retV K rfl d30_41 (by decide) (by decide) ⟨rfl, f33, by have q := A31; rw [own_nc cx0, own_nc cx1, own_nc cx2, own_nc cx3, own_nc cx4] at q; exact q⟩
theorem d29_0 : decode oC18 0 = .ok (.aload_n 0, 1) := by decide +kernel
theorem d29_1 : decode oC18 1 = .ok (.arraylength, 1) := by decide +kernel
theorem d29_2 : decode oC18 2 = .ok (.iconst 1, 1) := by decide +kernel
theorem d29_3 : decode oC18 3 = .ok (.ishr, 1) := by decide +kernel
theorem d29_4 : decode oC18 4 = .ok (.newarray .char, 2) := by decide +kernel
theorem d29_6 : decode oC18 6 = .ok (.astore_n 1, 1) := by decide +kernel
theorem d29_7 : decode oC18 7 = .ok (.aload_n 0, 1) := by decide +kernel
theorem d29_8 : decode oC18 8 = .ok (.iconst 0, 1) := by decide +kernel
theorem d29_9 : decode oC18 9 = .ok (.aload_n 1, 1) := by decide +kernel
theorem d29_10 : decode oC18 10 = .ok (.arraylength, 1) := by decide +kernel
theorem d29_11 : decode oC18 11 = .ok (.aload_n 1, 1) := by decide +kernel
theorem d29_12 : decode oC18 12 = .ok (.iconst 0, 1) := by decide +kernel
theorem d29_13 : decode oC18 13 = .ok (.invokestatic 103, 3) := by decide +kernel
theorem d29_16 : decode oC18 16 = .ok (.aload_n 1, 1) := by decide +kernel
theorem d29_17 : decode oC18 17 = .ok (.areturn, 1) := by decide +kernel
theorem m_utc5 (l : Launch) (Z : State) (a0 : Array Value) (hw : oH Z a0) (n0 : Nat) (h0 : Heap) (v : Addr) (k : ClassId) (x0 x1 x2 x3 x4 : Int32) (fv : Value) (hfv : fv.isRef = true) (X0 : Old Z n0 h0) (SQ : oSQ Z fv) (SA : oS0 Z) (SH : oS1 Z) (SW : oS2 Z) (Av : Arv Z h0 v k .byte (10 : Int32) [(.int (oB0 x0)), (.int (oB8 x0)), (.int (oB0 x1)), (.int (oB8 x1)), (.int (oB0 x2)), (.int (oB8 x2)), (.int (oB0 x3)), (.int (oB8 x3)), (.int (oB0 x4)), (.int (oB8 x4))] oZ) (cx0 : Chr x0) (cx1 : Chr x1) (cx2 : Chr x2) (cx3 : Chr x3) (cx4 : Chr x4) :
    Met l Z oM18 oC18 2 (some (.array .char)) (oR 4 1 5 60) n0 [] #[(.ref v)] h0 (fun r h => ∃ c k, r = some (.ref c) ∧ h0.size ≤ c ∧ Keep h0 h [] ∧ Exa Z h c "[C" ∧ Arv Z h c k .char (5 : Int32) [(.int x0), (.int x1), (.int x2), (.int x3), (.int x4)] oZ) := by
  refine Met.intro (Ls := #[.val (.ref v), .unset]) (plainFor_of_name pn_m_cpr1_0) hw (fun _ => rfl) ?_
  intro w K0
  have K : oK18 w Z a0 := K0
  have K1 := Keep.refl h0 []
  refine Rn.aloadN K (q := 1) d29_0 rfl rfl rfl ?_
  refine Rn.arraylength K (q := 2) Av d29_1 rfl ?_
  refine Rn.iconst K (q := 3) (1 : Int32) d29_2 rfl rfl ?_
  refine Rn.ishr K (q := 4) d29_3 rfl ?_
  rw [show ((10 : Int32) >>> ((1 : Int32) &&& 31)) = (5 : Int32) from by decide]
  show Rn w l _ n0 _ 4 _ [(.int (5 : Int32))] h0 0 0
  refine Rn.newP K (q := 6) (cap := 5) (oT 9 rfl) (by decide) (by decide) (by decide) (by decide) (by decide) (ad := "[C") (by decide) d29_4 rfl ?_
  intro b1 h2 k4 gb1_ X3 A_b1 EA_b1
  have ne_v_b1 : v ≠ b1 := fun e => absurd Av.lt (by rw [e, gb1_]; exact Nat.lt_irrefl _)
  have g_b1 : n0 ≤ b1 := by rw [gb1_]; exact X0.1 ▸ X0.2.1
  have sz_b1 : h0.size ≤ b1 := by rw [gb1_]; exact K1.1
  have f5 := X0.ext X3
  have f6 := K1.ext X3
  have f7 := Av.ext X3
  replace A_b1 : Arv Z h2 b1 k4 .char (5 : Int32) [oZ, oZ, oZ, oZ, oZ] oZ := A_b1.pad (pad_rep [] oZ 5)
  show Rn w l _ n0 _ 6 _ [(.ref b1)] h2 1 5
  refine Rn.astoreN K (q := 7) (Ls' := #[.val (.ref v), .val (.ref b1)]) d29_6 rfl rfl rfl ?_
  refine Rn.aloadN K (q := 8) d29_7 rfl rfl rfl ?_
  refine Rn.iconst K (q := 9) (0 : Int32) d29_8 rfl rfl ?_
  refine Rn.aloadN K (q := 10) d29_9 rfl rfl rfl ?_
  refine Rn.arraylength K (q := 11) A_b1 d29_10 rfl ?_
  refine Rn.aloadN K (q := 12) d29_11 rfl rfl rfl ?_
  refine Rn.iconst K (q := 13) (0 : Int32) d29_12 rfl rfl ?_
  refine Rn.stat K (q := 16) (W := 0) (y := oM17) (argsL := [(.ref v), oZ, (.int (5 : Int32)), (.ref b1), oZ]) (rest := []) (oT 149 rfl) (oT 150 rfl) (oT 151 rfl) (oT 102 rfl) (by decide) (m_gcs5 l Z a0 hw n0 h2 v b1 k k4 x0 x1 x2 x3 x4 fv hfv f5 SQ SA SH SW f7 EA_b1 A_b1 g_b1 ne_v_b1 cx0 cx1 cx2 cx3 cx4) (by decide) (by decide) rfl (lenOf pd_13 rfl) rfl (oL rfl) d29_13 rfl (by decide) (by decide) ?_
  rintro _ h8 ⟨rfl, K9, A10⟩
  have f12 := f6.trans K9 (allS (Or.inr sz_b1) all0)
  have f14 := EA_b1.keep K9
  show Rn w l _ n0 _ 16 _ [] h8 1 5
  refine Rn.aloadN K (q := 17) d29_16 rfl rfl rfl ?_
  exact Rn.retA K (.array .char) rfl rfl rfl d29_17 (by decide) (by decide) ⟨_, _, rfl, sz_b1, f12, f14, A10⟩
theorem d8_0 : decode oC19 0 = .ok (.aload_n 0, 1) := by decide +kernel
theorem d8_1 : decode oC19 1 = .ok (.invokevirtual 492, 3) := by decide +kernel
theorem d8_4 : decode oC19 4 = .ok (.ifCond .eq 13, 3) := by decide +kernel
theorem d8_17 : decode oC19 17 = .ok (.aload_n 0, 1) := by decide +kernel
theorem d8_18 : decode oC19 18 = .ok (.getfield 9, 3) := by decide +kernel
theorem d8_21 : decode oC19 21 = .ok (.invokestatic 303, 3) := by decide +kernel
theorem d8_24 : decode oC19 24 = .ok (.areturn, 1) := by decide +kernel
theorem m_tca5_1 (l : Launch) (Z : State) (a0 : Array Value) (hw : oH Z a0) (n0 : Nat) (h0 : Heap) (s v : Addr) (k : ClassId) (cst : Int32) (x0 x1 x2 x3 x4 : Int32) (fv : Value) (hfv : fv.isRef = true) (X0 : Old Z n0 h0) (SC : oSC Z cst) (hcs : ¬ cst = 0) (SQ : oSQ Z fv) (SA : oS0 Z) (SH : oS1 Z) (SW : oS2 Z) (Es : Exa Z h0 s "java/lang/String") (Fv : Fld Z h0 s "java/lang/String" "value" "[B" (.ref v)) (Fc : Fld Z h0 s "java/lang/String" "coder" "B" (.int (1 : Int32))) (Av : Arv Z h0 v k .byte (10 : Int32) [(.int (oB0 x0)), (.int (oB8 x0)), (.int (oB0 x1)), (.int (oB8 x1)), (.int (oB0 x2)), (.int (oB8 x2)), (.int (oB0 x3)), (.int (oB8 x3)), (.int (oB0 x4)), (.int (oB8 x4))] oZ) (cx0 : Chr x0) (cx1 : Chr x1) (cx2 : Chr x2) (cx3 : Chr x3) (cx4 : Chr x4) :
    Met l Z oM19 oC19 1 (some (.array .char)) (oR 5 1 5 73) n0 [] #[(.ref s)] h0 (fun r h => ∃ c k, r = some (.ref c) ∧ h0.size ≤ c ∧ Keep h0 h [] ∧ Exa Z h c "[C" ∧ Arv Z h c k .char (5 : Int32) [(.int x0), (.int x1), (.int x2), (.int x3), (.int x4)] oZ) := by
  refine Met.intro (Ls := #[.val (.ref s)]) (plainFor_of_name pn_m_iv1_1) hw (fun _ => rfl) ?_
  intro w K0
  have K : oK19 w Z a0 := K0
  refine Rn.aloadN K (q := 1) d8_0 rfl rfl rfl ?_
  refine Rn.virt K (q := 4) (W := 0) (y := oM11) (z := oM11) (b := s) (argsL := []) (rest := []) (oT 56 rfl) (oT 57 rfl) (nfs K (oT 59 rfl)) (oT 59 rfl) (oT 58 rfl) (oT 60 rfl) (oT 8 rfl) (by decide) (m_lat1 l Z a0 hw n0 h0 s cst X0 SC hcs Fc) Es (by decide) (by decide) rfl (lenOf pd_14 rfl) rfl (oL rfl) d8_1 rfl (by decide) (by decide) ?_
  rintro _ _ ⟨rfl, rfl⟩
  show Rn w l _ n0 _ 4 _ [oZ] h0 0 0
  refine Rn.ifY K (q := 17) d8_4 (XT.i0_eq_t rfl) (by decide) (by decide) ?_
  refine Rn.aloadN K (q := 18) d8_17 rfl rfl rfl ?_
  refine Rn.getF K (q := 21) (oT 26 rfl) Via.refl Fv d8_18 rfl ?_
  refine Rn.stat K (q := 24) (W := 0) (y := oM18) (argsL := [(.ref v)]) (rest := []) (oT 146 rfl) (oT 147 rfl) (oT 148 rfl) (oT 102 rfl) (by decide) (m_utc5 l Z a0 hw n0 h0 v k x0 x1 x2 x3 x4 fv hfv X0 SQ SA SH SW Av cx0 cx1 cx2 cx3 cx4 ) (by decide) (by decide) rfl (lenOf pd_15 rfl) rfl (oL rfl) d8_21 rfl (by decide) (by decide) ?_
  rintro _ h1 ⟨c, kc, rfl, Q1⟩
  show Rn w l _ n0 _ 24 _ [(.ref c)] h1 1 5
  exact Rn.retA K (.array .char) rfl rfl rfl d8_24 (by decide) (by decide) ⟨c, kc, rfl, Q1⟩
theorem m_len4_1 (l : Launch) (Z : State) (a0 : Array Value) (hw : oH Z a0) (n0 : Nat) (h0 : Heap) (s v : Addr) (k : ClassId) (cst : Int32) (x0 x1 x2 x3 : Int32) (X0 : Old Z n0 h0) (SC : oSC Z cst) (hcs : ¬ cst = 0) (Es : Exa Z h0 s "java/lang/String") (Fv : Fld Z h0 s "java/lang/String" "value" "[B" (.ref v)) (Fc : Fld Z h0 s "java/lang/String" "coder" "B" (.int (1 : Int32))) (Av : Arv Z h0 v k .byte (8 : Int32) [(.int (oB0 x0)), (.int (oB8 x0)), (.int (oB0 x1)), (.int (oB8 x1)), (.int (oB0 x2)), (.int (oB8 x2)), (.int (oB0 x3)), (.int (oB8 x3))] oZ) :
    Met l Z oM12 oC12 1 (some .int) (oR 1 0 0 13) n0 [] #[(.ref s)] h0 (fun v h => v = some (.int (4 : Int32)) ∧ h0 = h) := by
  refine Met.intro (Ls := #[.val (.ref s)]) (plainFor_of_name pn_m_iv1_1) hw (fun _ => rfl) ?_
  intro w K0
  have K : oK12 w Z a0 := K0
  refine Rn.aloadN K (q := 1) d12_0 rfl rfl rfl ?_
  refine Rn.getF K (q := 4) (oT 26 rfl) Via.refl Fv d12_1 rfl ?_
  refine Rn.arraylength K (q := 5) Av d12_4 rfl ?_
  refine Rn.aloadN K (q := 6) d12_5 rfl rfl rfl ?_
  refine Rn.virt K (q := 9) (W := 1) (y := oM10) (z := oM10) (b := s) (argsL := []) (rest := [(.int (8 : Int32))]) (oT 74 rfl) (oT 75 rfl) (nfs K (oT 77 rfl)) (oT 77 rfl) (oT 76 rfl) (oT 78 rfl) (oT 8 rfl) (by decide) (m_cod1 l Z a0 hw n0 h0 s cst X0 SC hcs Fc) Es (by decide) (by decide) rfl (lenOf pd_8 rfl) rfl (oL rfl) d12_6 rfl (by decide) (by decide) ?_
  rintro _ _ ⟨rfl, rfl⟩
  show Rn w l _ n0 _ 9 _ [(.int (1 : Int32)), (.int (8 : Int32))] h0 0 0
  refine Rn.ishr K (q := 10) d12_9 rfl ?_
  rw [show ((8 : Int32) >>> ((1 : Int32) &&& 31)) = (4 : Int32) from by decide]
  show Rn w l _ n0 _ 10 _ [(.int (4 : Int32))] h0 0 0
  exact Rn.retI K rfl d12_10 (by decide) (by decide) ⟨rfl, rfl⟩
theorem m_pcf4 (l : Launch) (Z : State) (a0 : Array Value) (hw : oH Z a0) (n0 : Nat) (h0 : Heap) (fv : Value) (hfv : fv.isRef = true) (X0 : Old Z n0 h0) :
    Met l Z oM13 oC13 4 (some .int) (oR 0 0 0 0) n0 [] #[oZ, (.int (4 : Int32)), (.int (4 : Int32)), fv] h0 (fun v h => v = some (.int (0 : Int32)) ∧ h0 = h) := by
  refine Met.intro (Ls := #[.val oZ, .val (.int (4 : Int32)), .val (.int (4 : Int32)), .val fv]) (plainFor_of_name pn_m_pcf5) hw (fun m => by (rcases XT.refc hfv with qfv | ⟨_, qfv⟩ <;> rw [qfv]) <;> rfl) ?_
  intro w K0
  have K : oK13 w Z a0 := K0
  refine Rn.iloadN K (q := 1) d34_0 rfl rfl ?_
  refine Rn.iloadN K (q := 2) d34_1 rfl rfl ?_
  refine Rn.ior K (q := 3) d34_2 rfl ?_
  refine Rn.iloadN K (q := 4) d34_3 rfl rfl ?_
  refine Rn.ior K (q := 5) d34_4 rfl ?_
  refine Rn.ifN K (q := 8) d34_5 (XT.i0_lt_f (by decide)) rfl ?_
  refine Rn.iloadN K (q := 9) d34_8 rfl rfl ?_
  refine Rn.iloadN K (q := 10) d34_9 rfl rfl ?_
  refine Rn.iloadN K (q := 11) d34_10 rfl rfl ?_
  refine Rn.isub K (q := 12) d34_11 rfl ?_
  show Rn w l _ n0 _ 12 _ [(.int (4 : Int32)), (.int (4 : Int32))] h0 0 0
  refine Rn.icY K (q := 23) d34_12 (XT.ii_le_t (by decide)) (by decide) (by decide) ?_
  refine Rn.iloadN K (q := 24) d34_23 rfl rfl ?_
  exact Rn.retI K rfl d34_24 (by decide) (by decide) ⟨rfl, rfl⟩
theorem m_scb4 (l : Launch) (Z : State) (a0 : Array Value) (hw : oH Z a0) (n0 : Nat) (h0 : Heap) (fv : Value) (hfv : fv.isRef = true) (X0 : Old Z n0 h0) (SQ : oSQ Z fv) :
    Met l Z oM14 oC14 3 (some .int) (oR 1 0 0 15) n0 [] #[oZ, (.int (4 : Int32)), (.int (4 : Int32))] h0 (fun v h => v = some (.int (0 : Int32)) ∧ h0 = h) := by
  refine Met.intro (Ls := #[.val oZ, .val (.int (4 : Int32)), .val (.int (4 : Int32))]) (plainFor_of_name pn_m_iv1_1) hw (fun _ => rfl) ?_
  intro w K0
  have K : oK14 w Z a0 := K0
  refine Rn.iloadN K (q := 1) d33_0 rfl rfl ?_
  refine Rn.iloadN K (q := 2) d33_1 rfl rfl ?_
  refine Rn.iloadN K (q := 3) d33_2 rfl rfl ?_
  refine Rn.getS K (q := 6) (oT 161 rfl) (SQ.ext X0.2) d33_3 rfl ?_
  refine Rn.stat K (q := 9) (W := 0) (y := oM13) (argsL := [oZ, (.int (4 : Int32)), (.int (4 : Int32)), fv]) (rest := []) (oT 163 rfl) (oT 164 rfl) (oT 165 rfl) (oT 162 rfl) (by decide) (m_pcf4 l Z a0 hw n0 h0 fv hfv X0) (by decide) (by decide) rfl (lenOf pd_9 rfl) rfl (oL rfl) d33_6 rfl (by decide) (by decide) ?_
  rintro _ _ ⟨rfl, rfl⟩
  show Rn w l _ n0 _ 9 _ [oZ] h0 0 0
  exact Rn.retI K rfl d33_9 (by decide) (by decide) ⟨rfl, rfl⟩
theorem m_sle4 (l : Launch) (Z : State) (a0 : Array Value) (hw : oH Z a0) (n0 : Nat) (h0 : Heap) (v : Addr) (k : ClassId) (x0 x1 x2 x3 : Int32) (X0 : Old Z n0 h0) (Av : Arv Z h0 v k .byte (8 : Int32) [(.int (oB0 x0)), (.int (oB8 x0)), (.int (oB0 x1)), (.int (oB8 x1)), (.int (oB0 x2)), (.int (oB8 x2)), (.int (oB0 x3)), (.int (oB8 x3))] oZ) :
    Met l Z oM15 oC15 1 (some .int) (oR 0 0 0 0) n0 [] #[(.ref v)] h0 (fun v h => v = some (.int (4 : Int32)) ∧ h0 = h) := by
  refine Met.intro (Ls := #[.val (.ref v)]) (plainFor_of_name pn_m_cpr1_0) hw (fun _ => rfl) ?_
  intro w K0
  have K : oK15 w Z a0 := K0
  refine Rn.aloadN K (q := 1) d32_0 rfl rfl rfl ?_
  refine Rn.arraylength K (q := 2) Av d32_1 rfl ?_
  refine Rn.iconst K (q := 3) (1 : Int32) d32_2 rfl rfl ?_
  refine Rn.ishr K (q := 4) d32_3 rfl ?_
  rw [show ((8 : Int32) >>> ((1 : Int32) &&& 31)) = (4 : Int32) from by decide]
  show Rn w l _ n0 _ 4 _ [(.int (4 : Int32))] h0 0 0
  exact Rn.retI K rfl d32_4 (by decide) (by decide) ⟨rfl, rfl⟩
theorem m_cbo4 (l : Launch) (Z : State) (a0 : Array Value) (hw : oH Z a0) (n0 : Nat) (h0 : Heap) (v : Addr) (k : ClassId) (x0 x1 x2 x3 : Int32) (fv : Value) (hfv : fv.isRef = true) (X0 : Old Z n0 h0) (SQ : oSQ Z fv) (Av : Arv Z h0 v k .byte (8 : Int32) [(.int (oB0 x0)), (.int (oB8 x0)), (.int (oB0 x1)), (.int (oB8 x1)), (.int (oB0 x2)), (.int (oB8 x2)), (.int (oB0 x3)), (.int (oB8 x3))] oZ) :
    Met l Z oM16 oC16 3 none (oR 2 0 0 29) n0 [] #[oZ, (.int (4 : Int32)), (.ref v)] h0 (fun v h => v = none ∧ h0 = h) := by
  refine Met.intro (Ls := #[.val oZ, .val (.int (4 : Int32)), .val (.ref v)]) (plainFor_of_name pn_m_cpr1_0) hw (fun _ => rfl) ?_
  intro w K0
  have K : oK16 w Z a0 := K0
  refine Rn.iloadN K (q := 1) d31_0 rfl rfl ?_
  refine Rn.iloadN K (q := 2) d31_1 rfl rfl ?_
  refine Rn.aloadN K (q := 3) d31_2 rfl rfl rfl ?_
  refine Rn.stat K (q := 6) (W := 2) (y := oM15) (argsL := [(.ref v)]) (rest := [(.int (4 : Int32)), oZ]) (oT 155 rfl) (oT 156 rfl) (oT 157 rfl) (oT 102 rfl) (by decide) (m_sle4 l Z a0 hw n0 h0 v k x0 x1 x2 x3 X0 Av) (by decide) (by decide) rfl (lenOf pd_10 rfl) rfl (oL rfl) d31_3 rfl (by decide) (by decide) ?_
  rintro _ _ ⟨rfl, rfl⟩
  show Rn w l _ n0 _ 6 _ [(.int (4 : Int32)), (.int (4 : Int32)), oZ] h0 0 0
  refine Rn.stat K (q := 9) (W := 0) (y := oM14) (argsL := [oZ, (.int (4 : Int32)), (.int (4 : Int32))]) (rest := []) (oT 158 rfl) (oT 159 rfl) (oT 160 rfl) (oT 8 rfl) (by decide) (m_scb4 l Z a0 hw n0 h0 fv hfv X0 SQ) (by decide) (by decide) rfl (lenOf pd_11 rfl) rfl (oL rfl) d31_6 rfl (by decide) (by decide) ?_
  rintro _ _ ⟨rfl, rfl⟩
  show Rn w l _ n0 _ 9 _ [oZ] h0 0 0
  refine Rn.pop K (q := 10) d31_9 rfl rfl ?_
  exact Rn.retV K rfl d31_10 (by decide) (by decide) ⟨rfl, rfl⟩
theorem m_gcs4 (l : Launch) (Z : State) (a0 : Array Value) (hw : oH Z a0) (n0 : Nat) (h0 : Heap) (v c : Addr) (k kc : ClassId) (x0 x1 x2 x3 : Int32) (fv : Value) (hfv : fv.isRef = true) (X0 : Old Z n0 h0) (SQ : oSQ Z fv) (SA : oS0 Z) (SH : oS1 Z) (SW : oS2 Z) (Av : Arv Z h0 v k .byte (8 : Int32) [(.int (oB0 x0)), (.int (oB8 x0)), (.int (oB0 x1)), (.int (oB8 x1)), (.int (oB0 x2)), (.int (oB8 x2)), (.int (oB0 x3)), (.int (oB8 x3))] oZ) (Ec : Exa Z h0 c "[C") (Ac : Arv Z h0 c kc .char (4 : Int32) [oZ, oZ, oZ, oZ] oZ) (gc : n0 ≤ c) (hvc : v ≠ c) (cx0 : Chr x0) (cx1 : Chr x1) (cx2 : Chr x2) (cx3 : Chr x3) :
    Met l Z oM17 oC17 6 none (oR 3 0 0 43) n0 [] #[(.ref v), oZ, (.int (4 : Int32)), (.ref c), oZ] h0 (fun r h => r = none ∧ Keep h0 h [c] ∧ Arv Z h c kc .char (4 : Int32) [(.int x0), (.int x1), (.int x2), (.int x3)] oZ) := by
  refine Met.intro (Ls := #[.val (.ref v), .val oZ, .val (.int (4 : Int32)), .val (.ref c), .val oZ, .unset]) (plainFor_of_name pn_m_cpr1_0) hw (fun m => by first | (simp [entryFrame, mkF, argsToLocals, Value.category]; done) | rfl) ?_
  intro w K0
  have K : oK17 w Z a0 := K0
  have K1 := Keep.refl h0 [c]
  refine Rn.iloadN K (q := 1) d30_0 rfl rfl ?_
  refine Rn.iloadN K (q := 2) d30_1 rfl rfl ?_
  refine Rn.icN K (q := 5) d30_2 (XT.ii_ge_f (by decide)) rfl ?_
  refine Rn.iloadN K (q := 6) d30_5 rfl rfl ?_
  refine Rn.iloadN K (q := 7) d30_6 rfl rfl ?_
  refine Rn.iloadN K (q := 8) d30_7 rfl rfl ?_
  refine Rn.isub K (q := 9) d30_8 rfl ?_
  show Rn w l _ n0 _ 9 _ [(.int (4 : Int32)), oZ] h0 0 0
  refine Rn.aloadN K (q := 10) d30_9 rfl rfl rfl ?_
  refine Rn.stat K (q := 13) (W := 0) (y := oM16) (argsL := [oZ, (.int (4 : Int32)), (.ref v)]) (rest := []) (oT 152 rfl) (oT 153 rfl) (oT 154 rfl) (oT 102 rfl) (by decide) (m_cbo4 l Z a0 hw n0 h0 v k x0 x1 x2 x3 fv hfv X0 SQ Av) (by decide) (by decide) rfl (lenOf pd_12 rfl) rfl (oL rfl) d30_10 rfl (by decide) (by decide) ?_
  rintro _ _ ⟨rfl, rfl⟩
  show Rn w l _ n0 _ 13 _ [] h0 0 0
  refine Rn.iloadN K (q := 14) d30_13 rfl rfl ?_
  refine Rn.istore K (q := 16) (Ls' := #[.val (.ref v), .val oZ, .val (.int (4 : Int32)), .val (.ref c), .val oZ, .val oZ]) d30_14 rfl rfl ?_
  refine Rn.iload K (q := 18) d30_16 rfl rfl ?_
  refine Rn.iloadN K (q := 19) d30_18 rfl rfl ?_
  refine Rn.icN K (q := 22) d30_19 (XT.ii_ge_f (by decide)) rfl ?_
  refine Rn.aloadN K (q := 23) d30_22 rfl rfl rfl ?_
  refine Rn.iload K (q := 25) d30_23 rfl rfl ?_
  refine Rn.iinc K (q := 28) (Ls' := #[.val (.ref v), .val oZ, .val (.int (4 : Int32)), .val (.ref c), .val (.int (1 : Int32)), .val oZ]) (1 : Int32) d30_25 rfl rfl rfl rfl ?_
  refine Rn.aloadN K (q := 29) d30_28 rfl rfl rfl ?_
  refine Rn.iload K (q := 31) d30_29 rfl rfl ?_
  refine Rn.stat K (q := 34) (W := 2) (y := oM4) (argsL := [(.ref v), oZ]) (rest := [oZ, (.ref c)]) (oT 143 rfl) (oT 144 rfl) (oT 145 rfl) (oT 102 rfl) (by decide) (m_gch4_0 l Z a0 hw n0 h0 v k x0 x1 x2 x3 X0 SA SH SW Av cx0) (by decide) (by decide) rfl (lenOf pd_5 rfl) rfl (oL rfl) d30_31 rfl (by decide) (by decide) ?_
  rintro _ _ ⟨rfl, rfl⟩
  show Rn w l _ n0 _ 34 _ [(.int x0), oZ, (.ref c)] h0 0 0
  refine Rn.castore K (q := 35) (i := 0) Ac (by decide) rfl (oL rfl) gc d30_34 rfl ?_
  intro h1 W2 A3
  have f4 := X0.wr W2 gc
  have f5 := K1.wr W2 (Or.inl (oT 0 rfl))
  have f6 := Av.other W2 hvc
  replace A3 : Arv Z h1 c kc .char (4 : Int32) [(.int (nar .char x0)), oZ, oZ, oZ] oZ := A3
  refine Rn.iinc K (q := 38) (Ls' := #[.val (.ref v), .val oZ, .val (.int (4 : Int32)), .val (.ref c), .val (.int (1 : Int32)), .val (.int (1 : Int32))]) (1 : Int32) d30_35 rfl rfl rfl rfl ?_
  refine Rn.goto K (q := 16) d30_38 (by decide) (by decide) ?_
  refine Rn.iload K (q := 18) d30_16 rfl rfl ?_
  refine Rn.iloadN K (q := 19) d30_18 rfl rfl ?_
  refine Rn.icN K (q := 22) d30_19 (XT.ii_ge_f (by decide)) rfl ?_
  refine Rn.aloadN K (q := 23) d30_22 rfl rfl rfl ?_
  refine Rn.iload K (q := 25) d30_23 rfl rfl ?_
  refine Rn.iinc K (q := 28) (Ls' := #[.val (.ref v), .val oZ, .val (.int (4 : Int32)), .val (.ref c), .val (.int (2 : Int32)), .val (.int (1 : Int32))]) (1 : Int32) d30_25 rfl rfl rfl rfl ?_
  refine Rn.aloadN K (q := 29) d30_28 rfl rfl rfl ?_
  refine Rn.iload K (q := 31) d30_29 rfl rfl ?_
  refine Rn.stat K (q := 34) (W := 2) (y := oM4) (argsL := [(.ref v), (.int (1 : Int32))]) (rest := [(.int (1 : Int32)), (.ref c)]) (oT 143 rfl) (oT 144 rfl) (oT 145 rfl) (oT 102 rfl) (by decide) (m_gch4_1 l Z a0 hw n0 h1 v k x0 x1 x2 x3 f4 SA SH SW f6 cx1) (by decide) (by decide) rfl (lenOf pd_5 rfl) rfl (oL rfl) d30_31 rfl (by decide) (by decide) ?_
  rintro _ _ ⟨rfl, rfl⟩
  show Rn w l _ n0 _ 34 _ [(.int x1), (.int (1 : Int32)), (.ref c)] h1 0 0
  refine Rn.castore K (q := 35) (i := 1) A3 (by decide) rfl (oL rfl) gc d30_34 rfl ?_
  intro h8 W9 A10
  have f11 := f4.wr W9 gc
  have f12 := f5.wr W9 (Or.inl (oT 0 rfl))
  have f13 := f6.other W9 hvc
  replace A10 : Arv Z h8 c kc .char (4 : Int32) [(.int (nar .char x0)), (.int (nar .char x1)), oZ, oZ] oZ := A10
  refine Rn.iinc K (q := 38) (Ls' := #[.val (.ref v), .val oZ, .val (.int (4 : Int32)), .val (.ref c), .val (.int (2 : Int32)), .val (.int (2 : Int32))]) (1 : Int32) d30_35 rfl rfl rfl rfl ?_
  refine Rn.goto K (q := 16) d30_38 (by decide) (by decide) ?_
  refine Rn.iload K (q := 18) d30_16 rfl rfl ?_
  refine Rn.iloadN K (q := 19) d30_18 rfl rfl ?_
  refine Rn.icN K (q := 22) d30_19 (XT.ii_ge_f (by decide)) rfl ?_
  refine Rn.aloadN K (q := 23) d30_22 rfl rfl rfl ?_
  refine Rn.iload K (q := 25) d30_23 rfl rfl ?_
  refine Rn.iinc K (q := 28) (Ls' := #[.val (.ref v), .val oZ, .val (.int (4 : Int32)), .val (.ref c), .val (.int (3 : Int32)), .val (.int (2 : Int32))]) (1 : Int32) d30_25 rfl rfl rfl rfl ?_
  refine Rn.aloadN K (q := 29) d30_28 rfl rfl rfl ?_
  refine Rn.iload K (q := 31) d30_29 rfl rfl ?_
  refine Rn.stat K (q := 34) (W := 2) (y := oM4) (argsL := [(.ref v), (.int (2 : Int32))]) (rest := [(.int (2 : Int32)), (.ref c)]) (oT 143 rfl) (oT 144 rfl) (oT 145 rfl) (oT 102 rfl) (by decide) (m_gch4_2 l Z a0 hw n0 h8 v k x0 x1 x2 x3 f11 SA SH SW f13 cx2) (by decide) (by decide) rfl (lenOf pd_5 rfl) rfl (oL rfl) d30_31 rfl (by decide) (by decide) ?_
  rintro _ _ ⟨rfl, rfl⟩
  show Rn w l _ n0 _ 34 _ [(.int x2), (.int (2 : Int32)), (.ref c)] h8 0 0
  refine Rn.castore K (q := 35) (i := 2) A10 (by decide) rfl (oL rfl) gc d30_34 rfl ?_
  intro h15 W16 A17
  have f18 := f11.wr W16 gc
  have f19 := f12.wr W16 (Or.inl (oT 0 rfl))
  have f20 := f13.other W16 hvc
  replace A17 : Arv Z h15 c kc .char (4 : Int32) [(.int (nar .char x0)), (.int (nar .char x1)), (.int (nar .char x2)), oZ] oZ := A17
  refine Rn.iinc K (q := 38) (Ls' := #[.val (.ref v), .val oZ, .val (.int (4 : Int32)), .val (.ref c), .val (.int (3 : Int32)), .val (.int (3 : Int32))]) (1 : Int32) d30_35 rfl rfl rfl rfl ?_
  refine Rn.goto K (q := 16) d30_38 (by decide) (by decide) ?_
  refine Rn.iload K (q := 18) d30_16 rfl rfl ?_
  refine Rn.iloadN K (q := 19) d30_18 rfl rfl ?_
  refine Rn.icN K (q := 22) d30_19 (XT.ii_ge_f (by decide)) rfl ?_
  refine Rn.aloadN K (q := 23) d30_22 rfl rfl rfl ?_
  refine Rn.iload K (q := 25) d30_23 rfl rfl ?_
  refine Rn.iinc K (q := 28) (Ls' := #[.val (.ref v), .val oZ, .val (.int (4 : Int32)), .val (.ref c), .val (.int (4 : Int32)), .val (.int (3 : Int32))]) (1 : Int32) d30_25 rfl rfl rfl rfl ?_
  refine Rn.aloadN K (q := 29) d30_28 rfl rfl rfl ?_
  refine Rn.iload K (q := 31) d30_29 rfl rfl ?_
  refine Rn.stat K (q := 34) (W := 2) (y := oM4) (argsL := [(.ref v), (.int (3 : Int32))]) (rest := [(.int (3 : Int32)), (.ref c)]) (oT 143 rfl) (oT 144 rfl) (oT 145 rfl) (oT 102 rfl) (by decide) (m_gch4_3 l Z a0 hw n0 h15 v k x0 x1 x2 x3 f18 SA SH SW f20 cx3) (by decide) (by decide) rfl (lenOf pd_5 rfl) rfl (oL rfl) d30_31 rfl (by decide) (by decide) ?_
  rintro _ _ ⟨rfl, rfl⟩
  show Rn w l _ n0 _ 34 _ [(.int x3), (.int (3 : Int32)), (.ref c)] h15 0 0
  refine Rn.castore K (q := 35) (i := 3) A17 (by decide) rfl (oL rfl) gc d30_34 rfl ?_
  intro h22 W23 A24
  have f26 := f19.wr W23 (Or.inl (oT 0 rfl))
  replace A24 : Arv Z h22 c kc .char (4 : Int32) [(.int (nar .char x0)), (.int (nar .char x1)), (.int (nar .char x2)), (.int (nar .char x3))] oZ := A24
  refine Rn.iinc K (q := 38) (Ls' := #[.val (.ref v), .val oZ, .val (.int (4 : Int32)), .val (.ref c), .val (.int (4 : Int32)), .val (.int (4 : Int32))]) (1 : Int32) d30_35 rfl rfl rfl rfl ?_
  refine Rn.goto K (q := 16) d30_38 (by decide) (by decide) ?_
  refine Rn.iload K (q := 18) d30_16 rfl rfl ?_
  refine Rn.iloadN K (q := 19) d30_18 rfl rfl ?_
  refine Rn.icY K (q := 41) d30_19 (XT.ii_ge_t (by decide)) (by decide) (by decide) ?_
  exact Rn.retV K rfl d30_41 (by decide) (by decide) ⟨rfl, f26, by have q := A24; rw [own_nc cx0, own_nc cx1, own_nc cx2, own_nc cx3] at q; exact q⟩
theorem m_utc4 (l : Launch) (Z : State) (a0 : Array Value) (hw : oH Z a0) (n0 : Nat) (h0 : Heap) (v : Addr) (k : ClassId) (x0 x1 x2 x3 : Int32) (fv : Value) (hfv : fv.isRef = true) (X0 : Old Z n0 h0) (SQ : oSQ Z fv) (SA : oS0 Z) (SH : oS1 Z) (SW : oS2 Z) (Av : Arv Z h0 v k .byte (8 : Int32) [(.int (oB0 x0)), (.int (oB8 x0)), (.int (oB0 x1)), (.int (oB8 x1)), (.int (oB0 x2)), (.int (oB8 x2)), (.int (oB0 x3)), (.int (oB8 x3))] oZ) (cx0 : Chr x0) (cx1 : Chr x1) (cx2 : Chr x2) (cx3 : Chr x3) :
    Met l Z oM18 oC18 2 (some (.array .char)) (oR 4 1 4 60) n0 [] #[(.ref v)] h0 (fun r h => ∃ c k, r = some (.ref c) ∧ h0.size ≤ c ∧ Keep h0 h [] ∧ Exa Z h c "[C" ∧ Arv Z h c k .char (4 : Int32) [(.int x0), (.int x1), (.int x2), (.int x3)] oZ) := by
  refine Met.intro (Ls := #[.val (.ref v), .unset]) (plainFor_of_name pn_m_cpr1_0) hw (fun _ => rfl) ?_
  intro w K0
  have K : oK18 w Z a0 := K0
  have K1 := Keep.refl h0 []
  refine Rn.aloadN K (q := 1) d29_0 rfl rfl rfl ?_
  refine Rn.arraylength K (q := 2) Av d29_1 rfl ?_
  refine Rn.iconst K (q := 3) (1 : Int32) d29_2 rfl rfl ?_
  refine Rn.ishr K (q := 4) d29_3 rfl ?_
  rw [show ((8 : Int32) >>> ((1 : Int32) &&& 31)) = (4 : Int32) from by decide]
  show Rn w l _ n0 _ 4 _ [(.int (4 : Int32))] h0 0 0
  refine Rn.newP K (q := 6) (cap := 4) (oT 9 rfl) (by decide) (by decide) (by decide) (by decide) (by decide) (ad := "[C") (by decide) d29_4 rfl ?_
  intro b1 h2 k4 gb1_ X3 A_b1 EA_b1
  have ne_v_b1 : v ≠ b1 := fun e => absurd Av.lt (by rw [e, gb1_]; exact Nat.lt_irrefl _)
  have g_b1 : n0 ≤ b1 := by rw [gb1_]; exact X0.1 ▸ X0.2.1
  have sz_b1 : h0.size ≤ b1 := by rw [gb1_]; exact K1.1
  have f5 := X0.ext X3
  have f6 := K1.ext X3
  have f7 := Av.ext X3
  replace A_b1 : Arv Z h2 b1 k4 .char (4 : Int32) [oZ, oZ, oZ, oZ] oZ := A_b1.pad (pad_rep [] oZ 4)
  show Rn w l _ n0 _ 6 _ [(.ref b1)] h2 1 4
  refine Rn.astoreN K (q := 7) (Ls' := #[.val (.ref v), .val (.ref b1)]) d29_6 rfl rfl rfl ?_
  refine Rn.aloadN K (q := 8) d29_7 rfl rfl rfl ?_
  refine Rn.iconst K (q := 9) (0 : Int32) d29_8 rfl rfl ?_
  refine Rn.aloadN K (q := 10) d29_9 rfl rfl rfl ?_
  refine Rn.arraylength K (q := 11) A_b1 d29_10 rfl ?_
  refine Rn.aloadN K (q := 12) d29_11 rfl rfl rfl ?_
  refine Rn.iconst K (q := 13) (0 : Int32) d29_12 rfl rfl ?_
  refine Rn.stat K (q := 16) (W := 0) (y := oM17) (argsL := [(.ref v), oZ, (.int (4 : Int32)), (.ref b1), oZ]) (rest := []) (oT 149 rfl) (oT 150 rfl) (oT 151 rfl) (oT 102 rfl) (by decide) (m_gcs4 l Z a0 hw n0 h2 v b1 k k4 x0 x1 x2 x3 fv hfv f5 SQ SA SH SW f7 EA_b1 A_b1 g_b1 ne_v_b1 cx0 cx1 cx2 cx3) (by decide) (by decide) rfl (lenOf pd_13 rfl) rfl (oL rfl) d29_13 rfl (by decide) (by decide) ?_
  rintro _ h8 ⟨rfl, K9, A10⟩
  have f12 := f6.trans K9 (allS (Or.inr sz_b1) all0)
  have f14 := EA_b1.keep K9
  show Rn w l _ n0 _ 16 _ [] h8 1 4
  refine Rn.aloadN K (q := 17) d29_16 rfl rfl rfl ?_
  exact Rn.retA K (.array .char) rfl rfl rfl d29_17 (by decide) (by decide) ⟨_, _, rfl, sz_b1, f12, f14, A10⟩
theorem m_tca4_1 (l : Launch) (Z : State) (a0 : Array Value) (hw : oH Z a0) (n0 : Nat) (h0 : Heap) (s v : Addr) (k : ClassId) (cst : Int32) (x0 x1 x2 x3 : Int32) (fv : Value) (hfv : fv.isRef = true) (X0 : Old Z n0 h0) (SC : oSC Z cst) (hcs : ¬ cst = 0) (SQ : oSQ Z fv) (SA : oS0 Z) (SH : oS1 Z) (SW : oS2 Z) (Es : Exa Z h0 s "java/lang/String") (Fv : Fld Z h0 s "java/lang/String" "value" "[B" (.ref v)) (Fc : Fld Z h0 s "java/lang/String" "coder" "B" (.int (1 : Int32))) (Av : Arv Z h0 v k .byte (8 : Int32) [(.int (oB0 x0)), (.int (oB8 x0)), (.int (oB0 x1)), (.int (oB8 x1)), (.int (oB0 x2)), (.int (oB8 x2)), (.int (oB0 x3)), (.int (oB8 x3))] oZ) (cx0 : Chr x0) (cx1 : Chr x1) (cx2 : Chr x2) (cx3 : Chr x3) :
    Met l Z oM19 oC19 1 (some (.array .char)) (oR 5 1 5 73) n0 [] #[(.ref s)] h0 (fun r h => ∃ c k, r = some (.ref c) ∧ h0.size ≤ c ∧ Keep h0 h [] ∧ Exa Z h c "[C" ∧ Arv Z h c k .char (4 : Int32) [(.int x0), (.int x1), (.int x2), (.int x3)] oZ) := by
  refine Met.intro (Ls := #[.val (.ref s)]) (plainFor_of_name pn_m_iv1_1) hw (fun _ => rfl) ?_
  intro w K0
  have K : oK19 w Z a0 := K0
  refine Rn.aloadN K (q := 1) d8_0 rfl rfl rfl ?_
  refine Rn.virt K (q := 4) (W := 0) (y := oM11) (z := oM11) (b := s) (argsL := []) (rest := []) (oT 56 rfl) (oT 57 rfl) (nfs K (oT 59 rfl)) (oT 59 rfl) (oT 58 rfl) (oT 60 rfl) (oT 8 rfl) (by decide) (m_lat1 l Z a0 hw n0 h0 s cst X0 SC hcs Fc) Es (by decide) (by decide) rfl (lenOf pd_14 rfl) rfl (oL rfl) d8_1 rfl (by decide) (by decide) ?_
  rintro _ _ ⟨rfl, rfl⟩
  show Rn w l _ n0 _ 4 _ [oZ] h0 0 0
  refine Rn.ifY K (q := 17) d8_4 (XT.i0_eq_t rfl) (by decide) (by decide) ?_
  refine Rn.aloadN K (q := 18) d8_17 rfl rfl rfl ?_
  refine Rn.getF K (q := 21) (oT 26 rfl) Via.refl Fv d8_18 rfl ?_
  refine Rn.stat K (q := 24) (W := 0) (y := oM18) (argsL := [(.ref v)]) (rest := []) (oT 146 rfl) (oT 147 rfl) (oT 148 rfl) (oT 102 rfl) (by decide) (m_utc4 l Z a0 hw n0 h0 v k x0 x1 x2 x3 fv hfv X0 SQ SA SH SW Av cx0 cx1 cx2 cx3 ) (by decide) (by decide) rfl (lenOf pd_15 rfl) rfl (oL rfl) d8_21 rfl (by decide) (by decide) ?_
  rintro _ h1 ⟨c, kc, rfl, Q1⟩
  show Rn w l _ n0 _ 24 _ [(.ref c)] h1 1 4
  exact Rn.retA K (.array .char) rfl rfl rfl d8_24 (by decide) (by decide) ⟨c, kc, rfl, Q1⟩
theorem m_len3_1 (l : Launch) (Z : State) (a0 : Array Value) (hw : oH Z a0) (n0 : Nat) (h0 : Heap) (s v : Addr) (k : ClassId) (cst : Int32) (x0 x1 x2 : Int32) (X0 : Old Z n0 h0) (SC : oSC Z cst) (hcs : ¬ cst = 0) (Es : Exa Z h0 s "java/lang/String") (Fv : Fld Z h0 s "java/lang/String" "value" "[B" (.ref v)) (Fc : Fld Z h0 s "java/lang/String" "coder" "B" (.int (1 : Int32))) (Av : Arv Z h0 v k .byte (6 : Int32) [(.int (oB0 x0)), (.int (oB8 x0)), (.int (oB0 x1)), (.int (oB8 x1)), (.int (oB0 x2)), (.int (oB8 x2))] oZ) :
    Met l Z oM12 oC12 1 (some .int) (oR 1 0 0 13) n0 [] #[(.ref s)] h0 (fun v h => v = some (.int (3 : Int32)) ∧ h0 = h) := by
  refine Met.intro (Ls := #[.val (.ref s)]) (plainFor_of_name pn_m_iv1_1) hw (fun _ => rfl) ?_
  intro w K0
  have K : oK12 w Z a0 := K0
  refine Rn.aloadN K (q := 1) d12_0 rfl rfl rfl ?_
  refine Rn.getF K (q := 4) (oT 26 rfl) Via.refl Fv d12_1 rfl ?_
  refine Rn.arraylength K (q := 5) Av d12_4 rfl ?_
  refine Rn.aloadN K (q := 6) d12_5 rfl rfl rfl ?_
  refine Rn.virt K (q := 9) (W := 1) (y := oM10) (z := oM10) (b := s) (argsL := []) (rest := [(.int (6 : Int32))]) (oT 74 rfl) (oT 75 rfl) (nfs K (oT 77 rfl)) (oT 77 rfl) (oT 76 rfl) (oT 78 rfl) (oT 8 rfl) (by decide) (m_cod1 l Z a0 hw n0 h0 s cst X0 SC hcs Fc) Es (by decide) (by decide) rfl (lenOf pd_8 rfl) rfl (oL rfl) d12_6 rfl (by decide) (by decide) ?_
  rintro _ _ ⟨rfl, rfl⟩
  show Rn w l _ n0 _ 9 _ [(.int (1 : Int32)), (.int (6 : Int32))] h0 0 0
  refine Rn.ishr K (q := 10) d12_9 rfl ?_
  rw [show ((6 : Int32) >>> ((1 : Int32) &&& 31)) = (3 : Int32) from by decide]
  show Rn w l _ n0 _ 10 _ [(.int (3 : Int32))] h0 0 0
  exact Rn.retI K rfl d12_10 (by decide) (by decide) ⟨rfl, rfl⟩
theorem m_pcf3 (l : Launch) (Z : State) (a0 : Array Value) (hw : oH Z a0) (n0 : Nat) (h0 : Heap) (fv : Value) (hfv : fv.isRef = true) (X0 : Old Z n0 h0) :
    Met l Z oM13 oC13 4 (some .int) (oR 0 0 0 0) n0 [] #[oZ, (.int (3 : Int32)), (.int (3 : Int32)), fv] h0 (fun v h => v = some (.int (0 : Int32)) ∧ h0 = h) := by
  refine Met.intro (Ls := #[.val oZ, .val (.int (3 : Int32)), .val (.int (3 : Int32)), .val fv]) (plainFor_of_name pn_m_pcf5) hw (fun m => by (rcases XT.refc hfv with qfv | ⟨_, qfv⟩ <;> rw [qfv]) <;> rfl) ?_
  intro w K0
  have K : oK13 w Z a0 := K0
  refine Rn.iloadN K (q := 1) d34_0 rfl rfl ?_
  refine Rn.iloadN K (q := 2) d34_1 rfl rfl ?_
  refine Rn.ior K (q := 3) d34_2 rfl ?_
  refine Rn.iloadN K (q := 4) d34_3 rfl rfl ?_
  refine Rn.ior K (q := 5) d34_4 rfl ?_
  refine Rn.ifN K (q := 8) d34_5 (XT.i0_lt_f (by decide)) rfl ?_
  refine Rn.iloadN K (q := 9) d34_8 rfl rfl ?_
  refine Rn.iloadN K (q := 10) d34_9 rfl rfl ?_
  refine Rn.iloadN K (q := 11) d34_10 rfl rfl ?_
  refine Rn.isub K (q := 12) d34_11 rfl ?_
  show Rn w l _ n0 _ 12 _ [(.int (3 : Int32)), (.int (3 : Int32))] h0 0 0
  refine Rn.icY K (q := 23) d34_12 (XT.ii_le_t (by decide)) (by decide) (by decide) ?_
  refine Rn.iloadN K (q := 24) d34_23 rfl rfl ?_
  exact Rn.retI K rfl d34_24 (by decide) (by decide) ⟨rfl, rfl⟩
theorem m_scb3 (l : Launch) (Z : State) (a0 : Array Value) (hw : oH Z a0) (n0 : Nat) (h0 : Heap) (fv : Value) (hfv : fv.isRef = true) (X0 : Old Z n0 h0) (SQ : oSQ Z fv) :
    Met l Z oM14 oC14 3 (some .int) (oR 1 0 0 15) n0 [] #[oZ, (.int (3 : Int32)), (.int (3 : Int32))] h0 (fun v h => v = some (.int (0 : Int32)) ∧ h0 = h) := by
  refine Met.intro (Ls := #[.val oZ, .val (.int (3 : Int32)), .val (.int (3 : Int32))]) (plainFor_of_name pn_m_iv1_1) hw (fun _ => rfl) ?_
  intro w K0
  have K : oK14 w Z a0 := K0
  refine Rn.iloadN K (q := 1) d33_0 rfl rfl ?_
  refine Rn.iloadN K (q := 2) d33_1 rfl rfl ?_
  refine Rn.iloadN K (q := 3) d33_2 rfl rfl ?_
  refine Rn.getS K (q := 6) (oT 161 rfl) (SQ.ext X0.2) d33_3 rfl ?_
  refine Rn.stat K (q := 9) (W := 0) (y := oM13) (argsL := [oZ, (.int (3 : Int32)), (.int (3 : Int32)), fv]) (rest := []) (oT 163 rfl) (oT 164 rfl) (oT 165 rfl) (oT 162 rfl) (by decide) (m_pcf3 l Z a0 hw n0 h0 fv hfv X0) (by decide) (by decide) rfl (lenOf pd_9 rfl) rfl (oL rfl) d33_6 rfl (by decide) (by decide) ?_
  rintro _ _ ⟨rfl, rfl⟩
  show Rn w l _ n0 _ 9 _ [oZ] h0 0 0
  exact Rn.retI K rfl d33_9 (by decide) (by decide) ⟨rfl, rfl⟩
theorem m_sle3 (l : Launch) (Z : State) (a0 : Array Value) (hw : oH Z a0) (n0 : Nat) (h0 : Heap) (v : Addr) (k : ClassId) (x0 x1 x2 : Int32) (X0 : Old Z n0 h0) (Av : Arv Z h0 v k .byte (6 : Int32) [(.int (oB0 x0)), (.int (oB8 x0)), (.int (oB0 x1)), (.int (oB8 x1)), (.int (oB0 x2)), (.int (oB8 x2))] oZ) :
    Met l Z oM15 oC15 1 (some .int) (oR 0 0 0 0) n0 [] #[(.ref v)] h0 (fun v h => v = some (.int (3 : Int32)) ∧ h0 = h) := by
  refine Met.intro (Ls := #[.val (.ref v)]) (plainFor_of_name pn_m_cpr1_0) hw (fun _ => rfl) ?_
  intro w K0
  have K : oK15 w Z a0 := K0
  refine Rn.aloadN K (q := 1) d32_0 rfl rfl rfl ?_
  refine Rn.arraylength K (q := 2) Av d32_1 rfl ?_
  refine Rn.iconst K (q := 3) (1 : Int32) d32_2 rfl rfl ?_
  refine Rn.ishr K (q := 4) d32_3 rfl ?_
  rw [show ((6 : Int32) >>> ((1 : Int32) &&& 31)) = (3 : Int32) from by decide]
  show Rn w l _ n0 _ 4 _ [(.int (3 : Int32))] h0 0 0
  exact Rn.retI K rfl d32_4 (by decide) (by decide) ⟨rfl, rfl⟩
theorem m_cbo3 (l : Launch) (Z : State) (a0 : Array Value) (hw : oH Z a0) (n0 : Nat) (h0 : Heap) (v : Addr) (k : ClassId) (x0 x1 x2 : Int32) (fv : Value) (hfv : fv.isRef = true) (X0 : Old Z n0 h0) (SQ : oSQ Z fv) (Av : Arv Z h0 v k .byte (6 : Int32) [(.int (oB0 x0)), (.int (oB8 x0)), (.int (oB0 x1)), (.int (oB8 x1)), (.int (oB0 x2)), (.int (oB8 x2))] oZ) :
    Met l Z oM16 oC16 3 none (oR 2 0 0 29) n0 [] #[oZ, (.int (3 : Int32)), (.ref v)] h0 (fun v h => v = none ∧ h0 = h) := by
  refine Met.intro (Ls := #[.val oZ, .val (.int (3 : Int32)), .val (.ref v)]) (plainFor_of_name pn_m_cpr1_0) hw (fun _ => rfl) ?_
  intro w K0
  have K : oK16 w Z a0 := K0
  refine Rn.iloadN K (q := 1) d31_0 rfl rfl ?_
  refine Rn.iloadN K (q := 2) d31_1 rfl rfl ?_
  refine Rn.aloadN K (q := 3) d31_2 rfl rfl rfl ?_
  refine Rn.stat K (q := 6) (W := 2) (y := oM15) (argsL := [(.ref v)]) (rest := [(.int (3 : Int32)), oZ]) (oT 155 rfl) (oT 156 rfl) (oT 157 rfl) (oT 102 rfl) (by decide) (m_sle3 l Z a0 hw n0 h0 v k x0 x1 x2 X0 Av) (by decide) (by decide) rfl (lenOf pd_10 rfl) rfl (oL rfl) d31_3 rfl (by decide) (by decide) ?_
  rintro _ _ ⟨rfl, rfl⟩
  show Rn w l _ n0 _ 6 _ [(.int (3 : Int32)), (.int (3 : Int32)), oZ] h0 0 0
  refine Rn.stat K (q := 9) (W := 0) (y := oM14) (argsL := [oZ, (.int (3 : Int32)), (.int (3 : Int32))]) (rest := []) (oT 158 rfl) (oT 159 rfl) (oT 160 rfl) (oT 8 rfl) (by decide) (m_scb3 l Z a0 hw n0 h0 fv hfv X0 SQ) (by decide) (by decide) rfl (lenOf pd_11 rfl) rfl (oL rfl) d31_6 rfl (by decide) (by decide) ?_
  rintro _ _ ⟨rfl, rfl⟩
  show Rn w l _ n0 _ 9 _ [oZ] h0 0 0
  refine Rn.pop K (q := 10) d31_9 rfl rfl ?_
  exact Rn.retV K rfl d31_10 (by decide) (by decide) ⟨rfl, rfl⟩
theorem m_gcs3 (l : Launch) (Z : State) (a0 : Array Value) (hw : oH Z a0) (n0 : Nat) (h0 : Heap) (v c : Addr) (k kc : ClassId) (x0 x1 x2 : Int32) (fv : Value) (hfv : fv.isRef = true) (X0 : Old Z n0 h0) (SQ : oSQ Z fv) (SA : oS0 Z) (SH : oS1 Z) (SW : oS2 Z) (Av : Arv Z h0 v k .byte (6 : Int32) [(.int (oB0 x0)), (.int (oB8 x0)), (.int (oB0 x1)), (.int (oB8 x1)), (.int (oB0 x2)), (.int (oB8 x2))] oZ) (Ec : Exa Z h0 c "[C") (Ac : Arv Z h0 c kc .char (3 : Int32) [oZ, oZ, oZ] oZ) (gc : n0 ≤ c) (hvc : v ≠ c) (cx0 : Chr x0) (cx1 : Chr x1) (cx2 : Chr x2) :
    Met l Z oM17 oC17 6 none (oR 3 0 0 43) n0 [] #[(.ref v), oZ, (.int (3 : Int32)), (.ref c), oZ] h0 (fun r h => r = none ∧ Keep h0 h [c] ∧ Arv Z h c kc .char (3 : Int32) [(.int x0), (.int x1), (.int x2)] oZ) := by
  refine Met.intro (Ls := #[.val (.ref v), .val oZ, .val (.int (3 : Int32)), .val (.ref c), .val oZ, .unset]) (plainFor_of_name pn_m_cpr1_0) hw (fun m => by first | (simp [entryFrame, mkF, argsToLocals, Value.category]; done) | rfl) ?_
  intro w K0
  have K : oK17 w Z a0 := K0
  have K1 := Keep.refl h0 [c]
  refine Rn.iloadN K (q := 1) d30_0 rfl rfl ?_
  refine Rn.iloadN K (q := 2) d30_1 rfl rfl ?_
  refine Rn.icN K (q := 5) d30_2 (XT.ii_ge_f (by decide)) rfl ?_
  refine Rn.iloadN K (q := 6) d30_5 rfl rfl ?_
  refine Rn.iloadN K (q := 7) d30_6 rfl rfl ?_
  refine Rn.iloadN K (q := 8) d30_7 rfl rfl ?_
  refine Rn.isub K (q := 9) d30_8 rfl ?_
  show Rn w l _ n0 _ 9 _ [(.int (3 : Int32)), oZ] h0 0 0
  refine Rn.aloadN K (q := 10) d30_9 rfl rfl rfl ?_
  refine Rn.stat K (q := 13) (W := 0) (y := oM16) (argsL := [oZ, (.int (3 : Int32)), (.ref v)]) (rest := []) (oT 152 rfl) (oT 153 rfl) (oT 154 rfl) (oT 102 rfl) (by decide) (m_cbo3 l Z a0 hw n0 h0 v k x0 x1 x2 fv hfv X0 SQ Av) (by decide) (by decide) rfl (lenOf pd_12 rfl) rfl (oL rfl) d30_10 rfl (by decide) (by decide) ?_
  rintro _ _ ⟨rfl, rfl⟩
  show Rn w l _ n0 _ 13 _ [] h0 0 0
  refine Rn.iloadN K (q := 14) d30_13 rfl rfl ?_
  refine Rn.istore K (q := 16) (Ls' := #[.val (.ref v), .val oZ, .val (.int (3 : Int32)), .val (.ref c), .val oZ, .val oZ]) d30_14 rfl rfl ?_
  refine Rn.iload K (q := 18) d30_16 rfl rfl ?_
  refine Rn.iloadN K (q := 19) d30_18 rfl rfl ?_
  refine Rn.icN K (q := 22) d30_19 (XT.ii_ge_f (by decide)) rfl ?_
  refine Rn.aloadN K (q := 23) d30_22 rfl rfl rfl ?_
  refine Rn.iload K (q := 25) d30_23 rfl rfl ?_
  refine Rn.iinc K (q := 28) (Ls' := #[.val (.ref v), .val oZ, .val (.int (3 : Int32)), .val (.ref c), .val (.int (1 : Int32)), .val oZ]) (1 : Int32) d30_25 rfl rfl rfl rfl ?_
  refine Rn.aloadN K (q := 29) d30_28 rfl rfl rfl ?_
  refine Rn.iload K (q := 31) d30_29 rfl rfl ?_
  refine Rn.stat K (q := 34) (W := 2) (y := oM4) (argsL := [(.ref v), oZ]) (rest := [oZ, (.ref c)]) (oT 143 rfl) (oT 144 rfl) (oT 145 rfl) (oT 102 rfl) (by decide) (m_gch3_0 l Z a0 hw n0 h0 v k x0 x1 x2 X0 SA SH SW Av cx0) (by decide) (by decide) rfl (lenOf pd_5 rfl) rfl (oL rfl) d30_31 rfl (by decide) (by decide) ?_
  rintro _ _ ⟨rfl, rfl⟩
  show Rn w l _ n0 _ 34 _ [(.int x0), oZ, (.ref c)] h0 0 0
  refine Rn.castore K (q := 35) (i := 0) Ac (by decide) rfl (oL rfl) gc d30_34 rfl ?_
  intro h1 W2 A3
  have f4 := X0.wr W2 gc
  have f5 := K1.wr W2 (Or.inl (oT 0 rfl))
  have f6 := Av.other W2 hvc
  replace A3 : Arv Z h1 c kc .char (3 : Int32) [(.int (nar .char x0)), oZ, oZ] oZ := A3
  refine Rn.iinc K (q := 38) (Ls' := #[.val (.ref v), .val oZ, .val (.int (3 : Int32)), .val (.ref c), .val (.int (1 : Int32)), .val (.int (1 : Int32))]) (1 : Int32) d30_35 rfl rfl rfl rfl ?_
  refine Rn.goto K (q := 16) d30_38 (by decide) (by decide) ?_
  refine Rn.iload K (q := 18) d30_16 rfl rfl ?_
  refine Rn.iloadN K (q := 19) d30_18 rfl rfl ?_
  refine Rn.icN K (q := 22) d30_19 (XT.ii_ge_f (by decide)) rfl ?_
  refine Rn.aloadN K (q := 23) d30_22 rfl rfl rfl ?_
  refine Rn.iload K (q := 25) d30_23 rfl rfl ?_
  refine Rn.iinc K (q := 28) (Ls' := #[.val (.ref v), .val oZ, .val (.int (3 : Int32)), .val (.ref c), .val (.int (2 : Int32)), .val (.int (1 : Int32))]) (1 : Int32) d30_25 rfl rfl rfl rfl ?_
  refine Rn.aloadN K (q := 29) d30_28 rfl rfl rfl ?_
  refine Rn.iload K (q := 31) d30_29 rfl rfl ?_
  refine Rn.stat K (q := 34) (W := 2) (y := oM4) (argsL := [(.ref v), (.int (1 : Int32))]) (rest := [(.int (1 : Int32)), (.ref c)]) (oT 143 rfl) (oT 144 rfl) (oT 145 rfl) (oT 102 rfl) (by decide) (m_gch3_1 l Z a0 hw n0 h1 v k x0 x1 x2 f4 SA SH SW f6 cx1) (by decide) (by decide) rfl (lenOf pd_5 rfl) rfl (oL rfl) d30_31 rfl (by decide) (by decide) ?_
  rintro _ _ ⟨rfl, rfl⟩
  show Rn w l _ n0 _ 34 _ [(.int x1), (.int (1 : Int32)), (.ref c)] h1 0 0
  refine Rn.castore K (q := 35) (i := 1) A3 (by decide) rfl (oL rfl) gc d30_34 rfl ?_
  intro h8 W9 A10
  have f11 := f4.wr W9 gc
  have f12 := f5.wr W9 (Or.inl (oT 0 rfl))
  have f13 := f6.other W9 hvc
  replace A10 : Arv Z h8 c kc .char (3 : Int32) [(.int (nar .char x0)), (.int (nar .char x1)), oZ] oZ := A10
  refine Rn.iinc K (q := 38) (Ls' := #[.val (.ref v), .val oZ, .val (.int (3 : Int32)), .val (.ref c), .val (.int (2 : Int32)), .val (.int (2 : Int32))]) (1 : Int32) d30_35 rfl rfl rfl rfl ?_
  refine Rn.goto K (q := 16) d30_38 (by decide) (by decide) ?_
  refine Rn.iload K (q := 18) d30_16 rfl rfl ?_
  refine Rn.iloadN K (q := 19) d30_18 rfl rfl ?_
  refine Rn.icN K (q := 22) d30_19 (XT.ii_ge_f (by decide)) rfl ?_
  refine Rn.aloadN K (q := 23) d30_22 rfl rfl rfl ?_
  refine Rn.iload K (q := 25) d30_23 rfl rfl ?_
  refine Rn.iinc K (q := 28) (Ls' := #[.val (.ref v), .val oZ, .val (.int (3 : Int32)), .val (.ref c), .val (.int (3 : Int32)), .val (.int (2 : Int32))]) (1 : Int32) d30_25 rfl rfl rfl rfl ?_
  refine Rn.aloadN K (q := 29) d30_28 rfl rfl rfl ?_
  refine Rn.iload K (q := 31) d30_29 rfl rfl ?_
  refine Rn.stat K (q := 34) (W := 2) (y := oM4) (argsL := [(.ref v), (.int (2 : Int32))]) (rest := [(.int (2 : Int32)), (.ref c)]) (oT 143 rfl) (oT 144 rfl) (oT 145 rfl) (oT 102 rfl) (by decide) (m_gch3_2 l Z a0 hw n0 h8 v k x0 x1 x2 f11 SA SH SW f13 cx2) (by decide) (by decide) rfl (lenOf pd_5 rfl) rfl (oL rfl) d30_31 rfl (by decide) (by decide) ?_
  rintro _ _ ⟨rfl, rfl⟩
  show Rn w l _ n0 _ 34 _ [(.int x2), (.int (2 : Int32)), (.ref c)] h8 0 0
  refine Rn.castore K (q := 35) (i := 2) A10 (by decide) rfl (oL rfl) gc d30_34 rfl ?_
  intro h15 W16 A17
  have f19 := f12.wr W16 (Or.inl (oT 0 rfl))
  replace A17 : Arv Z h15 c kc .char (3 : Int32) [(.int (nar .char x0)), (.int (nar .char x1)), (.int (nar .char x2))] oZ := A17
  refine Rn.iinc K (q := 38) (Ls' := #[.val (.ref v), .val oZ, .val (.int (3 : Int32)), .val (.ref c), .val (.int (3 : Int32)), .val (.int (3 : Int32))]) (1 : Int32) d30_35 rfl rfl rfl rfl ?_
  refine Rn.goto K (q := 16) d30_38 (by decide) (by decide) ?_
  refine Rn.iload K (q := 18) d30_16 rfl rfl ?_
  refine Rn.iloadN K (q := 19) d30_18 rfl rfl ?_
  refine Rn.icY K (q := 41) d30_19 (XT.ii_ge_t (by decide)) (by decide) (by decide) ?_
  exact Rn.retV K rfl d30_41 (by decide) (by decide) ⟨rfl, f19, by have q := A17; rw [own_nc cx0, own_nc cx1, own_nc cx2] at q; exact q⟩
theorem m_utc3 (l : Launch) (Z : State) (a0 : Array Value) (hw : oH Z a0) (n0 : Nat) (h0 : Heap) (v : Addr) (k : ClassId) (x0 x1 x2 : Int32) (fv : Value) (hfv : fv.isRef = true) (X0 : Old Z n0 h0) (SQ : oSQ Z fv) (SA : oS0 Z) (SH : oS1 Z) (SW : oS2 Z) (Av : Arv Z h0 v k .byte (6 : Int32) [(.int (oB0 x0)), (.int (oB8 x0)), (.int (oB0 x1)), (.int (oB8 x1)), (.int (oB0 x2)), (.int (oB8 x2))] oZ) (cx0 : Chr x0) (cx1 : Chr x1) (cx2 : Chr x2) :
    Met l Z oM18 oC18 2 (some (.array .char)) (oR 4 1 3 60) n0 [] #[(.ref v)] h0 (fun r h => ∃ c k, r = some (.ref c) ∧ h0.size ≤ c ∧ Keep h0 h [] ∧ Exa Z h c "[C" ∧ Arv Z h c k .char (3 : Int32) [(.int x0), (.int x1), (.int x2)] oZ) := by
  refine Met.intro (Ls := #[.val (.ref v), .unset]) (plainFor_of_name pn_m_cpr1_0) hw (fun _ => rfl) ?_
  intro w K0
  have K : oK18 w Z a0 := K0
  have K1 := Keep.refl h0 []
  refine Rn.aloadN K (q := 1) d29_0 rfl rfl rfl ?_
  refine Rn.arraylength K (q := 2) Av d29_1 rfl ?_
  refine Rn.iconst K (q := 3) (1 : Int32) d29_2 rfl rfl ?_
  refine Rn.ishr K (q := 4) d29_3 rfl ?_
  rw [show ((6 : Int32) >>> ((1 : Int32) &&& 31)) = (3 : Int32) from by decide]
  show Rn w l _ n0 _ 4 _ [(.int (3 : Int32))] h0 0 0
  refine Rn.newP K (q := 6) (cap := 3) (oT 9 rfl) (by decide) (by decide) (by decide) (by decide) (by decide) (ad := "[C") (by decide) d29_4 rfl ?_
  intro b1 h2 k4 gb1_ X3 A_b1 EA_b1
  have ne_v_b1 : v ≠ b1 := fun e => absurd Av.lt (by rw [e, gb1_]; exact Nat.lt_irrefl _)
  have g_b1 : n0 ≤ b1 := by rw [gb1_]; exact X0.1 ▸ X0.2.1
  have sz_b1 : h0.size ≤ b1 := by rw [gb1_]; exact K1.1
  have f5 := X0.ext X3
  have f6 := K1.ext X3
  have f7 := Av.ext X3
  replace A_b1 : Arv Z h2 b1 k4 .char (3 : Int32) [oZ, oZ, oZ] oZ := A_b1.pad (pad_rep [] oZ 3)
  show Rn w l _ n0 _ 6 _ [(.ref b1)] h2 1 3
  refine Rn.astoreN K (q := 7) (Ls' := #[.val (.ref v), .val (.ref b1)]) d29_6 rfl rfl rfl ?_
  refine Rn.aloadN K (q := 8) d29_7 rfl rfl rfl ?_
  refine Rn.iconst K (q := 9) (0 : Int32) d29_8 rfl rfl ?_
  refine Rn.aloadN K (q := 10) d29_9 rfl rfl rfl ?_
  refine Rn.arraylength K (q := 11) A_b1 d29_10 rfl ?_
  refine Rn.aloadN K (q := 12) d29_11 rfl rfl rfl ?_
  refine Rn.iconst K (q := 13) (0 : Int32) d29_12 rfl rfl ?_
  refine Rn.stat K (q := 16) (W := 0) (y := oM17) (argsL := [(.ref v), oZ, (.int (3 : Int32)), (.ref b1), oZ]) (rest := []) (oT 149 rfl) (oT 150 rfl) (oT 151 rfl) (oT 102 rfl) (by decide) (m_gcs3 l Z a0 hw n0 h2 v b1 k k4 x0 x1 x2 fv hfv f5 SQ SA SH SW f7 EA_b1 A_b1 g_b1 ne_v_b1 cx0 cx1 cx2) (by decide) (by decide) rfl (lenOf pd_13 rfl) rfl (oL rfl) d29_13 rfl (by decide) (by decide) ?_
  rintro _ h8 ⟨rfl, K9, A10⟩
  have f12 := f6.trans K9 (allS (Or.inr sz_b1) all0)
  have f14 := EA_b1.keep K9
  show Rn w l _ n0 _ 16 _ [] h8 1 3
  refine Rn.aloadN K (q := 17) d29_16 rfl rfl rfl ?_
  exact Rn.retA K (.array .char) rfl rfl rfl d29_17 (by decide) (by decide) ⟨_, _, rfl, sz_b1, f12, f14, A10⟩
theorem m_tca3_1 (l : Launch) (Z : State) (a0 : Array Value) (hw : oH Z a0) (n0 : Nat) (h0 : Heap) (s v : Addr) (k : ClassId) (cst : Int32) (x0 x1 x2 : Int32) (fv : Value) (hfv : fv.isRef = true) (X0 : Old Z n0 h0) (SC : oSC Z cst) (hcs : ¬ cst = 0) (SQ : oSQ Z fv) (SA : oS0 Z) (SH : oS1 Z) (SW : oS2 Z) (Es : Exa Z h0 s "java/lang/String") (Fv : Fld Z h0 s "java/lang/String" "value" "[B" (.ref v)) (Fc : Fld Z h0 s "java/lang/String" "coder" "B" (.int (1 : Int32))) (Av : Arv Z h0 v k .byte (6 : Int32) [(.int (oB0 x0)), (.int (oB8 x0)), (.int (oB0 x1)), (.int (oB8 x1)), (.int (oB0 x2)), (.int (oB8 x2))] oZ) (cx0 : Chr x0) (cx1 : Chr x1) (cx2 : Chr x2) :
    Met l Z oM19 oC19 1 (some (.array .char)) (oR 5 1 5 73) n0 [] #[(.ref s)] h0 (fun r h => ∃ c k, r = some (.ref c) ∧ h0.size ≤ c ∧ Keep h0 h [] ∧ Exa Z h c "[C" ∧ Arv Z h c k .char (3 : Int32) [(.int x0), (.int x1), (.int x2)] oZ) := by
  refine Met.intro (Ls := #[.val (.ref s)]) (plainFor_of_name pn_m_iv1_1) hw (fun _ => rfl) ?_
  intro w K0
  have K : oK19 w Z a0 := K0
  refine Rn.aloadN K (q := 1) d8_0 rfl rfl rfl ?_
  refine Rn.virt K (q := 4) (W := 0) (y := oM11) (z := oM11) (b := s) (argsL := []) (rest := []) (oT 56 rfl) (oT 57 rfl) (nfs K (oT 59 rfl)) (oT 59 rfl) (oT 58 rfl) (oT 60 rfl) (oT 8 rfl) (by decide) (m_lat1 l Z a0 hw n0 h0 s cst X0 SC hcs Fc) Es (by decide) (by decide) rfl (lenOf pd_14 rfl) rfl (oL rfl) d8_1 rfl (by decide) (by decide) ?_
  rintro _ _ ⟨rfl, rfl⟩
  show Rn w l _ n0 _ 4 _ [oZ] h0 0 0
  refine Rn.ifY K (q := 17) d8_4 (XT.i0_eq_t rfl) (by decide) (by decide) ?_
  refine Rn.aloadN K (q := 18) d8_17 rfl rfl rfl ?_
  refine Rn.getF K (q := 21) (oT 26 rfl) Via.refl Fv d8_18 rfl ?_
  refine Rn.stat K (q := 24) (W := 0) (y := oM18) (argsL := [(.ref v)]) (rest := []) (oT 146 rfl) (oT 147 rfl) (oT 148 rfl) (oT 102 rfl) (by decide) (m_utc3 l Z a0 hw n0 h0 v k x0 x1 x2 fv hfv X0 SQ SA SH SW Av cx0 cx1 cx2 ) (by decide) (by decide) rfl (lenOf pd_15 rfl) rfl (oL rfl) d8_21 rfl (by decide) (by decide) ?_
  rintro _ h1 ⟨c, kc, rfl, Q1⟩
  show Rn w l _ n0 _ 24 _ [(.ref c)] h1 1 3
  exact Rn.retA K (.array .char) rfl rfl rfl d8_24 (by decide) (by decide) ⟨c, kc, rfl, Q1⟩
theorem m_len2_1 (l : Launch) (Z : State) (a0 : Array Value) (hw : oH Z a0) (n0 : Nat) (h0 : Heap) (s v : Addr) (k : ClassId) (cst : Int32) (x0 x1 : Int32) (X0 : Old Z n0 h0) (SC : oSC Z cst) (hcs : ¬ cst = 0) (Es : Exa Z h0 s "java/lang/String") (Fv : Fld Z h0 s "java/lang/String" "value" "[B" (.ref v)) (Fc : Fld Z h0 s "java/lang/String" "coder" "B" (.int (1 : Int32))) (Av : Arv Z h0 v k .byte (4 : Int32) [(.int (oB0 x0)), (.int (oB8 x0)), (.int (oB0 x1)), (.int (oB8 x1))] oZ) :
    Met l Z oM12 oC12 1 (some .int) (oR 1 0 0 13) n0 [] #[(.ref s)] h0 (fun v h => v = some (.int (2 : Int32)) ∧ h0 = h) := by
  refine Met.intro (Ls := #[.val (.ref s)]) (plainFor_of_name pn_m_iv1_1) hw (fun _ => rfl) ?_
  intro w K0
  have K : oK12 w Z a0 := K0
  refine Rn.aloadN K (q := 1) d12_0 rfl rfl rfl ?_
  refine Rn.getF K (q := 4) (oT 26 rfl) Via.refl Fv d12_1 rfl ?_
  refine Rn.arraylength K (q := 5) Av d12_4 rfl ?_
  refine Rn.aloadN K (q := 6) d12_5 rfl rfl rfl ?_
  refine Rn.virt K (q := 9) (W := 1) (y := oM10) (z := oM10) (b := s) (argsL := []) (rest := [(.int (4 : Int32))]) (oT 74 rfl) (oT 75 rfl) (nfs K (oT 77 rfl)) (oT 77 rfl) (oT 76 rfl) (oT 78 rfl) (oT 8 rfl) (by decide) (m_cod1 l Z a0 hw n0 h0 s cst X0 SC hcs Fc) Es (by decide) (by decide) rfl (lenOf pd_8 rfl) rfl (oL rfl) d12_6 rfl (by decide) (by decide) ?_
  rintro _ _ ⟨rfl, rfl⟩
  show Rn w l _ n0 _ 9 _ [(.int (1 : Int32)), (.int (4 : Int32))] h0 0 0
  refine Rn.ishr K (q := 10) d12_9 rfl ?_
  rw [show ((4 : Int32) >>> ((1 : Int32) &&& 31)) = (2 : Int32) from by decide]
  show Rn w l _ n0 _ 10 _ [(.int (2 : Int32))] h0 0 0
  exact Rn.retI K rfl d12_10 (by decide) (by decide) ⟨rfl, rfl⟩
theorem m_pcf2 (l : Launch) (Z : State) (a0 : Array Value) (hw : oH Z a0) (n0 : Nat) (h0 : Heap) (fv : Value) (hfv : fv.isRef = true) (X0 : Old Z n0 h0) :
    Met l Z oM13 oC13 4 (some .int) (oR 0 0 0 0) n0 [] #[oZ, (.int (2 : Int32)), (.int (2 : Int32)), fv] h0 (fun v h => v = some (.int (0 : Int32)) ∧ h0 = h) := by
  refine Met.intro (Ls := #[.val oZ, .val (.int (2 : Int32)), .val (.int (2 : Int32)), .val fv]) (plainFor_of_name pn_m_pcf5) hw (fun m => by (rcases XT.refc hfv with qfv | ⟨_, qfv⟩ <;> rw [qfv]) <;> rfl) ?_
  intro w K0
  have K : oK13 w Z a0 := K0
  refine Rn.iloadN K (q := 1) d34_0 rfl rfl ?_
  refine Rn.iloadN K (q := 2) d34_1 rfl rfl ?_
  refine Rn.ior K (q := 3) d34_2 rfl ?_
  refine Rn.iloadN K (q := 4) d34_3 rfl rfl ?_
  refine Rn.ior K (q := 5) d34_4 rfl ?_
  refine Rn.ifN K (q := 8) d34_5 (XT.i0_lt_f (by decide)) rfl ?_
  refine Rn.iloadN K (q := 9) d34_8 rfl rfl ?_
  refine Rn.iloadN K (q := 10) d34_9 rfl rfl ?_
  refine Rn.iloadN K (q := 11) d34_10 rfl rfl ?_
  refine Rn.isub K (q := 12) d34_11 rfl ?_
  show Rn w l _ n0 _ 12 _ [(.int (2 : Int32)), (.int (2 : Int32))] h0 0 0
  refine Rn.icY K (q := 23) d34_12 (XT.ii_le_t (by decide)) (by decide) (by decide) ?_
  refine Rn.iloadN K (q := 24) d34_23 rfl rfl ?_
  exact Rn.retI K rfl d34_24 (by decide) (by decide) ⟨rfl, rfl⟩
theorem m_scb2 (l : Launch) (Z : State) (a0 : Array Value) (hw : oH Z a0) (n0 : Nat) (h0 : Heap) (fv : Value) (hfv : fv.isRef = true) (X0 : Old Z n0 h0) (SQ : oSQ Z fv) :
    Met l Z oM14 oC14 3 (some .int) (oR 1 0 0 15) n0 [] #[oZ, (.int (2 : Int32)), (.int (2 : Int32))] h0 (fun v h => v = some (.int (0 : Int32)) ∧ h0 = h) := by
  refine Met.intro (Ls := #[.val oZ, .val (.int (2 : Int32)), .val (.int (2 : Int32))]) (plainFor_of_name pn_m_iv1_1) hw (fun _ => rfl) ?_
  intro w K0
  have K : oK14 w Z a0 := K0
  refine Rn.iloadN K (q := 1) d33_0 rfl rfl ?_
  refine Rn.iloadN K (q := 2) d33_1 rfl rfl ?_
  refine Rn.iloadN K (q := 3) d33_2 rfl rfl ?_
  refine Rn.getS K (q := 6) (oT 161 rfl) (SQ.ext X0.2) d33_3 rfl ?_
  refine Rn.stat K (q := 9) (W := 0) (y := oM13) (argsL := [oZ, (.int (2 : Int32)), (.int (2 : Int32)), fv]) (rest := []) (oT 163 rfl) (oT 164 rfl) (oT 165 rfl) (oT 162 rfl) (by decide) (m_pcf2 l Z a0 hw n0 h0 fv hfv X0) (by decide) (by decide) rfl (lenOf pd_9 rfl) rfl (oL rfl) d33_6 rfl (by decide) (by decide) ?_
  rintro _ _ ⟨rfl, rfl⟩
  show Rn w l _ n0 _ 9 _ [oZ] h0 0 0
  exact Rn.retI K rfl d33_9 (by decide) (by decide) ⟨rfl, rfl⟩
theorem m_sle2 (l : Launch) (Z : State) (a0 : Array Value) (hw : oH Z a0) (n0 : Nat) (h0 : Heap) (v : Addr) (k : ClassId) (x0 x1 : Int32) (X0 : Old Z n0 h0) (Av : Arv Z h0 v k .byte (4 : Int32) [(.int (oB0 x0)), (.int (oB8 x0)), (.int (oB0 x1)), (.int (oB8 x1))] oZ) :
    Met l Z oM15 oC15 1 (some .int) (oR 0 0 0 0) n0 [] #[(.ref v)] h0 (fun v h => v = some (.int (2 : Int32)) ∧ h0 = h) := by
  refine Met.intro (Ls := #[.val (.ref v)]) (plainFor_of_name pn_m_cpr1_0) hw (fun _ => rfl) ?_
  intro w K0
  have K : oK15 w Z a0 := K0
  refine Rn.aloadN K (q := 1) d32_0 rfl rfl rfl ?_
  refine Rn.arraylength K (q := 2) Av d32_1 rfl ?_
  refine Rn.iconst K (q := 3) (1 : Int32) d32_2 rfl rfl ?_
  refine Rn.ishr K (q := 4) d32_3 rfl ?_
  rw [show ((4 : Int32) >>> ((1 : Int32) &&& 31)) = (2 : Int32) from by decide]
  show Rn w l _ n0 _ 4 _ [(.int (2 : Int32))] h0 0 0
  exact Rn.retI K rfl d32_4 (by decide) (by decide) ⟨rfl, rfl⟩
theorem m_cbo2 (l : Launch) (Z : State) (a0 : Array Value) (hw : oH Z a0) (n0 : Nat) (h0 : Heap) (v : Addr) (k : ClassId) (x0 x1 : Int32) (fv : Value) (hfv : fv.isRef = true) (X0 : Old Z n0 h0) (SQ : oSQ Z fv) (Av : Arv Z h0 v k .byte (4 : Int32) [(.int (oB0 x0)), (.int (oB8 x0)), (.int (oB0 x1)), (.int (oB8 x1))] oZ) :
    Met l Z oM16 oC16 3 none (oR 2 0 0 29) n0 [] #[oZ, (.int (2 : Int32)), (.ref v)] h0 (fun v h => v = none ∧ h0 = h) := by
  refine Met.intro (Ls := #[.val oZ, .val (.int (2 : Int32)), .val (.ref v)]) (plainFor_of_name pn_m_cpr1_0) hw (fun _ => rfl) ?_
  intro w K0
  have K : oK16 w Z a0 := K0
  refine Rn.iloadN K (q := 1) d31_0 rfl rfl ?_
  refine Rn.iloadN K (q := 2) d31_1 rfl rfl ?_
  refine Rn.aloadN K (q := 3) d31_2 rfl rfl rfl ?_
  refine Rn.stat K (q := 6) (W := 2) (y := oM15) (argsL := [(.ref v)]) (rest := [(.int (2 : Int32)), oZ]) (oT 155 rfl) (oT 156 rfl) (oT 157 rfl) (oT 102 rfl) (by decide) (m_sle2 l Z a0 hw n0 h0 v k x0 x1 X0 Av) (by decide) (by decide) rfl (lenOf pd_10 rfl) rfl (oL rfl) d31_3 rfl (by decide) (by decide) ?_
  rintro _ _ ⟨rfl, rfl⟩
  show Rn w l _ n0 _ 6 _ [(.int (2 : Int32)), (.int (2 : Int32)), oZ] h0 0 0
  refine Rn.stat K (q := 9) (W := 0) (y := oM14) (argsL := [oZ, (.int (2 : Int32)), (.int (2 : Int32))]) (rest := []) (oT 158 rfl) (oT 159 rfl) (oT 160 rfl) (oT 8 rfl) (by decide) (m_scb2 l Z a0 hw n0 h0 fv hfv X0 SQ) (by decide) (by decide) rfl (lenOf pd_11 rfl) rfl (oL rfl) d31_6 rfl (by decide) (by decide) ?_
  rintro _ _ ⟨rfl, rfl⟩
  show Rn w l _ n0 _ 9 _ [oZ] h0 0 0
  refine Rn.pop K (q := 10) d31_9 rfl rfl ?_
  exact Rn.retV K rfl d31_10 (by decide) (by decide) ⟨rfl, rfl⟩
theorem m_gcs2 (l : Launch) (Z : State) (a0 : Array Value) (hw : oH Z a0) (n0 : Nat) (h0 : Heap) (v c : Addr) (k kc : ClassId) (x0 x1 : Int32) (fv : Value) (hfv : fv.isRef = true) (X0 : Old Z n0 h0) (SQ : oSQ Z fv) (SA : oS0 Z) (SH : oS1 Z) (SW : oS2 Z) (Av : Arv Z h0 v k .byte (4 : Int32) [(.int (oB0 x0)), (.int (oB8 x0)), (.int (oB0 x1)), (.int (oB8 x1))] oZ) (Ec : Exa Z h0 c "[C") (Ac : Arv Z h0 c kc .char (2 : Int32) [oZ, oZ] oZ) (gc : n0 ≤ c) (hvc : v ≠ c) (cx0 : Chr x0) (cx1 : Chr x1) :
    Met l Z oM17 oC17 6 none (oR 3 0 0 43) n0 [] #[(.ref v), oZ, (.int (2 : Int32)), (.ref c), oZ] h0 (fun r h => r = none ∧ Keep h0 h [c] ∧ Arv Z h c kc .char (2 : Int32) [(.int x0), (.int x1)] oZ) := by
  refine Met.intro (Ls := #[.val (.ref v), .val oZ, .val (.int (2 : Int32)), .val (.ref c), .val oZ, .unset]) (plainFor_of_name pn_m_cpr1_0) hw (fun m => by first | (simp [entryFrame, mkF, argsToLocals, Value.category]; done) | rfl) ?_
  intro w K0
  have K : oK17 w Z a0 := K0
  have K1 := Keep.refl h0 [c]
  refine Rn.iloadN K (q := 1) d30_0 rfl rfl ?_
  refine Rn.iloadN K (q := 2) d30_1 rfl rfl ?_
  refine Rn.icN K (q := 5) d30_2 (XT.ii_ge_f (by decide)) rfl ?_
  refine Rn.iloadN K (q := 6) d30_5 rfl rfl ?_
  refine Rn.iloadN K (q := 7) d30_6 rfl rfl ?_
  refine Rn.iloadN K (q := 8) d30_7 rfl rfl ?_
  refine Rn.isub K (q := 9) d30_8 rfl ?_
  show Rn w l _ n0 _ 9 _ [(.int (2 : Int32)), oZ] h0 0 0
  refine Rn.aloadN K (q := 10) d30_9 rfl rfl rfl ?_
  refine Rn.stat K (q := 13) (W := 0) (y := oM16) (argsL := [oZ, (.int (2 : Int32)), (.ref v)]) (rest := []) (oT 152 rfl) (oT 153 rfl) (oT 154 rfl) (oT 102 rfl) (by decide) (m_cbo2 l Z a0 hw n0 h0 v k x0 x1 fv hfv X0 SQ Av) (by decide) (by decide) rfl (lenOf pd_12 rfl) rfl (oL rfl) d30_10 rfl (by decide) (by decide) ?_
  rintro _ _ ⟨rfl, rfl⟩
  show Rn w l _ n0 _ 13 _ [] h0 0 0
  refine Rn.iloadN K (q := 14) d30_13 rfl rfl ?_
  refine Rn.istore K (q := 16) (Ls' := #[.val (.ref v), .val oZ, .val (.int (2 : Int32)), .val (.ref c), .val oZ, .val oZ]) d30_14 rfl rfl ?_
  refine Rn.iload K (q := 18) d30_16 rfl rfl ?_
  refine Rn.iloadN K (q := 19) d30_18 rfl rfl ?_
  refine Rn.icN K (q := 22) d30_19 (XT.ii_ge_f (by decide)) rfl ?_
  refine Rn.aloadN K (q := 23) d30_22 rfl rfl rfl ?_
  refine Rn.iload K (q := 25) d30_23 rfl rfl ?_
  refine Rn.iinc K (q := 28) (Ls' := #[.val (.ref v), .val oZ, .val (.int (2 : Int32)), .val (.ref c), .val (.int (1 : Int32)), .val oZ]) (1 : Int32) d30_25 rfl rfl rfl rfl ?_
  refine Rn.aloadN K (q := 29) d30_28 rfl rfl rfl ?_
  refine Rn.iload K (q := 31) d30_29 rfl rfl ?_
  refine Rn.stat K (q := 34) (W := 2) (y := oM4) (argsL := [(.ref v), oZ]) (rest := [oZ, (.ref c)]) (oT 143 rfl) (oT 144 rfl) (oT 145 rfl) (oT 102 rfl) (by decide) (m_gch2_0 l Z a0 hw n0 h0 v k x0 x1 X0 SA SH SW Av cx0) (by decide) (by decide) rfl (lenOf pd_5 rfl) rfl (oL rfl) d30_31 rfl (by decide) (by decide) ?_
  rintro _ _ ⟨rfl, rfl⟩
  show Rn w l _ n0 _ 34 _ [(.int x0), oZ, (.ref c)] h0 0 0
  refine Rn.castore K (q := 35) (i := 0) Ac (by decide) rfl (oL rfl) gc d30_34 rfl ?_
  intro h1 W2 A3
  have f4 := X0.wr W2 gc
  have f5 := K1.wr W2 (Or.inl (oT 0 rfl))
  have f6 := Av.other W2 hvc
  replace A3 : Arv Z h1 c kc .char (2 : Int32) [(.int (nar .char x0)), oZ] oZ := A3
  refine Rn.iinc K (q := 38) (Ls' := #[.val (.ref v), .val oZ, .val (.int (2 : Int32)), .val (.ref c), .val (.int (1 : Int32)), .val (.int (1 : Int32))]) (1 : Int32) d30_35 rfl rfl rfl rfl ?_
  refine Rn.goto K (q := 16) d30_38 (by decide) (by decide) ?_
  refine Rn.iload K (q := 18) d30_16 rfl rfl ?_
  refine Rn.iloadN K (q := 19) d30_18 rfl rfl ?_
  refine Rn.icN K (q := 22) d30_19 (XT.ii_ge_f (by decide)) rfl ?_
  refine Rn.aloadN K (q := 23) d30_22 rfl rfl rfl ?_
  refine Rn.iload K (q := 25) d30_23 rfl rfl ?_
  refine Rn.iinc K (q := 28) (Ls' := #[.val (.ref v), .val oZ, .val (.int (2 : Int32)), .val (.ref c), .val (.int (2 : Int32)), .val (.int (1 : Int32))]) (1 : Int32) d30_25 rfl rfl rfl rfl ?_
  refine Rn.aloadN K (q := 29) d30_28 rfl rfl rfl ?_
  refine Rn.iload K (q := 31) d30_29 rfl rfl ?_
  refine Rn.stat K (q := 34) (W := 2) (y := oM4) (argsL := [(.ref v), (.int (1 : Int32))]) (rest := [(.int (1 : Int32)), (.ref c)]) (oT 143 rfl) (oT 144 rfl) (oT 145 rfl) (oT 102 rfl) (by decide) (m_gch2_1 l Z a0 hw n0 h1 v k x0 x1 f4 SA SH SW f6 cx1) (by decide) (by decide) rfl (lenOf pd_5 rfl) rfl (oL rfl) d30_31 rfl (by decide) (by decide) ?_
  rintro _ _ ⟨rfl, rfl⟩
  show Rn w l _ n0 _ 34 _ [(.int x1), (.int (1 : Int32)), (.ref c)] h1 0 0
  refine Rn.castore K (q := 35) (i := 1) A3 (by decide) rfl (oL rfl) gc d30_34 rfl ?_
  intro h8 W9 A10
  have f12 := f5.wr W9 (Or.inl (oT 0 rfl))
  replace A10 : Arv Z h8 c kc .char (2 : Int32) [(.int (nar .char x0)), (.int (nar .char x1))] oZ := A10
  refine Rn.iinc K (q := 38) (Ls' := #[.val (.ref v), .val oZ, .val (.int (2 : Int32)), .val (.ref c), .val (.int (2 : Int32)), .val (.int (2 : Int32))]) (1 : Int32) d30_35 rfl rfl rfl rfl ?_
  refine Rn.goto K (q := 16) d30_38 (by decide) (by decide) ?_
  refine Rn.iload K (q := 18) d30_16 rfl rfl ?_
  refine Rn.iloadN K (q := 19) d30_18 rfl rfl ?_
  refine Rn.icY K (q := 41) d30_19 (XT.ii_ge_t (by decide)) (by decide) (by decide) ?_
  exact Rn.retV K rfl d30_41 (by decide) (by decide) ⟨rfl, f12, by have q := A10; rw [own_nc cx0, own_nc cx1] at q; exact q⟩
theorem m_utc2 (l : Launch) (Z : State) (a0 : Array Value) (hw : oH Z a0) (n0 : Nat) (h0 : Heap) (v : Addr) (k : ClassId) (x0 x1 : Int32) (fv : Value) (hfv : fv.isRef = true) (X0 : Old Z n0 h0) (SQ : oSQ Z fv) (SA : oS0 Z) (SH : oS1 Z) (SW : oS2 Z) (Av : Arv Z h0 v k .byte (4 : Int32) [(.int (oB0 x0)), (.int (oB8 x0)), (.int (oB0 x1)), (.int (oB8 x1))] oZ) (cx0 : Chr x0) (cx1 : Chr x1) :
    Met l Z oM18 oC18 2 (some (.array .char)) (oR 4 1 2 60) n0 [] #[(.ref v)] h0 (fun r h => ∃ c k, r = some (.ref c) ∧ h0.size ≤ c ∧ Keep h0 h [] ∧ Exa Z h c "[C" ∧ Arv Z h c k .char (2 : Int32) [(.int x0), (.int x1)] oZ) := by
  refine Met.intro (Ls := #[.val (.ref v), .unset]) (plainFor_of_name pn_m_cpr1_0) hw (fun _ => rfl) ?_
  intro w K0
  have K : oK18 w Z a0 := K0
  have K1 := Keep.refl h0 []
  refine Rn.aloadN K (q := 1) d29_0 rfl rfl rfl ?_
  refine Rn.arraylength K (q := 2) Av d29_1 rfl ?_
  refine Rn.iconst K (q := 3) (1 : Int32) d29_2 rfl rfl ?_
  refine Rn.ishr K (q := 4) d29_3 rfl ?_
  rw [show ((4 : Int32) >>> ((1 : Int32) &&& 31)) = (2 : Int32) from by decide]
  show Rn w l _ n0 _ 4 _ [(.int (2 : Int32))] h0 0 0
  refine Rn.newP K (q := 6) (cap := 2) (oT 9 rfl) (by decide) (by decide) (by decide) (by decide) (by decide) (ad := "[C") (by decide) d29_4 rfl ?_
  intro b1 h2 k4 gb1_ X3 A_b1 EA_b1
  have ne_v_b1 : v ≠ b1 := fun e => absurd Av.lt (by rw [e, gb1_]; exact Nat.lt_irrefl _)
  have g_b1 : n0 ≤ b1 := by rw [gb1_]; exact X0.1 ▸ X0.2.1
  have sz_b1 : h0.size ≤ b1 := by rw [gb1_]; exact K1.1
  have f5 := X0.ext X3
  have f6 := K1.ext X3
  have f7 := Av.ext X3
  replace A_b1 : Arv Z h2 b1 k4 .char (2 : Int32) [oZ, oZ] oZ := A_b1.pad (pad_rep [] oZ 2)
  show Rn w l _ n0 _ 6 _ [(.ref b1)] h2 1 2
  refine Rn.astoreN K (q := 7) (Ls' := #[.val (.ref v), .val (.ref b1)]) d29_6 rfl rfl rfl ?_
  refine Rn.aloadN K (q := 8) d29_7 rfl rfl rfl ?_
  refine Rn.iconst K (q := 9) (0 : Int32) d29_8 rfl rfl ?_
  refine Rn.aloadN K (q := 10) d29_9 rfl rfl rfl ?_
  refine Rn.arraylength K (q := 11) A_b1 d29_10 rfl ?_
  refine Rn.aloadN K (q := 12) d29_11 rfl rfl rfl ?_
  refine Rn.iconst K (q := 13) (0 : Int32) d29_12 rfl rfl ?_
  refine Rn.stat K (q := 16) (W := 0) (y := oM17) (argsL := [(.ref v), oZ, (.int (2 : Int32)), (.ref b1), oZ]) (rest := []) (oT 149 rfl) (oT 150 rfl) (oT 151 rfl) (oT 102 rfl) (by decide) (m_gcs2 l Z a0 hw n0 h2 v b1 k k4 x0 x1 fv hfv f5 SQ SA SH SW f7 EA_b1 A_b1 g_b1 ne_v_b1 cx0 cx1) (by decide) (by decide) rfl (lenOf pd_13 rfl) rfl (oL rfl) d29_13 rfl (by decide) (by decide) ?_
  rintro _ h8 ⟨rfl, K9, A10⟩
  have f12 := f6.trans K9 (allS (Or.inr sz_b1) all0)
  have f14 := EA_b1.keep K9
  show Rn w l _ n0 _ 16 _ [] h8 1 2
  refine Rn.aloadN K (q := 17) d29_16 rfl rfl rfl ?_
  exact Rn.retA K (.array .char) rfl rfl rfl d29_17 (by decide) (by decide) ⟨_, _, rfl, sz_b1, f12, f14, A10⟩
theorem m_tca2_1 (l : Launch) (Z : State) (a0 : Array Value) (hw : oH Z a0) (n0 : Nat) (h0 : Heap) (s v : Addr) (k : ClassId) (cst : Int32) (x0 x1 : Int32) (fv : Value) (hfv : fv.isRef = true) (X0 : Old Z n0 h0) (SC : oSC Z cst) (hcs : ¬ cst = 0) (SQ : oSQ Z fv) (SA : oS0 Z) (SH : oS1 Z) (SW : oS2 Z) (Es : Exa Z h0 s "java/lang/String") (Fv : Fld Z h0 s "java/lang/String" "value" "[B" (.ref v)) (Fc : Fld Z h0 s "java/lang/String" "coder" "B" (.int (1 : Int32))) (Av : Arv Z h0 v k .byte (4 : Int32) [(.int (oB0 x0)), (.int (oB8 x0)), (.int (oB0 x1)), (.int (oB8 x1))] oZ) (cx0 : Chr x0) (cx1 : Chr x1) :
    Met l Z oM19 oC19 1 (some (.array .char)) (oR 5 1 5 73) n0 [] #[(.ref s)] h0 (fun r h => ∃ c k, r = some (.ref c) ∧ h0.size ≤ c ∧ Keep h0 h [] ∧ Exa Z h c "[C" ∧ Arv Z h c k .char (2 : Int32) [(.int x0), (.int x1)] oZ) := by
  refine Met.intro (Ls := #[.val (.ref s)]) (plainFor_of_name pn_m_iv1_1) hw (fun _ => rfl) ?_
  intro w K0
  have K : oK19 w Z a0 := K0
  refine Rn.aloadN K (q := 1) d8_0 rfl rfl rfl ?_
  refine Rn.virt K (q := 4) (W := 0) (y := oM11) (z := oM11) (b := s) (argsL := []) (rest := []) (oT 56 rfl) (oT 57 rfl) (nfs K (oT 59 rfl)) (oT 59 rfl) (oT 58 rfl) (oT 60 rfl) (oT 8 rfl) (by decide) (m_lat1 l Z a0 hw n0 h0 s cst X0 SC hcs Fc) Es (by decide) (by decide) rfl (lenOf pd_14 rfl) rfl (oL rfl) d8_1 rfl (by decide) (by decide) ?_
  rintro _ _ ⟨rfl, rfl⟩
  show Rn w l _ n0 _ 4 _ [oZ] h0 0 0
  refine Rn.ifY K (q := 17) d8_4 (XT.i0_eq_t rfl) (by decide) (by decide) ?_
  refine Rn.aloadN K (q := 18) d8_17 rfl rfl rfl ?_
  refine Rn.getF K (q := 21) (oT 26 rfl) Via.refl Fv d8_18 rfl ?_
  refine Rn.stat K (q := 24) (W := 0) (y := oM18) (argsL := [(.ref v)]) (rest := []) (oT 146 rfl) (oT 147 rfl) (oT 148 rfl) (oT 102 rfl) (by decide) (m_utc2 l Z a0 hw n0 h0 v k x0 x1 fv hfv X0 SQ SA SH SW Av cx0 cx1 ) (by decide) (by decide) rfl (lenOf pd_15 rfl) rfl (oL rfl) d8_21 rfl (by decide) (by decide) ?_
  rintro _ h1 ⟨c, kc, rfl, Q1⟩
  show Rn w l _ n0 _ 24 _ [(.ref c)] h1 1 2
  exact Rn.retA K (.array .char) rfl rfl rfl d8_24 (by decide) (by decide) ⟨c, kc, rfl, Q1⟩
theorem m_len1_1 (l : Launch) (Z : State) (a0 : Array Value) (hw : oH Z a0) (n0 : Nat) (h0 : Heap) (s v : Addr) (k : ClassId) (cst : Int32) (x0 : Int32) (X0 : Old Z n0 h0) (SC : oSC Z cst) (hcs : ¬ cst = 0) (Es : Exa Z h0 s "java/lang/String") (Fv : Fld Z h0 s "java/lang/String" "value" "[B" (.ref v)) (Fc : Fld Z h0 s "java/lang/String" "coder" "B" (.int (1 : Int32))) (Av : Arv Z h0 v k .byte (2 : Int32) [(.int (oB0 x0)), (.int (oB8 x0))] oZ) :
    Met l Z oM12 oC12 1 (some .int) (oR 1 0 0 13) n0 [] #[(.ref s)] h0 (fun v h => v = some (.int (1 : Int32)) ∧ h0 = h) := by
  refine Met.intro (Ls := #[.val (.ref s)]) (plainFor_of_name pn_m_iv1_1) hw (fun _ => rfl) ?_
  intro w K0
  have K : oK12 w Z a0 := K0
  refine Rn.aloadN K (q := 1) d12_0 rfl rfl rfl ?_
  refine Rn.getF K (q := 4) (oT 26 rfl) Via.refl Fv d12_1 rfl ?_
  refine Rn.arraylength K (q := 5) Av d12_4 rfl ?_
  refine Rn.aloadN K (q := 6) d12_5 rfl rfl rfl ?_
  refine Rn.virt K (q := 9) (W := 1) (y := oM10) (z := oM10) (b := s) (argsL := []) (rest := [(.int (2 : Int32))]) (oT 74 rfl) (oT 75 rfl) (nfs K (oT 77 rfl)) (oT 77 rfl) (oT 76 rfl) (oT 78 rfl) (oT 8 rfl) (by decide) (m_cod1 l Z a0 hw n0 h0 s cst X0 SC hcs Fc) Es (by decide) (by decide) rfl (lenOf pd_8 rfl) rfl (oL rfl) d12_6 rfl (by decide) (by decide) ?_
  rintro _ _ ⟨rfl, rfl⟩
  show Rn w l _ n0 _ 9 _ [(.int (1 : Int32)), (.int (2 : Int32))] h0 0 0
  refine Rn.ishr K (q := 10) d12_9 rfl ?_
  rw [show ((2 : Int32) >>> ((1 : Int32) &&& 31)) = (1 : Int32) from by decide]
  show Rn w l _ n0 _ 10 _ [(.int (1 : Int32))] h0 0 0
  exact Rn.retI K rfl d12_10 (by decide) (by decide) ⟨rfl, rfl⟩
theorem m_pcf1 (l : Launch) (Z : State) (a0 : Array Value) (hw : oH Z a0) (n0 : Nat) (h0 : Heap) (fv : Value) (hfv : fv.isRef = true) (X0 : Old Z n0 h0) :
    Met l Z oM13 oC13 4 (some .int) (oR 0 0 0 0) n0 [] #[oZ, (.int (1 : Int32)), (.int (1 : Int32)), fv] h0 (fun v h => v = some (.int (0 : Int32)) ∧ h0 = h) := by
  refine Met.intro (Ls := #[.val oZ, .val (.int (1 : Int32)), .val (.int (1 : Int32)), .val fv]) (plainFor_of_name pn_m_pcf5) hw (fun m => by (rcases XT.refc hfv with qfv | ⟨_, qfv⟩ <;> rw [qfv]) <;> rfl) ?_
  intro w K0
  have K : oK13 w Z a0 := K0
  refine Rn.iloadN K (q := 1) d34_0 rfl rfl ?_
  refine Rn.iloadN K (q := 2) d34_1 rfl rfl ?_
  refine Rn.ior K (q := 3) d34_2 rfl ?_
  refine Rn.iloadN K (q := 4) d34_3 rfl rfl ?_
  refine Rn.ior K (q := 5) d34_4 rfl ?_
  refine Rn.ifN K (q := 8) d34_5 (XT.i0_lt_f (by decide)) rfl ?_
  refine Rn.iloadN K (q := 9) d34_8 rfl rfl ?_
  refine Rn.iloadN K (q := 10) d34_9 rfl rfl ?_
  refine Rn.iloadN K (q := 11) d34_10 rfl rfl ?_
  refine Rn.isub K (q := 12) d34_11 rfl ?_
  show Rn w l _ n0 _ 12 _ [(.int (1 : Int32)), (.int (1 : Int32))] h0 0 0
  refine Rn.icY K (q := 23) d34_12 (XT.ii_le_t (by decide)) (by decide) (by decide) ?_
  refine Rn.iloadN K (q := 24) d34_23 rfl rfl ?_
  exact Rn.retI K rfl d34_24 (by decide) (by decide) ⟨rfl, rfl⟩
theorem m_scb1 (l : Launch) (Z : State) (a0 : Array Value) (hw : oH Z a0) (n0 : Nat) (h0 : Heap) (fv : Value) (hfv : fv.isRef = true) (X0 : Old Z n0 h0) (SQ : oSQ Z fv) :
    Met l Z oM14 oC14 3 (some .int) (oR 1 0 0 15) n0 [] #[oZ, (.int (1 : Int32)), (.int (1 : Int32))] h0 (fun v h => v = some (.int (0 : Int32)) ∧ h0 = h) := by
  refine Met.intro (Ls := #[.val oZ, .val (.int (1 : Int32)), .val (.int (1 : Int32))]) (plainFor_of_name pn_m_iv1_1) hw (fun _ => rfl) ?_
  intro w K0
  have K : oK14 w Z a0 := K0
  refine Rn.iloadN K (q := 1) d33_0 rfl rfl ?_
  refine Rn.iloadN K (q := 2) d33_1 rfl rfl ?_
  refine Rn.iloadN K (q := 3) d33_2 rfl rfl ?_
  refine Rn.getS K (q := 6) (oT 161 rfl) (SQ.ext X0.2) d33_3 rfl ?_
  refine Rn.stat K (q := 9) (W := 0) (y := oM13) (argsL := [oZ, (.int (1 : Int32)), (.int (1 : Int32)), fv]) (rest := []) (oT 163 rfl) (oT 164 rfl) (oT 165 rfl) (oT 162 rfl) (by decide) (m_pcf1 l Z a0 hw n0 h0 fv hfv X0) (by decide) (by decide) rfl (lenOf pd_9 rfl) rfl (oL rfl) d33_6 rfl (by decide) (by decide) ?_
  rintro _ _ ⟨rfl, rfl⟩
  show Rn w l _ n0 _ 9 _ [oZ] h0 0 0
  exact Rn.retI K rfl d33_9 (by decide) (by decide) ⟨rfl, rfl⟩
theorem m_sle1 (l : Launch) (Z : State) (a0 : Array Value) (hw : oH Z a0) (n0 : Nat) (h0 : Heap) (v : Addr) (k : ClassId) (x0 : Int32) (X0 : Old Z n0 h0) (Av : Arv Z h0 v k .byte (2 : Int32) [(.int (oB0 x0)), (.int (oB8 x0))] oZ) :
    Met l Z oM15 oC15 1 (some .int) (oR 0 0 0 0) n0 [] #[(.ref v)] h0 (fun v h => v = some (.int (1 : Int32)) ∧ h0 = h) := by
  refine Met.intro (Ls := #[.val (.ref v)]) (plainFor_of_name pn_m_cpr1_0) hw (fun _ => rfl) ?_
  intro w K0
  have K : oK15 w Z a0 := K0
  refine Rn.aloadN K (q := 1) d32_0 rfl rfl rfl ?_
  refine Rn.arraylength K (q := 2) Av d32_1 rfl ?_
  refine Rn.iconst K (q := 3) (1 : Int32) d32_2 rfl rfl ?_
  refine Rn.ishr K (q := 4) d32_3 rfl ?_
  rw [show ((2 : Int32) >>> ((1 : Int32) &&& 31)) = (1 : Int32) from by decide]
  show Rn w l _ n0 _ 4 _ [(.int (1 : Int32))] h0 0 0
  exact Rn.retI K rfl d32_4 (by decide) (by decide) ⟨rfl, rfl⟩
theorem m_cbo1 (l : Launch) (Z : State) (a0 : Array Value) (hw : oH Z a0) (n0 : Nat) (h0 : Heap) (v : Addr) (k : ClassId) (x0 : Int32) (fv : Value) (hfv : fv.isRef = true) (X0 : Old Z n0 h0) (SQ : oSQ Z fv) (Av : Arv Z h0 v k .byte (2 : Int32) [(.int (oB0 x0)), (.int (oB8 x0))] oZ) :
    Met l Z oM16 oC16 3 none (oR 2 0 0 29) n0 [] #[oZ, (.int (1 : Int32)), (.ref v)] h0 (fun v h => v = none ∧ h0 = h) := by
  refine Met.intro (Ls := #[.val oZ, .val (.int (1 : Int32)), .val (.ref v)]) (plainFor_of_name pn_m_cpr1_0) hw (fun _ => rfl) ?_
  intro w K0
  have K : oK16 w Z a0 := K0
  refine Rn.iloadN K (q := 1) d31_0 rfl rfl ?_
  refine Rn.iloadN K (q := 2) d31_1 rfl rfl ?_
  refine Rn.aloadN K (q := 3) d31_2 rfl rfl rfl ?_
  refine Rn.stat K (q := 6) (W := 2) (y := oM15) (argsL := [(.ref v)]) (rest := [(.int (1 : Int32)), oZ]) (oT 155 rfl) (oT 156 rfl) (oT 157 rfl) (oT 102 rfl) (by decide) (m_sle1 l Z a0 hw n0 h0 v k x0 X0 Av) (by decide) (by decide) rfl (lenOf pd_10 rfl) rfl (oL rfl) d31_3 rfl (by decide) (by decide) ?_
  rintro _ _ ⟨rfl, rfl⟩
  show Rn w l _ n0 _ 6 _ [(.int (1 : Int32)), (.int (1 : Int32)), oZ] h0 0 0
  refine Rn.stat K (q := 9) (W := 0) (y := oM14) (argsL := [oZ, (.int (1 : Int32)), (.int (1 : Int32))]) (rest := []) (oT 158 rfl) (oT 159 rfl) (oT 160 rfl) (oT 8 rfl) (by decide) (m_scb1 l Z a0 hw n0 h0 fv hfv X0 SQ) (by decide) (by decide) rfl (lenOf pd_11 rfl) rfl (oL rfl) d31_6 rfl (by decide) (by decide) ?_
  rintro _ _ ⟨rfl, rfl⟩
  show Rn w l _ n0 _ 9 _ [oZ] h0 0 0
  refine Rn.pop K (q := 10) d31_9 rfl rfl ?_
  exact Rn.retV K rfl d31_10 (by decide) (by decide) ⟨rfl, rfl⟩
theorem m_gcs1 (l : Launch) (Z : State) (a0 : Array Value) (hw : oH Z a0) (n0 : Nat) (h0 : Heap) (v c : Addr) (k kc : ClassId) (x0 : Int32) (fv : Value) (hfv : fv.isRef = true) (X0 : Old Z n0 h0) (SQ : oSQ Z fv) (SA : oS0 Z) (SH : oS1 Z) (SW : oS2 Z) (Av : Arv Z h0 v k .byte (2 : Int32) [(.int (oB0 x0)), (.int (oB8 x0))] oZ) (Ec : Exa Z h0 c "[C") (Ac : Arv Z h0 c kc .char (1 : Int32) [oZ] oZ) (gc : n0 ≤ c) (hvc : v ≠ c) (cx0 : Chr x0) :
    Met l Z oM17 oC17 6 none (oR 3 0 0 43) n0 [] #[(.ref v), oZ, (.int (1 : Int32)), (.ref c), oZ] h0 (fun r h => r = none ∧ Keep h0 h [c] ∧ Arv Z h c kc .char (1 : Int32) [(.int x0)] oZ) := by
  refine Met.intro (Ls := #[.val (.ref v), .val oZ, .val (.int (1 : Int32)), .val (.ref c), .val oZ, .unset]) (plainFor_of_name pn_m_cpr1_0) hw (fun m => by first | (simp [entryFrame, mkF, argsToLocals, Value.category]; done) | rfl) ?_
  intro w K0
  have K : oK17 w Z a0 := K0
  have K1 := Keep.refl h0 [c]
  refine Rn.iloadN K (q := 1) d30_0 rfl rfl ?_
  refine Rn.iloadN K (q := 2) d30_1 rfl rfl ?_
  refine Rn.icN K (q := 5) d30_2 (XT.ii_ge_f (by decide)) rfl ?_
  refine Rn.iloadN K (q := 6) d30_5 rfl rfl ?_
  refine Rn.iloadN K (q := 7) d30_6 rfl rfl ?_
  refine Rn.iloadN K (q := 8) d30_7 rfl rfl ?_
  refine Rn.isub K (q := 9) d30_8 rfl ?_
  show Rn w l _ n0 _ 9 _ [(.int (1 : Int32)), oZ] h0 0 0
  refine Rn.aloadN K (q := 10) d30_9 rfl rfl rfl ?_
  refine Rn.stat K (q := 13) (W := 0) (y := oM16) (argsL := [oZ, (.int (1 : Int32)), (.ref v)]) (rest := []) (oT 152 rfl) (oT 153 rfl) (oT 154 rfl) (oT 102 rfl) (by decide) (m_cbo1 l Z a0 hw n0 h0 v k x0 fv hfv X0 SQ Av) (by decide) (by decide) rfl (lenOf pd_12 rfl) rfl (oL rfl) d30_10 rfl (by decide) (by decide) ?_
  rintro _ _ ⟨rfl, rfl⟩
  show Rn w l _ n0 _ 13 _ [] h0 0 0
  refine Rn.iloadN K (q := 14) d30_13 rfl rfl ?_
  refine Rn.istore K (q := 16) (Ls' := #[.val (.ref v), .val oZ, .val (.int (1 : Int32)), .val (.ref c), .val oZ, .val oZ]) d30_14 rfl rfl ?_
  refine Rn.iload K (q := 18) d30_16 rfl rfl ?_
  refine Rn.iloadN K (q := 19) d30_18 rfl rfl ?_
  refine Rn.icN K (q := 22) d30_19 (XT.ii_ge_f (by decide)) rfl ?_
  refine Rn.aloadN K (q := 23) d30_22 rfl rfl rfl ?_
  refine Rn.iload K (q := 25) d30_23 rfl rfl ?_
  refine Rn.iinc K (q := 28) (Ls' := #[.val (.ref v), .val oZ, .val (.int (1 : Int32)), .val (.ref c), .val (.int (1 : Int32)), .val oZ]) (1 : Int32) d30_25 rfl rfl rfl rfl ?_
  refine Rn.aloadN K (q := 29) d30_28 rfl rfl rfl ?_
  refine Rn.iload K (q := 31) d30_29 rfl rfl ?_
  refine Rn.stat K (q := 34) (W := 2) (y := oM4) (argsL := [(.ref v), oZ]) (rest := [oZ, (.ref c)]) (oT 143 rfl) (oT 144 rfl) (oT 145 rfl) (oT 102 rfl) (by decide) (m_gch1_0 l Z a0 hw n0 h0 v k x0 X0 SA SH SW Av cx0) (by decide) (by decide) rfl (lenOf pd_5 rfl) rfl (oL rfl) d30_31 rfl (by decide) (by decide) ?_
  rintro _ _ ⟨rfl, rfl⟩
  show Rn w l _ n0 _ 34 _ [(.int x0), oZ, (.ref c)] h0 0 0
  refine Rn.castore K (q := 35) (i := 0) Ac (by decide) rfl (oL rfl) gc d30_34 rfl ?_
  intro h1 W2 A3
  have f5 := K1.wr W2 (Or.inl (oT 0 rfl))
  replace A3 : Arv Z h1 c kc .char (1 : Int32) [(.int (nar .char x0))] oZ := A3
  refine Rn.iinc K (q := 38) (Ls' := #[.val (.ref v), .val oZ, .val (.int (1 : Int32)), .val (.ref c), .val (.int (1 : Int32)), .val (.int (1 : Int32))]) (1 : Int32) d30_35 rfl rfl rfl rfl ?_
  refine Rn.goto K (q := 16) d30_38 (by decide) (by decide) ?_
  refine Rn.iload K (q := 18) d30_16 rfl rfl ?_
  refine Rn.iloadN K (q := 19) d30_18 rfl rfl ?_
  refine Rn.icY K (q := 41) d30_19 (XT.ii_ge_t (by decide)) (by decide) (by decide) ?_
  exact Rn.retV K rfl d30_41 (by decide) (by decide) ⟨rfl, f5, by have q := A3; rw [own_nc cx0] at q; exact q⟩
theorem m_utc1 (l : Launch) (Z : State) (a0 : Array Value) (hw : oH Z a0) (n0 : Nat) (h0 : Heap) (v : Addr) (k : ClassId) (x0 : Int32) (fv : Value) (hfv : fv.isRef = true) (X0 : Old Z n0 h0) (SQ : oSQ Z fv) (SA : oS0 Z) (SH : oS1 Z) (SW : oS2 Z) (Av : Arv Z h0 v k .byte (2 : Int32) [(.int (oB0 x0)), (.int (oB8 x0))] oZ) (cx0 : Chr x0) :
    Met l Z oM18 oC18 2 (some (.array .char)) (oR 4 1 1 60) n0 [] #[(.ref v)] h0 (fun r h => ∃ c k, r = some (.ref c) ∧ h0.size ≤ c ∧ Keep h0 h [] ∧ Exa Z h c "[C" ∧ Arv Z h c k .char (1 : Int32) [(.int x0)] oZ) := by
  refine Met.intro (Ls := #[.val (.ref v), .unset]) (plainFor_of_name pn_m_cpr1_0) hw (fun _ => rfl) ?_
  intro w K0
  have K : oK18 w Z a0 := K0
  have K1 := Keep.refl h0 []
  refine Rn.aloadN K (q := 1) d29_0 rfl rfl rfl ?_
  refine Rn.arraylength K (q := 2) Av d29_1 rfl ?_
  refine Rn.iconst K (q := 3) (1 : Int32) d29_2 rfl rfl ?_
  refine Rn.ishr K (q := 4) d29_3 rfl ?_
  rw [show ((2 : Int32) >>> ((1 : Int32) &&& 31)) = (1 : Int32) from by decide]
  show Rn w l _ n0 _ 4 _ [(.int (1 : Int32))] h0 0 0
  refine Rn.newP K (q := 6) (cap := 1) (oT 9 rfl) (by decide) (by decide) (by decide) (by decide) (by decide) (ad := "[C") (by decide) d29_4 rfl ?_
  intro b1 h2 k4 gb1_ X3 A_b1 EA_b1
  have ne_v_b1 : v ≠ b1 := fun e => absurd Av.lt (by rw [e, gb1_]; exact Nat.lt_irrefl _)
  have g_b1 : n0 ≤ b1 := by rw [gb1_]; exact X0.1 ▸ X0.2.1
  have sz_b1 : h0.size ≤ b1 := by rw [gb1_]; exact K1.1
  have f5 := X0.ext X3
  have f6 := K1.ext X3
  have f7 := Av.ext X3
  replace A_b1 : Arv Z h2 b1 k4 .char (1 : Int32) [oZ] oZ := A_b1.pad (pad_rep [] oZ 1)
  show Rn w l _ n0 _ 6 _ [(.ref b1)] h2 1 1
  refine Rn.astoreN K (q := 7) (Ls' := #[.val (.ref v), .val (.ref b1)]) d29_6 rfl rfl rfl ?_
  refine Rn.aloadN K (q := 8) d29_7 rfl rfl rfl ?_
  refine Rn.iconst K (q := 9) (0 : Int32) d29_8 rfl rfl ?_
  refine Rn.aloadN K (q := 10) d29_9 rfl rfl rfl ?_
  refine Rn.arraylength K (q := 11) A_b1 d29_10 rfl ?_
  refine Rn.aloadN K (q := 12) d29_11 rfl rfl rfl ?_
  refine Rn.iconst K (q := 13) (0 : Int32) d29_12 rfl rfl ?_
  refine Rn.stat K (q := 16) (W := 0) (y := oM17) (argsL := [(.ref v), oZ, (.int (1 : Int32)), (.ref b1), oZ]) (rest := []) (oT 149 rfl) (oT 150 rfl) (oT 151 rfl) (oT 102 rfl) (by decide) (m_gcs1 l Z a0 hw n0 h2 v b1 k k4 x0 fv hfv f5 SQ SA SH SW f7 EA_b1 A_b1 g_b1 ne_v_b1 cx0) (by decide) (by decide) rfl (lenOf pd_13 rfl) rfl (oL rfl) d29_13 rfl (by decide) (by decide) ?_
  rintro _ h8 ⟨rfl, K9, A10⟩
  have f12 := f6.trans K9 (allS (Or.inr sz_b1) all0)
  have f14 := EA_b1.keep K9
  show Rn w l _ n0 _ 16 _ [] h8 1 1
  refine Rn.aloadN K (q := 17) d29_16 rfl rfl rfl ?_
  exact Rn.retA K (.array .char) rfl rfl rfl d29_17 (by decide) (by decide) ⟨_, _, rfl, sz_b1, f12, f14, A10⟩
theorem m_tca1_1 (l : Launch) (Z : State) (a0 : Array Value) (hw : oH Z a0) (n0 : Nat) (h0 : Heap) (s v : Addr) (k : ClassId) (cst : Int32) (x0 : Int32) (fv : Value) (hfv : fv.isRef = true) (X0 : Old Z n0 h0) (SC : oSC Z cst) (hcs : ¬ cst = 0) (SQ : oSQ Z fv) (SA : oS0 Z) (SH : oS1 Z) (SW : oS2 Z) (Es : Exa Z h0 s "java/lang/String") (Fv : Fld Z h0 s "java/lang/String" "value" "[B" (.ref v)) (Fc : Fld Z h0 s "java/lang/String" "coder" "B" (.int (1 : Int32))) (Av : Arv Z h0 v k .byte (2 : Int32) [(.int (oB0 x0)), (.int (oB8 x0))] oZ) (cx0 : Chr x0) :
    Met l Z oM19 oC19 1 (some (.array .char)) (oR 5 1 5 73) n0 [] #[(.ref s)] h0 (fun r h => ∃ c k, r = some (.ref c) ∧ h0.size ≤ c ∧ Keep h0 h [] ∧ Exa Z h c "[C" ∧ Arv Z h c k .char (1 : Int32) [(.int x0)] oZ) := by
  refine Met.intro (Ls := #[.val (.ref s)]) (plainFor_of_name pn_m_iv1_1) hw (fun _ => rfl) ?_
  intro w K0
  have K : oK19 w Z a0 := K0
  refine Rn.aloadN K (q := 1) d8_0 rfl rfl rfl ?_
  refine Rn.virt K (q := 4) (W := 0) (y := oM11) (z := oM11) (b := s) (argsL := []) (rest := []) (oT 56 rfl) (oT 57 rfl) (nfs K (oT 59 rfl)) (oT 59 rfl) (oT 58 rfl) (oT 60 rfl) (oT 8 rfl) (by decide) (m_lat1 l Z a0 hw n0 h0 s cst X0 SC hcs Fc) Es (by decide) (by decide) rfl (lenOf pd_14 rfl) rfl (oL rfl) d8_1 rfl (by decide) (by decide) ?_
  rintro _ _ ⟨rfl, rfl⟩
  show Rn w l _ n0 _ 4 _ [oZ] h0 0 0
  refine Rn.ifY K (q := 17) d8_4 (XT.i0_eq_t rfl) (by decide) (by decide) ?_
  refine Rn.aloadN K (q := 18) d8_17 rfl rfl rfl ?_
  refine Rn.getF K (q := 21) (oT 26 rfl) Via.refl Fv d8_18 rfl ?_
  refine Rn.stat K (q := 24) (W := 0) (y := oM18) (argsL := [(.ref v)]) (rest := []) (oT 146 rfl) (oT 147 rfl) (oT 148 rfl) (oT 102 rfl) (by decide) (m_utc1 l Z a0 hw n0 h0 v k x0 fv hfv X0 SQ SA SH SW Av cx0 ) (by decide) (by decide) rfl (lenOf pd_15 rfl) rfl (oL rfl) d8_21 rfl (by decide) (by decide) ?_
  rintro _ h1 ⟨c, kc, rfl, Q1⟩
  show Rn w l _ n0 _ 24 _ [(.ref c)] h1 1 1
  exact Rn.retA K (.array .char) rfl rfl rfl d8_24 (by decide) (by decide) ⟨c, kc, rfl, Q1⟩
theorem m_len5_0 (l : Launch) (Z : State) (a0 : Array Value) (hw : oH Z a0) (n0 : Nat) (h0 : Heap) (s v : Addr) (k : ClassId) (cst : Int32) (x0 x1 x2 x3 x4 : Int32) (X0 : Old Z n0 h0) (SC : oSC Z cst) (hcs : ¬ cst = 0) (Es : Exa Z h0 s "java/lang/String") (Fv : Fld Z h0 s "java/lang/String" "value" "[B" (.ref v)) (Fc : Fld Z h0 s "java/lang/String" "coder" "B" (.int (0 : Int32))) (Av : Arv Z h0 v k .byte (5 : Int32) [(.int (oB x0)), (.int (oB x1)), (.int (oB x2)), (.int (oB x3)), (.int (oB x4))] oZ) :
    Met l Z oM12 oC12 1 (some .int) (oR 1 0 0 13) n0 [] #[(.ref s)] h0 (fun v h => v = some (.int (5 : Int32)) ∧ h0 = h) := by
  refine Met.intro (Ls := #[.val (.ref s)]) (plainFor_of_name pn_m_iv1_1) hw (fun _ => rfl) ?_
  intro w K0
  have K : oK12 w Z a0 := K0
  refine Rn.aloadN K (q := 1) d12_0 rfl rfl rfl ?_
  refine Rn.getF K (q := 4) (oT 26 rfl) Via.refl Fv d12_1 rfl ?_
  refine Rn.arraylength K (q := 5) Av d12_4 rfl ?_
  refine Rn.aloadN K (q := 6) d12_5 rfl rfl rfl ?_
  refine Rn.virt K (q := 9) (W := 1) (y := oM10) (z := oM10) (b := s) (argsL := []) (rest := [(.int (5 : Int32))]) (oT 74 rfl) (oT 75 rfl) (nfs K (oT 77 rfl)) (oT 77 rfl) (oT 76 rfl) (oT 78 rfl) (oT 8 rfl) (by decide) (m_cod0 l Z a0 hw n0 h0 s cst X0 SC hcs Fc) Es (by decide) (by decide) rfl (lenOf pd_8 rfl) rfl (oL rfl) d12_6 rfl (by decide) (by decide) ?_
  rintro _ _ ⟨rfl, rfl⟩
  show Rn w l _ n0 _ 9 _ [oZ, (.int (5 : Int32))] h0 0 0
  refine Rn.ishr K (q := 10) d12_9 rfl ?_
  rw [show ((5 : Int32) >>> ((0 : Int32) &&& 31)) = (5 : Int32) from by decide]
  show Rn w l _ n0 _ 10 _ [(.int (5 : Int32))] h0 0 0
  exact Rn.retI K rfl d12_10 (by decide) (by decide) ⟨rfl, rfl⟩
theorem d11_0 : decode oC20 0 = .ok (.iconst 0, 1) := by decide +kernel
theorem d11_1 : decode oC20 1 = .ok (.istore 5, 2) := by decide +kernel
theorem d11_3 : decode oC20 3 = .ok (.iload 5, 2) := by decide +kernel
theorem d11_5 : decode oC20 5 = .ok (.iload 4, 2) := by decide +kernel
theorem d11_7 : decode oC20 7 = .ok (.if_icmp .ge 26, 3) := by decide +kernel
theorem d11_10 : decode oC20 10 = .ok (.aload_n 2, 1) := by decide +kernel
theorem d11_11 : decode oC20 11 = .ok (.iload_n 3, 1) := by decide +kernel
theorem d11_12 : decode oC20 12 = .ok (.iinc 3 1, 3) := by decide +kernel
theorem d11_15 : decode oC20 15 = .ok (.aload_n 0, 1) := by decide +kernel
theorem d11_16 : decode oC20 16 = .ok (.iload_n 1, 1) := by decide +kernel
theorem d11_17 : decode oC20 17 = .ok (.iinc 1 1, 3) := by decide +kernel
theorem d11_20 : decode oC20 20 = .ok (.baload, 1) := by decide +kernel
theorem d11_21 : decode oC20 21 = .ok (.sipush 255, 3) := by decide +kernel
theorem d11_24 : decode oC20 24 = .ok (.iand, 1) := by decide +kernel
theorem d11_25 : decode oC20 25 = .ok (.i2c, 1) := by decide +kernel
theorem d11_26 : decode oC20 26 = .ok (.castore, 1) := by decide +kernel
theorem d11_27 : decode oC20 27 = .ok (.iinc 5 1, 3) := by decide +kernel
theorem d11_30 : decode oC20 30 = .ok (.goto (-27), 3) := by decide +kernel
theorem d11_33 : decode oC20 33 = .ok (.return_, 1) := by decide +kernel
theorem pn_m_inf5 : plainName "java/lang/StringLatin1" = true := by first | (simp [plainName, overriddenIn]; done) | decide +kernel
theorem m_inf5 (l : Launch) (Z : State) (a0 : Array Value) (hw : oH Z a0) (n0 : Nat) (h0 : Heap) (v c : Addr) (k kc : ClassId) (x0 x1 x2 x3 x4 : Int32) (X0 : Old Z n0 h0) (Av : Arv Z h0 v k .byte (5 : Int32) [(.int (oB x0)), (.int (oB x1)), (.int (oB x2)), (.int (oB x3)), (.int (oB x4))] oZ) (Ec : Exa Z h0 c "[C") (Ac : Arv Z h0 c kc .char (5 : Int32) [oZ, oZ, oZ, oZ, oZ] oZ) (gc : n0 ≤ c) (hvc : v ≠ c) (cx0 : Chr x0) (cx1 : Chr x1) (cx2 : Chr x2) (cx3 : Chr x3) (cx4 : Chr x4) (hx0 : ¬ (255 : Int32) < x0) (hx1 : ¬ (255 : Int32) < x1) (hx2 : ¬ (255 : Int32) < x2) (hx3 : ¬ (255 : Int32) < x3) (hx4 : ¬ (255 : Int32) < x4) :
    Met l Z oM20 oC20 6 none (oR 0 0 0 0) n0 [] #[(.ref v), oZ, (.ref c), oZ, (.int (5 : Int32))] h0 (fun r h => r = none ∧ Keep h0 h [c] ∧ Arv Z h c kc .char (5 : Int32) [(.int x0), (.int x1), (.int x2), (.int x3), (.int x4)] oZ) := by
  refine Met.intro (Ls := #[.val (.ref v), .val oZ, .val (.ref c), .val oZ, .val (.int (5 : Int32)), .unset]) (plainFor_of_name pn_m_inf5) hw (fun m => by first | (simp [entryFrame, mkF, argsToLocals, Value.category]; done) | rfl) ?_
  intro w K0
  have K : oK20 w Z a0 := K0
  have K1 := Keep.refl h0 [c]
  refine Rn.iconst K (q := 1) (0 : Int32) d11_0 rfl rfl ?_
  refine Rn.istore K (q := 3) (Ls' := #[.val (.ref v), .val oZ, .val (.ref c), .val oZ, .val (.int (5 : Int32)), .val oZ]) d11_1 rfl rfl ?_
  refine Rn.iload K (q := 5) d11_3 rfl rfl ?_
  refine Rn.iload K (q := 7) d11_5 rfl rfl ?_
  refine Rn.icN K (q := 10) d11_7 (XT.ii_ge_f (by decide)) rfl ?_
  refine Rn.aloadN K (q := 11) d11_10 rfl rfl rfl ?_
  refine Rn.iloadN K (q := 12) d11_11 rfl rfl ?_
  refine Rn.iinc K (q := 15) (Ls' := #[.val (.ref v), .val oZ, .val (.ref c), .val (.int (1 : Int32)), .val (.int (5 : Int32)), .val oZ]) (1 : Int32) d11_12 rfl rfl rfl rfl ?_
  refine Rn.aloadN K (q := 16) d11_15 rfl rfl rfl ?_
  refine Rn.iloadN K (q := 17) d11_16 rfl rfl ?_
  refine Rn.iinc K (q := 20) (Ls' := #[.val (.ref v), .val (.int (1 : Int32)), .val (.ref c), .val (.int (1 : Int32)), .val (.int (5 : Int32)), .val oZ]) (1 : Int32) d11_17 rfl rfl rfl rfl ?_
  refine Rn.baloadB K (q := 21) (v := (.int (oB x0))) Av (by decide) rfl d11_20 rfl ?_
  refine Rn.sipush K (q := 24) (255 : Int32) d11_21 rfl rfl ?_
  refine Rn.iand K (q := 25) d11_24 rfl ?_
  refine Rn.i2c K (q := 26) d11_25 rfl ?_
  refine Rn.castore K (q := 27) (i := 0) Ac (by decide) rfl (oL rfl) gc d11_26 rfl ?_
  intro h1 W2 A3
  have f5 := K1.wr W2 (Or.inl (oT 0 rfl))
  have f6 := Av.other W2 hvc
  replace A3 : Arv Z h1 c kc .char (5 : Int32) [(.int (nar .char ((oB x0) &&& (255 : Int32)).toUInt32.toUInt16.toUInt32.toInt32)), oZ, oZ, oZ, oZ] oZ := A3
  refine Rn.iinc K (q := 30) (Ls' := #[.val (.ref v), .val (.int (1 : Int32)), .val (.ref c), .val (.int (1 : Int32)), .val (.int (5 : Int32)), .val (.int (1 : Int32))]) (1 : Int32) d11_27 rfl rfl rfl rfl ?_
  refine Rn.goto K (q := 3) d11_30 (by decide) (by decide) ?_
  refine Rn.iload K (q := 5) d11_3 rfl rfl ?_
  refine Rn.iload K (q := 7) d11_5 rfl rfl ?_
  refine Rn.icN K (q := 10) d11_7 (XT.ii_ge_f (by decide)) rfl ?_
  refine Rn.aloadN K (q := 11) d11_10 rfl rfl rfl ?_
  refine Rn.iloadN K (q := 12) d11_11 rfl rfl ?_
  refine Rn.iinc K (q := 15) (Ls' := #[.val (.ref v), .val (.int (1 : Int32)), .val (.ref c), .val (.int (2 : Int32)), .val (.int (5 : Int32)), .val (.int (1 : Int32))]) (1 : Int32) d11_12 rfl rfl rfl rfl ?_
  refine Rn.aloadN K (q := 16) d11_15 rfl rfl rfl ?_
  refine Rn.iloadN K (q := 17) d11_16 rfl rfl ?_
  refine Rn.iinc K (q := 20) (Ls' := #[.val (.ref v), .val (.int (2 : Int32)), .val (.ref c), .val (.int (2 : Int32)), .val (.int (5 : Int32)), .val (.int (1 : Int32))]) (1 : Int32) d11_17 rfl rfl rfl rfl ?_
  refine Rn.baloadB K (q := 21) (v := (.int (oB x1))) f6 (by decide) rfl d11_20 rfl ?_
  refine Rn.sipush K (q := 24) (255 : Int32) d11_21 rfl rfl ?_
  refine Rn.iand K (q := 25) d11_24 rfl ?_
  refine Rn.i2c K (q := 26) d11_25 rfl ?_
  refine Rn.castore K (q := 27) (i := 1) A3 (by decide) rfl (oL rfl) gc d11_26 rfl ?_
  intro h8 W9 A10
  have f12 := f5.wr W9 (Or.inl (oT 0 rfl))
  have f13 := f6.other W9 hvc
  replace A10 : Arv Z h8 c kc .char (5 : Int32) [(.int (nar .char ((oB x0) &&& (255 : Int32)).toUInt32.toUInt16.toUInt32.toInt32)), (.int (nar .char ((oB x1) &&& (255 : Int32)).toUInt32.toUInt16.toUInt32.toInt32)), oZ, oZ, oZ] oZ := A10
  refine Rn.iinc K (q := 30) (Ls' := #[.val (.ref v), .val (.int (2 : Int32)), .val (.ref c), .val (.int (2 : Int32)), .val (.int (5 : Int32)), .val (.int (2 : Int32))]) (1 : Int32) d11_27 rfl rfl rfl rfl ?_
  refine Rn.goto K (q := 3) d11_30 (by decide) (by decide) ?_
  refine Rn.iload K (q := 5) d11_3 rfl rfl ?_
  refine Rn.iload K (q := 7) d11_5 rfl rfl ?_
  refine Rn.icN K (q := 10) d11_7 (XT.ii_ge_f (by decide)) rfl ?_
  refine Rn.aloadN K (q := 11) d11_10 rfl rfl rfl ?_
  refine Rn.iloadN K (q := 12) d11_11 rfl rfl ?_
  refine Rn.iinc K (q := 15) (Ls' := #[.val (.ref v), .val (.int (2 : Int32)), .val (.ref c), .val (.int (3 : Int32)), .val (.int (5 : Int32)), .val (.int (2 : Int32))]) (1 : Int32) d11_12 rfl rfl rfl rfl ?_
  refine Rn.aloadN K (q := 16) d11_15 rfl rfl rfl ?_
  refine Rn.iloadN K (q := 17) d11_16 rfl rfl ?_
  refine Rn.iinc K (q := 20) (Ls' := #[.val (.ref v), .val (.int (3 : Int32)), .val (.ref c), .val (.int (3 : Int32)), .val (.int (5 : Int32)), .val (.int (2 : Int32))]) (1 : Int32) d11_17 rfl rfl rfl rfl ?_
  refine Rn.baloadB K (q := 21) (v := (.int (oB x2))) f13 (by decide) rfl d11_20 rfl ?_
  refine Rn.sipush K (q := 24) (255 : Int32) d11_21 rfl rfl ?_
  refine Rn.iand K (q := 25) d11_24 rfl ?_
  refine Rn.i2c K (q := 26) d11_25 rfl ?_
  refine Rn.castore K (q := 27) (i := 2) A10 (by decide) rfl (oL rfl) gc d11_26 rfl ?_
  intro h15 W16 A17
  have f19 := f12.wr W16 (Or.inl (oT 0 rfl))
  have f20 := f13.other W16 hvc
  replace A17 : Arv Z h15 c kc .char (5 : Int32) [(.int (nar .char ((oB x0) &&& (255 : Int32)).toUInt32.toUInt16.toUInt32.toInt32)), (.int (nar .char ((oB x1) &&& (255 : Int32)).toUInt32.toUInt16.toUInt32.toInt32)), (.int (nar .char ((oB x2) &&& (255 : Int32)).toUInt32.toUInt16.toUInt32.toInt32)), oZ, oZ] oZ := A17
  refine Rn.iinc K (q := 30) (Ls' := #[.val (.ref v), .val (.int (3 : Int32)), .val (.ref c), .val (.int (3 : Int32)), .val (.int (5 : Int32)), .val (.int (3 : Int32))]) (1 : Int32) d11_27 rfl rfl rfl rfl ?_
  refine Rn.goto K (q := 3) d11_30 (by decide) (by decide) ?_
  refine Rn.iload K (q := 5) d11_3 rfl rfl ?_
  refine Rn.iload K (q := 7) d11_5 rfl rfl ?_
  refine Rn.icN K (q := 10) d11_7 (XT.ii_ge_f (by decide)) rfl ?_
  refine Rn.aloadN K (q := 11) d11_10 rfl rfl rfl ?_
  refine Rn.iloadN K (q := 12) d11_11 rfl rfl ?_
  refine Rn.iinc K (q := 15) (Ls' := #[.val (.ref v), .val (.int (3 : Int32)), .val (.ref c), .val (.int (4 : Int32)), .val (.int (5 : Int32)), .val (.int (3 : Int32))]) (1 : Int32) d11_12 rfl rfl rfl rfl ?_
  refine Rn.aloadN K (q := 16) d11_15 rfl rfl rfl ?_
  refine Rn.iloadN K (q := 17) d11_16 rfl rfl ?_
  refine Rn.iinc K (q := 20) (Ls' := #[.val (.ref v), .val (.int (4 : Int32)), .val (.ref c), .val (.int (4 : Int32)), .val (.int (5 : Int32)), .val (.int (3 : Int32))]) (1 : Int32) d11_17 rfl rfl rfl rfl ?_
  refine Rn.baloadB K (q := 21) (v := (.int (oB x3))) f20 (by decide) rfl d11_20 rfl ?_
  refine Rn.sipush K (q := 24) (255 : Int32) d11_21 rfl rfl ?_
  refine Rn.iand K (q := 25) d11_24 rfl ?_
  refine Rn.i2c K (q := 26) d11_25 rfl ?_
  refine Rn.castore K (q := 27) (i := 3) A17 (by decide) rfl (oL rfl) gc d11_26 rfl ?_
  intro h22 W23 A24
  have f26 := f19.wr W23 (Or.inl (oT 0 rfl))
  have f27 := f20.other W23 hvc
  replace A24 : Arv Z h22 c kc .char (5 : Int32) [(.int (nar .char ((oB x0) &&& (255 : Int32)).toUInt32.toUInt16.toUInt32.toInt32)), (.int (nar .char ((oB x1) &&& (255 : Int32)).toUInt32.toUInt16.toUInt32.toInt32)), (.int (nar .char ((oB x2) &&& (255 : Int32)).toUInt32.toUInt16.toUInt32.toInt32)), (.int (nar .char ((oB x3) &&& (255 : Int32)).toUInt32.toUInt16.toUInt32.toInt32)), oZ] oZ := A24
  refine Rn.iinc K (q := 30) (Ls' := #[.val (.ref v), .val (.int (4 : Int32)), .val (.ref c), .val (.int (4 : Int32)), .val (.int (5 : Int32)), .val (.int (4 : Int32))]) (1 : Int32) d11_27 rfl rfl rfl rfl ?_
  refine Rn.goto K (q := 3) d11_30 (by decide) (by decide) ?_
  refine Rn.iload K (q := 5) d11_3 rfl rfl ?_
  refine Rn.iload K (q := 7) d11_5 rfl rfl ?_
  refine Rn.icN K (q := 10) d11_7 (XT.ii_ge_f (by decide)) rfl ?_
  refine Rn.aloadN K (q := 11) d11_10 rfl rfl rfl ?_
  refine Rn.iloadN K (q := 12) d11_11 rfl rfl ?_
  refine Rn.iinc K (q := 15) (Ls' := #[.val (.ref v), .val (.int (4 : Int32)), .val (.ref c), .val (.int (5 : Int32)), .val (.int (5 : Int32)), .val (.int (4 : Int32))]) (1 : Int32) d11_12 rfl rfl rfl rfl ?_
  refine Rn.aloadN K (q := 16) d11_15 rfl rfl rfl ?_
  refine Rn.iloadN K (q := 17) d11_16 rfl rfl ?_
  refine Rn.iinc K (q := 20) (Ls' := #[.val (.ref v), .val (.int (5 : Int32)), .val (.ref c), .val (.int (5 : Int32)), .val (.int (5 : Int32)), .val (.int (4 : Int32))]) (1 : Int32) d11_17 rfl rfl rfl rfl ?_
  refine Rn.baloadB K (q := 21) (v := (.int (oB x4))) f27 (by decide) rfl d11_20 rfl ?_
  refine Rn.sipush K (q := 24) (255 : Int32) d11_21 rfl rfl ?_
  refine Rn.iand K (q := 25) d11_24 rfl ?_
  refine Rn.i2c K (q := 26) d11_25 rfl ?_
  refine Rn.castore K (q := 27) (i := 4) A24 (by decide) rfl (oL rfl) gc d11_26 rfl ?_
  intro h29 W30 A31
  have f33 := f26.wr W30 (Or.inl (oT 0 rfl))
  replace A31 : Arv Z h29 c kc .char (5 : Int32) [(.int (nar .char ((oB x0) &&& (255 : Int32)).toUInt32.toUInt16.toUInt32.toInt32)), (.int (nar .char ((oB x1) &&& (255 : Int32)).toUInt32.toUInt16.toUInt32.toInt32)), (.int (nar .char ((oB x2) &&& (255 : Int32)).toUInt32.toUInt16.toUInt32.toInt32)), (.int (nar .char ((oB x3) &&& (255 : Int32)).toUInt32.toUInt16.toUInt32.toInt32)), (.int (nar .char ((oB x4) &&& (255 : Int32)).toUInt32.toUInt16.toUInt32.toInt32))] oZ := A31
  refine Rn.iinc K (q := 30) (Ls' := #[.val (.ref v), .val (.int (5 : Int32)), .val (.ref c), .val (.int (5 : Int32)), .val (.int (5 : Int32)), .val (.int (5 : Int32))]) (1 : Int32) d11_27 rfl rfl rfl rfl ?_
  refine Rn.goto K (q := 3) d11_30 (by decide) (by decide) ?_
  refine Rn.iload K (q := 5) d11_3 rfl rfl ?_
  refine Rn.iload K (q := 7) d11_5 rfl rfl ?_
  refine Rn.icY K (q := 33) d11_7 (XT.ii_ge_t (by decide)) (by decide) (by decide) ?_
  exact Rn.retV K rfl d11_33 (by decide) (by decide) ⟨rfl, f33, by have q := A31; rw [own_lo cx0 hx0, own_lo cx1 hx1, own_lo cx2 hx2, own_lo cx3 hx3, own_lo cx4 hx4] at q; exact q⟩
theorem d10_0 : decode oC21 0 = .ok (.aload_n 0, 1) := by decide +kernel
theorem d10_1 : decode oC21 1 = .ok (.arraylength, 1) := by decide +kernel
theorem d10_2 : decode oC21 2 = .ok (.newarray .char, 2) := by decide +kernel
theorem d10_4 : decode oC21 4 = .ok (.astore_n 1, 1) := by decide +kernel
theorem d10_5 : decode oC21 5 = .ok (.aload_n 0, 1) := by decide +kernel
theorem d10_6 : decode oC21 6 = .ok (.iconst 0, 1) := by decide +kernel
theorem d10_7 : decode oC21 7 = .ok (.aload_n 1, 1) := by decide +kernel
theorem d10_8 : decode oC21 8 = .ok (.iconst 0, 1) := by decide +kernel
theorem d10_9 : decode oC21 9 = .ok (.aload_n 0, 1) := by decide +kernel
theorem d10_10 : decode oC21 10 = .ok (.arraylength, 1) := by decide +kernel
theorem d10_11 : decode oC21 11 = .ok (.invokestatic 13, 3) := by decide +kernel
theorem d10_14 : decode oC21 14 = .ok (.aload_n 1, 1) := by decide +kernel
theorem d10_15 : decode oC21 15 = .ok (.areturn, 1) := by decide +kernel
theorem m_ltc5 (l : Launch) (Z : State) (a0 : Array Value) (hw : oH Z a0) (n0 : Nat) (h0 : Heap) (v : Addr) (k : ClassId) (x0 x1 x2 x3 x4 : Int32)  (X0 : Old Z n0 h0) (Av : Arv Z h0 v k .byte (5 : Int32) [(.int (oB x0)), (.int (oB x1)), (.int (oB x2)), (.int (oB x3)), (.int (oB x4))] oZ) (cx0 : Chr x0) (cx1 : Chr x1) (cx2 : Chr x2) (cx3 : Chr x3) (cx4 : Chr x4) (hx0 : ¬ (255 : Int32) < x0) (hx1 : ¬ (255 : Int32) < x1) (hx2 : ¬ (255 : Int32) < x2) (hx3 : ¬ (255 : Int32) < x3) (hx4 : ¬ (255 : Int32) < x4) :
    Met l Z oM21 oC21 2 (some (.array .char)) (oR 1 1 5 17) n0 [] #[(.ref v)] h0 (fun r h => ∃ c k, r = some (.ref c) ∧ h0.size ≤ c ∧ Keep h0 h [] ∧ Exa Z h c "[C" ∧ Arv Z h c k .char (5 : Int32) [(.int x0), (.int x1), (.int x2), (.int x3), (.int x4)] oZ) := by
  refine Met.intro (Ls := #[.val (.ref v), .unset]) (plainFor_of_name pn_m_inf5) hw (fun _ => rfl) ?_
  intro w K0
  have K : oK21 w Z a0 := K0
  have K1 := Keep.refl h0 []
  refine Rn.aloadN K (q := 1) d10_0 rfl rfl rfl ?_
  refine Rn.arraylength K (q := 2) Av d10_1 rfl ?_
  refine Rn.newP K (q := 4) (cap := 5) (oT 9 rfl) (by decide) (by decide) (by decide) (by decide) (by decide) (ad := "[C") (by decide) d10_2 rfl ?_
  intro b1 h2 k4 gb1_ X3 A_b1 EA_b1
  have ne_v_b1 : v ≠ b1 := fun e => absurd Av.lt (by rw [e, gb1_]; exact Nat.lt_irrefl _)
  have g_b1 : n0 ≤ b1 := by rw [gb1_]; exact X0.1 ▸ X0.2.1
  have sz_b1 : h0.size ≤ b1 := by rw [gb1_]; exact K1.1
  have f5 := X0.ext X3
  have f6 := K1.ext X3
  have f7 := Av.ext X3
  replace A_b1 : Arv Z h2 b1 k4 .char (5 : Int32) [oZ, oZ, oZ, oZ, oZ] oZ := A_b1.pad (pad_rep [] oZ 5)
  show Rn w l _ n0 _ 4 _ [(.ref b1)] h2 1 5
  refine Rn.astoreN K (q := 5) (Ls' := #[.val (.ref v), .val (.ref b1)]) d10_4 rfl rfl rfl ?_
  refine Rn.aloadN K (q := 6) d10_5 rfl rfl rfl ?_
  refine Rn.iconst K (q := 7) (0 : Int32) d10_6 rfl rfl ?_
  refine Rn.aloadN K (q := 8) d10_7 rfl rfl rfl ?_
  refine Rn.iconst K (q := 9) (0 : Int32) d10_8 rfl rfl ?_
  refine Rn.aloadN K (q := 10) d10_9 rfl rfl rfl ?_
  refine Rn.arraylength K (q := 11) f7 d10_10 rfl ?_
  refine Rn.stat K (q := 14) (W := 0) (y := oM20) (argsL := [(.ref v), oZ, (.ref b1), oZ, (.int (5 : Int32))]) (rest := []) (oT 66 rfl) (oT 67 rfl) (oT 68 rfl) (oT 64 rfl) (by decide) (m_inf5 l Z a0 hw n0 h2 v b1 k k4 x0 x1 x2 x3 x4 f5 f7 EA_b1 A_b1 g_b1 ne_v_b1 cx0 cx1 cx2 cx3 cx4 hx0 hx1 hx2 hx3 hx4) (by decide) (by decide) rfl (lenOf pd_16 rfl) rfl (oL rfl) d10_11 rfl (by decide) (by decide) ?_
  rintro _ h8 ⟨rfl, K9, A10⟩
  have f12 := f6.trans K9 (allS (Or.inr sz_b1) all0)
  have f14 := EA_b1.keep K9
  show Rn w l _ n0 _ 14 _ [] h8 1 5
  refine Rn.aloadN K (q := 15) d10_14 rfl rfl rfl ?_
  exact Rn.retA K (.array .char) rfl rfl rfl d10_15 (by decide) (by decide) ⟨_, _, rfl, sz_b1, f12, f14, A10⟩
theorem d8_7 : decode oC19 7 = .ok (.aload_n 0, 1) := by decide +kernel
theorem d8_8 : decode oC19 8 = .ok (.getfield 9, 3) := by decide +kernel
theorem d8_11 : decode oC19 11 = .ok (.invokestatic 299, 3) := by decide +kernel
theorem d8_14 : decode oC19 14 = .ok (.goto 10, 3) := by decide +kernel
theorem m_tca5_0 (l : Launch) (Z : State) (a0 : Array Value) (hw : oH Z a0) (n0 : Nat) (h0 : Heap) (s v : Addr) (k : ClassId) (cst : Int32) (x0 x1 x2 x3 x4 : Int32)  (X0 : Old Z n0 h0) (SC : oSC Z cst) (hcs : ¬ cst = 0) (Es : Exa Z h0 s "java/lang/String") (Fv : Fld Z h0 s "java/lang/String" "value" "[B" (.ref v)) (Fc : Fld Z h0 s "java/lang/String" "coder" "B" (.int (0 : Int32))) (Av : Arv Z h0 v k .byte (5 : Int32) [(.int (oB x0)), (.int (oB x1)), (.int (oB x2)), (.int (oB x3)), (.int (oB x4))] oZ) (cx0 : Chr x0) (cx1 : Chr x1) (cx2 : Chr x2) (cx3 : Chr x3) (cx4 : Chr x4) (hx0 : ¬ (255 : Int32) < x0) (hx1 : ¬ (255 : Int32) < x1) (hx2 : ¬ (255 : Int32) < x2) (hx3 : ¬ (255 : Int32) < x3) (hx4 : ¬ (255 : Int32) < x4) :
    Met l Z oM19 oC19 1 (some (.array .char)) (oR 5 1 5 73) n0 [] #[(.ref s)] h0 (fun r h => ∃ c k, r = some (.ref c) ∧ h0.size ≤ c ∧ Keep h0 h [] ∧ Exa Z h c "[C" ∧ Arv Z h c k .char (5 : Int32) [(.int x0), (.int x1), (.int x2), (.int x3), (.int x4)] oZ) := by
  refine Met.intro (Ls := #[.val (.ref s)]) (plainFor_of_name pn_m_iv1_1) hw (fun _ => rfl) ?_
  intro w K0
  have K : oK19 w Z a0 := K0
  refine Rn.aloadN K (q := 1) d8_0 rfl rfl rfl ?_
  refine Rn.virt K (q := 4) (W := 0) (y := oM11) (z := oM11) (b := s) (argsL := []) (rest := []) (oT 56 rfl) (oT 57 rfl) (nfs K (oT 59 rfl)) (oT 59 rfl) (oT 58 rfl) (oT 60 rfl) (oT 8 rfl) (by decide) (m_lat0 l Z a0 hw n0 h0 s cst X0 SC hcs Fc) Es (by decide) (by decide) rfl (lenOf pd_14 rfl) rfl (oL rfl) d8_1 rfl (by decide) (by decide) ?_
  rintro _ _ ⟨rfl, rfl⟩
  show Rn w l _ n0 _ 4 _ [(.int (1 : Int32))] h0 0 0
  refine Rn.ifN K (q := 7) d8_4 (XT.i0_eq_f (by decide)) rfl ?_
  refine Rn.aloadN K (q := 8) d8_7 rfl rfl rfl ?_
  refine Rn.getF K (q := 11) (oT 26 rfl) Via.refl Fv d8_8 rfl ?_
  refine Rn.stat K (q := 14) (W := 0) (y := oM21) (argsL := [(.ref v)]) (rest := []) (oT 62 rfl) (oT 63 rfl) (oT 65 rfl) (oT 64 rfl) (by decide) (m_ltc5 l Z a0 hw n0 h0 v k x0 x1 x2 x3 x4  X0  Av cx0 cx1 cx2 cx3 cx4 hx0 hx1 hx2 hx3 hx4) (by decide) (by decide) rfl (lenOf pd_15 rfl) rfl (oL rfl) d8_11 rfl (by decide) (by decide) ?_
  rintro _ h1 ⟨c, kc, rfl, Q1⟩
  show Rn w l _ n0 _ 14 _ [(.ref c)] h1 1 5
  refine Rn.goto K (q := 24) d8_14 (by decide) (by decide) ?_
  exact Rn.retA K (.array .char) rfl rfl rfl d8_24 (by decide) (by decide) ⟨c, kc, rfl, Q1⟩
theorem m_len4_0 (l : Launch) (Z : State) (a0 : Array Value) (hw : oH Z a0) (n0 : Nat) (h0 : Heap) (s v : Addr) (k : ClassId) (cst : Int32) (x0 x1 x2 x3 : Int32) (X0 : Old Z n0 h0) (SC : oSC Z cst) (hcs : ¬ cst = 0) (Es : Exa Z h0 s "java/lang/String") (Fv : Fld Z h0 s "java/lang/String" "value" "[B" (.ref v)) (Fc : Fld Z h0 s "java/lang/String" "coder" "B" (.int (0 : Int32))) (Av : Arv Z h0 v k .byte (4 : Int32) [(.int (oB x0)), (.int (oB x1)), (.int (oB x2)), (.int (oB x3))] oZ) :
    Met l Z oM12 oC12 1 (some .int) (oR 1 0 0 13) n0 [] #[(.ref s)] h0 (fun v h => v = some (.int (4 : Int32)) ∧ h0 = h) := by
  refine Met.intro (Ls := #[.val (.ref s)]) (plainFor_of_name pn_m_iv1_1) hw (fun _ => rfl) ?_
  intro w K0
  have K : oK12 w Z a0 := K0
  refine Rn.aloadN K (q := 1) d12_0 rfl rfl rfl ?_
  refine Rn.getF K (q := 4) (oT 26 rfl) Via.refl Fv d12_1 rfl ?_
  refine Rn.arraylength K (q := 5) Av d12_4 rfl ?_
  refine Rn.aloadN K (q := 6) d12_5 rfl rfl rfl ?_
  refine Rn.virt K (q := 9) (W := 1) (y := oM10) (z := oM10) (b := s) (argsL := []) (rest := [(.int (4 : Int32))]) (oT 74 rfl) (oT 75 rfl) (nfs K (oT 77 rfl)) (oT 77 rfl) (oT 76 rfl) (oT 78 rfl) (oT 8 rfl) (by decide) (m_cod0 l Z a0 hw n0 h0 s cst X0 SC hcs Fc) Es (by decide) (by decide) rfl (lenOf pd_8 rfl) rfl (oL rfl) d12_6 rfl (by decide) (by decide) ?_
  rintro _ _ ⟨rfl, rfl⟩
  show Rn w l _ n0 _ 9 _ [oZ, (.int (4 : Int32))] h0 0 0
  refine Rn.ishr K (q := 10) d12_9 rfl ?_
  rw [show ((4 : Int32) >>> ((0 : Int32) &&& 31)) = (4 : Int32) from by decide]
  show Rn w l _ n0 _ 10 _ [(.int (4 : Int32))] h0 0 0
  exact Rn.retI K rfl d12_10 (by decide) (by decide) ⟨rfl, rfl⟩
theorem m_inf4 (l : Launch) (Z : State) (a0 : Array Value) (hw : oH Z a0) (n0 : Nat) (h0 : Heap) (v c : Addr) (k kc : ClassId) (x0 x1 x2 x3 : Int32) (X0 : Old Z n0 h0) (Av : Arv Z h0 v k .byte (4 : Int32) [(.int (oB x0)), (.int (oB x1)), (.int (oB x2)), (.int (oB x3))] oZ) (Ec : Exa Z h0 c "[C") (Ac : Arv Z h0 c kc .char (4 : Int32) [oZ, oZ, oZ, oZ] oZ) (gc : n0 ≤ c) (hvc : v ≠ c) (cx0 : Chr x0) (cx1 : Chr x1) (cx2 : Chr x2) (cx3 : Chr x3) (hx0 : ¬ (255 : Int32) < x0) (hx1 : ¬ (255 : Int32) < x1) (hx2 : ¬ (255 : Int32) < x2) (hx3 : ¬ (255 : Int32) < x3) :
    Met l Z oM20 oC20 6 none (oR 0 0 0 0) n0 [] #[(.ref v), oZ, (.ref c), oZ, (.int (4 : Int32))] h0 (fun r h => r = none ∧ Keep h0 h [c] ∧ Arv Z h c kc .char (4 : Int32) [(.int x0), (.int x1), (.int x2), (.int x3)] oZ) := by
  refine Met.intro (Ls := #[.val (.ref v), .val oZ, .val (.ref c), .val oZ, .val (.int (4 : Int32)), .unset]) (plainFor_of_name pn_m_inf5) hw (fun m => by first | (simp [entryFrame, mkF, argsToLocals, Value.category]; done) | rfl) ?_
  intro w K0
  have K : oK20 w Z a0 := K0
  have K1 := Keep.refl h0 [c]
  refine Rn.iconst K (q := 1) (0 : Int32) d11_0 rfl rfl ?_
  refine Rn.istore K (q := 3) (Ls' := #[.val (.ref v), .val oZ, .val (.ref c), .val oZ, .val (.int (4 : Int32)), .val oZ]) d11_1 rfl rfl ?_
  refine Rn.iload K (q := 5) d11_3 rfl rfl ?_
  refine Rn.iload K (q := 7) d11_5 rfl rfl ?_
  refine Rn.icN K (q := 10) d11_7 (XT.ii_ge_f (by decide)) rfl ?_
  refine Rn.aloadN K (q := 11) d11_10 rfl rfl rfl ?_
  refine Rn.iloadN K (q := 12) d11_11 rfl rfl ?_
  refine Rn.iinc K (q := 15) (Ls' := #[.val (.ref v), .val oZ, .val (.ref c), .val (.int (1 : Int32)), .val (.int (4 : Int32)), .val oZ]) (1 : Int32) d11_12 rfl rfl rfl rfl ?_
  refine Rn.aloadN K (q := 16) d11_15 rfl rfl rfl ?_
  refine Rn.iloadN K (q := 17) d11_16 rfl rfl ?_
  refine Rn.iinc K (q := 20) (Ls' := #[.val (.ref v), .val (.int (1 : Int32)), .val (.ref c), .val (.int (1 : Int32)), .val (.int (4 : Int32)), .val oZ]) (1 : Int32) d11_17 rfl rfl rfl rfl ?_
  refine Rn.baloadB K (q := 21) (v := (.int (oB x0))) Av (by decide) rfl d11_20 rfl ?_
  refine Rn.sipush K (q := 24) (255 : Int32) d11_21 rfl rfl ?_
  refine Rn.iand K (q := 25) d11_24 rfl ?_
  refine Rn.i2c K (q := 26) d11_25 rfl ?_
  refine Rn.castore K (q := 27) (i := 0) Ac (by decide) rfl (oL rfl) gc d11_26 rfl ?_
  intro h1 W2 A3
  have f5 := K1.wr W2 (Or.inl (oT 0 rfl))
  have f6 := Av.other W2 hvc
  replace A3 : Arv Z h1 c kc .char (4 : Int32) [(.int (nar .char ((oB x0) &&& (255 : Int32)).toUInt32.toUInt16.toUInt32.toInt32)), oZ, oZ, oZ] oZ := A3
  refine Rn.iinc K (q := 30) (Ls' := #[.val (.ref v), .val (.int (1 : Int32)), .val (.ref c), .val (.int (1 : Int32)), .val (.int (4 : Int32)), .val (.int (1 : Int32))]) (1 : Int32) d11_27 rfl rfl rfl rfl ?_
  refine Rn.goto K (q := 3) d11_30 (by decide) (by decide) ?_
  refine Rn.iload K (q := 5) d11_3 rfl rfl ?_
  refine Rn.iload K (q := 7) d11_5 rfl rfl ?_
  refine Rn.icN K (q := 10) d11_7 (XT.ii_ge_f (by decide)) rfl ?_
  refine Rn.aloadN K (q := 11) d11_10 rfl rfl rfl ?_
  refine Rn.iloadN K (q := 12) d11_11 rfl rfl ?_
  refine Rn.iinc K (q := 15) (Ls' := #[.val (.ref v), .val (.int (1 : Int32)), .val (.ref c), .val (.int (2 : Int32)), .val (.int (4 : Int32)), .val (.int (1 : Int32))]) (1 : Int32) d11_12 rfl rfl rfl rfl ?_
  refine Rn.aloadN K (q := 16) d11_15 rfl rfl rfl ?_
  refine Rn.iloadN K (q := 17) d11_16 rfl rfl ?_
  refine Rn.iinc K (q := 20) (Ls' := #[.val (.ref v), .val (.int (2 : Int32)), .val (.ref c), .val (.int (2 : Int32)), .val (.int (4 : Int32)), .val (.int (1 : Int32))]) (1 : Int32) d11_17 rfl rfl rfl rfl ?_
  refine Rn.baloadB K (q := 21) (v := (.int (oB x1))) f6 (by decide) rfl d11_20 rfl ?_
  refine Rn.sipush K (q := 24) (255 : Int32) d11_21 rfl rfl ?_
  refine Rn.iand K (q := 25) d11_24 rfl ?_
  refine Rn.i2c K (q := 26) d11_25 rfl ?_
  refine Rn.castore K (q := 27) (i := 1) A3 (by decide) rfl (oL rfl) gc d11_26 rfl ?_
  intro h8 W9 A10
  have f12 := f5.wr W9 (Or.inl (oT 0 rfl))
  have f13 := f6.other W9 hvc
  replace A10 : Arv Z h8 c kc .char (4 : Int32) [(.int (nar .char ((oB x0) &&& (255 : Int32)).toUInt32.toUInt16.toUInt32.toInt32)), (.int (nar .char ((oB x1) &&& (255 : Int32)).toUInt32.toUInt16.toUInt32.toInt32)), oZ, oZ] oZ := A10
  refine Rn.iinc K (q := 30) (Ls' := #[.val (.ref v), .val (.int (2 : Int32)), .val (.ref c), .val (.int (2 : Int32)), .val (.int (4 : Int32)), .val (.int (2 : Int32))]) (1 : Int32) d11_27 rfl rfl rfl rfl ?_
  refine Rn.goto K (q := 3) d11_30 (by decide) (by decide) ?_
  refine Rn.iload K (q := 5) d11_3 rfl rfl ?_
  refine Rn.iload K (q := 7) d11_5 rfl rfl ?_
  refine Rn.icN K (q := 10) d11_7 (XT.ii_ge_f (by decide)) rfl ?_
  refine Rn.aloadN K (q := 11) d11_10 rfl rfl rfl ?_
  refine Rn.iloadN K (q := 12) d11_11 rfl rfl ?_
  refine Rn.iinc K (q := 15) (Ls' := #[.val (.ref v), .val (.int (2 : Int32)), .val (.ref c), .val (.int (3 : Int32)), .val (.int (4 : Int32)), .val (.int (2 : Int32))]) (1 : Int32) d11_12 rfl rfl rfl rfl ?_
  refine Rn.aloadN K (q := 16) d11_15 rfl rfl rfl ?_
  refine Rn.iloadN K (q := 17) d11_16 rfl rfl ?_
  refine Rn.iinc K (q := 20) (Ls' := #[.val (.ref v), .val (.int (3 : Int32)), .val (.ref c), .val (.int (3 : Int32)), .val (.int (4 : Int32)), .val (.int (2 : Int32))]) (1 : Int32) d11_17 rfl rfl rfl rfl ?_
  refine Rn.baloadB K (q := 21) (v := (.int (oB x2))) f13 (by decide) rfl d11_20 rfl ?_
  refine Rn.sipush K (q := 24) (255 : Int32) d11_21 rfl rfl ?_
  refine Rn.iand K (q := 25) d11_24 rfl ?_
  refine Rn.i2c K (q := 26) d11_25 rfl ?_
  refine Rn.castore K (q := 27) (i := 2) A10 (by decide) rfl (oL rfl) gc d11_26 rfl ?_
  intro h15 W16 A17
  have f19 := f12.wr W16 (Or.inl (oT 0 rfl))
  have f20 := f13.other W16 hvc
  replace A17 : Arv Z h15 c kc .char (4 : Int32) [(.int (nar .char ((oB x0) &&& (255 : Int32)).toUInt32.toUInt16.toUInt32.toInt32)), (.int (nar .char ((oB x1) &&& (255 : Int32)).toUInt32.toUInt16.toUInt32.toInt32)), (.int (nar .char ((oB x2) &&& (255 : Int32)).toUInt32.toUInt16.toUInt32.toInt32)), oZ] oZ := A17
  refine Rn.iinc K (q := 30) (Ls' := #[.val (.ref v), .val (.int (3 : Int32)), .val (.ref c), .val (.int (3 : Int32)), .val (.int (4 : Int32)), .val (.int (3 : Int32))]) (1 : Int32) d11_27 rfl rfl rfl rfl ?_
  refine Rn.goto K (q := 3) d11_30 (by decide) (by decide) ?_
  refine Rn.iload K (q := 5) d11_3 rfl rfl ?_
  refine Rn.iload K (q := 7) d11_5 rfl rfl ?_
  refine Rn.icN K (q := 10) d11_7 (XT.ii_ge_f (by decide)) rfl ?_
  refine Rn.aloadN K (q := 11) d11_10 rfl rfl rfl ?_
  refine Rn.iloadN K (q := 12) d11_11 rfl rfl ?_
  refine Rn.iinc K (q := 15) (Ls' := #[.val (.ref v), .val (.int (3 : Int32)), .val (.ref c), .val (.int (4 : Int32)), .val (.int (4 : Int32)), .val (.int (3 : Int32))]) (1 : Int32) d11_12 rfl rfl rfl rfl ?_
  refine Rn.aloadN K (q := 16) d11_15 rfl rfl rfl ?_
  refine Rn.iloadN K (q := 17) d11_16 rfl rfl ?_
  refine Rn.iinc K (q := 20) (Ls' := #[.val (.ref v), .val (.int (4 : Int32)), .val (.ref c), .val (.int (4 : Int32)), .val (.int (4 : Int32)), .val (.int (3 : Int32))]) (1 : Int32) d11_17 rfl rfl rfl rfl ?_
  refine Rn.baloadB K (q := 21) (v := (.int (oB x3))) f20 (by decide) rfl d11_20 rfl ?_
  refine Rn.sipush K (q := 24) (255 : Int32) d11_21 rfl rfl ?_
  refine Rn.iand K (q := 25) d11_24 rfl ?_
  refine Rn.i2c K (q := 26) d11_25 rfl ?_
  refine Rn.castore K (q := 27) (i := 3) A17 (by decide) rfl (oL rfl) gc d11_26 rfl ?_
  intro h22 W23 A24
  have f26 := f19.wr W23 (Or.inl (oT 0 rfl))
  replace A24 : Arv Z h22 c kc .char (4 : Int32) [(.int (nar .char ((oB x0) &&& (255 : Int32)).toUInt32.toUInt16.toUInt32.toInt32)), (.int (nar .char ((oB x1) &&& (255 : Int32)).toUInt32.toUInt16.toUInt32.toInt32)), (.int (nar .char ((oB x2) &&& (255 : Int32)).toUInt32.toUInt16.toUInt32.toInt32)), (.int (nar .char ((oB x3) &&& (255 : Int32)).toUInt32.toUInt16.toUInt32.toInt32))] oZ := A24
  refine Rn.iinc K (q := 30) (Ls' := #[.val (.ref v), .val (.int (4 : Int32)), .val (.ref c), .val (.int (4 : Int32)), .val (.int (4 : Int32)), .val (.int (4 : Int32))]) (1 : Int32) d11_27 rfl rfl rfl rfl ?_
  refine Rn.goto K (q := 3) d11_30 (by decide) (by decide) ?_
  refine Rn.iload K (q := 5) d11_3 rfl rfl ?_
  refine Rn.iload K (q := 7) d11_5 rfl rfl ?_
  refine Rn.icY K (q := 33) d11_7 (XT.ii_ge_t (by decide)) (by decide) (by decide) ?_
  exact Rn.retV K rfl d11_33 (by decide) (by decide) ⟨rfl, f26, by have q := A24; rw [own_lo cx0 hx0, own_lo cx1 hx1, own_lo cx2 hx2, own_lo cx3 hx3] at q; exact q⟩
theorem m_ltc4 (l : Launch) (Z : State) (a0 : Array Value) (hw : oH Z a0) (n0 : Nat) (h0 : Heap) (v : Addr) (k : ClassId) (x0 x1 x2 x3 : Int32)  (X0 : Old Z n0 h0) (Av : Arv Z h0 v k .byte (4 : Int32) [(.int (oB x0)), (.int (oB x1)), (.int (oB x2)), (.int (oB x3))] oZ) (cx0 : Chr x0) (cx1 : Chr x1) (cx2 : Chr x2) (cx3 : Chr x3) (hx0 : ¬ (255 : Int32) < x0) (hx1 : ¬ (255 : Int32) < x1) (hx2 : ¬ (255 : Int32) < x2) (hx3 : ¬ (255 : Int32) < x3) :
    Met l Z oM21 oC21 2 (some (.array .char)) (oR 1 1 4 17) n0 [] #[(.ref v)] h0 (fun r h => ∃ c k, r = some (.ref c) ∧ h0.size ≤ c ∧ Keep h0 h [] ∧ Exa Z h c "[C" ∧ Arv Z h c k .char (4 : Int32) [(.int x0), (.int x1), (.int x2), (.int x3)] oZ) := by
  refine Met.intro (Ls := #[.val (.ref v), .unset]) (plainFor_of_name pn_m_inf5) hw (fun _ => rfl) ?_
  intro w K0
  have K : oK21 w Z a0 := K0
  have K1 := Keep.refl h0 []
  refine Rn.aloadN K (q := 1) d10_0 rfl rfl rfl ?_
  refine Rn.arraylength K (q := 2) Av d10_1 rfl ?_
  refine Rn.newP K (q := 4) (cap := 4) (oT 9 rfl) (by decide) (by decide) (by decide) (by decide) (by decide) (ad := "[C") (by decide) d10_2 rfl ?_
  intro b1 h2 k4 gb1_ X3 A_b1 EA_b1
  have ne_v_b1 : v ≠ b1 := fun e => absurd Av.lt (by rw [e, gb1_]; exact Nat.lt_irrefl _)
  have g_b1 : n0 ≤ b1 := by rw [gb1_]; exact X0.1 ▸ X0.2.1
  have sz_b1 : h0.size ≤ b1 := by rw [gb1_]; exact K1.1
  have f5 := X0.ext X3
  have f6 := K1.ext X3
  have f7 := Av.ext X3
  replace A_b1 : Arv Z h2 b1 k4 .char (4 : Int32) [oZ, oZ, oZ, oZ] oZ := A_b1.pad (pad_rep [] oZ 4)
  show Rn w l _ n0 _ 4 _ [(.ref b1)] h2 1 4
  refine Rn.astoreN K (q := 5) (Ls' := #[.val (.ref v), .val (.ref b1)]) d10_4 rfl rfl rfl ?_
  refine Rn.aloadN K (q := 6) d10_5 rfl rfl rfl ?_
  refine Rn.iconst K (q := 7) (0 : Int32) d10_6 rfl rfl ?_
  refine Rn.aloadN K (q := 8) d10_7 rfl rfl rfl ?_
  refine Rn.iconst K (q := 9) (0 : Int32) d10_8 rfl rfl ?_
  refine Rn.aloadN K (q := 10) d10_9 rfl rfl rfl ?_
  refine Rn.arraylength K (q := 11) f7 d10_10 rfl ?_
  refine Rn.stat K (q := 14) (W := 0) (y := oM20) (argsL := [(.ref v), oZ, (.ref b1), oZ, (.int (4 : Int32))]) (rest := []) (oT 66 rfl) (oT 67 rfl) (oT 68 rfl) (oT 64 rfl) (by decide) (m_inf4 l Z a0 hw n0 h2 v b1 k k4 x0 x1 x2 x3 f5 f7 EA_b1 A_b1 g_b1 ne_v_b1 cx0 cx1 cx2 cx3 hx0 hx1 hx2 hx3) (by decide) (by decide) rfl (lenOf pd_16 rfl) rfl (oL rfl) d10_11 rfl (by decide) (by decide) ?_
  rintro _ h8 ⟨rfl, K9, A10⟩
  have f12 := f6.trans K9 (allS (Or.inr sz_b1) all0)
  have f14 := EA_b1.keep K9
  show Rn w l _ n0 _ 14 _ [] h8 1 4
  refine Rn.aloadN K (q := 15) d10_14 rfl rfl rfl ?_
  exact Rn.retA K (.array .char) rfl rfl rfl d10_15 (by decide) (by decide) ⟨_, _, rfl, sz_b1, f12, f14, A10⟩
theorem m_tca4_0 (l : Launch) (Z : State) (a0 : Array Value) (hw : oH Z a0) (n0 : Nat) (h0 : Heap) (s v : Addr) (k : ClassId) (cst : Int32) (x0 x1 x2 x3 : Int32)  (X0 : Old Z n0 h0) (SC : oSC Z cst) (hcs : ¬ cst = 0) (Es : Exa Z h0 s "java/lang/String") (Fv : Fld Z h0 s "java/lang/String" "value" "[B" (.ref v)) (Fc : Fld Z h0 s "java/lang/String" "coder" "B" (.int (0 : Int32))) (Av : Arv Z h0 v k .byte (4 : Int32) [(.int (oB x0)), (.int (oB x1)), (.int (oB x2)), (.int (oB x3))] oZ) (cx0 : Chr x0) (cx1 : Chr x1) (cx2 : Chr x2) (cx3 : Chr x3) (hx0 : ¬ (255 : Int32) < x0) (hx1 : ¬ (255 : Int32) < x1) (hx2 : ¬ (255 : Int32) < x2) (hx3 : ¬ (255 : Int32) < x3) :
    Met l Z oM19 oC19 1 (some (.array .char)) (oR 5 1 5 73) n0 [] #[(.ref s)] h0 (fun r h => ∃ c k, r = some (.ref c) ∧ h0.size ≤ c ∧ Keep h0 h [] ∧ Exa Z h c "[C" ∧ Arv Z h c k .char (4 : Int32) [(.int x0), (.int x1), (.int x2), (.int x3)] oZ) := by
  refine Met.intro (Ls := #[.val (.ref s)]) (plainFor_of_name pn_m_iv1_1) hw (fun _ => rfl) ?_
  intro w K0
  have K : oK19 w Z a0 := K0
  refine Rn.aloadN K (q := 1) d8_0 rfl rfl rfl ?_
  refine Rn.virt K (q := 4) (W := 0) (y := oM11) (z := oM11) (b := s) (argsL := []) (rest := []) (oT 56 rfl) (oT 57 rfl) (nfs K (oT 59 rfl)) (oT 59 rfl) (oT 58 rfl) (oT 60 rfl) (oT 8 rfl) (by decide) (m_lat0 l Z a0 hw n0 h0 s cst X0 SC hcs Fc) Es (by decide) (by decide) rfl (lenOf pd_14 rfl) rfl (oL rfl) d8_1 rfl (by decide) (by decide) ?_
  rintro _ _ ⟨rfl, rfl⟩
  show Rn w l _ n0 _ 4 _ [(.int (1 : Int32))] h0 0 0
  refine Rn.ifN K (q := 7) d8_4 (XT.i0_eq_f (by decide)) rfl ?_
  refine Rn.aloadN K (q := 8) d8_7 rfl rfl rfl ?_
  refine Rn.getF K (q := 11) (oT 26 rfl) Via.refl Fv d8_8 rfl ?_
  refine Rn.stat K (q := 14) (W := 0) (y := oM21) (argsL := [(.ref v)]) (rest := []) (oT 62 rfl) (oT 63 rfl) (oT 65 rfl) (oT 64 rfl) (by decide) (m_ltc4 l Z a0 hw n0 h0 v k x0 x1 x2 x3  X0  Av cx0 cx1 cx2 cx3 hx0 hx1 hx2 hx3) (by decide) (by decide) rfl (lenOf pd_15 rfl) rfl (oL rfl) d8_11 rfl (by decide) (by decide) ?_
  rintro _ h1 ⟨c, kc, rfl, Q1⟩
  show Rn w l _ n0 _ 14 _ [(.ref c)] h1 1 4
  refine Rn.goto K (q := 24) d8_14 (by decide) (by decide) ?_
  exact Rn.retA K (.array .char) rfl rfl rfl d8_24 (by decide) (by decide) ⟨c, kc, rfl, Q1⟩
theorem m_len3_0 (l : Launch) (Z : State) (a0 : Array Value) (hw : oH Z a0) (n0 : Nat) (h0 : Heap) (s v : Addr) (k : ClassId) (cst : Int32) (x0 x1 x2 : Int32) (X0 : Old Z n0 h0) (SC : oSC Z cst) (hcs : ¬ cst = 0) (Es : Exa Z h0 s "java/lang/String") (Fv : Fld Z h0 s "java/lang/String" "value" "[B" (.ref v)) (Fc : Fld Z h0 s "java/lang/String" "coder" "B" (.int (0 : Int32))) (Av : Arv Z h0 v k .byte (3 : Int32) [(.int (oB x0)), (.int (oB x1)), (.int (oB x2))] oZ) :
    Met l Z oM12 oC12 1 (some .int) (oR 1 0 0 13) n0 [] #[(.ref s)] h0 (fun v h => v = some (.int (3 : Int32)) ∧ h0 = h) := by
  refine Met.intro (Ls := #[.val (.ref s)]) (plainFor_of_name pn_m_iv1_1) hw (fun _ => rfl) ?_
  intro w K0
  have K : oK12 w Z a0 := K0
  refine Rn.aloadN K (q := 1) d12_0 rfl rfl rfl ?_
  refine Rn.getF K (q := 4) (oT 26 rfl) Via.refl Fv d12_1 rfl ?_
  refine Rn.arraylength K (q := 5) Av d12_4 rfl ?_
  refine Rn.aloadN K (q := 6) d12_5 rfl rfl rfl ?_
  refine Rn.virt K (q := 9) (W := 1) (y := oM10) (z := oM10) (b := s) (argsL := []) (rest := [(.int (3 : Int32))]) (oT 74 rfl) (oT 75 rfl) (nfs K (oT 77 rfl)) (oT 77 rfl) (oT 76 rfl) (oT 78 rfl) (oT 8 rfl) (by decide) (m_cod0 l Z a0 hw n0 h0 s cst X0 SC hcs Fc) Es (by decide) (by decide) rfl (lenOf pd_8 rfl) rfl (oL rfl) d12_6 rfl (by decide) (by decide) ?_
  rintro _ _ ⟨rfl, rfl⟩
  show Rn w l _ n0 _ 9 _ [oZ, (.int (3 : Int32))] h0 0 0
  refine Rn.ishr K (q := 10) d12_9 rfl ?_
  rw [show ((3 : Int32) >>> ((0 : Int32) &&& 31)) = (3 : Int32) from by decide]
  show Rn w l _ n0 _ 10 _ [(.int (3 : Int32))] h0 0 0
  exact Rn.retI K rfl d12_10 (by decide) (by decide) ⟨rfl, rfl⟩
theorem m_inf3 (l : Launch) (Z : State) (a0 : Array Value) (hw : oH Z a0) (n0 : Nat) (h0 : Heap) (v c : Addr) (k kc : ClassId) (x0 x1 x2 : Int32) (X0 : Old Z n0 h0) (Av : Arv Z h0 v k .byte (3 : Int32) [(.int (oB x0)), (.int (oB x1)), (.int (oB x2))] oZ) (Ec : Exa Z h0 c "[C") (Ac : Arv Z h0 c kc .char (3 : Int32) [oZ, oZ, oZ] oZ) (gc : n0 ≤ c) (hvc : v ≠ c) (cx0 : Chr x0) (cx1 : Chr x1) (cx2 : Chr x2) (hx0 : ¬ (255 : Int32) < x0) (hx1 : ¬ (255 : Int32) < x1) (hx2 : ¬ (255 : Int32) < x2) :
    Met l Z oM20 oC20 6 none (oR 0 0 0 0) n0 [] #[(.ref v), oZ, (.ref c), oZ, (.int (3 : Int32))] h0 (fun r h => r = none ∧ Keep h0 h [c] ∧ Arv Z h c kc .char (3 : Int32) [(.int x0), (.int x1), (.int x2)] oZ) := by
  refine Met.intro (Ls := #[.val (.ref v), .val oZ, .val (.ref c), .val oZ, .val (.int (3 : Int32)), .unset]) (plainFor_of_name pn_m_inf5) hw (fun m => by first | (simp [entryFrame, mkF, argsToLocals, Value.category]; done) | rfl) ?_
  intro w K0
  have K : oK20 w Z a0 := K0
  have K1 := Keep.refl h0 [c]
  refine Rn.iconst K (q := 1) (0 : Int32) d11_0 rfl rfl ?_
  refine Rn.istore K (q := 3) (Ls' := #[.val (.ref v), .val oZ, .val (.ref c), .val oZ, .val (.int (3 : Int32)), .val oZ]) d11_1 rfl rfl ?_
  refine Rn.iload K (q := 5) d11_3 rfl rfl ?_
  refine Rn.iload K (q := 7) d11_5 rfl rfl ?_
  refine Rn.icN K (q := 10) d11_7 (XT.ii_ge_f (by decide)) rfl ?_
  refine Rn.aloadN K (q := 11) d11_10 rfl rfl rfl ?_
  refine Rn.iloadN K (q := 12) d11_11 rfl rfl ?_
  refine Rn.iinc K (q := 15) (Ls' := #[.val (.ref v), .val oZ, .val (.ref c), .val (.int (1 : Int32)), .val (.int (3 : Int32)), .val oZ]) (1 : Int32) d11_12 rfl rfl rfl rfl ?_
  refine Rn.aloadN K (q := 16) d11_15 rfl rfl rfl ?_
  refine Rn.iloadN K (q := 17) d11_16 rfl rfl ?_
  refine Rn.iinc K (q := 20) (Ls' := #[.val (.ref v), .val (.int (1 : Int32)), .val (.ref c), .val (.int (1 : Int32)), .val (.int (3 : Int32)), .val oZ]) (1 : Int32) d11_17 rfl rfl rfl rfl ?_
  refine Rn.baloadB K (q := 21) (v := (.int (oB x0))) Av (by decide) rfl d11_20 rfl ?_
  refine Rn.sipush K (q := 24) (255 : Int32) d11_21 rfl rfl ?_
  refine Rn.iand K (q := 25) d11_24 rfl ?_
  refine Rn.i2c K (q := 26) d11_25 rfl ?_
  refine Rn.castore K (q := 27) (i := 0) Ac (by decide) rfl (oL rfl) gc d11_26 rfl ?_
  intro h1 W2 A3
  have f5 := K1.wr W2 (Or.inl (oT 0 rfl))
  have f6 := Av.other W2 hvc
  replace A3 : Arv Z h1 c kc .char (3 : Int32) [(.int (nar .char ((oB x0) &&& (255 : Int32)).toUInt32.toUInt16.toUInt32.toInt32)), oZ, oZ] oZ := A3
  refine Rn.iinc K (q := 30) (Ls' := #[.val (.ref v), .val (.int (1 : Int32)), .val (.ref c), .val (.int (1 : Int32)), .val (.int (3 : Int32)), .val (.int (1 : Int32))]) (1 : Int32) d11_27 rfl rfl rfl rfl ?_
  refine Rn.goto K (q := 3) d11_30 (by decide) (by decide) ?_
  refine Rn.iload K (q := 5) d11_3 rfl rfl ?_
  refine Rn.iload K (q := 7) d11_5 rfl rfl ?_
  refine Rn.icN K (q := 10) d11_7 (XT.ii_ge_f (by decide)) rfl ?_
  refine Rn.aloadN K (q := 11) d11_10 rfl rfl rfl ?_
  refine Rn.iloadN K (q := 12) d11_11 rfl rfl ?_
  refine Rn.iinc K (q := 15) (Ls' := #[.val (.ref v), .val (.int (1 : Int32)), .val (.ref c), .val (.int (2 : Int32)), .val (.int (3 : Int32)), .val (.int (1 : Int32))]) (1 : Int32) d11_12 rfl rfl rfl rfl ?_
  refine Rn.aloadN K (q := 16) d11_15 rfl rfl rfl ?_
  refine Rn.iloadN K (q := 17) d11_16 rfl rfl ?_
  refine Rn.iinc K (q := 20) (Ls' := #[.val (.ref v), .val (.int (2 : Int32)), .val (.ref c), .val (.int (2 : Int32)), .val (.int (3 : Int32)), .val (.int (1 : Int32))]) (1 : Int32) d11_17 rfl rfl rfl rfl ?_
  refine Rn.baloadB K (q := 21) (v := (.int (oB x1))) f6 (by decide) rfl d11_20 rfl ?_
  refine Rn.sipush K (q := 24) (255 : Int32) d11_21 rfl rfl ?_
  refine Rn.iand K (q := 25) d11_24 rfl ?_
  refine Rn.i2c K (q := 26) d11_25 rfl ?_
  refine Rn.castore K (q := 27) (i := 1) A3 (by decide) rfl (oL rfl) gc d11_26 rfl ?_
  intro h8 W9 A10
  have f12 := f5.wr W9 (Or.inl (oT 0 rfl))
  have f13 := f6.other W9 hvc
  replace A10 : Arv Z h8 c kc .char (3 : Int32) [(.int (nar .char ((oB x0) &&& (255 : Int32)).toUInt32.toUInt16.toUInt32.toInt32)), (.int (nar .char ((oB x1) &&& (255 : Int32)).toUInt32.toUInt16.toUInt32.toInt32)), oZ] oZ := A10
  refine Rn.iinc K (q := 30) (Ls' := #[.val (.ref v), .val (.int (2 : Int32)), .val (.ref c), .val (.int (2 : Int32)), .val (.int (3 : Int32)), .val (.int (2 : Int32))]) (1 : Int32) d11_27 rfl rfl rfl rfl ?_
  refine Rn.goto K (q := 3) d11_30 (by decide) (by decide) ?_
  refine Rn.iload K (q := 5) d11_3 rfl rfl ?_
  refine Rn.iload K (q := 7) d11_5 rfl rfl ?_
  refine Rn.icN K (q := 10) d11_7 (XT.ii_ge_f (by decide)) rfl ?_
  refine Rn.aloadN K (q := 11) d11_10 rfl rfl rfl ?_
  refine Rn.iloadN K (q := 12) d11_11 rfl rfl ?_
  refine Rn.iinc K (q := 15) (Ls' := #[.val (.ref v), .val (.int (2 : Int32)), .val (.ref c), .val (.int (3 : Int32)), .val (.int (3 : Int32)), .val (.int (2 : Int32))]) (1 : Int32) d11_12 rfl rfl rfl rfl ?_
  refine Rn.aloadN K (q := 16) d11_15 rfl rfl rfl ?_
  refine Rn.iloadN K (q := 17) d11_16 rfl rfl ?_
  refine Rn.iinc K (q := 20) (Ls' := #[.val (.ref v), .val (.int (3 : Int32)), .val (.ref c), .val (.int (3 : Int32)), .val (.int (3 : Int32)), .val (.int (2 : Int32))]) (1 : Int32) d11_17 rfl rfl rfl rfl ?_
  refine Rn.baloadB K (q := 21) (v := (.int (oB x2))) f13 (by decide) rfl d11_20 rfl ?_
  refine Rn.sipush K (q := 24) (255 : Int32) d11_21 rfl rfl ?_
  refine Rn.iand K (q := 25) d11_24 rfl ?_
  refine Rn.i2c K (q := 26) d11_25 rfl ?_
  refine Rn.castore K (q := 27) (i := 2) A10 (by decide) rfl (oL rfl) gc d11_26 rfl ?_
  intro h15 W16 A17
  have f19 := f12.wr W16 (Or.inl (oT 0 rfl))
  replace A17 : Arv Z h15 c kc .char (3 : Int32) [(.int (nar .char ((oB x0) &&& (255 : Int32)).toUInt32.toUInt16.toUInt32.toInt32)), (.int (nar .char ((oB x1) &&& (255 : Int32)).toUInt32.toUInt16.toUInt32.toInt32)), (.int (nar .char ((oB x2) &&& (255 : Int32)).toUInt32.toUInt16.toUInt32.toInt32))] oZ := A17
  refine Rn.iinc K (q := 30) (Ls' := #[.val (.ref v), .val (.int (3 : Int32)), .val (.ref c), .val (.int (3 : Int32)), .val (.int (3 : Int32)), .val (.int (3 : Int32))]) (1 : Int32) d11_27 rfl rfl rfl rfl ?_
  refine Rn.goto K (q := 3) d11_30 (by decide) (by decide) ?_
  refine Rn.iload K (q := 5) d11_3 rfl rfl ?_
  refine Rn.iload K (q := 7) d11_5 rfl rfl ?_
  refine Rn.icY K (q := 33) d11_7 (XT.ii_ge_t (by decide)) (by decide) (by decide) ?_
  exact Rn.retV K rfl d11_33 (by decide) (by decide) ⟨rfl, f19, by have q := A17; rw [own_lo cx0 hx0, own_lo cx1 hx1, own_lo cx2 hx2] at q; exact q⟩
theorem m_ltc3 (l : Launch) (Z : State) (a0 : Array Value) (hw : oH Z a0) (n0 : Nat) (h0 : Heap) (v : Addr) (k : ClassId) (x0 x1 x2 : Int32)  (X0 : Old Z n0 h0) (Av : Arv Z h0 v k .byte (3 : Int32) [(.int (oB x0)), (.int (oB x1)), (.int (oB x2))] oZ) (cx0 : Chr x0) (cx1 : Chr x1) (cx2 : Chr x2) (hx0 : ¬ (255 : Int32) < x0) (hx1 : ¬ (255 : Int32) < x1) (hx2 : ¬ (255 : Int32) < x2) :
    Met l Z oM21 oC21 2 (some (.array .char)) (oR 1 1 3 17) n0 [] #[(.ref v)] h0 (fun r h => ∃ c k, r = some (.ref c) ∧ h0.size ≤ c ∧ Keep h0 h [] ∧ Exa Z h c "[C" ∧ Arv Z h c k .char (3 : Int32) [(.int x0), (.int x1), (.int x2)] oZ) := by
  refine Met.intro (Ls := #[.val (.ref v), .unset]) (plainFor_of_name pn_m_inf5) hw (fun _ => rfl) ?_
  intro w K0
  have K : oK21 w Z a0 := K0
  have K1 := Keep.refl h0 []
  refine Rn.aloadN K (q := 1) d10_0 rfl rfl rfl ?_
  refine Rn.arraylength K (q := 2) Av d10_1 rfl ?_
  refine Rn.newP K (q := 4) (cap := 3) (oT 9 rfl) (by decide) (by decide) (by decide) (by decide) (by decide) (ad := "[C") (by decide) d10_2 rfl ?_
  intro b1 h2 k4 gb1_ X3 A_b1 EA_b1
  have ne_v_b1 : v ≠ b1 := fun e => absurd Av.lt (by rw [e, gb1_]; exact Nat.lt_irrefl _)
  have g_b1 : n0 ≤ b1 := by rw [gb1_]; exact X0.1 ▸ X0.2.1
  have sz_b1 : h0.size ≤ b1 := by rw [gb1_]; exact K1.1
  have f5 := X0.ext X3
  have f6 := K1.ext X3
  have f7 := Av.ext X3
  replace A_b1 : Arv Z h2 b1 k4 .char (3 : Int32) [oZ, oZ, oZ] oZ := A_b1.pad (pad_rep [] oZ 3)
  show Rn w l _ n0 _ 4 _ [(.ref b1)] h2 1 3
  refine Rn.astoreN K (q := 5) (Ls' := #[.val (.ref v), .val (.ref b1)]) d10_4 rfl rfl rfl ?_
  refine Rn.aloadN K (q := 6) d10_5 rfl rfl rfl ?_
  refine Rn.iconst K (q := 7) (0 : Int32) d10_6 rfl rfl ?_
  refine Rn.aloadN K (q := 8) d10_7 rfl rfl rfl ?_
  refine Rn.iconst K (q := 9) (0 : Int32) d10_8 rfl rfl ?_
  refine Rn.aloadN K (q := 10) d10_9 rfl rfl rfl ?_
  refine Rn.arraylength K (q := 11) f7 d10_10 rfl ?_
  refine Rn.stat K (q := 14) (W := 0) (y := oM20) (argsL := [(.ref v), oZ, (.ref b1), oZ, (.int (3 : Int32))]) (rest := []) (oT 66 rfl) (oT 67 rfl) (oT 68 rfl) (oT 64 rfl) (by decide) (m_inf3 l Z a0 hw n0 h2 v b1 k k4 x0 x1 x2 f5 f7 EA_b1 A_b1 g_b1 ne_v_b1 cx0 cx1 cx2 hx0 hx1 hx2) (by decide) (by decide) rfl (lenOf pd_16 rfl) rfl (oL rfl) d10_11 rfl (by decide) (by decide) ?_
  rintro _ h8 ⟨rfl, K9, A10⟩
  have f12 := f6.trans K9 (allS (Or.inr sz_b1) all0)
  have f14 := EA_b1.keep K9
  show Rn w l _ n0 _ 14 _ [] h8 1 3
  refine Rn.aloadN K (q := 15) d10_14 rfl rfl rfl ?_
  exact Rn.retA K (.array .char) rfl rfl rfl d10_15 (by decide) (by decide) ⟨_, _, rfl, sz_b1, f12, f14, A10⟩
theorem m_tca3_0 (l : Launch) (Z : State) (a0 : Array Value) (hw : oH Z a0) (n0 : Nat) (h0 : Heap) (s v : Addr) (k : ClassId) (cst : Int32) (x0 x1 x2 : Int32)  (X0 : Old Z n0 h0) (SC : oSC Z cst) (hcs : ¬ cst = 0) (Es : Exa Z h0 s "java/lang/String") (Fv : Fld Z h0 s "java/lang/String" "value" "[B" (.ref v)) (Fc : Fld Z h0 s "java/lang/String" "coder" "B" (.int (0 : Int32))) (Av : Arv Z h0 v k .byte (3 : Int32) [(.int (oB x0)), (.int (oB x1)), (.int (oB x2))] oZ) (cx0 : Chr x0) (cx1 : Chr x1) (cx2 : Chr x2) (hx0 : ¬ (255 : Int32) < x0) (hx1 : ¬ (255 : Int32) < x1) (hx2 : ¬ (255 : Int32) < x2) :
    Met l Z oM19 oC19 1 (some (.array .char)) (oR 5 1 5 73) n0 [] #[(.ref s)] h0 (fun r h => ∃ c k, r = some (.ref c) ∧ h0.size ≤ c ∧ Keep h0 h [] ∧ Exa Z h c "[C" ∧ Arv Z h c k .char (3 : Int32) [(.int x0), (.int x1), (.int x2)] oZ) := by
  refine Met.intro (Ls := #[.val (.ref s)]) (plainFor_of_name pn_m_iv1_1) hw (fun _ => rfl) ?_
  intro w K0
  have K : oK19 w Z a0 := K0
  refine Rn.aloadN K (q := 1) d8_0 rfl rfl rfl ?_
  refine Rn.virt K (q := 4) (W := 0) (y := oM11) (z := oM11) (b := s) (argsL := []) (rest := []) (oT 56 rfl) (oT 57 rfl) (nfs K (oT 59 rfl)) (oT 59 rfl) (oT 58 rfl) (oT 60 rfl) (oT 8 rfl) (by decide) (m_lat0 l Z a0 hw n0 h0 s cst X0 SC hcs Fc) Es (by decide) (by decide) rfl (lenOf pd_14 rfl) rfl (oL rfl) d8_1 rfl (by decide) (by decide) ?_
  rintro _ _ ⟨rfl, rfl⟩
  show Rn w l _ n0 _ 4 _ [(.int (1 : Int32))] h0 0 0
  refine Rn.ifN K (q := 7) d8_4 (XT.i0_eq_f (by decide)) rfl ?_
  refine Rn.aloadN K (q := 8) d8_7 rfl rfl rfl ?_
  refine Rn.getF K (q := 11) (oT 26 rfl) Via.refl Fv d8_8 rfl ?_
  refine Rn.stat K (q := 14) (W := 0) (y := oM21) (argsL := [(.ref v)]) (rest := []) (oT 62 rfl) (oT 63 rfl) (oT 65 rfl) (oT 64 rfl) (by decide) (m_ltc3 l Z a0 hw n0 h0 v k x0 x1 x2  X0  Av cx0 cx1 cx2 hx0 hx1 hx2) (by decide) (by decide) rfl (lenOf pd_15 rfl) rfl (oL rfl) d8_11 rfl (by decide) (by decide) ?_
  rintro _ h1 ⟨c, kc, rfl, Q1⟩
  show Rn w l _ n0 _ 14 _ [(.ref c)] h1 1 3
  refine Rn.goto K (q := 24) d8_14 (by decide) (by decide) ?_
  exact Rn.retA K (.array .char) rfl rfl rfl d8_24 (by decide) (by decide) ⟨c, kc, rfl, Q1⟩
theorem m_len2_0 (l : Launch) (Z : State) (a0 : Array Value) (hw : oH Z a0) (n0 : Nat) (h0 : Heap) (s v : Addr) (k : ClassId) (cst : Int32) (x0 x1 : Int32) (X0 : Old Z n0 h0) (SC : oSC Z cst) (hcs : ¬ cst = 0) (Es : Exa Z h0 s "java/lang/String") (Fv : Fld Z h0 s "java/lang/String" "value" "[B" (.ref v)) (Fc : Fld Z h0 s "java/lang/String" "coder" "B" (.int (0 : Int32))) (Av : Arv Z h0 v k .byte (2 : Int32) [(.int (oB x0)), (.int (oB x1))] oZ) :
    Met l Z oM12 oC12 1 (some .int) (oR 1 0 0 13) n0 [] #[(.ref s)] h0 (fun v h => v = some (.int (2 : Int32)) ∧ h0 = h) := by
  refine Met.intro (Ls := #[.val (.ref s)]) (plainFor_of_name pn_m_iv1_1) hw (fun _ => rfl) ?_
  intro w K0
  have K : oK12 w Z a0 := K0
  refine Rn.aloadN K (q := 1) d12_0 rfl rfl rfl ?_
  refine Rn.getF K (q := 4) (oT 26 rfl) Via.refl Fv d12_1 rfl ?_
  refine Rn.arraylength K (q := 5) Av d12_4 rfl ?_
  refine Rn.aloadN K (q := 6) d12_5 rfl rfl rfl ?_
  refine Rn.virt K (q := 9) (W := 1) (y := oM10) (z := oM10) (b := s) (argsL := []) (rest := [(.int (2 : Int32))]) (oT 74 rfl) (oT 75 rfl) (nfs K (oT 77 rfl)) (oT 77 rfl) (oT 76 rfl) (oT 78 rfl) (oT 8 rfl) (by decide) (m_cod0 l Z a0 hw n0 h0 s cst X0 SC hcs Fc) Es (by decide) (by decide) rfl (lenOf pd_8 rfl) rfl (oL rfl) d12_6 rfl (by decide) (by decide) ?_
  rintro _ _ ⟨rfl, rfl⟩
  show Rn w l _ n0 _ 9 _ [oZ, (.int (2 : Int32))] h0 0 0
  refine Rn.ishr K (q := 10) d12_9 rfl ?_
  rw [show ((2 : Int32) >>> ((0 : Int32) &&& 31)) = (2 : Int32) from by decide]
  show Rn w l _ n0 _ 10 _ [(.int (2 : Int32))] h0 0 0
  exact Rn.retI K rfl d12_10 (by decide) (by decide) ⟨rfl, rfl⟩
theorem m_inf2 (l : Launch) (Z : State) (a0 : Array Value) (hw : oH Z a0) (n0 : Nat) (h0 : Heap) (v c : Addr) (k kc : ClassId) (x0 x1 : Int32) (X0 : Old Z n0 h0) (Av : Arv Z h0 v k .byte (2 : Int32) [(.int (oB x0)), (.int (oB x1))] oZ) (Ec : Exa Z h0 c "[C") (Ac : Arv Z h0 c kc .char (2 : Int32) [oZ, oZ] oZ) (gc : n0 ≤ c) (hvc : v ≠ c) (cx0 : Chr x0) (cx1 : Chr x1) (hx0 : ¬ (255 : Int32) < x0) (hx1 : ¬ (255 : Int32) < x1) :
    Met l Z oM20 oC20 6 none (oR 0 0 0 0) n0 [] #[(.ref v), oZ, (.ref c), oZ, (.int (2 : Int32))] h0 (fun r h => r = none ∧ Keep h0 h [c] ∧ Arv Z h c kc .char (2 : Int32) [(.int x0), (.int x1)] oZ) := by
  refine Met.intro (Ls := #[.val (.ref v), .val oZ, .val (.ref c), .val oZ, .val (.int (2 : Int32)), .unset]) (plainFor_of_name pn_m_inf5) hw (fun m => by first | (simp [entryFrame, mkF, argsToLocals, Value.category]; done) | rfl) ?_
  intro w K0
  have K : oK20 w Z a0 := K0
  have K1 := Keep.refl h0 [c]
  refine Rn.iconst K (q := 1) (0 : Int32) d11_0 rfl rfl ?_
  refine Rn.istore K (q := 3) (Ls' := #[.val (.ref v), .val oZ, .val (.ref c), .val oZ, .val (.int (2 : Int32)), .val oZ]) d11_1 rfl rfl ?_
  refine Rn.iload K (q := 5) d11_3 rfl rfl ?_
  refine Rn.iload K (q := 7) d11_5 rfl rfl ?_
  refine Rn.icN K (q := 10) d11_7 (XT.ii_ge_f (by decide)) rfl ?_
  refine Rn.aloadN K (q := 11) d11_10 rfl rfl rfl ?_
  refine Rn.iloadN K (q := 12) d11_11 rfl rfl ?_
  refine Rn.iinc K (q := 15) (Ls' := #[.val (.ref v), .val oZ, .val (.ref c), .val (.int (1 : Int32)), .val (.int (2 : Int32)), .val oZ]) (1 : Int32) d11_12 rfl rfl rfl rfl ?_
  refine Rn.aloadN K (q := 16) d11_15 rfl rfl rfl ?_
  refine Rn.iloadN K (q := 17) d11_16 rfl rfl ?_
  refine Rn.iinc K (q := 20) (Ls' := #[.val (.ref v), .val (.int (1 : Int32)), .val (.ref c), .val (.int (1 : Int32)), .val (.int (2 : Int32)), .val oZ]) (1 : Int32) d11_17 rfl rfl rfl rfl ?_
  refine Rn.baloadB K (q := 21) (v := (.int (oB x0))) Av (by decide) rfl d11_20 rfl ?_
  refine Rn.sipush K (q := 24) (255 : Int32) d11_21 rfl rfl ?_
  refine Rn.iand K (q := 25) d11_24 rfl ?_
  refine Rn.i2c K (q := 26) d11_25 rfl ?_
  refine Rn.castore K (q := 27) (i := 0) Ac (by decide) rfl (oL rfl) gc d11_26 rfl ?_
  intro h1 W2 A3
  have f5 := K1.wr W2 (Or.inl (oT 0 rfl))
  have f6 := Av.other W2 hvc
  replace A3 : Arv Z h1 c kc .char (2 : Int32) [(.int (nar .char ((oB x0) &&& (255 : Int32)).toUInt32.toUInt16.toUInt32.toInt32)), oZ] oZ := A3
  refine Rn.iinc K (q := 30) (Ls' := #[.val (.ref v), .val (.int (1 : Int32)), .val (.ref c), .val (.int (1 : Int32)), .val (.int (2 : Int32)), .val (.int (1 : Int32))]) (1 : Int32) d11_27 rfl rfl rfl rfl ?_
  refine Rn.goto K (q := 3) d11_30 (by decide) (by decide) ?_
  refine Rn.iload K (q := 5) d11_3 rfl rfl ?_
  refine Rn.iload K (q := 7) d11_5 rfl rfl ?_
  refine Rn.icN K (q := 10) d11_7 (XT.ii_ge_f (by decide)) rfl ?_
  refine Rn.aloadN K (q := 11) d11_10 rfl rfl rfl ?_
  refine Rn.iloadN K (q := 12) d11_11 rfl rfl ?_
  refine Rn.iinc K (q := 15) (Ls' := #[.val (.ref v), .val (.int (1 : Int32)), .val (.ref c), .val (.int (2 : Int32)), .val (.int (2 : Int32)), .val (.int (1 : Int32))]) (1 : Int32) d11_12 rfl rfl rfl rfl ?_
  refine Rn.aloadN K (q := 16) d11_15 rfl rfl rfl ?_
  refine Rn.iloadN K (q := 17) d11_16 rfl rfl ?_
  refine Rn.iinc K (q := 20) (Ls' := #[.val (.ref v), .val (.int (2 : Int32)), .val (.ref c), .val (.int (2 : Int32)), .val (.int (2 : Int32)), .val (.int (1 : Int32))]) (1 : Int32) d11_17 rfl rfl rfl rfl ?_
  refine Rn.baloadB K (q := 21) (v := (.int (oB x1))) f6 (by decide) rfl d11_20 rfl ?_
  refine Rn.sipush K (q := 24) (255 : Int32) d11_21 rfl rfl ?_
  refine Rn.iand K (q := 25) d11_24 rfl ?_
  refine Rn.i2c K (q := 26) d11_25 rfl ?_
  refine Rn.castore K (q := 27) (i := 1) A3 (by decide) rfl (oL rfl) gc d11_26 rfl ?_
  intro h8 W9 A10
  have f12 := f5.wr W9 (Or.inl (oT 0 rfl))
  replace A10 : Arv Z h8 c kc .char (2 : Int32) [(.int (nar .char ((oB x0) &&& (255 : Int32)).toUInt32.toUInt16.toUInt32.toInt32)), (.int (nar .char ((oB x1) &&& (255 : Int32)).toUInt32.toUInt16.toUInt32.toInt32))] oZ := A10
  refine Rn.iinc K (q := 30) (Ls' := #[.val (.ref v), .val (.int (2 : Int32)), .val (.ref c), .val (.int (2 : Int32)), .val (.int (2 : Int32)), .val (.int (2 : Int32))]) (1 : Int32) d11_27 rfl rfl rfl rfl ?_
  refine Rn.goto K (q := 3) d11_30 (by decide) (by decide) ?_
  refine Rn.iload K (q := 5) d11_3 rfl rfl ?_
  refine Rn.iload K (q := 7) d11_5 rfl rfl ?_
  refine Rn.icY K (q := 33) d11_7 (XT.ii_ge_t (by decide)) (by decide) (by decide) ?_
  exact Rn.retV K rfl d11_33 (by decide) (by decide) ⟨rfl, f12, by have q := A10; rw [own_lo cx0 hx0, own_lo cx1 hx1] at q; exact q⟩
theorem m_ltc2 (l : Launch) (Z : State) (a0 : Array Value) (hw : oH Z a0) (n0 : Nat) (h0 : Heap) (v : Addr) (k : ClassId) (x0 x1 : Int32)  (X0 : Old Z n0 h0) (Av : Arv Z h0 v k .byte (2 : Int32) [(.int (oB x0)), (.int (oB x1))] oZ) (cx0 : Chr x0) (cx1 : Chr x1) (hx0 : ¬ (255 : Int32) < x0) (hx1 : ¬ (255 : Int32) < x1) :
    Met l Z oM21 oC21 2 (some (.array .char)) (oR 1 1 2 17) n0 [] #[(.ref v)] h0 (fun r h => ∃ c k, r = some (.ref c) ∧ h0.size ≤ c ∧ Keep h0 h [] ∧ Exa Z h c "[C" ∧ Arv Z h c k .char (2 : Int32) [(.int x0), (.int x1)] oZ) := by
  refine Met.intro (Ls := #[.val (.ref v), .unset]) (plainFor_of_name pn_m_inf5) hw (fun _ => rfl) ?_
  intro w K0
  have K : oK21 w Z a0 := K0
  have K1 := Keep.refl h0 []
  refine Rn.aloadN K (q := 1) d10_0 rfl rfl rfl ?_
  refine Rn.arraylength K (q := 2) Av d10_1 rfl ?_
  refine Rn.newP K (q := 4) (cap := 2) (oT 9 rfl) (by decide) (by decide) (by decide) (by decide) (by decide) (ad := "[C") (by decide) d10_2 rfl ?_
  intro b1 h2 k4 gb1_ X3 A_b1 EA_b1
  have ne_v_b1 : v ≠ b1 := fun e => absurd Av.lt (by rw [e, gb1_]; exact Nat.lt_irrefl _)
  have g_b1 : n0 ≤ b1 := by rw [gb1_]; exact X0.1 ▸ X0.2.1
  have sz_b1 : h0.size ≤ b1 := by rw [gb1_]; exact K1.1
  have f5 := X0.ext X3
  have f6 := K1.ext X3
  have f7 := Av.ext X3
  replace A_b1 : Arv Z h2 b1 k4 .char (2 : Int32) [oZ, oZ] oZ := A_b1.pad (pad_rep [] oZ 2)
  show Rn w l _ n0 _ 4 _ [(.ref b1)] h2 1 2
  refine Rn.astoreN K (q := 5) (Ls' := #[.val (.ref v), .val (.ref b1)]) d10_4 rfl rfl rfl ?_
  refine Rn.aloadN K (q := 6) d10_5 rfl rfl rfl ?_
  refine Rn.iconst K (q := 7) (0 : Int32) d10_6 rfl rfl ?_
  refine Rn.aloadN K (q := 8) d10_7 rfl rfl rfl ?_
  refine Rn.iconst K (q := 9) (0 : Int32) d10_8 rfl rfl ?_
  refine Rn.aloadN K (q := 10) d10_9 rfl rfl rfl ?_
  refine Rn.arraylength K (q := 11) f7 d10_10 rfl ?_
  refine Rn.stat K (q := 14) (W := 0) (y := oM20) (argsL := [(.ref v), oZ, (.ref b1), oZ, (.int (2 : Int32))]) (rest := []) (oT 66 rfl) (oT 67 rfl) (oT 68 rfl) (oT 64 rfl) (by decide) (m_inf2 l Z a0 hw n0 h2 v b1 k k4 x0 x1 f5 f7 EA_b1 A_b1 g_b1 ne_v_b1 cx0 cx1 hx0 hx1) (by decide) (by decide) rfl (lenOf pd_16 rfl) rfl (oL rfl) d10_11 rfl (by decide) (by decide) ?_
  rintro _ h8 ⟨rfl, K9, A10⟩
  have f12 := f6.trans K9 (allS (Or.inr sz_b1) all0)
  have f14 := EA_b1.keep K9
  show Rn w l _ n0 _ 14 _ [] h8 1 2
  refine Rn.aloadN K (q := 15) d10_14 rfl rfl rfl ?_
  exact Rn.retA K (.array .char) rfl rfl rfl d10_15 (by decide) (by decide) ⟨_, _, rfl, sz_b1, f12, f14, A10⟩
theorem m_tca2_0 (l : Launch) (Z : State) (a0 : Array Value) (hw : oH Z a0) (n0 : Nat) (h0 : Heap) (s v : Addr) (k : ClassId) (cst : Int32) (x0 x1 : Int32)  (X0 : Old Z n0 h0) (SC : oSC Z cst) (hcs : ¬ cst = 0) (Es : Exa Z h0 s "java/lang/String") (Fv : Fld Z h0 s "java/lang/String" "value" "[B" (.ref v)) (Fc : Fld Z h0 s "java/lang/String" "coder" "B" (.int (0 : Int32))) (Av : Arv Z h0 v k .byte (2 : Int32) [(.int (oB x0)), (.int (oB x1))] oZ) (cx0 : Chr x0) (cx1 : Chr x1) (hx0 : ¬ (255 : Int32) < x0) (hx1 : ¬ (255 : Int32) < x1) :
    Met l Z oM19 oC19 1 (some (.array .char)) (oR 5 1 5 73) n0 [] #[(.ref s)] h0 (fun r h => ∃ c k, r = some (.ref c) ∧ h0.size ≤ c ∧ Keep h0 h [] ∧ Exa Z h c "[C" ∧ Arv Z h c k .char (2 : Int32) [(.int x0), (.int x1)] oZ) := by
  refine Met.intro (Ls := #[.val (.ref s)]) (plainFor_of_name pn_m_iv1_1) hw (fun _ => rfl) ?_
  intro w K0
  have K : oK19 w Z a0 := K0
  refine Rn.aloadN K (q := 1) d8_0 rfl rfl rfl ?_
  refine Rn.virt K (q := 4) (W := 0) (y := oM11) (z := oM11) (b := s) (argsL := []) (rest := []) (oT 56 rfl) (oT 57 rfl) (nfs K (oT 59 rfl)) (oT 59 rfl) (oT 58 rfl) (oT 60 rfl) (oT 8 rfl) (by decide) (m_lat0 l Z a0 hw n0 h0 s cst X0 SC hcs Fc) Es (by decide) (by decide) rfl (lenOf pd_14 rfl) rfl (oL rfl) d8_1 rfl (by decide) (by decide) ?_
  rintro _ _ ⟨rfl, rfl⟩
  show Rn w l _ n0 _ 4 _ [(.int (1 : Int32))] h0 0 0
  refine Rn.ifN K (q := 7) d8_4 (XT.i0_eq_f (by decide)) rfl ?_
  refine Rn.aloadN K (q := 8) d8_7 rfl rfl rfl ?_
  refine Rn.getF K (q := 11) (oT 26 rfl) Via.refl Fv d8_8 rfl ?_
  refine Rn.stat K (q := 14) (W := 0) (y := oM21) (argsL := [(.ref v)]) (rest := []) (oT 62 rfl) (oT 63 rfl) (oT 65 rfl) (oT 64 rfl) (by decide) (m_ltc2 l Z a0 hw n0 h0 v k x0 x1  X0  Av cx0 cx1 hx0 hx1) (by decide) (by decide) rfl (lenOf pd_15 rfl) rfl (oL rfl) d8_11 rfl (by decide) (by decide) ?_
  rintro _ h1 ⟨c, kc, rfl, Q1⟩
  show Rn w l _ n0 _ 14 _ [(.ref c)] h1 1 2
  refine Rn.goto K (q := 24) d8_14 (by decide) (by decide) ?_
  exact Rn.retA K (.array .char) rfl rfl rfl d8_24 (by decide) (by decide) ⟨c, kc, rfl, Q1⟩
theorem m_len1_0 (l : Launch) (Z : State) (a0 : Array Value) (hw : oH Z a0) (n0 : Nat) (h0 : Heap) (s v : Addr) (k : ClassId) (cst : Int32) (x0 : Int32) (X0 : Old Z n0 h0) (SC : oSC Z cst) (hcs : ¬ cst = 0) (Es : Exa Z h0 s "java/lang/String") (Fv : Fld Z h0 s "java/lang/String" "value" "[B" (.ref v)) (Fc : Fld Z h0 s "java/lang/String" "coder" "B" (.int (0 : Int32))) (Av : Arv Z h0 v k .byte (1 : Int32) [(.int (oB x0))] oZ) :
    Met l Z oM12 oC12 1 (some .int) (oR 1 0 0 13) n0 [] #[(.ref s)] h0 (fun v h => v = some (.int (1 : Int32)) ∧ h0 = h) := by
  refine Met.intro (Ls := #[.val (.ref s)]) (plainFor_of_name pn_m_iv1_1) hw (fun _ => rfl) ?_
  intro w K0
  have K : oK12 w Z a0 := K0
  refine Rn.aloadN K (q := 1) d12_0 rfl rfl rfl ?_
  refine Rn.getF K (q := 4) (oT 26 rfl) Via.refl Fv d12_1 rfl ?_
  refine Rn.arraylength K (q := 5) Av d12_4 rfl ?_
  refine Rn.aloadN K (q := 6) d12_5 rfl rfl rfl ?_
  refine Rn.virt K (q := 9) (W := 1) (y := oM10) (z := oM10) (b := s) (argsL := []) (rest := [(.int (1 : Int32))]) (oT 74 rfl) (oT 75 rfl) (nfs K (oT 77 rfl)) (oT 77 rfl) (oT 76 rfl) (oT 78 rfl) (oT 8 rfl) (by decide) (m_cod0 l Z a0 hw n0 h0 s cst X0 SC hcs Fc) Es (by decide) (by decide) rfl (lenOf pd_8 rfl) rfl (oL rfl) d12_6 rfl (by decide) (by decide) ?_
  rintro _ _ ⟨rfl, rfl⟩
  show Rn w l _ n0 _ 9 _ [oZ, (.int (1 : Int32))] h0 0 0
  refine Rn.ishr K (q := 10) d12_9 rfl ?_
  rw [show ((1 : Int32) >>> ((0 : Int32) &&& 31)) = (1 : Int32) from by decide]
  show Rn w l _ n0 _ 10 _ [(.int (1 : Int32))] h0 0 0
  exact Rn.retI K rfl d12_10 (by decide) (by decide) ⟨rfl, rfl⟩
theorem m_inf1 (l : Launch) (Z : State) (a0 : Array Value) (hw : oH Z a0) (n0 : Nat) (h0 : Heap) (v c : Addr) (k kc : ClassId) (x0 : Int32) (X0 : Old Z n0 h0) (Av : Arv Z h0 v k .byte (1 : Int32) [(.int (oB x0))] oZ) (Ec : Exa Z h0 c "[C") (Ac : Arv Z h0 c kc .char (1 : Int32) [oZ] oZ) (gc : n0 ≤ c) (hvc : v ≠ c) (cx0 : Chr x0) (hx0 : ¬ (255 : Int32) < x0) :
    Met l Z oM20 oC20 6 none (oR 0 0 0 0) n0 [] #[(.ref v), oZ, (.ref c), oZ, (.int (1 : Int32))] h0 (fun r h => r = none ∧ Keep h0 h [c] ∧ Arv Z h c kc .char (1 : Int32) [(.int x0)] oZ) := by
  refine Met.intro (Ls := #[.val (.ref v), .val oZ, .val (.ref c), .val oZ, .val (.int (1 : Int32)), .unset]) (plainFor_of_name pn_m_inf5) hw (fun m => by first | (simp [entryFrame, mkF, argsToLocals, Value.category]; done) | rfl) ?_
  intro w K0
  have K : oK20 w Z a0 := K0
  have K1 := Keep.refl h0 [c]
  refine Rn.iconst K (q := 1) (0 : Int32) d11_0 rfl rfl ?_
  refine Rn.istore K (q := 3) (Ls' := #[.val (.ref v), .val oZ, .val (.ref c), .val oZ, .val (.int (1 : Int32)), .val oZ]) d11_1 rfl rfl ?_
  refine Rn.iload K (q := 5) d11_3 rfl rfl ?_
  refine Rn.iload K (q := 7) d11_5 rfl rfl ?_
  refine Rn.icN K (q := 10) d11_7 (XT.ii_ge_f (by decide)) rfl ?_
  refine Rn.aloadN K (q := 11) d11_10 rfl rfl rfl ?_
  refine Rn.iloadN K (q := 12) d11_11 rfl rfl ?_
  refine Rn.iinc K (q := 15) (Ls' := #[.val (.ref v), .val oZ, .val (.ref c), .val (.int (1 : Int32)), .val (.int (1 : Int32)), .val oZ]) (1 : Int32) d11_12 rfl rfl rfl rfl ?_
  refine Rn.aloadN K (q := 16) d11_15 rfl rfl rfl ?_
  refine Rn.iloadN K (q := 17) d11_16 rfl rfl ?_
  refine Rn.iinc K (q := 20) (Ls' := #[.val (.ref v), .val (.int (1 : Int32)), .val (.ref c), .val (.int (1 : Int32)), .val (.int (1 : Int32)), .val oZ]) (1 : Int32) d11_17 rfl rfl rfl rfl ?_
  refine Rn.baloadB K (q := 21) (v := (.int (oB x0))) Av (by decide) rfl d11_20 rfl ?_
  refine Rn.sipush K (q := 24) (255 : Int32) d11_21 rfl rfl ?_
  refine Rn.iand K (q := 25) d11_24 rfl ?_
  refine Rn.i2c K (q := 26) d11_25 rfl ?_
  refine Rn.castore K (q := 27) (i := 0) Ac (by decide) rfl (oL rfl) gc d11_26 rfl ?_
  intro h1 W2 A3
  have f5 := K1.wr W2 (Or.inl (oT 0 rfl))
  replace A3 : Arv Z h1 c kc .char (1 : Int32) [(.int (nar .char ((oB x0) &&& (255 : Int32)).toUInt32.toUInt16.toUInt32.toInt32))] oZ := A3
  refine Rn.iinc K (q := 30) (Ls' := #[.val (.ref v), .val (.int (1 : Int32)), .val (.ref c), .val (.int (1 : Int32)), .val (.int (1 : Int32)), .val (.int (1 : Int32))]) (1 : Int32) d11_27 rfl rfl rfl rfl ?_
  refine Rn.goto K (q := 3) d11_30 (by decide) (by decide) ?_
  refine Rn.iload K (q := 5) d11_3 rfl rfl ?_
  refine Rn.iload K (q := 7) d11_5 rfl rfl ?_
  refine Rn.icY K (q := 33) d11_7 (XT.ii_ge_t (by decide)) (by decide) (by decide) ?_
  exact Rn.retV K rfl d11_33 (by decide) (by decide) ⟨rfl, f5, by have q := A3; rw [own_lo cx0 hx0] at q; exact q⟩
theorem m_ltc1 (l : Launch) (Z : State) (a0 : Array Value) (hw : oH Z a0) (n0 : Nat) (h0 : Heap) (v : Addr) (k : ClassId) (x0 : Int32)  (X0 : Old Z n0 h0) (Av : Arv Z h0 v k .byte (1 : Int32) [(.int (oB x0))] oZ) (cx0 : Chr x0) (hx0 : ¬ (255 : Int32) < x0) :
    Met l Z oM21 oC21 2 (some (.array .char)) (oR 1 1 1 17) n0 [] #[(.ref v)] h0 (fun r h => ∃ c k, r = some (.ref c) ∧ h0.size ≤ c ∧ Keep h0 h [] ∧ Exa Z h c "[C" ∧ Arv Z h c k .char (1 : Int32) [(.int x0)] oZ) := by
  refine Met.intro (Ls := #[.val (.ref v), .unset]) (plainFor_of_name pn_m_inf5) hw (fun _ => rfl) ?_
  intro w K0
  have K : oK21 w Z a0 := K0
  have K1 := Keep.refl h0 []
  refine Rn.aloadN K (q := 1) d10_0 rfl rfl rfl ?_
  refine Rn.arraylength K (q := 2) Av d10_1 rfl ?_
  refine Rn.newP K (q := 4) (cap := 1) (oT 9 rfl) (by decide) (by decide) (by decide) (by decide) (by decide) (ad := "[C") (by decide) d10_2 rfl ?_
  intro b1 h2 k4 gb1_ X3 A_b1 EA_b1
  have ne_v_b1 : v ≠ b1 := fun e => absurd Av.lt (by rw [e, gb1_]; exact Nat.lt_irrefl _)
  have g_b1 : n0 ≤ b1 := by rw [gb1_]; exact X0.1 ▸ X0.2.1
  have sz_b1 : h0.size ≤ b1 := by rw [gb1_]; exact K1.1
  have f5 := X0.ext X3
  have f6 := K1.ext X3
  have f7 := Av.ext X3
  replace A_b1 : Arv Z h2 b1 k4 .char (1 : Int32) [oZ] oZ := A_b1.pad (pad_rep [] oZ 1)
  show Rn w l _ n0 _ 4 _ [(.ref b1)] h2 1 1
  refine Rn.astoreN K (q := 5) (Ls' := #[.val (.ref v), .val (.ref b1)]) d10_4 rfl rfl rfl ?_
  refine Rn.aloadN K (q := 6) d10_5 rfl rfl rfl ?_
  refine Rn.iconst K (q := 7) (0 : Int32) d10_6 rfl rfl ?_
  refine Rn.aloadN K (q := 8) d10_7 rfl rfl rfl ?_
  refine Rn.iconst K (q := 9) (0 : Int32) d10_8 rfl rfl ?_
  refine Rn.aloadN K (q := 10) d10_9 rfl rfl rfl ?_
  refine Rn.arraylength K (q := 11) f7 d10_10 rfl ?_
  refine Rn.stat K (q := 14) (W := 0) (y := oM20) (argsL := [(.ref v), oZ, (.ref b1), oZ, (.int (1 : Int32))]) (rest := []) (oT 66 rfl) (oT 67 rfl) (oT 68 rfl) (oT 64 rfl) (by decide) (m_inf1 l Z a0 hw n0 h2 v b1 k k4 x0 f5 f7 EA_b1 A_b1 g_b1 ne_v_b1 cx0 hx0) (by decide) (by decide) rfl (lenOf pd_16 rfl) rfl (oL rfl) d10_11 rfl (by decide) (by decide) ?_
  rintro _ h8 ⟨rfl, K9, A10⟩
  have f12 := f6.trans K9 (allS (Or.inr sz_b1) all0)
  have f14 := EA_b1.keep K9
  show Rn w l _ n0 _ 14 _ [] h8 1 1
  refine Rn.aloadN K (q := 15) d10_14 rfl rfl rfl ?_
  exact Rn.retA K (.array .char) rfl rfl rfl d10_15 (by decide) (by decide) ⟨_, _, rfl, sz_b1, f12, f14, A10⟩
theorem m_tca1_0 (l : Launch) (Z : State) (a0 : Array Value) (hw : oH Z a0) (n0 : Nat) (h0 : Heap) (s v : Addr) (k : ClassId) (cst : Int32) (x0 : Int32)  (X0 : Old Z n0 h0) (SC : oSC Z cst) (hcs : ¬ cst = 0) (Es : Exa Z h0 s "java/lang/String") (Fv : Fld Z h0 s "java/lang/String" "value" "[B" (.ref v)) (Fc : Fld Z h0 s "java/lang/String" "coder" "B" (.int (0 : Int32))) (Av : Arv Z h0 v k .byte (1 : Int32) [(.int (oB x0))] oZ) (cx0 : Chr x0) (hx0 : ¬ (255 : Int32) < x0) :
    Met l Z oM19 oC19 1 (some (.array .char)) (oR 5 1 5 73) n0 [] #[(.ref s)] h0 (fun r h => ∃ c k, r = some (.ref c) ∧ h0.size ≤ c ∧ Keep h0 h [] ∧ Exa Z h c "[C" ∧ Arv Z h c k .char (1 : Int32) [(.int x0)] oZ) := by
  refine Met.intro (Ls := #[.val (.ref s)]) (plainFor_of_name pn_m_iv1_1) hw (fun _ => rfl) ?_
  intro w K0
  have K : oK19 w Z a0 := K0
  refine Rn.aloadN K (q := 1) d8_0 rfl rfl rfl ?_
  refine Rn.virt K (q := 4) (W := 0) (y := oM11) (z := oM11) (b := s) (argsL := []) (rest := []) (oT 56 rfl) (oT 57 rfl) (nfs K (oT 59 rfl)) (oT 59 rfl) (oT 58 rfl) (oT 60 rfl) (oT 8 rfl) (by decide) (m_lat0 l Z a0 hw n0 h0 s cst X0 SC hcs Fc) Es (by decide) (by decide) rfl (lenOf pd_14 rfl) rfl (oL rfl) d8_1 rfl (by decide) (by decide) ?_
  rintro _ _ ⟨rfl, rfl⟩
  show Rn w l _ n0 _ 4 _ [(.int (1 : Int32))] h0 0 0
  refine Rn.ifN K (q := 7) d8_4 (XT.i0_eq_f (by decide)) rfl ?_
  refine Rn.aloadN K (q := 8) d8_7 rfl rfl rfl ?_
  refine Rn.getF K (q := 11) (oT 26 rfl) Via.refl Fv d8_8 rfl ?_
  refine Rn.stat K (q := 14) (W := 0) (y := oM21) (argsL := [(.ref v)]) (rest := []) (oT 62 rfl) (oT 63 rfl) (oT 65 rfl) (oT 64 rfl) (by decide) (m_ltc1 l Z a0 hw n0 h0 v k x0  X0  Av cx0 hx0) (by decide) (by decide) rfl (lenOf pd_15 rfl) rfl (oL rfl) d8_11 rfl (by decide) (by decide) ?_
  rintro _ h1 ⟨c, kc, rfl, Q1⟩
  show Rn w l _ n0 _ 14 _ [(.ref c)] h1 1 1
  refine Rn.goto K (q := 24) d8_14 (by decide) (by decide) ?_
  exact Rn.retA K (.array .char) rfl rfl rfl d8_24 (by decide) (by decide) ⟨c, kc, rfl, Q1⟩
theorem m_len0_0 (l : Launch) (Z : State) (a0 : Array Value) (hw : oH Z a0) (n0 : Nat) (h0 : Heap) (s v : Addr) (k : ClassId) (cst : Int32)  (X0 : Old Z n0 h0) (SC : oSC Z cst) (hcs : ¬ cst = 0) (Es : Exa Z h0 s "java/lang/String") (Fv : Fld Z h0 s "java/lang/String" "value" "[B" (.ref v)) (Fc : Fld Z h0 s "java/lang/String" "coder" "B" (.int (0 : Int32))) (Av : Arv Z h0 v k .byte (0 : Int32) [] oZ) :
    Met l Z oM12 oC12 1 (some .int) (oR 1 0 0 13) n0 [] #[(.ref s)] h0 (fun v h => v = some (.int (0 : Int32)) ∧ h0 = h) := by
  refine Met.intro (Ls := #[.val (.ref s)]) (plainFor_of_name pn_m_iv1_1) hw (fun _ => rfl) ?_
  intro w K0
  have K : oK12 w Z a0 := K0
  refine Rn.aloadN K (q := 1) d12_0 rfl rfl rfl ?_
  refine Rn.getF K (q := 4) (oT 26 rfl) Via.refl Fv d12_1 rfl ?_
  refine Rn.arraylength K (q := 5) Av d12_4 rfl ?_
  refine Rn.aloadN K (q := 6) d12_5 rfl rfl rfl ?_
  refine Rn.virt K (q := 9) (W := 1) (y := oM10) (z := oM10) (b := s) (argsL := []) (rest := [oZ]) (oT 74 rfl) (oT 75 rfl) (nfs K (oT 77 rfl)) (oT 77 rfl) (oT 76 rfl) (oT 78 rfl) (oT 8 rfl) (by decide) (m_cod0 l Z a0 hw n0 h0 s cst X0 SC hcs Fc) Es (by decide) (by decide) rfl (lenOf pd_8 rfl) rfl (oL rfl) d12_6 rfl (by decide) (by decide) ?_
  rintro _ _ ⟨rfl, rfl⟩
  show Rn w l _ n0 _ 9 _ [oZ, oZ] h0 0 0
  refine Rn.ishr K (q := 10) d12_9 rfl ?_
  rw [show ((0 : Int32) >>> ((0 : Int32) &&& 31)) = (0 : Int32) from by decide]
  show Rn w l _ n0 _ 10 _ [oZ] h0 0 0
  exact Rn.retI K rfl d12_10 (by decide) (by decide) ⟨rfl, rfl⟩
theorem m_inf0 (l : Launch) (Z : State) (a0 : Array Value) (hw : oH Z a0) (n0 : Nat) (h0 : Heap) (v c : Addr) (k kc : ClassId)  (X0 : Old Z n0 h0) (Av : Arv Z h0 v k .byte (0 : Int32) [] oZ) (Ec : Exa Z h0 c "[C") (Ac : Arv Z h0 c kc .char (0 : Int32) [] oZ) (gc : n0 ≤ c) (hvc : v ≠ c) :
    Met l Z oM20 oC20 6 none (oR 0 0 0 0) n0 [] #[(.ref v), oZ, (.ref c), oZ, oZ] h0 (fun r h => r = none ∧ Keep h0 h [c] ∧ Arv Z h c kc .char (0 : Int32) [] oZ) := by
  refine Met.intro (Ls := #[.val (.ref v), .val oZ, .val (.ref c), .val oZ, .val oZ, .unset]) (plainFor_of_name pn_m_inf5) hw (fun m => by first | (simp [entryFrame, mkF, argsToLocals, Value.category]; done) | rfl) ?_
  intro w K0
  have K : oK20 w Z a0 := K0
  have K1 := Keep.refl h0 [c]
  refine Rn.iconst K (q := 1) (0 : Int32) d11_0 rfl rfl ?_
  refine Rn.istore K (q := 3) (Ls' := #[.val (.ref v), .val oZ, .val (.ref c), .val oZ, .val oZ, .val oZ]) d11_1 rfl rfl ?_
  refine Rn.iload K (q := 5) d11_3 rfl rfl ?_
  refine Rn.iload K (q := 7) d11_5 rfl rfl ?_
  refine Rn.icY K (q := 33) d11_7 (XT.ii_ge_t (by decide)) (by decide) (by decide) ?_
  exact Rn.retV K rfl d11_33 (by decide) (by decide) ⟨rfl, K1, by have q := Ac;  exact q⟩
theorem m_ltc0 (l : Launch) (Z : State) (a0 : Array Value) (hw : oH Z a0) (n0 : Nat) (h0 : Heap) (v : Addr) (k : ClassId)   (X0 : Old Z n0 h0) (Av : Arv Z h0 v k .byte (0 : Int32) [] oZ) :
    Met l Z oM21 oC21 2 (some (.array .char)) (oR 1 1 0 17) n0 [] #[(.ref v)] h0 (fun r h => ∃ c k, r = some (.ref c) ∧ h0.size ≤ c ∧ Keep h0 h [] ∧ Exa Z h c "[C" ∧ Arv Z h c k .char (0 : Int32) [] oZ) := by
  refine Met.intro (Ls := #[.val (.ref v), .unset]) (plainFor_of_name pn_m_inf5) hw (fun _ => rfl) ?_
  intro w K0
  have K : oK21 w Z a0 := K0
  have K1 := Keep.refl h0 []
  refine Rn.aloadN K (q := 1) d10_0 rfl rfl rfl ?_
  refine Rn.arraylength K (q := 2) Av d10_1 rfl ?_
  refine Rn.newP K (q := 4) (cap := 0) (oT 9 rfl) (by decide) (by decide) (by decide) (by decide) (by decide) (ad := "[C") (by decide) d10_2 rfl ?_
  intro b1 h2 k4 gb1_ X3 A_b1 EA_b1
  have ne_v_b1 : v ≠ b1 := fun e => absurd Av.lt (by rw [e, gb1_]; exact Nat.lt_irrefl _)
  have g_b1 : n0 ≤ b1 := by rw [gb1_]; exact X0.1 ▸ X0.2.1
  have sz_b1 : h0.size ≤ b1 := by rw [gb1_]; exact K1.1
  have f5 := X0.ext X3
  have f6 := K1.ext X3
  have f7 := Av.ext X3
  show Rn w l _ n0 _ 4 _ [(.ref b1)] h2 1 0
  refine Rn.astoreN K (q := 5) (Ls' := #[.val (.ref v), .val (.ref b1)]) d10_4 rfl rfl rfl ?_
  refine Rn.aloadN K (q := 6) d10_5 rfl rfl rfl ?_
  refine Rn.iconst K (q := 7) (0 : Int32) d10_6 rfl rfl ?_
  refine Rn.aloadN K (q := 8) d10_7 rfl rfl rfl ?_
  refine Rn.iconst K (q := 9) (0 : Int32) d10_8 rfl rfl ?_
  refine Rn.aloadN K (q := 10) d10_9 rfl rfl rfl ?_
  refine Rn.arraylength K (q := 11) f7 d10_10 rfl ?_
  refine Rn.stat K (q := 14) (W := 0) (y := oM20) (argsL := [(.ref v), oZ, (.ref b1), oZ, oZ]) (rest := []) (oT 66 rfl) (oT 67 rfl) (oT 68 rfl) (oT 64 rfl) (by decide) (m_inf0 l Z a0 hw n0 h2 v b1 k k4  f5 f7 EA_b1 A_b1 g_b1 ne_v_b1  ) (by decide) (by decide) rfl (lenOf pd_16 rfl) rfl (oL rfl) d10_11 rfl (by decide) (by decide) ?_
  rintro _ h8 ⟨rfl, K9, A10⟩
  have f12 := f6.trans K9 (allS (Or.inr sz_b1) all0)
  have f14 := EA_b1.keep K9
  show Rn w l _ n0 _ 14 _ [] h8 1 0
  refine Rn.aloadN K (q := 15) d10_14 rfl rfl rfl ?_
  exact Rn.retA K (.array .char) rfl rfl rfl d10_15 (by decide) (by decide) ⟨_, _, rfl, sz_b1, f12, f14, A10⟩
theorem m_tca0_0 (l : Launch) (Z : State) (a0 : Array Value) (hw : oH Z a0) (n0 : Nat) (h0 : Heap) (s v : Addr) (k : ClassId) (cst : Int32)   (X0 : Old Z n0 h0) (SC : oSC Z cst) (hcs : ¬ cst = 0) (Es : Exa Z h0 s "java/lang/String") (Fv : Fld Z h0 s "java/lang/String" "value" "[B" (.ref v)) (Fc : Fld Z h0 s "java/lang/String" "coder" "B" (.int (0 : Int32))) (Av : Arv Z h0 v k .byte (0 : Int32) [] oZ) :
    Met l Z oM19 oC19 1 (some (.array .char)) (oR 5 1 5 73) n0 [] #[(.ref s)] h0 (fun r h => ∃ c k, r = some (.ref c) ∧ h0.size ≤ c ∧ Keep h0 h [] ∧ Exa Z h c "[C" ∧ Arv Z h c k .char (0 : Int32) [] oZ) := by
  refine Met.intro (Ls := #[.val (.ref s)]) (plainFor_of_name pn_m_iv1_1) hw (fun _ => rfl) ?_
  intro w K0
  have K : oK19 w Z a0 := K0
  refine Rn.aloadN K (q := 1) d8_0 rfl rfl rfl ?_
  refine Rn.virt K (q := 4) (W := 0) (y := oM11) (z := oM11) (b := s) (argsL := []) (rest := []) (oT 56 rfl) (oT 57 rfl) (nfs K (oT 59 rfl)) (oT 59 rfl) (oT 58 rfl) (oT 60 rfl) (oT 8 rfl) (by decide) (m_lat0 l Z a0 hw n0 h0 s cst X0 SC hcs Fc) Es (by decide) (by decide) rfl (lenOf pd_14 rfl) rfl (oL rfl) d8_1 rfl (by decide) (by decide) ?_
  rintro _ _ ⟨rfl, rfl⟩
  show Rn w l _ n0 _ 4 _ [(.int (1 : Int32))] h0 0 0
  refine Rn.ifN K (q := 7) d8_4 (XT.i0_eq_f (by decide)) rfl ?_
  refine Rn.aloadN K (q := 8) d8_7 rfl rfl rfl ?_
  refine Rn.getF K (q := 11) (oT 26 rfl) Via.refl Fv d8_8 rfl ?_
  refine Rn.stat K (q := 14) (W := 0) (y := oM21) (argsL := [(.ref v)]) (rest := []) (oT 62 rfl) (oT 63 rfl) (oT 65 rfl) (oT 64 rfl) (by decide) (m_ltc0 l Z a0 hw n0 h0 v k   X0  Av  ) (by decide) (by decide) rfl (lenOf pd_15 rfl) rfl (oL rfl) d8_11 rfl (by decide) (by decide) ?_
  rintro _ h1 ⟨c, kc, rfl, Q1⟩
  show Rn w l _ n0 _ 14 _ [(.ref c)] h1 1 0
  refine Rn.goto K (q := 24) d8_14 (by decide) (by decide) ?_
  exact Rn.retA K (.array .char) rfl rfl rfl d8_24 (by decide) (by decide) ⟨c, kc, rfl, Q1⟩
theorem m_len (l : Launch) (Z : State) (a0 : Array Value) (hw : oH Z a0) (n0 : Nat) (h0 : Heap) (s v : Addr) (cst : Int32) (fv : Value) (hfv : fv.isRef = true) (cs : List Int32) (X0 : Old Z n0 h0) (SC : oSC Z cst) (hcs : ¬ cst = 0) (STR_ : STR Z h0 s v cs) (hl : cs.length ≤ 5) (hc : ∀ c ∈ cs, Chr c) :
    Met l Z oM12 oC12 1 (some .int) (oR 1 0 0 13) n0 [] #[(.ref s)] h0 (fun v h => v = some (.int (Int32.ofNat cs.length)) ∧ h0 = h) := by
  obtain ⟨Es, Fv, k, ⟨Fc, Av, ha⟩ | ⟨hne, Fc, Av⟩⟩ := STR_
  · match cs, hl, hc, ha, Av with
    | [], hl, hc, ha, Av => exact m_len0_0 l Z a0 hw n0 h0 s v k cst  X0 SC hcs Es Fv Fc Av
    | [x0], hl, hc, ha, Av => exact m_len1_0 l Z a0 hw n0 h0 s v k cst x0 X0 SC hcs Es Fv Fc Av
    | [x0, x1], hl, hc, ha, Av => exact m_len2_0 l Z a0 hw n0 h0 s v k cst x0 x1 X0 SC hcs Es Fv Fc Av
    | [x0, x1, x2], hl, hc, ha, Av => exact m_len3_0 l Z a0 hw n0 h0 s v k cst x0 x1 x2 X0 SC hcs Es Fv Fc Av
    | [x0, x1, x2, x3], hl, hc, ha, Av => exact m_len4_0 l Z a0 hw n0 h0 s v k cst x0 x1 x2 x3 X0 SC hcs Es Fv Fc Av
    | [x0, x1, x2, x3, x4], hl, hc, ha, Av => exact m_len5_0 l Z a0 hw n0 h0 s v k cst x0 x1 x2 x3 x4 X0 SC hcs Es Fv Fc Av
    | x0 :: x1 :: x2 :: x3 :: x4 :: x5 :: t, hl, _, _, _ => exact absurd hl (by simp only [List.length_cons]; omega)
  · match cs, hl, hc, hne, Av with
    | [], hl, hc, hne, Av => exact absurd rfl hne
    | [x0], hl, hc, hne, Av => exact m_len1_1 l Z a0 hw n0 h0 s v k cst x0 X0 SC hcs Es Fv Fc Av
    | [x0, x1], hl, hc, hne, Av => exact m_len2_1 l Z a0 hw n0 h0 s v k cst x0 x1 X0 SC hcs Es Fv Fc Av
    | [x0, x1, x2], hl, hc, hne, Av => exact m_len3_1 l Z a0 hw n0 h0 s v k cst x0 x1 x2 X0 SC hcs Es Fv Fc Av
    | [x0, x1, x2, x3], hl, hc, hne, Av => exact m_len4_1 l Z a0 hw n0 h0 s v k cst x0 x1 x2 x3 X0 SC hcs Es Fv Fc Av
    | [x0, x1, x2, x3, x4], hl, hc, hne, Av => exact m_len5_1 l Z a0 hw n0 h0 s v k cst x0 x1 x2 x3 x4 X0 SC hcs Es Fv Fc Av
    | x0 :: x1 :: x2 :: x3 :: x4 :: x5 :: t, hl, _, _, _ => exact absurd hl (by simp only [List.length_cons]; omega)

theorem m_tca (l : Launch) (Z : State) (a0 : Array Value) (hw : oH Z a0) (n0 : Nat) (h0 : Heap) (s v : Addr) (cst : Int32) (fv : Value) (hfv : fv.isRef = true) (cs : List Int32) (X0 : Old Z n0 h0) (SC : oSC Z cst) (hcs : ¬ cst = 0) (SQ : oSQ Z fv) (SA : oS0 Z) (SH : oS1 Z) (SW : oS2 Z) (STR_ : STR Z h0 s v cs) (hl : cs.length ≤ 5) (hc : ∀ c ∈ cs, Chr c) :
    Met l Z oM19 oC19 1 (some (.array .char)) (oR 5 1 5 73) n0 [] #[(.ref s)] h0 (fun r h => ∃ c k, r = some (.ref c) ∧ h0.size ≤ c ∧ Keep h0 h [] ∧ Exa Z h c "[C" ∧ Arv Z h c k .char (Int32.ofNat cs.length) (cs.map .int) (.int (0 : Int32))) := by
  obtain ⟨Es, Fv, k, ⟨Fc, Av, ha⟩ | ⟨hne, Fc, Av⟩⟩ := STR_
  · match cs, hl, hc, ha, Av with
    | [], hl, hc, ha, Av => exact m_tca0_0 l Z a0 hw n0 h0 s v k cst   X0 SC hcs  Es Fv Fc Av  
    | [x0], hl, hc, ha, Av => exact m_tca1_0 l Z a0 hw n0 h0 s v k cst x0  X0 SC hcs  Es Fv Fc Av (hc x0 (by simp)) (ha x0 (by simp))
    | [x0, x1], hl, hc, ha, Av => exact m_tca2_0 l Z a0 hw n0 h0 s v k cst x0 x1  X0 SC hcs  Es Fv Fc Av (hc x0 (by simp)) (hc x1 (by simp)) (ha x0 (by simp)) (ha x1 (by simp))
    | [x0, x1, x2], hl, hc, ha, Av => exact m_tca3_0 l Z a0 hw n0 h0 s v k cst x0 x1 x2  X0 SC hcs  Es Fv Fc Av (hc x0 (by simp)) (hc x1 (by simp)) (hc x2 (by simp)) (ha x0 (by simp)) (ha x1 (by simp)) (ha x2 (by simp))
    | [x0, x1, x2, x3], hl, hc, ha, Av => exact m_tca4_0 l Z a0 hw n0 h0 s v k cst x0 x1 x2 x3  X0 SC hcs  Es Fv Fc Av (hc x0 (by simp)) (hc x1 (by simp)) (hc x2 (by simp)) (hc x3 (by simp)) (ha x0 (by simp)) (ha x1 (by simp)) (ha x2 (by simp)) (ha x3 (by simp))
    | [x0, x1, x2, x3, x4], hl, hc, ha, Av => exact m_tca5_0 l Z a0 hw n0 h0 s v k cst x0 x1 x2 x3 x4  X0 SC hcs  Es Fv Fc Av (hc x0 (by simp)) (hc x1 (by simp)) (hc x2 (by simp)) (hc x3 (by simp)) (hc x4 (by simp)) (ha x0 (by simp)) (ha x1 (by simp)) (ha x2 (by simp)) (ha x3 (by simp)) (ha x4 (by simp))
    | x0 :: x1 :: x2 :: x3 :: x4 :: x5 :: t, hl, _, _, _ => exact absurd hl (by simp only [List.length_cons]; omega)
  · match cs, hl, hc, hne, Av with
    | [], hl, hc, hne, Av => exact absurd rfl hne
    | [x0], hl, hc, hne, Av => exact m_tca1_1 l Z a0 hw n0 h0 s v k cst x0 fv hfv X0 SC hcs SQ SA SH SW Es Fv Fc Av (hc x0 (by simp)) 
    | [x0, x1], hl, hc, hne, Av => exact m_tca2_1 l Z a0 hw n0 h0 s v k cst x0 x1 fv hfv X0 SC hcs SQ SA SH SW Es Fv Fc Av (hc x0 (by simp)) (hc x1 (by simp)) 
    | [x0, x1, x2], hl, hc, hne, Av => exact m_tca3_1 l Z a0 hw n0 h0 s v k cst x0 x1 x2 fv hfv X0 SC hcs SQ SA SH SW Es Fv Fc Av (hc x0 (by simp)) (hc x1 (by simp)) (hc x2 (by simp)) 
    | [x0, x1, x2, x3], hl, hc, hne, Av => exact m_tca4_1 l Z a0 hw n0 h0 s v k cst x0 x1 x2 x3 fv hfv X0 SC hcs SQ SA SH SW Es Fv Fc Av (hc x0 (by simp)) (hc x1 (by simp)) (hc x2 (by simp)) (hc x3 (by simp)) 
    | [x0, x1, x2, x3, x4], hl, hc, hne, Av => exact m_tca5_1 l Z a0 hw n0 h0 s v k cst x0 x1 x2 x3 x4 fv hfv X0 SC hcs SQ SA SH SW Es Fv Fc Av (hc x0 (by simp)) (hc x1 (by simp)) (hc x2 (by simp)) (hc x3 (by simp)) (hc x4 (by simp)) 
    | x0 :: x1 :: x2 :: x3 :: x4 :: x5 :: t, hl, _, _, _ => exact absurd hl (by simp only [List.length_cons]; omega)

theorem d6_0 : decode oC22 0 = .ok (.aload_n 0, 1) := by decide +kernel
theorem d6_1 : decode oC22 1 = .ok (.invokespecial 3, 3) := by decide +kernel
theorem d6_4 : decode oC22 4 = .ok (.aload_n 0, 1) := by decide +kernel
theorem d6_5 : decode oC22 5 = .ok (.iconst 1, 1) := by decide +kernel
theorem d6_6 : decode oC22 6 = .ok (.anewarray 9, 3) := by decide +kernel
theorem d6_9 : decode oC22 9 = .ok (.dup, 1) := by decide +kernel
theorem d6_10 : decode oC22 10 = .ok (.iconst 0, 1) := by decide +kernel
theorem d6_11 : decode oC22 11 = .ok (.sipush 256, 3) := by decide +kernel
theorem d6_14 : decode oC22 14 = .ok (.newarray .char, 2) := by decide +kernel
theorem d6_16 : decode oC22 16 = .ok (.aastore, 1) := by decide +kernel
theorem d6_17 : decode oC22 17 = .ok (.putfield 11, 3) := by decide +kernel
theorem d6_20 : decode oC22 20 = .ok (.aload_n 0, 1) := by decide +kernel
theorem d6_21 : decode oC22 21 = .ok (.bipush 16, 2) := by decide +kernel
theorem d6_23 : decode oC22 23 = .ok (.newarray .long, 2) := by decide +kernel
theorem d6_25 : decode oC22 25 = .ok (.putfield 15, 3) := by decide +kernel
theorem d6_28 : decode oC22 28 = .ok (.return_, 1) := by decide +kernel
theorem pn_m_tci : plainName "com/example/spanmask/spanmask/ledger/TextColumn" = true := by first | (simp [plainName, overriddenIn]; done) | decide +kernel
theorem m_tci (l : Launch) (Z : State) (a0 : Array Value) (hw : oH Z a0) (n0 : Nat) (h0 : Heap) (t : Addr) (X0 : Old Z n0 h0) (Et : Exa Z h0 t "com/example/spanmask/spanmask/ledger/TextColumn") (gt : n0 ≤ t) (Fchunks : Fld Z h0 t "com/example/spanmask/spanmask/ledger/TextColumn" "chunks" "[[C" .null) (Fends : Fld Z h0 t "com/example/spanmask/spanmask/ledger/TextColumn" "ends" "[J" .null) (Fsize : Fld Z h0 t "com/example/spanmask/spanmask/ledger/TextColumn" "size" "I" (.int (0 : Int32))) (Flength : Fld Z h0 t "com/example/spanmask/spanmask/ledger/TextColumn" "length" "J" (.long (0 : Int64))) :
    Met l Z oM22 oC22 1 none (oR 1 3 273 12) n0 [] #[(.ref t)] h0 (fun r h => r = none ∧ Keep h0 h [t] ∧ ∃ ch ck en, h0.size ≤ ch ∧ h0.size ≤ ck ∧ h0.size ≤ en ∧ COL Z h t ch ck en [] [(.long (0 : Int64)), (.long (0 : Int64)), (.long (0 : Int64)), (.long (0 : Int64)), (.long (0 : Int64)), (.long (0 : Int64)), (.long (0 : Int64)), (.long (0 : Int64)), (.long (0 : Int64)), (.long (0 : Int64)), (.long (0 : Int64)), (.long (0 : Int64)), (.long (0 : Int64)), (.long (0 : Int64)), (.long (0 : Int64)), (.long (0 : Int64))] (0 : Int32)) := by
  refine Met.intro (Ls := #[.val (.ref t)]) (plainFor_of_name pn_m_tci) hw (fun _ => rfl) ?_
  intro w K0
  have K : oK22 w Z a0 := K0
  have K1 := Keep.refl h0 [t]
  refine Rn.aloadN K (q := 1) d6_0 rfl rfl rfl ?_
  refine Rn.initO K (q := 4) (W := 0) (oT 37 rfl) (oT 18 rfl) (oT 19 rfl) (by decide) (by decide) rfl (oL rfl) d6_1 rfl ?_
  refine Rn.aloadN K (q := 5) d6_4 rfl rfl rfl ?_
  refine Rn.iconst K (q := 6) (1 : Int32) d6_5 rfl rfl ?_
  refine Rn.newRA K (q := 9) (cap := 1) (ty := .char) rfl (oT 38 rfl) (oT 39 rfl) (by decide) (by decide) (by decide) (by decide) (by decide) (ad := "[[C") rfl d6_6 rfl ?_
  intro b1 h2 k4 gb1_ X3 A_b1 EA_b1 O_b1
  have ne_t_b1 : t ≠ b1 := fun e => absurd Et.lt (by rw [e, gb1_]; exact Nat.lt_irrefl _)
  have g_b1 : n0 ≤ b1 := by rw [gb1_]; exact X0.1 ▸ X0.2.1
  have sz_b1 : h0.size ≤ b1 := by rw [gb1_]; exact K1.1
  have f6 := K1.ext X3
  have f7 := Et.ext X3
  have f8 := Fchunks.ext X3
  have f9 := Fends.ext X3
  have f10 := Fsize.ext X3
  have f11 := Flength.ext X3
  replace A_b1 : Arv Z h2 b1 k4 (.array .char) (1 : Int32) [.null] .null := A_b1.pad (pad_rep [] .null 1)
  show Rn w l _ n0 _ 9 _ [(.ref b1), (.ref t)] h2 1 1
  refine Rn.dup K (q := 10) d6_9 rfl rfl ?_
  refine Rn.iconst K (q := 11) (0 : Int32) d6_10 rfl rfl ?_
  refine Rn.sipush K (q := 14) (256 : Int32) d6_11 rfl rfl ?_
  refine Rn.newP K (q := 16) (cap := 256) (oT 9 rfl) (by decide) (by decide) (by decide) (by decide) (by decide) (ad := "[C") (by decide) d6_14 rfl ?_
  intro b12 h13 k15 gb12_ X14 A_b12 EA_b12
  have ne_t_b12 : t ≠ b12 := fun e => absurd f7.lt (by rw [e, gb12_]; exact Nat.lt_irrefl _)
  have ne_b1_b12 : b1 ≠ b12 := fun e => absurd EA_b1.lt (by rw [e, gb12_]; exact Nat.lt_irrefl _)
  have ne_b1_b12 : b1 ≠ b12 := fun e => absurd EA_b1.lt (by rw [e, gb12_]; exact Nat.lt_irrefl _)
  have sz_b12 : h0.size ≤ b12 := by rw [gb12_]; exact f6.1
  have f17 := f6.ext X14
  have f18 := f7.ext X14
  have f19 := f8.ext X14
  have f20 := f9.ext X14
  have f21 := f10.ext X14
  have f22 := f11.ext X14
  have f23 := A_b1.ext X14
  have f24 := EA_b1.ext X14
  show Rn w l _ n0 _ 16 _ [(.ref b12), oZ, (.ref b1), (.ref b1), (.ref t)] h13 2 257
  refine Rn.aastore K (q := 17) (i := 0) f23 rfl (fun c a1 a2 => Sto.ofVA a1 a2 O_b1 (Ins.self EA_b12)) rfl (by decide) rfl (oL rfl) g_b1 d6_16 rfl ?_
  intro h25 W26 A27
  have f29 := f17.wr W26 (Or.inr sz_b1)
  have f30 := f18.wr W26
  have f31 := Fld.other W26 f19 (Or.inl ne_t_b1)
  have f32 := Fld.other W26 f20 (Or.inl ne_t_b1)
  have f33 := Fld.other W26 f21 (Or.inl ne_t_b1)
  have f34 := Fld.other W26 f22 (Or.inl ne_t_b1)
  have f35 := f24.wr W26
  have f36 := A_b12.other W26 (Ne.symm ne_b1_b12)
  have f37 := EA_b12.wr W26
  replace A27 : Arv Z h25 b1 k4 (.array .char) (1 : Int32) [(.ref b12)] .null := A27
  refine Rn.putF K (q := 20) (ty := (.array (.array .char))) (oT 41 rfl) Via.refl f31 f30 (Or.inl (oT 42 rfl)) (oT 32 rfl) (by decide) rfl rfl gt d6_17 rfl ?_
  intro h38 W39
  have f41 := f29.wr W39 (Or.inl (oT 0 rfl))
  have f42 := f30.wr W39
  have f43 := Fld.same W39 f31
  have f44 := Fld.other W39 f32 (Or.inr (slot_ne (Or.inl (K.hw _ (oT 45 rfl))) (Or.inl (K.hw _ (oT 42 rfl))) (by decide) (t := (.array .long)) (t' := (.array (.array .char))) (by decide) (by decide)))
  have f45 := Fld.other W39 f33 (Or.inr (slot_ne (Or.inl (K.hw _ (oT 88 rfl))) (Or.inl (K.hw _ (oT 42 rfl))) (by decide) (t := .int) (t' := (.array (.array .char))) (by decide) (by decide)))
  have f46 := Fld.other W39 f34 (Or.inr (slot_ne (Or.inl (K.hw _ (oT 90 rfl))) (Or.inl (K.hw _ (oT 42 rfl))) (by decide) (t := .long) (t' := (.array (.array .char))) (by decide) (by decide)))
  have f47 := A27.other W39 (Ne.symm ne_t_b1)
  have f48 := f35.wr W39
  have f49 := f36.other W39 (Ne.symm ne_t_b12)
  have f50 := f37.wr W39
  refine Rn.aloadN K (q := 21) d6_20 rfl rfl rfl ?_
  refine Rn.bipush K (q := 23) (16 : Int32) d6_21 rfl rfl ?_
  refine Rn.newP K (q := 25) (cap := 16) (oT 43 rfl) (by decide) (by decide) (by decide) (by decide) (by decide) (ad := "[J") (by decide) d6_23 rfl ?_
  intro b51 h52 k54 gb51_ X53 A_b51 EA_b51
  have ne_t_b51 : t ≠ b51 := fun e => absurd f42.lt (by rw [e, gb51_]; exact Nat.lt_irrefl _)
  have ne_b1_b51 : b1 ≠ b51 := fun e => absurd f48.lt (by rw [e, gb51_]; exact Nat.lt_irrefl _)
  have ne_b1_b51 : b1 ≠ b51 := fun e => absurd f48.lt (by rw [e, gb51_]; exact Nat.lt_irrefl _)
  have ne_b12_b51 : b12 ≠ b51 := fun e => absurd f50.lt (by rw [e, gb51_]; exact Nat.lt_irrefl _)
  have ne_b12_b51 : b12 ≠ b51 := fun e => absurd f50.lt (by rw [e, gb51_]; exact Nat.lt_irrefl _)
  have sz_b51 : h0.size ≤ b51 := by rw [gb51_]; exact f41.1
  have f56 := f41.ext X53
  have f57 := f42.ext X53
  have f58 := f43.ext X53
  have f59 := f44.ext X53
  have f60 := f45.ext X53
  have f61 := f46.ext X53
  have f62 := f47.ext X53
  have f63 := f48.ext X53
  have f64 := f49.ext X53
  have f65 := f50.ext X53
  replace A_b51 : Arv Z h52 b51 k54 .long (16 : Int32) [(.long (0 : Int64)), (.long (0 : Int64)), (.long (0 : Int64)), (.long (0 : Int64)), (.long (0 : Int64)), (.long (0 : Int64)), (.long (0 : Int64)), (.long (0 : Int64)), (.long (0 : Int64)), (.long (0 : Int64)), (.long (0 : Int64)), (.long (0 : Int64)), (.long (0 : Int64)), (.long (0 : Int64)), (.long (0 : Int64)), (.long (0 : Int64))] (.long (0 : Int64)) := A_b51.pad (pad_rep [] (.long (0 : Int64)) 16)
  show Rn w l _ n0 _ 25 _ [(.ref b51), (.ref t)] h52 3 273
  refine Rn.putF K (q := 28) (ty := (.array .long)) (oT 44 rfl) Via.refl f59 f57 (Or.inl (oT 45 rfl)) (oT 32 rfl) (by decide) rfl rfl gt d6_25 rfl ?_
  intro h66 W67
  have f69 := f56.wr W67 (Or.inl (oT 0 rfl))
  have f70 := f57.wr W67
  have f71 := Fld.other W67 f58 (Or.inr (slot_ne (Or.inl (K.hw _ (oT 42 rfl))) (Or.inl (K.hw _ (oT 45 rfl))) (by decide) (t := (.array (.array .char))) (t' := (.array .long)) (by decide) (by decide)))
  have f72 := Fld.same W67 f59
  have f73 := Fld.other W67 f60 (Or.inr (slot_ne (Or.inl (K.hw _ (oT 88 rfl))) (Or.inl (K.hw _ (oT 45 rfl))) (by decide) (t := .int) (t' := (.array .long)) (by decide) (by decide)))
  have f74 := Fld.other W67 f61 (Or.inr (slot_ne (Or.inl (K.hw _ (oT 90 rfl))) (Or.inl (K.hw _ (oT 45 rfl))) (by decide) (t := .long) (t' := (.array .long)) (by decide) (by decide)))
  have f75 := f62.other W67 (Ne.symm ne_t_b1)
  have f76 := f63.wr W67
  have f77 := f64.other W67 (Ne.symm ne_t_b12)
  have f78 := f65.wr W67
  have f79 := A_b51.other W67 (Ne.symm ne_t_b51)
  have f80 := EA_b51.wr W67
  exact Rn.retV K rfl d6_28 (by decide) (by decide) ⟨rfl, f69, b1, b12, b51, sz_b1, sz_b12, sz_b51, ⟨f70, f76, f78, f80, f71, f72, f73, f74, ⟨_, f75⟩, ⟨_, f77⟩, ⟨_, f79⟩⟩⟩
theorem d21_0 : decode oC23 0 = .ok (.aload_n 0, 1) := by decide +kernel
theorem d21_1 : decode oC23 1 = .ok (.getfield 11, 3) := by decide +kernel
theorem d21_4 : decode oC23 4 = .ok (.arraylength, 1) := by decide +kernel
theorem d21_5 : decode oC23 5 = .ok (.iconst 1, 1) := by decide +kernel
theorem d21_6 : decode oC23 6 = .ok (.isub, 1) := by decide +kernel
theorem d21_7 : decode oC23 7 = .ok (.istore_n 1, 1) := by decide +kernel
theorem d21_8 : decode oC23 8 = .ok (.aload_n 0, 1) := by decide +kernel
theorem d21_9 : decode oC23 9 = .ok (.getfield 51, 3) := by decide +kernel
theorem d21_12 : decode oC23 12 = .ok (.ldc2_w 71, 3) := by decide +kernel
theorem d21_15 : decode oC23 15 = .ok (.land, 1) := by decide +kernel
theorem d21_16 : decode oC23 16 = .ok (.l2i, 1) := by decide +kernel
theorem d21_17 : decode oC23 17 = .ok (.istore_n 2, 1) := by decide +kernel
theorem d21_18 : decode oC23 18 = .ok (.aload_n 0, 1) := by decide +kernel
theorem d21_19 : decode oC23 19 = .ok (.getfield 51, 3) := by decide +kernel
theorem d21_22 : decode oC23 22 = .ok (.bipush 22, 2) := by decide +kernel
theorem d21_24 : decode oC23 24 = .ok (.lushr, 1) := by decide +kernel
theorem d21_25 : decode oC23 25 = .ok (.iload_n 1, 1) := by decide +kernel
theorem d21_26 : decode oC23 26 = .ok (.i2l, 1) := by decide +kernel
theorem d21_27 : decode oC23 27 = .ok (.lcmp, 1) := by decide +kernel
theorem d21_28 : decode oC23 28 = .ok (.ifCond .le 39, 3) := by decide +kernel
theorem d21_67 : decode oC23 67 = .ok (.iload_n 2, 1) := by decide +kernel
theorem d21_68 : decode oC23 68 = .ok (.aload_n 0, 1) := by decide +kernel
theorem d21_69 : decode oC23 69 = .ok (.getfield 11, 3) := by decide +kernel
theorem d21_72 : decode oC23 72 = .ok (.iload_n 1, 1) := by decide +kernel
theorem d21_73 : decode oC23 73 = .ok (.aaload, 1) := by decide +kernel
theorem d21_74 : decode oC23 74 = .ok (.arraylength, 1) := by decide +kernel
theorem d21_75 : decode oC23 75 = .ok (.if_icmp .ne 27, 3) := by decide +kernel
theorem d21_102 : decode oC23 102 = .ok (.aload_n 0, 1) := by decide +kernel
theorem d21_103 : decode oC23 103 = .ok (.getfield 11, 3) := by decide +kernel
theorem d21_106 : decode oC23 106 = .ok (.iload_n 1, 1) := by decide +kernel
theorem d21_107 : decode oC23 107 = .ok (.aaload, 1) := by decide +kernel
theorem d21_108 : decode oC23 108 = .ok (.areturn, 1) := by decide +kernel
theorem m_room (l : Launch) (Z : State) (a0 : Array Value) (hw : oH Z a0) (n0 : Nat) (h0 : Heap) (t ch ck en : Addr) (ws : List Int32) (es : List Value) (z : Int32) (X0 : Old Z n0 h0) (QC : COL Z h0 t ch ck en ws es z) (hl : ws.length ≤ 15) :
    Met l Z oM23 oC23 3 (some (.array .char)) (oR 0 0 0 0) n0 [] #[(.ref t)] h0 (fun v h => v = some (.ref ck) ∧ h0 = h) := by
  refine Met.intro (Ls := #[.val (.ref t), .unset, .unset]) (plainFor_of_name pn_m_tci) hw (fun _ => rfl) ?_
  intro w K0
  have K : oK23 w Z a0 := K0
  obtain ⟨Et, Eh, Ek, Ee, Fh, Fe, Fz, Fl, ⟨kh, Ah⟩, ⟨kk, Ak⟩, ⟨ke, Ae⟩⟩ := QC
  refine Rn.aloadN K (q := 1) d21_0 rfl rfl rfl ?_
  refine Rn.getF K (q := 4) (oT 41 rfl) Via.refl Fh d21_1 rfl ?_
  refine Rn.arraylength K (q := 5) Ah d21_4 rfl ?_
  refine Rn.iconst K (q := 6) (1 : Int32) d21_5 rfl rfl ?_
  refine Rn.isub K (q := 7) d21_6 rfl ?_
  show Rn w l _ n0 _ 7 _ [oZ] h0 0 0
  refine Rn.istoreN K (q := 8) (Ls' := #[.val (.ref t), .val oZ, .unset]) d21_7 rfl rfl ?_
  refine Rn.aloadN K (q := 9) d21_8 rfl rfl rfl ?_
  refine Rn.getF K (q := 12) (oT 89 rfl) Via.refl Fl d21_9 rfl ?_
  refine Rn.ldc2J K (q := 15) (4194303 : Int64) (oT 114 rfl) d21_12 rfl ?_
  refine Rn.land K (q := 16) d21_15 rfl ?_
  refine Rn.l2i K (q := 17) d21_16 rfl ?_
  refine Rn.istoreN K (q := 18) (Ls' := #[.val (.ref t), .val oZ, .val (.int ((Int64.ofNat ws.length) &&& (4194303 : Int64)).toInt32)]) d21_17 rfl rfl ?_
  refine Rn.aloadN K (q := 19) d21_18 rfl rfl rfl ?_
  refine Rn.getF K (q := 22) (oT 89 rfl) Via.refl Fl d21_19 rfl ?_
  refine Rn.bipush K (q := 24) (22 : Int32) d21_22 rfl rfl ?_
  refine Rn.lushr K (q := 25) d21_24 rfl ?_
  refine Rn.iloadN K (q := 26) d21_25 rfl rfl ?_
  refine Rn.i2l K (q := 27) d21_26 rfl ?_
  refine Rn.lcmp K (q := 28) d21_27 rfl ?_
  refine Rn.ifY K (q := 67) d21_28 (XT.i0_le_t (fun z => (own_r1 hl) ((own_lc_gt _ _).mp z))) (by decide) (by decide) ?_
  refine Rn.iloadN K (q := 68) d21_67 rfl rfl ?_
  refine Rn.aloadN K (q := 69) d21_68 rfl rfl rfl ?_
  refine Rn.getF K (q := 72) (oT 41 rfl) Via.refl Fh d21_69 rfl ?_
  refine Rn.iloadN K (q := 73) d21_72 rfl rfl ?_
  refine Rn.aaload K (q := 74) (v := (.ref ck)) Ah rfl (by decide) rfl d21_73 rfl ?_
  refine Rn.arraylength K (q := 75) Ak d21_74 rfl ?_
  refine Rn.icY K (q := 102) d21_75 (XT.ii_ne_t (own_r2 hl)) (by decide) (by decide) ?_
  refine Rn.aloadN K (q := 103) d21_102 rfl rfl rfl ?_
  refine Rn.getF K (q := 106) (oT 41 rfl) Via.refl Fh d21_103 rfl ?_
  refine Rn.iloadN K (q := 107) d21_106 rfl rfl ?_
  refine Rn.aaload K (q := 108) (v := (.ref ck)) Ah rfl (by decide) rfl d21_107 rfl ?_
  exact Rn.retA K (.array .char) rfl rfl rfl d21_108 (by decide) (by decide) ⟨rfl, rfl⟩
theorem d22_0 : decode oC24 0 = .ok (.iload_n 0, 1) := by decide +kernel
theorem d22_1 : decode oC24 1 = .ok (.iload_n 1, 1) := by decide +kernel
theorem d22_2 : decode oC24 2 = .ok (.if_icmp .gt 7, 3) := by decide +kernel
theorem d22_5 : decode oC24 5 = .ok (.iload_n 0, 1) := by decide +kernel
theorem d22_6 : decode oC24 6 = .ok (.goto 4, 3) := by decide +kernel
theorem d22_10 : decode oC24 10 = .ok (.ireturn, 1) := by decide +kernel
theorem m_min (l : Launch) (Z : State) (a0 : Array Value) (hw : oH Z a0) (n0 : Nat) (h0 : Heap) (x y : Int32) (X0 : Old Z n0 h0) (hm : ¬ y < x) :
    Met l Z oM24 oC24 2 (some .int) (oR 0 0 0 0) n0 [] #[(.int x), (.int y)] h0 (fun v h => v = some (.int x) ∧ h0 = h) := by
  refine Met.intro (Ls := #[.val (.int x), .val (.int y)]) (Jvm.Free.JP.mathPlain rfl (by decide +kernel)) hw (fun _ => rfl) ?_
  intro w K0
  have K : oK24 w Z a0 := K0
  refine Rn.iloadN K (q := 1) d22_0 rfl rfl ?_
  refine Rn.iloadN K (q := 2) d22_1 rfl rfl ?_
  refine Rn.icN K (q := 5) d22_2 (XT.ii_gt_f hm) rfl ?_
  refine Rn.iloadN K (q := 6) d22_5 rfl rfl ?_
  refine Rn.goto K (q := 10) d22_6 (by decide) (by decide) ?_
  exact Rn.retI K rfl d22_10 (by decide) (by decide) ⟨rfl, rfl⟩
theorem d14_0 : decode oC25 0 = .ok (.iconst 0, 1) := by decide +kernel
theorem d14_1 : decode oC25 1 = .ok (.istore 4, 2) := by decide +kernel
theorem d14_3 : decode oC25 3 = .ok (.iload 4, 2) := by decide +kernel
theorem d14_5 : decode oC25 5 = .ok (.iload_n 3, 1) := by decide +kernel
theorem d14_6 : decode oC25 6 = .ok (.if_icmp .ge 71, 3) := by decide +kernel
theorem d14_9 : decode oC25 9 = .ok (.aload_n 0, 1) := by decide +kernel
theorem d14_10 : decode oC25 10 = .ok (.invokevirtual 112, 3) := by decide +kernel
theorem d14_13 : decode oC25 13 = .ok (.astore 5, 2) := by decide +kernel
theorem d14_15 : decode oC25 15 = .ok (.aload_n 0, 1) := by decide +kernel
theorem d14_16 : decode oC25 16 = .ok (.getfield 51, 3) := by decide +kernel
theorem d14_19 : decode oC25 19 = .ok (.ldc2_w 71, 3) := by decide +kernel
theorem d14_22 : decode oC25 22 = .ok (.land, 1) := by decide +kernel
theorem d14_23 : decode oC25 23 = .ok (.l2i, 1) := by decide +kernel
theorem d14_24 : decode oC25 24 = .ok (.istore 6, 2) := by decide +kernel
theorem d14_26 : decode oC25 26 = .ok (.iload_n 3, 1) := by decide +kernel
theorem d14_27 : decode oC25 27 = .ok (.iload 4, 2) := by decide +kernel
theorem d14_29 : decode oC25 29 = .ok (.isub, 1) := by decide +kernel
theorem d14_30 : decode oC25 30 = .ok (.aload 5, 2) := by decide +kernel
theorem d14_32 : decode oC25 32 = .ok (.arraylength, 1) := by decide +kernel
theorem d14_33 : decode oC25 33 = .ok (.iload 6, 2) := by decide +kernel
theorem d14_35 : decode oC25 35 = .ok (.isub, 1) := by decide +kernel
theorem d14_36 : decode oC25 36 = .ok (.invokestatic 115, 3) := by decide +kernel
theorem d14_39 : decode oC25 39 = .ok (.istore 7, 2) := by decide +kernel
theorem d14_41 : decode oC25 41 = .ok (.aload_n 1, 1) := by decide +kernel
theorem d14_42 : decode oC25 42 = .ok (.iload_n 2, 1) := by decide +kernel
theorem d14_43 : decode oC25 43 = .ok (.iload 4, 2) := by decide +kernel
theorem d14_45 : decode oC25 45 = .ok (.iadd, 1) := by decide +kernel
theorem d14_46 : decode oC25 46 = .ok (.aload 5, 2) := by decide +kernel
theorem d14_48 : decode oC25 48 = .ok (.iload 6, 2) := by decide +kernel
theorem d14_50 : decode oC25 50 = .ok (.iload 7, 2) := by decide +kernel
theorem d14_52 : decode oC25 52 = .ok (.invokestatic 118, 3) := by decide +kernel
theorem d14_55 : decode oC25 55 = .ok (.iload 4, 2) := by decide +kernel
theorem d14_57 : decode oC25 57 = .ok (.iload 7, 2) := by decide +kernel
theorem d14_59 : decode oC25 59 = .ok (.iadd, 1) := by decide +kernel
theorem d14_60 : decode oC25 60 = .ok (.istore 4, 2) := by decide +kernel
theorem d14_62 : decode oC25 62 = .ok (.aload_n 0, 1) := by decide +kernel
theorem d14_63 : decode oC25 63 = .ok (.dup, 1) := by decide +kernel
theorem d14_64 : decode oC25 64 = .ok (.getfield 51, 3) := by decide +kernel
theorem d14_67 : decode oC25 67 = .ok (.iload 7, 2) := by decide +kernel
theorem d14_69 : decode oC25 69 = .ok (.i2l, 1) := by decide +kernel
theorem d14_70 : decode oC25 70 = .ok (.ladd, 1) := by decide +kernel
theorem d14_71 : decode oC25 71 = .ok (.putfield 51, 3) := by decide +kernel
theorem d14_74 : decode oC25 74 = .ok (.goto (-71), 3) := by decide +kernel
theorem d14_77 : decode oC25 77 = .ok (.return_, 1) := by decide +kernel
theorem m_app (l : Launch) (Z : State) (a0 : Array Value) (hw : oH Z a0) (n0 : Nat) (h0 : Heap) (t ch ck en : Addr) (c : Addr) (kc : ClassId) (ws cs : List Int32) (es : List Value) (z : Int32) (X0 : Old Z n0 h0) (QC : COL Z h0 t ch ck en ws es z) (hl : ws.length ≤ 10) (hl2 : cs.length ≤ 5) (gt : n0 ≤ t) (gk : n0 ≤ ck) (hck : c ≠ ck) (Ec : Exa Z h0 c "[C") (Ac : Arv Z h0 c kc .char (Int32.ofNat cs.length) (cs.map .int) (.int (0 : Int32))) :
    Met l Z oM25 oC25 8 none (oR 1 0 0 40) n0 [] #[(.ref t), (.ref c), oZ, (.int (Int32.ofNat cs.length))] h0 (fun r h => r = none ∧ Keep h0 h [t, ck] ∧ COL Z h t ch ck en (ws ++ cs) es z) := by
  refine Met.intro (Ls := #[.val (.ref t), .val (.ref c), .val oZ, .val (.int (Int32.ofNat cs.length)), .unset, .unset, .unset, .unset]) (plainFor_of_name pn_m_tci) hw (fun _ => rfl) ?_
  intro w K0
  have K : oK25 w Z a0 := K0
  obtain ⟨Et, Eh, Ek, Ee, Fh, Fe, Fz, Fl, ⟨kh, Ah⟩, ⟨kk, Ak⟩, ⟨ke, Ae⟩⟩ := QC
  have K1 := Keep.refl h0 [t, ck]
  refine Rn.iconst K (q := 1) (0 : Int32) d14_0 rfl rfl ?_
  refine Rn.istore K (q := 3) (Ls' := #[.val (.ref t), .val (.ref c), .val oZ, .val (.int (Int32.ofNat cs.length)), .val oZ, .unset, .unset, .unset]) d14_1 rfl rfl ?_
  refine Rn.iload K (q := 5) d14_3 rfl rfl ?_
  refine Rn.iloadN K (q := 6) d14_5 rfl rfl ?_
  by_cases hc6 : (0 : Int32) < (Int32.ofNat cs.length)
  · refine Rn.icN K (q := 9) d14_6 (XT.ii_ge_f hc6) rfl ?_
    refine Rn.aloadN K (q := 10) d14_9 rfl rfl rfl ?_
    refine Rn.privD K (q := 13) (W := 0) (y := oM23) (y2 := oM26) (b := t) (argsL := []) (rest := []) (oT 110 rfl) (oT 111 rfl) (oT 47 rfl) (oT 49 rfl) rfl (oT 112 rfl) (oT 113 rfl) (oT 33 rfl) (by decide) (m_room l Z a0 hw n0 h0 t ch ck en ws es z X0 ⟨Et, Eh, Ek, Ee, Fh, Fe, Fz, Fl, ⟨_, Ah⟩, ⟨_, Ak⟩, ⟨_, Ae⟩⟩ (by omega)) (Et) (by decide) (by decide) rfl (lenOf pd_17 rfl) rfl (oL rfl) d14_10 rfl (by decide) (by decide) ?_
    rintro _ _ ⟨rfl, rfl⟩
    show Rn w l _ n0 _ 13 _ [(.ref ck)] h0 0 0
    refine Rn.astore K (q := 15) (Ls' := #[.val (.ref t), .val (.ref c), .val oZ, .val (.int (Int32.ofNat cs.length)), .val oZ, .val (.ref ck), .unset, .unset]) d14_13 rfl rfl rfl ?_
    refine Rn.aloadN K (q := 16) d14_15 rfl rfl rfl ?_
    refine Rn.getF K (q := 19) (oT 89 rfl) Via.refl Fl d14_16 rfl ?_
    refine Rn.ldc2J K (q := 22) (4194303 : Int64) (oT 114 rfl) d14_19 rfl ?_
    refine Rn.land K (q := 23) d14_22 rfl ?_
    refine Rn.l2i K (q := 24) d14_23 rfl ?_
    rw [own_l1 hl]
    refine Rn.istore K (q := 26) (Ls' := #[.val (.ref t), .val (.ref c), .val oZ, .val (.int (Int32.ofNat cs.length)), .val oZ, .val (.ref ck), .val (.int (Int32.ofNat ws.length)), .unset]) d14_24 rfl rfl ?_
    refine Rn.iloadN K (q := 27) d14_26 rfl rfl ?_
    refine Rn.iload K (q := 29) d14_27 rfl rfl ?_
    refine Rn.isub K (q := 30) d14_29 rfl ?_
    rw [Int32.sub_zero]
    refine Rn.aload K (q := 32) d14_30 rfl rfl rfl ?_
    refine Rn.arraylength K (q := 33) Ak d14_32 rfl ?_
    refine Rn.iload K (q := 35) d14_33 rfl rfl ?_
    refine Rn.isub K (q := 36) d14_35 rfl ?_
    refine Rn.stat K (q := 39) (W := 0) (y := oM24) (argsL := [(.int (Int32.ofNat cs.length)), (.int ((256 : Int32) - (Int32.ofNat ws.length)))]) (rest := []) (oT 115 rfl) (oT 116 rfl) (oT 118 rfl) (oT 117 rfl) (by decide) (m_min l Z a0 hw n0 h0 (Int32.ofNat cs.length) ((256 : Int32) - (Int32.ofNat ws.length)) X0 (own_mn hl hl2)) (by decide) (by decide) rfl (lenOf pd_18 rfl) rfl (oL rfl) d14_36 rfl (by decide) (by decide) ?_
    rintro _ _ ⟨rfl, rfl⟩
    show Rn w l _ n0 _ 39 _ [(.int (Int32.ofNat cs.length))] h0 0 0
    refine Rn.istore K (q := 41) (Ls' := #[.val (.ref t), .val (.ref c), .val oZ, .val (.int (Int32.ofNat cs.length)), .val oZ, .val (.ref ck), .val (.int (Int32.ofNat ws.length)), .val (.int (Int32.ofNat cs.length))]) d14_39 rfl rfl ?_
    refine Rn.aloadN K (q := 42) d14_41 rfl rfl rfl ?_
    refine Rn.iloadN K (q := 43) d14_42 rfl rfl ?_
    refine Rn.iload K (q := 45) d14_43 rfl rfl ?_
    refine Rn.iadd K (q := 46) d14_45 rfl ?_
    show Rn w l _ n0 _ 46 _ [oZ, (.ref c)] h0 0 0
    refine Rn.aload K (q := 48) d14_46 rfl rfl rfl ?_
    refine Rn.iload K (q := 50) d14_48 rfl rfl ?_
    refine Rn.iload K (q := 52) d14_50 rfl rfl ?_
    refine Rn.acopy K (q := 55) (W := 0) (o := 0) (p := ws.length) (n := cs.length) (z := 256) (by decide) rfl (oT 119 rfl) (oT 122 rfl) (oT 120 rfl) (oT 121 rfl) Ac Ak rfl rfl rfl (by rw [own_cl (by omega)]; omega) rfl (by omega) gk rfl (oL rfl) (by decide) (by decide) d14_52 rfl ?_
    intro h1 Kc Ac1
    have f2 := K1.trans Kc (allS (Or.inl (oT 1 rfl)) all0)
    have f3 := Et.keep Kc
    have f4 := Eh.keep Kc
    have f5 := Ek.keep Kc
    have f6 := Ee.keep Kc
    have f7 := Fh.keep Kc (ninS (ne_exa Et Ek (by decide)) nin0)
    have f8 := Fe.keep Kc (ninS (ne_exa Et Ek (by decide)) nin0)
    have f9 := Fz.keep Kc (ninS (ne_exa Et Ek (by decide)) nin0)
    have f10 := Fl.keep Kc (ninS (ne_exa Et Ek (by decide)) nin0)
    have f11 := Ah.keep Kc (ninS (ne_exa Eh Ek (by decide)) nin0)
    have f12 := Ae.keep Kc (ninS (ne_exa Ee Ek (by decide)) nin0)
    replace Ac1 := Ac1.pad (own_cp (by omega))
    show Rn w l _ n0 _ 55 _ [] h1 0 0
    refine Rn.iload K (q := 57) d14_55 rfl rfl ?_
    refine Rn.iload K (q := 59) d14_57 rfl rfl ?_
    refine Rn.iadd K (q := 60) d14_59 rfl ?_
    rw [Int32.zero_add]
    refine Rn.istore K (q := 62) (Ls' := #[.val (.ref t), .val (.ref c), .val oZ, .val (.int (Int32.ofNat cs.length)), .val (.int (Int32.ofNat cs.length)), .val (.ref ck), .val (.int (Int32.ofNat ws.length)), .val (.int (Int32.ofNat cs.length))]) d14_60 rfl rfl ?_
    refine Rn.aloadN K (q := 63) d14_62 rfl rfl rfl ?_
    refine Rn.dup K (q := 64) d14_63 rfl rfl ?_
    refine Rn.getF K (q := 67) (oT 89 rfl) Via.refl f10 d14_64 rfl ?_
    refine Rn.iload K (q := 69) d14_67 rfl rfl ?_
    refine Rn.i2l K (q := 70) d14_69 rfl ?_
    refine Rn.ladd K (q := 71) d14_70 rfl ?_
    rw [own_l2 hl hl2]
    refine Rn.putF K (q := 74) (ty := .long) (oT 89 rfl) Via.refl f10 f3 (Or.inl (oT 90 rfl)) (oT 32 rfl) (by decide) rfl rfl gt d14_71 rfl ?_
    intro h15 W16
    have f18 := f2.wr W16 (Or.inl (oT 0 rfl))
    have f19 := f3.wr W16
    have f20 := f4.wr W16
    have f21 := f5.wr W16
    have f22 := f6.wr W16
    have f23 := Fld.other W16 f7 (Or.inr (slot_ne (Or.inl (K.hw _ (oT 42 rfl))) (Or.inl (K.hw _ (oT 90 rfl))) (by decide) (t := (.array (.array .char))) (t' := .long) (by decide) (by decide)))
    have f24 := Fld.other W16 f8 (Or.inr (slot_ne (Or.inl (K.hw _ (oT 45 rfl))) (Or.inl (K.hw _ (oT 90 rfl))) (by decide) (t := (.array .long)) (t' := .long) (by decide) (by decide)))
    have f25 := Fld.other W16 f9 (Or.inr (slot_ne (Or.inl (K.hw _ (oT 88 rfl))) (Or.inl (K.hw _ (oT 90 rfl))) (by decide) (t := .int) (t' := .long) (by decide) (by decide)))
    have f26 := Fld.same W16 f10
    have f27 := f11.other W16 (ne_exa f4 f3 (by decide))
    have f28 := f12.other W16 (ne_exa f6 f3 (by decide))
    have f31 := Ac1.other W16 (ne_exa f5 f3 (by decide))
    refine Rn.goto K (q := 3) d14_74 (by decide) (by decide) ?_
    refine Rn.iload K (q := 5) d14_3 rfl rfl ?_
    refine Rn.iloadN K (q := 6) d14_5 rfl rfl ?_
    refine Rn.icY K (q := 77) d14_6 (XT.ii_ge_t Int32.lt_irrefl) (by decide) (by decide) ?_
    exact Rn.retV K rfl d14_77 (by decide) (by decide) ⟨rfl, f18, ⟨f19, f20, f21, f22, f23, f24, f25, f26, ⟨_, f27⟩, ⟨_, f31⟩, ⟨_, f28⟩⟩⟩
  · refine Rn.icY K (q := 77) d14_6 (XT.ii_ge_t hc6) (by decide) (by decide) ?_
    obtain rfl : cs = [] := own_nil hc6 hl2
    rw [List.append_nil]
    exact Rn.retV K rfl d14_77 (by decide) (by decide) ⟨rfl, K1, ⟨Et, Eh, Ek, Ee, Fh, Fe, Fz, Fl, ⟨_, Ah⟩, ⟨_, Ak⟩, ⟨_, Ae⟩⟩⟩
theorem d15_0 : decode oC26 0 = .ok (.aload_n 0, 1) := by decide +kernel
theorem d15_1 : decode oC26 1 = .ok (.getfield 54, 3) := by decide +kernel
theorem d15_4 : decode oC26 4 = .ok (.aload_n 0, 1) := by decide +kernel
theorem d15_5 : decode oC26 5 = .ok (.getfield 15, 3) := by decide +kernel
theorem d15_8 : decode oC26 8 = .ok (.arraylength, 1) := by decide +kernel
theorem d15_9 : decode oC26 9 = .ok (.if_icmp .ne 25, 3) := by decide +kernel
theorem d15_34 : decode oC26 34 = .ok (.aload_n 0, 1) := by decide +kernel
theorem d15_35 : decode oC26 35 = .ok (.getfield 15, 3) := by decide +kernel
theorem d15_38 : decode oC26 38 = .ok (.aload_n 0, 1) := by decide +kernel
theorem d15_39 : decode oC26 39 = .ok (.dup, 1) := by decide +kernel
theorem d15_40 : decode oC26 40 = .ok (.getfield 54, 3) := by decide +kernel
theorem d15_43 : decode oC26 43 = .ok (.dup_x1, 1) := by decide +kernel
theorem d15_44 : decode oC26 44 = .ok (.iconst 1, 1) := by decide +kernel
theorem d15_45 : decode oC26 45 = .ok (.iadd, 1) := by decide +kernel
theorem d15_46 : decode oC26 46 = .ok (.putfield 54, 3) := by decide +kernel
theorem d15_49 : decode oC26 49 = .ok (.aload_n 0, 1) := by decide +kernel
theorem d15_50 : decode oC26 50 = .ok (.getfield 51, 3) := by decide +kernel
theorem d15_53 : decode oC26 53 = .ok (.lastore, 1) := by decide +kernel
theorem d15_54 : decode oC26 54 = .ok (.return_, 1) := by decide +kernel
theorem m_end0 (l : Launch) (Z : State) (a0 : Array Value) (hw : oH Z a0) (n0 : Nat) (h0 : Heap) (t ch ck en : Addr) (ws : List Int32)  (X0 : Old Z n0 h0) (QC : COL Z h0 t ch ck en ws [(.long (0 : Int64)), (.long (0 : Int64)), (.long (0 : Int64)), (.long (0 : Int64)), (.long (0 : Int64)), (.long (0 : Int64)), (.long (0 : Int64)), (.long (0 : Int64)), (.long (0 : Int64)), (.long (0 : Int64)), (.long (0 : Int64)), (.long (0 : Int64)), (.long (0 : Int64)), (.long (0 : Int64)), (.long (0 : Int64)), (.long (0 : Int64))] (0 : Int32)) (gt : n0 ≤ t) (ge : n0 ≤ en) :
    Met l Z oM27 oC26 1 none (oR 0 0 0 0) n0 [] #[(.ref t)] h0 (fun r h => r = none ∧ Keep h0 h [t, en] ∧ COL Z h t ch ck en ws [(.long (Int64.ofNat ws.length)), (.long (0 : Int64)), (.long (0 : Int64)), (.long (0 : Int64)), (.long (0 : Int64)), (.long (0 : Int64)), (.long (0 : Int64)), (.long (0 : Int64)), (.long (0 : Int64)), (.long (0 : Int64)), (.long (0 : Int64)), (.long (0 : Int64)), (.long (0 : Int64)), (.long (0 : Int64)), (.long (0 : Int64)), (.long (0 : Int64))] (1 : Int32)) := by
  refine Met.intro (Ls := #[.val (.ref t)]) (plainFor_of_name pn_m_tci) hw (fun _ => rfl) ?_
  intro w K0
  have K : oK26 w Z a0 := K0
  obtain ⟨Et, Eh, Ek, Ee, Fh, Fe, Fz, Fl, ⟨kh, Ah⟩, ⟨kk, Ak⟩, ⟨ke, Ae⟩⟩ := QC
  have K1 := Keep.refl h0 [t, en]
  refine Rn.aloadN K (q := 1) d15_0 rfl rfl rfl ?_
  refine Rn.getF K (q := 4) (oT 87 rfl) Via.refl Fz d15_1 rfl ?_
  refine Rn.aloadN K (q := 5) d15_4 rfl rfl rfl ?_
  refine Rn.getF K (q := 8) (oT 44 rfl) Via.refl Fe d15_5 rfl ?_
  refine Rn.arraylength K (q := 9) Ae d15_8 rfl ?_
  refine Rn.icY K (q := 34) d15_9 (XT.ii_ne_t (by decide)) (by decide) (by decide) ?_
  refine Rn.aloadN K (q := 35) d15_34 rfl rfl rfl ?_
  refine Rn.getF K (q := 38) (oT 44 rfl) Via.refl Fe d15_35 rfl ?_
  refine Rn.aloadN K (q := 39) d15_38 rfl rfl rfl ?_
  refine Rn.dup K (q := 40) d15_39 rfl rfl ?_
  refine Rn.getF K (q := 43) (oT 87 rfl) Via.refl Fz d15_40 rfl ?_
  refine Rn.dup_x1 K (q := 44) d15_43 rfl rfl rfl ?_
  refine Rn.iconst K (q := 45) (1 : Int32) d15_44 rfl rfl ?_
  refine Rn.iadd K (q := 46) d15_45 rfl ?_
  show Rn w l _ n0 _ 46 _ [(.int (1 : Int32)), (.ref t), oZ, (.ref en)] h0 0 0
  refine Rn.putF K (q := 49) (ty := .int) (oT 87 rfl) Via.refl Fz Et (Or.inl (oT 88 rfl)) (oT 32 rfl) (by decide) rfl rfl gt d15_46 rfl ?_
  intro h1 W2
  have f4 := K1.wr W2 (Or.inl (oT 0 rfl))
  have f5 := Et.wr W2
  have f6 := Eh.wr W2
  have f7 := Ek.wr W2
  have f8 := Ee.wr W2
  have f9 := Fld.other W2 Fh (Or.inr (slot_ne (Or.inl (K.hw _ (oT 42 rfl))) (Or.inl (K.hw _ (oT 88 rfl))) (by decide) (t := (.array (.array .char))) (t' := .int) (by decide) (by decide)))
  have f10 := Fld.other W2 Fe (Or.inr (slot_ne (Or.inl (K.hw _ (oT 45 rfl))) (Or.inl (K.hw _ (oT 88 rfl))) (by decide) (t := (.array .long)) (t' := .int) (by decide) (by decide)))
  have f11 := Fld.same W2 Fz
  have f12 := Fld.other W2 Fl (Or.inr (slot_ne (Or.inl (K.hw _ (oT 90 rfl))) (Or.inl (K.hw _ (oT 88 rfl))) (by decide) (t := .long) (t' := .int) (by decide) (by decide)))
  have f13 := Ah.other W2 (ne_exa Eh Et (by decide))
  have f14 := Ak.other W2 (ne_exa Ek Et (by decide))
  have f15 := Ae.other W2 (ne_exa Ee Et (by decide))
  refine Rn.aloadN K (q := 50) d15_49 rfl rfl rfl ?_
  refine Rn.getF K (q := 53) (oT 89 rfl) Via.refl f12 d15_50 rfl ?_
  refine Rn.lastore K (q := 54) (i := 0) f15 (by decide) rfl (oL rfl) ge d15_53 rfl ?_
  intro h16 W17 A18
  have f20 := f4.wr W17 (Or.inl (oT 1 rfl))
  have f21 := f5.wr W17
  have f22 := f6.wr W17
  have f23 := f7.wr W17
  have f24 := f8.wr W17
  have f25 := Fld.other W17 f9 (Or.inl (ne_exa f5 f8 (by decide)))
  have f26 := Fld.other W17 f10 (Or.inl (ne_exa f5 f8 (by decide)))
  have f27 := Fld.other W17 f11 (Or.inl (ne_exa f5 f8 (by decide)))
  have f28 := Fld.other W17 f12 (Or.inl (ne_exa f5 f8 (by decide)))
  have f29 := f13.other W17 (ne_exa f6 f8 (by decide))
  have f30 := f14.other W17 (ne_exa f7 f8 (by decide))
  replace A18 : Arv Z h16 en ke .long (16 : Int32) [(.long (Int64.ofNat ws.length)), (.long (0 : Int64)), (.long (0 : Int64)), (.long (0 : Int64)), (.long (0 : Int64)), (.long (0 : Int64)), (.long (0 : Int64)), (.long (0 : Int64)), (.long (0 : Int64)), (.long (0 : Int64)), (.long (0 : Int64)), (.long (0 : Int64)), (.long (0 : Int64)), (.long (0 : Int64)), (.long (0 : Int64)), (.long (0 : Int64))] (.long (0 : Int64)) := A18
  exact Rn.retV K rfl d15_54 (by decide) (by decide) ⟨rfl, f20, ⟨f21, f22, f23, f24, f25, f26, f27, f28, ⟨_, f29⟩, ⟨_, f30⟩, ⟨_, A18⟩⟩⟩
theorem d7_0 : decode oC27 0 = .ok (.aload_n 0, 1) := by decide +kernel
theorem d7_1 : decode oC27 1 = .ok (.aload_n 1, 1) := by decide +kernel
theorem d7_2 : decode oC27 2 = .ok (.invokevirtual 19, 3) := by decide +kernel
theorem d7_5 : decode oC27 5 = .ok (.iconst 0, 1) := by decide +kernel
theorem d7_6 : decode oC27 6 = .ok (.aload_n 1, 1) := by decide +kernel
theorem d7_7 : decode oC27 7 = .ok (.invokevirtual 25, 3) := by decide +kernel
theorem d7_10 : decode oC27 10 = .ok (.invokevirtual 29, 3) := by decide +kernel
theorem d7_13 : decode oC27 13 = .ok (.aload_n 0, 1) := by decide +kernel
theorem d7_14 : decode oC27 14 = .ok (.invokevirtual 33, 3) := by decide +kernel
theorem d7_17 : decode oC27 17 = .ok (.return_, 1) := by decide +kernel
theorem m_add0 (l : Launch) (Z : State) (a0 : Array Value) (hw : oH Z a0) (n0 : Nat) (h0 : Heap) (t ch ck en : Addr) (s v : Addr) (cst : Int32) (fv : Value) (hfv : fv.isRef = true) (ws cs : List Int32)  (X0 : Old Z n0 h0) (SC : oSC Z cst) (hcs : ¬ cst = 0) (SQ : oSQ Z fv) (SA : oS0 Z) (SH : oS1 Z) (SW : oS2 Z) (QC : COL Z h0 t ch ck en ws [(.long (0 : Int64)), (.long (0 : Int64)), (.long (0 : Int64)), (.long (0 : Int64)), (.long (0 : Int64)), (.long (0 : Int64)), (.long (0 : Int64)), (.long (0 : Int64)), (.long (0 : Int64)), (.long (0 : Int64)), (.long (0 : Int64)), (.long (0 : Int64)), (.long (0 : Int64)), (.long (0 : Int64)), (.long (0 : Int64)), (.long (0 : Int64))] (0 : Int32)) (STR_ : STR Z h0 s v cs) (hl : ws.length ≤ 10) (hl2 : cs.length ≤ 5) (hc : ∀ c ∈ cs, Chr c) (gt : n0 ≤ t) (gk : n0 ≤ ck) (ge : n0 ≤ en) :
    Met l Z oM26 oC27 2 none (oR 6 1 5 86) n0 [] #[(.ref t), (.ref s)] h0 (fun r h => r = none ∧ Keep h0 h [t, ck, en] ∧ COL Z h t ch ck en (ws ++ cs) [(.long (Int64.ofNat (ws ++ cs).length)), (.long (0 : Int64)), (.long (0 : Int64)), (.long (0 : Int64)), (.long (0 : Int64)), (.long (0 : Int64)), (.long (0 : Int64)), (.long (0 : Int64)), (.long (0 : Int64)), (.long (0 : Int64)), (.long (0 : Int64)), (.long (0 : Int64)), (.long (0 : Int64)), (.long (0 : Int64)), (.long (0 : Int64)), (.long (0 : Int64))] (1 : Int32)) := by
  refine Met.intro (Ls := #[.val (.ref t), .val (.ref s)]) (plainFor_of_name pn_m_tci) hw (fun _ => rfl) ?_
  intro w K0
  have K : oK27 w Z a0 := K0
  have K1 := Keep.refl h0 [t, ck, en]
  refine Rn.aloadN K (q := 1) d7_0 rfl rfl rfl ?_
  refine Rn.aloadN K (q := 2) d7_1 rfl rfl rfl ?_
  refine Rn.virt K (q := 5) (W := 1) (y := oM19) (z := oM19) (b := s) (argsL := []) (rest := [(.ref t)]) (oT 51 rfl) (oT 52 rfl) (nfs K (oT 54 rfl)) (oT 54 rfl) (oT 53 rfl) (oT 55 rfl) (oT 8 rfl) (by decide) (m_tca l Z a0 hw n0 h0 s v cst fv hfv cs X0 SC hcs SQ SA SH SW STR_ hl2 hc) STR_.1 (by decide) (by decide) rfl (lenOf pd_17 rfl) rfl (oL rfl) d7_2 rfl (by decide) (by decide) ?_
  rintro _ h1 ⟨c, kc, rfl, sz, Kt, Ec, Ac⟩
  have hck : c ≠ ck := fun e => absurd QC.2.2.1.lt (by rw [← e]; exact Nat.not_lt.mpr sz)
  have f1 := X0.keep Kt all0
  have f2 := K1.trans Kt all0
  have f3 := STR_.keep Kt nin0 nin0
  have f4 := QC.keep Kt nin0 nin0 nin0 nin0
  show Rn w l _ n0 _ 5 _ [(.ref c), (.ref t)] h1 1 5
  refine Rn.iconst K (q := 6) (0 : Int32) d7_5 rfl rfl ?_
  refine Rn.aloadN K (q := 7) d7_6 rfl rfl rfl ?_
  refine Rn.virt K (q := 10) (W := 3) (y := oM12) (z := oM12) (b := s) (argsL := []) (rest := [oZ, (.ref c), (.ref t)]) (oT 69 rfl) (oT 70 rfl) (nfs K (oT 72 rfl)) (oT 72 rfl) (oT 71 rfl) (oT 73 rfl) (oT 8 rfl) (by decide) (m_len l Z a0 hw n0 h1 s v cst fv hfv cs f1 SC hcs f3 hl2 hc) f3.1 (by decide) (by decide) rfl (lenOf pd_19 rfl) rfl (oL rfl) d7_7 rfl (by decide) (by decide) ?_
  rintro _ _ ⟨rfl, rfl⟩
  show Rn w l _ n0 _ 10 _ [(.int (Int32.ofNat cs.length)), oZ, (.ref c), (.ref t)] h1 1 5
  refine Rn.privD K (q := 13) (W := 0) (y := oM25) (y2 := oM26) (b := t) (argsL := [(.ref c), oZ, (.int (Int32.ofNat cs.length))]) (rest := []) (oT 79 rfl) (oT 80 rfl) (oT 47 rfl) (oT 49 rfl) rfl (oT 81 rfl) (oT 82 rfl) (oT 33 rfl) (by decide) (m_app l Z a0 hw n0 h1 t ch ck en c kc ws cs _ _ f1 f4 hl hl2 gt gk hck Ec Ac) (f4.1) (by decide) (by decide) rfl (lenOf pd_20 rfl) rfl (oL rfl) d7_10 rfl (by decide) (by decide) ?_
  rintro _ h2 ⟨rfl, Ka, QC2⟩
  have f5 := f1.keep Ka (allS gt (allS gk all0))
  have f6 := f2.trans Ka (allS (Or.inl (oT 0 rfl)) (allS (Or.inl (oT 1 rfl)) all0))
  show Rn w l _ n0 _ 13 _ [] h2 1 5
  refine Rn.aloadN K (q := 14) d7_13 rfl rfl rfl ?_
  refine Rn.privD K (q := 17) (W := 0) (y := oM27) (y2 := oM26) (b := t) (argsL := []) (rest := []) (oT 83 rfl) (oT 84 rfl) (oT 47 rfl) (oT 49 rfl) rfl (oT 85 rfl) (oT 86 rfl) (oT 33 rfl) (by decide) (m_end0 l Z a0 hw n0 h2 t ch ck en (ws ++ cs)  f5 QC2 gt ge) (QC2.1) (by decide) (by decide) rfl (lenOf pd_21 rfl) rfl (oL rfl) d7_14 rfl (by decide) (by decide) ?_
  rintro _ h3 ⟨rfl, Ke, QC3⟩
  have f9 := f6.trans Ke (allS (Or.inl (oT 0 rfl)) (allS (Or.inl (oT 2 rfl)) all0))
  show Rn w l _ n0 _ 17 _ [] h3 1 5
  exact Rn.retV K rfl d7_17 (by decide) (by decide) ⟨rfl, f9, QC3⟩
theorem m_end1 (l : Launch) (Z : State) (a0 : Array Value) (hw : oH Z a0) (n0 : Nat) (h0 : Heap) (t ch ck en : Addr) (ws : List Int32) (e0 : Int64) (X0 : Old Z n0 h0) (QC : COL Z h0 t ch ck en ws [(.long e0), (.long (0 : Int64)), (.long (0 : Int64)), (.long (0 : Int64)), (.long (0 : Int64)), (.long (0 : Int64)), (.long (0 : Int64)), (.long (0 : Int64)), (.long (0 : Int64)), (.long (0 : Int64)), (.long (0 : Int64)), (.long (0 : Int64)), (.long (0 : Int64)), (.long (0 : Int64)), (.long (0 : Int64)), (.long (0 : Int64))] (1 : Int32)) (gt : n0 ≤ t) (ge : n0 ≤ en) :
    Met l Z oM27 oC26 1 none (oR 0 0 0 0) n0 [] #[(.ref t)] h0 (fun r h => r = none ∧ Keep h0 h [t, en] ∧ COL Z h t ch ck en ws [(.long e0), (.long (Int64.ofNat ws.length)), (.long (0 : Int64)), (.long (0 : Int64)), (.long (0 : Int64)), (.long (0 : Int64)), (.long (0 : Int64)), (.long (0 : Int64)), (.long (0 : Int64)), (.long (0 : Int64)), (.long (0 : Int64)), (.long (0 : Int64)), (.long (0 : Int64)), (.long (0 : Int64)), (.long (0 : Int64)), (.long (0 : Int64))] (2 : Int32)) := by
  refine Met.intro (Ls := #[.val (.ref t)]) (plainFor_of_name pn_m_tci) hw (fun _ => rfl) ?_
  intro w K0
  have K : oK26 w Z a0 := K0
  obtain ⟨Et, Eh, Ek, Ee, Fh, Fe, Fz, Fl, ⟨kh, Ah⟩, ⟨kk, Ak⟩, ⟨ke, Ae⟩⟩ := QC
  have K1 := Keep.refl h0 [t, en]
  refine Rn.aloadN K (q := 1) d15_0 rfl rfl rfl ?_
  refine Rn.getF K (q := 4) (oT 87 rfl) Via.refl Fz d15_1 rfl ?_
  refine Rn.aloadN K (q := 5) d15_4 rfl rfl rfl ?_
  refine Rn.getF K (q := 8) (oT 44 rfl) Via.refl Fe d15_5 rfl ?_
  refine Rn.arraylength K (q := 9) Ae d15_8 rfl ?_
  refine Rn.icY K (q := 34) d15_9 (XT.ii_ne_t (by decide)) (by decide) (by decide) ?_
  refine Rn.aloadN K (q := 35) d15_34 rfl rfl rfl ?_
  refine Rn.getF K (q := 38) (oT 44 rfl) Via.refl Fe d15_35 rfl ?_
  refine Rn.aloadN K (q := 39) d15_38 rfl rfl rfl ?_
  refine Rn.dup K (q := 40) d15_39 rfl rfl ?_
  refine Rn.getF K (q := 43) (oT 87 rfl) Via.refl Fz d15_40 rfl ?_
  refine Rn.dup_x1 K (q := 44) d15_43 rfl rfl rfl ?_
  refine Rn.iconst K (q := 45) (1 : Int32) d15_44 rfl rfl ?_
  refine Rn.iadd K (q := 46) d15_45 rfl ?_
  show Rn w l _ n0 _ 46 _ [(.int (2 : Int32)), (.ref t), (.int (1 : Int32)), (.ref en)] h0 0 0
  refine Rn.putF K (q := 49) (ty := .int) (oT 87 rfl) Via.refl Fz Et (Or.inl (oT 88 rfl)) (oT 32 rfl) (by decide) rfl rfl gt d15_46 rfl ?_
  intro h1 W2
  have f4 := K1.wr W2 (Or.inl (oT 0 rfl))
  have f5 := Et.wr W2
  have f6 := Eh.wr W2
  have f7 := Ek.wr W2
  have f8 := Ee.wr W2
  have f9 := Fld.other W2 Fh (Or.inr (slot_ne (Or.inl (K.hw _ (oT 42 rfl))) (Or.inl (K.hw _ (oT 88 rfl))) (by decide) (t := (.array (.array .char))) (t' := .int) (by decide) (by decide)))
  have f10 := Fld.other W2 Fe (Or.inr (slot_ne (Or.inl (K.hw _ (oT 45 rfl))) (Or.inl (K.hw _ (oT 88 rfl))) (by decide) (t := (.array .long)) (t' := .int) (by decide) (by decide)))
  have f11 := Fld.same W2 Fz
  have f12 := Fld.other W2 Fl (Or.inr (slot_ne (Or.inl (K.hw _ (oT 90 rfl))) (Or.inl (K.hw _ (oT 88 rfl))) (by decide) (t := .long) (t' := .int) (by decide) (by decide)))
  have f13 := Ah.other W2 (ne_exa Eh Et (by decide))
  have f14 := Ak.other W2 (ne_exa Ek Et (by decide))
  have f15 := Ae.other W2 (ne_exa Ee Et (by decide))
  refine Rn.aloadN K (q := 50) d15_49 rfl rfl rfl ?_
  refine Rn.getF K (q := 53) (oT 89 rfl) Via.refl f12 d15_50 rfl ?_
  refine Rn.lastore K (q := 54) (i := 1) f15 (by decide) rfl (oL rfl) ge d15_53 rfl ?_
  intro h16 W17 A18
  have f20 := f4.wr W17 (Or.inl (oT 1 rfl))
  have f21 := f5.wr W17
  have f22 := f6.wr W17
  have f23 := f7.wr W17
  have f24 := f8.wr W17
  have f25 := Fld.other W17 f9 (Or.inl (ne_exa f5 f8 (by decide)))
  have f26 := Fld.other W17 f10 (Or.inl (ne_exa f5 f8 (by decide)))
  have f27 := Fld.other W17 f11 (Or.inl (ne_exa f5 f8 (by decide)))
  have f28 := Fld.other W17 f12 (Or.inl (ne_exa f5 f8 (by decide)))
  have f29 := f13.other W17 (ne_exa f6 f8 (by decide))
  have f30 := f14.other W17 (ne_exa f7 f8 (by decide))
  replace A18 : Arv Z h16 en ke .long (16 : Int32) [(.long e0), (.long (Int64.ofNat ws.length)), (.long (0 : Int64)), (.long (0 : Int64)), (.long (0 : Int64)), (.long (0 : Int64)), (.long (0 : Int64)), (.long (0 : Int64)), (.long (0 : Int64)), (.long (0 : Int64)), (.long (0 : Int64)), (.long (0 : Int64)), (.long (0 : Int64)), (.long (0 : Int64)), (.long (0 : Int64)), (.long (0 : Int64))] (.long (0 : Int64)) := A18
  exact Rn.retV K rfl d15_54 (by decide) (by decide) ⟨rfl, f20, ⟨f21, f22, f23, f24, f25, f26, f27, f28, ⟨_, f29⟩, ⟨_, f30⟩, ⟨_, A18⟩⟩⟩
theorem m_add1 (l : Launch) (Z : State) (a0 : Array Value) (hw : oH Z a0) (n0 : Nat) (h0 : Heap) (t ch ck en : Addr) (s v : Addr) (cst : Int32) (fv : Value) (hfv : fv.isRef = true) (ws cs : List Int32) (e0 : Int64) (X0 : Old Z n0 h0) (SC : oSC Z cst) (hcs : ¬ cst = 0) (SQ : oSQ Z fv) (SA : oS0 Z) (SH : oS1 Z) (SW : oS2 Z) (QC : COL Z h0 t ch ck en ws [(.long e0), (.long (0 : Int64)), (.long (0 : Int64)), (.long (0 : Int64)), (.long (0 : Int64)), (.long (0 : Int64)), (.long (0 : Int64)), (.long (0 : Int64)), (.long (0 : Int64)), (.long (0 : Int64)), (.long (0 : Int64)), (.long (0 : Int64)), (.long (0 : Int64)), (.long (0 : Int64)), (.long (0 : Int64)), (.long (0 : Int64))] (1 : Int32)) (STR_ : STR Z h0 s v cs) (hl : ws.length ≤ 10) (hl2 : cs.length ≤ 5) (hc : ∀ c ∈ cs, Chr c) (gt : n0 ≤ t) (gk : n0 ≤ ck) (ge : n0 ≤ en) :
    Met l Z oM26 oC27 2 none (oR 6 1 5 86) n0 [] #[(.ref t), (.ref s)] h0 (fun r h => r = none ∧ Keep h0 h [t, ck, en] ∧ COL Z h t ch ck en (ws ++ cs) [(.long e0), (.long (Int64.ofNat (ws ++ cs).length)), (.long (0 : Int64)), (.long (0 : Int64)), (.long (0 : Int64)), (.long (0 : Int64)), (.long (0 : Int64)), (.long (0 : Int64)), (.long (0 : Int64)), (.long (0 : Int64)), (.long (0 : Int64)), (.long (0 : Int64)), (.long (0 : Int64)), (.long (0 : Int64)), (.long (0 : Int64)), (.long (0 : Int64))] (2 : Int32)) := by
  refine Met.intro (Ls := #[.val (.ref t), .val (.ref s)]) (plainFor_of_name pn_m_tci) hw (fun _ => rfl) ?_
  intro w K0
  have K : oK27 w Z a0 := K0
  have K1 := Keep.refl h0 [t, ck, en]
  refine Rn.aloadN K (q := 1) d7_0 rfl rfl rfl ?_
  refine Rn.aloadN K (q := 2) d7_1 rfl rfl rfl ?_
  refine Rn.virt K (q := 5) (W := 1) (y := oM19) (z := oM19) (b := s) (argsL := []) (rest := [(.ref t)]) (oT 51 rfl) (oT 52 rfl) (nfs K (oT 54 rfl)) (oT 54 rfl) (oT 53 rfl) (oT 55 rfl) (oT 8 rfl) (by decide) (m_tca l Z a0 hw n0 h0 s v cst fv hfv cs X0 SC hcs SQ SA SH SW STR_ hl2 hc) STR_.1 (by decide) (by decide) rfl (lenOf pd_17 rfl) rfl (oL rfl) d7_2 rfl (by decide) (by decide) ?_
  rintro _ h1 ⟨c, kc, rfl, sz, Kt, Ec, Ac⟩
  have hck : c ≠ ck := fun e => absurd QC.2.2.1.lt (by rw [← e]; exact Nat.not_lt.mpr sz)
  have f1 := X0.keep Kt all0
  have f2 := K1.trans Kt all0
  have f3 := STR_.keep Kt nin0 nin0
  have f4 := QC.keep Kt nin0 nin0 nin0 nin0
  show Rn w l _ n0 _ 5 _ [(.ref c), (.ref t)] h1 1 5
  refine Rn.iconst K (q := 6) (0 : Int32) d7_5 rfl rfl ?_
  refine Rn.aloadN K (q := 7) d7_6 rfl rfl rfl ?_
  refine Rn.virt K (q := 10) (W := 3) (y := oM12) (z := oM12) (b := s) (argsL := []) (rest := [oZ, (.ref c), (.ref t)]) (oT 69 rfl) (oT 70 rfl) (nfs K (oT 72 rfl)) (oT 72 rfl) (oT 71 rfl) (oT 73 rfl) (oT 8 rfl) (by decide) (m_len l Z a0 hw n0 h1 s v cst fv hfv cs f1 SC hcs f3 hl2 hc) f3.1 (by decide) (by decide) rfl (lenOf pd_19 rfl) rfl (oL rfl) d7_7 rfl (by decide) (by decide) ?_
  rintro _ _ ⟨rfl, rfl⟩
  show Rn w l _ n0 _ 10 _ [(.int (Int32.ofNat cs.length)), oZ, (.ref c), (.ref t)] h1 1 5
  refine Rn.privD K (q := 13) (W := 0) (y := oM25) (y2 := oM26) (b := t) (argsL := [(.ref c), oZ, (.int (Int32.ofNat cs.length))]) (rest := []) (oT 79 rfl) (oT 80 rfl) (oT 47 rfl) (oT 49 rfl) rfl (oT 81 rfl) (oT 82 rfl) (oT 33 rfl) (by decide) (m_app l Z a0 hw n0 h1 t ch ck en c kc ws cs _ _ f1 f4 hl hl2 gt gk hck Ec Ac) (f4.1) (by decide) (by decide) rfl (lenOf pd_20 rfl) rfl (oL rfl) d7_10 rfl (by decide) (by decide) ?_
  rintro _ h2 ⟨rfl, Ka, QC2⟩
  have f5 := f1.keep Ka (allS gt (allS gk all0))
  have f6 := f2.trans Ka (allS (Or.inl (oT 0 rfl)) (allS (Or.inl (oT 1 rfl)) all0))
  show Rn w l _ n0 _ 13 _ [] h2 1 5
  refine Rn.aloadN K (q := 14) d7_13 rfl rfl rfl ?_
  refine Rn.privD K (q := 17) (W := 0) (y := oM27) (y2 := oM26) (b := t) (argsL := []) (rest := []) (oT 83 rfl) (oT 84 rfl) (oT 47 rfl) (oT 49 rfl) rfl (oT 85 rfl) (oT 86 rfl) (oT 33 rfl) (by decide) (m_end1 l Z a0 hw n0 h2 t ch ck en (ws ++ cs) e0 f5 QC2 gt ge) (QC2.1) (by decide) (by decide) rfl (lenOf pd_21 rfl) rfl (oL rfl) d7_14 rfl (by decide) (by decide) ?_
  rintro _ h3 ⟨rfl, Ke, QC3⟩
  have f9 := f6.trans Ke (allS (Or.inl (oT 0 rfl)) (allS (Or.inl (oT 2 rfl)) all0))
  show Rn w l _ n0 _ 17 _ [] h3 1 5
  exact Rn.retV K rfl d7_17 (by decide) (by decide) ⟨rfl, f9, QC3⟩
theorem m_end2 (l : Launch) (Z : State) (a0 : Array Value) (hw : oH Z a0) (n0 : Nat) (h0 : Heap) (t ch ck en : Addr) (ws : List Int32) (e0 e1 : Int64) (X0 : Old Z n0 h0) (QC : COL Z h0 t ch ck en ws [(.long e0), (.long e1), (.long (0 : Int64)), (.long (0 : Int64)), (.long (0 : Int64)), (.long (0 : Int64)), (.long (0 : Int64)), (.long (0 : Int64)), (.long (0 : Int64)), (.long (0 : Int64)), (.long (0 : Int64)), (.long (0 : Int64)), (.long (0 : Int64)), (.long (0 : Int64)), (.long (0 : Int64)), (.long (0 : Int64))] (2 : Int32)) (gt : n0 ≤ t) (ge : n0 ≤ en) :
    Met l Z oM27 oC26 1 none (oR 0 0 0 0) n0 [] #[(.ref t)] h0 (fun r h => r = none ∧ Keep h0 h [t, en] ∧ COL Z h t ch ck en ws [(.long e0), (.long e1), (.long (Int64.ofNat ws.length)), (.long (0 : Int64)), (.long (0 : Int64)), (.long (0 : Int64)), (.long (0 : Int64)), (.long (0 : Int64)), (.long (0 : Int64)), (.long (0 : Int64)), (.long (0 : Int64)), (.long (0 : Int64)), (.long (0 : Int64)), (.long (0 : Int64)), (.long (0 : Int64)), (.long (0 : Int64))] (3 : Int32)) := by
  refine Met.intro (Ls := #[.val (.ref t)]) (plainFor_of_name pn_m_tci) hw (fun _ => rfl) ?_
  intro w K0
  have K : oK26 w Z a0 := K0
  obtain ⟨Et, Eh, Ek, Ee, Fh, Fe, Fz, Fl, ⟨kh, Ah⟩, ⟨kk, Ak⟩, ⟨ke, Ae⟩⟩ := QC
  have K1 := Keep.refl h0 [t, en]
  refine Rn.aloadN K (q := 1) d15_0 rfl rfl rfl ?_
  refine Rn.getF K (q := 4) (oT 87 rfl) Via.refl Fz d15_1 rfl ?_
  refine Rn.aloadN K (q := 5) d15_4 rfl rfl rfl ?_
  refine Rn.getF K (q := 8) (oT 44 rfl) Via.refl Fe d15_5 rfl ?_
  refine Rn.arraylength K (q := 9) Ae d15_8 rfl ?_
  refine Rn.icY K (q := 34) d15_9 (XT.ii_ne_t (by decide)) (by decide) (by decide) ?_
  refine Rn.aloadN K (q := 35) d15_34 rfl rfl rfl ?_
  refine Rn.getF K (q := 38) (oT 44 rfl) Via.refl Fe d15_35 rfl ?_
  refine Rn.aloadN K (q := 39) d15_38 rfl rfl rfl ?_
  refine Rn.dup K (q := 40) d15_39 rfl rfl ?_
  refine Rn.getF K (q := 43) (oT 87 rfl) Via.refl Fz d15_40 rfl ?_
  refine Rn.dup_x1 K (q := 44) d15_43 rfl rfl rfl ?_
  refine Rn.iconst K (q := 45) (1 : Int32) d15_44 rfl rfl ?_
  refine Rn.iadd K (q := 46) d15_45 rfl ?_
  show Rn w l _ n0 _ 46 _ [(.int (3 : Int32)), (.ref t), (.int (2 : Int32)), (.ref en)] h0 0 0
  refine Rn.putF K (q := 49) (ty := .int) (oT 87 rfl) Via.refl Fz Et (Or.inl (oT 88 rfl)) (oT 32 rfl) (by decide) rfl rfl gt d15_46 rfl ?_
  intro h1 W2
  have f4 := K1.wr W2 (Or.inl (oT 0 rfl))
  have f5 := Et.wr W2
  have f6 := Eh.wr W2
  have f7 := Ek.wr W2
  have f8 := Ee.wr W2
  have f9 := Fld.other W2 Fh (Or.inr (slot_ne (Or.inl (K.hw _ (oT 42 rfl))) (Or.inl (K.hw _ (oT 88 rfl))) (by decide) (t := (.array (.array .char))) (t' := .int) (by decide) (by decide)))
  have f10 := Fld.other W2 Fe (Or.inr (slot_ne (Or.inl (K.hw _ (oT 45 rfl))) (Or.inl (K.hw _ (oT 88 rfl))) (by decide) (t := (.array .long)) (t' := .int) (by decide) (by decide)))
  have f11 := Fld.same W2 Fz
  have f12 := Fld.other W2 Fl (Or.inr (slot_ne (Or.inl (K.hw _ (oT 90 rfl))) (Or.inl (K.hw _ (oT 88 rfl))) (by decide) (t := .long) (t' := .int) (by decide) (by decide)))
  have f13 := Ah.other W2 (ne_exa Eh Et (by decide))
  have f14 := Ak.other W2 (ne_exa Ek Et (by decide))
  have f15 := Ae.other W2 (ne_exa Ee Et (by decide))
  refine Rn.aloadN K (q := 50) d15_49 rfl rfl rfl ?_
  refine Rn.getF K (q := 53) (oT 89 rfl) Via.refl f12 d15_50 rfl ?_
  refine Rn.lastore K (q := 54) (i := 2) f15 (by decide) rfl (oL rfl) ge d15_53 rfl ?_
  intro h16 W17 A18
  have f20 := f4.wr W17 (Or.inl (oT 1 rfl))
  have f21 := f5.wr W17
  have f22 := f6.wr W17
  have f23 := f7.wr W17
  have f24 := f8.wr W17
  have f25 := Fld.other W17 f9 (Or.inl (ne_exa f5 f8 (by decide)))
  have f26 := Fld.other W17 f10 (Or.inl (ne_exa f5 f8 (by decide)))
  have f27 := Fld.other W17 f11 (Or.inl (ne_exa f5 f8 (by decide)))
  have f28 := Fld.other W17 f12 (Or.inl (ne_exa f5 f8 (by decide)))
  have f29 := f13.other W17 (ne_exa f6 f8 (by decide))
  have f30 := f14.other W17 (ne_exa f7 f8 (by decide))
  replace A18 : Arv Z h16 en ke .long (16 : Int32) [(.long e0), (.long e1), (.long (Int64.ofNat ws.length)), (.long (0 : Int64)), (.long (0 : Int64)), (.long (0 : Int64)), (.long (0 : Int64)), (.long (0 : Int64)), (.long (0 : Int64)), (.long (0 : Int64)), (.long (0 : Int64)), (.long (0 : Int64)), (.long (0 : Int64)), (.long (0 : Int64)), (.long (0 : Int64)), (.long (0 : Int64))] (.long (0 : Int64)) := A18
  exact Rn.retV K rfl d15_54 (by decide) (by decide) ⟨rfl, f20, ⟨f21, f22, f23, f24, f25, f26, f27, f28, ⟨_, f29⟩, ⟨_, f30⟩, ⟨_, A18⟩⟩⟩
theorem m_add2 (l : Launch) (Z : State) (a0 : Array Value) (hw : oH Z a0) (n0 : Nat) (h0 : Heap) (t ch ck en : Addr) (s v : Addr) (cst : Int32) (fv : Value) (hfv : fv.isRef = true) (ws cs : List Int32) (e0 e1 : Int64) (X0 : Old Z n0 h0) (SC : oSC Z cst) (hcs : ¬ cst = 0) (SQ : oSQ Z fv) (SA : oS0 Z) (SH : oS1 Z) (SW : oS2 Z) (QC : COL Z h0 t ch ck en ws [(.long e0), (.long e1), (.long (0 : Int64)), (.long (0 : Int64)), (.long (0 : Int64)), (.long (0 : Int64)), (.long (0 : Int64)), (.long (0 : Int64)), (.long (0 : Int64)), (.long (0 : Int64)), (.long (0 : Int64)), (.long (0 : Int64)), (.long (0 : Int64)), (.long (0 : Int64)), (.long (0 : Int64)), (.long (0 : Int64))] (2 : Int32)) (STR_ : STR Z h0 s v cs) (hl : ws.length ≤ 10) (hl2 : cs.length ≤ 5) (hc : ∀ c ∈ cs, Chr c) (gt : n0 ≤ t) (gk : n0 ≤ ck) (ge : n0 ≤ en) :
    Met l Z oM26 oC27 2 none (oR 6 1 5 86) n0 [] #[(.ref t), (.ref s)] h0 (fun r h => r = none ∧ Keep h0 h [t, ck, en] ∧ COL Z h t ch ck en (ws ++ cs) [(.long e0), (.long e1), (.long (Int64.ofNat (ws ++ cs).length)), (.long (0 : Int64)), (.long (0 : Int64)), (.long (0 : Int64)), (.long (0 : Int64)), (.long (0 : Int64)), (.long (0 : Int64)), (.long (0 : Int64)), (.long (0 : Int64)), (.long (0 : Int64)), (.long (0 : Int64)), (.long (0 : Int64)), (.long (0 : Int64)), (.long (0 : Int64))] (3 : Int32)) := by
  refine Met.intro (Ls := #[.val (.ref t), .val (.ref s)]) (plainFor_of_name pn_m_tci) hw (fun _ => rfl) ?_
  intro w K0
  have K : oK27 w Z a0 := K0
  have K1 := Keep.refl h0 [t, ck, en]
  refine Rn.aloadN K (q := 1) d7_0 rfl rfl rfl ?_
  refine Rn.aloadN K (q := 2) d7_1 rfl rfl rfl ?_
  refine Rn.virt K (q := 5) (W := 1) (y := oM19) (z := oM19) (b := s) (argsL := []) (rest := [(.ref t)]) (oT 51 rfl) (oT 52 rfl) (nfs K (oT 54 rfl)) (oT 54 rfl) (oT 53 rfl) (oT 55 rfl) (oT 8 rfl) (by decide) (m_tca l Z a0 hw n0 h0 s v cst fv hfv cs X0 SC hcs SQ SA SH SW STR_ hl2 hc) STR_.1 (by decide) (by decide) rfl (lenOf pd_17 rfl) rfl (oL rfl) d7_2 rfl (by decide) (by decide) ?_
  rintro _ h1 ⟨c, kc, rfl, sz, Kt, Ec, Ac⟩
  have hck : c ≠ ck := fun e => absurd QC.2.2.1.lt (by rw [← e]; exact Nat.not_lt.mpr sz)
  have f1 := X0.keep Kt all0
  have f2 := K1.trans Kt all0
  have f3 := STR_.keep Kt nin0 nin0
  have f4 := QC.keep Kt nin0 nin0 nin0 nin0
  show Rn w l _ n0 _ 5 _ [(.ref c), (.ref t)] h1 1 5
  refine Rn.iconst K (q := 6) (0 : Int32) d7_5 rfl rfl ?_
  refine Rn.aloadN K (q := 7) d7_6 rfl rfl rfl ?_
  refine Rn.virt K (q := 10) (W := 3) (y := oM12) (z := oM12) (b := s) (argsL := []) (rest := [oZ, (.ref c), (.ref t)]) (oT 69 rfl) (oT 70 rfl) (nfs K (oT 72 rfl)) (oT 72 rfl) (oT 71 rfl) (oT 73 rfl) (oT 8 rfl) (by decide) (m_len l Z a0 hw n0 h1 s v cst fv hfv cs f1 SC hcs f3 hl2 hc) f3.1 (by decide) (by decide) rfl (lenOf pd_19 rfl) rfl (oL rfl) d7_7 rfl (by decide) (by decide) ?_
  rintro _ _ ⟨rfl, rfl⟩
  show Rn w l _ n0 _ 10 _ [(.int (Int32.ofNat cs.length)), oZ, (.ref c), (.ref t)] h1 1 5
  refine Rn.privD K (q := 13) (W := 0) (y := oM25) (y2 := oM26) (b := t) (argsL := [(.ref c), oZ, (.int (Int32.ofNat cs.length))]) (rest := []) (oT 79 rfl) (oT 80 rfl) (oT 47 rfl) (oT 49 rfl) rfl (oT 81 rfl) (oT 82 rfl) (oT 33 rfl) (by decide) (m_app l Z a0 hw n0 h1 t ch ck en c kc ws cs _ _ f1 f4 hl hl2 gt gk hck Ec Ac) (f4.1) (by decide) (by decide) rfl (lenOf pd_20 rfl) rfl (oL rfl) d7_10 rfl (by decide) (by decide) ?_
  rintro _ h2 ⟨rfl, Ka, QC2⟩
  have f5 := f1.keep Ka (allS gt (allS gk all0))
  have f6 := f2.trans Ka (allS (Or.inl (oT 0 rfl)) (allS (Or.inl (oT 1 rfl)) all0))
  show Rn w l _ n0 _ 13 _ [] h2 1 5
  refine Rn.aloadN K (q := 14) d7_13 rfl rfl rfl ?_
  refine Rn.privD K (q := 17) (W := 0) (y := oM27) (y2 := oM26) (b := t) (argsL := []) (rest := []) (oT 83 rfl) (oT 84 rfl) (oT 47 rfl) (oT 49 rfl) rfl (oT 85 rfl) (oT 86 rfl) (oT 33 rfl) (by decide) (m_end2 l Z a0 hw n0 h2 t ch ck en (ws ++ cs) e0 e1 f5 QC2 gt ge) (QC2.1) (by decide) (by decide) rfl (lenOf pd_21 rfl) rfl (oL rfl) d7_14 rfl (by decide) (by decide) ?_
  rintro _ h3 ⟨rfl, Ke, QC3⟩
  have f9 := f6.trans Ke (allS (Or.inl (oT 0 rfl)) (allS (Or.inl (oT 2 rfl)) all0))
  show Rn w l _ n0 _ 17 _ [] h3 1 5
  exact Rn.retV K rfl d7_17 (by decide) (by decide) ⟨rfl, f9, QC3⟩
theorem d23_0 : decode oC28 0 = .ok (.aload_n 0, 1) := by decide +kernel
theorem d23_1 : decode oC28 1 = .ok (.getfield 11, 3) := by decide +kernel
theorem d23_4 : decode oC28 4 = .ok (.lload_n 1, 1) := by decide +kernel
theorem d23_5 : decode oC28 5 = .ok (.bipush 22, 2) := by decide +kernel
theorem d23_7 : decode oC28 7 = .ok (.lushr, 1) := by decide +kernel
theorem d23_8 : decode oC28 8 = .ok (.l2i, 1) := by decide +kernel
theorem d23_9 : decode oC28 9 = .ok (.aaload, 1) := by decide +kernel
theorem d23_10 : decode oC28 10 = .ok (.lload_n 1, 1) := by decide +kernel
theorem d23_11 : decode oC28 11 = .ok (.ldc2_w 71, 3) := by decide +kernel
theorem d23_14 : decode oC28 14 = .ok (.land, 1) := by decide +kernel
theorem d23_15 : decode oC28 15 = .ok (.l2i, 1) := by decide +kernel
theorem d23_16 : decode oC28 16 = .ok (.caload, 1) := by decide +kernel
theorem d23_17 : decode oC28 17 = .ok (.ireturn, 1) := by decide +kernel
theorem m_cat (l : Launch) (Z : State) (a0 : Array Value) (hw : oH Z a0) (n0 : Nat) (h0 : Heap) (t ch ck en : Addr) (ws : List Int32) (es : List Value) (z : Int32) (p : Nat) (x : Int32) (X0 : Old Z n0 h0) (QC : COL Z h0 t ch ck en ws es z) (hp : p < ws.length) (hl : ws.length ≤ 15) (hx : ws.getD p 0 = x) (cx : Chr x) :
    Met l Z oM28 oC28 3 (some .char) (oR 0 0 0 0) n0 [] #[(.ref t), (.long (Int64.ofNat p))] h0 (fun v h => v = some (.int x) ∧ h0 = h) := by
  refine Met.intro (Ls := #[.val (.ref t), .val (.long (Int64.ofNat p)), .second]) (plainFor_of_name pn_m_tci) hw (fun _ => rfl) ?_
  intro w K0
  have K : oK28 w Z a0 := K0
  obtain ⟨Et, Eh, Ek, Ee, Fh, Fe, Fz, Fl, ⟨kh, Ah⟩, ⟨kk, Ak⟩, ⟨ke, Ae⟩⟩ := QC
  refine Rn.aloadN K (q := 1) d23_0 rfl rfl rfl ?_
  refine Rn.getF K (q := 4) (oT 41 rfl) Via.refl Fh d23_1 rfl ?_
  refine Rn.lloadN K (q := 5) d23_4 rfl rfl ?_
  refine Rn.bipush K (q := 7) (22 : Int32) d23_5 rfl rfl ?_
  refine Rn.lushr K (q := 8) d23_7 rfl ?_
  refine Rn.l2i K (q := 9) d23_8 rfl ?_
  rw [own_h0 (by omega)]
  refine Rn.aaload K (q := 10) (v := (.ref ck)) Ah rfl (by decide) rfl d23_9 rfl ?_
  refine Rn.lloadN K (q := 11) d23_10 rfl rfl ?_
  refine Rn.ldc2J K (q := 14) (4194303 : Int64) (oT 114 rfl) d23_11 rfl ?_
  refine Rn.land K (q := 15) d23_14 rfl ?_
  refine Rn.l2i K (q := 16) d23_15 rfl ?_
  rw [own_l1' (by omega)]
  refine Rn.caload K (q := 17) (v := .int x) Ak (own_in (b := 256) (by omega) (by decide)) (own_cv hx (by omega)) d23_16 rfl ?_
  exact Rn.retN K .char rfl (by simp) d23_17 (by decide) (by decide) ⟨by rw [own_nc cx], rfl⟩
theorem d17_0 : decode oC29 0 = .ok (.iload_n 1, 1) := by decide +kernel
theorem d17_1 : decode oC29 1 = .ok (.ifCond .ne 7, 3) := by decide +kernel
theorem d17_4 : decode oC29 4 = .ok (.lconst 0, 1) := by decide +kernel
theorem d17_5 : decode oC29 5 = .ok (.goto 11, 3) := by decide +kernel
theorem d17_16 : decode oC29 16 = .ok (.lreturn, 1) := by decide +kernel
theorem m_sta0 (l : Launch) (Z : State) (a0 : Array Value) (hw : oH Z a0) (n0 : Nat) (h0 : Heap) (t ch ck en : Addr) (ws : List Int32) (e0 e1 e2 : Int64) (X0 : Old Z n0 h0) (QC : COL Z h0 t ch ck en ws [(.long e0), (.long e1), (.long e2), (.long (0 : Int64)), (.long (0 : Int64)), (.long (0 : Int64)), (.long (0 : Int64)), (.long (0 : Int64)), (.long (0 : Int64)), (.long (0 : Int64)), (.long (0 : Int64)), (.long (0 : Int64)), (.long (0 : Int64)), (.long (0 : Int64)), (.long (0 : Int64)), (.long (0 : Int64))] (3 : Int32)) :
    Met l Z oM29 oC29 2 (some .long) (oR 0 0 0 0) n0 [] #[(.ref t), oZ] h0 (fun v h => v = some (.long (0 : Int64)) ∧ h0 = h) := by
  refine Met.intro (Ls := #[.val (.ref t), .val oZ]) (plainFor_of_name pn_m_tci) hw (fun _ => rfl) ?_
  intro w K0
  have K : oK29 w Z a0 := K0
  obtain ⟨Et, Eh, Ek, Ee, Fh, Fe, Fz, Fl, ⟨kh, Ah⟩, ⟨kk, Ak⟩, ⟨ke, Ae⟩⟩ := QC
  refine Rn.iloadN K (q := 1) d17_0 rfl rfl ?_
  refine Rn.ifN K (q := 4) d17_1 (XT.i0_ne_f rfl) rfl ?_
  refine Rn.lconst K (q := 5) (0 : Int64) d17_4 rfl rfl ?_
  refine Rn.goto K (q := 16) d17_5 (by decide) (by decide) ?_
  exact Rn.retJ K rfl d17_16 (by decide) (by decide) ⟨rfl, rfl⟩
theorem d16_0 : decode oC30 0 = .ok (.iconst 0, 1) := by decide +kernel
theorem d16_1 : decode oC30 1 = .ok (.istore_n 2, 1) := by decide +kernel
theorem d16_2 : decode oC30 2 = .ok (.aload_n 0, 1) := by decide +kernel
theorem d16_3 : decode oC30 3 = .ok (.iload_n 1, 1) := by decide +kernel
theorem d16_4 : decode oC30 4 = .ok (.invokevirtual 67, 3) := by decide +kernel
theorem d16_7 : decode oC30 7 = .ok (.lstore_n 3, 1) := by decide +kernel
theorem d16_8 : decode oC30 8 = .ok (.lload_n 3, 1) := by decide +kernel
theorem d16_9 : decode oC30 9 = .ok (.aload_n 0, 1) := by decide +kernel
theorem d16_10 : decode oC30 10 = .ok (.getfield 15, 3) := by decide +kernel
theorem d16_13 : decode oC30 13 = .ok (.iload_n 1, 1) := by decide +kernel
theorem d16_14 : decode oC30 14 = .ok (.laload, 1) := by decide +kernel
theorem d16_15 : decode oC30 15 = .ok (.lcmp, 1) := by decide +kernel
theorem d16_16 : decode oC30 16 = .ok (.ifCond .ge 21, 3) := by decide +kernel
theorem d16_19 : decode oC30 19 = .ok (.bipush 31, 2) := by decide +kernel
theorem d16_21 : decode oC30 21 = .ok (.iload_n 2, 1) := by decide +kernel
theorem d16_22 : decode oC30 22 = .ok (.imul, 1) := by decide +kernel
theorem d16_23 : decode oC30 23 = .ok (.aload_n 0, 1) := by decide +kernel
theorem d16_24 : decode oC30 24 = .ok (.lload_n 3, 1) := by decide +kernel
theorem d16_25 : decode oC30 25 = .ok (.invokevirtual 92, 3) := by decide +kernel
theorem d16_28 : decode oC30 28 = .ok (.iadd, 1) := by decide +kernel
theorem d16_29 : decode oC30 29 = .ok (.istore_n 2, 1) := by decide +kernel
theorem d16_30 : decode oC30 30 = .ok (.lload_n 3, 1) := by decide +kernel
theorem d16_31 : decode oC30 31 = .ok (.lconst 1, 1) := by decide +kernel
theorem d16_32 : decode oC30 32 = .ok (.ladd, 1) := by decide +kernel
theorem d16_33 : decode oC30 33 = .ok (.lstore_n 3, 1) := by decide +kernel
theorem d16_34 : decode oC30 34 = .ok (.goto (-26), 3) := by decide +kernel
theorem d16_37 : decode oC30 37 = .ok (.iload_n 2, 1) := by decide +kernel
theorem d16_38 : decode oC30 38 = .ok (.ireturn, 1) := by decide +kernel
theorem m_hash0 (l : Launch) (Z : State) (a0 : Array Value) (hw : oH Z a0) (n0 : Nat) (h0 : Heap) (t ch ck en : Addr) (ws A M B : List Int32) (e0 e1 e2 : Int64) (X0 : Old Z n0 h0) (QC : COL Z h0 t ch ck en ws [(.long e0), (.long e1), (.long e2), (.long (0 : Int64)), (.long (0 : Int64)), (.long (0 : Int64)), (.long (0 : Int64)), (.long (0 : Int64)), (.long (0 : Int64)), (.long (0 : Int64)), (.long (0 : Int64)), (.long (0 : Int64)), (.long (0 : Int64)), (.long (0 : Int64)), (.long (0 : Int64)), (.long (0 : Int64))] (3 : Int32)) (hws : ws = A ++ M ++ B) (hl : ws.length ≤ 15) (hs : (0 : Int64) = Int64.ofNat (A.length + 0)) (he : e0 = Int64.ofNat (A.length + M.length)) (hc : ∀ c ∈ M, Chr c) :
    Met l Z oM30 oC30 5 (some .int) (oR 1 0 0 40) n0 [] #[(.ref t), oZ] h0 (fun v h => v = some (.int (hsh M)) ∧ h0 = h) := by
  refine Met.intro (Ls := #[.val (.ref t), .val oZ, .unset, .unset, .unset]) (plainFor_of_name pn_m_tci) hw (fun _ => rfl) ?_
  intro w K0
  have K : oK30 w Z a0 := K0
  obtain ⟨Et, Eh, Ek, Ee, Fh, Fe, Fz, Fl, ⟨kh, Ah⟩, ⟨kk, Ak⟩, ⟨ke, Ae⟩⟩ := QC
  have hlen : ws.length = A.length + M.length + B.length := by rw [hws]; simp only [List.length_append]
  refine Rn.iconst K (q := 1) (0 : Int32) d16_0 rfl rfl ?_
  refine Rn.istoreN K (q := 2) (Ls' := #[.val (.ref t), .val oZ, .val oZ, .unset, .unset]) d16_1 rfl rfl ?_
  refine Rn.aloadN K (q := 3) d16_2 rfl rfl rfl ?_
  refine Rn.iloadN K (q := 4) d16_3 rfl rfl ?_
  refine Rn.privD K (q := 7) (W := 0) (y := oM29) (y2 := oM26) (b := t) (argsL := [oZ]) (rest := []) (oT 96 rfl) (oT 97 rfl) (oT 47 rfl) (oT 49 rfl) rfl (oT 98 rfl) (oT 99 rfl) (oT 33 rfl) (by decide) (m_sta0 l Z a0 hw n0 h0 t ch ck en ws e0 e1 e2 X0 ⟨Et, Eh, Ek, Ee, Fh, Fe, Fz, Fl, ⟨kh, Ah⟩, ⟨kk, Ak⟩, ⟨ke, Ae⟩⟩) (Et) (by decide) (by decide) rfl (lenOf pd_23 rfl) rfl (oL rfl) d16_4 rfl (by decide) (by decide) ?_
  rintro _ _ ⟨rfl, rfl⟩
  show Rn w l _ n0 _ 7 _ [(.long (0 : Int64))] h0 0 0
  refine Rn.lstoreN K (q := 8) (Ls' := #[.val (.ref t), .val oZ, .val oZ, .val (.long (0 : Int64)), .second]) d16_7 rfl rfl ?_
  have loop : ∀ (m j : Nat), j + m = M.length → Rn w l (oR 1 0 0 40) n0 (FinQ w (oR 1 0 0 40) n0 (fun v h => v = some (.int (hsh M)) ∧ h0 = h)) 8 #[.val (.ref t), .val oZ, .val (.int (hsh (M.take j))), .val (.long (Int64.ofNat (A.length + j))), .second] [] h0 0 0 := by
    intro m
    induction m with
    | zero =>
      intro j hj
      have hcmp : ¬ (Int64.ofNat (A.length + j)) < e0 := by rw [he]; exact own_nlt64 (by omega) (by omega)
      refine Rn.lloadN K (q := 9) d16_8 rfl rfl ?_
      refine Rn.aloadN K (q := 10) d16_9 rfl rfl rfl ?_
      refine Rn.getF K (q := 13) (oT 44 rfl) Via.refl Fe d16_10 rfl ?_
      refine Rn.iloadN K (q := 14) d16_13 rfl rfl ?_
      refine Rn.laload K (q := 15) (v := (.long e0)) Ae (by decide) rfl d16_14 rfl ?_
      refine Rn.lcmp K (q := 16) d16_15 rfl ?_
      refine Rn.ifY K (q := 37) d16_16 (XT.i0_ge_t (fun z => hcmp ((own_lc_lt _ _).mp z))) (by decide) (by decide) ?_
      refine Rn.iloadN K (q := 38) d16_37 rfl rfl ?_
      exact Rn.retI K rfl d16_38 (by decide) (by decide) ⟨by rw [show j = M.length by omega, List.take_length], rfl⟩
    | succ m ih =>
      intro j hj
      have hcmp : (Int64.ofNat (A.length + j)) < e0 := by rw [he]; exact own_lt64 (by omega) (by omega)
      refine Rn.lloadN K (q := 9) d16_8 rfl rfl ?_
      refine Rn.aloadN K (q := 10) d16_9 rfl rfl rfl ?_
      refine Rn.getF K (q := 13) (oT 44 rfl) Via.refl Fe d16_10 rfl ?_
      refine Rn.iloadN K (q := 14) d16_13 rfl rfl ?_
      refine Rn.laload K (q := 15) (v := (.long e0)) Ae (by decide) rfl d16_14 rfl ?_
      refine Rn.lcmp K (q := 16) d16_15 rfl ?_
      refine Rn.ifN K (q := 19) d16_16 (XT.i0_ge_f ((own_lc_lt _ _).mpr hcmp)) rfl ?_
      refine Rn.bipush K (q := 21) (31 : Int32) d16_19 rfl rfl ?_
      refine Rn.iloadN K (q := 22) d16_21 rfl rfl ?_
      refine Rn.imul K (q := 23) d16_22 rfl ?_
      refine Rn.aloadN K (q := 24) d16_23 rfl rfl rfl ?_
      refine Rn.lloadN K (q := 25) d16_24 rfl rfl ?_
      refine Rn.privD K (q := 28) (W := 1) (y := oM28) (y2 := oM26) (b := t) (argsL := [(.long (Int64.ofNat (A.length + j)))]) (rest := [(.int ((31 : Int32) * (hsh (M.take j))))]) (oT 123 rfl) (oT 124 rfl) (oT 47 rfl) (oT 49 rfl) rfl (oT 125 rfl) (oT 126 rfl) (oT 33 rfl) (by decide) (m_cat l Z a0 hw n0 h0 t ch ck en ws _ _ (A.length + j) (M.getD j 0) X0 ⟨Et, Eh, Ek, Ee, Fh, Fe, Fz, Fl, ⟨kh, Ah⟩, ⟨kk, Ak⟩, ⟨ke, Ae⟩⟩ (by omega) hl (own_mid hws (by omega)) (own_mem hc (by omega))) (Et) (by decide) (by decide) rfl (lenOf pd_22 rfl) rfl (oL rfl) d16_25 rfl (by decide) (by decide) ?_
      rintro _ _ ⟨rfl, rfl⟩
      show Rn w l _ n0 _ 28 _ [(.int (M.getD j 0)), (.int ((31 : Int32) * (hsh (M.take j))))] h0 0 0
      refine Rn.iadd K (q := 29) d16_28 rfl ?_
      rw [own_hs (by omega)]
      refine Rn.istoreN K (q := 30) (Ls' := #[.val (.ref t), .val oZ, .val (.int (hsh (M.take (j + 1)))), .val (.long (Int64.ofNat (A.length + j))), .second]) d16_29 rfl rfl ?_
      refine Rn.lloadN K (q := 31) d16_30 rfl rfl ?_
      refine Rn.lconst K (q := 32) (1 : Int64) d16_31 rfl rfl ?_
      refine Rn.ladd K (q := 33) d16_32 rfl ?_
      rw [own_j1]
      refine Rn.lstoreN K (q := 34) (Ls' := #[.val (.ref t), .val oZ, .val (.int (hsh (M.take (j + 1)))), .val (.long (Int64.ofNat (A.length + (j + 1)))), .second]) d16_33 rfl rfl ?_
      refine Rn.goto K (q := 8) d16_34 (by decide) (by decide) ?_
      exact ih (j + 1) (by omega)
  have fin := loop M.length 0 (by omega)
  rw [← hs] at fin
  exact fin
theorem d17_8 : decode oC29 8 = .ok (.aload_n 0, 1) := by decide +kernel
theorem d17_9 : decode oC29 9 = .ok (.getfield 15, 3) := by decide +kernel
theorem d17_12 : decode oC29 12 = .ok (.iload_n 1, 1) := by decide +kernel
theorem d17_13 : decode oC29 13 = .ok (.iconst 1, 1) := by decide +kernel
theorem d17_14 : decode oC29 14 = .ok (.isub, 1) := by decide +kernel
theorem d17_15 : decode oC29 15 = .ok (.laload, 1) := by decide +kernel
theorem m_sta1 (l : Launch) (Z : State) (a0 : Array Value) (hw : oH Z a0) (n0 : Nat) (h0 : Heap) (t ch ck en : Addr) (ws : List Int32) (e0 e1 e2 : Int64) (X0 : Old Z n0 h0) (QC : COL Z h0 t ch ck en ws [(.long e0), (.long e1), (.long e2), (.long (0 : Int64)), (.long (0 : Int64)), (.long (0 : Int64)), (.long (0 : Int64)), (.long (0 : Int64)), (.long (0 : Int64)), (.long (0 : Int64)), (.long (0 : Int64)), (.long (0 : Int64)), (.long (0 : Int64)), (.long (0 : Int64)), (.long (0 : Int64)), (.long (0 : Int64))] (3 : Int32)) :
    Met l Z oM29 oC29 2 (some .long) (oR 0 0 0 0) n0 [] #[(.ref t), (.int (1 : Int32))] h0 (fun v h => v = some (.long e0) ∧ h0 = h) := by
  refine Met.intro (Ls := #[.val (.ref t), .val (.int (1 : Int32))]) (plainFor_of_name pn_m_tci) hw (fun _ => rfl) ?_
  intro w K0
  have K : oK29 w Z a0 := K0
  obtain ⟨Et, Eh, Ek, Ee, Fh, Fe, Fz, Fl, ⟨kh, Ah⟩, ⟨kk, Ak⟩, ⟨ke, Ae⟩⟩ := QC
  refine Rn.iloadN K (q := 1) d17_0 rfl rfl ?_
  refine Rn.ifY K (q := 8) d17_1 (XT.i0_ne_t (by decide)) (by decide) (by decide) ?_
  refine Rn.aloadN K (q := 9) d17_8 rfl rfl rfl ?_
  refine Rn.getF K (q := 12) (oT 44 rfl) Via.refl Fe d17_9 rfl ?_
  refine Rn.iloadN K (q := 13) d17_12 rfl rfl ?_
  refine Rn.iconst K (q := 14) (1 : Int32) d17_13 rfl rfl ?_
  refine Rn.isub K (q := 15) d17_14 rfl ?_
  show Rn w l _ n0 _ 15 _ [oZ, (.ref en)] h0 0 0
  refine Rn.laload K (q := 16) (v := (.long e0)) Ae (by decide) rfl d17_15 rfl ?_
  exact Rn.retJ K rfl d17_16 (by decide) (by decide) ⟨rfl, rfl⟩
theorem m_hash1 (l : Launch) (Z : State) (a0 : Array Value) (hw : oH Z a0) (n0 : Nat) (h0 : Heap) (t ch ck en : Addr) (ws A M B : List Int32) (e0 e1 e2 : Int64) (X0 : Old Z n0 h0) (QC : COL Z h0 t ch ck en ws [(.long e0), (.long e1), (.long e2), (.long (0 : Int64)), (.long (0 : Int64)), (.long (0 : Int64)), (.long (0 : Int64)), (.long (0 : Int64)), (.long (0 : Int64)), (.long (0 : Int64)), (.long (0 : Int64)), (.long (0 : Int64)), (.long (0 : Int64)), (.long (0 : Int64)), (.long (0 : Int64)), (.long (0 : Int64))] (3 : Int32)) (hws : ws = A ++ M ++ B) (hl : ws.length ≤ 15) (hs : e0 = Int64.ofNat (A.length + 0)) (he : e1 = Int64.ofNat (A.length + M.length)) (hc : ∀ c ∈ M, Chr c) :
    Met l Z oM30 oC30 5 (some .int) (oR 1 0 0 40) n0 [] #[(.ref t), (.int (1 : Int32))] h0 (fun v h => v = some (.int (hsh M)) ∧ h0 = h) := by
  refine Met.intro (Ls := #[.val (.ref t), .val (.int (1 : Int32)), .unset, .unset, .unset]) (plainFor_of_name pn_m_tci) hw (fun _ => rfl) ?_
  intro w K0
  have K : oK30 w Z a0 := K0
  obtain ⟨Et, Eh, Ek, Ee, Fh, Fe, Fz, Fl, ⟨kh, Ah⟩, ⟨kk, Ak⟩, ⟨ke, Ae⟩⟩ := QC
  have hlen : ws.length = A.length + M.length + B.length := by rw [hws]; simp only [List.length_append]
  refine Rn.iconst K (q := 1) (0 : Int32) d16_0 rfl rfl ?_
  refine Rn.istoreN K (q := 2) (Ls' := #[.val (.ref t), .val (.int (1 : Int32)), .val oZ, .unset, .unset]) d16_1 rfl rfl ?_
  refine Rn.aloadN K (q := 3) d16_2 rfl rfl rfl ?_
  refine Rn.iloadN K (q := 4) d16_3 rfl rfl ?_
  refine Rn.privD K (q := 7) (W := 0) (y := oM29) (y2 := oM26) (b := t) (argsL := [(.int (1 : Int32))]) (rest := []) (oT 96 rfl) (oT 97 rfl) (oT 47 rfl) (oT 49 rfl) rfl (oT 98 rfl) (oT 99 rfl) (oT 33 rfl) (by decide) (m_sta1 l Z a0 hw n0 h0 t ch ck en ws e0 e1 e2 X0 ⟨Et, Eh, Ek, Ee, Fh, Fe, Fz, Fl, ⟨kh, Ah⟩, ⟨kk, Ak⟩, ⟨ke, Ae⟩⟩) (Et) (by decide) (by decide) rfl (lenOf pd_23 rfl) rfl (oL rfl) d16_4 rfl (by decide) (by decide) ?_
  rintro _ _ ⟨rfl, rfl⟩
  show Rn w l _ n0 _ 7 _ [(.long e0)] h0 0 0
  refine Rn.lstoreN K (q := 8) (Ls' := #[.val (.ref t), .val (.int (1 : Int32)), .val oZ, .val (.long e0), .second]) d16_7 rfl rfl ?_
  have loop : ∀ (m j : Nat), j + m = M.length → Rn w l (oR 1 0 0 40) n0 (FinQ w (oR 1 0 0 40) n0 (fun v h => v = some (.int (hsh M)) ∧ h0 = h)) 8 #[.val (.ref t), .val (.int (1 : Int32)), .val (.int (hsh (M.take j))), .val (.long (Int64.ofNat (A.length + j))), .second] [] h0 0 0 := by
    intro m
    induction m with
    | zero =>
      intro j hj
      have hcmp : ¬ (Int64.ofNat (A.length + j)) < e1 := by rw [he]; exact own_nlt64 (by omega) (by omega)
      refine Rn.lloadN K (q := 9) d16_8 rfl rfl ?_
      refine Rn.aloadN K (q := 10) d16_9 rfl rfl rfl ?_
      refine Rn.getF K (q := 13) (oT 44 rfl) Via.refl Fe d16_10 rfl ?_
      refine Rn.iloadN K (q := 14) d16_13 rfl rfl ?_
      refine Rn.laload K (q := 15) (v := (.long e1)) Ae (by decide) rfl d16_14 rfl ?_
      refine Rn.lcmp K (q := 16) d16_15 rfl ?_
      refine Rn.ifY K (q := 37) d16_16 (XT.i0_ge_t (fun z => hcmp ((own_lc_lt _ _).mp z))) (by decide) (by decide) ?_
      refine Rn.iloadN K (q := 38) d16_37 rfl rfl ?_
      exact Rn.retI K rfl d16_38 (by decide) (by decide) ⟨by rw [show j = M.length by omega, List.take_length], rfl⟩
    | succ m ih =>
      intro j hj
      have hcmp : (Int64.ofNat (A.length + j)) < e1 := by rw [he]; exact own_lt64 (by omega) (by omega)
      refine Rn.lloadN K (q := 9) d16_8 rfl rfl ?_
      refine Rn.aloadN K (q := 10) d16_9 rfl rfl rfl ?_
      refine Rn.getF K (q := 13) (oT 44 rfl) Via.refl Fe d16_10 rfl ?_
      refine Rn.iloadN K (q := 14) d16_13 rfl rfl ?_
      refine Rn.laload K (q := 15) (v := (.long e1)) Ae (by decide) rfl d16_14 rfl ?_
      refine Rn.lcmp K (q := 16) d16_15 rfl ?_
      refine Rn.ifN K (q := 19) d16_16 (XT.i0_ge_f ((own_lc_lt _ _).mpr hcmp)) rfl ?_
      refine Rn.bipush K (q := 21) (31 : Int32) d16_19 rfl rfl ?_
      refine Rn.iloadN K (q := 22) d16_21 rfl rfl ?_
      refine Rn.imul K (q := 23) d16_22 rfl ?_
      refine Rn.aloadN K (q := 24) d16_23 rfl rfl rfl ?_
      refine Rn.lloadN K (q := 25) d16_24 rfl rfl ?_
      refine Rn.privD K (q := 28) (W := 1) (y := oM28) (y2 := oM26) (b := t) (argsL := [(.long (Int64.ofNat (A.length + j)))]) (rest := [(.int ((31 : Int32) * (hsh (M.take j))))]) (oT 123 rfl) (oT 124 rfl) (oT 47 rfl) (oT 49 rfl) rfl (oT 125 rfl) (oT 126 rfl) (oT 33 rfl) (by decide) (m_cat l Z a0 hw n0 h0 t ch ck en ws _ _ (A.length + j) (M.getD j 0) X0 ⟨Et, Eh, Ek, Ee, Fh, Fe, Fz, Fl, ⟨kh, Ah⟩, ⟨kk, Ak⟩, ⟨ke, Ae⟩⟩ (by omega) hl (own_mid hws (by omega)) (own_mem hc (by omega))) (Et) (by decide) (by decide) rfl (lenOf pd_22 rfl) rfl (oL rfl) d16_25 rfl (by decide) (by decide) ?_
      rintro _ _ ⟨rfl, rfl⟩
      show Rn w l _ n0 _ 28 _ [(.int (M.getD j 0)), (.int ((31 : Int32) * (hsh (M.take j))))] h0 0 0
      refine Rn.iadd K (q := 29) d16_28 rfl ?_
      rw [own_hs (by omega)]
      refine Rn.istoreN K (q := 30) (Ls' := #[.val (.ref t), .val (.int (1 : Int32)), .val (.int (hsh (M.take (j + 1)))), .val (.long (Int64.ofNat (A.length + j))), .second]) d16_29 rfl rfl ?_
      refine Rn.lloadN K (q := 31) d16_30 rfl rfl ?_
      refine Rn.lconst K (q := 32) (1 : Int64) d16_31 rfl rfl ?_
      refine Rn.ladd K (q := 33) d16_32 rfl ?_
      rw [own_j1]
      refine Rn.lstoreN K (q := 34) (Ls' := #[.val (.ref t), .val (.int (1 : Int32)), .val (.int (hsh (M.take (j + 1)))), .val (.long (Int64.ofNat (A.length + (j + 1)))), .second]) d16_33 rfl rfl ?_
      refine Rn.goto K (q := 8) d16_34 (by decide) (by decide) ?_
      exact ih (j + 1) (by omega)
  have fin := loop M.length 0 (by omega)
  rw [← hs] at fin
  exact fin
theorem m_sta2 (l : Launch) (Z : State) (a0 : Array Value) (hw : oH Z a0) (n0 : Nat) (h0 : Heap) (t ch ck en : Addr) (ws : List Int32) (e0 e1 e2 : Int64) (X0 : Old Z n0 h0) (QC : COL Z h0 t ch ck en ws [(.long e0), (.long e1), (.long e2), (.long (0 : Int64)), (.long (0 : Int64)), (.long (0 : Int64)), (.long (0 : Int64)), (.long (0 : Int64)), (.long (0 : Int64)), (.long (0 : Int64)), (.long (0 : Int64)), (.long (0 : Int64)), (.long (0 : Int64)), (.long (0 : Int64)), (.long (0 : Int64)), (.long (0 : Int64))] (3 : Int32)) :
    Met l Z oM29 oC29 2 (some .long) (oR 0 0 0 0) n0 [] #[(.ref t), (.int (2 : Int32))] h0 (fun v h => v = some (.long e1) ∧ h0 = h) := by
  refine Met.intro (Ls := #[.val (.ref t), .val (.int (2 : Int32))]) (plainFor_of_name pn_m_tci) hw (fun _ => rfl) ?_
  intro w K0
  have K : oK29 w Z a0 := K0
  obtain ⟨Et, Eh, Ek, Ee, Fh, Fe, Fz, Fl, ⟨kh, Ah⟩, ⟨kk, Ak⟩, ⟨ke, Ae⟩⟩ := QC
  refine Rn.iloadN K (q := 1) d17_0 rfl rfl ?_
  refine Rn.ifY K (q := 8) d17_1 (XT.i0_ne_t (by decide)) (by decide) (by decide) ?_
  refine Rn.aloadN K (q := 9) d17_8 rfl rfl rfl ?_
  refine Rn.getF K (q := 12) (oT 44 rfl) Via.refl Fe d17_9 rfl ?_
  refine Rn.iloadN K (q := 13) d17_12 rfl rfl ?_
  refine Rn.iconst K (q := 14) (1 : Int32) d17_13 rfl rfl ?_
  refine Rn.isub K (q := 15) d17_14 rfl ?_
  show Rn w l _ n0 _ 15 _ [(.int (1 : Int32)), (.ref en)] h0 0 0
  refine Rn.laload K (q := 16) (v := (.long e1)) Ae (by decide) rfl d17_15 rfl ?_
  exact Rn.retJ K rfl d17_16 (by decide) (by decide) ⟨rfl, rfl⟩
theorem m_hash2 (l : Launch) (Z : State) (a0 : Array Value) (hw : oH Z a0) (n0 : Nat) (h0 : Heap) (t ch ck en : Addr) (ws A M B : List Int32) (e0 e1 e2 : Int64) (X0 : Old Z n0 h0) (QC : COL Z h0 t ch ck en ws [(.long e0), (.long e1), (.long e2), (.long (0 : Int64)), (.long (0 : Int64)), (.long (0 : Int64)), (.long (0 : Int64)), (.long (0 : Int64)), (.long (0 : Int64)), (.long (0 : Int64)), (.long (0 : Int64)), (.long (0 : Int64)), (.long (0 : Int64)), (.long (0 : Int64)), (.long (0 : Int64)), (.long (0 : Int64))] (3 : Int32)) (hws : ws = A ++ M ++ B) (hl : ws.length ≤ 15) (hs : e1 = Int64.ofNat (A.length + 0)) (he : e2 = Int64.ofNat (A.length + M.length)) (hc : ∀ c ∈ M, Chr c) :
    Met l Z oM30 oC30 5 (some .int) (oR 1 0 0 40) n0 [] #[(.ref t), (.int (2 : Int32))] h0 (fun v h => v = some (.int (hsh M)) ∧ h0 = h) := by
  refine Met.intro (Ls := #[.val (.ref t), .val (.int (2 : Int32)), .unset, .unset, .unset]) (plainFor_of_name pn_m_tci) hw (fun _ => rfl) ?_
  intro w K0
  have K : oK30 w Z a0 := K0
  obtain ⟨Et, Eh, Ek, Ee, Fh, Fe, Fz, Fl, ⟨kh, Ah⟩, ⟨kk, Ak⟩, ⟨ke, Ae⟩⟩ := QC
  have hlen : ws.length = A.length + M.length + B.length := by rw [hws]; simp only [List.length_append]
  refine Rn.iconst K (q := 1) (0 : Int32) d16_0 rfl rfl ?_
  refine Rn.istoreN K (q := 2) (Ls' := #[.val (.ref t), .val (.int (2 : Int32)), .val oZ, .unset, .unset]) d16_1 rfl rfl ?_
  refine Rn.aloadN K (q := 3) d16_2 rfl rfl rfl ?_
  refine Rn.iloadN K (q := 4) d16_3 rfl rfl ?_
  refine Rn.privD K (q := 7) (W := 0) (y := oM29) (y2 := oM26) (b := t) (argsL := [(.int (2 : Int32))]) (rest := []) (oT 96 rfl) (oT 97 rfl) (oT 47 rfl) (oT 49 rfl) rfl (oT 98 rfl) (oT 99 rfl) (oT 33 rfl) (by decide) (m_sta2 l Z a0 hw n0 h0 t ch ck en ws e0 e1 e2 X0 ⟨Et, Eh, Ek, Ee, Fh, Fe, Fz, Fl, ⟨kh, Ah⟩, ⟨kk, Ak⟩, ⟨ke, Ae⟩⟩) (Et) (by decide) (by decide) rfl (lenOf pd_23 rfl) rfl (oL rfl) d16_4 rfl (by decide) (by decide) ?_
  rintro _ _ ⟨rfl, rfl⟩
  show Rn w l _ n0 _ 7 _ [(.long e1)] h0 0 0
  refine Rn.lstoreN K (q := 8) (Ls' := #[.val (.ref t), .val (.int (2 : Int32)), .val oZ, .val (.long e1), .second]) d16_7 rfl rfl ?_
  have loop : ∀ (m j : Nat), j + m = M.length → Rn w l (oR 1 0 0 40) n0 (FinQ w (oR 1 0 0 40) n0 (fun v h => v = some (.int (hsh M)) ∧ h0 = h)) 8 #[.val (.ref t), .val (.int (2 : Int32)), .val (.int (hsh (M.take j))), .val (.long (Int64.ofNat (A.length + j))), .second] [] h0 0 0 := by
    intro m
    induction m with
    | zero =>
      intro j hj
      have hcmp : ¬ (Int64.ofNat (A.length + j)) < e2 := by rw [he]; exact own_nlt64 (by omega) (by omega)
      refine Rn.lloadN K (q := 9) d16_8 rfl rfl ?_
      refine Rn.aloadN K (q := 10) d16_9 rfl rfl rfl ?_
      refine Rn.getF K (q := 13) (oT 44 rfl) Via.refl Fe d16_10 rfl ?_
      refine Rn.iloadN K (q := 14) d16_13 rfl rfl ?_
      refine Rn.laload K (q := 15) (v := (.long e2)) Ae (by decide) rfl d16_14 rfl ?_
      refine Rn.lcmp K (q := 16) d16_15 rfl ?_
      refine Rn.ifY K (q := 37) d16_16 (XT.i0_ge_t (fun z => hcmp ((own_lc_lt _ _).mp z))) (by decide) (by decide) ?_
      refine Rn.iloadN K (q := 38) d16_37 rfl rfl ?_
      exact Rn.retI K rfl d16_38 (by decide) (by decide) ⟨by rw [show j = M.length by omega, List.take_length], rfl⟩
    | succ m ih =>
      intro j hj
      have hcmp : (Int64.ofNat (A.length + j)) < e2 := by rw [he]; exact own_lt64 (by omega) (by omega)
      refine Rn.lloadN K (q := 9) d16_8 rfl rfl ?_
      refine Rn.aloadN K (q := 10) d16_9 rfl rfl rfl ?_
      refine Rn.getF K (q := 13) (oT 44 rfl) Via.refl Fe d16_10 rfl ?_
      refine Rn.iloadN K (q := 14) d16_13 rfl rfl ?_
      refine Rn.laload K (q := 15) (v := (.long e2)) Ae (by decide) rfl d16_14 rfl ?_
      refine Rn.lcmp K (q := 16) d16_15 rfl ?_
      refine Rn.ifN K (q := 19) d16_16 (XT.i0_ge_f ((own_lc_lt _ _).mpr hcmp)) rfl ?_
      refine Rn.bipush K (q := 21) (31 : Int32) d16_19 rfl rfl ?_
      refine Rn.iloadN K (q := 22) d16_21 rfl rfl ?_
      refine Rn.imul K (q := 23) d16_22 rfl ?_
      refine Rn.aloadN K (q := 24) d16_23 rfl rfl rfl ?_
      refine Rn.lloadN K (q := 25) d16_24 rfl rfl ?_
      refine Rn.privD K (q := 28) (W := 1) (y := oM28) (y2 := oM26) (b := t) (argsL := [(.long (Int64.ofNat (A.length + j)))]) (rest := [(.int ((31 : Int32) * (hsh (M.take j))))]) (oT 123 rfl) (oT 124 rfl) (oT 47 rfl) (oT 49 rfl) rfl (oT 125 rfl) (oT 126 rfl) (oT 33 rfl) (by decide) (m_cat l Z a0 hw n0 h0 t ch ck en ws _ _ (A.length + j) (M.getD j 0) X0 ⟨Et, Eh, Ek, Ee, Fh, Fe, Fz, Fl, ⟨kh, Ah⟩, ⟨kk, Ak⟩, ⟨ke, Ae⟩⟩ (by omega) hl (own_mid hws (by omega)) (own_mem hc (by omega))) (Et) (by decide) (by decide) rfl (lenOf pd_22 rfl) rfl (oL rfl) d16_25 rfl (by decide) (by decide) ?_
      rintro _ _ ⟨rfl, rfl⟩
      show Rn w l _ n0 _ 28 _ [(.int (M.getD j 0)), (.int ((31 : Int32) * (hsh (M.take j))))] h0 0 0
      refine Rn.iadd K (q := 29) d16_28 rfl ?_
      rw [own_hs (by omega)]
      refine Rn.istoreN K (q := 30) (Ls' := #[.val (.ref t), .val (.int (2 : Int32)), .val (.int (hsh (M.take (j + 1)))), .val (.long (Int64.ofNat (A.length + j))), .second]) d16_29 rfl rfl ?_
      refine Rn.lloadN K (q := 31) d16_30 rfl rfl ?_
      refine Rn.lconst K (q := 32) (1 : Int64) d16_31 rfl rfl ?_
      refine Rn.ladd K (q := 33) d16_32 rfl ?_
      rw [own_j1]
      refine Rn.lstoreN K (q := 34) (Ls' := #[.val (.ref t), .val (.int (2 : Int32)), .val (.int (hsh (M.take (j + 1)))), .val (.long (Int64.ofNat (A.length + (j + 1)))), .second]) d16_33 rfl rfl ?_
      refine Rn.goto K (q := 8) d16_34 (by decide) (by decide) ?_
      exact ih (j + 1) (by omega)
  have fin := loop M.length 0 (by omega)
  rw [← hs] at fin
  exact fin
theorem d5_0 : decode oC31 0 = .ok (.iconst 0, 1) := by decide +kernel
theorem d5_1 : decode oC31 1 = .ok (.istore 6, 2) := by decide +kernel
theorem d5_3 : decode oC31 3 = .ok (.iload_n 0, 1) := by decide +kernel
theorem d5_4 : decode oC31 4 = .ok (.iconst 1, 1) := by decide +kernel
theorem d5_5 : decode oC31 5 = .ok (.if_icmp .lt 12, 3) := by decide +kernel
theorem d5_17 : decode oC31 17 = .ok (.iload_n 0, 1) := by decide +kernel
theorem d5_18 : decode oC31 18 = .ok (.iconst 2, 1) := by decide +kernel
theorem d5_19 : decode oC31 19 = .ok (.if_icmp .lt 12, 3) := by decide +kernel
theorem d5_31 : decode oC31 31 = .ok (.iload_n 0, 1) := by decide +kernel
theorem d5_32 : decode oC31 32 = .ok (.iconst 3, 1) := by decide +kernel
theorem d5_33 : decode oC31 33 = .ok (.if_icmp .lt 12, 3) := by decide +kernel
theorem d5_45 : decode oC31 45 = .ok (.iload_n 0, 1) := by decide +kernel
theorem d5_46 : decode oC31 46 = .ok (.iconst 4, 1) := by decide +kernel
theorem d5_47 : decode oC31 47 = .ok (.if_icmp .lt 13, 3) := by decide +kernel
theorem d5_60 : decode oC31 60 = .ok (.iload_n 0, 1) := by decide +kernel
theorem d5_61 : decode oC31 61 = .ok (.iconst 5, 1) := by decide +kernel
theorem d5_62 : decode oC31 62 = .ok (.if_icmp .lt 13, 3) := by decide +kernel
theorem d5_75 : decode oC31 75 = .ok (.iload 6, 2) := by decide +kernel
theorem d5_77 : decode oC31 77 = .ok (.ireturn, 1) := by decide +kernel
theorem pn_m_ref0 : plainName "com/example/spanmask/spanmask/ledger/TextColumnHashPinLaw" = true := by first | (simp [plainName, overriddenIn]; done) | decide +kernel
theorem m_ref0 (l : Launch) (Z : State) (a0 : Array Value) (hw : oH Z a0) (n0 : Nat) (h0 : Heap) (x0 x1 x2 x3 x4 : Int32) (X0 : Old Z n0 h0) :
    Met l Z oM31 oC31 7 (some .int) (oR 0 0 0 0) n0 [] #[oZ, (.int x0), (.int x1), (.int x2), (.int x3), (.int x4)] h0 (fun v h => v = some (.int (hsh [])) ∧ h0 = h) := by
  refine Met.intro (Ls := #[.val oZ, .val (.int x0), .val (.int x1), .val (.int x2), .val (.int x3), .val (.int x4), .unset]) (plainFor_of_name pn_m_ref0) hw (fun m => by first | (simp [entryFrame, mkF, argsToLocals, Value.category]; done) | rfl) ?_
  intro w K0
  have K : oK31 w Z a0 := K0
  refine Rn.iconst K (q := 1) (0 : Int32) d5_0 rfl rfl ?_
  refine Rn.istore K (q := 3) (Ls' := #[.val oZ, .val (.int x0), .val (.int x1), .val (.int x2), .val (.int x3), .val (.int x4), .val oZ]) d5_1 rfl rfl ?_
  refine Rn.iloadN K (q := 4) d5_3 rfl rfl ?_
  refine Rn.iconst K (q := 5) (1 : Int32) d5_4 rfl rfl ?_
  refine Rn.icY K (q := 17) d5_5 (XT.ii_lt_t (by decide)) (by decide) (by decide) ?_
  refine Rn.iloadN K (q := 18) d5_17 rfl rfl ?_
  refine Rn.iconst K (q := 19) (2 : Int32) d5_18 rfl rfl ?_
  refine Rn.icY K (q := 31) d5_19 (XT.ii_lt_t (by decide)) (by decide) (by decide) ?_
  refine Rn.iloadN K (q := 32) d5_31 rfl rfl ?_
  refine Rn.iconst K (q := 33) (3 : Int32) d5_32 rfl rfl ?_
  refine Rn.icY K (q := 45) d5_33 (XT.ii_lt_t (by decide)) (by decide) (by decide) ?_
  refine Rn.iloadN K (q := 46) d5_45 rfl rfl ?_
  refine Rn.iconst K (q := 47) (4 : Int32) d5_46 rfl rfl ?_
  refine Rn.icY K (q := 60) d5_47 (XT.ii_lt_t (by decide)) (by decide) (by decide) ?_
  refine Rn.iloadN K (q := 61) d5_60 rfl rfl ?_
  refine Rn.iconst K (q := 62) (5 : Int32) d5_61 rfl rfl ?_
  refine Rn.icY K (q := 75) d5_62 (XT.ii_lt_t (by decide)) (by decide) (by decide) ?_
  refine Rn.iload K (q := 77) d5_75 rfl rfl ?_
  exact Rn.retI K rfl d5_77 (by decide) (by decide) ⟨rfl, rfl⟩
theorem d5_8 : decode oC31 8 = .ok (.bipush 31, 2) := by decide +kernel
theorem d5_10 : decode oC31 10 = .ok (.iload 6, 2) := by decide +kernel
theorem d5_12 : decode oC31 12 = .ok (.imul, 1) := by decide +kernel
theorem d5_13 : decode oC31 13 = .ok (.iload_n 1, 1) := by decide +kernel
theorem d5_14 : decode oC31 14 = .ok (.iadd, 1) := by decide +kernel
theorem d5_15 : decode oC31 15 = .ok (.istore 6, 2) := by decide +kernel
theorem m_ref1 (l : Launch) (Z : State) (a0 : Array Value) (hw : oH Z a0) (n0 : Nat) (h0 : Heap) (x0 x1 x2 x3 x4 : Int32) (X0 : Old Z n0 h0) :
    Met l Z oM31 oC31 7 (some .int) (oR 0 0 0 0) n0 [] #[(.int (1 : Int32)), (.int x0), (.int x1), (.int x2), (.int x3), (.int x4)] h0 (fun v h => v = some (.int (hsh [x0])) ∧ h0 = h) := by
  refine Met.intro (Ls := #[.val (.int (1 : Int32)), .val (.int x0), .val (.int x1), .val (.int x2), .val (.int x3), .val (.int x4), .unset]) (plainFor_of_name pn_m_ref0) hw (fun m => by first | (simp [entryFrame, mkF, argsToLocals, Value.category]; done) | rfl) ?_
  intro w K0
  have K : oK31 w Z a0 := K0
  refine Rn.iconst K (q := 1) (0 : Int32) d5_0 rfl rfl ?_
  refine Rn.istore K (q := 3) (Ls' := #[.val (.int (1 : Int32)), .val (.int x0), .val (.int x1), .val (.int x2), .val (.int x3), .val (.int x4), .val oZ]) d5_1 rfl rfl ?_
  refine Rn.iloadN K (q := 4) d5_3 rfl rfl ?_
  refine Rn.iconst K (q := 5) (1 : Int32) d5_4 rfl rfl ?_
  refine Rn.icN K (q := 8) d5_5 (XT.ii_lt_f (by decide)) rfl ?_
  refine Rn.bipush K (q := 10) (31 : Int32) d5_8 rfl rfl ?_
  refine Rn.iload K (q := 12) d5_10 rfl rfl ?_
  refine Rn.imul K (q := 13) d5_12 rfl ?_
  refine Rn.iloadN K (q := 14) d5_13 rfl rfl ?_
  refine Rn.iadd K (q := 15) d5_14 rfl ?_
  refine Rn.istore K (q := 17) (Ls' := #[.val (.int (1 : Int32)), .val (.int x0), .val (.int x1), .val (.int x2), .val (.int x3), .val (.int x4), .val (.int (((31 : Int32) * (0 : Int32)) + x0))]) d5_15 rfl rfl ?_
  refine Rn.iloadN K (q := 18) d5_17 rfl rfl ?_
  refine Rn.iconst K (q := 19) (2 : Int32) d5_18 rfl rfl ?_
  refine Rn.icY K (q := 31) d5_19 (XT.ii_lt_t (by decide)) (by decide) (by decide) ?_
  refine Rn.iloadN K (q := 32) d5_31 rfl rfl ?_
  refine Rn.iconst K (q := 33) (3 : Int32) d5_32 rfl rfl ?_
  refine Rn.icY K (q := 45) d5_33 (XT.ii_lt_t (by decide)) (by decide) (by decide) ?_
  refine Rn.iloadN K (q := 46) d5_45 rfl rfl ?_
  refine Rn.iconst K (q := 47) (4 : Int32) d5_46 rfl rfl ?_
  refine Rn.icY K (q := 60) d5_47 (XT.ii_lt_t (by decide)) (by decide) (by decide) ?_
  refine Rn.iloadN K (q := 61) d5_60 rfl rfl ?_
  refine Rn.iconst K (q := 62) (5 : Int32) d5_61 rfl rfl ?_
  refine Rn.icY K (q := 75) d5_62 (XT.ii_lt_t (by decide)) (by decide) (by decide) ?_
  refine Rn.iload K (q := 77) d5_75 rfl rfl ?_
  exact Rn.retI K rfl d5_77 (by decide) (by decide) ⟨rfl, rfl⟩
theorem d5_22 : decode oC31 22 = .ok (.bipush 31, 2) := by decide +kernel
theorem d5_24 : decode oC31 24 = .ok (.iload 6, 2) := by decide +kernel
theorem d5_26 : decode oC31 26 = .ok (.imul, 1) := by decide +kernel
theorem d5_27 : decode oC31 27 = .ok (.iload_n 2, 1) := by decide +kernel
theorem d5_28 : decode oC31 28 = .ok (.iadd, 1) := by decide +kernel
theorem d5_29 : decode oC31 29 = .ok (.istore 6, 2) := by decide +kernel
theorem m_ref2 (l : Launch) (Z : State) (a0 : Array Value) (hw : oH Z a0) (n0 : Nat) (h0 : Heap) (x0 x1 x2 x3 x4 : Int32) (X0 : Old Z n0 h0) :
    Met l Z oM31 oC31 7 (some .int) (oR 0 0 0 0) n0 [] #[(.int (2 : Int32)), (.int x0), (.int x1), (.int x2), (.int x3), (.int x4)] h0 (fun v h => v = some (.int (hsh [x0, x1])) ∧ h0 = h) := by
  refine Met.intro (Ls := #[.val (.int (2 : Int32)), .val (.int x0), .val (.int x1), .val (.int x2), .val (.int x3), .val (.int x4), .unset]) (plainFor_of_name pn_m_ref0) hw (fun m => by first | (simp [entryFrame, mkF, argsToLocals, Value.category]; done) | rfl) ?_
  intro w K0
  have K : oK31 w Z a0 := K0
  refine Rn.iconst K (q := 1) (0 : Int32) d5_0 rfl rfl ?_
  refine Rn.istore K (q := 3) (Ls' := #[.val (.int (2 : Int32)), .val (.int x0), .val (.int x1), .val (.int x2), .val (.int x3), .val (.int x4), .val oZ]) d5_1 rfl rfl ?_
  refine Rn.iloadN K (q := 4) d5_3 rfl rfl ?_
  refine Rn.iconst K (q := 5) (1 : Int32) d5_4 rfl rfl ?_
  refine Rn.icN K (q := 8) d5_5 (XT.ii_lt_f (by decide)) rfl ?_
  refine Rn.bipush K (q := 10) (31 : Int32) d5_8 rfl rfl ?_
  refine Rn.iload K (q := 12) d5_10 rfl rfl ?_
  refine Rn.imul K (q := 13) d5_12 rfl ?_
  refine Rn.iloadN K (q := 14) d5_13 rfl rfl ?_
  refine Rn.iadd K (q := 15) d5_14 rfl ?_
  refine Rn.istore K (q := 17) (Ls' := #[.val (.int (2 : Int32)), .val (.int x0), .val (.int x1), .val (.int x2), .val (.int x3), .val (.int x4), .val (.int (((31 : Int32) * (0 : Int32)) + x0))]) d5_15 rfl rfl ?_
  refine Rn.iloadN K (q := 18) d5_17 rfl rfl ?_
  refine Rn.iconst K (q := 19) (2 : Int32) d5_18 rfl rfl ?_
  refine Rn.icN K (q := 22) d5_19 (XT.ii_lt_f (by decide)) rfl ?_
  refine Rn.bipush K (q := 24) (31 : Int32) d5_22 rfl rfl ?_
  refine Rn.iload K (q := 26) d5_24 rfl rfl ?_
  refine Rn.imul K (q := 27) d5_26 rfl ?_
  refine Rn.iloadN K (q := 28) d5_27 rfl rfl ?_
  refine Rn.iadd K (q := 29) d5_28 rfl ?_
  refine Rn.istore K (q := 31) (Ls' := #[.val (.int (2 : Int32)), .val (.int x0), .val (.int x1), .val (.int x2), .val (.int x3), .val (.int x4), .val (.int (((31 : Int32) * (((31 : Int32) * (0 : Int32)) + x0)) + x1))]) d5_29 rfl rfl ?_
  refine Rn.iloadN K (q := 32) d5_31 rfl rfl ?_
  refine Rn.iconst K (q := 33) (3 : Int32) d5_32 rfl rfl ?_
  refine Rn.icY K (q := 45) d5_33 (XT.ii_lt_t (by decide)) (by decide) (by decide) ?_
  refine Rn.iloadN K (q := 46) d5_45 rfl rfl ?_
  refine Rn.iconst K (q := 47) (4 : Int32) d5_46 rfl rfl ?_
  refine Rn.icY K (q := 60) d5_47 (XT.ii_lt_t (by decide)) (by decide) (by decide) ?_
  refine Rn.iloadN K (q := 61) d5_60 rfl rfl ?_
  refine Rn.iconst K (q := 62) (5 : Int32) d5_61 rfl rfl ?_
  refine Rn.icY K (q := 75) d5_62 (XT.ii_lt_t (by decide)) (by decide) (by decide) ?_
  refine Rn.iload K (q := 77) d5_75 rfl rfl ?_
  exact Rn.retI K rfl d5_77 (by decide) (by decide) ⟨rfl, rfl⟩
theorem d5_36 : decode oC31 36 = .ok (.bipush 31, 2) := by decide +kernel
theorem d5_38 : decode oC31 38 = .ok (.iload 6, 2) := by decide +kernel
theorem d5_40 : decode oC31 40 = .ok (.imul, 1) := by decide +kernel
theorem d5_41 : decode oC31 41 = .ok (.iload_n 3, 1) := by decide +kernel
theorem d5_42 : decode oC31 42 = .ok (.iadd, 1) := by decide +kernel
theorem d5_43 : decode oC31 43 = .ok (.istore 6, 2) := by decide +kernel
theorem m_ref3 (l : Launch) (Z : State) (a0 : Array Value) (hw : oH Z a0) (n0 : Nat) (h0 : Heap) (x0 x1 x2 x3 x4 : Int32) (X0 : Old Z n0 h0) :
    Met l Z oM31 oC31 7 (some .int) (oR 0 0 0 0) n0 [] #[(.int (3 : Int32)), (.int x0), (.int x1), (.int x2), (.int x3), (.int x4)] h0 (fun v h => v = some (.int (hsh [x0, x1, x2])) ∧ h0 = h) := by
  refine Met.intro (Ls := #[.val (.int (3 : Int32)), .val (.int x0), .val (.int x1), .val (.int x2), .val (.int x3), .val (.int x4), .unset]) (plainFor_of_name pn_m_ref0) hw (fun m => by first | (simp [entryFrame, mkF, argsToLocals, Value.category]; done) | rfl) ?_
  intro w K0
  have K : oK31 w Z a0 := K0
  refine Rn.iconst K (q := 1) (0 : Int32) d5_0 rfl rfl ?_
  refine Rn.istore K (q := 3) (Ls' := #[.val (.int (3 : Int32)), .val (.int x0), .val (.int x1), .val (.int x2), .val (.int x3), .val (.int x4), .val oZ]) d5_1 rfl rfl ?_
  refine Rn.iloadN K (q := 4) d5_3 rfl rfl ?_
  refine Rn.iconst K (q := 5) (1 : Int32) d5_4 rfl rfl ?_
  refine Rn.icN K (q := 8) d5_5 (XT.ii_lt_f (by decide)) rfl ?_
  refine Rn.bipush K (q := 10) (31 : Int32) d5_8 rfl rfl ?_
  refine Rn.iload K (q := 12) d5_10 rfl rfl ?_
  refine Rn.imul K (q := 13) d5_12 rfl ?_
  refine Rn.iloadN K (q := 14) d5_13 rfl rfl ?_
  refine Rn.iadd K (q := 15) d5_14 rfl ?_
  refine Rn.istore K (q := 17) (Ls' := #[.val (.int (3 : Int32)), .val (.int x0), .val (.int x1), .val (.int x2), .val (.int x3), .val (.int x4), .val (.int (((31 : Int32) * (0 : Int32)) + x0))]) d5_15 rfl rfl ?_
  refine Rn.iloadN K (q := 18) d5_17 rfl rfl ?_
  refine Rn.iconst K (q := 19) (2 : Int32) d5_18 rfl rfl ?_
  refine Rn.icN K (q := 22) d5_19 (XT.ii_lt_f (by decide)) rfl ?_
  refine Rn.bipush K (q := 24) (31 : Int32) d5_22 rfl rfl ?_
  refine Rn.iload K (q := 26) d5_24 rfl rfl ?_
  refine Rn.imul K (q := 27) d5_26 rfl ?_
  refine Rn.iloadN K (q := 28) d5_27 rfl rfl ?_
  refine Rn.iadd K (q := 29) d5_28 rfl ?_
  refine Rn.istore K (q := 31) (Ls' := #[.val (.int (3 : Int32)), .val (.int x0), .val (.int x1), .val (.int x2), .val (.int x3), .val (.int x4), .val (.int (((31 : Int32) * (((31 : Int32) * (0 : Int32)) + x0)) + x1))]) d5_29 rfl rfl ?_
  refine Rn.iloadN K (q := 32) d5_31 rfl rfl ?_
  refine Rn.iconst K (q := 33) (3 : Int32) d5_32 rfl rfl ?_
  refine Rn.icN K (q := 36) d5_33 (XT.ii_lt_f (by decide)) rfl ?_
  refine Rn.bipush K (q := 38) (31 : Int32) d5_36 rfl rfl ?_
  refine Rn.iload K (q := 40) d5_38 rfl rfl ?_
  refine Rn.imul K (q := 41) d5_40 rfl ?_
  refine Rn.iloadN K (q := 42) d5_41 rfl rfl ?_
  refine Rn.iadd K (q := 43) d5_42 rfl ?_
  refine Rn.istore K (q := 45) (Ls' := #[.val (.int (3 : Int32)), .val (.int x0), .val (.int x1), .val (.int x2), .val (.int x3), .val (.int x4), .val (.int (((31 : Int32) * (((31 : Int32) * (((31 : Int32) * (0 : Int32)) + x0)) + x1)) + x2))]) d5_43 rfl rfl ?_
  refine Rn.iloadN K (q := 46) d5_45 rfl rfl ?_
  refine Rn.iconst K (q := 47) (4 : Int32) d5_46 rfl rfl ?_
  refine Rn.icY K (q := 60) d5_47 (XT.ii_lt_t (by decide)) (by decide) (by decide) ?_
  refine Rn.iloadN K (q := 61) d5_60 rfl rfl ?_
  refine Rn.iconst K (q := 62) (5 : Int32) d5_61 rfl rfl ?_
  refine Rn.icY K (q := 75) d5_62 (XT.ii_lt_t (by decide)) (by decide) (by decide) ?_
  refine Rn.iload K (q := 77) d5_75 rfl rfl ?_
  exact Rn.retI K rfl d5_77 (by decide) (by decide) ⟨rfl, rfl⟩
theorem d5_50 : decode oC31 50 = .ok (.bipush 31, 2) := by decide +kernel
theorem d5_52 : decode oC31 52 = .ok (.iload 6, 2) := by decide +kernel
theorem d5_54 : decode oC31 54 = .ok (.imul, 1) := by decide +kernel
theorem d5_55 : decode oC31 55 = .ok (.iload 4, 2) := by decide +kernel
theorem d5_57 : decode oC31 57 = .ok (.iadd, 1) := by decide +kernel
theorem d5_58 : decode oC31 58 = .ok (.istore 6, 2) := by decide +kernel
theorem m_ref4 (l : Launch) (Z : State) (a0 : Array Value) (hw : oH Z a0) (n0 : Nat) (h0 : Heap) (x0 x1 x2 x3 x4 : Int32) (X0 : Old Z n0 h0) :
    Met l Z oM31 oC31 7 (some .int) (oR 0 0 0 0) n0 [] #[(.int (4 : Int32)), (.int x0), (.int x1), (.int x2), (.int x3), (.int x4)] h0 (fun v h => v = some (.int (hsh [x0, x1, x2, x3])) ∧ h0 = h) := by
  refine Met.intro (Ls := #[.val (.int (4 : Int32)), .val (.int x0), .val (.int x1), .val (.int x2), .val (.int x3), .val (.int x4), .unset]) (plainFor_of_name pn_m_ref0) hw (fun m => by first | (simp [entryFrame, mkF, argsToLocals, Value.category]; done) | rfl) ?_
  intro w K0
  have K : oK31 w Z a0 := K0
  refine Rn.iconst K (q := 1) (0 : Int32) d5_0 rfl rfl ?_
  refine Rn.istore K (q := 3) (Ls' := #[.val (.int (4 : Int32)), .val (.int x0), .val (.int x1), .val (.int x2), .val (.int x3), .val (.int x4), .val oZ]) d5_1 rfl rfl ?_
  refine Rn.iloadN K (q := 4) d5_3 rfl rfl ?_
  refine Rn.iconst K (q := 5) (1 : Int32) d5_4 rfl rfl ?_
  refine Rn.icN K (q := 8) d5_5 (XT.ii_lt_f (by decide)) rfl ?_
  refine Rn.bipush K (q := 10) (31 : Int32) d5_8 rfl rfl ?_
  refine Rn.iload K (q := 12) d5_10 rfl rfl ?_
  refine Rn.imul K (q := 13) d5_12 rfl ?_
  refine Rn.iloadN K (q := 14) d5_13 rfl rfl ?_
  refine Rn.iadd K (q := 15) d5_14 rfl ?_
  refine Rn.istore K (q := 17) (Ls' := #[.val (.int (4 : Int32)), .val (.int x0), .val (.int x1), .val (.int x2), .val (.int x3), .val (.int x4), .val (.int (((31 : Int32) * (0 : Int32)) + x0))]) d5_15 rfl rfl ?_
  refine Rn.iloadN K (q := 18) d5_17 rfl rfl ?_
  refine Rn.iconst K (q := 19) (2 : Int32) d5_18 rfl rfl ?_
  refine Rn.icN K (q := 22) d5_19 (XT.ii_lt_f (by decide)) rfl ?_
  refine Rn.bipush K (q := 24) (31 : Int32) d5_22 rfl rfl ?_
  refine Rn.iload K (q := 26) d5_24 rfl rfl ?_
  refine Rn.imul K (q := 27) d5_26 rfl ?_
  refine Rn.iloadN K (q := 28) d5_27 rfl rfl ?_
  refine Rn.iadd K (q := 29) d5_28 rfl ?_
  refine Rn.istore K (q := 31) (Ls' := #[.val (.int (4 : Int32)), .val (.int x0), .val (.int x1), .val (.int x2), .val (.int x3), .val (.int x4), .val (.int (((31 : Int32) * (((31 : Int32) * (0 : Int32)) + x0)) + x1))]) d5_29 rfl rfl ?_
  refine Rn.iloadN K (q := 32) d5_31 rfl rfl ?_
  refine Rn.iconst K (q := 33) (3 : Int32) d5_32 rfl rfl ?_
  refine Rn.icN K (q := 36) d5_33 (XT.ii_lt_f (by decide)) rfl ?_
  refine Rn.bipush K (q := 38) (31 : Int32) d5_36 rfl rfl ?_
  refine Rn.iload K (q := 40) d5_38 rfl rfl ?_
  refine Rn.imul K (q := 41) d5_40 rfl ?_
  refine Rn.iloadN K (q := 42) d5_41 rfl rfl ?_
  refine Rn.iadd K (q := 43) d5_42 rfl ?_
  refine Rn.istore K (q := 45) (Ls' := #[.val (.int (4 : Int32)), .val (.int x0), .val (.int x1), .val (.int x2), .val (.int x3), .val (.int x4), .val (.int (((31 : Int32) * (((31 : Int32) * (((31 : Int32) * (0 : Int32)) + x0)) + x1)) + x2))]) d5_43 rfl rfl ?_
  refine Rn.iloadN K (q := 46) d5_45 rfl rfl ?_
  refine Rn.iconst K (q := 47) (4 : Int32) d5_46 rfl rfl ?_
  refine Rn.icN K (q := 50) d5_47 (XT.ii_lt_f (by decide)) rfl ?_
  refine Rn.bipush K (q := 52) (31 : Int32) d5_50 rfl rfl ?_
  refine Rn.iload K (q := 54) d5_52 rfl rfl ?_
  refine Rn.imul K (q := 55) d5_54 rfl ?_
  refine Rn.iload K (q := 57) d5_55 rfl rfl ?_
  refine Rn.iadd K (q := 58) d5_57 rfl ?_
  refine Rn.istore K (q := 60) (Ls' := #[.val (.int (4 : Int32)), .val (.int x0), .val (.int x1), .val (.int x2), .val (.int x3), .val (.int x4), .val (.int (((31 : Int32) * (((31 : Int32) * (((31 : Int32) * (((31 : Int32) * (0 : Int32)) + x0)) + x1)) + x2)) + x3))]) d5_58 rfl rfl ?_
  refine Rn.iloadN K (q := 61) d5_60 rfl rfl ?_
  refine Rn.iconst K (q := 62) (5 : Int32) d5_61 rfl rfl ?_
  refine Rn.icY K (q := 75) d5_62 (XT.ii_lt_t (by decide)) (by decide) (by decide) ?_
  refine Rn.iload K (q := 77) d5_75 rfl rfl ?_
  exact Rn.retI K rfl d5_77 (by decide) (by decide) ⟨rfl, rfl⟩
theorem d5_65 : decode oC31 65 = .ok (.bipush 31, 2) := by decide +kernel
theorem d5_67 : decode oC31 67 = .ok (.iload 6, 2) := by decide +kernel
theorem d5_69 : decode oC31 69 = .ok (.imul, 1) := by decide +kernel
theorem d5_70 : decode oC31 70 = .ok (.iload 5, 2) := by decide +kernel
theorem d5_72 : decode oC31 72 = .ok (.iadd, 1) := by decide +kernel
theorem d5_73 : decode oC31 73 = .ok (.istore 6, 2) := by decide +kernel
theorem m_ref5 (l : Launch) (Z : State) (a0 : Array Value) (hw : oH Z a0) (n0 : Nat) (h0 : Heap) (x0 x1 x2 x3 x4 : Int32) (X0 : Old Z n0 h0) :
    Met l Z oM31 oC31 7 (some .int) (oR 0 0 0 0) n0 [] #[(.int (5 : Int32)), (.int x0), (.int x1), (.int x2), (.int x3), (.int x4)] h0 (fun v h => v = some (.int (hsh [x0, x1, x2, x3, x4])) ∧ h0 = h) := by
  refine Met.intro (Ls := #[.val (.int (5 : Int32)), .val (.int x0), .val (.int x1), .val (.int x2), .val (.int x3), .val (.int x4), .unset]) (plainFor_of_name pn_m_ref0) hw (fun m => by first | (simp [entryFrame, mkF, argsToLocals, Value.category]; done) | rfl) ?_
  intro w K0
  have K : oK31 w Z a0 := K0
  refine Rn.iconst K (q := 1) (0 : Int32) d5_0 rfl rfl ?_
  refine Rn.istore K (q := 3) (Ls' := #[.val (.int (5 : Int32)), .val (.int x0), .val (.int x1), .val (.int x2), .val (.int x3), .val (.int x4), .val oZ]) d5_1 rfl rfl ?_
  refine Rn.iloadN K (q := 4) d5_3 rfl rfl ?_
  refine Rn.iconst K (q := 5) (1 : Int32) d5_4 rfl rfl ?_
  refine Rn.icN K (q := 8) d5_5 (XT.ii_lt_f (by decide)) rfl ?_
  refine Rn.bipush K (q := 10) (31 : Int32) d5_8 rfl rfl ?_
  refine Rn.iload K (q := 12) d5_10 rfl rfl ?_
  refine Rn.imul K (q := 13) d5_12 rfl ?_
  refine Rn.iloadN K (q := 14) d5_13 rfl rfl ?_
  refine Rn.iadd K (q := 15) d5_14 rfl ?_
  refine Rn.istore K (q := 17) (Ls' := #[.val (.int (5 : Int32)), .val (.int x0), .val (.int x1), .val (.int x2), .val (.int x3), .val (.int x4), .val (.int (((31 : Int32) * (0 : Int32)) + x0))]) d5_15 rfl rfl ?_
  refine Rn.iloadN K (q := 18) d5_17 rfl rfl ?_
  refine Rn.iconst K (q := 19) (2 : Int32) d5_18 rfl rfl ?_
  refine Rn.icN K (q := 22) d5_19 (XT.ii_lt_f (by decide)) rfl ?_
  refine Rn.bipush K (q := 24) (31 : Int32) d5_22 rfl rfl ?_
  refine Rn.iload K (q := 26) d5_24 rfl rfl ?_
  refine Rn.imul K (q := 27) d5_26 rfl ?_
  refine Rn.iloadN K (q := 28) d5_27 rfl rfl ?_
  refine Rn.iadd K (q := 29) d5_28 rfl ?_
  refine Rn.istore K (q := 31) (Ls' := #[.val (.int (5 : Int32)), .val (.int x0), .val (.int x1), .val (.int x2), .val (.int x3), .val (.int x4), .val (.int (((31 : Int32) * (((31 : Int32) * (0 : Int32)) + x0)) + x1))]) d5_29 rfl rfl ?_
  refine Rn.iloadN K (q := 32) d5_31 rfl rfl ?_
  refine Rn.iconst K (q := 33) (3 : Int32) d5_32 rfl rfl ?_
  refine Rn.icN K (q := 36) d5_33 (XT.ii_lt_f (by decide)) rfl ?_
  refine Rn.bipush K (q := 38) (31 : Int32) d5_36 rfl rfl ?_
  refine Rn.iload K (q := 40) d5_38 rfl rfl ?_
  refine Rn.imul K (q := 41) d5_40 rfl ?_
  refine Rn.iloadN K (q := 42) d5_41 rfl rfl ?_
  refine Rn.iadd K (q := 43) d5_42 rfl ?_
  refine Rn.istore K (q := 45) (Ls' := #[.val (.int (5 : Int32)), .val (.int x0), .val (.int x1), .val (.int x2), .val (.int x3), .val (.int x4), .val (.int (((31 : Int32) * (((31 : Int32) * (((31 : Int32) * (0 : Int32)) + x0)) + x1)) + x2))]) d5_43 rfl rfl ?_
  refine Rn.iloadN K (q := 46) d5_45 rfl rfl ?_
  refine Rn.iconst K (q := 47) (4 : Int32) d5_46 rfl rfl ?_
  refine Rn.icN K (q := 50) d5_47 (XT.ii_lt_f (by decide)) rfl ?_
  refine Rn.bipush K (q := 52) (31 : Int32) d5_50 rfl rfl ?_
  refine Rn.iload K (q := 54) d5_52 rfl rfl ?_
  refine Rn.imul K (q := 55) d5_54 rfl ?_
  refine Rn.iload K (q := 57) d5_55 rfl rfl ?_
  refine Rn.iadd K (q := 58) d5_57 rfl ?_
  refine Rn.istore K (q := 60) (Ls' := #[.val (.int (5 : Int32)), .val (.int x0), .val (.int x1), .val (.int x2), .val (.int x3), .val (.int x4), .val (.int (((31 : Int32) * (((31 : Int32) * (((31 : Int32) * (((31 : Int32) * (0 : Int32)) + x0)) + x1)) + x2)) + x3))]) d5_58 rfl rfl ?_
  refine Rn.iloadN K (q := 61) d5_60 rfl rfl ?_
  refine Rn.iconst K (q := 62) (5 : Int32) d5_61 rfl rfl ?_
  refine Rn.icN K (q := 65) d5_62 (XT.ii_lt_f (by decide)) rfl ?_
  refine Rn.bipush K (q := 67) (31 : Int32) d5_65 rfl rfl ?_
  refine Rn.iload K (q := 69) d5_67 rfl rfl ?_
  refine Rn.imul K (q := 70) d5_69 rfl ?_
  refine Rn.iload K (q := 72) d5_70 rfl rfl ?_
  refine Rn.iadd K (q := 73) d5_72 rfl ?_
  refine Rn.istore K (q := 75) (Ls' := #[.val (.int (5 : Int32)), .val (.int x0), .val (.int x1), .val (.int x2), .val (.int x3), .val (.int x4), .val (.int (((31 : Int32) * (((31 : Int32) * (((31 : Int32) * (((31 : Int32) * (((31 : Int32) * (0 : Int32)) + x0)) + x1)) + x2)) + x3)) + x4))]) d5_73 rfl rfl ?_
  refine Rn.iload K (q := 77) d5_75 rfl rfl ?_
  exact Rn.retI K rfl d5_77 (by decide) (by decide) ⟨rfl, rfl⟩
theorem m_ref (l : Launch) (Z : State) (a0 : Array Value) (hw : oH Z a0) (n0 : Nat) (h0 : Heap) (n : Nat) (x0 x1 x2 x3 x4 : Int32) (X0 : Old Z n0 h0) (hn : n < 6) :
    Met l Z oM31 oC31 7 (some .int) (oR 0 0 0 0) n0 [] #[(.int (Int32.ofNat n)), (.int x0), (.int x1), (.int x2), (.int x3), (.int x4)] h0 (fun v h => v = some (.int (hsh (List.take n [x0, x1, x2, x3, x4]))) ∧ h0 = h) := by
  match n, hn with
  | 0, _ => exact m_ref0 l Z a0 hw n0 h0 x0 x1 x2 x3 x4 X0
  | 1, _ => exact m_ref1 l Z a0 hw n0 h0 x0 x1 x2 x3 x4 X0
  | 2, _ => exact m_ref2 l Z a0 hw n0 h0 x0 x1 x2 x3 x4 X0
  | 3, _ => exact m_ref3 l Z a0 hw n0 h0 x0 x1 x2 x3 x4 X0
  | 4, _ => exact m_ref4 l Z a0 hw n0 h0 x0 x1 x2 x3 x4 X0
  | 5, _ => exact m_ref5 l Z a0 hw n0 h0 x0 x1 x2 x3 x4 X0
  | n + 6, hn => exact absurd hn (by omega)
abbrev EL1 : List (String × Nat) := [("java/lang/String", 7)]
theorem own_EW {Z : State} {a0 : Array Value} (hw : ∀ d ∈ tables_1, d.before a0 Z = true) : EW Z a0 EL1 := (EW.cons (hw _ (oT 20 rfl)) (by decide) EW.nil)
theorem own_wS {Z : State} {a0 : Array Value} (hw : ∀ d ∈ tables_1, d.before a0 Z = true) : ∀ d ∈ Bundle.stringAtoms, d.before a0 Z = true := fun d hd => hw d ((by decide +kernel : ∀ d ∈ Bundle.stringAtoms, d ∈ tables_1) d hd)

theorem d3_8 : decode oC8 8 = .ok (.aload_n 0, 1) := by decide +kernel
theorem d3_9 : decode oC8 9 = .ok (.ldc 7, 2) := by decide +kernel
theorem d3_11 : decode oC8 11 = .ok (.getfield 9, 3) := by decide +kernel
theorem d3_14 : decode oC8 14 = .ok (.putfield 9, 3) := by decide +kernel
theorem d3_17 : decode oC8 17 = .ok (.aload_n 0, 1) := by decide +kernel
theorem d3_18 : decode oC8 18 = .ok (.ldc 7, 2) := by decide +kernel
theorem d3_20 : decode oC8 20 = .ok (.getfield 15, 3) := by decide +kernel
theorem d3_23 : decode oC8 23 = .ok (.putfield 15, 3) := by decide +kernel
theorem d3_26 : decode oC8 26 = .ok (.return_, 1) := by decide +kernel
theorem m_iv0 (l : Launch) (Z : State) (a0 : Array Value) (hw : oH Z a0) (n0 : Nat) (h0 : Heap) (s c : Addr) (X0 : Old Z n0 h0) (Es : Exa Z h0 s "java/lang/String") (gs : n0 ≤ s) (Fv : Fld Z h0 s "java/lang/String" "value" "[B" .null) (Fc : Fld Z h0 s "java/lang/String" "coder" "B" (.int (0 : Int32))) :
    MetS l Z EL1 oM8 oC8 6 none (oR 1 4 8 12) n0 [] [s] #[(.ref s), (.ref c), oZ, oZ, .null] h0 (fun r h => r = none ∧ Keep h0 h [s] ∧ ∃ v, STR Z h s v []) := by
  refine MetS.intro (Ls := #[.val (.ref s), .val (.ref c), .val oZ, .val oZ, .val .null, .unset]) (plainFor_of_name pn_m_iv1_1) hw (fun m => by first | (simp [entryFrame, mkF, argsToLocals, Value.category]; done) | rfl) ?_
  intro w K0
  have hEL := own_EW hw
  have wS := own_wS hw
  have K : oK8 w Z a0 := K0
  have K1 := Keep.refl h0 [s]
  refine RnS.lift (fun vm0 hs r => have K := K.on hs; Rn.aloadN K (q := 1) d3_0 rfl rfl rfl r) ?_
  refine RnS.lift (fun vm0 hs r => have K := K.on hs; Rn.initO K (q := 4) (W := 0) (oT 17 rfl) (oT 18 rfl) (oT 19 rfl) (by decide) (by decide) rfl (oL rfl) d3_1 rfl r) ?_
  refine RnS.lift (fun vm0 hs r => have K := K.on hs; Rn.iloadN K (q := 5) d3_4 rfl rfl r) ?_
  refine RnS.lift (fun vm0 hs r => have K := K.on hs; Rn.ifN K (q := 8) d3_5 (XT.i0_ne_f rfl) rfl r) ?_
  refine RnS.lift (fun vm0 hs r => have K := K.on hs; Rn.aloadN K (q := 9) d3_8 rfl rfl rfl r) ?_
  refine RnS.ldcS K (q := 11) (n := 0) (vs := []) (z := (0 : Int32)) (oT 20 rfl) wS hEL (oT 0 rfl) (by decide) (by decide) rfl (by decide) (by decide) (by decide) (by decide) d3_9 rfl ?_
  intro la1 lb2 k3 h4 X5 q6 q7 q8 q9 q10
  have f12 := K1.ext X5
  have f13 := Es.ext X5
  have f14 := Fv.ext X5
  have f15 := Fc.ext X5
  show RnS w l _ n0 _ Z EL1 [s] 11 _ [(.ref la1), (.ref s)] h4 2 4
  refine RnS.lift (fun vm0 hs r => have K := K.on hs; Rn.getF K (q := 14) (oT 26 rfl) Via.refl q8 d3_11 rfl r) ?_
  refine RnS.liftW (Or.inl (oT 0 rfl)) (fun vm0 hs r => have K := K.on hs; Rn.putF K (q := 17) (ty := (.array .byte)) (oT 26 rfl) Via.refl f14 f13 (Or.inr ⟨(oT 22 rfl), rfl, rfl⟩) (oT 7 rfl) (by decide) rfl rfl gs d3_14 rfl r) ?_
  intro h16 W17
  have f19 := f12.wr W17 (Or.inl (oT 0 rfl))
  have f20 := f13.wr W17
  have f21 := Fld.same W17 f14
  have f22 := Fld.other W17 f15 (Or.inr (slot_ne (Or.inr (K.hw _ (oT 23 rfl))) (Or.inr (K.hw _ (oT 22 rfl))) (by decide) (t := .byte) (t' := (.array .byte)) (by decide) (by decide)))
  have f26 := q9.other W17 (Ne.symm (q10 s (oT 0 rfl)).2)
  refine RnS.lift (fun vm0 hs r => have K := K.on hs; Rn.aloadN K (q := 18) d3_17 rfl rfl rfl r) ?_
  refine RnS.ldcS K (q := 20) (n := 0) (vs := []) (z := (0 : Int32)) (oT 20 rfl) wS hEL (oT 0 rfl) (by decide) (by decide) rfl (by decide) (by decide) (by decide) (by decide) d3_18 rfl ?_
  intro la27 lb28 k29 h30 X31 q32 q33 q34 q35 q36
  have f38 := f19.ext X31
  have f39 := f20.ext X31
  have f40 := f21.ext X31
  have f41 := f22.ext X31
  have f45 := f26.ext X31
  show RnS w l _ n0 _ Z EL1 [s] 20 _ [(.ref la27), (.ref s)] h30 4 8
  refine RnS.lift (fun vm0 hs r => have K := K.on hs; Rn.getF K (q := 23) (oT 27 rfl) Via.refl q33 d3_20 rfl r) ?_
  refine RnS.liftW (Or.inl (oT 0 rfl)) (fun vm0 hs r => have K := K.on hs; Rn.putF K (q := 26) (ty := .byte) (v' := .int (nar .byte (0 : Int32))) (oT 27 rfl) Via.refl f41 f39 (Or.inr ⟨(oT 23 rfl), rfl, rfl⟩) (oT 7 rfl) (by decide) rfl (fits_nar_byte _) gs d3_23 rfl r) ?_
  intro h46 W47
  have f49 := f38.wr W47 (Or.inl (oT 0 rfl))
  have f50 := f39.wr W47
  have f51 := Fld.other W47 f40 (Or.inr (slot_ne (Or.inr (K.hw _ (oT 22 rfl))) (Or.inr (K.hw _ (oT 23 rfl))) (by decide) (t := (.array .byte)) (t' := .byte) (by decide) (by decide)))
  have f52 := Fld.same W47 f41
  have f56 := f45.other W47 (Ne.symm (q10 s (oT 0 rfl)).2)
  exact RnS.retV K hEL rfl d3_26 (by decide) (by decide) ⟨rfl, f49, _, f50, f51, _, Or.inl ⟨f52, f56, by simp⟩⟩
theorem m_ic0 (l : Launch) (Z : State) (a0 : Array Value) (hw : oH Z a0) (n0 : Nat) (h0 : Heap) (s c : Addr) (kc : ClassId) (X0 : Old Z n0 h0) (Es : Exa Z h0 s "java/lang/String") (gs : n0 ≤ s) (Fv : Fld Z h0 s "java/lang/String" "value" "[B" .null) (Fc : Fld Z h0 s "java/lang/String" "coder" "B" (.int (0 : Int32))) (Ac : Arv Z h0 c kc .char (0 : Int32) [] oZ) :
    MetS l Z EL1 oM9 oC9 2 none (oR 2 4 8 29) n0 [] [s] #[(.ref s), (.ref c)] h0 (fun r h => r = none ∧ Keep h0 h [s] ∧ ∃ v, STR Z h s v []) := by
  refine MetS.intro (Ls := #[.val (.ref s), .val (.ref c)]) (plainFor_of_name pn_m_iv1_1) hw (fun _ => rfl) ?_
  intro w K0
  have hEL := own_EW hw
  have wS := own_wS hw
  have K : oK9 w Z a0 := K0
  refine RnS.lift (fun vm0 hs r => have K := K.on hs; Rn.aloadN K (q := 1) d2_0 rfl rfl rfl r) ?_
  refine RnS.lift (fun vm0 hs r => have K := K.on hs; Rn.aloadN K (q := 2) d2_1 rfl rfl rfl r) ?_
  refine RnS.lift (fun vm0 hs r => have K := K.on hs; Rn.iconst K (q := 3) (0 : Int32) d2_2 rfl rfl r) ?_
  refine RnS.lift (fun vm0 hs r => have K := K.on hs; Rn.aloadN K (q := 4) d2_3 rfl rfl rfl r) ?_
  refine RnS.lift (fun vm0 hs r => have K := K.on hs; Rn.arraylength K (q := 5) Ac d2_4 rfl r) ?_
  refine RnS.lift (fun vm0 hs r => have K := K.on hs; Rn.aconst_null K (q := 6) d2_5 rfl r) ?_
  refine RnS.specS K hEL (q := 9) (W := 0) (y := oM8) (b := s) (argsL := [(.ref c), oZ, oZ, .null]) (rest := []) rfl (oT 13 rfl) (oT 14 rfl) (oT 16 rfl) (oT 8 rfl) (by decide) (by simp) (m_iv0 l Z a0 hw n0 h0 s c X0 Es gs Fv Fc) (by decide) (by decide) rfl (lenOf pd_7 rfl) rfl (oL rfl) d2_6 rfl (by decide) (by decide) ?_
  rintro _ h1 ⟨rfl, K2, Q2⟩
  show RnS w l _ n0 _ Z EL1 [s] 9 _ [] h1 4 8
  exact RnS.retV K hEL rfl d2_9 (by decide) (by decide) ⟨rfl, K2, Q2⟩
theorem d1_0 : decode oC32 0 = .ok (.iload_n 0, 1) := by decide +kernel
theorem d1_1 : decode oC32 1 = .ok (.ifCond .ne 14, 3) := by decide +kernel
theorem d1_15 : decode oC32 15 = .ok (.iload_n 0, 1) := by decide +kernel
theorem d1_16 : decode oC32 16 = .ok (.iconst 1, 1) := by decide +kernel
theorem d1_17 : decode oC32 17 = .ok (.if_icmp .ne 18, 3) := by decide +kernel
theorem d1_35 : decode oC32 35 = .ok (.iload_n 0, 1) := by decide +kernel
theorem d1_36 : decode oC32 36 = .ok (.iconst 2, 1) := by decide +kernel
theorem d1_37 : decode oC32 37 = .ok (.if_icmp .ne 22, 3) := by decide +kernel
theorem d1_59 : decode oC32 59 = .ok (.iload_n 0, 1) := by decide +kernel
theorem d1_60 : decode oC32 60 = .ok (.iconst 3, 1) := by decide +kernel
theorem d1_61 : decode oC32 61 = .ok (.if_icmp .ne 26, 3) := by decide +kernel
theorem d1_87 : decode oC32 87 = .ok (.iload_n 0, 1) := by decide +kernel
theorem d1_88 : decode oC32 88 = .ok (.iconst 4, 1) := by decide +kernel
theorem d1_89 : decode oC32 89 = .ok (.if_icmp .ne 31, 3) := by decide +kernel
theorem d1_120 : decode oC32 120 = .ok (.new 30, 3) := by decide +kernel
theorem d1_123 : decode oC32 123 = .ok (.dup, 1) := by decide +kernel
theorem d1_124 : decode oC32 124 = .ok (.iconst 5, 1) := by decide +kernel
theorem d1_125 : decode oC32 125 = .ok (.newarray .char, 2) := by decide +kernel
theorem d1_127 : decode oC32 127 = .ok (.dup, 1) := by decide +kernel
theorem d1_128 : decode oC32 128 = .ok (.iconst 0, 1) := by decide +kernel
theorem d1_129 : decode oC32 129 = .ok (.iload_n 1, 1) := by decide +kernel
theorem d1_130 : decode oC32 130 = .ok (.castore, 1) := by decide +kernel
theorem d1_131 : decode oC32 131 = .ok (.dup, 1) := by decide +kernel
theorem d1_132 : decode oC32 132 = .ok (.iconst 1, 1) := by decide +kernel
theorem d1_133 : decode oC32 133 = .ok (.iload_n 2, 1) := by decide +kernel
theorem d1_134 : decode oC32 134 = .ok (.castore, 1) := by decide +kernel
theorem d1_135 : decode oC32 135 = .ok (.dup, 1) := by decide +kernel
theorem d1_136 : decode oC32 136 = .ok (.iconst 2, 1) := by decide +kernel
theorem d1_137 : decode oC32 137 = .ok (.iload_n 3, 1) := by decide +kernel
theorem d1_138 : decode oC32 138 = .ok (.castore, 1) := by decide +kernel
theorem d1_139 : decode oC32 139 = .ok (.dup, 1) := by decide +kernel
theorem d1_140 : decode oC32 140 = .ok (.iconst 3, 1) := by decide +kernel
theorem d1_141 : decode oC32 141 = .ok (.iload 4, 2) := by decide +kernel
theorem d1_143 : decode oC32 143 = .ok (.castore, 1) := by decide +kernel
theorem d1_144 : decode oC32 144 = .ok (.dup, 1) := by decide +kernel
theorem d1_145 : decode oC32 145 = .ok (.iconst 4, 1) := by decide +kernel
theorem d1_146 : decode oC32 146 = .ok (.iload 5, 2) := by decide +kernel
theorem d1_148 : decode oC32 148 = .ok (.castore, 1) := by decide +kernel
theorem d1_149 : decode oC32 149 = .ok (.invokespecial 32, 3) := by decide +kernel
theorem d1_152 : decode oC32 152 = .ok (.areturn, 1) := by decide +kernel
theorem m_mk5 (l : Launch) (Z : State) (a0 : Array Value) (hw : oH Z a0) (n0 : Nat) (h0 : Heap) (x0 x1 x2 x3 x4 : Int32) (cst : Int32) (X0 : Old Z n0 h0) (SC : oSC Z cst) (hcs : ¬ cst = 0) (SA : oS0 Z) (SH : oS1 Z) (SW : oS2 Z) (cx0 : Chr x0) (cx1 : Chr x1) (cx2 : Chr x2) (cx3 : Chr x3) (cx4 : Chr x4) :
    MetS l Z EL1 oM32 oC32 6 (some (.object "java/lang/String")) (oR 6 7 24 88) n0 [] [] #[(.int (5 : Int32)), (.int x0), (.int x1), (.int x2), (.int x3), (.int x4)] h0 (fun r h => ∃ s v, r = some (.ref s) ∧ Keep h0 h [] ∧ STR Z h s v [x0, x1, x2, x3, x4]) := by
  refine MetS.intro (Ls := #[.val (.int (5 : Int32)), .val (.int x0), .val (.int x1), .val (.int x2), .val (.int x3), .val (.int x4)]) (plainFor_of_name pn_m_ref0) hw (fun m => by first | (simp [entryFrame, mkF, argsToLocals, Value.category]; done) | rfl) ?_
  intro w K0
  have hEL := own_EW hw
  have wS := own_wS hw
  have K : oK32 w Z a0 := K0
  have K1 := Keep.refl h0 []
  refine RnS.lift (fun vm0 hs r => have K := K.on hs; Rn.iloadN K (q := 1) d1_0 rfl rfl r) ?_
  refine RnS.lift (fun vm0 hs r => have K := K.on hs; Rn.ifY K (q := 15) d1_1 (XT.i0_ne_t (by decide)) (by decide) (by decide) r) ?_
  refine RnS.lift (fun vm0 hs r => have K := K.on hs; Rn.iloadN K (q := 16) d1_15 rfl rfl r) ?_
  refine RnS.lift (fun vm0 hs r => have K := K.on hs; Rn.iconst K (q := 17) (1 : Int32) d1_16 rfl rfl r) ?_
  refine RnS.lift (fun vm0 hs r => have K := K.on hs; Rn.icY K (q := 35) d1_17 (XT.ii_ne_t (by decide)) (by decide) (by decide) r) ?_
  refine RnS.lift (fun vm0 hs r => have K := K.on hs; Rn.iloadN K (q := 36) d1_35 rfl rfl r) ?_
  refine RnS.lift (fun vm0 hs r => have K := K.on hs; Rn.iconst K (q := 37) (2 : Int32) d1_36 rfl rfl r) ?_
  refine RnS.lift (fun vm0 hs r => have K := K.on hs; Rn.icY K (q := 59) d1_37 (XT.ii_ne_t (by decide)) (by decide) (by decide) r) ?_
  refine RnS.lift (fun vm0 hs r => have K := K.on hs; Rn.iloadN K (q := 60) d1_59 rfl rfl r) ?_
  refine RnS.lift (fun vm0 hs r => have K := K.on hs; Rn.iconst K (q := 61) (3 : Int32) d1_60 rfl rfl r) ?_
  refine RnS.lift (fun vm0 hs r => have K := K.on hs; Rn.icY K (q := 87) d1_61 (XT.ii_ne_t (by decide)) (by decide) (by decide) r) ?_
  refine RnS.lift (fun vm0 hs r => have K := K.on hs; Rn.iloadN K (q := 88) d1_87 rfl rfl r) ?_
  refine RnS.lift (fun vm0 hs r => have K := K.on hs; Rn.iconst K (q := 89) (4 : Int32) d1_88 rfl rfl r) ?_
  refine RnS.lift (fun vm0 hs r => have K := K.on hs; Rn.icY K (q := 120) d1_89 (XT.ii_ne_t (by decide)) (by decide) (by decide) r) ?_
  refine RnS.newO K (q := 123) (oT 6 rfl) (oT 7 rfl) (oT 8 rfl) (by decide) (by decide) d1_120 rfl ?_
  intro b1 h2 gb1_ X3 A_b1 D4
  have g_b1 : n0 ≤ b1 := by rw [gb1_]; exact X0.1 ▸ X0.2.1
  have sz_b1 : h0.size ≤ b1 := by rw [gb1_]; exact K1.1
  have f5 := X0.ext X3
  have f6 := K1.ext X3
  have f7 : Fld Z h2 b1 "java/lang/String" "value" "[B" .null := D4 (Or.inr (K.hw _ (oT 22 rfl))) (ty := (.array .byte)) (by decide)
  have f8 : Fld Z h2 b1 "java/lang/String" "coder" "B" (.int (0 : Int32)) := D4 (Or.inr (K.hw _ (oT 23 rfl))) (ty := .byte) (by decide)
  show RnS w l _ n0 _ Z EL1 [b1] 123 _ [(.ref b1)] h2 1 4
  refine RnS.lift (fun vm0 hs r => have K := K.on hs; Rn.dup K (q := 124) d1_123 rfl rfl r) ?_
  refine RnS.lift (fun vm0 hs r => have K := K.on hs; Rn.iconst K (q := 125) (5 : Int32) d1_124 rfl rfl r) ?_
  refine RnS.newP K (q := 127) (cap := 5) (oT 9 rfl) (by decide) (by decide) (by decide) (by decide) (by decide) (ad := "[C") (by decide) d1_125 rfl ?_
  intro b9 h10 k12 gb9_ X11 A_b9 EA_b9
  have ne_b1_b9 : b1 ≠ b9 := fun e => absurd A_b1.lt (by rw [e, gb9_]; exact Nat.lt_irrefl _)
  have g_b9 : n0 ≤ b9 := by rw [gb9_]; exact f5.1 ▸ f5.2.1
  have sz_b9 : h0.size ≤ b9 := by rw [gb9_]; exact f6.1
  have f13 := f5.ext X11
  have f14 := f6.ext X11
  have f15 := A_b1.ext X11
  have f16 := f7.ext X11
  have f17 := f8.ext X11
  replace A_b9 : Arv Z h10 b9 k12 .char (5 : Int32) [oZ, oZ, oZ, oZ, oZ] oZ := A_b9.pad (pad_rep [] oZ 5)
  show RnS w l _ n0 _ Z EL1 [b9, b1] 127 _ [(.ref b9), (.ref b1), (.ref b1)] h10 2 9
  refine RnS.lift (fun vm0 hs r => have K := K.on hs; Rn.dup K (q := 128) d1_127 rfl rfl r) ?_
  refine RnS.lift (fun vm0 hs r => have K := K.on hs; Rn.iconst K (q := 129) (0 : Int32) d1_128 rfl rfl r) ?_
  refine RnS.lift (fun vm0 hs r => have K := K.on hs; Rn.iloadN K (q := 130) d1_129 rfl rfl r) ?_
  refine RnS.liftWP (Or.inl (oT 0 rfl)) (fun vm0 hs r => have K := K.on hs; Rn.castore K (q := 131) (i := 0) A_b9 (by decide) rfl (oL rfl) g_b9 d1_130 rfl r) ?_
  intro h18 W19 A20
  have f21 := f13.wr W19 g_b9
  have f22 := f14.wr W19 (Or.inr sz_b9)
  have f23 := f15.wr W19
  have f24 := Fld.other W19 f16 (Or.inl ne_b1_b9)
  have f25 := Fld.other W19 f17 (Or.inl ne_b1_b9)
  have f26 := EA_b9.wr W19
  replace A20 : Arv Z h18 b9 k12 .char (5 : Int32) [(.int (nar .char x0)), oZ, oZ, oZ, oZ] oZ := A20
  refine RnS.lift (fun vm0 hs r => have K := K.on hs; Rn.dup K (q := 132) d1_131 rfl rfl r) ?_
  refine RnS.lift (fun vm0 hs r => have K := K.on hs; Rn.iconst K (q := 133) (1 : Int32) d1_132 rfl rfl r) ?_
  refine RnS.lift (fun vm0 hs r => have K := K.on hs; Rn.iloadN K (q := 134) d1_133 rfl rfl r) ?_
  refine RnS.liftWP (Or.inl (oT 0 rfl)) (fun vm0 hs r => have K := K.on hs; Rn.castore K (q := 135) (i := 1) A20 (by decide) rfl (oL rfl) g_b9 d1_134 rfl r) ?_
  intro h27 W28 A29
  have f30 := f21.wr W28 g_b9
  have f31 := f22.wr W28 (Or.inr sz_b9)
  have f32 := f23.wr W28
  have f33 := Fld.other W28 f24 (Or.inl ne_b1_b9)
  have f34 := Fld.other W28 f25 (Or.inl ne_b1_b9)
  have f35 := f26.wr W28
  replace A29 : Arv Z h27 b9 k12 .char (5 : Int32) [(.int (nar .char x0)), (.int (nar .char x1)), oZ, oZ, oZ] oZ := A29
  refine RnS.lift (fun vm0 hs r => have K := K.on hs; Rn.dup K (q := 136) d1_135 rfl rfl r) ?_
  refine RnS.lift (fun vm0 hs r => have K := K.on hs; Rn.iconst K (q := 137) (2 : Int32) d1_136 rfl rfl r) ?_
  refine RnS.lift (fun vm0 hs r => have K := K.on hs; Rn.iloadN K (q := 138) d1_137 rfl rfl r) ?_
  refine RnS.liftWP (Or.inl (oT 0 rfl)) (fun vm0 hs r => have K := K.on hs; Rn.castore K (q := 139) (i := 2) A29 (by decide) rfl (oL rfl) g_b9 d1_138 rfl r) ?_
  intro h36 W37 A38
  have f39 := f30.wr W37 g_b9
  have f40 := f31.wr W37 (Or.inr sz_b9)
  have f41 := f32.wr W37
  have f42 := Fld.other W37 f33 (Or.inl ne_b1_b9)
  have f43 := Fld.other W37 f34 (Or.inl ne_b1_b9)
  have f44 := f35.wr W37
  replace A38 : Arv Z h36 b9 k12 .char (5 : Int32) [(.int (nar .char x0)), (.int (nar .char x1)), (.int (nar .char x2)), oZ, oZ] oZ := A38
  refine RnS.lift (fun vm0 hs r => have K := K.on hs; Rn.dup K (q := 140) d1_139 rfl rfl r) ?_
  refine RnS.lift (fun vm0 hs r => have K := K.on hs; Rn.iconst K (q := 141) (3 : Int32) d1_140 rfl rfl r) ?_
  refine RnS.lift (fun vm0 hs r => have K := K.on hs; Rn.iload K (q := 143) d1_141 rfl rfl r) ?_
  refine RnS.liftWP (Or.inl (oT 0 rfl)) (fun vm0 hs r => have K := K.on hs; Rn.castore K (q := 144) (i := 3) A38 (by decide) rfl (oL rfl) g_b9 d1_143 rfl r) ?_
  intro h45 W46 A47
  have f48 := f39.wr W46 g_b9
  have f49 := f40.wr W46 (Or.inr sz_b9)
  have f50 := f41.wr W46
  have f51 := Fld.other W46 f42 (Or.inl ne_b1_b9)
  have f52 := Fld.other W46 f43 (Or.inl ne_b1_b9)
  have f53 := f44.wr W46
  replace A47 : Arv Z h45 b9 k12 .char (5 : Int32) [(.int (nar .char x0)), (.int (nar .char x1)), (.int (nar .char x2)), (.int (nar .char x3)), oZ] oZ := A47
  refine RnS.lift (fun vm0 hs r => have K := K.on hs; Rn.dup K (q := 145) d1_144 rfl rfl r) ?_
  refine RnS.lift (fun vm0 hs r => have K := K.on hs; Rn.iconst K (q := 146) (4 : Int32) d1_145 rfl rfl r) ?_
  refine RnS.lift (fun vm0 hs r => have K := K.on hs; Rn.iload K (q := 148) d1_146 rfl rfl r) ?_
  refine RnS.liftWP (Or.inl (oT 0 rfl)) (fun vm0 hs r => have K := K.on hs; Rn.castore K (q := 149) (i := 4) A47 (by decide) rfl (oL rfl) g_b9 d1_148 rfl r) ?_
  intro h54 W55 A56
  have f57 := f48.wr W55 g_b9
  have f58 := f49.wr W55 (Or.inr sz_b9)
  have f59 := f50.wr W55
  have f60 := Fld.other W55 f51 (Or.inl ne_b1_b9)
  have f61 := Fld.other W55 f52 (Or.inl ne_b1_b9)
  have f62 := f53.wr W55
  replace A56 : Arv Z h54 b9 k12 .char (5 : Int32) [(.int (nar .char x0)), (.int (nar .char x1)), (.int (nar .char x2)), (.int (nar .char x3)), (.int (nar .char x4))] oZ := A56
  rw [own_nc cx0, own_nc cx1, own_nc cx2, own_nc cx3, own_nc cx4] at A56
  refine RnS.liftC (fun vm0 hs r => have K := K.on hs; Rn.spec K (q := 152) (W := 1) (y := oM9) (b := b1) (argsL := [(.ref b9)]) (rest := [(.ref b1)]) rfl (oT 10 rfl) (oT 11 rfl) (oT 12 rfl) (oT 8 rfl) (by decide) (m_icc5 l Z a0 hw n0 h54 b1 b9 k12 x0 x1 x2 x3 x4 cst f57 SC hcs f59 g_b1 f60 f61 f62 A56 SA SH SW cx0 cx1 cx2 cx3 cx4) (by decide) (by decide) rfl (lenOf pd_24 rfl) rfl (oL rfl) d1_149 rfl (by decide) (by decide) r) (by rintro _ _ ⟨-, Kp, -⟩; exact own_kpS Kp (oT 1 rfl)) ?_
  rintro _ h63 ⟨rfl, K64, v, S1⟩
  have f66 := f58.trans K64 (allS (Or.inr sz_b1) all0)
  show RnS w l _ n0 _ Z EL1 [b9, b1] 152 _ [(.ref b1)] h63 4 24
  exact RnS.retA K hEL (.object "java/lang/String") rfl rfl rfl d1_152 (by decide) (by decide) ⟨_, _, rfl, f66, S1⟩
theorem d1_92 : decode oC32 92 = .ok (.new 30, 3) := by decide +kernel
theorem d1_95 : decode oC32 95 = .ok (.dup, 1) := by decide +kernel
theorem d1_96 : decode oC32 96 = .ok (.iconst 4, 1) := by decide +kernel
theorem d1_97 : decode oC32 97 = .ok (.newarray .char, 2) := by decide +kernel
theorem d1_99 : decode oC32 99 = .ok (.dup, 1) := by decide +kernel
theorem d1_100 : decode oC32 100 = .ok (.iconst 0, 1) := by decide +kernel
theorem d1_101 : decode oC32 101 = .ok (.iload_n 1, 1) := by decide +kernel
theorem d1_102 : decode oC32 102 = .ok (.castore, 1) := by decide +kernel
theorem d1_103 : decode oC32 103 = .ok (.dup, 1) := by decide +kernel
theorem d1_104 : decode oC32 104 = .ok (.iconst 1, 1) := by decide +kernel
theorem d1_105 : decode oC32 105 = .ok (.iload_n 2, 1) := by decide +kernel
theorem d1_106 : decode oC32 106 = .ok (.castore, 1) := by decide +kernel
theorem d1_107 : decode oC32 107 = .ok (.dup, 1) := by decide +kernel
theorem d1_108 : decode oC32 108 = .ok (.iconst 2, 1) := by decide +kernel
theorem d1_109 : decode oC32 109 = .ok (.iload_n 3, 1) := by decide +kernel
theorem d1_110 : decode oC32 110 = .ok (.castore, 1) := by decide +kernel
theorem d1_111 : decode oC32 111 = .ok (.dup, 1) := by decide +kernel
theorem d1_112 : decode oC32 112 = .ok (.iconst 3, 1) := by decide +kernel
theorem d1_113 : decode oC32 113 = .ok (.iload 4, 2) := by decide +kernel
theorem d1_115 : decode oC32 115 = .ok (.castore, 1) := by decide +kernel
theorem d1_116 : decode oC32 116 = .ok (.invokespecial 32, 3) := by decide +kernel
theorem d1_119 : decode oC32 119 = .ok (.areturn, 1) := by decide +kernel
theorem m_mk4 (l : Launch) (Z : State) (a0 : Array Value) (hw : oH Z a0) (n0 : Nat) (h0 : Heap) (x0 x1 x2 x3 x4 : Int32) (cst : Int32) (X0 : Old Z n0 h0) (SC : oSC Z cst) (hcs : ¬ cst = 0) (SA : oS0 Z) (SH : oS1 Z) (SW : oS2 Z) (cx0 : Chr x0) (cx1 : Chr x1) (cx2 : Chr x2) (cx3 : Chr x3) (cx4 : Chr x4) :
    MetS l Z EL1 oM32 oC32 6 (some (.object "java/lang/String")) (oR 6 7 24 88) n0 [] [] #[(.int (4 : Int32)), (.int x0), (.int x1), (.int x2), (.int x3), (.int x4)] h0 (fun r h => ∃ s v, r = some (.ref s) ∧ Keep h0 h [] ∧ STR Z h s v [x0, x1, x2, x3]) := by
  refine MetS.intro (Ls := #[.val (.int (4 : Int32)), .val (.int x0), .val (.int x1), .val (.int x2), .val (.int x3), .val (.int x4)]) (plainFor_of_name pn_m_ref0) hw (fun m => by first | (simp [entryFrame, mkF, argsToLocals, Value.category]; done) | rfl) ?_
  intro w K0
  have hEL := own_EW hw
  have wS := own_wS hw
  have K : oK32 w Z a0 := K0
  have K1 := Keep.refl h0 []
  refine RnS.lift (fun vm0 hs r => have K := K.on hs; Rn.iloadN K (q := 1) d1_0 rfl rfl r) ?_
  refine RnS.lift (fun vm0 hs r => have K := K.on hs; Rn.ifY K (q := 15) d1_1 (XT.i0_ne_t (by decide)) (by decide) (by decide) r) ?_
  refine RnS.lift (fun vm0 hs r => have K := K.on hs; Rn.iloadN K (q := 16) d1_15 rfl rfl r) ?_
  refine RnS.lift (fun vm0 hs r => have K := K.on hs; Rn.iconst K (q := 17) (1 : Int32) d1_16 rfl rfl r) ?_
  refine RnS.lift (fun vm0 hs r => have K := K.on hs; Rn.icY K (q := 35) d1_17 (XT.ii_ne_t (by decide)) (by decide) (by decide) r) ?_
  refine RnS.lift (fun vm0 hs r => have K := K.on hs; Rn.iloadN K (q := 36) d1_35 rfl rfl r) ?_
  refine RnS.lift (fun vm0 hs r => have K := K.on hs; Rn.iconst K (q := 37) (2 : Int32) d1_36 rfl rfl r) ?_
  refine RnS.lift (fun vm0 hs r => have K := K.on hs; Rn.icY K (q := 59) d1_37 (XT.ii_ne_t (by decide)) (by decide) (by decide) r) ?_
  refine RnS.lift (fun vm0 hs r => have K := K.on hs; Rn.iloadN K (q := 60) d1_59 rfl rfl r) ?_
  refine RnS.lift (fun vm0 hs r => have K := K.on hs; Rn.iconst K (q := 61) (3 : Int32) d1_60 rfl rfl r) ?_
  refine RnS.lift (fun vm0 hs r => have K := K.on hs; Rn.icY K (q := 87) d1_61 (XT.ii_ne_t (by decide)) (by decide) (by decide) r) ?_
  refine RnS.lift (fun vm0 hs r => have K := K.on hs; Rn.iloadN K (q := 88) d1_87 rfl rfl r) ?_
  refine RnS.lift (fun vm0 hs r => have K := K.on hs; Rn.iconst K (q := 89) (4 : Int32) d1_88 rfl rfl r) ?_
  refine RnS.lift (fun vm0 hs r => have K := K.on hs; Rn.icN K (q := 92) d1_89 (XT.ii_ne_f rfl) rfl r) ?_
  refine RnS.newO K (q := 95) (oT 6 rfl) (oT 7 rfl) (oT 8 rfl) (by decide) (by decide) d1_92 rfl ?_
  intro b1 h2 gb1_ X3 A_b1 D4
  have g_b1 : n0 ≤ b1 := by rw [gb1_]; exact X0.1 ▸ X0.2.1
  have sz_b1 : h0.size ≤ b1 := by rw [gb1_]; exact K1.1
  have f5 := X0.ext X3
  have f6 := K1.ext X3
  have f7 : Fld Z h2 b1 "java/lang/String" "value" "[B" .null := D4 (Or.inr (K.hw _ (oT 22 rfl))) (ty := (.array .byte)) (by decide)
  have f8 : Fld Z h2 b1 "java/lang/String" "coder" "B" (.int (0 : Int32)) := D4 (Or.inr (K.hw _ (oT 23 rfl))) (ty := .byte) (by decide)
  show RnS w l _ n0 _ Z EL1 [b1] 95 _ [(.ref b1)] h2 1 4
  refine RnS.lift (fun vm0 hs r => have K := K.on hs; Rn.dup K (q := 96) d1_95 rfl rfl r) ?_
  refine RnS.lift (fun vm0 hs r => have K := K.on hs; Rn.iconst K (q := 97) (4 : Int32) d1_96 rfl rfl r) ?_
  refine RnS.newP K (q := 99) (cap := 4) (oT 9 rfl) (by decide) (by decide) (by decide) (by decide) (by decide) (ad := "[C") (by decide) d1_97 rfl ?_
  intro b9 h10 k12 gb9_ X11 A_b9 EA_b9
  have ne_b1_b9 : b1 ≠ b9 := fun e => absurd A_b1.lt (by rw [e, gb9_]; exact Nat.lt_irrefl _)
  have g_b9 : n0 ≤ b9 := by rw [gb9_]; exact f5.1 ▸ f5.2.1
  have sz_b9 : h0.size ≤ b9 := by rw [gb9_]; exact f6.1
  have f13 := f5.ext X11
  have f14 := f6.ext X11
  have f15 := A_b1.ext X11
  have f16 := f7.ext X11
  have f17 := f8.ext X11
  replace A_b9 : Arv Z h10 b9 k12 .char (4 : Int32) [oZ, oZ, oZ, oZ] oZ := A_b9.pad (pad_rep [] oZ 4)
  show RnS w l _ n0 _ Z EL1 [b9, b1] 99 _ [(.ref b9), (.ref b1), (.ref b1)] h10 2 8
  refine RnS.lift (fun vm0 hs r => have K := K.on hs; Rn.dup K (q := 100) d1_99 rfl rfl r) ?_
  refine RnS.lift (fun vm0 hs r => have K := K.on hs; Rn.iconst K (q := 101) (0 : Int32) d1_100 rfl rfl r) ?_
  refine RnS.lift (fun vm0 hs r => have K := K.on hs; Rn.iloadN K (q := 102) d1_101 rfl rfl r) ?_
  refine RnS.liftWP (Or.inl (oT 0 rfl)) (fun vm0 hs r => have K := K.on hs; Rn.castore K (q := 103) (i := 0) A_b9 (by decide) rfl (oL rfl) g_b9 d1_102 rfl r) ?_
  intro h18 W19 A20
  have f21 := f13.wr W19 g_b9
  have f22 := f14.wr W19 (Or.inr sz_b9)
  have f23 := f15.wr W19
  have f24 := Fld.other W19 f16 (Or.inl ne_b1_b9)
  have f25 := Fld.other W19 f17 (Or.inl ne_b1_b9)
  have f26 := EA_b9.wr W19
  replace A20 : Arv Z h18 b9 k12 .char (4 : Int32) [(.int (nar .char x0)), oZ, oZ, oZ] oZ := A20
  refine RnS.lift (fun vm0 hs r => have K := K.on hs; Rn.dup K (q := 104) d1_103 rfl rfl r) ?_
  refine RnS.lift (fun vm0 hs r => have K := K.on hs; Rn.iconst K (q := 105) (1 : Int32) d1_104 rfl rfl r) ?_
  refine RnS.lift (fun vm0 hs r => have K := K.on hs; Rn.iloadN K (q := 106) d1_105 rfl rfl r) ?_
  refine RnS.liftWP (Or.inl (oT 0 rfl)) (fun vm0 hs r => have K := K.on hs; Rn.castore K (q := 107) (i := 1) A20 (by decide) rfl (oL rfl) g_b9 d1_106 rfl r) ?_
  intro h27 W28 A29
  have f30 := f21.wr W28 g_b9
  have f31 := f22.wr W28 (Or.inr sz_b9)
  have f32 := f23.wr W28
  have f33 := Fld.other W28 f24 (Or.inl ne_b1_b9)
  have f34 := Fld.other W28 f25 (Or.inl ne_b1_b9)
  have f35 := f26.wr W28
  replace A29 : Arv Z h27 b9 k12 .char (4 : Int32) [(.int (nar .char x0)), (.int (nar .char x1)), oZ, oZ] oZ := A29
  refine RnS.lift (fun vm0 hs r => have K := K.on hs; Rn.dup K (q := 108) d1_107 rfl rfl r) ?_
  refine RnS.lift (fun vm0 hs r => have K := K.on hs; Rn.iconst K (q := 109) (2 : Int32) d1_108 rfl rfl r) ?_
  refine RnS.lift (fun vm0 hs r => have K := K.on hs; Rn.iloadN K (q := 110) d1_109 rfl rfl r) ?_
  refine RnS.liftWP (Or.inl (oT 0 rfl)) (fun vm0 hs r => have K := K.on hs; Rn.castore K (q := 111) (i := 2) A29 (by decide) rfl (oL rfl) g_b9 d1_110 rfl r) ?_
  intro h36 W37 A38
  have f39 := f30.wr W37 g_b9
  have f40 := f31.wr W37 (Or.inr sz_b9)
  have f41 := f32.wr W37
  have f42 := Fld.other W37 f33 (Or.inl ne_b1_b9)
  have f43 := Fld.other W37 f34 (Or.inl ne_b1_b9)
  have f44 := f35.wr W37
  replace A38 : Arv Z h36 b9 k12 .char (4 : Int32) [(.int (nar .char x0)), (.int (nar .char x1)), (.int (nar .char x2)), oZ] oZ := A38
  refine RnS.lift (fun vm0 hs r => have K := K.on hs; Rn.dup K (q := 112) d1_111 rfl rfl r) ?_
  refine RnS.lift (fun vm0 hs r => have K := K.on hs; Rn.iconst K (q := 113) (3 : Int32) d1_112 rfl rfl r) ?_
  refine RnS.lift (fun vm0 hs r => have K := K.on hs; Rn.iload K (q := 115) d1_113 rfl rfl r) ?_
  refine RnS.liftWP (Or.inl (oT 0 rfl)) (fun vm0 hs r => have K := K.on hs; Rn.castore K (q := 116) (i := 3) A38 (by decide) rfl (oL rfl) g_b9 d1_115 rfl r) ?_
  intro h45 W46 A47
  have f48 := f39.wr W46 g_b9
  have f49 := f40.wr W46 (Or.inr sz_b9)
  have f50 := f41.wr W46
  have f51 := Fld.other W46 f42 (Or.inl ne_b1_b9)
  have f52 := Fld.other W46 f43 (Or.inl ne_b1_b9)
  have f53 := f44.wr W46
  replace A47 : Arv Z h45 b9 k12 .char (4 : Int32) [(.int (nar .char x0)), (.int (nar .char x1)), (.int (nar .char x2)), (.int (nar .char x3))] oZ := A47
  rw [own_nc cx0, own_nc cx1, own_nc cx2, own_nc cx3] at A47
  refine RnS.liftC (fun vm0 hs r => have K := K.on hs; Rn.spec K (q := 119) (W := 1) (y := oM9) (b := b1) (argsL := [(.ref b9)]) (rest := [(.ref b1)]) rfl (oT 10 rfl) (oT 11 rfl) (oT 12 rfl) (oT 8 rfl) (by decide) (m_icc4 l Z a0 hw n0 h45 b1 b9 k12 x0 x1 x2 x3 cst f48 SC hcs f50 g_b1 f51 f52 f53 A47 SA SH SW cx0 cx1 cx2 cx3) (by decide) (by decide) rfl (lenOf pd_24 rfl) rfl (oL rfl) d1_116 rfl (by decide) (by decide) r) (by rintro _ _ ⟨-, Kp, -⟩; exact own_kpS Kp (oT 1 rfl)) ?_
  rintro _ h54 ⟨rfl, K55, v, S1⟩
  have f57 := f49.trans K55 (allS (Or.inr sz_b1) all0)
  show RnS w l _ n0 _ Z EL1 [b9, b1] 119 _ [(.ref b1)] h54 4 20
  exact RnS.retA K hEL (.object "java/lang/String") rfl rfl rfl d1_119 (by decide) (by decide) ⟨_, _, rfl, f57, S1⟩
theorem d1_64 : decode oC32 64 = .ok (.new 30, 3) := by decide +kernel
theorem d1_67 : decode oC32 67 = .ok (.dup, 1) := by decide +kernel
theorem d1_68 : decode oC32 68 = .ok (.iconst 3, 1) := by decide +kernel
theorem d1_69 : decode oC32 69 = .ok (.newarray .char, 2) := by decide +kernel
theorem d1_71 : decode oC32 71 = .ok (.dup, 1) := by decide +kernel
theorem d1_72 : decode oC32 72 = .ok (.iconst 0, 1) := by decide +kernel
theorem d1_73 : decode oC32 73 = .ok (.iload_n 1, 1) := by decide +kernel
theorem d1_74 : decode oC32 74 = .ok (.castore, 1) := by decide +kernel
theorem d1_75 : decode oC32 75 = .ok (.dup, 1) := by decide +kernel
theorem d1_76 : decode oC32 76 = .ok (.iconst 1, 1) := by decide +kernel
theorem d1_77 : decode oC32 77 = .ok (.iload_n 2, 1) := by decide +kernel
theorem d1_78 : decode oC32 78 = .ok (.castore, 1) := by decide +kernel
theorem d1_79 : decode oC32 79 = .ok (.dup, 1) := by decide +kernel
theorem d1_80 : decode oC32 80 = .ok (.iconst 2, 1) := by decide +kernel
theorem d1_81 : decode oC32 81 = .ok (.iload_n 3, 1) := by decide +kernel
theorem d1_82 : decode oC32 82 = .ok (.castore, 1) := by decide +kernel
theorem d1_83 : decode oC32 83 = .ok (.invokespecial 32, 3) := by decide +kernel
theorem d1_86 : decode oC32 86 = .ok (.areturn, 1) := by decide +kernel
theorem m_mk3 (l : Launch) (Z : State) (a0 : Array Value) (hw : oH Z a0) (n0 : Nat) (h0 : Heap) (x0 x1 x2 x3 x4 : Int32) (cst : Int32) (X0 : Old Z n0 h0) (SC : oSC Z cst) (hcs : ¬ cst = 0) (SA : oS0 Z) (SH : oS1 Z) (SW : oS2 Z) (cx0 : Chr x0) (cx1 : Chr x1) (cx2 : Chr x2) (cx3 : Chr x3) (cx4 : Chr x4) :
    MetS l Z EL1 oM32 oC32 6 (some (.object "java/lang/String")) (oR 6 7 24 88) n0 [] [] #[(.int (3 : Int32)), (.int x0), (.int x1), (.int x2), (.int x3), (.int x4)] h0 (fun r h => ∃ s v, r = some (.ref s) ∧ Keep h0 h [] ∧ STR Z h s v [x0, x1, x2]) := by
  refine MetS.intro (Ls := #[.val (.int (3 : Int32)), .val (.int x0), .val (.int x1), .val (.int x2), .val (.int x3), .val (.int x4)]) (plainFor_of_name pn_m_ref0) hw (fun m => by first | (simp [entryFrame, mkF, argsToLocals, Value.category]; done) | rfl) ?_
  intro w K0
  have hEL := own_EW hw
  have wS := own_wS hw
  have K : oK32 w Z a0 := K0
  have K1 := Keep.refl h0 []
  refine RnS.lift (fun vm0 hs r => have K := K.on hs; Rn.iloadN K (q := 1) d1_0 rfl rfl r) ?_
  refine RnS.lift (fun vm0 hs r => have K := K.on hs; Rn.ifY K (q := 15) d1_1 (XT.i0_ne_t (by decide)) (by decide) (by decide) r) ?_
  refine RnS.lift (fun vm0 hs r => have K := K.on hs; Rn.iloadN K (q := 16) d1_15 rfl rfl r) ?_
  refine RnS.lift (fun vm0 hs r => have K := K.on hs; Rn.iconst K (q := 17) (1 : Int32) d1_16 rfl rfl r) ?_
  refine RnS.lift (fun vm0 hs r => have K := K.on hs; Rn.icY K (q := 35) d1_17 (XT.ii_ne_t (by decide)) (by decide) (by decide) r) ?_
  refine RnS.lift (fun vm0 hs r => have K := K.on hs; Rn.iloadN K (q := 36) d1_35 rfl rfl r) ?_
  refine RnS.lift (fun vm0 hs r => have K := K.on hs; Rn.iconst K (q := 37) (2 : Int32) d1_36 rfl rfl r) ?_
  refine RnS.lift (fun vm0 hs r => have K := K.on hs; Rn.icY K (q := 59) d1_37 (XT.ii_ne_t (by decide)) (by decide) (by decide) r) ?_
  refine RnS.lift (fun vm0 hs r => have K := K.on hs; Rn.iloadN K (q := 60) d1_59 rfl rfl r) ?_
  refine RnS.lift (fun vm0 hs r => have K := K.on hs; Rn.iconst K (q := 61) (3 : Int32) d1_60 rfl rfl r) ?_
  refine RnS.lift (fun vm0 hs r => have K := K.on hs; Rn.icN K (q := 64) d1_61 (XT.ii_ne_f rfl) rfl r) ?_
  refine RnS.newO K (q := 67) (oT 6 rfl) (oT 7 rfl) (oT 8 rfl) (by decide) (by decide) d1_64 rfl ?_
  intro b1 h2 gb1_ X3 A_b1 D4
  have g_b1 : n0 ≤ b1 := by rw [gb1_]; exact X0.1 ▸ X0.2.1
  have sz_b1 : h0.size ≤ b1 := by rw [gb1_]; exact K1.1
  have f5 := X0.ext X3
  have f6 := K1.ext X3
  have f7 : Fld Z h2 b1 "java/lang/String" "value" "[B" .null := D4 (Or.inr (K.hw _ (oT 22 rfl))) (ty := (.array .byte)) (by decide)
  have f8 : Fld Z h2 b1 "java/lang/String" "coder" "B" (.int (0 : Int32)) := D4 (Or.inr (K.hw _ (oT 23 rfl))) (ty := .byte) (by decide)
  show RnS w l _ n0 _ Z EL1 [b1] 67 _ [(.ref b1)] h2 1 4
  refine RnS.lift (fun vm0 hs r => have K := K.on hs; Rn.dup K (q := 68) d1_67 rfl rfl r) ?_
  refine RnS.lift (fun vm0 hs r => have K := K.on hs; Rn.iconst K (q := 69) (3 : Int32) d1_68 rfl rfl r) ?_
  refine RnS.newP K (q := 71) (cap := 3) (oT 9 rfl) (by decide) (by decide) (by decide) (by decide) (by decide) (ad := "[C") (by decide) d1_69 rfl ?_
  intro b9 h10 k12 gb9_ X11 A_b9 EA_b9
  have ne_b1_b9 : b1 ≠ b9 := fun e => absurd A_b1.lt (by rw [e, gb9_]; exact Nat.lt_irrefl _)
  have g_b9 : n0 ≤ b9 := by rw [gb9_]; exact f5.1 ▸ f5.2.1
  have sz_b9 : h0.size ≤ b9 := by rw [gb9_]; exact f6.1
  have f13 := f5.ext X11
  have f14 := f6.ext X11
  have f15 := A_b1.ext X11
  have f16 := f7.ext X11
  have f17 := f8.ext X11
  replace A_b9 : Arv Z h10 b9 k12 .char (3 : Int32) [oZ, oZ, oZ] oZ := A_b9.pad (pad_rep [] oZ 3)
  show RnS w l _ n0 _ Z EL1 [b9, b1] 71 _ [(.ref b9), (.ref b1), (.ref b1)] h10 2 7
  refine RnS.lift (fun vm0 hs r => have K := K.on hs; Rn.dup K (q := 72) d1_71 rfl rfl r) ?_
  refine RnS.lift (fun vm0 hs r => have K := K.on hs; Rn.iconst K (q := 73) (0 : Int32) d1_72 rfl rfl r) ?_
  refine RnS.lift (fun vm0 hs r => have K := K.on hs; Rn.iloadN K (q := 74) d1_73 rfl rfl r) ?_
  refine RnS.liftWP (Or.inl (oT 0 rfl)) (fun vm0 hs r => have K := K.on hs; Rn.castore K (q := 75) (i := 0) A_b9 (by decide) rfl (oL rfl) g_b9 d1_74 rfl r) ?_
  intro h18 W19 A20
  have f21 := f13.wr W19 g_b9
  have f22 := f14.wr W19 (Or.inr sz_b9)
  have f23 := f15.wr W19
  have f24 := Fld.other W19 f16 (Or.inl ne_b1_b9)
  have f25 := Fld.other W19 f17 (Or.inl ne_b1_b9)
  have f26 := EA_b9.wr W19
  replace A20 : Arv Z h18 b9 k12 .char (3 : Int32) [(.int (nar .char x0)), oZ, oZ] oZ := A20
  refine RnS.lift (fun vm0 hs r => have K := K.on hs; Rn.dup K (q := 76) d1_75 rfl rfl r) ?_
  refine RnS.lift (fun vm0 hs r => have K := K.on hs; Rn.iconst K (q := 77) (1 : Int32) d1_76 rfl rfl r) ?_
  refine RnS.lift (fun vm0 hs r => have K := K.on hs; Rn.iloadN K (q := 78) d1_77 rfl rfl r) ?_
  refine RnS.liftWP (Or.inl (oT 0 rfl)) (fun vm0 hs r => have K := K.on hs; Rn.castore K (q := 79) (i := 1) A20 (by decide) rfl (oL rfl) g_b9 d1_78 rfl r) ?_
  intro h27 W28 A29
  have f30 := f21.wr W28 g_b9
  have f31 := f22.wr W28 (Or.inr sz_b9)
  have f32 := f23.wr W28
  have f33 := Fld.other W28 f24 (Or.inl ne_b1_b9)
  have f34 := Fld.other W28 f25 (Or.inl ne_b1_b9)
  have f35 := f26.wr W28
  replace A29 : Arv Z h27 b9 k12 .char (3 : Int32) [(.int (nar .char x0)), (.int (nar .char x1)), oZ] oZ := A29
  refine RnS.lift (fun vm0 hs r => have K := K.on hs; Rn.dup K (q := 80) d1_79 rfl rfl r) ?_
  refine RnS.lift (fun vm0 hs r => have K := K.on hs; Rn.iconst K (q := 81) (2 : Int32) d1_80 rfl rfl r) ?_
  refine RnS.lift (fun vm0 hs r => have K := K.on hs; Rn.iloadN K (q := 82) d1_81 rfl rfl r) ?_
  refine RnS.liftWP (Or.inl (oT 0 rfl)) (fun vm0 hs r => have K := K.on hs; Rn.castore K (q := 83) (i := 2) A29 (by decide) rfl (oL rfl) g_b9 d1_82 rfl r) ?_
  intro h36 W37 A38
  have f39 := f30.wr W37 g_b9
  have f40 := f31.wr W37 (Or.inr sz_b9)
  have f41 := f32.wr W37
  have f42 := Fld.other W37 f33 (Or.inl ne_b1_b9)
  have f43 := Fld.other W37 f34 (Or.inl ne_b1_b9)
  have f44 := f35.wr W37
  replace A38 : Arv Z h36 b9 k12 .char (3 : Int32) [(.int (nar .char x0)), (.int (nar .char x1)), (.int (nar .char x2))] oZ := A38
  rw [own_nc cx0, own_nc cx1, own_nc cx2] at A38
  refine RnS.liftC (fun vm0 hs r => have K := K.on hs; Rn.spec K (q := 86) (W := 1) (y := oM9) (b := b1) (argsL := [(.ref b9)]) (rest := [(.ref b1)]) rfl (oT 10 rfl) (oT 11 rfl) (oT 12 rfl) (oT 8 rfl) (by decide) (m_icc3 l Z a0 hw n0 h36 b1 b9 k12 x0 x1 x2 cst f39 SC hcs f41 g_b1 f42 f43 f44 A38 SA SH SW cx0 cx1 cx2) (by decide) (by decide) rfl (lenOf pd_24 rfl) rfl (oL rfl) d1_83 rfl (by decide) (by decide) r) (by rintro _ _ ⟨-, Kp, -⟩; exact own_kpS Kp (oT 1 rfl)) ?_
  rintro _ h45 ⟨rfl, K46, v, S1⟩
  have f48 := f40.trans K46 (allS (Or.inr sz_b1) all0)
  show RnS w l _ n0 _ Z EL1 [b9, b1] 86 _ [(.ref b1)] h45 4 16
  exact RnS.retA K hEL (.object "java/lang/String") rfl rfl rfl d1_86 (by decide) (by decide) ⟨_, _, rfl, f48, S1⟩
theorem d1_40 : decode oC32 40 = .ok (.new 30, 3) := by decide +kernel
theorem d1_43 : decode oC32 43 = .ok (.dup, 1) := by decide +kernel
theorem d1_44 : decode oC32 44 = .ok (.iconst 2, 1) := by decide +kernel
theorem d1_45 : decode oC32 45 = .ok (.newarray .char, 2) := by decide +kernel
theorem d1_47 : decode oC32 47 = .ok (.dup, 1) := by decide +kernel
theorem d1_48 : decode oC32 48 = .ok (.iconst 0, 1) := by decide +kernel
theorem d1_49 : decode oC32 49 = .ok (.iload_n 1, 1) := by decide +kernel
theorem d1_50 : decode oC32 50 = .ok (.castore, 1) := by decide +kernel
theorem d1_51 : decode oC32 51 = .ok (.dup, 1) := by decide +kernel
theorem d1_52 : decode oC32 52 = .ok (.iconst 1, 1) := by decide +kernel
theorem d1_53 : decode oC32 53 = .ok (.iload_n 2, 1) := by decide +kernel
theorem d1_54 : decode oC32 54 = .ok (.castore, 1) := by decide +kernel
theorem d1_55 : decode oC32 55 = .ok (.invokespecial 32, 3) := by decide +kernel
theorem d1_58 : decode oC32 58 = .ok (.areturn, 1) := by decide +kernel
theorem m_mk2 (l : Launch) (Z : State) (a0 : Array Value) (hw : oH Z a0) (n0 : Nat) (h0 : Heap) (x0 x1 x2 x3 x4 : Int32) (cst : Int32) (X0 : Old Z n0 h0) (SC : oSC Z cst) (hcs : ¬ cst = 0) (SA : oS0 Z) (SH : oS1 Z) (SW : oS2 Z) (cx0 : Chr x0) (cx1 : Chr x1) (cx2 : Chr x2) (cx3 : Chr x3) (cx4 : Chr x4) :
    MetS l Z EL1 oM32 oC32 6 (some (.object "java/lang/String")) (oR 6 7 24 88) n0 [] [] #[(.int (2 : Int32)), (.int x0), (.int x1), (.int x2), (.int x3), (.int x4)] h0 (fun r h => ∃ s v, r = some (.ref s) ∧ Keep h0 h [] ∧ STR Z h s v [x0, x1]) := by
  refine MetS.intro (Ls := #[.val (.int (2 : Int32)), .val (.int x0), .val (.int x1), .val (.int x2), .val (.int x3), .val (.int x4)]) (plainFor_of_name pn_m_ref0) hw (fun m => by first | (simp [entryFrame, mkF, argsToLocals, Value.category]; done) | rfl) ?_
  intro w K0
  have hEL := own_EW hw
  have wS := own_wS hw
  have K : oK32 w Z a0 := K0
  have K1 := Keep.refl h0 []
  refine RnS.lift (fun vm0 hs r => have K := K.on hs; Rn.iloadN K (q := 1) d1_0 rfl rfl r) ?_
  refine RnS.lift (fun vm0 hs r => have K := K.on hs; Rn.ifY K (q := 15) d1_1 (XT.i0_ne_t (by decide)) (by decide) (by decide) r) ?_
  refine RnS.lift (fun vm0 hs r => have K := K.on hs; Rn.iloadN K (q := 16) d1_15 rfl rfl r) ?_
  refine RnS.lift (fun vm0 hs r => have K := K.on hs; Rn.iconst K (q := 17) (1 : Int32) d1_16 rfl rfl r) ?_
  refine RnS.lift (fun vm0 hs r => have K := K.on hs; Rn.icY K (q := 35) d1_17 (XT.ii_ne_t (by decide)) (by decide) (by decide) r) ?_
  refine RnS.lift (fun vm0 hs r => have K := K.on hs; Rn.iloadN K (q := 36) d1_35 rfl rfl r) ?_
  refine RnS.lift (fun vm0 hs r => have K := K.on hs; Rn.iconst K (q := 37) (2 : Int32) d1_36 rfl rfl r) ?_
  refine RnS.lift (fun vm0 hs r => have K := K.on hs; Rn.icN K (q := 40) d1_37 (XT.ii_ne_f rfl) rfl r) ?_
  refine RnS.newO K (q := 43) (oT 6 rfl) (oT 7 rfl) (oT 8 rfl) (by decide) (by decide) d1_40 rfl ?_
  intro b1 h2 gb1_ X3 A_b1 D4
  have g_b1 : n0 ≤ b1 := by rw [gb1_]; exact X0.1 ▸ X0.2.1
  have sz_b1 : h0.size ≤ b1 := by rw [gb1_]; exact K1.1
  have f5 := X0.ext X3
  have f6 := K1.ext X3
  have f7 : Fld Z h2 b1 "java/lang/String" "value" "[B" .null := D4 (Or.inr (K.hw _ (oT 22 rfl))) (ty := (.array .byte)) (by decide)
  have f8 : Fld Z h2 b1 "java/lang/String" "coder" "B" (.int (0 : Int32)) := D4 (Or.inr (K.hw _ (oT 23 rfl))) (ty := .byte) (by decide)
  show RnS w l _ n0 _ Z EL1 [b1] 43 _ [(.ref b1)] h2 1 4
  refine RnS.lift (fun vm0 hs r => have K := K.on hs; Rn.dup K (q := 44) d1_43 rfl rfl r) ?_
  refine RnS.lift (fun vm0 hs r => have K := K.on hs; Rn.iconst K (q := 45) (2 : Int32) d1_44 rfl rfl r) ?_
  refine RnS.newP K (q := 47) (cap := 2) (oT 9 rfl) (by decide) (by decide) (by decide) (by decide) (by decide) (ad := "[C") (by decide) d1_45 rfl ?_
  intro b9 h10 k12 gb9_ X11 A_b9 EA_b9
  have ne_b1_b9 : b1 ≠ b9 := fun e => absurd A_b1.lt (by rw [e, gb9_]; exact Nat.lt_irrefl _)
  have g_b9 : n0 ≤ b9 := by rw [gb9_]; exact f5.1 ▸ f5.2.1
  have sz_b9 : h0.size ≤ b9 := by rw [gb9_]; exact f6.1
  have f13 := f5.ext X11
  have f14 := f6.ext X11
  have f15 := A_b1.ext X11
  have f16 := f7.ext X11
  have f17 := f8.ext X11
  replace A_b9 : Arv Z h10 b9 k12 .char (2 : Int32) [oZ, oZ] oZ := A_b9.pad (pad_rep [] oZ 2)
  show RnS w l _ n0 _ Z EL1 [b9, b1] 47 _ [(.ref b9), (.ref b1), (.ref b1)] h10 2 6
  refine RnS.lift (fun vm0 hs r => have K := K.on hs; Rn.dup K (q := 48) d1_47 rfl rfl r) ?_
  refine RnS.lift (fun vm0 hs r => have K := K.on hs; Rn.iconst K (q := 49) (0 : Int32) d1_48 rfl rfl r) ?_
  refine RnS.lift (fun vm0 hs r => have K := K.on hs; Rn.iloadN K (q := 50) d1_49 rfl rfl r) ?_
  refine RnS.liftWP (Or.inl (oT 0 rfl)) (fun vm0 hs r => have K := K.on hs; Rn.castore K (q := 51) (i := 0) A_b9 (by decide) rfl (oL rfl) g_b9 d1_50 rfl r) ?_
  intro h18 W19 A20
  have f21 := f13.wr W19 g_b9
  have f22 := f14.wr W19 (Or.inr sz_b9)
  have f23 := f15.wr W19
  have f24 := Fld.other W19 f16 (Or.inl ne_b1_b9)
  have f25 := Fld.other W19 f17 (Or.inl ne_b1_b9)
  have f26 := EA_b9.wr W19
  replace A20 : Arv Z h18 b9 k12 .char (2 : Int32) [(.int (nar .char x0)), oZ] oZ := A20
  refine RnS.lift (fun vm0 hs r => have K := K.on hs; Rn.dup K (q := 52) d1_51 rfl rfl r) ?_
  refine RnS.lift (fun vm0 hs r => have K := K.on hs; Rn.iconst K (q := 53) (1 : Int32) d1_52 rfl rfl r) ?_
  refine RnS.lift (fun vm0 hs r => have K := K.on hs; Rn.iloadN K (q := 54) d1_53 rfl rfl r) ?_
  refine RnS.liftWP (Or.inl (oT 0 rfl)) (fun vm0 hs r => have K := K.on hs; Rn.castore K (q := 55) (i := 1) A20 (by decide) rfl (oL rfl) g_b9 d1_54 rfl r) ?_
  intro h27 W28 A29
  have f30 := f21.wr W28 g_b9
  have f31 := f22.wr W28 (Or.inr sz_b9)
  have f32 := f23.wr W28
  have f33 := Fld.other W28 f24 (Or.inl ne_b1_b9)
  have f34 := Fld.other W28 f25 (Or.inl ne_b1_b9)
  have f35 := f26.wr W28
  replace A29 : Arv Z h27 b9 k12 .char (2 : Int32) [(.int (nar .char x0)), (.int (nar .char x1))] oZ := A29
  rw [own_nc cx0, own_nc cx1] at A29
  refine RnS.liftC (fun vm0 hs r => have K := K.on hs; Rn.spec K (q := 58) (W := 1) (y := oM9) (b := b1) (argsL := [(.ref b9)]) (rest := [(.ref b1)]) rfl (oT 10 rfl) (oT 11 rfl) (oT 12 rfl) (oT 8 rfl) (by decide) (m_icc2 l Z a0 hw n0 h27 b1 b9 k12 x0 x1 cst f30 SC hcs f32 g_b1 f33 f34 f35 A29 SA SH SW cx0 cx1) (by decide) (by decide) rfl (lenOf pd_24 rfl) rfl (oL rfl) d1_55 rfl (by decide) (by decide) r) (by rintro _ _ ⟨-, Kp, -⟩; exact own_kpS Kp (oT 1 rfl)) ?_
  rintro _ h36 ⟨rfl, K37, v, S1⟩
  have f39 := f31.trans K37 (allS (Or.inr sz_b1) all0)
  show RnS w l _ n0 _ Z EL1 [b9, b1] 58 _ [(.ref b1)] h36 4 12
  exact RnS.retA K hEL (.object "java/lang/String") rfl rfl rfl d1_58 (by decide) (by decide) ⟨_, _, rfl, f39, S1⟩
theorem d1_20 : decode oC32 20 = .ok (.new 30, 3) := by decide +kernel
theorem d1_23 : decode oC32 23 = .ok (.dup, 1) := by decide +kernel
theorem d1_24 : decode oC32 24 = .ok (.iconst 1, 1) := by decide +kernel
theorem d1_25 : decode oC32 25 = .ok (.newarray .char, 2) := by decide +kernel
theorem d1_27 : decode oC32 27 = .ok (.dup, 1) := by decide +kernel
theorem d1_28 : decode oC32 28 = .ok (.iconst 0, 1) := by decide +kernel
theorem d1_29 : decode oC32 29 = .ok (.iload_n 1, 1) := by decide +kernel
theorem d1_30 : decode oC32 30 = .ok (.castore, 1) := by decide +kernel
theorem d1_31 : decode oC32 31 = .ok (.invokespecial 32, 3) := by decide +kernel
theorem d1_34 : decode oC32 34 = .ok (.areturn, 1) := by decide +kernel
theorem m_mk1 (l : Launch) (Z : State) (a0 : Array Value) (hw : oH Z a0) (n0 : Nat) (h0 : Heap) (x0 x1 x2 x3 x4 : Int32) (cst : Int32) (X0 : Old Z n0 h0) (SC : oSC Z cst) (hcs : ¬ cst = 0) (SA : oS0 Z) (SH : oS1 Z) (SW : oS2 Z) (cx0 : Chr x0) (cx1 : Chr x1) (cx2 : Chr x2) (cx3 : Chr x3) (cx4 : Chr x4) :
    MetS l Z EL1 oM32 oC32 6 (some (.object "java/lang/String")) (oR 6 7 24 88) n0 [] [] #[(.int (1 : Int32)), (.int x0), (.int x1), (.int x2), (.int x3), (.int x4)] h0 (fun r h => ∃ s v, r = some (.ref s) ∧ Keep h0 h [] ∧ STR Z h s v [x0]) := by
  refine MetS.intro (Ls := #[.val (.int (1 : Int32)), .val (.int x0), .val (.int x1), .val (.int x2), .val (.int x3), .val (.int x4)]) (plainFor_of_name pn_m_ref0) hw (fun m => by first | (simp [entryFrame, mkF, argsToLocals, Value.category]; done) | rfl) ?_
  intro w K0
  have hEL := own_EW hw
  have wS := own_wS hw
  have K : oK32 w Z a0 := K0
  have K1 := Keep.refl h0 []
  refine RnS.lift (fun vm0 hs r => have K := K.on hs; Rn.iloadN K (q := 1) d1_0 rfl rfl r) ?_
  refine RnS.lift (fun vm0 hs r => have K := K.on hs; Rn.ifY K (q := 15) d1_1 (XT.i0_ne_t (by decide)) (by decide) (by decide) r) ?_
  refine RnS.lift (fun vm0 hs r => have K := K.on hs; Rn.iloadN K (q := 16) d1_15 rfl rfl r) ?_
  refine RnS.lift (fun vm0 hs r => have K := K.on hs; Rn.iconst K (q := 17) (1 : Int32) d1_16 rfl rfl r) ?_
  refine RnS.lift (fun vm0 hs r => have K := K.on hs; Rn.icN K (q := 20) d1_17 (XT.ii_ne_f rfl) rfl r) ?_
  refine RnS.newO K (q := 23) (oT 6 rfl) (oT 7 rfl) (oT 8 rfl) (by decide) (by decide) d1_20 rfl ?_
  intro b1 h2 gb1_ X3 A_b1 D4
  have g_b1 : n0 ≤ b1 := by rw [gb1_]; exact X0.1 ▸ X0.2.1
  have sz_b1 : h0.size ≤ b1 := by rw [gb1_]; exact K1.1
  have f5 := X0.ext X3
  have f6 := K1.ext X3
  have f7 : Fld Z h2 b1 "java/lang/String" "value" "[B" .null := D4 (Or.inr (K.hw _ (oT 22 rfl))) (ty := (.array .byte)) (by decide)
  have f8 : Fld Z h2 b1 "java/lang/String" "coder" "B" (.int (0 : Int32)) := D4 (Or.inr (K.hw _ (oT 23 rfl))) (ty := .byte) (by decide)
  show RnS w l _ n0 _ Z EL1 [b1] 23 _ [(.ref b1)] h2 1 4
  refine RnS.lift (fun vm0 hs r => have K := K.on hs; Rn.dup K (q := 24) d1_23 rfl rfl r) ?_
  refine RnS.lift (fun vm0 hs r => have K := K.on hs; Rn.iconst K (q := 25) (1 : Int32) d1_24 rfl rfl r) ?_
  refine RnS.newP K (q := 27) (cap := 1) (oT 9 rfl) (by decide) (by decide) (by decide) (by decide) (by decide) (ad := "[C") (by decide) d1_25 rfl ?_
  intro b9 h10 k12 gb9_ X11 A_b9 EA_b9
  have ne_b1_b9 : b1 ≠ b9 := fun e => absurd A_b1.lt (by rw [e, gb9_]; exact Nat.lt_irrefl _)
  have g_b9 : n0 ≤ b9 := by rw [gb9_]; exact f5.1 ▸ f5.2.1
  have sz_b9 : h0.size ≤ b9 := by rw [gb9_]; exact f6.1
  have f13 := f5.ext X11
  have f14 := f6.ext X11
  have f15 := A_b1.ext X11
  have f16 := f7.ext X11
  have f17 := f8.ext X11
  replace A_b9 : Arv Z h10 b9 k12 .char (1 : Int32) [oZ] oZ := A_b9.pad (pad_rep [] oZ 1)
  show RnS w l _ n0 _ Z EL1 [b9, b1] 27 _ [(.ref b9), (.ref b1), (.ref b1)] h10 2 5
  refine RnS.lift (fun vm0 hs r => have K := K.on hs; Rn.dup K (q := 28) d1_27 rfl rfl r) ?_
  refine RnS.lift (fun vm0 hs r => have K := K.on hs; Rn.iconst K (q := 29) (0 : Int32) d1_28 rfl rfl r) ?_
  refine RnS.lift (fun vm0 hs r => have K := K.on hs; Rn.iloadN K (q := 30) d1_29 rfl rfl r) ?_
  refine RnS.liftWP (Or.inl (oT 0 rfl)) (fun vm0 hs r => have K := K.on hs; Rn.castore K (q := 31) (i := 0) A_b9 (by decide) rfl (oL rfl) g_b9 d1_30 rfl r) ?_
  intro h18 W19 A20
  have f21 := f13.wr W19 g_b9
  have f22 := f14.wr W19 (Or.inr sz_b9)
  have f23 := f15.wr W19
  have f24 := Fld.other W19 f16 (Or.inl ne_b1_b9)
  have f25 := Fld.other W19 f17 (Or.inl ne_b1_b9)
  have f26 := EA_b9.wr W19
  replace A20 : Arv Z h18 b9 k12 .char (1 : Int32) [(.int (nar .char x0))] oZ := A20
  rw [own_nc cx0] at A20
  refine RnS.liftC (fun vm0 hs r => have K := K.on hs; Rn.spec K (q := 34) (W := 1) (y := oM9) (b := b1) (argsL := [(.ref b9)]) (rest := [(.ref b1)]) rfl (oT 10 rfl) (oT 11 rfl) (oT 12 rfl) (oT 8 rfl) (by decide) (m_icc1 l Z a0 hw n0 h18 b1 b9 k12 x0 cst f21 SC hcs f23 g_b1 f24 f25 f26 A20 SA SH SW cx0) (by decide) (by decide) rfl (lenOf pd_24 rfl) rfl (oL rfl) d1_31 rfl (by decide) (by decide) r) (by rintro _ _ ⟨-, Kp, -⟩; exact own_kpS Kp (oT 1 rfl)) ?_
  rintro _ h27 ⟨rfl, K28, v, S1⟩
  have f30 := f22.trans K28 (allS (Or.inr sz_b1) all0)
  show RnS w l _ n0 _ Z EL1 [b9, b1] 34 _ [(.ref b1)] h27 4 8
  exact RnS.retA K hEL (.object "java/lang/String") rfl rfl rfl d1_34 (by decide) (by decide) ⟨_, _, rfl, f30, S1⟩
theorem d1_4 : decode oC32 4 = .ok (.new 30, 3) := by decide +kernel
theorem d1_7 : decode oC32 7 = .ok (.dup, 1) := by decide +kernel
theorem d1_8 : decode oC32 8 = .ok (.iconst 0, 1) := by decide +kernel
theorem d1_9 : decode oC32 9 = .ok (.newarray .char, 2) := by decide +kernel
theorem d1_11 : decode oC32 11 = .ok (.invokespecial 32, 3) := by decide +kernel
theorem d1_14 : decode oC32 14 = .ok (.areturn, 1) := by decide +kernel
theorem m_mk0 (l : Launch) (Z : State) (a0 : Array Value) (hw : oH Z a0) (n0 : Nat) (h0 : Heap) (x0 x1 x2 x3 x4 : Int32) (cst : Int32) (X0 : Old Z n0 h0) (SC : oSC Z cst) (hcs : ¬ cst = 0) (SA : oS0 Z) (SH : oS1 Z) (SW : oS2 Z) (cx0 : Chr x0) (cx1 : Chr x1) (cx2 : Chr x2) (cx3 : Chr x3) (cx4 : Chr x4) :
    MetS l Z EL1 oM32 oC32 6 (some (.object "java/lang/String")) (oR 6 7 24 88) n0 [] [] #[oZ, (.int x0), (.int x1), (.int x2), (.int x3), (.int x4)] h0 (fun r h => ∃ s v, r = some (.ref s) ∧ Keep h0 h [] ∧ STR Z h s v []) := by
  refine MetS.intro (Ls := #[.val oZ, .val (.int x0), .val (.int x1), .val (.int x2), .val (.int x3), .val (.int x4)]) (plainFor_of_name pn_m_ref0) hw (fun m => by first | (simp [entryFrame, mkF, argsToLocals, Value.category]; done) | rfl) ?_
  intro w K0
  have hEL := own_EW hw
  have wS := own_wS hw
  have K : oK32 w Z a0 := K0
  have K1 := Keep.refl h0 []
  refine RnS.lift (fun vm0 hs r => have K := K.on hs; Rn.iloadN K (q := 1) d1_0 rfl rfl r) ?_
  refine RnS.lift (fun vm0 hs r => have K := K.on hs; Rn.ifN K (q := 4) d1_1 (XT.i0_ne_f rfl) rfl r) ?_
  refine RnS.newO K (q := 7) (oT 6 rfl) (oT 7 rfl) (oT 8 rfl) (by decide) (by decide) d1_4 rfl ?_
  intro b1 h2 gb1_ X3 A_b1 D4
  have g_b1 : n0 ≤ b1 := by rw [gb1_]; exact X0.1 ▸ X0.2.1
  have sz_b1 : h0.size ≤ b1 := by rw [gb1_]; exact K1.1
  have f5 := X0.ext X3
  have f6 := K1.ext X3
  have f7 : Fld Z h2 b1 "java/lang/String" "value" "[B" .null := D4 (Or.inr (K.hw _ (oT 22 rfl))) (ty := (.array .byte)) (by decide)
  have f8 : Fld Z h2 b1 "java/lang/String" "coder" "B" (.int (0 : Int32)) := D4 (Or.inr (K.hw _ (oT 23 rfl))) (ty := .byte) (by decide)
  show RnS w l _ n0 _ Z EL1 [b1] 7 _ [(.ref b1)] h2 1 4
  refine RnS.lift (fun vm0 hs r => have K := K.on hs; Rn.dup K (q := 8) d1_7 rfl rfl r) ?_
  refine RnS.lift (fun vm0 hs r => have K := K.on hs; Rn.iconst K (q := 9) (0 : Int32) d1_8 rfl rfl r) ?_
  refine RnS.newP K (q := 11) (cap := 0) (oT 9 rfl) (by decide) (by decide) (by decide) (by decide) (by decide) (ad := "[C") (by decide) d1_9 rfl ?_
  intro b9 h10 k12 gb9_ X11 A_b9 EA_b9
  have f13 := f5.ext X11
  have f14 := f6.ext X11
  have f15 := A_b1.ext X11
  have f16 := f7.ext X11
  have f17 := f8.ext X11
  show RnS w l _ n0 _ Z EL1 [b9, b1] 11 _ [(.ref b9), (.ref b1), (.ref b1)] h10 2 4
  refine RnS.specS K hEL (q := 14) (W := 1) (y := oM9) (b := b1) (argsL := [(.ref b9)]) (rest := [(.ref b1)]) rfl (oT 10 rfl) (oT 11 rfl) (oT 12 rfl) (oT 8 rfl) (by decide) (by simp) (m_ic0 l Z a0 hw n0 h10 b1 b9 k12 f13 f15 g_b1 f16 f17 A_b9) (by decide) (by decide) rfl (lenOf pd_24 rfl) rfl (oL rfl) d1_11 rfl (by decide) (by decide) ?_
  rintro _ h18 ⟨rfl, K19, v, S1⟩
  have f21 := f14.trans K19 (allS (Or.inr sz_b1) all0)
  show RnS w l _ n0 _ Z EL1 [b9, b1] 14 _ [(.ref b1)] h18 6 12
  exact RnS.retA K hEL (.object "java/lang/String") rfl rfl rfl d1_14 (by decide) (by decide) ⟨_, _, rfl, f21, S1⟩
theorem m_make (l : Launch) (Z : State) (a0 : Array Value) (hw : oH Z a0) (n0 : Nat) (h0 : Heap) (n : Nat) (x0 x1 x2 x3 x4 : Int32) (cst : Int32) (X0 : Old Z n0 h0) (SC : oSC Z cst) (hcs : ¬ cst = 0) (SA : oS0 Z) (SH : oS1 Z) (SW : oS2 Z) (cx0 : Chr x0) (cx1 : Chr x1) (cx2 : Chr x2) (cx3 : Chr x3) (cx4 : Chr x4) (hn : n < 6) :
    MetS l Z EL1 oM32 oC32 6 (some (.object "java/lang/String")) (oR 6 7 24 88) n0 [] [] #[(.int (Int32.ofNat n)), (.int x0), (.int x1), (.int x2), (.int x3), (.int x4)] h0 (fun r h => ∃ s v, r = some (.ref s) ∧ Keep h0 h [] ∧ STR Z h s v (List.take n [x0, x1, x2, x3, x4])) := by
  match n, hn with
  | 0, _ => exact m_mk0 l Z a0 hw n0 h0 x0 x1 x2 x3 x4 cst X0 SC hcs SA SH SW cx0 cx1 cx2 cx3 cx4
  | 1, _ => exact m_mk1 l Z a0 hw n0 h0 x0 x1 x2 x3 x4 cst X0 SC hcs SA SH SW cx0 cx1 cx2 cx3 cx4
  | 2, _ => exact m_mk2 l Z a0 hw n0 h0 x0 x1 x2 x3 x4 cst X0 SC hcs SA SH SW cx0 cx1 cx2 cx3 cx4
  | 3, _ => exact m_mk3 l Z a0 hw n0 h0 x0 x1 x2 x3 x4 cst X0 SC hcs SA SH SW cx0 cx1 cx2 cx3 cx4
  | 4, _ => exact m_mk4 l Z a0 hw n0 h0 x0 x1 x2 x3 x4 cst X0 SC hcs SA SH SW cx0 cx1 cx2 cx3 cx4
  | 5, _ => exact m_mk5 l Z a0 hw n0 h0 x0 x1 x2 x3 x4 cst X0 SC hcs SA SH SW cx0 cx1 cx2 cx3 cx4
  | n + 6, hn => exact absurd hn (by omega)
theorem m_law (l : Launch) (Z : State) (a0 : Array Value) (hw : oH Z a0) (n0 : Nat) (h0 : Heap) (p1 p2 p3 p4 p5 p6 : Int32) (fv : Value) (hfv : fv.isRef = true) (cst : Int32) (X0 : Old Z n0 h0) (SC : oSC Z cst) (hcs : ¬ cst = 0) (SQ : oSQ Z fv) (SA : oS0 Z) (SH : oS1 Z) (SW : oS2 Z) :
    MetS l Z EL1 x code maxLocals ret room_1 n0 tables_1 [] #[(.int p1), (.int p2), (.int p3), (.int p4), (.int p5), (.int p6)] h0 (fun v _ => v = some (.int (1 : Int32))) := by
  refine MetS.intro (Ls := #[.val (.int p1), .val (.int p2), .val (.int p3), .val (.int p4), .val (.int p5), .val (.int p6), .unset, .unset, .unset, .unset, .unset, .unset, .unset, .unset, .unset, .unset, .unset, .unset, .unset, .unset, .unset, .unset, .unset]) (plainFor_of_name pn_m_ref0) hw (fun m => by first | (simp [entryFrame, mkF, argsToLocals, Value.category, maxLocals]; done) | rfl) ?_
  intro w K0
  have hEL := own_EW hw
  have wS := own_wS hw
  have K : oK33 w Z a0 := K0
  refine RnS.lift (fun vm0 hs r => have K := K.on hs; Rn.iloadN K (q := 1) at_0 rfl rfl r) ?_
  refine RnS.lift (fun vm0 hs r => have K := K.on hs; Rn.ldcI K (q := 3) (2147483647 : Int32) (oT 0 rfl) at_1 rfl r) ?_
  refine RnS.lift (fun vm0 hs r => have K := K.on hs; Rn.iand K (q := 4) at_3 rfl r) ?_
  refine RnS.lift (fun vm0 hs r => have K := K.on hs; Rn.bipush K (q := 6) (6 : Int32) at_4 rfl rfl r) ?_
  refine RnS.lift (fun vm0 hs r => have K := K.on hs; Rn.irem K (q := 7) at_6 (by decide) rfl r) ?_
  obtain ⟨u0, hu0, eu0⟩ := own_rem p1 (m := 6) (by decide) (by decide)
  replace eu0 : ((p1 &&& (2147483647 : Int32)) % (6 : Int32)) = Int32.ofNat u0 := eu0
  rw [eu0]
  refine RnS.lift (fun vm0 hs r => have K := K.on hs; Rn.istore K (q := 9) (Ls' := #[.val (.int p1), .val (.int p2), .val (.int p3), .val (.int p4), .val (.int p5), .val (.int p6), .val (.int (Int32.ofNat u0)), .unset, .unset, .unset, .unset, .unset, .unset, .unset, .unset, .unset, .unset, .unset, .unset, .unset, .unset, .unset, .unset]) at_7 rfl rfl r) ?_
  refine RnS.lift (fun vm0 hs r => have K := K.on hs; Rn.iloadN K (q := 10) at_9 rfl rfl r) ?_
  refine RnS.lift (fun vm0 hs r => have K := K.on hs; Rn.bipush K (q := 12) (8 : Int32) at_10 rfl rfl r) ?_
  refine RnS.lift (fun vm0 hs r => have K := K.on hs; Rn.iushr K (q := 13) at_12 rfl r) ?_
  refine RnS.lift (fun vm0 hs r => have K := K.on hs; Rn.bipush K (q := 15) (6 : Int32) at_13 rfl rfl r) ?_
  refine RnS.lift (fun vm0 hs r => have K := K.on hs; Rn.irem K (q := 16) at_15 (by decide) rfl r) ?_
  obtain ⟨u1, hu1, eu1⟩ := own_rem8 p1
  replace eu1 : (((p1.toUInt32 >>> ((8 : Int32) &&& 31).toUInt32).toInt32) % (6 : Int32)) = Int32.ofNat u1 := eu1
  rw [eu1]
  refine RnS.lift (fun vm0 hs r => have K := K.on hs; Rn.istore K (q := 18) (Ls' := #[.val (.int p1), .val (.int p2), .val (.int p3), .val (.int p4), .val (.int p5), .val (.int p6), .val (.int (Int32.ofNat u0)), .val (.int (Int32.ofNat u1)), .unset, .unset, .unset, .unset, .unset, .unset, .unset, .unset, .unset, .unset, .unset, .unset, .unset, .unset, .unset]) at_16 rfl rfl r) ?_
  refine RnS.lift (fun vm0 hs r => have K := K.on hs; Rn.iloadN K (q := 19) at_18 rfl rfl r) ?_
  refine RnS.lift (fun vm0 hs r => have K := K.on hs; Rn.ldcI K (q := 21) (65535 : Int32) (oT 1 rfl) at_19 rfl r) ?_
  refine RnS.lift (fun vm0 hs r => have K := K.on hs; Rn.iand K (q := 22) at_21 rfl r) ?_
  refine RnS.lift (fun vm0 hs r => have K := K.on hs; Rn.i2c K (q := 23) at_22 rfl r) ?_
  have cx0 : Chr ((p2 &&& (65535 : Int32)).toUInt32.toUInt16.toUInt32.toInt32) := Chr.mk _
  generalize (p2 &&& (65535 : Int32)).toUInt32.toUInt16.toUInt32.toInt32 = x0 at cx0 ⊢
  refine RnS.lift (fun vm0 hs r => have K := K.on hs; Rn.istore K (q := 25) (Ls' := #[.val (.int p1), .val (.int p2), .val (.int p3), .val (.int p4), .val (.int p5), .val (.int p6), .val (.int (Int32.ofNat u0)), .val (.int (Int32.ofNat u1)), .val (.int x0), .unset, .unset, .unset, .unset, .unset, .unset, .unset, .unset, .unset, .unset, .unset, .unset, .unset, .unset]) at_23 rfl rfl r) ?_
  refine RnS.lift (fun vm0 hs r => have K := K.on hs; Rn.iloadN K (q := 26) at_25 rfl rfl r) ?_
  refine RnS.lift (fun vm0 hs r => have K := K.on hs; Rn.bipush K (q := 28) (16 : Int32) at_26 rfl rfl r) ?_
  refine RnS.lift (fun vm0 hs r => have K := K.on hs; Rn.iushr K (q := 29) at_28 rfl r) ?_
  refine RnS.lift (fun vm0 hs r => have K := K.on hs; Rn.i2c K (q := 30) at_29 rfl r) ?_
  have cx1 : Chr (((p2.toUInt32 >>> ((16 : Int32) &&& 31).toUInt32).toInt32).toUInt32.toUInt16.toUInt32.toInt32) := Chr.mk _
  generalize ((p2.toUInt32 >>> ((16 : Int32) &&& 31).toUInt32).toInt32).toUInt32.toUInt16.toUInt32.toInt32 = x1 at cx1 ⊢
  refine RnS.lift (fun vm0 hs r => have K := K.on hs; Rn.istore K (q := 32) (Ls' := #[.val (.int p1), .val (.int p2), .val (.int p3), .val (.int p4), .val (.int p5), .val (.int p6), .val (.int (Int32.ofNat u0)), .val (.int (Int32.ofNat u1)), .val (.int x0), .val (.int x1), .unset, .unset, .unset, .unset, .unset, .unset, .unset, .unset, .unset, .unset, .unset, .unset, .unset]) at_30 rfl rfl r) ?_
  refine RnS.lift (fun vm0 hs r => have K := K.on hs; Rn.iloadN K (q := 33) at_32 rfl rfl r) ?_
  refine RnS.lift (fun vm0 hs r => have K := K.on hs; Rn.ldcI K (q := 35) (65535 : Int32) (oT 1 rfl) at_33 rfl r) ?_
  refine RnS.lift (fun vm0 hs r => have K := K.on hs; Rn.iand K (q := 36) at_35 rfl r) ?_
  refine RnS.lift (fun vm0 hs r => have K := K.on hs; Rn.i2c K (q := 37) at_36 rfl r) ?_
  have cx2 : Chr ((p3 &&& (65535 : Int32)).toUInt32.toUInt16.toUInt32.toInt32) := Chr.mk _
  generalize (p3 &&& (65535 : Int32)).toUInt32.toUInt16.toUInt32.toInt32 = x2 at cx2 ⊢
  refine RnS.lift (fun vm0 hs r => have K := K.on hs; Rn.istore K (q := 39) (Ls' := #[.val (.int p1), .val (.int p2), .val (.int p3), .val (.int p4), .val (.int p5), .val (.int p6), .val (.int (Int32.ofNat u0)), .val (.int (Int32.ofNat u1)), .val (.int x0), .val (.int x1), .val (.int x2), .unset, .unset, .unset, .unset, .unset, .unset, .unset, .unset, .unset, .unset, .unset, .unset]) at_37 rfl rfl r) ?_
  refine RnS.lift (fun vm0 hs r => have K := K.on hs; Rn.iloadN K (q := 40) at_39 rfl rfl r) ?_
  refine RnS.lift (fun vm0 hs r => have K := K.on hs; Rn.bipush K (q := 42) (16 : Int32) at_40 rfl rfl r) ?_
  refine RnS.lift (fun vm0 hs r => have K := K.on hs; Rn.iushr K (q := 43) at_42 rfl r) ?_
  refine RnS.lift (fun vm0 hs r => have K := K.on hs; Rn.i2c K (q := 44) at_43 rfl r) ?_
  have cx3 : Chr (((p3.toUInt32 >>> ((16 : Int32) &&& 31).toUInt32).toInt32).toUInt32.toUInt16.toUInt32.toInt32) := Chr.mk _
  generalize ((p3.toUInt32 >>> ((16 : Int32) &&& 31).toUInt32).toInt32).toUInt32.toUInt16.toUInt32.toInt32 = x3 at cx3 ⊢
  refine RnS.lift (fun vm0 hs r => have K := K.on hs; Rn.istore K (q := 46) (Ls' := #[.val (.int p1), .val (.int p2), .val (.int p3), .val (.int p4), .val (.int p5), .val (.int p6), .val (.int (Int32.ofNat u0)), .val (.int (Int32.ofNat u1)), .val (.int x0), .val (.int x1), .val (.int x2), .val (.int x3), .unset, .unset, .unset, .unset, .unset, .unset, .unset, .unset, .unset, .unset, .unset]) at_44 rfl rfl r) ?_
  refine RnS.lift (fun vm0 hs r => have K := K.on hs; Rn.iloadN K (q := 47) at_46 rfl rfl r) ?_
  refine RnS.lift (fun vm0 hs r => have K := K.on hs; Rn.ldcI K (q := 49) (65535 : Int32) (oT 1 rfl) at_47 rfl r) ?_
  refine RnS.lift (fun vm0 hs r => have K := K.on hs; Rn.iand K (q := 50) at_49 rfl r) ?_
  refine RnS.lift (fun vm0 hs r => have K := K.on hs; Rn.i2c K (q := 51) at_50 rfl r) ?_
  have cx4 : Chr ((p4 &&& (65535 : Int32)).toUInt32.toUInt16.toUInt32.toInt32) := Chr.mk _
  generalize (p4 &&& (65535 : Int32)).toUInt32.toUInt16.toUInt32.toInt32 = x4 at cx4 ⊢
  refine RnS.lift (fun vm0 hs r => have K := K.on hs; Rn.istore K (q := 53) (Ls' := #[.val (.int p1), .val (.int p2), .val (.int p3), .val (.int p4), .val (.int p5), .val (.int p6), .val (.int (Int32.ofNat u0)), .val (.int (Int32.ofNat u1)), .val (.int x0), .val (.int x1), .val (.int x2), .val (.int x3), .val (.int x4), .unset, .unset, .unset, .unset, .unset, .unset, .unset, .unset, .unset, .unset]) at_51 rfl rfl r) ?_
  refine RnS.lift (fun vm0 hs r => have K := K.on hs; Rn.iloadN K (q := 54) at_53 rfl rfl r) ?_
  refine RnS.lift (fun vm0 hs r => have K := K.on hs; Rn.bipush K (q := 56) (16 : Int32) at_54 rfl rfl r) ?_
  refine RnS.lift (fun vm0 hs r => have K := K.on hs; Rn.iushr K (q := 57) at_56 rfl r) ?_
  refine RnS.lift (fun vm0 hs r => have K := K.on hs; Rn.i2c K (q := 58) at_57 rfl r) ?_
  have cyy0 : Chr (((p4.toUInt32 >>> ((16 : Int32) &&& 31).toUInt32).toInt32).toUInt32.toUInt16.toUInt32.toInt32) := Chr.mk _
  generalize ((p4.toUInt32 >>> ((16 : Int32) &&& 31).toUInt32).toInt32).toUInt32.toUInt16.toUInt32.toInt32 = yy0 at cyy0 ⊢
  refine RnS.lift (fun vm0 hs r => have K := K.on hs; Rn.istore K (q := 60) (Ls' := #[.val (.int p1), .val (.int p2), .val (.int p3), .val (.int p4), .val (.int p5), .val (.int p6), .val (.int (Int32.ofNat u0)), .val (.int (Int32.ofNat u1)), .val (.int x0), .val (.int x1), .val (.int x2), .val (.int x3), .val (.int x4), .val (.int yy0), .unset, .unset, .unset, .unset, .unset, .unset, .unset, .unset, .unset]) at_58 rfl rfl r) ?_
  refine RnS.lift (fun vm0 hs r => have K := K.on hs; Rn.iload K (q := 62) at_60 rfl rfl r) ?_
  refine RnS.lift (fun vm0 hs r => have K := K.on hs; Rn.ldcI K (q := 64) (65535 : Int32) (oT 1 rfl) at_62 rfl r) ?_
  refine RnS.lift (fun vm0 hs r => have K := K.on hs; Rn.iand K (q := 65) at_64 rfl r) ?_
  refine RnS.lift (fun vm0 hs r => have K := K.on hs; Rn.i2c K (q := 66) at_65 rfl r) ?_
  have cyy1 : Chr ((p5 &&& (65535 : Int32)).toUInt32.toUInt16.toUInt32.toInt32) := Chr.mk _
  generalize (p5 &&& (65535 : Int32)).toUInt32.toUInt16.toUInt32.toInt32 = yy1 at cyy1 ⊢
  refine RnS.lift (fun vm0 hs r => have K := K.on hs; Rn.istore K (q := 68) (Ls' := #[.val (.int p1), .val (.int p2), .val (.int p3), .val (.int p4), .val (.int p5), .val (.int p6), .val (.int (Int32.ofNat u0)), .val (.int (Int32.ofNat u1)), .val (.int x0), .val (.int x1), .val (.int x2), .val (.int x3), .val (.int x4), .val (.int yy0), .val (.int yy1), .unset, .unset, .unset, .unset, .unset, .unset, .unset, .unset]) at_66 rfl rfl r) ?_
  refine RnS.lift (fun vm0 hs r => have K := K.on hs; Rn.iload K (q := 70) at_68 rfl rfl r) ?_
  refine RnS.lift (fun vm0 hs r => have K := K.on hs; Rn.bipush K (q := 72) (16 : Int32) at_70 rfl rfl r) ?_
  refine RnS.lift (fun vm0 hs r => have K := K.on hs; Rn.iushr K (q := 73) at_72 rfl r) ?_
  refine RnS.lift (fun vm0 hs r => have K := K.on hs; Rn.i2c K (q := 74) at_73 rfl r) ?_
  have cyy2 : Chr (((p5.toUInt32 >>> ((16 : Int32) &&& 31).toUInt32).toInt32).toUInt32.toUInt16.toUInt32.toInt32) := Chr.mk _
  generalize ((p5.toUInt32 >>> ((16 : Int32) &&& 31).toUInt32).toInt32).toUInt32.toUInt16.toUInt32.toInt32 = yy2 at cyy2 ⊢
  refine RnS.lift (fun vm0 hs r => have K := K.on hs; Rn.istore K (q := 76) (Ls' := #[.val (.int p1), .val (.int p2), .val (.int p3), .val (.int p4), .val (.int p5), .val (.int p6), .val (.int (Int32.ofNat u0)), .val (.int (Int32.ofNat u1)), .val (.int x0), .val (.int x1), .val (.int x2), .val (.int x3), .val (.int x4), .val (.int yy0), .val (.int yy1), .val (.int yy2), .unset, .unset, .unset, .unset, .unset, .unset, .unset]) at_74 rfl rfl r) ?_
  refine RnS.lift (fun vm0 hs r => have K := K.on hs; Rn.iload K (q := 78) at_76 rfl rfl r) ?_
  refine RnS.lift (fun vm0 hs r => have K := K.on hs; Rn.ldcI K (q := 80) (65535 : Int32) (oT 1 rfl) at_78 rfl r) ?_
  refine RnS.lift (fun vm0 hs r => have K := K.on hs; Rn.iand K (q := 81) at_80 rfl r) ?_
  refine RnS.lift (fun vm0 hs r => have K := K.on hs; Rn.i2c K (q := 82) at_81 rfl r) ?_
  have cyy3 : Chr ((p6 &&& (65535 : Int32)).toUInt32.toUInt16.toUInt32.toInt32) := Chr.mk _
  generalize (p6 &&& (65535 : Int32)).toUInt32.toUInt16.toUInt32.toInt32 = yy3 at cyy3 ⊢
  refine RnS.lift (fun vm0 hs r => have K := K.on hs; Rn.istore K (q := 84) (Ls' := #[.val (.int p1), .val (.int p2), .val (.int p3), .val (.int p4), .val (.int p5), .val (.int p6), .val (.int (Int32.ofNat u0)), .val (.int (Int32.ofNat u1)), .val (.int x0), .val (.int x1), .val (.int x2), .val (.int x3), .val (.int x4), .val (.int yy0), .val (.int yy1), .val (.int yy2), .val (.int yy3), .unset, .unset, .unset, .unset, .unset, .unset]) at_82 rfl rfl r) ?_
  refine RnS.lift (fun vm0 hs r => have K := K.on hs; Rn.iload K (q := 86) at_84 rfl rfl r) ?_
  refine RnS.lift (fun vm0 hs r => have K := K.on hs; Rn.bipush K (q := 88) (16 : Int32) at_86 rfl rfl r) ?_
  refine RnS.lift (fun vm0 hs r => have K := K.on hs; Rn.iushr K (q := 89) at_88 rfl r) ?_
  refine RnS.lift (fun vm0 hs r => have K := K.on hs; Rn.i2c K (q := 90) at_89 rfl r) ?_
  have cyy4 : Chr (((p6.toUInt32 >>> ((16 : Int32) &&& 31).toUInt32).toInt32).toUInt32.toUInt16.toUInt32.toInt32) := Chr.mk _
  generalize ((p6.toUInt32 >>> ((16 : Int32) &&& 31).toUInt32).toInt32).toUInt32.toUInt16.toUInt32.toInt32 = yy4 at cyy4 ⊢
  refine RnS.lift (fun vm0 hs r => have K := K.on hs; Rn.istore K (q := 92) (Ls' := #[.val (.int p1), .val (.int p2), .val (.int p3), .val (.int p4), .val (.int p5), .val (.int p6), .val (.int (Int32.ofNat u0)), .val (.int (Int32.ofNat u1)), .val (.int x0), .val (.int x1), .val (.int x2), .val (.int x3), .val (.int x4), .val (.int yy0), .val (.int yy1), .val (.int yy2), .val (.int yy3), .val (.int yy4), .unset, .unset, .unset, .unset, .unset]) at_90 rfl rfl r) ?_
  refine RnS.lift (fun vm0 hs r => have K := K.on hs; Rn.iload K (q := 94) at_92 rfl rfl r) ?_
  refine RnS.lift (fun vm0 hs r => have K := K.on hs; Rn.iload K (q := 96) at_94 rfl rfl r) ?_
  refine RnS.lift (fun vm0 hs r => have K := K.on hs; Rn.iload K (q := 98) at_96 rfl rfl r) ?_
  refine RnS.lift (fun vm0 hs r => have K := K.on hs; Rn.iload K (q := 100) at_98 rfl rfl r) ?_
  refine RnS.lift (fun vm0 hs r => have K := K.on hs; Rn.iload K (q := 102) at_100 rfl rfl r) ?_
  refine RnS.lift (fun vm0 hs r => have K := K.on hs; Rn.iload K (q := 104) at_102 rfl rfl r) ?_
  refine RnS.statS K hEL (q := 107) (W := 0) (y := oM32) (argsL := [(.int (Int32.ofNat u0)), (.int x0), (.int x1), (.int x2), (.int x3), (.int x4)]) (rest := []) (oT 2 rfl) (oT 3 rfl) (oT 5 rfl) (oT 4 rfl) (by decide) (by simp) (m_make l Z a0 hw n0 h0 u0 x0 x1 x2 x3 x4 cst X0 SC hcs SA SH SW cx0 cx1 cx2 cx3 cx4 hu0) (by decide) (by decide) rfl (lenOf pd_25 rfl) rfl (oL rfl) at_104 rfl (by decide) (by decide) ?_
  rintro _ h1 ⟨s0, v0, rfl, K2, S0⟩
  have f3 := X0.keep K2 all0
  show RnS w l _ n0 _ Z EL1 [] 107 _ [(.ref s0)] h1 7 24
  refine RnS.lift (fun vm0 hs r => have K := K.on hs; Rn.astore K (q := 109) (Ls' := #[.val (.int p1), .val (.int p2), .val (.int p3), .val (.int p4), .val (.int p5), .val (.int p6), .val (.int (Int32.ofNat u0)), .val (.int (Int32.ofNat u1)), .val (.int x0), .val (.int x1), .val (.int x2), .val (.int x3), .val (.int x4), .val (.int yy0), .val (.int yy1), .val (.int yy2), .val (.int yy3), .val (.int yy4), .val (.ref s0), .unset, .unset, .unset, .unset]) at_107 rfl rfl rfl r) ?_
  refine RnS.lift (fun vm0 hs r => have K := K.on hs; Rn.iload K (q := 111) at_109 rfl rfl r) ?_
  refine RnS.lift (fun vm0 hs r => have K := K.on hs; Rn.iload K (q := 113) at_111 rfl rfl r) ?_
  refine RnS.lift (fun vm0 hs r => have K := K.on hs; Rn.iload K (q := 115) at_113 rfl rfl r) ?_
  refine RnS.lift (fun vm0 hs r => have K := K.on hs; Rn.iload K (q := 117) at_115 rfl rfl r) ?_
  refine RnS.lift (fun vm0 hs r => have K := K.on hs; Rn.iload K (q := 119) at_117 rfl rfl r) ?_
  refine RnS.lift (fun vm0 hs r => have K := K.on hs; Rn.iload K (q := 121) at_119 rfl rfl r) ?_
  refine RnS.statS K hEL (q := 124) (W := 0) (y := oM32) (argsL := [(.int (Int32.ofNat u1)), (.int yy0), (.int yy1), (.int yy2), (.int yy3), (.int yy4)]) (rest := []) (oT 2 rfl) (oT 3 rfl) (oT 5 rfl) (oT 4 rfl) (by decide) (by simp) (m_make l Z a0 hw n0 h1 u1 yy0 yy1 yy2 yy3 yy4 cst f3 SC hcs SA SH SW cyy0 cyy1 cyy2 cyy3 cyy4 hu1) (by decide) (by decide) rfl (lenOf pd_25 rfl) rfl (oL rfl) at_121 rfl (by decide) (by decide) ?_
  rintro _ h4 ⟨s1, v1, rfl, K5, S1⟩
  have f6 := f3.keep K5 all0
  have f7 := S0.keep K5 nin0 nin0
  show RnS w l _ n0 _ Z EL1 [] 124 _ [(.ref s1)] h4 14 48
  refine RnS.lift (fun vm0 hs r => have K := K.on hs; Rn.astore K (q := 126) (Ls' := #[.val (.int p1), .val (.int p2), .val (.int p3), .val (.int p4), .val (.int p5), .val (.int p6), .val (.int (Int32.ofNat u0)), .val (.int (Int32.ofNat u1)), .val (.int x0), .val (.int x1), .val (.int x2), .val (.int x3), .val (.int x4), .val (.int yy0), .val (.int yy1), .val (.int yy2), .val (.int yy3), .val (.int yy4), .val (.ref s0), .val (.ref s1), .unset, .unset, .unset]) at_124 rfl rfl rfl r) ?_
  refine RnS.lift (fun vm0 hs r => have K := K.on hs; Rn.iload K (q := 128) at_126 rfl rfl r) ?_
  refine RnS.lift (fun vm0 hs r => have K := K.on hs; Rn.iload K (q := 130) at_128 rfl rfl r) ?_
  refine RnS.lift (fun vm0 hs r => have K := K.on hs; Rn.iload K (q := 132) at_130 rfl rfl r) ?_
  refine RnS.lift (fun vm0 hs r => have K := K.on hs; Rn.iload K (q := 134) at_132 rfl rfl r) ?_
  refine RnS.lift (fun vm0 hs r => have K := K.on hs; Rn.iload K (q := 136) at_134 rfl rfl r) ?_
  refine RnS.lift (fun vm0 hs r => have K := K.on hs; Rn.iload K (q := 138) at_136 rfl rfl r) ?_
  refine RnS.liftC (fun vm0 hs r => have K := K.on hs; Rn.stat K (q := 141) (W := 0) (y := oM31) (argsL := [(.int (Int32.ofNat u0)), (.int x0), (.int x1), (.int x2), (.int x3), (.int x4)]) (rest := []) (oT 28 rfl) (oT 29 rfl) (oT 30 rfl) (oT 4 rfl) (by decide) (m_ref l Z a0 hw n0 h4 u0 x0 x1 x2 x3 x4 f6 hu0) (by decide) (by decide) rfl (lenOf pd_26 rfl) rfl (oL rfl) at_138 rfl (by decide) (by decide) r) (by rintro _ _ ⟨rfl, rfl⟩; exact own_kp0) ?_
  rintro _ _ ⟨rfl, rfl⟩
  show RnS w l _ n0 _ Z EL1 [] 141 _ [(.int (hsh (List.take u0 [x0, x1, x2, x3, x4])))] h4 14 48
  refine RnS.lift (fun vm0 hs r => have K := K.on hs; Rn.istore K (q := 143) (Ls' := #[.val (.int p1), .val (.int p2), .val (.int p3), .val (.int p4), .val (.int p5), .val (.int p6), .val (.int (Int32.ofNat u0)), .val (.int (Int32.ofNat u1)), .val (.int x0), .val (.int x1), .val (.int x2), .val (.int x3), .val (.int x4), .val (.int yy0), .val (.int yy1), .val (.int yy2), .val (.int yy3), .val (.int yy4), .val (.ref s0), .val (.ref s1), .val (.int (hsh (List.take u0 [x0, x1, x2, x3, x4]))), .unset, .unset]) at_141 rfl rfl r) ?_
  refine RnS.lift (fun vm0 hs r => have K := K.on hs; Rn.iload K (q := 145) at_143 rfl rfl r) ?_
  refine RnS.lift (fun vm0 hs r => have K := K.on hs; Rn.iload K (q := 147) at_145 rfl rfl r) ?_
  refine RnS.lift (fun vm0 hs r => have K := K.on hs; Rn.iload K (q := 149) at_147 rfl rfl r) ?_
  refine RnS.lift (fun vm0 hs r => have K := K.on hs; Rn.iload K (q := 151) at_149 rfl rfl r) ?_
  refine RnS.lift (fun vm0 hs r => have K := K.on hs; Rn.iload K (q := 153) at_151 rfl rfl r) ?_
  refine RnS.lift (fun vm0 hs r => have K := K.on hs; Rn.iload K (q := 155) at_153 rfl rfl r) ?_
  refine RnS.liftC (fun vm0 hs r => have K := K.on hs; Rn.stat K (q := 158) (W := 0) (y := oM31) (argsL := [(.int (Int32.ofNat u1)), (.int yy0), (.int yy1), (.int yy2), (.int yy3), (.int yy4)]) (rest := []) (oT 28 rfl) (oT 29 rfl) (oT 30 rfl) (oT 4 rfl) (by decide) (m_ref l Z a0 hw n0 h4 u1 yy0 yy1 yy2 yy3 yy4 f6 hu1) (by decide) (by decide) rfl (lenOf pd_26 rfl) rfl (oL rfl) at_155 rfl (by decide) (by decide) r) (by rintro _ _ ⟨rfl, rfl⟩; exact own_kp0) ?_
  rintro _ _ ⟨rfl, rfl⟩
  show RnS w l _ n0 _ Z EL1 [] 158 #[.val (.int p1), .val (.int p2), .val (.int p3), .val (.int p4), .val (.int p5), .val (.int p6), .val (.int (Int32.ofNat u0)), .val (.int (Int32.ofNat u1)), .val (.int x0), .val (.int x1), .val (.int x2), .val (.int x3), .val (.int x4), .val (.int yy0), .val (.int yy1), .val (.int yy2), .val (.int yy3), .val (.int yy4), .val (.ref s0), .val (.ref s1), .val (.int (hsh (List.take u0 [x0, x1, x2, x3, x4]))), .unset, .unset] [(.int (hsh (List.take u1 [yy0, yy1, yy2, yy3, yy4])))] h4 14 48
  refine RnS.lift (fun vm0 hs r => have K := K.on hs; Rn.istore K (q := 160) (Ls' := #[.val (.int p1), .val (.int p2), .val (.int p3), .val (.int p4), .val (.int p5), .val (.int p6), .val (.int (Int32.ofNat u0)), .val (.int (Int32.ofNat u1)), .val (.int x0), .val (.int x1), .val (.int x2), .val (.int x3), .val (.int x4), .val (.int yy0), .val (.int yy1), .val (.int yy2), .val (.int yy3), .val (.int yy4), .val (.ref s0), .val (.ref s1), .val (.int (hsh (List.take u0 [x0, x1, x2, x3, x4]))), .val (.int (hsh (List.take u1 [yy0, yy1, yy2, yy3, yy4]))), .unset]) at_158 rfl rfl r) ?_
  have L0 := f7.lt
  have L1 := S1.lt
  have hch0 : ∀ c ∈ (List.take u0 [x0, x1, x2, x3, x4]), Chr c := own_tk cx0 cx1 cx2 cx3 cx4
  have hch1 : ∀ c ∈ (List.take u1 [yy0, yy1, yy2, yy3, yy4]), Chr c := own_tk cyy0 cyy1 cyy2 cyy3 cyy4
  refine RnS.newO K (q := 163) (oT 31 rfl) (oT 32 rfl) (oT 33 rfl) (by decide) (by decide) at_160 rfl ?_
  intro b8 h9 gb8_ X10 A_b8 D11
  have g_b8 : n0 ≤ b8 := by rw [gb8_]; exact f6.1 ▸ f6.2.1
  have f12 := f6.ext X10
  have f13 := f7.ext X10
  have f14 := S1.ext X10
  have f15 : Fld Z h9 b8 "com/example/spanmask/spanmask/ledger/TextColumn" "chunks" "[[C" .null := D11 (Or.inl (K.hw _ (oT 42 rfl))) (ty := (.array (.array .char))) (by decide)
  have f16 : Fld Z h9 b8 "com/example/spanmask/spanmask/ledger/TextColumn" "ends" "[J" .null := D11 (Or.inl (K.hw _ (oT 45 rfl))) (ty := (.array .long)) (by decide)
  have f17 : Fld Z h9 b8 "com/example/spanmask/spanmask/ledger/TextColumn" "size" "I" (.int (0 : Int32)) := D11 (Or.inl (K.hw _ (oT 88 rfl))) (ty := .int) (by decide)
  have f18 : Fld Z h9 b8 "com/example/spanmask/spanmask/ledger/TextColumn" "length" "J" (.long (0 : Int64)) := D11 (Or.inl (K.hw _ (oT 90 rfl))) (ty := .long) (by decide)
  show RnS w l _ n0 _ Z EL1 [b8] 163 #[.val (.int p1), .val (.int p2), .val (.int p3), .val (.int p4), .val (.int p5), .val (.int p6), .val (.int (Int32.ofNat u0)), .val (.int (Int32.ofNat u1)), .val (.int x0), .val (.int x1), .val (.int x2), .val (.int x3), .val (.int x4), .val (.int yy0), .val (.int yy1), .val (.int yy2), .val (.int yy3), .val (.int yy4), .val (.ref s0), .val (.ref s1), .val (.int (hsh (List.take u0 [x0, x1, x2, x3, x4]))), .val (.int (hsh (List.take u1 [yy0, yy1, yy2, yy3, yy4]))), .unset] [(.ref b8)] h9 15 52
  have e_b8 : b8 = h4.size := gb8_
  refine RnS.lift (fun vm0 hs r => have K := K.on hs; Rn.dup K (q := 164) at_163 rfl rfl r) ?_
  refine RnS.liftC (fun vm0 hs r => have K := K.on hs; Rn.spec K (q := 167) (W := 1) (y := oM22) (b := b8) (argsL := []) (rest := [(.ref b8)]) rfl (oT 34 rfl) (oT 35 rfl) (oT 36 rfl) (oT 33 rfl) (by decide) (m_tci l Z a0 hw n0 h9 b8 f12 A_b8 g_b8 f15 f16 f17 f18) (by decide) (by decide) rfl (lenOf pd_21 rfl) rfl (oL rfl) at_164 rfl (by decide) (by decide) r) (by rintro _ _ ⟨-, Kp, -⟩; exact own_kpE Kp A_b8) ?_
  rintro _ hc ⟨rfl, Kc, ch, ck, en, z1, z2, z3, QC⟩
  have g_ck : n0 ≤ ck := own_g f12 z2
  have g_en : n0 ≤ en := own_g f12 z3
  have f19 := f12.keep Kc (allS g_b8 all0)
  have f20 := f13.keep Kc (ninS (own_old L0.1 e_b8) nin0) (ninS (own_old L0.2 e_b8) nin0)
  have f21 := f14.keep Kc (ninS (own_old L1.1 e_b8) nin0) (ninS (own_old L1.2 e_b8) nin0)
  show RnS w l _ n0 _ Z EL1 [b8] 167 #[.val (.int p1), .val (.int p2), .val (.int p3), .val (.int p4), .val (.int p5), .val (.int p6), .val (.int (Int32.ofNat u0)), .val (.int (Int32.ofNat u1)), .val (.int x0), .val (.int x1), .val (.int x2), .val (.int x3), .val (.int x4), .val (.int yy0), .val (.int yy1), .val (.int yy2), .val (.int yy3), .val (.int yy4), .val (.ref s0), .val (.ref s1), .val (.int (hsh (List.take u0 [x0, x1, x2, x3, x4]))), .val (.int (hsh (List.take u1 [yy0, yy1, yy2, yy3, yy4]))), .unset] [(.ref b8)] hc 18 325
  refine RnS.lift (fun vm0 hs r => have K := K.on hs; Rn.astore K (q := 169) (Ls' := #[.val (.int p1), .val (.int p2), .val (.int p3), .val (.int p4), .val (.int p5), .val (.int p6), .val (.int (Int32.ofNat u0)), .val (.int (Int32.ofNat u1)), .val (.int x0), .val (.int x1), .val (.int x2), .val (.int x3), .val (.int x4), .val (.int yy0), .val (.int yy1), .val (.int yy2), .val (.int yy3), .val (.int yy4), .val (.ref s0), .val (.ref s1), .val (.int (hsh (List.take u0 [x0, x1, x2, x3, x4]))), .val (.int (hsh (List.take u1 [yy0, yy1, yy2, yy3, yy4]))), .val (.ref b8)]) at_167 rfl rfl rfl r) ?_
  refine RnS.lift (fun vm0 hs r => have K := K.on hs; Rn.aload K (q := 171) at_169 rfl rfl rfl r) ?_
  refine RnS.lift (fun vm0 hs r => have K := K.on hs; Rn.aload K (q := 173) at_171 rfl rfl rfl r) ?_
  refine RnS.liftC (fun vm0 hs r => have K := K.on hs; Rn.virt K (q := 176) (W := 0) (y := oM26) (z := oM26) (b := b8) (argsL := [(.ref s0)]) (rest := []) (oT 46 rfl) (oT 47 rfl) (nfs K (oT 49 rfl)) (oT 49 rfl) (oT 48 rfl) (oT 50 rfl) (oT 33 rfl) (by decide) (m_add0 l Z a0 hw n0 hc b8 ch ck en s0 v0 cst fv hfv ([] : List Int32) (List.take u0 [x0, x1, x2, x3, x4])  f19 SC hcs SQ SA SH SW QC f20 (own_ll0 ) (own_l5 hu0) hch0 g_b8 g_ck g_en) QC.1 (by decide) (by decide) rfl (lenOf pd_27 rfl) rfl (oL rfl) at_173 rfl (by decide) (by decide) r) (by rintro _ _ ⟨-, Kp, -⟩; exact own_kpC Kp QC) ?_
  rintro _ h23 ⟨rfl, K24, QC25⟩
  have f26 := f19.keep K24 (allS g_b8 (allS g_ck (allS g_en all0)))
  have f27 := f20.keep K24 (ninS (own_old L0.1 e_b8) (ninS (own_old2 f13.lt.1 z2) (ninS (own_old2 f13.lt.1 z3) nin0))) (ninS (own_old L0.2 e_b8) (ninS (own_old2 f13.lt.2 z2) (ninS (own_old2 f13.lt.2 z3) nin0)))
  have f28 := f21.keep K24 (ninS (own_old L1.1 e_b8) (ninS (own_old2 f14.lt.1 z2) (ninS (own_old2 f14.lt.1 z3) nin0))) (ninS (own_old L1.2 e_b8) (ninS (own_old2 f14.lt.2 z2) (ninS (own_old2 f14.lt.2 z3) nin0)))
  show RnS w l _ n0 _ Z EL1 [b8] 176 #[.val (.int p1), .val (.int p2), .val (.int p3), .val (.int p4), .val (.int p5), .val (.int p6), .val (.int (Int32.ofNat u0)), .val (.int (Int32.ofNat u1)), .val (.int x0), .val (.int x1), .val (.int x2), .val (.int x3), .val (.int x4), .val (.int yy0), .val (.int yy1), .val (.int yy2), .val (.int yy3), .val (.int yy4), .val (.ref s0), .val (.ref s1), .val (.int (hsh (List.take u0 [x0, x1, x2, x3, x4]))), .val (.int (hsh (List.take u1 [yy0, yy1, yy2, yy3, yy4]))), .val (.ref b8)] [] h23 19 330
  refine RnS.lift (fun vm0 hs r => have K := K.on hs; Rn.aload K (q := 178) at_176 rfl rfl rfl r) ?_
  refine RnS.lift (fun vm0 hs r => have K := K.on hs; Rn.aload K (q := 180) at_178 rfl rfl rfl r) ?_
  refine RnS.liftC (fun vm0 hs r => have K := K.on hs; Rn.virt K (q := 183) (W := 0) (y := oM26) (z := oM26) (b := b8) (argsL := [(.ref s1)]) (rest := []) (oT 46 rfl) (oT 47 rfl) (nfs K (oT 49 rfl)) (oT 49 rfl) (oT 48 rfl) (oT 50 rfl) (oT 33 rfl) (by decide) (m_add1 l Z a0 hw n0 h23 b8 ch ck en s1 v1 cst fv hfv (([] : List Int32) ++ (List.take u0 [x0, x1, x2, x3, x4])) (List.take u1 [yy0, yy1, yy2, yy3, yy4]) (Int64.ofNat (([] : List Int32) ++ (List.take u0 [x0, x1, x2, x3, x4])).length) f26 SC hcs SQ SA SH SW QC25 f28 (own_ll1 ) (own_l5 hu1) hch1 g_b8 g_ck g_en) QC25.1 (by decide) (by decide) rfl (lenOf pd_27 rfl) rfl (oL rfl) at_180 rfl (by decide) (by decide) r) (by rintro _ _ ⟨-, Kp, -⟩; exact own_kpC Kp QC25) ?_
  rintro _ h30 ⟨rfl, K31, QC32⟩
  have f33 := f26.keep K31 (allS g_b8 (allS g_ck (allS g_en all0)))
  have f34 := f27.keep K31 (ninS (own_old L0.1 e_b8) (ninS (own_old2 f13.lt.1 z2) (ninS (own_old2 f13.lt.1 z3) nin0))) (ninS (own_old L0.2 e_b8) (ninS (own_old2 f13.lt.2 z2) (ninS (own_old2 f13.lt.2 z3) nin0)))
  show RnS w l _ n0 _ Z EL1 [b8] 183 #[.val (.int p1), .val (.int p2), .val (.int p3), .val (.int p4), .val (.int p5), .val (.int p6), .val (.int (Int32.ofNat u0)), .val (.int (Int32.ofNat u1)), .val (.int x0), .val (.int x1), .val (.int x2), .val (.int x3), .val (.int x4), .val (.int yy0), .val (.int yy1), .val (.int yy2), .val (.int yy3), .val (.int yy4), .val (.ref s0), .val (.ref s1), .val (.int (hsh (List.take u0 [x0, x1, x2, x3, x4]))), .val (.int (hsh (List.take u1 [yy0, yy1, yy2, yy3, yy4]))), .val (.ref b8)] [] h30 20 335
  refine RnS.lift (fun vm0 hs r => have K := K.on hs; Rn.aload K (q := 185) at_183 rfl rfl rfl r) ?_
  refine RnS.lift (fun vm0 hs r => have K := K.on hs; Rn.aload K (q := 187) at_185 rfl rfl rfl r) ?_
  refine RnS.liftC (fun vm0 hs r => have K := K.on hs; Rn.virt K (q := 190) (W := 0) (y := oM26) (z := oM26) (b := b8) (argsL := [(.ref s0)]) (rest := []) (oT 46 rfl) (oT 47 rfl) (nfs K (oT 49 rfl)) (oT 49 rfl) (oT 48 rfl) (oT 50 rfl) (oT 33 rfl) (by decide) (m_add2 l Z a0 hw n0 h30 b8 ch ck en s0 v0 cst fv hfv ((([] : List Int32) ++ (List.take u0 [x0, x1, x2, x3, x4])) ++ (List.take u1 [yy0, yy1, yy2, yy3, yy4])) (List.take u0 [x0, x1, x2, x3, x4]) (Int64.ofNat (([] : List Int32) ++ (List.take u0 [x0, x1, x2, x3, x4])).length) (Int64.ofNat ((([] : List Int32) ++ (List.take u0 [x0, x1, x2, x3, x4])) ++ (List.take u1 [yy0, yy1, yy2, yy3, yy4])).length) f33 SC hcs SQ SA SH SW QC32 f34 (own_ll2 ) (own_l5 hu0) hch0 g_b8 g_ck g_en) QC32.1 (by decide) (by decide) rfl (lenOf pd_27 rfl) rfl (oL rfl) at_187 rfl (by decide) (by decide) r) (by rintro _ _ ⟨-, Kp, -⟩; exact own_kpC Kp QC32) ?_
  rintro _ h37 ⟨rfl, K38, QC39⟩
  have f40 := f33.keep K38 (allS g_b8 (allS g_ck (allS g_en all0)))
  show RnS w l _ n0 _ Z EL1 [b8] 190 #[.val (.int p1), .val (.int p2), .val (.int p3), .val (.int p4), .val (.int p5), .val (.int p6), .val (.int (Int32.ofNat u0)), .val (.int (Int32.ofNat u1)), .val (.int x0), .val (.int x1), .val (.int x2), .val (.int x3), .val (.int x4), .val (.int yy0), .val (.int yy1), .val (.int yy2), .val (.int yy3), .val (.int yy4), .val (.ref s0), .val (.ref s1), .val (.int (hsh (List.take u0 [x0, x1, x2, x3, x4]))), .val (.int (hsh (List.take u1 [yy0, yy1, yy2, yy3, yy4]))), .val (.ref b8)] [] h37 21 340
  refine RnS.lift (fun vm0 hs r => have K := K.on hs; Rn.aload K (q := 192) at_190 rfl rfl rfl r) ?_
  refine RnS.lift (fun vm0 hs r => have K := K.on hs; Rn.iconst K (q := 193) (0 : Int32) at_192 rfl rfl r) ?_
  refine RnS.liftC (fun vm0 hs r => have K := K.on hs; Rn.virt K (q := 196) (W := 0) (y := oM30) (z := oM30) (b := b8) (argsL := [oZ]) (rest := []) (oT 91 rfl) (oT 92 rfl) (nfs K (oT 94 rfl)) (oT 94 rfl) (oT 93 rfl) (oT 95 rfl) (oT 33 rfl) (by decide) (m_hash0 l Z a0 hw n0 h37 b8 ch ck en (((([] : List Int32) ++ (List.take u0 [x0, x1, x2, x3, x4])) ++ (List.take u1 [yy0, yy1, yy2, yy3, yy4])) ++ (List.take u0 [x0, x1, x2, x3, x4])) [] (List.take u0 [x0, x1, x2, x3, x4]) ((List.take u1 [yy0, yy1, yy2, yy3, yy4]) ++ (List.take u0 [x0, x1, x2, x3, x4])) (Int64.ofNat (([] : List Int32) ++ (List.take u0 [x0, x1, x2, x3, x4])).length) (Int64.ofNat ((([] : List Int32) ++ (List.take u0 [x0, x1, x2, x3, x4])) ++ (List.take u1 [yy0, yy1, yy2, yy3, yy4])).length) (Int64.ofNat (((([] : List Int32) ++ (List.take u0 [x0, x1, x2, x3, x4])) ++ (List.take u1 [yy0, yy1, yy2, yy3, yy4])) ++ (List.take u0 [x0, x1, x2, x3, x4])).length) f40 QC39 (by simp only [List.nil_append, List.append_nil, List.append_assoc]) (own_l15 hu0 hu1) rfl (congrArg Int64.ofNat (by simp only [List.nil_append, List.length_append, List.length_nil, Nat.zero_add])) hch0) QC39.1 (by decide) (by decide) rfl (lenOf pd_0 rfl) rfl (oL rfl) at_193 rfl (by decide) (by decide) r) (by rintro _ _ ⟨rfl, rfl⟩; exact own_kp0) ?_
  rintro _ _ ⟨rfl, rfl⟩
  show RnS w l _ n0 _ Z EL1 [b8] 196 #[.val (.int p1), .val (.int p2), .val (.int p3), .val (.int p4), .val (.int p5), .val (.int p6), .val (.int (Int32.ofNat u0)), .val (.int (Int32.ofNat u1)), .val (.int x0), .val (.int x1), .val (.int x2), .val (.int x3), .val (.int x4), .val (.int yy0), .val (.int yy1), .val (.int yy2), .val (.int yy3), .val (.int yy4), .val (.ref s0), .val (.ref s1), .val (.int (hsh (List.take u0 [x0, x1, x2, x3, x4]))), .val (.int (hsh (List.take u1 [yy0, yy1, yy2, yy3, yy4]))), .val (.ref b8)] [(.int (hsh (List.take u0 [x0, x1, x2, x3, x4])))] h37 21 340
  refine RnS.lift (fun vm0 hs r => have K := K.on hs; Rn.iload K (q := 198) at_196 rfl rfl r) ?_
  refine RnS.lift (fun vm0 hs r => have K := K.on hs; Rn.icN K (q := 201) at_198 (XT.ii_ne_f rfl) rfl r) ?_
  refine RnS.lift (fun vm0 hs r => have K := K.on hs; Rn.aload K (q := 203) at_201 rfl rfl rfl r) ?_
  refine RnS.lift (fun vm0 hs r => have K := K.on hs; Rn.iconst K (q := 204) (1 : Int32) at_203 rfl rfl r) ?_
  refine RnS.liftC (fun vm0 hs r => have K := K.on hs; Rn.virt K (q := 207) (W := 0) (y := oM30) (z := oM30) (b := b8) (argsL := [(.int (1 : Int32))]) (rest := []) (oT 91 rfl) (oT 92 rfl) (nfs K (oT 94 rfl)) (oT 94 rfl) (oT 93 rfl) (oT 95 rfl) (oT 33 rfl) (by decide) (m_hash1 l Z a0 hw n0 h37 b8 ch ck en (((([] : List Int32) ++ (List.take u0 [x0, x1, x2, x3, x4])) ++ (List.take u1 [yy0, yy1, yy2, yy3, yy4])) ++ (List.take u0 [x0, x1, x2, x3, x4])) (List.take u0 [x0, x1, x2, x3, x4]) (List.take u1 [yy0, yy1, yy2, yy3, yy4]) (List.take u0 [x0, x1, x2, x3, x4]) (Int64.ofNat (([] : List Int32) ++ (List.take u0 [x0, x1, x2, x3, x4])).length) (Int64.ofNat ((([] : List Int32) ++ (List.take u0 [x0, x1, x2, x3, x4])) ++ (List.take u1 [yy0, yy1, yy2, yy3, yy4])).length) (Int64.ofNat (((([] : List Int32) ++ (List.take u0 [x0, x1, x2, x3, x4])) ++ (List.take u1 [yy0, yy1, yy2, yy3, yy4])) ++ (List.take u0 [x0, x1, x2, x3, x4])).length) f40 QC39 (by simp only [List.nil_append, List.append_nil, List.append_assoc]) (own_l15 hu0 hu1) (congrArg Int64.ofNat (by simp only [List.nil_append, List.length_append, Nat.add_zero])) (congrArg Int64.ofNat (by simp only [List.nil_append, List.length_append, List.length_nil, Nat.zero_add])) hch1) QC39.1 (by decide) (by decide) rfl (lenOf pd_0 rfl) rfl (oL rfl) at_204 rfl (by decide) (by decide) r) (by rintro _ _ ⟨rfl, rfl⟩; exact own_kp0) ?_
  rintro _ _ ⟨rfl, rfl⟩
  show RnS w l _ n0 _ Z EL1 [b8] 207 #[.val (.int p1), .val (.int p2), .val (.int p3), .val (.int p4), .val (.int p5), .val (.int p6), .val (.int (Int32.ofNat u0)), .val (.int (Int32.ofNat u1)), .val (.int x0), .val (.int x1), .val (.int x2), .val (.int x3), .val (.int x4), .val (.int yy0), .val (.int yy1), .val (.int yy2), .val (.int yy3), .val (.int yy4), .val (.ref s0), .val (.ref s1), .val (.int (hsh (List.take u0 [x0, x1, x2, x3, x4]))), .val (.int (hsh (List.take u1 [yy0, yy1, yy2, yy3, yy4]))), .val (.ref b8)] [(.int (hsh (List.take u1 [yy0, yy1, yy2, yy3, yy4])))] h37 21 340
  refine RnS.lift (fun vm0 hs r => have K := K.on hs; Rn.iload K (q := 209) at_207 rfl rfl r) ?_
  refine RnS.lift (fun vm0 hs r => have K := K.on hs; Rn.icN K (q := 212) at_209 (XT.ii_ne_f rfl) rfl r) ?_
  refine RnS.lift (fun vm0 hs r => have K := K.on hs; Rn.aload K (q := 214) at_212 rfl rfl rfl r) ?_
  refine RnS.lift (fun vm0 hs r => have K := K.on hs; Rn.iconst K (q := 215) (2 : Int32) at_214 rfl rfl r) ?_
  refine RnS.liftC (fun vm0 hs r => have K := K.on hs; Rn.virt K (q := 218) (W := 0) (y := oM30) (z := oM30) (b := b8) (argsL := [(.int (2 : Int32))]) (rest := []) (oT 91 rfl) (oT 92 rfl) (nfs K (oT 94 rfl)) (oT 94 rfl) (oT 93 rfl) (oT 95 rfl) (oT 33 rfl) (by decide) (m_hash2 l Z a0 hw n0 h37 b8 ch ck en (((([] : List Int32) ++ (List.take u0 [x0, x1, x2, x3, x4])) ++ (List.take u1 [yy0, yy1, yy2, yy3, yy4])) ++ (List.take u0 [x0, x1, x2, x3, x4])) ((List.take u0 [x0, x1, x2, x3, x4]) ++ (List.take u1 [yy0, yy1, yy2, yy3, yy4])) (List.take u0 [x0, x1, x2, x3, x4]) [] (Int64.ofNat (([] : List Int32) ++ (List.take u0 [x0, x1, x2, x3, x4])).length) (Int64.ofNat ((([] : List Int32) ++ (List.take u0 [x0, x1, x2, x3, x4])) ++ (List.take u1 [yy0, yy1, yy2, yy3, yy4])).length) (Int64.ofNat (((([] : List Int32) ++ (List.take u0 [x0, x1, x2, x3, x4])) ++ (List.take u1 [yy0, yy1, yy2, yy3, yy4])) ++ (List.take u0 [x0, x1, x2, x3, x4])).length) f40 QC39 (by simp only [List.nil_append, List.append_nil, List.append_assoc]) (own_l15 hu0 hu1) (congrArg Int64.ofNat (by simp only [List.nil_append, List.length_append, Nat.add_zero])) (congrArg Int64.ofNat (by simp only [List.nil_append, List.length_append, List.length_nil, Nat.zero_add])) hch0) QC39.1 (by decide) (by decide) rfl (lenOf pd_0 rfl) rfl (oL rfl) at_215 rfl (by decide) (by decide) r) (by rintro _ _ ⟨rfl, rfl⟩; exact own_kp0) ?_
  rintro _ _ ⟨rfl, rfl⟩
  show RnS w l _ n0 _ Z EL1 [b8] 218 #[.val (.int p1), .val (.int p2), .val (.int p3), .val (.int p4), .val (.int p5), .val (.int p6), .val (.int (Int32.ofNat u0)), .val (.int (Int32.ofNat u1)), .val (.int x0), .val (.int x1), .val (.int x2), .val (.int x3), .val (.int x4), .val (.int yy0), .val (.int yy1), .val (.int yy2), .val (.int yy3), .val (.int yy4), .val (.ref s0), .val (.ref s1), .val (.int (hsh (List.take u0 [x0, x1, x2, x3, x4]))), .val (.int (hsh (List.take u1 [yy0, yy1, yy2, yy3, yy4]))), .val (.ref b8)] [(.int (hsh (List.take u0 [x0, x1, x2, x3, x4])))] h37 21 340
  refine RnS.lift (fun vm0 hs r => have K := K.on hs; Rn.iload K (q := 220) at_218 rfl rfl r) ?_
  refine RnS.lift (fun vm0 hs r => have K := K.on hs; Rn.icN K (q := 223) at_220 (XT.ii_ne_f rfl) rfl r) ?_
  refine RnS.lift (fun vm0 hs r => have K := K.on hs; Rn.iconst K (q := 224) (1 : Int32) at_223 rfl rfl r) ?_
  refine RnS.lift (fun vm0 hs r => have K := K.on hs; Rn.goto K (q := 228) at_224 (by decide) (by decide) r) ?_
  exact RnS.retN K hEL .boolean rfl (by simp) at_228 (by decide) (by decide) rfl
end OwnWalks
set_option maxRecDepth 65536 in
set_option maxHeartbeats 40000000 in
theorem comes_1 {Post : Tables → Env → Array Value → State → Outcome → State → Prop} (hpost : ∀ tb e args s v u, (limb_1_1.after args s (.returned v) u = true ∧ limb_1_2.after args s (.returned v) u = true ∧ True) → ReturnedEndW s (.returned v) u (Jvm.fieldLocs frame_1_writes args s ++ Jvm.arrayLocs frame_1_arrays args s ++ Jvm.staticLocs frame_1_statics s) 40 1792 → Post tb e args s (.returned v) u) :
    ArmFor flags0 classFile x code maxLocals ret World_1 tables_1 room_1 Calls_1 rest_1 Pre_1 Post := by
  intro l hfl _ _ p e ha hc hk s m args below hf hA hF happ hP
  obtain ⟨hcalls, hrest, hpre⟩ := hP
  obtain ⟨-, -, -, hnamed, -, -, -, hat⟩ := (Spec.applies_iff hf).mp happ
  obtain ⟨hg, hn⟩ := and_e (Cond.before_iff.mp (show (Jvm.Cond.and given_1 narrow_1).before args s = true from hpre))
  obtain ⟨hcnt, hgs0⟩ := and_e hg
  obtain ⟨ga0, hgs1⟩ := and_e hgs0
  obtain ⟨ga1, hgs2⟩ := and_e hgs1
  obtain ⟨ga2, hgs3⟩ := and_e hgs2
  obtain ⟨ga3, hgs4⟩ := and_e hgs3
  obtain ⟨ga4, hgs5⟩ := and_e hgs4
  obtain ⟨w0, w1, w2, w3, w4, w5, rfl⟩ : ∃ w0 w1 w2 w3 w4 w5 : Value, args = #[w0, w1, w2, w3, w4, w5] := by
    have hs : args.size = 6 := by simpa [Cond.value, given_1] using hcnt
    obtain ⟨L⟩ := args
    match L, hs with
    | [w0, w1, w2, w3, w4, w5], _ => exact ⟨w0, w1, w2, w3, w4, w5, rfl⟩
  have hw := fun d (hd : d ∈ tables_1) => atoms_spec (ws := Jvm.Cond.code x code maxLocals ret :: tables_1) hat d (List.mem_cons_of_mem _ hd)
  have hfit : Fit s := fun {y c} hc i hi => by
    obtain ⟨ha, rfl⟩ := Array.getElem?_eq_some_iff.mp hc
    have q := List.all_eq_true.mp ((Array.all_eq_true_iff_forall_mem.mp hF) _ (Array.getElem_mem ha)) i (List.mem_range.mpr hi)
    simpa [Array.getElem?_eq_getElem hi] using q
  obtain ⟨hsets, hown0⟩ := atoms_of _ (rest_1_c_eq ▸ (show rest_1_c.before _ s = true from hrest))
  have hr0 := Cond.before_iff.mp hown0
  obtain ⟨i0, ei0⟩ := is_v ga0
  obtain rfl : w0 = (.int i0) := Option.some.inj ei0
  obtain ⟨i1, ei1⟩ := is_v ga1
  obtain rfl : w1 = (.int i1) := Option.some.inj ei1
  obtain ⟨i2, ei2⟩ := is_v ga2
  obtain rfl : w2 = (.int i2) := Option.some.inj ei2
  obtain ⟨i3, ei3⟩ := is_v ga3
  obtain rfl : w3 = (.int i3) := Option.some.inj ei3
  obtain ⟨i4, ei4⟩ := is_v ga4
  obtain rfl : w4 = (.int i4) := Option.some.inj ei4
  obtain ⟨i5, ei5⟩ := is_v hgs5
  obtain rfl : w5 = (.int i5) := Option.some.inj ei5
  obtain ⟨cst, vC⟩ := is_v (Cond.before_iff.mp (hsets _ (List.mem_of_getElem? (i := 1) rfl)))
  have SC := Sta.start vC (Or.inl (hsets _ (List.mem_of_getElem? (i := 0) rfl)))
  have hcs : ¬ cst = 0 := own_ne0 vC (Cond.before_iff.mp (hsets _ (List.mem_of_getElem? (i := 2) rfl)))
  obtain ⟨fv, vF, hfv⟩ := own_isRef (Cond.before_iff.mp (hsets _ (List.mem_of_getElem? (i := 8) rfl)))
  have SQ := Sta.start vF (Or.inl (hsets _ (List.mem_of_getElem? (i := 7) rfl)))
  have SA := Sta.start (own_eqI (Cond.before_iff.mp (hsets _ (List.mem_of_getElem? (i := 12) rfl)))) (Or.inl (hsets _ (List.mem_of_getElem? (i := 11) rfl)))
  have SH := Sta.start (own_eqI (Cond.before_iff.mp (hsets _ (List.mem_of_getElem? (i := 15) rfl)))) (Or.inl (hsets _ (List.mem_of_getElem? (i := 14) rfl)))
  have SW := Sta.start (own_eqI (Cond.before_iff.mp (hsets _ (List.mem_of_getElem? (i := 18) rfl)))) (Or.inl (hsets _ (List.mem_of_getElem? (i := 17) rfl)))
  obtain ⟨n, o, h1, h2, h3, _, L, rfl, ⟨N, rfl⟩, -, hq⟩ := m_law l s _ hw s.heap.size s.heap i0 i1 i2 i3 i4 i5 fv hfv cst (Old.start s) SC hcs SQ SA SH SW p e ha hc hk s m _ below hf ((Spec.applies_iff_loose hf).mp happ).1 ⟨rfl, State.Warmed39.refl s, rfl, CHv.start (own_EW hw) hcalls.1 (Cond.before_iff.mpr (Cond.before_iff.mp (hsets _ (List.mem_of_getElem? (i := 2) rfl)))) (hw _ (List.mem_of_getElem? (i := 21) rfl)) (hw _ (List.mem_of_getElem? (i := 7) rfl)), fun _ hx => by cases hx⟩ trivial
  refine ⟨n, _, h1, h2, h3, hpost _ _ _ _ _ _ ⟨Cond.after_iff.mpr rfl, Cond.after_iff.mpr (eq_i res_at (Term.int_eval (1)) rfl), trivial⟩ ⟨hq.1, hq.2.1, hq.2.2.1, (hq.2.2.2.sift fun y hy => Or.inr (N y hy)).mono (by decide) (by decide)⟩⟩
theorem main_1_1 : Claimed_1_1 := comes_1 fun _ _ _ _ _ _ h hF => ⟨h.1, hF⟩
theorem main_1_2 : Claimed_1_2 := comes_1 fun _ _ _ _ _ _ h hF => ⟨h.2.1, hF⟩
end Jvm.Pilot.@@N@@
namespace Jvm.Pilot.@@N@@
open Jvm Jvm.ClassFile Sem Op Lib Jvm.Free Jvm.Stand Jvm.Pilot.@@N@@.Jvm.D
/-! MADE BY PROGRAM (witnessworld.py) out of the Statement's table words and the real class files: 24 classes; the members and pool entries that the words name. The judged class is class 1, her method 1. -/
namespace start1
open Jvm.ClassFile
def u (s : String) : CpInfo := .utf8 (stringToUtf16 s)
/-- a pool by its gaps: so many unusable entries, then the entry; so many at the end -/
def gap : Nat → List CpInfo → List CpInfo
  | 0, r => r
  | n + 1, r => .unusable :: gap n r
def poolList (es : List (Nat × CpInfo)) (last : Nat) : List CpInfo := es.foldr (fun e r => gap e.1 (e.2 :: r)) (gap last [])
def pool (es : List (Nat × CpInfo)) (last : Nat) : Array CpInfo := ⟨poolList es last⟩
def fileOf (pool : Array CpInfo) (this : Nat) (attrs : Array Attribute := #[]) (ms : Array MethodInfo := #[]) (fl : Nat := 33) (sup : Nat := 0) (ifs : Array Nat := #[]) (fds : Array FieldInfo := #[]) : ClassFile where
  minorVersion := 0
  majorVersion := 65
  constantPool := pool
  accessFlags := fl
  thisClass := this
  superClass := sup
  interfaces := ifs
  fields := fds
  methods := ms
  attributes := attrs
def plain (name : String) (sup : Option ClassId) : Class where
  name := name
  kind := .ordinary
  loader := none
  accessFlags := 33
  super := sup
  interfaces := #[]
  cf := none
  fields := #[]
  methods := #[]
  instanceTypes := #[]
  staticTypes := #[]
  resolved := #[]
  callSites := []
  init := .initialized
  statics := none
  mirror := none

def pool0 : Array CpInfo := pool [(5, u "<init>"), (0, u "()V"), (1, .class_ 10), (1, u "java/lang/Object")] 113

def k0c0 : Code := { maxStack := 0, maxLocals := 1, code := object_method_1_code, exceptionTable := #[], attributes := #[] }
def k0m0 : Method := { name := "<init>", desc := "()V", sig := { parameters := [], returnType := none }, accessFlags := 1, code := some k0c0 }
/-- java/lang/Object -/
def k0 : Class := { plain "java/lang/Object" none with
  accessFlags := 33
  interfaces := #[]
  cf := some (fileOf pool0 8 #[] #[{ accessFlags := 1, nameIndex := 5, descriptorIndex := 6, attributes := #[] }] 33 0 #[] #[])
  fields := #[]
  methods := #[k0m0]
  instanceTypes := #[]
  staticTypes := #[]
  resolved := Array.replicate 124 none
  statics := none }

def pool1 : Array CpInfo := pool [(2, .class_ 4), (0, .nameAndType 5 6), (0, u "java/lang/Object"), (0, u "<init>"), (0, u "()V"), (0, .integer 2147483647), (0, .integer 65535), (0, .methodref 10 11), (0, .class_ 12), (0, .nameAndType 13 14), (0, u "com/example/spanmask/spanmask/ledger/TextColumnHashPinLaw"), (0, u "make"), (0, u "(ICCCCC)Ljava/lang/String;"), (0, .methodref 10 16), (0, .nameAndType 17 18), (0, u "ref"), (0, u "(ICCCCC)I"), (0, .class_ 20), (0, u "com/example/spanmask/spanmask/ledger/TextColumn"), (0, .methodref 19 3), (0, .methodref 19 23), (0, .nameAndType 24 25), (0, u "add"), (0, u "(Ljava/lang/String;)V"), (0, .methodref 19 27), (0, .nameAndType 28 29), (0, u "hash"), (0, u "(I)I"), (0, .class_ 31), (0, u "java/lang/String"), (0, .methodref 30 33), (0, .nameAndType 5 34), (0, u "([C)V"), (2, u "law"), (0, u "(IIIIII)Z")] 3

def k1m0 : Method := { name := "<init>", desc := "()V", sig := { parameters := [], returnType := none }, accessFlags := 1, code := none }
def k1c1 : Code := { maxStack := 6, maxLocals := 23, code := code, exceptionTable := #[], attributes := #[] }
def k1m1 : Method := { name := "law", desc := "(IIIIII)Z", sig := { parameters := [.int, .int, .int, .int, .int, .int], returnType := some .boolean }, accessFlags := 9, code := some k1c1 }
def k1c2 : Code := { maxStack := 6, maxLocals := 6, code := method_3_code, exceptionTable := #[], attributes := #[] }
def k1m2 : Method := { name := "make", desc := "(ICCCCC)Ljava/lang/String;", sig := { parameters := [.int, .char, .char, .char, .char, .char], returnType := some (.object "java/lang/String") }, accessFlags := 10, code := some k1c2 }
def k1c3 : Code := { maxStack := 2, maxLocals := 7, code := method_4_code, exceptionTable := #[], attributes := #[] }
def k1m3 : Method := { name := "ref", desc := "(ICCCCC)I", sig := { parameters := [.int, .char, .char, .char, .char, .char], returnType := some .int }, accessFlags := 10, code := some k1c3 }
/-- com/example/spanmask/spanmask/ledger/TextColumnHashPinLaw -/
def k1 : Class := { plain "com/example/spanmask/spanmask/ledger/TextColumnHashPinLaw" (some 0) with
  accessFlags := 49
  interfaces := #[]
  cf := some (fileOf pool1 10 #[] #[{ accessFlags := 1, nameIndex := 5, descriptorIndex := 6, attributes := #[] }, { accessFlags := 9, nameIndex := 37, descriptorIndex := 38, attributes := #[] }, { accessFlags := 10, nameIndex := 13, descriptorIndex := 14, attributes := #[] }, { accessFlags := 10, nameIndex := 17, descriptorIndex := 18, attributes := #[] }] 49 2 #[] #[])
  fields := #[]
  methods := #[k1m0, k1m1, k1m2, k1m3]
  instanceTypes := #[]
  staticTypes := #[]
  resolved := Array.replicate 42 none
  statics := none }

def pool2 : Array CpInfo := pool [(1, .class_ 2), (0, u "java/io/Serializable"), (0, .class_ 4), (0, u "java/lang/Object")] 2

/-- java/io/Serializable -/
def k2 : Class := { plain "java/io/Serializable" (some 0) with
  accessFlags := 1537
  interfaces := #[]
  cf := some (fileOf pool2 1 #[] #[] 1537 3 #[] #[])
  fields := #[]
  methods := #[]
  instanceTypes := #[]
  staticTypes := #[]
  resolved := Array.replicate 7 none
  statics := none }

def pool3 : Array CpInfo := pool [(1, .class_ 2), (0, u "java/lang/Comparable"), (0, .class_ 4), (0, u "java/lang/Object")] 7

/-- java/lang/Comparable -/
def k3 : Class := { plain "java/lang/Comparable" (some 0) with
  accessFlags := 1537
  interfaces := #[]
  cf := some (fileOf pool3 1 #[] #[] 1537 3 #[] #[])
  fields := #[]
  methods := #[]
  instanceTypes := #[]
  staticTypes := #[]
  resolved := Array.replicate 12 none
  statics := none }

def pool4 : Array CpInfo := pool [(2, .class_ 4), (1, u "java/lang/CharSequence"), (42, .class_ 48), (0, u "java/lang/CharSequence$1CodePointIterator"), (10, .class_ 60), (0, u "java/lang/CharSequence$1CharIterator"), (5, .class_ 67), (0, u "java/lang/Object")] 63

/-- java/lang/CharSequence -/
def k4 : Class := { plain "java/lang/CharSequence" (some 0) with
  accessFlags := 1537
  interfaces := #[]
  cf := some (fileOf pool4 2 #[.nestMembers #[47, 59]] #[] 1537 66 #[] #[])
  fields := #[]
  methods := #[]
  instanceTypes := #[]
  staticTypes := #[]
  resolved := Array.replicate 131 none
  statics := none }

def pool5 : Array CpInfo := pool [(1, .class_ 2), (0, u "java/lang/constant/Constable"), (0, .class_ 4), (0, u "java/lang/Object")] 6

/-- java/lang/constant/Constable -/
def k5 : Class := { plain "java/lang/constant/Constable" (some 0) with
  accessFlags := 1537
  interfaces := #[]
  cf := some (fileOf pool5 1 #[] #[] 1537 3 #[] #[])
  fields := #[]
  methods := #[]
  instanceTypes := #[]
  staticTypes := #[]
  resolved := Array.replicate 11 none
  statics := none }

def pool6 : Array CpInfo := pool [(1, .class_ 2), (0, u "java/lang/constant/ConstantDesc"), (0, .class_ 4), (0, u "java/lang/Object")] 32

/-- java/lang/constant/ConstantDesc -/
def k6 : Class := { plain "java/lang/constant/ConstantDesc" (some 0) with
  accessFlags := 1537
  interfaces := #[]
  cf := some (fileOf pool6 1 #[] #[] 1537 3 #[] #[])
  fields := #[]
  methods := #[]
  instanceTypes := #[]
  staticTypes := #[]
  resolved := Array.replicate 37 none
  statics := none }

def pool7 : Array CpInfo := pool [(1, .methodref 2 3), (0, .class_ 4), (0, .nameAndType 5 6), (0, u "java/lang/Object"), (0, u "<init>"), (0, u "()V"), (0, .string 8), (0, u ""), (0, .fieldref 10 11), (0, .class_ 12), (0, .nameAndType 13 14), (0, u "java/lang/String"), (0, u "value"), (0, u "[B"), (0, .fieldref 10 16), (0, .nameAndType 17 18), (0, u "coder"), (0, u "B"), (2, u "hash"), (0, u "I"), (2, u "hashIsZero"), (0, u "Z"), (0, .methodref 10 28), (0, .nameAndType 5 29), (0, u "([CIILjava/lang/Void;)V"), (6, u "checkBoundsOffCount"), (0, u "(III)I"), (0, .fieldref 10 39), (0, .nameAndType 40 26), (0, u "COMPACT_STRINGS"), (1, .class_ 44), (1, u "java/lang/StringUTF16"), (0, u "compress"), (1, .methodref 42 48), (0, .nameAndType 49 50), (0, u "coderFromArrayLen"), (0, u "([BI)B"), (56, .class_ 109), (1, u "java/lang/StringLatin1"), (32, u "()Z"), (34, .methodref 42 178), (0, .nameAndType 45 179), (0, u "([CII)[B"), (119, .methodref 107 300), (0, .nameAndType 301 302), (0, u "toChars"), (0, u "([B)[C"), (0, .methodref 42 300), (30, u "()I"), (0, .methodref 10 336), (0, .nameAndType 17 337), (0, u "()B"), (154, .methodref 10 493), (0, .nameAndType 494 142), (0, u "isLatin1"), (12, u "length"), (67, .class_ 576), (0, u "java/lang/CharSequence"), (22, u "CASE_INSENSITIVE_ORDER"), (0, u "Ljava/util/Comparator;"), (354, u "toCharArray"), (0, u "()[C"), (53, u "([C)V"), (42, .fieldref 1054 1055), (0, .class_ 1056), (0, .nameAndType 1057 1058), (0, u "jdk/internal/util/Preconditions"), (0, u "SIOOBE_FORMATTER"), (0, u "Ljava/util/function/BiFunction;"), (5, u "(IIILjava/util/function/BiFunction;)I"), (0, .methodref 1054 1066), (0, .nameAndType 1067 1064), (0, u "checkFromIndexSize"), (33, u "serialPersistentFields"), (0, u "[Ljava/io/ObjectStreamField;"), (0, .class_ 1104), (0, u "java/lang/String$CaseInsensitiveComparator"), (1, .class_ 1107), (0, u "java/io/Serializable"), (0, .class_ 1109), (0, u "java/lang/Comparable"), (0, .class_ 1111), (0, u "java/lang/constant/Constable"), (0, .class_ 1113), (0, u "java/lang/constant/ConstantDesc"), (2, u "serialVersionUID"), (0, u "J"), (3, u "REPL"), (0, u "C"), (2, u "LATIN1"), (1, u "UTF16")] 323

def k7m0 : Method := { name := "<init>", desc := "()V", sig := { parameters := [], returnType := none }, accessFlags := 1, code := none }
def k7c1 : Code := { maxStack := 5, maxLocals := 2, code := jdk_42_method_3_code, exceptionTable := #[], attributes := #[] }
def k7m1 : Method := { name := "<init>", desc := "([C)V", sig := { parameters := [(.array .char)], returnType := none }, accessFlags := 1, code := some k7c1 }
def k7c2 : Code := { maxStack := 2, maxLocals := 1, code := jdk_42_method_54_code, exceptionTable := #[], attributes := #[] }
def k7m2 : Method := { name := "length", desc := "()I", sig := { parameters := [], returnType := some .int }, accessFlags := 1, code := some k7c2 }
def k7c3 : Code := { maxStack := 1, maxLocals := 1, code := jdk_42_method_129_code, exceptionTable := #[], attributes := #[] }
def k7m3 : Method := { name := "toCharArray", desc := "()[C", sig := { parameters := [], returnType := some (.array .char) }, accessFlags := 1, code := some k7c3 }
def k7c4 : Code := { maxStack := 4, maxLocals := 6, code := jdk_42_method_149_code, exceptionTable := #[], attributes := #[] }
def k7m4 : Method := { name := "<init>", desc := "([CIILjava/lang/Void;)V", sig := { parameters := [(.array .char), .int, .int, (.object "java/lang/Void")], returnType := none }, accessFlags := 2, code := some k7c4 }
def k7c5 : Code := { maxStack := 1, maxLocals := 1, code := jdk_42_method_152_code, exceptionTable := #[], attributes := #[] }
def k7m5 : Method := { name := "coder", desc := "()B", sig := { parameters := [], returnType := some .byte }, accessFlags := 0, code := some k7c5 }
def k7c6 : Code := { maxStack := 1, maxLocals := 1, code := jdk_42_method_154_code, exceptionTable := #[], attributes := #[] }
def k7m6 : Method := { name := "isLatin1", desc := "()Z", sig := { parameters := [], returnType := some .boolean }, accessFlags := 0, code := some k7c6 }
def k7c7 : Code := { maxStack := 4, maxLocals := 3, code := jdk_42_method_157_code, exceptionTable := #[], attributes := #[] }
def k7m7 : Method := { name := "checkBoundsOffCount", desc := "(III)I", sig := { parameters := [.int, .int, .int], returnType := some .int }, accessFlags := 8, code := some k7c7 }
/-- java/lang/String -/
def k7 : Class := { plain "java/lang/String" (some 0) with
  accessFlags := 49
  interfaces := #[2, 3, 4, 5, 6]
  cf := some (fileOf pool7 10 #[.nestMembers #[1103]] #[{ accessFlags := 1, nameIndex := 5, descriptorIndex := 6, attributes := #[] }, { accessFlags := 1, nameIndex := 5, descriptorIndex := 1010, attributes := #[] }, { accessFlags := 1, nameIndex := 507, descriptorIndex := 334, attributes := #[] }, { accessFlags := 1, nameIndex := 955, descriptorIndex := 956, attributes := #[] }, { accessFlags := 2, nameIndex := 5, descriptorIndex := 29, attributes := #[] }, { accessFlags := 0, nameIndex := 17, descriptorIndex := 337, attributes := #[] }, { accessFlags := 0, nameIndex := 494, descriptorIndex := 142, attributes := #[] }, { accessFlags := 8, nameIndex := 36, descriptorIndex := 37, attributes := #[] }] 49 2 #[1106, 1108, 575, 1110, 1112] #[{ accessFlags := 18, nameIndex := 13, descriptorIndex := 14, attributes := #[] }, { accessFlags := 18, nameIndex := 17, descriptorIndex := 18, attributes := #[] }, { accessFlags := 2, nameIndex := 21, descriptorIndex := 22, attributes := #[] }, { accessFlags := 2, nameIndex := 25, descriptorIndex := 26, attributes := #[] }, { accessFlags := 26, nameIndex := 1116, descriptorIndex := 1117, attributes := #[] }, { accessFlags := 24, nameIndex := 40, descriptorIndex := 26, attributes := #[] }, { accessFlags := 26, nameIndex := 1101, descriptorIndex := 1102, attributes := #[] }, { accessFlags := 26, nameIndex := 1121, descriptorIndex := 1122, attributes := #[] }, { accessFlags := 25, nameIndex := 599, descriptorIndex := 600, attributes := #[] }, { accessFlags := 24, nameIndex := 1125, descriptorIndex := 18, attributes := #[] }, { accessFlags := 24, nameIndex := 1127, descriptorIndex := 18, attributes := #[] }])
  fields := #[{ name := "value", type := (.array .byte), accessFlags := 18, slot := 0, constantValue := 0 }, { name := "coder", type := .byte, accessFlags := 18, slot := 1, constantValue := 0 }, { name := "hash", type := .int, accessFlags := 2, slot := 2, constantValue := 0 }, { name := "hashIsZero", type := .boolean, accessFlags := 2, slot := 3, constantValue := 0 }, { name := "serialVersionUID", type := .long, accessFlags := 26, slot := 0, constantValue := 0 }, { name := "COMPACT_STRINGS", type := .boolean, accessFlags := 24, slot := 1, constantValue := 0 }, { name := "serialPersistentFields", type := (.array (.object "java/io/ObjectStreamField")), accessFlags := 26, slot := 2, constantValue := 0 }, { name := "REPL", type := .char, accessFlags := 26, slot := 3, constantValue := 0 }, { name := "CASE_INSENSITIVE_ORDER", type := (.object "java/util/Comparator"), accessFlags := 25, slot := 4, constantValue := 0 }, { name := "LATIN1", type := .byte, accessFlags := 24, slot := 5, constantValue := 0 }, { name := "UTF16", type := .byte, accessFlags := 24, slot := 6, constantValue := 0 }]
  methods := #[k7m0, k7m1, k7m2, k7m3, k7m4, k7m5, k7m6, k7m7]
  instanceTypes := #[(.array .byte), .byte, .int, .boolean]
  staticTypes := #[.long, .boolean, (.array (.object "java/io/ObjectStreamField")), .char, (.object "java/util/Comparator"), .byte, .byte]
  resolved := Array.replicate 1451 none
  statics := some 0 }

def pool8 : Array CpInfo := pool [(1, .class_ 2), (0, u "com/example/spanmask/spanmask/ledger/TextColumn"), (0, .methodref 4 5), (0, .class_ 6), (0, .nameAndType 7 8), (0, u "java/lang/Object"), (0, u "<init>"), (0, u "()V"), (0, .class_ 10), (0, u "[C"), (0, .fieldref 1 12), (0, .nameAndType 13 14), (0, u "chunks"), (0, u "[[C"), (0, .fieldref 1 16), (0, .nameAndType 17 18), (0, u "ends"), (0, u "[J"), (0, .methodref 20 21), (0, .class_ 22), (0, .nameAndType 23 24), (0, u "java/lang/String"), (0, u "toCharArray"), (0, u "()[C"), (0, .methodref 20 26), (0, .nameAndType 27 28), (0, u "length"), (0, u "()I"), (0, .methodref 1 30), (0, .nameAndType 31 32), (0, u "append"), (0, u "([CII)V"), (0, .methodref 1 34), (0, .nameAndType 35 8), (0, u "end"), (15, .fieldref 1 52), (0, .nameAndType 27 53), (0, u "J"), (0, .fieldref 1 55), (0, .nameAndType 56 57), (0, u "size"), (0, u "I"), (9, .methodref 1 68), (0, .nameAndType 69 70), (0, u "start"), (0, u "(I)J"), (0, .long 4194303), (20, .methodref 1 93), (0, .nameAndType 94 95), (0, u "charAt"), (0, u "(J)C"), (1, .class_ 99), (1, u "java/lang/Math"), (0, u "min"), (8, .class_ 111), (1, u "com/example/spanmask/spanmask/ledger/TextColumn$Pieces"), (0, .methodref 1 113), (0, .nameAndType 114 24), (0, u "room"), (0, .methodref 97 116), (0, .nameAndType 100 117), (0, u "(II)I"), (0, .methodref 119 120), (0, .class_ 121), (0, .nameAndType 122 123), (0, u "java/lang/System"), (0, u "arraycopy"), (0, u "(Ljava/lang/Object;ILjava/lang/Object;II)V"), (7, u "CHUNK_SHIFT"), (2, u "CHUNK_CHARS"), (0, u "FIRST_CHARS"), (3, u "add"), (0, u "(Ljava/lang/String;)V"), (8, u "hash"), (0, u "(I)I")] 24

def k8c0 : Code := { maxStack := 5, maxLocals := 1, code := prog_49_method_1_code, exceptionTable := #[], attributes := #[] }
def k8m0 : Method := { name := "<init>", desc := "()V", sig := { parameters := [], returnType := none }, accessFlags := 0, code := some k8c0 }
def k8c1 : Code := { maxStack := 4, maxLocals := 2, code := prog_49_method_2_code, exceptionTable := #[], attributes := #[] }
def k8m1 : Method := { name := "add", desc := "(Ljava/lang/String;)V", sig := { parameters := [(.object "java/lang/String")], returnType := none }, accessFlags := 0, code := some k8c1 }
def k8c2 : Code := { maxStack := 4, maxLocals := 5, code := prog_49_method_6_code, exceptionTable := #[], attributes := #[] }
def k8m2 : Method := { name := "hash", desc := "(I)I", sig := { parameters := [.int], returnType := some .int }, accessFlags := 0, code := some k8c2 }
def k8c3 : Code := { maxStack := 3, maxLocals := 2, code := prog_49_method_8_code, exceptionTable := #[], attributes := #[] }
def k8m3 : Method := { name := "start", desc := "(I)J", sig := { parameters := [.int], returnType := some .long }, accessFlags := 2, code := some k8c3 }
def k8c4 : Code := { maxStack := 5, maxLocals := 3, code := prog_49_method_10_code, exceptionTable := #[], attributes := #[] }
def k8m4 : Method := { name := "charAt", desc := "(J)C", sig := { parameters := [.long], returnType := some .char }, accessFlags := 2, code := some k8c4 }
def k8c5 : Code := { maxStack := 5, maxLocals := 8, code := prog_49_method_12_code, exceptionTable := #[], attributes := #[] }
def k8m5 : Method := { name := "append", desc := "([CII)V", sig := { parameters := [(.array .char), .int, .int], returnType := none }, accessFlags := 2, code := some k8c5 }
def k8c6 : Code := { maxStack := 5, maxLocals := 1, code := prog_49_method_13_code, exceptionTable := #[], attributes := #[] }
def k8m6 : Method := { name := "end", desc := "()V", sig := { parameters := [], returnType := none }, accessFlags := 2, code := some k8c6 }
def k8c7 : Code := { maxStack := 6, maxLocals := 3, code := prog_49_method_14_code, exceptionTable := #[], attributes := #[] }
def k8m7 : Method := { name := "room", desc := "()[C", sig := { parameters := [], returnType := some (.array .char) }, accessFlags := 2, code := some k8c7 }
/-- com/example/spanmask/spanmask/ledger/TextColumn -/
def k8 : Class := { plain "com/example/spanmask/spanmask/ledger/TextColumn" (some 0) with
  accessFlags := 48
  interfaces := #[]
  cf := some (fileOf pool8 1 #[.nestMembers #[109]] #[{ accessFlags := 0, nameIndex := 7, descriptorIndex := 8, attributes := #[] }, { accessFlags := 0, nameIndex := 139, descriptorIndex := 140, attributes := #[] }, { accessFlags := 0, nameIndex := 149, descriptorIndex := 150, attributes := #[] }, { accessFlags := 2, nameIndex := 69, descriptorIndex := 70, attributes := #[] }, { accessFlags := 2, nameIndex := 94, descriptorIndex := 95, attributes := #[] }, { accessFlags := 2, nameIndex := 31, descriptorIndex := 32, attributes := #[] }, { accessFlags := 2, nameIndex := 35, descriptorIndex := 8, attributes := #[] }, { accessFlags := 2, nameIndex := 114, descriptorIndex := 24, attributes := #[] }] 48 4 #[] #[{ accessFlags := 26, nameIndex := 131, descriptorIndex := 57, attributes := #[] }, { accessFlags := 26, nameIndex := 134, descriptorIndex := 57, attributes := #[] }, { accessFlags := 26, nameIndex := 135, descriptorIndex := 57, attributes := #[] }, { accessFlags := 2, nameIndex := 13, descriptorIndex := 14, attributes := #[] }, { accessFlags := 2, nameIndex := 17, descriptorIndex := 18, attributes := #[] }, { accessFlags := 2, nameIndex := 56, descriptorIndex := 57, attributes := #[] }, { accessFlags := 2, nameIndex := 27, descriptorIndex := 53, attributes := #[] }])
  fields := #[{ name := "CHUNK_SHIFT", type := .int, accessFlags := 26, slot := 0, constantValue := 0 }, { name := "CHUNK_CHARS", type := .int, accessFlags := 26, slot := 1, constantValue := 0 }, { name := "FIRST_CHARS", type := .int, accessFlags := 26, slot := 2, constantValue := 0 }, { name := "chunks", type := (.array (.array .char)), accessFlags := 2, slot := 0, constantValue := 0 }, { name := "ends", type := (.array .long), accessFlags := 2, slot := 1, constantValue := 0 }, { name := "size", type := .int, accessFlags := 2, slot := 2, constantValue := 0 }, { name := "length", type := .long, accessFlags := 2, slot := 3, constantValue := 0 }]
  methods := #[k8m0, k8m1, k8m2, k8m3, k8m4, k8m5, k8m6, k8m7]
  instanceTypes := #[(.array (.array .char)), (.array .long), .int, .long]
  staticTypes := #[.int, .int, .int]
  resolved := Array.replicate 175 none
  statics := none }

def pool9 : Array CpInfo := pool [(4, .class_ 6), (1, u "java/lang/Object"), (0, u "<init>"), (0, u "()V"), (4, .methodref 14 15), (0, .class_ 16), (0, .nameAndType 17 18), (0, u "java/lang/StringLatin1"), (0, u "inflate"), (0, u "([BI[CII)V"), (102, u "$assertionsDisabled"), (0, u "Z"), (69, u "toChars"), (28, .class_ 223), (1, u "java/lang/StringLatin1$LinesSpliterator"), (44, u "([B)[C"), (121, .class_ 391), (0, u "java/lang/StringLatin1$CharsSpliterator")] 3

def k9m0 : Method := { name := "<init>", desc := "()V", sig := { parameters := [], returnType := none }, accessFlags := 0, code := none }
def k9c1 : Code := { maxStack := 5, maxLocals := 2, code := jdk_43_method_9_code, exceptionTable := #[], attributes := #[] }
def k9m1 : Method := { name := "toChars", desc := "([B)[C", sig := { parameters := [(.array .byte)], returnType := some (.array .char) }, accessFlags := 9, code := some k9c1 }
def k9c2 : Code := { maxStack := 4, maxLocals := 6, code := jdk_43_method_49_code, exceptionTable := #[], attributes := #[] }
def k9m2 : Method := { name := "inflate", desc := "([BI[CII)V", sig := { parameters := [(.array .byte), .int, (.array .char), .int, .int], returnType := none }, accessFlags := 9, code := some k9c2 }
/-- java/lang/StringLatin1 -/
def k9 : Class := { plain "java/lang/StringLatin1" (some 0) with
  accessFlags := 48
  interfaces := #[]
  cf := some (fileOf pool9 14 #[.nestMembers #[390, 221]] #[{ accessFlags := 0, nameIndex := 7, descriptorIndex := 8, attributes := #[] }, { accessFlags := 9, nameIndex := 192, descriptorIndex := 268, attributes := #[] }, { accessFlags := 9, nameIndex := 17, descriptorIndex := 18, attributes := #[] }] 48 4 #[] #[{ accessFlags := 4120, nameIndex := 121, descriptorIndex := 122, attributes := #[] }])
  fields := #[{ name := "$assertionsDisabled", type := .boolean, accessFlags := 4120, slot := 0, constantValue := 0 }]
  methods := #[k9m0, k9m1, k9m2]
  instanceTypes := #[]
  staticTypes := #[.boolean]
  resolved := Array.replicate 395 none
  statics := none }

def pool10 : Array CpInfo := pool [(3, .class_ 4), (0, u "java/lang/String"), (1, .class_ 8), (1, u "java/lang/Object"), (0, u "<init>"), (0, u "()V"), (0, .methodref 12 13), (0, .class_ 14), (0, .nameAndType 15 16), (0, u "java/lang/StringUTF16"), (0, u "newBytesLength"), (0, u "(I)I"), (3, .integer 1073741823), (23, .fieldref 12 45), (0, .nameAndType 46 47), (0, u "$assertionsDisabled"), (0, u "Z"), (0, .methodref 12 49), (0, .nameAndType 50 51), (0, u "length"), (0, u "([B)I"), (7, .fieldref 12 60), (0, .nameAndType 61 62), (0, u "HI_BYTE_SHIFT"), (0, u "I"), (0, .fieldref 12 64), (0, .nameAndType 65 62), (0, u "LO_BYTE_SHIFT"), (5, .methodref 12 72), (0, .nameAndType 73 74), (0, u "getChar"), (0, u "([BI)C"), (24, u "(II[B)V"), (3, .methodref 12 104), (0, .nameAndType 105 106), (0, u "getChars"), (0, u "([BII[CI)V"), (0, .methodref 12 108), (0, .nameAndType 109 110), (0, u "newBytesFor"), (0, u "(I)[B"), (0, .methodref 12 112), (0, .nameAndType 113 114), (0, u "putChar"), (0, u "([BII)V"), (0, .methodref 12 116), (0, .nameAndType 117 118), (0, u "compress"), (0, u "([CI[BII)I"), (0, .methodref 12 120), (0, .nameAndType 121 122), (0, u "toBytes"), (0, u "([CII)[B"), (50, .methodref 12 174), (0, .nameAndType 175 99), (0, u "checkBoundsOffCount"), (85, u "coderFromArrayLen"), (0, u "([BI)B"), (18, u "(III)I"), (60, u "toChars"), (26, .class_ 371), (1, u "java/lang/StringUTF16$LinesSpliterator"), (47, .methodref 3 420), (0, .nameAndType 175 281), (9, u "MAX_LENGTH"), (23, u "([B)[C"), (172, .class_ 628), (0, u "java/lang/StringUTF16$CodePointsSpliterator"), (0, .class_ 630), (0, u "java/lang/StringUTF16$CharsSpliterator")] 4

def k10m0 : Method := { name := "<init>", desc := "()V", sig := { parameters := [], returnType := none }, accessFlags := 0, code := none }
def k10c1 : Code := { maxStack := 1, maxLocals := 1, code := jdk_52_method_2_code, exceptionTable := #[], attributes := #[] }
def k10m1 : Method := { name := "newBytesFor", desc := "(I)[B", sig := { parameters := [.int], returnType := some (.array .byte) }, accessFlags := 9, code := some k10c1 }
def k10c2 : Code := { maxStack := 4, maxLocals := 1, code := jdk_52_method_3_code, exceptionTable := #[], attributes := #[] }
def k10m2 : Method := { name := "newBytesLength", desc := "(I)I", sig := { parameters := [.int], returnType := some .int }, accessFlags := 9, code := some k10c2 }
def k10c3 : Code := { maxStack := 4, maxLocals := 3, code := jdk_52_method_4_code, exceptionTable := #[], attributes := #[] }
def k10m3 : Method := { name := "putChar", desc := "([BII)V", sig := { parameters := [(.array .byte), .int, .int], returnType := none }, accessFlags := 8, code := some k10c3 }
def k10c4 : Code := { maxStack := 3, maxLocals := 2, code := jdk_52_method_5_code, exceptionTable := #[], attributes := #[] }
def k10m4 : Method := { name := "getChar", desc := "([BI)C", sig := { parameters := [(.array .byte), .int], returnType := some .char }, accessFlags := 8, code := some k10c4 }
def k10c5 : Code := { maxStack := 2, maxLocals := 1, code := jdk_52_method_6_code, exceptionTable := #[], attributes := #[] }
def k10m5 : Method := { name := "length", desc := "([B)I", sig := { parameters := [(.array .byte)], returnType := some .int }, accessFlags := 9, code := some k10c5 }
def k10c6 : Code := { maxStack := 5, maxLocals := 2, code := jdk_52_method_13_code, exceptionTable := #[], attributes := #[] }
def k10m6 : Method := { name := "toChars", desc := "([B)[C", sig := { parameters := [(.array .byte)], returnType := some (.array .char) }, accessFlags := 9, code := some k10c6 }
def k10c7 : Code := { maxStack := 4, maxLocals := 5, code := jdk_52_method_14_code, exceptionTable := #[], attributes := #[] }
def k10m7 : Method := { name := "toBytes", desc := "([CII)[B", sig := { parameters := [(.array .char), .int, .int], returnType := some (.array .byte) }, accessFlags := 9, code := some k10c7 }
def k10c8 : Code := { maxStack := 2, maxLocals := 2, code := jdk_52_method_15_code, exceptionTable := #[], attributes := #[] }
def k10m8 : Method := { name := "coderFromArrayLen", desc := "([BI)B", sig := { parameters := [(.array .byte), .int], returnType := some .byte }, accessFlags := 8, code := some k10c8 }
def k10c9 : Code := { maxStack := 5, maxLocals := 6, code := jdk_52_method_16_code, exceptionTable := #[], attributes := #[] }
def k10m9 : Method := { name := "compress", desc := "([CII)[B", sig := { parameters := [(.array .char), .int, .int], returnType := some (.array .byte) }, accessFlags := 9, code := some k10c9 }
def k10c10 : Code := { maxStack := 3, maxLocals := 7, code := jdk_52_method_21_code, exceptionTable := #[], attributes := #[] }
def k10m10 : Method := { name := "compress", desc := "([CI[BII)I", sig := { parameters := [(.array .char), .int, (.array .byte), .int, .int], returnType := some .int }, accessFlags := 9, code := some k10c10 }
def k10c11 : Code := { maxStack := 4, maxLocals := 6, code := jdk_52_method_26_code, exceptionTable := #[], attributes := #[] }
def k10m11 : Method := { name := "getChars", desc := "([BII[CI)V", sig := { parameters := [(.array .byte), .int, .int, (.array .char), .int], returnType := none }, accessFlags := 9, code := some k10c11 }
def k10c12 : Code := { maxStack := 3, maxLocals := 3, code := jdk_52_method_94_code, exceptionTable := #[], attributes := #[] }
def k10m12 : Method := { name := "checkBoundsOffCount", desc := "(II[B)V", sig := { parameters := [.int, .int, (.array .byte)], returnType := none }, accessFlags := 9, code := some k10c12 }
/-- java/lang/StringUTF16 -/
def k10 : Class := { plain "java/lang/StringUTF16" (some 0) with
  accessFlags := 48
  interfaces := #[]
  cf := some (fileOf pool10 12 #[.nestMembers #[627, 629, 369]] #[{ accessFlags := 0, nameIndex := 9, descriptorIndex := 10, attributes := #[] }, { accessFlags := 9, nameIndex := 109, descriptorIndex := 110, attributes := #[] }, { accessFlags := 9, nameIndex := 15, descriptorIndex := 16, attributes := #[] }, { accessFlags := 8, nameIndex := 113, descriptorIndex := 114, attributes := #[] }, { accessFlags := 8, nameIndex := 73, descriptorIndex := 74, attributes := #[] }, { accessFlags := 9, nameIndex := 50, descriptorIndex := 51, attributes := #[] }, { accessFlags := 9, nameIndex := 342, descriptorIndex := 454, attributes := #[] }, { accessFlags := 9, nameIndex := 121, descriptorIndex := 122, attributes := #[] }, { accessFlags := 8, nameIndex := 261, descriptorIndex := 262, attributes := #[] }, { accessFlags := 9, nameIndex := 117, descriptorIndex := 122, attributes := #[] }, { accessFlags := 9, nameIndex := 117, descriptorIndex := 118, attributes := #[] }, { accessFlags := 9, nameIndex := 105, descriptorIndex := 106, attributes := #[] }, { accessFlags := 9, nameIndex := 175, descriptorIndex := 99, attributes := #[] }] 48 6 #[] #[{ accessFlags := 26, nameIndex := 61, descriptorIndex := 62, attributes := #[] }, { accessFlags := 26, nameIndex := 65, descriptorIndex := 62, attributes := #[] }, { accessFlags := 24, nameIndex := 430, descriptorIndex := 62, attributes := #[] }, { accessFlags := 4120, nameIndex := 46, descriptorIndex := 47, attributes := #[] }])
  fields := #[{ name := "HI_BYTE_SHIFT", type := .int, accessFlags := 26, slot := 0, constantValue := 0 }, { name := "LO_BYTE_SHIFT", type := .int, accessFlags := 26, slot := 1, constantValue := 0 }, { name := "MAX_LENGTH", type := .int, accessFlags := 24, slot := 2, constantValue := 0 }, { name := "$assertionsDisabled", type := .boolean, accessFlags := 4120, slot := 3, constantValue := 0 }]
  methods := #[k10m0, k10m1, k10m2, k10m3, k10m4, k10m5, k10m6, k10m7, k10m8, k10m9, k10m10, k10m11, k10m12]
  instanceTypes := #[]
  staticTypes := #[.int, .int, .int, .boolean]
  resolved := Array.replicate 635 none
  statics := some 1 }

def pool11 : Array CpInfo := pool [(1, .class_ 2), (0, u "java/lang/Math"), (1, .class_ 6), (1, u "java/lang/Object"), (0, u "<init>"), (0, u "()V"), (89, .class_ 100), (1, u "java/lang/Math$RandomNumberGeneratorHolder"), (71, u "negativeZeroFloatBits"), (0, u "J"), (2, u "negativeZeroDoubleBits"), (24, u "min"), (43, u "$assertionsDisabled"), (0, u "Z"), (88, u "(II)I"), (2, u "twoToTheDoubleScaleDown"), (0, u "D"), (4, u "twoToTheDoubleScaleUp"), (9, u "E"), (3, u "PI"), (2, u "TAU"), (2, u "DEGREES_TO_RADIANS"), (0, u "RADIANS_TO_DEGREES")] 94

def k11m0 : Method := { name := "<init>", desc := "()V", sig := { parameters := [], returnType := none }, accessFlags := 2, code := none }
def k11c1 : Code := { maxStack := 2, maxLocals := 2, code := jdk_29_method_69_code, exceptionTable := #[], attributes := #[] }
def k11m1 : Method := { name := "min", desc := "(II)I", sig := { parameters := [.int, .int], returnType := some .int }, accessFlags := 9, code := some k11c1 }
/-- java/lang/Math -/
def k11 : Class := { plain "java/lang/Math" (some 0) with
  accessFlags := 49
  interfaces := #[]
  cf := some (fileOf pool11 1 #[.nestMembers #[98]] #[{ accessFlags := 2, nameIndex := 7, descriptorIndex := 8, attributes := #[] }, { accessFlags := 9, nameIndex := 201, descriptorIndex := 335, attributes := #[] }] 49 4 #[] #[{ accessFlags := 25, nameIndex := 354, descriptorIndex := 339, attributes := #[] }, { accessFlags := 25, nameIndex := 358, descriptorIndex := 339, attributes := #[] }, { accessFlags := 25, nameIndex := 361, descriptorIndex := 339, attributes := #[] }, { accessFlags := 26, nameIndex := 364, descriptorIndex := 339, attributes := #[] }, { accessFlags := 26, nameIndex := 365, descriptorIndex := 339, attributes := #[] }, { accessFlags := 26, nameIndex := 172, descriptorIndex := 173, attributes := #[] }, { accessFlags := 26, nameIndex := 176, descriptorIndex := 173, attributes := #[] }, { accessFlags := 8, nameIndex := 344, descriptorIndex := 339, attributes := #[] }, { accessFlags := 8, nameIndex := 338, descriptorIndex := 339, attributes := #[] }, { accessFlags := 4120, nameIndex := 245, descriptorIndex := 246, attributes := #[] }])
  fields := #[{ name := "E", type := .double, accessFlags := 25, slot := 0, constantValue := 0 }, { name := "PI", type := .double, accessFlags := 25, slot := 1, constantValue := 0 }, { name := "TAU", type := .double, accessFlags := 25, slot := 2, constantValue := 0 }, { name := "DEGREES_TO_RADIANS", type := .double, accessFlags := 26, slot := 3, constantValue := 0 }, { name := "RADIANS_TO_DEGREES", type := .double, accessFlags := 26, slot := 4, constantValue := 0 }, { name := "negativeZeroFloatBits", type := .long, accessFlags := 26, slot := 5, constantValue := 0 }, { name := "negativeZeroDoubleBits", type := .long, accessFlags := 26, slot := 6, constantValue := 0 }, { name := "twoToTheDoubleScaleUp", type := .double, accessFlags := 8, slot := 7, constantValue := 0 }, { name := "twoToTheDoubleScaleDown", type := .double, accessFlags := 8, slot := 8, constantValue := 0 }, { name := "$assertionsDisabled", type := .boolean, accessFlags := 4120, slot := 9, constantValue := 0 }]
  methods := #[k11m0, k11m1]
  instanceTypes := #[]
  staticTypes := #[.double, .double, .double, .double, .double, .long, .long, .double, .double, .boolean]
  resolved := Array.replicate 460 none
  statics := none }

def pool12 : Array CpInfo := pool [(2, .class_ 4), (1, u "java/lang/Object"), (0, u "<init>"), (0, u "()V"), (1, .class_ 10), (1, u "java/lang/System"), (0, u "allowSecurityManager"), (0, u "I"), (16, u "cons"), (0, u "Ljava/io/Console;"), (77, .class_ 110), (1, u "java/lang/System$CallersHolder"), (43, u "initialErrStream"), (0, u "Ljava/io/PrintStream;"), (19, u "security"), (0, u "Ljava/lang/SecurityManager;"), (31, .class_ 209), (0, u "java/lang/System$1"), (7, u "props"), (0, u "Ljava/util/Properties;"), (2, u "lineSeparator"), (0, u "Ljava/lang/String;"), (96, .class_ 321), (1, u "java/lang/System$LoggerFinder"), (5, .class_ 328), (0, u "java/lang/System$Logger"), (67, u "err"), (2, u "out"), (91, u "notSupportedJnuEncoding"), (15, u "in"), (17, u "initialIn"), (0, u "Ljava/io/InputStream;"), (35, u "bootLayer"), (0, u "Ljava/lang/ModuleLayer;"), (99, .class_ 664), (0, u "java/lang/System$2"), (9, u "NEVER"), (2, u "MAYBE"), (49, u "arraycopy"), (0, u "(Ljava/lang/Object;ILjava/lang/Object;II)V"), (72, .class_ 802), (0, u "java/lang/System$Logger$Level")] 31

def k12m0 : Method := { name := "<init>", desc := "()V", sig := { parameters := [], returnType := none }, accessFlags := 2, code := none }
def k12m1 : Method := { name := "arraycopy", desc := "(Ljava/lang/Object;ILjava/lang/Object;II)V", sig := { parameters := [(.object "java/lang/Object"), .int, (.object "java/lang/Object"), .int, .int], returnType := none }, accessFlags := 265, code := none }
/-- java/lang/System -/
def k12 : Class := { plain "java/lang/System" (some 0) with
  accessFlags := 49
  interfaces := #[]
  cf := some (fileOf pool12 8 #[.nestMembers #[319, 327, 801, 108, 663, 208]] #[{ accessFlags := 2, nameIndex := 5, descriptorIndex := 6, attributes := #[] }, { accessFlags := 265, nameIndex := 727, descriptorIndex := 728, attributes := #[] }] 49 2 #[] #[{ accessFlags := 25, nameIndex := 507, descriptorIndex := 526, attributes := #[] }, { accessFlags := 25, nameIndex := 399, descriptorIndex := 155, attributes := #[] }, { accessFlags := 25, nameIndex := 396, descriptorIndex := 155, attributes := #[] }, { accessFlags := 10, nameIndex := 525, descriptorIndex := 526, attributes := #[] }, { accessFlags := 26, nameIndex := 674, descriptorIndex := 12, attributes := #[] }, { accessFlags := 26, nameIndex := 677, descriptorIndex := 12, attributes := #[] }, { accessFlags := 10, nameIndex := 11, descriptorIndex := 12, attributes := #[] }, { accessFlags := 74, nameIndex := 175, descriptorIndex := 176, attributes := #[] }, { accessFlags := 10, nameIndex := 491, descriptorIndex := 222, attributes := #[] }, { accessFlags := 74, nameIndex := 29, descriptorIndex := 30, attributes := #[] }, { accessFlags := 74, nameIndex := 154, descriptorIndex := 155, attributes := #[] }, { accessFlags := 10, nameIndex := 217, descriptorIndex := 218, attributes := #[] }, { accessFlags := 10, nameIndex := 221, descriptorIndex := 222, attributes := #[] }, { accessFlags := 8, nameIndex := 562, descriptorIndex := 563, attributes := #[] }])
  fields := #[{ name := "in", type := (.object "java/io/InputStream"), accessFlags := 25, slot := 0, constantValue := 0 }, { name := "out", type := (.object "java/io/PrintStream"), accessFlags := 25, slot := 1, constantValue := 0 }, { name := "err", type := (.object "java/io/PrintStream"), accessFlags := 25, slot := 2, constantValue := 0 }, { name := "initialIn", type := (.object "java/io/InputStream"), accessFlags := 10, slot := 3, constantValue := 0 }, { name := "NEVER", type := .int, accessFlags := 26, slot := 4, constantValue := 0 }, { name := "MAYBE", type := .int, accessFlags := 26, slot := 5, constantValue := 0 }, { name := "allowSecurityManager", type := .int, accessFlags := 10, slot := 6, constantValue := 0 }, { name := "security", type := (.object "java/lang/SecurityManager"), accessFlags := 74, slot := 7, constantValue := 0 }, { name := "notSupportedJnuEncoding", type := (.object "java/lang/String"), accessFlags := 10, slot := 8, constantValue := 0 }, { name := "cons", type := (.object "java/io/Console"), accessFlags := 74, slot := 9, constantValue := 0 }, { name := "initialErrStream", type := (.object "java/io/PrintStream"), accessFlags := 74, slot := 10, constantValue := 0 }, { name := "props", type := (.object "java/util/Properties"), accessFlags := 10, slot := 11, constantValue := 0 }, { name := "lineSeparator", type := (.object "java/lang/String"), accessFlags := 10, slot := 12, constantValue := 0 }, { name := "bootLayer", type := (.object "java/lang/ModuleLayer"), accessFlags := 8, slot := 13, constantValue := 0 }]
  methods := #[k12m0, k12m1]
  instanceTypes := #[]
  staticTypes := #[(.object "java/io/InputStream"), (.object "java/io/PrintStream"), (.object "java/io/PrintStream"), (.object "java/io/InputStream"), .int, .int, .int, (.object "java/lang/SecurityManager"), (.object "java/lang/String"), (.object "java/io/Console"), (.object "java/io/PrintStream"), (.object "java/util/Properties"), (.object "java/lang/String"), (.object "java/lang/ModuleLayer")]
  resolved := Array.replicate 834 none
  statics := none }

def pool13 : Array CpInfo := pool [(2, .class_ 4), (1, u "java/lang/Object"), (0, u "<init>"), (0, u "()V"), (17, .class_ 26), (1, u "jdk/internal/util/Preconditions"), (22, u "checkFromIndexSize"), (5, .class_ 56), (0, u "jdk/internal/util/Preconditions$4"), (57, .class_ 115), (0, u "jdk/internal/util/Preconditions$1"), (7, u "SIOOBE_FORMATTER"), (0, u "Ljava/util/function/BiFunction;"), (0, .class_ 126), (0, u "jdk/internal/util/Preconditions$2"), (3, u "AIOOBE_FORMATTER"), (0, .class_ 132), (0, u "jdk/internal/util/Preconditions$3"), (3, u "IOOBE_FORMATTER"), (46, u "(IIILjava/util/function/BiFunction;)I")] 10

def k13m0 : Method := { name := "<init>", desc := "()V", sig := { parameters := [], returnType := none }, accessFlags := 1, code := none }
def k13c1 : Code := { maxStack := 4, maxLocals := 4, code := jdk_41_method_13_code, exceptionTable := #[], attributes := #[] }
def k13m1 : Method := { name := "checkFromIndexSize", desc := "(IIILjava/util/function/BiFunction;)I", sig := { parameters := [.int, .int, .int, (.object "java/util/function/BiFunction")], returnType := some .int }, accessFlags := 9, code := some k13c1 }
/-- jdk/internal/util/Preconditions -/
def k13 : Class := { plain "jdk/internal/util/Preconditions" (some 0) with
  accessFlags := 33
  interfaces := #[]
  cf := some (fileOf pool13 24 #[.nestMembers #[55, 131, 125, 114]] #[{ accessFlags := 1, nameIndex := 5, descriptorIndex := 6, attributes := #[] }, { accessFlags := 9, nameIndex := 49, descriptorIndex := 183, attributes := #[] }] 33 2 #[] #[{ accessFlags := 25, nameIndex := 123, descriptorIndex := 124, attributes := #[] }, { accessFlags := 25, nameIndex := 130, descriptorIndex := 124, attributes := #[] }, { accessFlags := 25, nameIndex := 136, descriptorIndex := 124, attributes := #[] }])
  fields := #[{ name := "SIOOBE_FORMATTER", type := (.object "java/util/function/BiFunction"), accessFlags := 25, slot := 0, constantValue := 0 }, { name := "AIOOBE_FORMATTER", type := (.object "java/util/function/BiFunction"), accessFlags := 25, slot := 1, constantValue := 0 }, { name := "IOOBE_FORMATTER", type := (.object "java/util/function/BiFunction"), accessFlags := 25, slot := 2, constantValue := 0 }]
  methods := #[k13m0, k13m1]
  instanceTypes := #[]
  staticTypes := #[(.object "java/util/function/BiFunction"), (.object "java/util/function/BiFunction"), (.object "java/util/function/BiFunction")]
  resolved := Array.replicate 194 none
  statics := some 2 }

def pool14 : Array CpInfo := pool [(9, u "<init>"), (6, .class_ 18), (1, u "java/lang/Object"), (0, u "()V"), (1, .class_ 23), (1, u "jdk/internal/util/ArraysSupport"), (0, u "LOG2_ARRAY_LONG_INDEX_SCALE"), (0, u "I"), (2, u "U"), (0, u "Ljdk/internal/misc/Unsafe;"), (8, u "BIG_ENDIAN"), (0, u "Z"), (8, u "LOG2_BYTE_BIT_SIZE"), (4, u "LOG2_ARRAY_INT_INDEX_SCALE"), (54, u "JLA"), (0, u "Ljdk/internal/access/JavaLangAccess;"), (11, u "LOG2_ARRAY_BOOLEAN_INDEX_SCALE"), (9, u "LOG2_ARRAY_BYTE_INDEX_SCALE"), (5, u "LOG2_ARRAY_CHAR_INDEX_SCALE"), (5, u "LOG2_ARRAY_SHORT_INDEX_SCALE"), (18, u "LOG2_ARRAY_FLOAT_INDEX_SCALE"), (24, u "LOG2_ARRAY_DOUBLE_INDEX_SCALE"), (89, u "T_BOOLEAN"), (2, u "T_CHAR"), (1, u "T_FLOAT"), (1, u "T_DOUBLE"), (1, u "T_BYTE"), (1, u "T_SHORT"), (1, u "T_INT"), (1, u "T_LONG"), (1, u "SOFT_MAX_ARRAY_LENGTH")] 83

def k14m0 : Method := { name := "<init>", desc := "()V", sig := { parameters := [], returnType := none }, accessFlags := 2, code := none }
/-- jdk/internal/util/ArraysSupport -/
def k14 : Class := { plain "jdk/internal/util/ArraysSupport" (some 0) with
  accessFlags := 33
  interfaces := #[]
  cf := some (fileOf pool14 21 #[] #[{ accessFlags := 2, nameIndex := 9, descriptorIndex := 19, attributes := #[] }] 33 16 #[] #[{ accessFlags := 24, nameIndex := 28, descriptorIndex := 29, attributes := #[] }, { accessFlags := 26, nameIndex := 38, descriptorIndex := 39, attributes := #[] }, { accessFlags := 25, nameIndex := 121, descriptorIndex := 25, attributes := #[] }, { accessFlags := 25, nameIndex := 131, descriptorIndex := 25, attributes := #[] }, { accessFlags := 25, nameIndex := 137, descriptorIndex := 25, attributes := #[] }, { accessFlags := 25, nameIndex := 143, descriptorIndex := 25, attributes := #[] }, { accessFlags := 25, nameIndex := 53, descriptorIndex := 25, attributes := #[] }, { accessFlags := 25, nameIndex := 24, descriptorIndex := 25, attributes := #[] }, { accessFlags := 25, nameIndex := 162, descriptorIndex := 25, attributes := #[] }, { accessFlags := 25, nameIndex := 187, descriptorIndex := 25, attributes := #[] }, { accessFlags := 26, nameIndex := 48, descriptorIndex := 25, attributes := #[] }, { accessFlags := 25, nameIndex := 277, descriptorIndex := 25, attributes := #[] }, { accessFlags := 25, nameIndex := 280, descriptorIndex := 25, attributes := #[] }, { accessFlags := 25, nameIndex := 282, descriptorIndex := 25, attributes := #[] }, { accessFlags := 25, nameIndex := 284, descriptorIndex := 25, attributes := #[] }, { accessFlags := 25, nameIndex := 286, descriptorIndex := 25, attributes := #[] }, { accessFlags := 25, nameIndex := 288, descriptorIndex := 25, attributes := #[] }, { accessFlags := 25, nameIndex := 290, descriptorIndex := 25, attributes := #[] }, { accessFlags := 25, nameIndex := 292, descriptorIndex := 25, attributes := #[] }, { accessFlags := 26, nameIndex := 108, descriptorIndex := 109, attributes := #[] }, { accessFlags := 25, nameIndex := 294, descriptorIndex := 25, attributes := #[] }])
  fields := #[{ name := "U", type := (.object "jdk/internal/misc/Unsafe"), accessFlags := 24, slot := 0, constantValue := 0 }, { name := "BIG_ENDIAN", type := .boolean, accessFlags := 26, slot := 1, constantValue := 0 }, { name := "LOG2_ARRAY_BOOLEAN_INDEX_SCALE", type := .int, accessFlags := 25, slot := 2, constantValue := 0 }, { name := "LOG2_ARRAY_BYTE_INDEX_SCALE", type := .int, accessFlags := 25, slot := 3, constantValue := 0 }, { name := "LOG2_ARRAY_CHAR_INDEX_SCALE", type := .int, accessFlags := 25, slot := 4, constantValue := 0 }, { name := "LOG2_ARRAY_SHORT_INDEX_SCALE", type := .int, accessFlags := 25, slot := 5, constantValue := 0 }, { name := "LOG2_ARRAY_INT_INDEX_SCALE", type := .int, accessFlags := 25, slot := 6, constantValue := 0 }, { name := "LOG2_ARRAY_LONG_INDEX_SCALE", type := .int, accessFlags := 25, slot := 7, constantValue := 0 }, { name := "LOG2_ARRAY_FLOAT_INDEX_SCALE", type := .int, accessFlags := 25, slot := 8, constantValue := 0 }, { name := "LOG2_ARRAY_DOUBLE_INDEX_SCALE", type := .int, accessFlags := 25, slot := 9, constantValue := 0 }, { name := "LOG2_BYTE_BIT_SIZE", type := .int, accessFlags := 26, slot := 10, constantValue := 0 }, { name := "T_BOOLEAN", type := .int, accessFlags := 25, slot := 11, constantValue := 0 }, { name := "T_CHAR", type := .int, accessFlags := 25, slot := 12, constantValue := 0 }, { name := "T_FLOAT", type := .int, accessFlags := 25, slot := 13, constantValue := 0 }, { name := "T_DOUBLE", type := .int, accessFlags := 25, slot := 14, constantValue := 0 }, { name := "T_BYTE", type := .int, accessFlags := 25, slot := 15, constantValue := 0 }, { name := "T_SHORT", type := .int, accessFlags := 25, slot := 16, constantValue := 0 }, { name := "T_INT", type := .int, accessFlags := 25, slot := 17, constantValue := 0 }, { name := "T_LONG", type := .int, accessFlags := 25, slot := 18, constantValue := 0 }, { name := "JLA", type := (.object "jdk/internal/access/JavaLangAccess"), accessFlags := 26, slot := 19, constantValue := 0 }, { name := "SOFT_MAX_ARRAY_LENGTH", type := .int, accessFlags := 25, slot := 20, constantValue := 0 }]
  methods := #[k14m0]
  instanceTypes := #[]
  staticTypes := #[(.object "jdk/internal/misc/Unsafe"), .boolean, .int, .int, .int, .int, .int, .int, .int, .int, .int, .int, .int, .int, .int, .int, .int, .int, .int, (.object "jdk/internal/access/JavaLangAccess"), .int]
  resolved := Array.replicate 378 none
  statics := none }

def pool15 : Array CpInfo := pool [(1, u "java/lang/Cloneable"), (0, .class_ 1), (0, u "java/lang/Object"), (0, .class_ 3)] 3

/-- java/lang/Cloneable -/
def k15 : Class := { plain "java/lang/Cloneable" (some 0) with
  accessFlags := 1537
  interfaces := #[]
  cf := some (fileOf pool15 2 #[] #[] 1537 4 #[] #[])
  fields := #[]
  methods := #[]
  instanceTypes := #[]
  staticTypes := #[]
  resolved := Array.replicate 8 none
  statics := none }

/-- the primitive byte -/
def k16 : Class := { plain "byte" none with kind := .primitive 'B', accessFlags := 0x411 }
/-- [B -/
def k17 : Class := { plain "[B" (some 0) with kind := .array 16 .byte, interfaces := #[15, 2], accessFlags := 1041 }

/-- the primitive char -/
def k18 : Class := { plain "char" none with kind := .primitive 'C', accessFlags := 0x411 }
/-- [C -/
def k19 : Class := { plain "[C" (some 0) with kind := .array 18 .char, interfaces := #[15, 2], accessFlags := 1041 }

/-- the primitive int -/
def k20 : Class := { plain "int" none with kind := .primitive 'I', accessFlags := 0x411 }
/-- [I -/
def k21 : Class := { plain "[I" (some 0) with kind := .array 20 .int, interfaces := #[15, 2], accessFlags := 1041 }

/-- the primitive long -/
def k22 : Class := { plain "long" none with kind := .primitive 'J', accessFlags := 0x411 }
/-- [J -/
def k23 : Class := { plain "[J" (some 0) with kind := .array 22 .long, interfaces := #[15, 2], accessFlags := 1041 }

def heap : Heap := #[{ cls := 7, slots := #[.long 0, .int 1, .null, .int 0, .null, .int 0, .int 0], vm := .statics 7 },
  { cls := 10, slots := #[.int 0, .int 8, .int 0, .int 1], vm := .statics 10 },
  { cls := 13, slots := #[.null, .null, .null], vm := .statics 13 }]
def k24 : Class := { plain "[[C" (some 0) with kind := .array 19 (.array .char), interfaces := #[15, 2], accessFlags := 1041 }
def classes : Array Class := #[k0, k1, k2, k3, k4, k5, k6, k7, k8, k9, k10, k11, k12, k13, k14, k15, k16, k17, k18, k19, k20, k21, k22, k23, k24]
def interned : List (Array UInt16 × Addr) := []
def slotsUsed : Nat := 14
def theMethod : MethodId := ⟨1, 1⟩
def args0 : Array Value := #[.int 5, .int 65, .int 66, .int 67, .int 68, .int 69]
def aboutOver (below : List Frame) : State where
  vm := { classes := classes, interned := interned.toArray }
  heap := heap
  slotsUsed := slotsUsed
  threads := #[{ frames := .invoking theMethod args0 :: below }]
def below0 : List Frame := [.native { method := ⟨0, 0⟩, args := #[] }]
def about1 : State := aboutOver below0
def p0 : Program := .bare "" "" ""
def e0 : Env := launch0.env 0 0 0
theorem w_frames : about1.frames = Frame.invoking theMethod args0 :: below0 := rfl
set_option maxRecDepth 65536 in
theorem w_args : argsFit about1.vm theMethod args0 = true := by decide +kernel
set_option maxRecDepth 65536 in
theorem w_heap : heapFits about1 = true := by decide +kernel
set_option maxRecDepth 65536 in
theorem w_runnable : about1.curStatus? = some .runnable := by decide +kernel
set_option maxRecDepth 65536 in
theorem w_alone : about1.alone = true := by decide +kernel
set_option maxRecDepth 65536 in
theorem w_named : about1.methodNamed? x = some theMethod := by decide +kernel
set_option maxRecDepth 65536 in
theorem w_hears : about1.hears theMethod below0 = true := by decide +kernel
set_option maxRecDepth 65536 in
theorem w_ripe : about1.ripe theMethod args0 below0 = true := by decide +kernel
theorem w_running : about1.status = .running := rfl
set_option maxRecDepth 65536 in
theorem w_room : about1.hasRoom e0.platform room_1 = true :=
  launch0.hasRoom_least _ room_1 (by decide +kernel) (by decide +kernel) (by decide +kernel) (by decide +kernel) (by decide +kernel) (by decide +kernel)
theorem allAtoms_all (ts : List Jvm.Cond) (a : Array Jvm.Value) (st : Jvm.State) : (allAtoms ts).before a st = ts.all (fun c => c.before a st) := by
  induction ts with
  | nil => rfl
  | cons c t ih =>
    show (Jvm.Cond.and c (allAtoms t)).before a st = _
    rw [Jvm.Cond.before_and, ih, List.all_cons]
def words1 : List Jvm.Cond := Jvm.Cond.code x code maxLocals ret :: tables_1
/-- a 'code' word, met by the world's own term for the bytes: nothing is compared byte by byte -/
theorem code_word {y : MethodName} {bytes : ByteArray} {mx : Nat} {rt : Option FieldType} {a : Array Value} {s : State} {m : MethodId} {meth : Method} {c : Code} (h1 : s.methodNamed? y = some m) (h2 : s.vm.method? m = some meth) (h3 : meth.code = some c) (h4 : c.code = bytes)
    (h5 : (c.maxLocals == mx && c.exceptionTable.isEmpty && decide (c.maxStack ≤ mostOperands) && decide (meth.sig.returnType = rt) && !meth.locks && decide (parseMethodDescriptor y.desc = some meth.sig)) = true) : (Jvm.Cond.code y bytes mx rt).before a s = true := by
  simp only [Bool.and_eq_true, beq_iff_eq, Bool.not_eq_true', decide_eq_true_eq] at h5
  obtain ⟨⟨⟨⟨⟨g1, g2⟩, g3⟩, g4⟩, g5⟩, g6⟩ := h5
  simp [Cond.before, Cond.holds, Cond.value, h1, h2, h3, h4, g1, g2, g3, g4, g5, g6]
def isCode : Jvm.Cond → Bool
  | .code _ _ _ _ => true
  | _ => false
theorem all_split {L : List Jvm.Cond} {P : Jvm.Cond → Bool} (h1 : L.all (fun c => isCode c || P c) = true) (h2 : ∀ c ∈ L.filter isCode, P c = true) : L.all P = true := by
  refine List.all_eq_true.mpr fun c hc => ?_
  have h := List.all_eq_true.mp h1 c hc
  rcases Bool.eq_false_or_eq_true (isCode c) with hi | hi
  · exact h2 c (List.mem_filter.mpr ⟨hc, hi⟩)
  · simpa [hi] using h
set_option maxRecDepth 65536 in
theorem w_c0 : (Jvm.Cond.code x code maxLocals ret).before args0 about1 = true := code_word (m := ⟨1, 1⟩) (meth := k1m1) (c := k1c1) (by decide +kernel) rfl rfl rfl (by decide +kernel)
set_option maxRecDepth 65536 in
theorem w_c1 : (Jvm.Cond.code ({ cls := "com/example/spanmask/spanmask/ledger/TextColumnHashPinLaw", name := "make", desc := "(ICCCCC)Ljava/lang/String;" } : Jvm.MethodName) method_3_code (6 : Nat) (Option.some (Jvm.ClassFile.FieldType.object "java/lang/String"))).before args0 about1 = true := code_word (m := ⟨1, 2⟩) (meth := k1m2) (c := k1c2) (by decide +kernel) rfl rfl rfl (by decide +kernel)
set_option maxRecDepth 65536 in
theorem w_c2 : (Jvm.Cond.code ({ cls := "java/lang/String", name := "<init>", desc := "([C)V" } : Jvm.MethodName) jdk_42_method_3_code (2 : Nat) (Option.none : Option Jvm.ClassFile.FieldType)).before args0 about1 = true := code_word (m := ⟨7, 1⟩) (meth := k7m1) (c := k7c1) (by decide +kernel) rfl rfl rfl (by decide +kernel)
set_option maxRecDepth 65536 in
theorem w_c3 : (Jvm.Cond.code ({ cls := "java/lang/String", name := "<init>", desc := "([CIILjava/lang/Void;)V" } : Jvm.MethodName) jdk_42_method_149_code (6 : Nat) (Option.none : Option Jvm.ClassFile.FieldType)).before args0 about1 = true := code_word (m := ⟨7, 4⟩) (meth := k7m4) (c := k7c4) (by decide +kernel) rfl rfl rfl (by decide +kernel)
set_option maxRecDepth 65536 in
theorem w_c4 : (Jvm.Cond.code ({ cls := "java/lang/Object", name := "<init>", desc := "()V" } : Jvm.MethodName) object_method_1_code (1 : Nat) (Option.none : Option Jvm.ClassFile.FieldType)).before args0 about1 = true := code_word (m := ⟨0, 0⟩) (meth := k0m0) (c := k0c0) (by decide +kernel) rfl rfl rfl (by decide +kernel)
set_option maxRecDepth 65536 in
theorem w_c5 : (Jvm.Cond.code ({ cls := "com/example/spanmask/spanmask/ledger/TextColumnHashPinLaw", name := "ref", desc := "(ICCCCC)I" } : Jvm.MethodName) method_4_code (7 : Nat) (Option.some Jvm.ClassFile.FieldType.int)).before args0 about1 = true := code_word (m := ⟨1, 3⟩) (meth := k1m3) (c := k1c3) (by decide +kernel) rfl rfl rfl (by decide +kernel)
set_option maxRecDepth 65536 in
theorem w_c6 : (Jvm.Cond.code ({ cls := "com/example/spanmask/spanmask/ledger/TextColumn", name := "<init>", desc := "()V" } : Jvm.MethodName) prog_49_method_1_code (1 : Nat) (Option.none : Option Jvm.ClassFile.FieldType)).before args0 about1 = true := code_word (m := ⟨8, 0⟩) (meth := k8m0) (c := k8c0) (by decide +kernel) rfl rfl rfl (by decide +kernel)
set_option maxRecDepth 65536 in
theorem w_c7 : (Jvm.Cond.code ({ cls := "com/example/spanmask/spanmask/ledger/TextColumn", name := "add", desc := "(Ljava/lang/String;)V" } : Jvm.MethodName) prog_49_method_2_code (2 : Nat) (Option.none : Option Jvm.ClassFile.FieldType)).before args0 about1 = true := code_word (m := ⟨8, 1⟩) (meth := k8m1) (c := k8c1) (by decide +kernel) rfl rfl rfl (by decide +kernel)
set_option maxRecDepth 65536 in
theorem w_c8 : (Jvm.Cond.code ({ cls := "java/lang/String", name := "toCharArray", desc := "()[C" } : Jvm.MethodName) jdk_42_method_129_code (1 : Nat) (Option.some (Jvm.ClassFile.FieldType.array Jvm.ClassFile.FieldType.char))).before args0 about1 = true := code_word (m := ⟨7, 3⟩) (meth := k7m3) (c := k7c3) (by decide +kernel) rfl rfl rfl (by decide +kernel)
set_option maxRecDepth 65536 in
theorem w_c9 : (Jvm.Cond.code ({ cls := "java/lang/String", name := "isLatin1", desc := "()Z" } : Jvm.MethodName) jdk_42_method_154_code (1 : Nat) (Option.some Jvm.ClassFile.FieldType.boolean)).before args0 about1 = true := code_word (m := ⟨7, 6⟩) (meth := k7m6) (c := k7c6) (by decide +kernel) rfl rfl rfl (by decide +kernel)
set_option maxRecDepth 65536 in
theorem w_c10 : (Jvm.Cond.code ({ cls := "java/lang/StringLatin1", name := "toChars", desc := "([B)[C" } : Jvm.MethodName) jdk_43_method_9_code (2 : Nat) (Option.some (Jvm.ClassFile.FieldType.array Jvm.ClassFile.FieldType.char))).before args0 about1 = true := code_word (m := ⟨9, 1⟩) (meth := k9m1) (c := k9c1) (by decide +kernel) rfl rfl rfl (by decide +kernel)
set_option maxRecDepth 65536 in
theorem w_c11 : (Jvm.Cond.code ({ cls := "java/lang/StringLatin1", name := "inflate", desc := "([BI[CII)V" } : Jvm.MethodName) jdk_43_method_49_code (6 : Nat) (Option.none : Option Jvm.ClassFile.FieldType)).before args0 about1 = true := code_word (m := ⟨9, 2⟩) (meth := k9m2) (c := k9c2) (by decide +kernel) rfl rfl rfl (by decide +kernel)
set_option maxRecDepth 65536 in
theorem w_c12 : (Jvm.Cond.code ({ cls := "java/lang/String", name := "length", desc := "()I" } : Jvm.MethodName) jdk_42_method_54_code (1 : Nat) (Option.some Jvm.ClassFile.FieldType.int)).before args0 about1 = true := code_word (m := ⟨7, 2⟩) (meth := k7m2) (c := k7c2) (by decide +kernel) rfl rfl rfl (by decide +kernel)
set_option maxRecDepth 65536 in
theorem w_c13 : (Jvm.Cond.code ({ cls := "java/lang/String", name := "coder", desc := "()B" } : Jvm.MethodName) jdk_42_method_152_code (1 : Nat) (Option.some Jvm.ClassFile.FieldType.byte)).before args0 about1 = true := code_word (m := ⟨7, 5⟩) (meth := k7m5) (c := k7c5) (by decide +kernel) rfl rfl rfl (by decide +kernel)
set_option maxRecDepth 65536 in
theorem w_c14 : (Jvm.Cond.code ({ cls := "com/example/spanmask/spanmask/ledger/TextColumn", name := "append", desc := "([CII)V" } : Jvm.MethodName) prog_49_method_12_code (8 : Nat) (Option.none : Option Jvm.ClassFile.FieldType)).before args0 about1 = true := code_word (m := ⟨8, 5⟩) (meth := k8m5) (c := k8c5) (by decide +kernel) rfl rfl rfl (by decide +kernel)
set_option maxRecDepth 65536 in
theorem w_c15 : (Jvm.Cond.code ({ cls := "com/example/spanmask/spanmask/ledger/TextColumn", name := "end", desc := "()V" } : Jvm.MethodName) prog_49_method_13_code (1 : Nat) (Option.none : Option Jvm.ClassFile.FieldType)).before args0 about1 = true := code_word (m := ⟨8, 6⟩) (meth := k8m6) (c := k8c6) (by decide +kernel) rfl rfl rfl (by decide +kernel)
set_option maxRecDepth 65536 in
theorem w_c16 : (Jvm.Cond.code ({ cls := "com/example/spanmask/spanmask/ledger/TextColumn", name := "hash", desc := "(I)I" } : Jvm.MethodName) prog_49_method_6_code (5 : Nat) (Option.some Jvm.ClassFile.FieldType.int)).before args0 about1 = true := code_word (m := ⟨8, 2⟩) (meth := k8m2) (c := k8c2) (by decide +kernel) rfl rfl rfl (by decide +kernel)
set_option maxRecDepth 65536 in
theorem w_c17 : (Jvm.Cond.code ({ cls := "com/example/spanmask/spanmask/ledger/TextColumn", name := "start", desc := "(I)J" } : Jvm.MethodName) prog_49_method_8_code (2 : Nat) (Option.some Jvm.ClassFile.FieldType.long)).before args0 about1 = true := code_word (m := ⟨8, 3⟩) (meth := k8m3) (c := k8c3) (by decide +kernel) rfl rfl rfl (by decide +kernel)
set_option maxRecDepth 65536 in
theorem w_c18 : (Jvm.Cond.code ({ cls := "java/lang/StringUTF16", name := "compress", desc := "([CII)[B" } : Jvm.MethodName) jdk_52_method_16_code (6 : Nat) (Option.some (Jvm.ClassFile.FieldType.array Jvm.ClassFile.FieldType.byte))).before args0 about1 = true := code_word (m := ⟨10, 9⟩) (meth := k10m9) (c := k10c9) (by decide +kernel) rfl rfl rfl (by decide +kernel)
set_option maxRecDepth 65536 in
theorem w_c19 : (Jvm.Cond.code ({ cls := "java/lang/StringUTF16", name := "compress", desc := "([CI[BII)I" } : Jvm.MethodName) jdk_52_method_21_code (7 : Nat) (Option.some Jvm.ClassFile.FieldType.int)).before args0 about1 = true := code_word (m := ⟨10, 10⟩) (meth := k10m10) (c := k10c10) (by decide +kernel) rfl rfl rfl (by decide +kernel)
set_option maxRecDepth 65536 in
theorem w_c20 : (Jvm.Cond.code ({ cls := "java/lang/StringUTF16", name := "coderFromArrayLen", desc := "([BI)B" } : Jvm.MethodName) jdk_52_method_15_code (2 : Nat) (Option.some Jvm.ClassFile.FieldType.byte)).before args0 about1 = true := code_word (m := ⟨10, 8⟩) (meth := k10m8) (c := k10c8) (by decide +kernel) rfl rfl rfl (by decide +kernel)
set_option maxRecDepth 65536 in
theorem w_c21 : (Jvm.Cond.code ({ cls := "com/example/spanmask/spanmask/ledger/TextColumn", name := "room", desc := "()[C" } : Jvm.MethodName) prog_49_method_14_code (3 : Nat) (Option.some (Jvm.ClassFile.FieldType.array Jvm.ClassFile.FieldType.char))).before args0 about1 = true := code_word (m := ⟨8, 7⟩) (meth := k8m7) (c := k8c7) (by decide +kernel) rfl rfl rfl (by decide +kernel)
set_option maxRecDepth 65536 in
theorem w_c22 : (Jvm.Cond.code ({ cls := "java/lang/Math", name := "min", desc := "(II)I" } : Jvm.MethodName) jdk_29_method_69_code (2 : Nat) (Option.some Jvm.ClassFile.FieldType.int)).before args0 about1 = true := code_word (m := ⟨11, 1⟩) (meth := k11m1) (c := k11c1) (by decide +kernel) rfl rfl rfl (by decide +kernel)
set_option maxRecDepth 65536 in
theorem w_c23 : (Jvm.Cond.code ({ cls := "com/example/spanmask/spanmask/ledger/TextColumn", name := "charAt", desc := "(J)C" } : Jvm.MethodName) prog_49_method_10_code (3 : Nat) (Option.some Jvm.ClassFile.FieldType.char)).before args0 about1 = true := code_word (m := ⟨8, 4⟩) (meth := k8m4) (c := k8c4) (by decide +kernel) rfl rfl rfl (by decide +kernel)
set_option maxRecDepth 65536 in
theorem w_c24 : (Jvm.Cond.code ({ cls := "java/lang/StringUTF16", name := "toBytes", desc := "([CII)[B" } : Jvm.MethodName) jdk_52_method_14_code (5 : Nat) (Option.some (Jvm.ClassFile.FieldType.array Jvm.ClassFile.FieldType.byte))).before args0 about1 = true := code_word (m := ⟨10, 7⟩) (meth := k10m7) (c := k10c7) (by decide +kernel) rfl rfl rfl (by decide +kernel)
set_option maxRecDepth 65536 in
theorem w_c25 : (Jvm.Cond.code ({ cls := "java/lang/StringUTF16", name := "newBytesFor", desc := "(I)[B" } : Jvm.MethodName) jdk_52_method_2_code (1 : Nat) (Option.some (Jvm.ClassFile.FieldType.array Jvm.ClassFile.FieldType.byte))).before args0 about1 = true := code_word (m := ⟨10, 1⟩) (meth := k10m1) (c := k10c1) (by decide +kernel) rfl rfl rfl (by decide +kernel)
set_option maxRecDepth 65536 in
theorem w_c26 : (Jvm.Cond.code ({ cls := "java/lang/StringUTF16", name := "newBytesLength", desc := "(I)I" } : Jvm.MethodName) jdk_52_method_3_code (1 : Nat) (Option.some Jvm.ClassFile.FieldType.int)).before args0 about1 = true := code_word (m := ⟨10, 2⟩) (meth := k10m2) (c := k10c2) (by decide +kernel) rfl rfl rfl (by decide +kernel)
set_option maxRecDepth 65536 in
theorem w_c27 : (Jvm.Cond.code ({ cls := "java/lang/StringUTF16", name := "putChar", desc := "([BII)V" } : Jvm.MethodName) jdk_52_method_4_code (3 : Nat) (Option.none : Option Jvm.ClassFile.FieldType)).before args0 about1 = true := code_word (m := ⟨10, 3⟩) (meth := k10m3) (c := k10c3) (by decide +kernel) rfl rfl rfl (by decide +kernel)
set_option maxRecDepth 65536 in
theorem w_c28 : (Jvm.Cond.code ({ cls := "java/lang/StringUTF16", name := "getChar", desc := "([BI)C" } : Jvm.MethodName) jdk_52_method_5_code (2 : Nat) (Option.some Jvm.ClassFile.FieldType.char)).before args0 about1 = true := code_word (m := ⟨10, 4⟩) (meth := k10m4) (c := k10c4) (by decide +kernel) rfl rfl rfl (by decide +kernel)
set_option maxRecDepth 65536 in
theorem w_c29 : (Jvm.Cond.code ({ cls := "java/lang/StringUTF16", name := "toChars", desc := "([B)[C" } : Jvm.MethodName) jdk_52_method_13_code (2 : Nat) (Option.some (Jvm.ClassFile.FieldType.array Jvm.ClassFile.FieldType.char))).before args0 about1 = true := code_word (m := ⟨10, 6⟩) (meth := k10m6) (c := k10c6) (by decide +kernel) rfl rfl rfl (by decide +kernel)
set_option maxRecDepth 65536 in
theorem w_c30 : (Jvm.Cond.code ({ cls := "java/lang/StringUTF16", name := "getChars", desc := "([BII[CI)V" } : Jvm.MethodName) jdk_52_method_26_code (6 : Nat) (Option.none : Option Jvm.ClassFile.FieldType)).before args0 about1 = true := code_word (m := ⟨10, 11⟩) (meth := k10m11) (c := k10c11) (by decide +kernel) rfl rfl rfl (by decide +kernel)
set_option maxRecDepth 65536 in
theorem w_c31 : (Jvm.Cond.code ({ cls := "java/lang/StringUTF16", name := "checkBoundsOffCount", desc := "(II[B)V" } : Jvm.MethodName) jdk_52_method_94_code (3 : Nat) (Option.none : Option Jvm.ClassFile.FieldType)).before args0 about1 = true := code_word (m := ⟨10, 12⟩) (meth := k10m12) (c := k10c12) (by decide +kernel) rfl rfl rfl (by decide +kernel)
set_option maxRecDepth 65536 in
theorem w_c32 : (Jvm.Cond.code ({ cls := "java/lang/StringUTF16", name := "length", desc := "([B)I" } : Jvm.MethodName) jdk_52_method_6_code (1 : Nat) (Option.some Jvm.ClassFile.FieldType.int)).before args0 about1 = true := code_word (m := ⟨10, 5⟩) (meth := k10m5) (c := k10c5) (by decide +kernel) rfl rfl rfl (by decide +kernel)
set_option maxRecDepth 65536 in
theorem w_c33 : (Jvm.Cond.code ({ cls := "java/lang/String", name := "checkBoundsOffCount", desc := "(III)I" } : Jvm.MethodName) jdk_42_method_157_code (3 : Nat) (Option.some Jvm.ClassFile.FieldType.int)).before args0 about1 = true := code_word (m := ⟨7, 7⟩) (meth := k7m7) (c := k7c7) (by decide +kernel) rfl rfl rfl (by decide +kernel)
set_option maxRecDepth 65536 in
theorem w_c34 : (Jvm.Cond.code ({ cls := "jdk/internal/util/Preconditions", name := "checkFromIndexSize", desc := "(IIILjava/util/function/BiFunction;)I" } : Jvm.MethodName) jdk_41_method_13_code (4 : Nat) (Option.some Jvm.ClassFile.FieldType.int)).before args0 about1 = true := code_word (m := ⟨13, 1⟩) (meth := k13m1) (c := k13c1) (by decide +kernel) rfl rfl rfl (by decide +kernel)
def codes1 : List Jvm.Cond := [Jvm.Cond.code x code maxLocals ret, Jvm.Cond.code ({ cls := "com/example/spanmask/spanmask/ledger/TextColumnHashPinLaw", name := "make", desc := "(ICCCCC)Ljava/lang/String;" } : Jvm.MethodName) method_3_code (6 : Nat) (Option.some (Jvm.ClassFile.FieldType.object "java/lang/String")), Jvm.Cond.code ({ cls := "java/lang/String", name := "<init>", desc := "([C)V" } : Jvm.MethodName) jdk_42_method_3_code (2 : Nat) (Option.none : Option Jvm.ClassFile.FieldType), Jvm.Cond.code ({ cls := "java/lang/String", name := "<init>", desc := "([CIILjava/lang/Void;)V" } : Jvm.MethodName) jdk_42_method_149_code (6 : Nat) (Option.none : Option Jvm.ClassFile.FieldType), Jvm.Cond.code ({ cls := "java/lang/Object", name := "<init>", desc := "()V" } : Jvm.MethodName) object_method_1_code (1 : Nat) (Option.none : Option Jvm.ClassFile.FieldType), Jvm.Cond.code ({ cls := "com/example/spanmask/spanmask/ledger/TextColumnHashPinLaw", name := "ref", desc := "(ICCCCC)I" } : Jvm.MethodName) method_4_code (7 : Nat) (Option.some Jvm.ClassFile.FieldType.int), Jvm.Cond.code ({ cls := "com/example/spanmask/spanmask/ledger/TextColumn", name := "<init>", desc := "()V" } : Jvm.MethodName) prog_49_method_1_code (1 : Nat) (Option.none : Option Jvm.ClassFile.FieldType), Jvm.Cond.code ({ cls := "com/example/spanmask/spanmask/ledger/TextColumn", name := "add", desc := "(Ljava/lang/String;)V" } : Jvm.MethodName) prog_49_method_2_code (2 : Nat) (Option.none : Option Jvm.ClassFile.FieldType), Jvm.Cond.code ({ cls := "java/lang/String", name := "toCharArray", desc := "()[C" } : Jvm.MethodName) jdk_42_method_129_code (1 : Nat) (Option.some (Jvm.ClassFile.FieldType.array Jvm.ClassFile.FieldType.char)), Jvm.Cond.code ({ cls := "java/lang/String", name := "isLatin1", desc := "()Z" } : Jvm.MethodName) jdk_42_method_154_code (1 : Nat) (Option.some Jvm.ClassFile.FieldType.boolean), Jvm.Cond.code ({ cls := "java/lang/StringLatin1", name := "toChars", desc := "([B)[C" } : Jvm.MethodName) jdk_43_method_9_code (2 : Nat) (Option.some (Jvm.ClassFile.FieldType.array Jvm.ClassFile.FieldType.char)), Jvm.Cond.code ({ cls := "java/lang/StringLatin1", name := "inflate", desc := "([BI[CII)V" } : Jvm.MethodName) jdk_43_method_49_code (6 : Nat) (Option.none : Option Jvm.ClassFile.FieldType), Jvm.Cond.code ({ cls := "java/lang/String", name := "length", desc := "()I" } : Jvm.MethodName) jdk_42_method_54_code (1 : Nat) (Option.some Jvm.ClassFile.FieldType.int), Jvm.Cond.code ({ cls := "java/lang/String", name := "coder", desc := "()B" } : Jvm.MethodName) jdk_42_method_152_code (1 : Nat) (Option.some Jvm.ClassFile.FieldType.byte), Jvm.Cond.code ({ cls := "com/example/spanmask/spanmask/ledger/TextColumn", name := "append", desc := "([CII)V" } : Jvm.MethodName) prog_49_method_12_code (8 : Nat) (Option.none : Option Jvm.ClassFile.FieldType), Jvm.Cond.code ({ cls := "com/example/spanmask/spanmask/ledger/TextColumn", name := "end", desc := "()V" } : Jvm.MethodName) prog_49_method_13_code (1 : Nat) (Option.none : Option Jvm.ClassFile.FieldType), Jvm.Cond.code ({ cls := "com/example/spanmask/spanmask/ledger/TextColumn", name := "hash", desc := "(I)I" } : Jvm.MethodName) prog_49_method_6_code (5 : Nat) (Option.some Jvm.ClassFile.FieldType.int), Jvm.Cond.code ({ cls := "com/example/spanmask/spanmask/ledger/TextColumn", name := "start", desc := "(I)J" } : Jvm.MethodName) prog_49_method_8_code (2 : Nat) (Option.some Jvm.ClassFile.FieldType.long), Jvm.Cond.code ({ cls := "java/lang/StringUTF16", name := "compress", desc := "([CII)[B" } : Jvm.MethodName) jdk_52_method_16_code (6 : Nat) (Option.some (Jvm.ClassFile.FieldType.array Jvm.ClassFile.FieldType.byte)), Jvm.Cond.code ({ cls := "java/lang/StringUTF16", name := "compress", desc := "([CI[BII)I" } : Jvm.MethodName) jdk_52_method_21_code (7 : Nat) (Option.some Jvm.ClassFile.FieldType.int), Jvm.Cond.code ({ cls := "java/lang/StringUTF16", name := "coderFromArrayLen", desc := "([BI)B" } : Jvm.MethodName) jdk_52_method_15_code (2 : Nat) (Option.some Jvm.ClassFile.FieldType.byte), Jvm.Cond.code ({ cls := "com/example/spanmask/spanmask/ledger/TextColumn", name := "room", desc := "()[C" } : Jvm.MethodName) prog_49_method_14_code (3 : Nat) (Option.some (Jvm.ClassFile.FieldType.array Jvm.ClassFile.FieldType.char)), Jvm.Cond.code ({ cls := "java/lang/Math", name := "min", desc := "(II)I" } : Jvm.MethodName) jdk_29_method_69_code (2 : Nat) (Option.some Jvm.ClassFile.FieldType.int), Jvm.Cond.code ({ cls := "com/example/spanmask/spanmask/ledger/TextColumn", name := "charAt", desc := "(J)C" } : Jvm.MethodName) prog_49_method_10_code (3 : Nat) (Option.some Jvm.ClassFile.FieldType.char), Jvm.Cond.code ({ cls := "java/lang/StringUTF16", name := "toBytes", desc := "([CII)[B" } : Jvm.MethodName) jdk_52_method_14_code (5 : Nat) (Option.some (Jvm.ClassFile.FieldType.array Jvm.ClassFile.FieldType.byte)), Jvm.Cond.code ({ cls := "java/lang/StringUTF16", name := "newBytesFor", desc := "(I)[B" } : Jvm.MethodName) jdk_52_method_2_code (1 : Nat) (Option.some (Jvm.ClassFile.FieldType.array Jvm.ClassFile.FieldType.byte)), Jvm.Cond.code ({ cls := "java/lang/StringUTF16", name := "newBytesLength", desc := "(I)I" } : Jvm.MethodName) jdk_52_method_3_code (1 : Nat) (Option.some Jvm.ClassFile.FieldType.int), Jvm.Cond.code ({ cls := "java/lang/StringUTF16", name := "putChar", desc := "([BII)V" } : Jvm.MethodName) jdk_52_method_4_code (3 : Nat) (Option.none : Option Jvm.ClassFile.FieldType), Jvm.Cond.code ({ cls := "java/lang/StringUTF16", name := "getChar", desc := "([BI)C" } : Jvm.MethodName) jdk_52_method_5_code (2 : Nat) (Option.some Jvm.ClassFile.FieldType.char), Jvm.Cond.code ({ cls := "java/lang/StringUTF16", name := "toChars", desc := "([B)[C" } : Jvm.MethodName) jdk_52_method_13_code (2 : Nat) (Option.some (Jvm.ClassFile.FieldType.array Jvm.ClassFile.FieldType.char)), Jvm.Cond.code ({ cls := "java/lang/StringUTF16", name := "getChars", desc := "([BII[CI)V" } : Jvm.MethodName) jdk_52_method_26_code (6 : Nat) (Option.none : Option Jvm.ClassFile.FieldType), Jvm.Cond.code ({ cls := "java/lang/StringUTF16", name := "checkBoundsOffCount", desc := "(II[B)V" } : Jvm.MethodName) jdk_52_method_94_code (3 : Nat) (Option.none : Option Jvm.ClassFile.FieldType), Jvm.Cond.code ({ cls := "java/lang/StringUTF16", name := "length", desc := "([B)I" } : Jvm.MethodName) jdk_52_method_6_code (1 : Nat) (Option.some Jvm.ClassFile.FieldType.int), Jvm.Cond.code ({ cls := "java/lang/String", name := "checkBoundsOffCount", desc := "(III)I" } : Jvm.MethodName) jdk_42_method_157_code (3 : Nat) (Option.some Jvm.ClassFile.FieldType.int), Jvm.Cond.code ({ cls := "jdk/internal/util/Preconditions", name := "checkFromIndexSize", desc := "(IIILjava/util/function/BiFunction;)I" } : Jvm.MethodName) jdk_41_method_13_code (4 : Nat) (Option.some Jvm.ClassFile.FieldType.int)]
set_option maxRecDepth 65536 in
theorem codes_eq : words1.filter isCode = codes1 := rfl
theorem w_codes : ∀ c ∈ words1.filter isCode, c.before args0 about1 = true := by
  rw [codes_eq]
  intro c hc
  simp only [codes1, List.mem_cons, List.not_mem_nil, or_false] at hc
  rcases hc with rfl | rfl | rfl | rfl | rfl | rfl | rfl | rfl | rfl | rfl | rfl | rfl | rfl | rfl | rfl | rfl | rfl | rfl | rfl | rfl | rfl | rfl | rfl | rfl | rfl | rfl | rfl | rfl | rfl | rfl | rfl | rfl | rfl | rfl | rfl
  · exact w_c0
  · exact w_c1
  · exact w_c2
  · exact w_c3
  · exact w_c4
  · exact w_c5
  · exact w_c6
  · exact w_c7
  · exact w_c8
  · exact w_c9
  · exact w_c10
  · exact w_c11
  · exact w_c12
  · exact w_c13
  · exact w_c14
  · exact w_c15
  · exact w_c16
  · exact w_c17
  · exact w_c18
  · exact w_c19
  · exact w_c20
  · exact w_c21
  · exact w_c22
  · exact w_c23
  · exact w_c24
  · exact w_c25
  · exact w_c26
  · exact w_c27
  · exact w_c28
  · exact w_c29
  · exact w_c30
  · exact w_c31
  · exact w_c32
  · exact w_c33
  · exact w_c34
set_option maxRecDepth 65536 in
theorem w_t1 : (words1.take 24).all (fun c => isCode c || c.before args0 about1) = true := by decide +kernel
set_option maxRecDepth 65536 in
theorem w_t2 : ((words1.drop 24).take 24).all (fun c => isCode c || c.before args0 about1) = true := by decide +kernel
set_option maxRecDepth 65536 in
theorem w_t3 : (((words1.drop 24).drop 24).take 24).all (fun c => isCode c || c.before args0 about1) = true := by decide +kernel
set_option maxRecDepth 65536 in
theorem w_t4 : ((((words1.drop 24).drop 24).drop 24).take 24).all (fun c => isCode c || c.before args0 about1) = true := by decide +kernel
set_option maxRecDepth 65536 in
theorem w_t5 : (((((words1.drop 24).drop 24).drop 24).drop 24).take 24).all (fun c => isCode c || c.before args0 about1) = true := by decide +kernel
set_option maxRecDepth 65536 in
theorem w_t6 : ((((((words1.drop 24).drop 24).drop 24).drop 24).drop 24).take 24).all (fun c => isCode c || c.before args0 about1) = true := by decide +kernel
set_option maxRecDepth 65536 in
theorem w_t7 : ((((((words1.drop 24).drop 24).drop 24).drop 24).drop 24).drop 24).all (fun c => isCode c || c.before args0 about1) = true := by decide +kernel
theorem w_tables : (allAtoms (Jvm.Cond.code x code maxLocals ret :: tables_1)).before args0 about1 = true := by
  rw [allAtoms_all]
  show words1.all (fun c => c.before args0 about1) = true
  refine all_split ?_ w_codes
  rw [← List.take_append_drop 24 words1, List.all_append, w_t1, ← List.take_append_drop 24 (words1.drop 24), List.all_append, w_t2, ← List.take_append_drop 24 ((words1.drop 24).drop 24), List.all_append, w_t3, ← List.take_append_drop 24 (((words1.drop 24).drop 24).drop 24), List.all_append, w_t4, ← List.take_append_drop 24 ((((words1.drop 24).drop 24).drop 24).drop 24), List.all_append, w_t5, ← List.take_append_drop 24 (((((words1.drop 24).drop 24).drop 24).drop 24).drop 24), List.all_append, w_t6, w_t7]
  rfl
set_option maxRecDepth 65536 in
theorem w_rest : rest_1_c.before args0 about1 = true := by decide +kernel
set_option maxRecDepth 65536 in
theorem w_case : (Jvm.Cond.and given_1 narrow_1).before args0 about1 = true := by decide +kernel
set_option maxRecDepth 65536 in
theorem w_consts : constsHeld consts_1 about1 := Jvm.Lit.constsHeldB_iff.mp (by decide +kernel)
theorem w_applies : (headSpec (Jvm.Cond.code x code maxLocals ret :: tables_1) room_1).applies x e0.platform about1 = true :=
  (Spec.applies_iff w_frames).mpr ⟨w_running, w_runnable, w_alone, w_named, w_hears, w_ripe, w_room, w_tables⟩
theorem atStart : AtStart classFile x code maxLocals ret World_1 tables_1 room_1 Calls_1 rest_1 Pre_1 launch0 p0 e0 about1 theMethod args0 below0 :=
  ⟨lists_1, trivial, launch0.admits_env _ _ _, launch0.least_env, fairChoices_fair.cas, fairChoices_fair.clock, w_frames, w_args, w_heap, w_applies, ⟨w_consts, trivial⟩, w_rest, w_case⟩
end start1
theorem witness_1 : WitnessClaimed_1 := ⟨start1.p0, start1.e0, start1.about1, start1.theMethod, start1.args0, start1.below0, start1.atStart⟩
end Jvm.Pilot.@@N@@
