import JvmDerived
import JvmDerived.Pilot.@@N@@Statement
import JvmDerived.Pilot.@@N@@Code
set_option linter.unusedVariables false
set_option linter.unusedSimpArgs false
namespace Jvm.RoadKit
open Sem ClassFile Op Lib Jvm.Stand Jvm.Free Jvm.LawKit
section New
variable {p : Program} {l : Launch} {e : Env} {R : Room} {s : State} {m : MethodId} {args : Array Value} {below : List Frame} {meth : Method} {c : Code} {T : State} {locs : List Loc} {cells slots : Nat}
theorem retI (X : Stand p l e R s m args below meth c T locs cells slots) (hx : p.tables.exec = Jvm.exec) {pc : Nat} {Ls : Array Slot} {z : Int32} {rest : List Value} (hret : meth.sig.returnType = some .int) (hd : decode c.code pc = .ok (.ireturn, 1)) {fs : List Frame}
    (hl : ∀ (f : JFrame) (acts : List Action), f.method = m → f.locked = none → f.entered = [] → (doReturn e (T.setTop f) acts (some (.int z))).1 = T.setFrames fs) : Steps p.tables e below (T.setTop (mkF m pc Ls (.int z :: rest))) (T.setFrames fs) := by
  have hm' : T.vm.method? m = some meth := X.method'
  have hn : narrow .int (.int z) = .int z := rfl
  show Steps p.tables e below (T.setTop { method := m, pc := pc, locals := Ls, stack := _ :: rest, locked := none }) _
  jvm_step X.here [X.here.top, hx, hd, hm', hret, hn]
  first | (intro acts; rw [hl _ acts rfl rfl rfl]) | rw [hl _ _ rfl rfl rfl]
  exact Steps.refl _
end New
end Jvm.RoadKit
namespace Jvm.Pilot.@@N@@
open Jvm Jvm.ClassFile Sem Op Lib Jvm.Free Jvm.Stand Jvm.LawKit Jvm.RoadKit Bundle Jvm.Pilot.@@N@@.Jvm.D
section OwnKit
/-! The own kit: a walk as one relation 'Rn' on (pc, locals, stack, heap): "from here the body runs to its promise". Each row is a library law read backwards, so that a walk may fork anywhere. -/
abbrev Wk : Type := Program × Env × State × MethodId × Array Value × List Frame × Method × Code
abbrev Wk.p (w : Wk) : Program := w.1
abbrev Wk.e (w : Wk) : Env := w.2.1
abbrev Wk.s (w : Wk) : State := w.2.2.1
abbrev Wk.m (w : Wk) : MethodId := w.2.2.2.1
abbrev Wk.a (w : Wk) : Array Value := w.2.2.2.2.1
abbrev Wk.b (w : Wk) : List Frame := w.2.2.2.2.2.1
abbrev Wk.t (w : Wk) : Method := w.2.2.2.2.2.2.1
abbrev Wk.c (w : Wk) : Code := w.2.2.2.2.2.2.2
/-- the run from (pc, Ls, S) over the heap h, with cs cells and ss slots made so far, ends in Q -/
def Rn (w : Wk) (l : Launch) (R : Room) (n0 : Nat) (F : Outcome → State → Prop) (pc : Nat) (Ls : Array Slot) (S : List Value) (h : Heap) (cs ss : Nat) : Prop :=
  ∀ (T : State) (locs : List Loc), Stand w.p l w.e R w.s w.m w.a w.b w.t w.c T locs cs ss → T.heap = h → Fr n0 locs →
    ∃ s₂ o, Steps w.p.tables w.e w.b (T.setTop (mkF w.m pc Ls S)) s₂ ∧ s₂.status = .running ∧ Ended s₂ w.b o ∧ F o s₂
/-- the promise of a body that interns nothing -/
abbrev FinQ (w : Wk) (R : Room) (n0 : Nat) (Q : Option Value → Heap → Prop) (o : Outcome) (s₂ : State) : Prop := ∃ v L, o = .returned v ∧ (Fr n0 L ∧ Q v s₂.heap) ∧ FrameEnd w.s o s₂ L R.cells R.slots
/-- what stands throughout the walk of one body -/
def Cx (w : Wk) (Z : State) (a0 : Array Value) (own : String) (bytes : ByteArray) (ml : Nat) (rt : Option FieldType) (nm : String) : Prop :=
  w.p.tables.exec = Jvm.exec ∧ w.c.code = bytes ∧ w.c.maxLocals = ml ∧ w.s.vm.findClass own = some w.m.cls ∧ Z.Warmed39 w.s.vm ∧ w.t.sig.returnType = rt ∧ w.t.locks = false ∧ w.t.name = nm ∧ ∀ d ∈ tables_1, d.before a0 Z = true
/-- a body's contract at the arguments as' over the heap h0 -/
def Met (l : Launch) (Z : State) (y : MethodName) (bytes : ByteArray) (ml : Nat) (rt : Option FieldType) (rm : Room) (n0 : Nat) (ws : List Jvm.Cond) (as' : Array Value) (h0 : Heap) (Q : Option Value → Heap → Prop) : Prop :=
  MetFree l y (head1 (Jvm.Cond.code y bytes ml rt :: ws) rm) (fun a U => a = as' ∧ Z.Warmed39 U.vm ∧ U.heap = h0) (fun _ _ _ _ _ => True) (fun _ U o U' => ∃ v L, o = .returned v ∧ (Fr n0 L ∧ Q v U'.heap) ∧ FrameEnd U o U' L rm.cells rm.slots)
variable {w : Wk} {l : Launch} {R : Room} {n0 : Nat} {F : Outcome → State → Prop} {Q : Option Value → Heap → Prop} {pc q : Nat} {Ls Ls' : Array Slot} {S : List Value} {h : Heap} {cs ss : Nat} {Z : State} {a0 : Array Value} {own : String} {bytes : ByteArray} {ml : Nat} {rt : Option FieldType} {nm : String}
theorem Cx.x (K : Cx w Z a0 own bytes ml rt nm) : w.p.tables.exec = Jvm.exec := K.1
theorem Cx.cd (K : Cx w Z a0 own bytes ml rt nm) : w.c.code = bytes := K.2.1
theorem Cx.mx (K : Cx w Z a0 own bytes ml rt nm) : w.c.maxLocals = ml := K.2.2.1
theorem Cx.ow (K : Cx w Z a0 own bytes ml rt nm) : w.s.vm.findClass own = some w.m.cls := K.2.2.2.1
theorem Cx.z (K : Cx w Z a0 own bytes ml rt nm) : Z.Warmed39 w.s.vm := K.2.2.2.2.1
theorem Cx.ret (K : Cx w Z a0 own bytes ml rt nm) : w.t.sig.returnType = rt := K.2.2.2.2.2.1
theorem Cx.lk (K : Cx w Z a0 own bytes ml rt nm) : w.t.locks = false := K.2.2.2.2.2.2.1
theorem Cx.nme (K : Cx w Z a0 own bytes ml rt nm) : w.t.name = nm := K.2.2.2.2.2.2.2.1
theorem Cx.hw (K : Cx w Z a0 own bytes ml rt nm) : ∀ d ∈ tables_1, d.before a0 Z = true := K.2.2.2.2.2.2.2.2
theorem Met.intro {y : MethodName} {as' : Array Value} {h0 : Heap} {rm : Room} {ws : List Jvm.Cond} (hp : plainFor y = true) (hw : ∀ d ∈ tables_1, d.before a0 Z = true) (ef : ∀ m, entryFrame m as' ml = mkF m 0 Ls [])
    (k : ∀ w : Wk, Cx w Z a0 y.cls bytes ml rt y.name → Rn w l rm n0 (FinQ w rm n0 Q) 0 Ls [] h0 0 0) : Met l Z y bytes ml rt rm n0 ws as' h0 Q := by
  refine MetFree.of_bodySF hp hisR ?_
  intro p e s m args below meth c s₁ Bd hml0 hP hK
  obtain ⟨ha, hZ, hh⟩ := hP
  subst ha
  have e0 : s₁.heap = h0 := by rw [← hh, Bd.state]; rfl
  obtain ⟨s₂, o, h1, h2, h3, h4⟩ := k (p, e, s, m, args, below, meth, c) ⟨Bd.exec, Bd.bytes, hml0, findClass_of_methodNamed Bd.named, hZ, Bd.returns, Bd.notSynchronized, (name_of_methodNamed Bd.named Bd.method).1, hw⟩ s₁ [] (Stand.of_body Bd) e0 (Fr.nil n0)
  exact ⟨s₂, o, castTop (ef m) h1, h2, h3, h4⟩
theorem Rn.step {S' : List Value} (st : ∀ (T : State) (locs : List Loc), Stand w.p l w.e R w.s w.m w.a w.b w.t w.c T locs cs ss → ∀ t, Steps w.p.tables w.e w.b (T.setTop (mkF w.m q Ls' S')) t → Steps w.p.tables w.e w.b (T.setTop (mkF w.m pc Ls S)) t)
    (k : Rn w l R n0 F q Ls' S' h cs ss) : Rn w l R n0 F pc Ls S h cs ss := fun T locs X eT N => by
  obtain ⟨s₂, o, h1, r⟩ := k T locs X eT N
  exact ⟨s₂, o, st T locs X _ h1, r⟩
/-! plain steps -/
theorem Rn.iloadN (K : Cx w Z a0 own bytes ml rt nm) {k : Fin 4} {v : Int32} (hd : decode bytes pc = .ok (.iload_n k, 1)) (hl : Ls[k.val]? = some (.val (.int v))) (hq : pc + 1 = q) (r : Rn w l R n0 F q Ls (.int v :: S) h cs ss) : Rn w l R n0 F pc Ls S h cs ss := by
  subst hq; exact Rn.step (fun T locs X t k => XS.iloadN X.here K.x rfl (hb K.cd hd) hl k) r
theorem Rn.iload (K : Cx w Z a0 own bytes ml rt nm) {k : Nat} {v : Int32} (hd : decode bytes pc = .ok (.iload k, 2)) (hl : Ls[k]? = some (.val (.int v))) (hq : pc + 2 = q) (r : Rn w l R n0 F q Ls (.int v :: S) h cs ss) : Rn w l R n0 F pc Ls S h cs ss := by
  subst hq; exact Rn.step (fun T locs X t k => XS.iload X.here K.x rfl (hb K.cd hd) hl k) r
theorem Rn.aloadN (K : Cx w Z a0 own bytes ml rt nm) {k : Fin 4} {v : Value} (hd : decode bytes pc = .ok (.aload_n k, 1)) (hl : Ls[k.val]? = some (.val v)) (hv : v.isRef = true) (hq : pc + 1 = q) (r : Rn w l R n0 F q Ls (v :: S) h cs ss) : Rn w l R n0 F pc Ls S h cs ss := by
  subst hq; exact Rn.step (fun T locs X t k => XS.aloadN X.here K.x rfl (hb K.cd hd) hl hv k) r
theorem Rn.aload (K : Cx w Z a0 own bytes ml rt nm) {k : Nat} {v : Value} (hd : decode bytes pc = .ok (.aload k, 2)) (hl : Ls[k]? = some (.val v)) (hv : v.isRef = true) (hq : pc + 2 = q) (r : Rn w l R n0 F q Ls (v :: S) h cs ss) : Rn w l R n0 F pc Ls S h cs ss := by
  subst hq; exact Rn.step (fun T locs X t k => XS.aload X.here K.x rfl (hb K.cd hd) hl hv k) r
theorem Rn.istoreN (K : Cx w Z a0 own bytes ml rt nm) {k : Fin 4} {v : Int32} (hd : decode bytes pc = .ok (.istore_n k, 1)) (hl : storeLocals Ls k.val (.int v) = some Ls') (hq : pc + 1 = q) (r : Rn w l R n0 F q Ls' S h cs ss) : Rn w l R n0 F pc Ls (.int v :: S) h cs ss := by
  subst hq; exact Rn.step (fun T locs X t k => XS.istoreN X.here K.x rfl (hb K.cd hd) rfl hl k) r
theorem Rn.istore (K : Cx w Z a0 own bytes ml rt nm) {k : Nat} {v : Int32} (hd : decode bytes pc = .ok (.istore k, 2)) (hl : storeLocals Ls k (.int v) = some Ls') (hq : pc + 2 = q) (r : Rn w l R n0 F q Ls' S h cs ss) : Rn w l R n0 F pc Ls (.int v :: S) h cs ss := by
  subst hq; exact Rn.step (fun T locs X t k => XS.istore X.here K.x rfl (hb K.cd hd) rfl hl k) r
theorem Rn.astoreN (K : Cx w Z a0 own bytes ml rt nm) {k : Fin 4} {v : Value} (hd : decode bytes pc = .ok (.astore_n k, 1)) (hv : v.isRef = true) (hl : storeLocals Ls k.val v = some Ls') (hq : pc + 1 = q) (r : Rn w l R n0 F q Ls' S h cs ss) : Rn w l R n0 F pc Ls (v :: S) h cs ss := by
  subst hq; exact Rn.step (fun T locs X t k => XS.astoreN X.here K.x rfl (hb K.cd hd) rfl hv hl k) r
theorem Rn.astore (K : Cx w Z a0 own bytes ml rt nm) {k : Nat} {v : Value} (hd : decode bytes pc = .ok (.astore k, 2)) (hv : v.isRef = true) (hl : storeLocals Ls k v = some Ls') (hq : pc + 2 = q) (r : Rn w l R n0 F q Ls' S h cs ss) : Rn w l R n0 F pc Ls (v :: S) h cs ss := by
  subst hq; exact Rn.step (fun T locs X t k => XS.astore X.here K.x rfl (hb K.cd hd) rfl hv hl k) r
theorem Rn.iconst (K : Cx w Z a0 own bytes ml rt nm) {i : Int} (v : Int32) (hd : decode bytes pc = .ok (.iconst i, 1)) (hv : Int32.ofInt i = v) (hq : pc + 1 = q) (r : Rn w l R n0 F q Ls (.int v :: S) h cs ss) : Rn w l R n0 F pc Ls S h cs ss := by
  subst hq hv; exact Rn.step (fun T locs X t k => XS.iconst X.here K.x rfl (hb K.cd hd) k) r
theorem Rn.bipush (K : Cx w Z a0 own bytes ml rt nm) {i : Int} (v : Int32) (hd : decode bytes pc = .ok (.bipush i, 2)) (hv : (Int8.ofInt i).toInt32 = v) (hq : pc + 2 = q) (r : Rn w l R n0 F q Ls (.int v :: S) h cs ss) : Rn w l R n0 F pc Ls S h cs ss := by
  subst hq hv; exact Rn.step (fun T locs X t k => XS.bipush X.here K.x rfl (hb K.cd hd) k) r
theorem Rn.sipush (K : Cx w Z a0 own bytes ml rt nm) {i : Int} (v : Int32) (hd : decode bytes pc = .ok (.sipush i, 3)) (hv : (Int16.ofInt i).toInt32 = v) (hq : pc + 3 = q) (r : Rn w l R n0 F q Ls (.int v :: S) h cs ss) : Rn w l R n0 F pc Ls S h cs ss := by
  subst hq hv; exact Rn.step (fun T locs X t k => XS.sipush X.here K.x rfl (hb K.cd hd) k) r
theorem Rn.aconst_null (K : Cx w Z a0 own bytes ml rt nm) (hd : decode bytes pc = .ok (.aconst_null, 1)) (hq : pc + 1 = q) (r : Rn w l R n0 F q Ls (.null :: S) h cs ss) : Rn w l R n0 F pc Ls S h cs ss := by
  subst hq; exact Rn.step (fun T locs X t k => XS.aconstNull X.here K.x rfl (hb K.cd hd) k) r
theorem Rn.ldcI (K : Cx w Z a0 own bytes ml rt nm) {i : Nat} (v : Int32) (hi : Jvm.Cond.constant own i v ∈ tables_1) (hd : decode bytes pc = .ok (.ldc i, 2)) (hq : pc + 2 = q) (r : Rn w l R n0 F q Ls (.int v :: S) h cs ss) : Rn w l R n0 F pc Ls S h cs ss := by
  subst hq; exact Rn.step (fun T locs X t k => X.ldcI K.x K.ow (mvT K.z (K.hw _ hi)) rfl (hb K.cd hd) k) r
theorem Rn.iadd (K : Cx w Z a0 own bytes ml rt nm) {x y : Int32} (hd : decode bytes pc = .ok (.iadd, 1)) (hq : pc + 1 = q) (r : Rn w l R n0 F q Ls (.int (x + y) :: S) h cs ss) : Rn w l R n0 F pc Ls (.int y :: .int x :: S) h cs ss := by
  subst hq; exact Rn.step (fun T locs X t k => XS.iadd X.here K.x rfl (hb K.cd hd) rfl k) r
theorem Rn.isub (K : Cx w Z a0 own bytes ml rt nm) {x y : Int32} (hd : decode bytes pc = .ok (.isub, 1)) (hq : pc + 1 = q) (r : Rn w l R n0 F q Ls (.int (x - y) :: S) h cs ss) : Rn w l R n0 F pc Ls (.int y :: .int x :: S) h cs ss := by
  subst hq; exact Rn.step (fun T locs X t k => XS.isub X.here K.x rfl (hb K.cd hd) rfl k) r
theorem Rn.iand (K : Cx w Z a0 own bytes ml rt nm) {x y : Int32} (hd : decode bytes pc = .ok (.iand, 1)) (hq : pc + 1 = q) (r : Rn w l R n0 F q Ls (.int (x &&& y) :: S) h cs ss) : Rn w l R n0 F pc Ls (.int y :: .int x :: S) h cs ss := by
  subst hq; exact Rn.step (fun T locs X t k => XS.iand X.here K.x rfl (hb K.cd hd) rfl k) r
theorem Rn.iushr (K : Cx w Z a0 own bytes ml rt nm) {x y : Int32} (hd : decode bytes pc = .ok (.iushr, 1)) (hq : pc + 1 = q) (r : Rn w l R n0 F q Ls (.int ((x.toUInt32 >>> (y &&& 31).toUInt32).toInt32) :: S) h cs ss) : Rn w l R n0 F pc Ls (.int y :: .int x :: S) h cs ss := by
  subst hq; exact Rn.step (fun T locs X t k => XS.iushr X.here K.x rfl (hb K.cd hd) rfl k) r
theorem Rn.ishr (K : Cx w Z a0 own bytes ml rt nm) {x y : Int32} (hd : decode bytes pc = .ok (.ishr, 1)) (hq : pc + 1 = q) (r : Rn w l R n0 F q Ls (.int (x >>> (y &&& 31)) :: S) h cs ss) : Rn w l R n0 F pc Ls (.int y :: .int x :: S) h cs ss := by
  subst hq; exact Rn.step (fun T locs X t k => XS.ishr X.here K.x rfl (hb K.cd hd) rfl k) r
theorem Rn.i2c (K : Cx w Z a0 own bytes ml rt nm) {x : Int32} (hd : decode bytes pc = .ok (.i2c, 1)) (hq : pc + 1 = q) (r : Rn w l R n0 F q Ls (.int x.toUInt32.toUInt16.toUInt32.toInt32 :: S) h cs ss) : Rn w l R n0 F pc Ls (.int x :: S) h cs ss := by
  subst hq; exact Rn.step (fun T locs X t k => XS.i2c X.here K.x rfl (hb K.cd hd) rfl k) r
theorem Rn.dup (K : Cx w Z a0 own bytes ml rt nm) {x : Value} (hd : decode bytes pc = .ok (.dup, 1)) (hc : x.category = 1) (hq : pc + 1 = q) (r : Rn w l R n0 F q Ls (x :: x :: S) h cs ss) : Rn w l R n0 F pc Ls (x :: S) h cs ss := by
  subst hq; exact Rn.step (fun T locs X t k => XS.dup X.here K.x rfl (hb K.cd hd) rfl hc k) r
theorem Rn.pop (K : Cx w Z a0 own bytes ml rt nm) {x : Value} (hd : decode bytes pc = .ok (.pop, 1)) (hc : x.category = 1) (hq : pc + 1 = q) (r : Rn w l R n0 F q Ls S h cs ss) : Rn w l R n0 F pc Ls (x :: S) h cs ss := by
  subst hq; exact Rn.step (fun T locs X t k => XS.pop X.here K.x rfl (hb K.cd hd) rfl hc k) r
theorem Rn.iinc (K : Cx w Z a0 own bytes ml rt nm) {k : Nat} {i : Int} {x : Int32} (v : Int32) (hd : decode bytes pc = .ok (.iinc k i, 3)) (hv : Int32.ofInt i = v) (hl : Ls[k]? = some (.val (.int x))) (hl' : storeLocals Ls k (.int (x + v)) = some Ls') (hq : pc + 3 = q) (r : Rn w l R n0 F q Ls' S h cs ss) : Rn w l R n0 F pc Ls S h cs ss := by
  subst hq hv; exact Rn.step (fun T locs X t k => XS.iinc X.here K.x rfl (hb K.cd hd) hl hl' k) r
theorem Rn.goto (K : Cx w Z a0 own bytes ml rt nm) {o : Int} (hd : decode bytes pc = .ok (.goto o, 3)) (ho : 0 ≤ (pc : Int) + o) (hq : ((pc : Int) + o).toNat = q) (r : Rn w l R n0 F q Ls S h cs ss) : Rn w l R n0 F pc Ls S h cs ss :=
  Rn.step (fun T locs X t k => XS.goto X.here K.x rfl rfl (hb K.cd hd) ho hq k) r
theorem Rn.ifY (K : Cx w Z a0 own bytes ml rt nm) {cd : ClassFile.Cond} {x : Int32} {o : Int} (hd : decode bytes pc = .ok (.ifCond cd o, 3)) (hc : ifCond.holds cd x = true) (ho : 0 ≤ (pc : Int) + o) (hq : ((pc : Int) + o).toNat = q) (r : Rn w l R n0 F q Ls S h cs ss) : Rn w l R n0 F pc Ls (.int x :: S) h cs ss :=
  Rn.step (fun T locs X t k => XS.ifYes X.here K.x rfl rfl (hb K.cd hd) rfl hc ho hq k) r
theorem Rn.ifN (K : Cx w Z a0 own bytes ml rt nm) {cd : ClassFile.Cond} {x : Int32} {o : Int} (hd : decode bytes pc = .ok (.ifCond cd o, 3)) (hc : ifCond.holds cd x = false) (hq : pc + 3 = q) (r : Rn w l R n0 F q Ls S h cs ss) : Rn w l R n0 F pc Ls (.int x :: S) h cs ss := by
  subst hq; exact Rn.step (fun T locs X t k => XS.ifNo X.here K.x rfl (hb K.cd hd) rfl hc k) r
theorem Rn.icY (K : Cx w Z a0 own bytes ml rt nm) {cd : ClassFile.Cond} {x y : Int32} {o : Int} (hd : decode bytes pc = .ok (.if_icmp cd o, 3)) (hc : if_icmp.holds cd x y = true) (ho : 0 ≤ (pc : Int) + o) (hq : ((pc : Int) + o).toNat = q) (r : Rn w l R n0 F q Ls S h cs ss) : Rn w l R n0 F pc Ls (.int y :: .int x :: S) h cs ss :=
  Rn.step (fun T locs X t k => XS.icmpYes X.here K.x rfl rfl (hb K.cd hd) rfl hc ho hq k) r
theorem Rn.icN (K : Cx w Z a0 own bytes ml rt nm) {cd : ClassFile.Cond} {x y : Int32} {o : Int} (hd : decode bytes pc = .ok (.if_icmp cd o, 3)) (hc : if_icmp.holds cd x y = false) (hq : pc + 3 = q) (r : Rn w l R n0 F q Ls S h cs ss) : Rn w l R n0 F pc Ls (.int y :: .int x :: S) h cs ss := by
  subst hq; exact Rn.step (fun T locs X t k => XS.icmpNo X.here K.x rfl (hb K.cd hd) rfl hc k) r
theorem Rn.acY (K : Cx w Z a0 own bytes ml rt nm) {cd : ClassFile.ACond} {x y : Value} {o : Int} (hd : decode bytes pc = .ok (.if_acmp cd o, 3)) (h1 : x.isRef = true) (h2 : y.isRef = true) (hc : XT.acmp cd x y = true) (ho : 0 ≤ (pc : Int) + o) (hq : ((pc : Int) + o).toNat = q) (r : Rn w l R n0 F q Ls S h cs ss) : Rn w l R n0 F pc Ls (y :: x :: S) h cs ss :=
  Rn.step (fun T locs X t k => XT.acmpYes X.here K.x rfl rfl (hb K.cd hd) rfl h1 h2 hc ho hq k) r
theorem Rn.nonnullY (K : Cx w Z a0 own bytes ml rt nm) {o : Int} {b : Addr} (hd : decode bytes pc = .ok (.ifnonnull o, 3)) (ho : 0 ≤ (pc : Int) + o) (hq : ((pc : Int) + o).toNat = q) (r : Rn w l R n0 F q Ls S h cs ss) : Rn w l R n0 F pc Ls (.ref b :: S) h cs ss :=
  Rn.step (fun T locs X t k => XS.ifnonnullYes X.here K.x rfl rfl (hb K.cd hd) rfl ho hq k) r
/-! the ends -/
theorem Rn.retN (K : Cx w Z a0 own bytes ml rt nm) {x : Int32} (t : FieldType) (ht : rt = some t) (ht' : t = .boolean ∨ t = .byte ∨ t = .char ∨ t = .short) (hd : decode bytes pc = .ok (.ireturn, 1)) (hc : cs ≤ R.cells) (hs : ss ≤ R.slots) (hQ : Q (some (.int (nar t x))) h) : Rn w l R n0 (FinQ w R n0 Q) pc Ls (.int x :: S) h cs ss := fun T locs X eT N => by
  obtain ⟨fs, hr, hrun, hended, hW, hsame⟩ := X.leave (v := some (.int (nar t x))) (fun h => by rw [K.ret, ht] at h; cases h) K.lk
  exact ⟨_, _, Jvm.RoadKit.retN X K.x (K.ret.trans ht) ht' (hb K.cd hd) hr, hrun, hended, _, _, rfl, ⟨N, by rw [← eT] at hQ; exact hQ⟩, ⟨_, rfl⟩, hW, hsame.mono hc hs⟩
theorem Rn.retI (K : Cx w Z a0 own bytes ml rt nm) {x : Int32} (ht : rt = some .int) (hd : decode bytes pc = .ok (.ireturn, 1)) (hc : cs ≤ R.cells) (hs : ss ≤ R.slots) (hQ : Q (some (.int x)) h) : Rn w l R n0 (FinQ w R n0 Q) pc Ls (.int x :: S) h cs ss := fun T locs X eT N => by
  obtain ⟨fs, hr, hrun, hended, hW, hsame⟩ := X.leave (v := some (.int x)) (fun h => by rw [K.ret, ht] at h; cases h) K.lk
  exact ⟨_, _, Jvm.RoadKit.retI X K.x (K.ret.trans ht) (hb K.cd hd) hr, hrun, hended, _, _, rfl, ⟨N, by rw [← eT] at hQ; exact hQ⟩, ⟨_, rfl⟩, hW, hsame.mono hc hs⟩
theorem Rn.retA (K : Cx w Z a0 own bytes ml rt nm) {v : Value} (t : FieldType) (hv : v.isRef = true) (ht : rt = some t) (ht' : t.isReference = true) (hd : decode bytes pc = .ok (.areturn, 1)) (hc : cs ≤ R.cells) (hs : ss ≤ R.slots) (hQ : Q (some v) h) : Rn w l R n0 (FinQ w R n0 Q) pc Ls [v] h cs ss := fun T locs X eT N => by
  obtain ⟨fs, hr, hrun, hended, hW, hsame⟩ := X.leave (v := some v) (fun h => by rw [K.ret, ht] at h; cases h) K.lk
  exact ⟨_, _, X.areturnOut K.x hv (K.ret.trans ht) ht' (hb K.cd hd) hr, hrun, hended, _, _, rfl, ⟨N, by rw [← eT] at hQ; exact hQ⟩, ⟨_, rfl⟩, hW, hsame.mono hc hs⟩
theorem Rn.retV (K : Cx w Z a0 own bytes ml rt nm) (ht : rt = none) (hd : decode bytes pc = .ok (.return_, 1)) (hc : cs ≤ R.cells) (hs : ss ≤ R.slots) (hQ : Q none h) : Rn w l R n0 (FinQ w R n0 Q) pc Ls [] h cs ss := fun T locs X eT N => by
  obtain ⟨fs, hr, hrun, hended, hW, hsame⟩ := X.leave (v := none) (fun _ => rfl) K.lk
  exact ⟨_, _, X.returnOut K.x (K.ret.trans ht) (hb K.cd hd) hr, hrun, hended, _, _, rfl, ⟨N, by rw [← eT] at hQ; exact hQ⟩, ⟨_, rfl⟩, hW, hsame.mono hc hs⟩
/-! fields and statics -/
theorem Rn.getS (K : Cx w Z a0 own bytes ml rt nm) {i : Nat} {C n d : String} {v : Value} (hi : Jvm.Cond.fieldLink own i C n d ∈ tables_1) (FF : Sta Z h C n d v) (hd : decode bytes pc = .ok (.getstatic i, 3)) (hq : pc + 3 = q) (r : Rn w l R n0 F q Ls (v :: S) h cs ss) : Rn w l R n0 F pc Ls S h cs ss := fun T locs X eT N => by
  subst hq
  obtain ⟨T', X', e', st⟩ := getS2 X K.x K.z K.ow (host := "") (Or.inl (K.hw _ hi)) Via.refl eT FF (g := mkF w.m pc Ls S) rfl (hb K.cd hd)
  obtain ⟨s₂, o, h1, r'⟩ := r T' locs X' e' N
  exact ⟨s₂, o, st _ h1, r'⟩
theorem Rn.getF (K : Cx w Z a0 own bytes ml rt nm) {i : Nat} {C O n d : String} {a : Addr} {v : Value} (hi : Jvm.Cond.fieldLink own i C n d ∈ tables_1) (via : Via Z C O n d) (FF : Fld Z h a O n d v) (hd : decode bytes pc = .ok (.getfield i, 3)) (hq : pc + 3 = q) (r : Rn w l R n0 F q Ls (v :: S) h cs ss) : Rn w l R n0 F pc Ls (.ref a :: S) h cs ss := fun T locs X eT N => by
  subst hq
  obtain ⟨T', X', e', st⟩ := Jvm.RoadKit.getF X K.x K.z K.ow (host := "") (Or.inl (K.hw _ hi)) via eT FF (g := mkF w.m pc Ls (.ref a :: S)) rfl rfl (hb K.cd hd)
  obtain ⟨s₂, o, h1, r'⟩ := r T' locs X' e' N
  exact ⟨s₂, o, st _ h1, r'⟩
theorem Rn.putF (K : Cx w Z a0 own bytes ml rt nm) {i kk : Nat} {C0 O n d C : String} {ty : FieldType} {a : Addr} {v v' old : Value} (hi : Jvm.Cond.fieldLink own i C0 n d ∈ tables_1) (via : Via Z C0 O n d) (FF : Fld Z h a O n d old) (E : Exa Z h a C)
    (hl : Jvm.Cond.lays C O n d ∈ tables_1 ∨ (Jvm.Cond.laysFinal C O n d ∈ tables_1 ∧ own = O ∧ nm = "<init>")) (hin : Jvm.Cond.instantiable C kk ∈ tables_1) (hty : parseFieldDescriptor d = some ty) (hn : narrow ty v = v') (hf : fits ty v' = true) (hg : n0 ≤ a)
    (hd : decode bytes pc = .ok (.putfield i, 3)) (hq : pc + 3 = q) (r : ∀ h', Wr h h' a (Jvm.RoadKit.slotOf Z O n d) v' → Rn w l R n0 F q Ls S h' cs ss) : Rn w l R n0 F pc Ls (v :: .ref a :: S) h cs ss := fun T locs X eT N => by
  subst hq
  obtain ⟨T', h', X', e', W, st⟩ := putFN X K.x K.z K.ow (K.hw _ hi) via eT FF E (hl.elim (fun z => Or.inl (K.hw _ z)) (fun z => Or.inr ⟨K.hw _ z.1, z.2.1, K.nme.trans z.2.2⟩)) (K.hw _ hin) hty hn hf (g := mkF w.m pc Ls (v :: .ref a :: S)) rfl rfl (hb K.cd hd)
  obtain ⟨s₂, o, h1, r'⟩ := r h' W T' _ X' e' (Fr.snoc X' N hg)
  exact ⟨s₂, o, st _ h1, r'⟩
/-! making -/
theorem Rn.newO (K : Cx w Z a0 own bytes ml rt nm) {i k : Nat} {C : String} (hi : Jvm.Cond.classLink own i C ∈ tables_1) (hin : Jvm.Cond.instantiable C k ∈ tables_1) (hz : Jvm.Cond.initialized C ∈ tables_1) (hc : cs + 1 ≤ R.cells) (hs : ss + k ≤ R.slots) (hd : decode bytes pc = .ok (.new i, 3)) (hq : pc + 3 = q)
    (r : ∀ b h', b = h.size → Ext h h' → Exa Z h' b C → (∀ {O n d : String} {ty : FieldType}, Laid Z a0 C O n d → parseFieldDescriptor d = some ty → Fld Z h' b O n d (defaultValue ty)) → Rn w l R n0 F q Ls (.ref b :: S) h' (cs + 1) (ss + k)) : Rn w l R n0 F pc Ls S h cs ss := fun T locs X eT N => by
  subst hq
  obtain ⟨T', h', X', e', E, A, D, -, st⟩ := Jvm.RoadKit.newO X K.x K.z K.ow (K.hw _ hi) (K.hw _ hin) (K.hw _ hz) eT (g := mkF w.m pc Ls S) rfl (hb K.cd hd) hc hs
  obtain ⟨s₂, o, h1, r'⟩ := r _ h' rfl E A D T' _ X' e' N
  exact ⟨s₂, o, st _ h1, r'⟩
theorem Rn.newP (K : Cx w Z a0 own bytes ml rt nm) {aty : ArrayType} {x : Int32} {cap : Nat} (hi : Jvm.Cond.arrayClass (newarray.typeOf aty) ∈ tables_1) (hn : ¬ x < 0) (hcap : x.toNatClampNeg ≤ cap) (hb8 : cap * 8 ≤ 536870912) (hc : cs + 1 ≤ R.cells) (hs : ss + cap ≤ R.slots) {ad : String} (had : "[" ++ (newarray.typeOf aty).toString = ad) (hd : decode bytes pc = .ok (.newarray aty, 2)) (hq : pc + 2 = q)
    (r : ∀ b h' k, b = h.size → Ext h h' → Arv Z h' b k (newarray.typeOf aty) x [] (defaultValue (newarray.typeOf aty)) → Exa Z h' b ad → Rn w l R n0 F q Ls (.ref b :: S) h' (cs + 1) (ss + cap)) : Rn w l R n0 F pc Ls (.int x :: S) h cs ss := fun T locs X eT N => by
  subst hq
  obtain ⟨T', h', k, X', e', E, A, EA, st⟩ := newPE X K.x K.z (K.hw _ hi) eT (g := mkF w.m pc Ls (.int x :: S)) rfl (hb K.cd hd) rfl hn hcap hb8 hc hs had
  obtain ⟨s₂, o, h1, r'⟩ := r _ h' k rfl E (Arv.new A hn) EA T' _ X' e' N
  exact ⟨s₂, o, st _ h1, r'⟩
/-! calls -/
theorem nfs (K : Cx w Z a0 own bytes ml rt nm) {C : String} {y : MethodName} (i : Jvm.Cond.selects C y y ∈ tables_1) : NotFace w.s y := notFace_of_selects (args := #[]) (mvT K.z (K.hw _ i))
theorem Rn.virt (K : Cx w Z a0 own bytes ml rt nm) {index W : Nat} {y z : MethodName} {C : String} {b : Addr} {argsL rest : List Value} {bz : ByteArray} {mz : Nat} {rz : Option FieldType} {rm : Room} {Q' : Option Value → Heap → Prop}
    (i1 : Jvm.Cond.methodLink own index y ∈ tables_1) (i2 : Jvm.Cond.declares y ∈ tables_1) (nf : NotFace w.s y) (i3 : Jvm.Cond.selects C y z ∈ tables_1) (i4 : Jvm.Cond.instanceMethod z ∈ tables_1) (i5 : Jvm.Cond.code z bz mz rz ∈ tables_1) (i6 : Jvm.Cond.initialized z.cls ∈ tables_1)
    (hy : y.cls ≠ "java/lang/invoke/MethodHandle" ∧ y.cls ≠ "java/lang/invoke/VarHandle") (M : Met l Z z bz mz rz rm n0 [] (.ref b :: argsL).toArray h Q') (E : Exa Z h b C) (hf : rm.frames + 1 ≤ R.frames) (hlo : W + (mz + 11) + rm.locals ≤ R.locals)
    (hsz : Ls.size = ml) (hlen : ∀ sig, parseMethodDescriptor y.desc = some sig → argsL.length = sig.parameters.length) (hS : S = argsL.reverse ++ .ref b :: rest) (hW : (rest.map fun v => v.category).sum ≤ W)
    (hd : decode bytes pc = .ok (.invokevirtual index, 3)) (hq : pc + 3 = q) (hc : cs + rm.cells ≤ R.cells) (hs : ss + rm.slots ≤ R.slots)
    (r : ∀ v h', Q' v h' → Rn w l R n0 F q Ls (v.toList ++ rest) h' (cs + rm.cells) (ss + rm.slots)) : Rn w l R n0 F pc Ls S h cs ss := fun T locs X eT N => by
  subst hq hS
  obtain ⟨cq, kq, qa, qb, qc⟩ := isOf K.z eT E
  obtain ⟨v, _, ⟨T', L', k', n'⟩, -, X', ⟨Lc, hQ, l', y', z'⟩, st⟩ := X.virtualBack K.x (y := y) (z := z) K.ow (mvT K.z (K.hw _ i1)) (mvT K.z (K.hw _ i2)) nf (mvT K.z (K.hw _ i3)) (mvT K.z (K.hw _ i4)) hy (backOf (Q := fun v h L => Fr n0 L ∧ Q' v h) (W := W) M K.z (K.hw _ i5) (K.hw _ i6) hf hlo) qa qc (g := mkF w.m pc Ls (argsL.reverse ++ .ref b :: rest)) rfl (hsz.trans K.mx.symm) (Steps.refl _) (argsL := argsL) (rest := rest) hlen rfl (by show 2 * 0 + _ ≤ _; rw [Nat.mul_zero, Nat.zero_add]; exact hW) (hb K.cd hd) (fun _ _ => ⟨rfl, eT, hc, hs⟩)
  dsimp only [Pt.U, Pt.locs, Pt.cells, Pt.slots] at X' l' y' z' st hQ
  subst l' y' z'
  obtain ⟨s₂, o, h1, r'⟩ := r v T'.heap hQ.2 T' _ X' rfl (Fr.app N hQ.1)
  exact ⟨s₂, o, st.trans h1, r'⟩
theorem Rn.stat (K : Cx w Z a0 own bytes ml rt nm) {index W : Nat} {y : MethodName} {argsL rest : List Value} {bz : ByteArray} {mz : Nat} {rz : Option FieldType} {rm : Room} {Q' : Option Value → Heap → Prop}
    (i1 : Jvm.Cond.methodLink own index y ∈ tables_1) (i2 : Jvm.Cond.static y ∈ tables_1) (i5 : Jvm.Cond.code y bz mz rz ∈ tables_1) (i6 : Jvm.Cond.initialized y.cls ∈ tables_1)
    (hy : y.cls ≠ "java/lang/invoke/MethodHandle" ∧ y.cls ≠ "java/lang/invoke/VarHandle") (M : Met l Z y bz mz rz rm n0 [] argsL.toArray h Q') (hf : rm.frames + 1 ≤ R.frames) (hlo : W + (mz + 11) + rm.locals ≤ R.locals)
    (hsz : Ls.size = ml) (hlen : ∀ sig, parseMethodDescriptor y.desc = some sig → argsL.length = sig.parameters.length) (hS : S = argsL.reverse ++ rest) (hW : (rest.map fun v => v.category).sum ≤ W)
    (hd : decode bytes pc = .ok (.invokestatic index, 3)) (hq : pc + 3 = q) (hc : cs + rm.cells ≤ R.cells) (hs : ss + rm.slots ≤ R.slots)
    (r : ∀ v h', Q' v h' → Rn w l R n0 F q Ls (v.toList ++ rest) h' (cs + rm.cells) (ss + rm.slots)) : Rn w l R n0 F pc Ls S h cs ss := fun T locs X eT N => by
  subst hq hS
  obtain ⟨v, _, ⟨T', L', k', n'⟩, -, X', ⟨Lc, hQ, l', y', z'⟩, st⟩ := Jvm.LawKit.callS X K.x (y := y) K.ow (mvT K.z (K.hw _ i1)) (mvT K.z (K.hw _ i2)) (mvT K.z (K.hw _ i6)) (mvT K.z (K.hw _ i5)) hy (backOf (Q := fun v h L => Fr n0 L ∧ Q' v h) (W := W) M K.z (K.hw _ i5) (K.hw _ i6) hf hlo) (g := mkF w.m pc Ls (argsL.reverse ++ rest)) rfl (hsz.trans K.mx.symm) (argsL := argsL) (rest := rest) hlen rfl (by show 2 * 0 + _ ≤ _; rw [Nat.mul_zero, Nat.zero_add]; exact hW) (hb K.cd hd) (fun _ _ => ⟨rfl, eT, hc, hs⟩)
  dsimp only [Pt.U, Pt.locs, Pt.cells, Pt.slots] at X' l' y' z' st hQ
  subst l' y' z'
  obtain ⟨s₂, o, h1, r'⟩ := r v T'.heap hQ.2 T' _ X' rfl (Fr.app N hQ.1)
  exact ⟨s₂, o, st _ h1, r'⟩
theorem Rn.spec (K : Cx w Z a0 own bytes ml rt nm) {index W : Nat} {y : MethodName} {b : Addr} {argsL rest : List Value} {bz : ByteArray} {mz : Nat} {rm : Room} {Q' : Option Value → Heap → Prop}
    (hn : y.name = "<init>") (i1 : Jvm.Cond.methodLink own index y ∈ tables_1) (i4 : Jvm.Cond.instanceMethod y ∈ tables_1) (i5 : Jvm.Cond.code y bz mz none ∈ tables_1) (i6 : Jvm.Cond.initialized y.cls ∈ tables_1)
    (hy : y.cls ≠ "java/lang/invoke/MethodHandle" ∧ y.cls ≠ "java/lang/invoke/VarHandle") (M : Met l Z y bz mz none rm n0 [] (.ref b :: argsL).toArray h Q') (hf : rm.frames + 1 ≤ R.frames) (hlo : W + (mz + 11) + rm.locals ≤ R.locals)
    (hsz : Ls.size = ml) (hlen : ∀ sig, parseMethodDescriptor y.desc = some sig → argsL.length = sig.parameters.length) (hS : S = argsL.reverse ++ .ref b :: rest) (hW : (rest.map fun v => v.category).sum ≤ W)
    (hd : decode bytes pc = .ok (.invokespecial index, 3)) (hq : pc + 3 = q) (hc : cs + rm.cells ≤ R.cells) (hs : ss + rm.slots ≤ R.slots)
    (r : ∀ v h', Q' v h' → Rn w l R n0 F q Ls (v.toList ++ rest) h' (cs + rm.cells) (ss + rm.slots)) : Rn w l R n0 F pc Ls S h cs ss := fun T locs X eT N => by
  subst hq hS
  obtain ⟨v, _, ⟨T', L', k', n'⟩, -, X', ⟨Lc, hQ, l', y', z'⟩, st⟩ := X.specialBack K.x (y := y) hn K.ow (mvT K.z (K.hw _ i1)) (mvT K.z (K.hw _ i4)) (mvT K.z (K.hw _ i5)) hy (backOf (Q := fun v h L => Fr n0 L ∧ Q' v h) (W := W) M K.z (K.hw _ i5) (K.hw _ i6) hf hlo) (g := mkF w.m pc Ls (argsL.reverse ++ .ref b :: rest)) rfl (hsz.trans K.mx.symm) (Steps.refl _) (a := b) (argsL := argsL) (rest := rest) hlen rfl (by show 2 * 0 + _ ≤ _; rw [Nat.mul_zero, Nat.zero_add]; exact hW) (hb K.cd hd) (fun _ _ => ⟨rfl, eT, hc, hs⟩)
  dsimp only [Pt.U, Pt.locs, Pt.cells, Pt.slots] at X' l' y' z' st hQ
  subst l' y' z'
  obtain ⟨s₂, o, h1, r'⟩ := r v T'.heap hQ.2 T' _ X' rfl (Fr.app N hQ.1)
  exact ⟨s₂, o, st.trans h1, r'⟩
theorem Rn.initO (K : Cx w Z a0 own bytes ml rt nm) {index W : Nat} {b : Addr} (i1 : Jvm.Cond.methodLink own index Lib.objectInit ∈ tables_1) (i4 : Jvm.Cond.instanceMethod Lib.objectInit ∈ tables_1) (i5 : Jvm.Cond.code Lib.objectInit ⟨#[0xb1]⟩ 1 none ∈ tables_1)
    (hf : 1 ≤ R.frames) (hlo : W + 12 ≤ R.locals) (hsz : Ls.size = ml) (hW : (S.map fun v => v.category).sum ≤ W) (hd : decode bytes pc = .ok (.invokespecial index, 3)) (hq : pc + 3 = q) (r : Rn w l R n0 F q Ls S h cs ss) : Rn w l R n0 F pc Ls (.ref b :: S) h cs ss := fun T locs X eT N => by
  subst hq
  obtain ⟨T', X', e', st⟩ := Jvm.RoadKit.initO X K.x K.z K.ow (K.hw _ i1) (K.hw _ i4) (K.hw _ i5) eT (g := mkF w.m pc Ls (.ref b :: S)) rfl (hsz.trans K.mx.symm) rfl (hb K.cd hd) hf (W := W) (by show 2 * 0 + _ ≤ _; rw [Nat.mul_zero, Nat.zero_add]; exact hW) hlo
  obtain ⟨s₂, o, h1, r'⟩ := r T' locs X' e' N
  exact ⟨s₂, o, st _ h1, r'⟩
end OwnKit
section OwnKit2
variable {w : Wk} {l : Launch} {R : Room} {n0 : Nat} {F : Outcome → State → Prop} {Q : Option Value → Heap → Prop} {pc q : Nat} {Ls Ls' : Array Slot} {S : List Value} {h : Heap} {cs ss : Nat} {Z : State} {a0 : Array Value} {own : String} {bytes : ByteArray} {ml : Nat} {rt : Option FieldType} {nm : String}
theorem Rn.stepH {S' : List Value} (st : ∀ (T : State) (locs : List Loc), Stand w.p l w.e R w.s w.m w.a w.b w.t w.c T locs cs ss → T.heap = h → ∀ t, Steps w.p.tables w.e w.b (T.setTop (mkF w.m q Ls' S')) t → Steps w.p.tables w.e w.b (T.setTop (mkF w.m pc Ls S)) t)
    (k : Rn w l R n0 F q Ls' S' h cs ss) : Rn w l R n0 F pc Ls S h cs ss := fun T locs X eT N => by
  obtain ⟨s₂, o, h1, r⟩ := k T locs X eT N
  exact ⟨s₂, o, st T locs X eT _ h1, r⟩
/-! arrays, by Arv -/
section Arrays
variable {a : Addr} {k : ClassId} {z j : Int32} {vs : List Value} {d v : Value} {ty : FieldType}
theorem Rn.arraylength (K : Cx w Z a0 own bytes ml rt nm) (A : Arv Z h a k ty z vs d) (hd : decode bytes pc = .ok (.arraylength, 1)) (hq : pc + 1 = q) (r : Rn w l R n0 F q Ls (.int z :: S) h cs ss) : Rn w l R n0 F pc Ls (.ref a :: S) h cs ss := by
  subst hq
  obtain ⟨c, A1, A2, A3, A4, A5, A6⟩ := A
  refine Rn.stepH (fun T locs X eT t kt => ?_) r
  refine X.arraylength K.x (by rw [eT]; exact A1.1) (State.isArrayOf_alike K.z.alike A1.2.1) (g := mkF w.m pc Ls (.ref a :: S)) rfl rfl (hb K.cd hd) _ ?_
  rw [len_of A3 A4]
  exact kt
theorem Rn.caload (K : Cx w Z a0 own bytes ml rt nm) (A : Arv Z h a k .char z vs d) (hj : ¬ j < 0 ∧ j < z) (hv : vs.getD j.toNatClampNeg d = v) (hd : decode bytes pc = .ok (.caload, 1)) (hq : pc + 1 = q) (r : Rn w l R n0 F q Ls (v :: S) h cs ss) : Rn w l R n0 F pc Ls (.int j :: .ref a :: S) h cs ss := by
  subst hq
  obtain ⟨c, A1, A2, A3, A4, A5, A6⟩ := A
  exact Rn.stepH (fun T locs X eT t kt => X.caload K.x (by rw [eT]; exact A1.1) (State.isArrayOf_alike K.z.alike A1.2.1) A1.2.2 (inb_of A3 hj) (A5.at (inb_of A3 hj) hv) (g := mkF w.m pc Ls (.int j :: .ref a :: S)) rfl rfl (hb K.cd hd) _ kt) r
theorem Rn.baloadB (K : Cx w Z a0 own bytes ml rt nm) (A : Arv Z h a k .byte z vs d) (hj : ¬ j < 0 ∧ j < z) (hv : vs.getD j.toNatClampNeg d = v) (hd : decode bytes pc = .ok (.baload, 1)) (hq : pc + 1 = q) (r : Rn w l R n0 F q Ls (v :: S) h cs ss) : Rn w l R n0 F pc Ls (.int j :: .ref a :: S) h cs ss := by
  subst hq
  obtain ⟨c, A1, A2, A3, A4, A5, A6⟩ := A
  exact Rn.stepH (fun T locs X eT t kt => X.baloadBytes K.x (by rw [eT]; exact A1.1) (State.isArrayOf_alike K.z.alike A1.2.1) A1.2.2 (inb_of A3 hj) (A5.at (inb_of A3 hj) hv) (g := mkF w.m pc Ls (.int j :: .ref a :: S)) rfl rfl (hb K.cd hd) _ kt) r
theorem Rn.castore (K : Cx w Z a0 own bytes ml rt nm) (A : Arv Z h a k .char z vs d) {x : Int32} (hj : ¬ j < 0 ∧ j < z) {i : Nat} (hi : j.toNatClampNeg = i) (hi' : i < vs.length) (hg : n0 ≤ a) (hd : decode bytes pc = .ok (.castore, 1)) (hq : pc + 1 = q)
    (r : ∀ h', Wr h h' a i (.int (nar .char x)) → Arv Z h' a k .char z (vs.set i (.int (nar .char x))) d → Rn w l R n0 F q Ls S h' cs ss) : Rn w l R n0 F pc Ls (.int x :: .int j :: .ref a :: S) h cs ss := fun T locs X eT N => by
  subst hq hi
  obtain ⟨c, A1, A2, A3, A4, A5, A6⟩ := A
  obtain ⟨T', h', X', e', W, st⟩ := Jvm.RoadKit.stC X K.x K.z eT A1 (inb_of A3 hj) (g := mkF w.m pc Ls (.int x :: .int j :: .ref a :: S)) rfl rfl (hb K.cd hd)
  obtain ⟨s₂, o, h1, r'⟩ := r h' W (Arv.set A1 A2 A3 A4 A5 A6 (fits_nar_char _) W _ rfl hi') T' _ X' e' (Fr.snoc X' N hg)
  exact ⟨s₂, o, st _ h1, r'⟩
end Arrays
/-! switches -/
/-! more calls -/
theorem Rn.castY (K : Cx w Z a0 own bytes ml rt nm) {i : Nat} {C : String} {a : Addr} (hi : Jvm.Cond.classLink own i C ∈ tables_1) (I : Ins Z h a C true) (hd : decode bytes pc = .ok (.checkcast i, 3)) (hq : pc + 3 = q) (r : Rn w l R n0 F q Ls (.ref a :: S) h cs ss) : Rn w l R n0 F pc Ls (.ref a :: S) h cs ss := fun T locs X eT N => by
  subst hq
  obtain ⟨T', X', e', st⟩ := Jvm.RoadKit.castY X K.x K.z K.ow (K.hw _ hi) eT I (g := mkF w.m pc Ls (.ref a :: S)) rfl rfl (hb K.cd hd)
  obtain ⟨s₂, o, h1, r'⟩ := r T' locs X' e' N
  exact ⟨s₂, o, st _ h1, r'⟩
end OwnKit2
section OwnKit3
variable {w : Wk} {l : Launch} {R : Room} {n0 : Nat} {F : Outcome → State → Prop} {Q : Option Value → Heap → Prop} {pc q : Nat} {Ls Ls' : Array Slot} {S : List Value} {h : Heap} {cs ss : Nat} {Z : State} {a0 : Array Value} {own : String} {bytes : ByteArray} {ml : Nat} {rt : Option FieldType} {nm : String}
/-- a callee that a law of the library pays -/
def Pay (w : Wk) (l : Launch) (R : Room) (y : MethodName) (len W : Nat) (as' : Array Value) (h : Heap) (kc ks : Nat) (Qf : Option Value → Heap → List Loc → Prop) : Prop :=
  Back l R w.p w.e w.b w.s w.a y len W (fun P a => a = as' ∧ P.U.heap = h ∧ P.cells + kc ≤ R.cells ∧ P.slots + ks ≤ R.slots) (fun P _ v B => ∃ L, Qf v B.U.heap L ∧ B.locs = P.locs ++ L ∧ B.cells = P.cells + kc ∧ B.slots = P.slots + ks)
/-! arrays of arrays, clone, constants of floats, instanceof -/
theorem Rn.instY (K : Cx w Z a0 own bytes ml rt nm) {i : Nat} {C : String} {a : Addr} (hi : Jvm.Cond.classLink own i C ∈ tables_1) (I : Ins Z h a C true) (hd : decode bytes pc = .ok (.instanceof i, 3)) (hq : pc + 3 = q) (r : Rn w l R n0 F q Ls (.int 1 :: S) h cs ss) : Rn w l R n0 F pc Ls (.ref a :: S) h cs ss := fun T locs X eT N => by
  subst hq
  obtain ⟨T', X', e', st⟩ := Jvm.RoadKit.instY X K.x K.z K.ow (K.hw _ hi) eT I (g := mkF w.m pc Ls (.ref a :: S)) rfl rfl (hb K.cd hd)
  obtain ⟨s₂, o, h1, r'⟩ := r T' locs X' e' N
  exact ⟨s₂, o, st _ h1, r'⟩
end OwnKit3
section OwnKit4
variable {w : Wk} {l : Launch} {R : Room} {n0 : Nat} {F : Outcome → State → Prop} {Q : Option Value → Heap → Prop} {pc q : Nat} {Ls Ls' : Array Slot} {S : List Value} {h : Heap} {cs ss : Nat} {Z : State} {a0 : Array Value} {own : String} {bytes : ByteArray} {ml : Nat} {rt : Option FieldType} {nm : String} {a : Addr} {k : ClassId} {z j : Int32} {vs : List Value} {d v : Value}
theorem Rn.i2b (K : Cx w Z a0 own bytes ml rt nm) {x : Int32} (hd : decode bytes pc = .ok (.i2b, 1)) (hq : pc + 1 = q) (r : Rn w l R n0 F q Ls (.int x.toInt8.toInt32 :: S) h cs ss) : Rn w l R n0 F pc Ls (.int x :: S) h cs ss := by
  subst hq; exact Rn.step (fun T locs X t k => XS.i2b X.here K.x rfl (hb K.cd hd) rfl k) r
theorem Rn.bastoreB (K : Cx w Z a0 own bytes ml rt nm) (A : Arv Z h a k .byte z vs d) {x : Int32} (hj : ¬ j < 0 ∧ j < z) {i : Nat} (hi : j.toNatClampNeg = i) (hi' : i < vs.length) (hg : n0 ≤ a) (hd : decode bytes pc = .ok (.bastore, 1)) (hq : pc + 1 = q)
    (r : ∀ h', Wr h h' a i (.int (nar .byte x)) → Arv Z h' a k .byte z (vs.set i (.int (nar .byte x))) d → Rn w l R n0 F q Ls S h' cs ss) : Rn w l R n0 F pc Ls (.int x :: .int j :: .ref a :: S) h cs ss := fun T locs X eT N => by
  subst hq hi
  obtain ⟨c, A1, A2, A3, A4, A5, A6⟩ := A
  obtain ⟨T', h', X', e', W, st⟩ := Jvm.RoadKit.stB X K.x K.z eT A1 (inb_of A3 hj) (g := mkF w.m pc Ls (.int x :: .int j :: .ref a :: S)) rfl rfl (hb K.cd hd)
  obtain ⟨s₂, o, h1, r'⟩ := r h' W (Arv.set A1 A2 A3 A4 A5 A6 (fits_nar_byte _) W _ rfl hi') T' _ X' e' (Fr.snoc X' N hg)
  exact ⟨s₂, o, st _ h1, r'⟩
end OwnKit4
section OwnKit5
variable {w : Wk} {l : Launch} {R : Room} {n0 : Nat} {F : Outcome → State → Prop} {Q : Option Value → Heap → Prop} {pc q : Nat} {Ls Ls' : Array Slot} {S : List Value} {h : Heap} {cs ss : Nat} {Z : State} {a0 : Array Value} {own : String} {bytes : ByteArray} {ml : Nat} {rt : Option FieldType} {nm : String}
/-- what stands in the target after a copy -/
def cpd (vs ws : List Value) (o p n z : Nat) (d : Value) : List Value := (List.range z).map fun j => if p ≤ j ∧ j < p + n then vs.getD (o + (j - p)) d else ws.getD j d
/-- System.arraycopy between two arrays of one primitive kind -/
theorem Rn.acopy (K : Cx w Z a0 own bytes ml rt nm) {i W o p n : Nat} {jo jp jn za zb : Int32} {a b : Addr} {ka kb : ClassId} {ty : FieldType} {vs ws : List Value} {d : Value} (hty : ((Jvm.refKind ty != Jvm.refKind ty) || (!Jvm.refKind ty && ty != ty)) = false) (hpr : ty.isReference = false)
    (w1 : Jvm.Cond.methodLink own i ⟨"java/lang/System", "arraycopy", "(Ljava/lang/Object;ILjava/lang/Object;II)V"⟩ ∈ tables_1) (w2 : Jvm.Cond.native ⟨"java/lang/System", "arraycopy", "(Ljava/lang/Object;ILjava/lang/Object;II)V"⟩ ∈ tables_1) (w3 : Jvm.Cond.static ⟨"java/lang/System", "arraycopy", "(Ljava/lang/Object;ILjava/lang/Object;II)V"⟩ ∈ tables_1) (w4 : Jvm.Cond.initialized "java/lang/System" ∈ tables_1)
    (A : Arv Z h a ka ty za vs d) (B : Arv Z h b kb ty zb ws d) (ho : jo = Int32.ofNat o) (hp : jp = Int32.ofNat p) (hn : jn = Int32.ofNat n) (h4 : o + n ≤ za.toNatClampNeg) {z : Nat} (hz : zb.toNatClampNeg = z) (h5 : p + n ≤ z) (hg : n0 ≤ b)
    (hsz : Ls.size = ml) (hW : (S.map fun v => v.category).sum ≤ W) (hf : 1 ≤ R.frames) (hlo : W + 40 ≤ R.locals) (hd : decode bytes pc = .ok (.invokestatic i, 3)) (hq : pc + 3 = q)
    (r : ∀ h', Keep h h' [b] → Arv Z h' b kb ty zb (cpd vs ws o p n z d) d → Rn w l R n0 F q Ls S h' cs ss) : Rn w l R n0 F pc Ls (.int jn :: .int jp :: .ref b :: .int jo :: .ref a :: S) h cs ss := fun T locs X eT N => by
  subst hq hz
  obtain ⟨ca, A1, A2, A3, A4, A5, A6⟩ := A
  obtain ⟨cb, B1, B2, B3, B4, B5, B6⟩ := B
  have lz : ∀ z : Int32, z.toNatClampNeg < 2 ^ 31 := fun z => by have := Int32.toInt_lt z; have e : z.toNatClampNeg = z.toInt.toNat := rfl; omega
  have al : Z.vm.Alike T.vm := K.z.alike.trans X.warmed.alike
  have XA : Jvm.Free.XT.Arr ty a ca T := ⟨by rw [eT]; exact A1.1, State.isArrayOf_alike al A1.2.1, A1.2.2, by rw [A3]; exact lz za⟩
  have XB : Jvm.Free.XT.Arr ty b cb T := ⟨by rw [eT]; exact B1.1, State.isArrayOf_alike al B1.2.1, B1.2.2, by rw [B3]; exact lz zb⟩
  have gA : ∀ i, i < n → ca.slots.getD (o + i) .null = vs.getD (o + i) d := fun i hi => by
    have e := A5 (o + i) (by rw [A3]; omega)
    rw [Array.getD_eq_getD_getElem?, e]; rfl
  obtain ⟨T', B', X', ⟨P1, P2, P3⟩, b1, b2, b3, b4, st⟩ := X.acopy K.x (a := a) (b := b) (o := o) (q := p) (n := n) K.ow (fun d hd => by
      simp only [Jvm.Free.XT.acW, List.mem_cons, List.not_mem_nil, or_false] at hd
      rcases hd with rfl | rfl | rfl | rfl
      · exact mvT K.z (K.hw _ w1)
      · exact mvT K.z (K.hw _ w2)
      · exact mvT K.z (K.hw _ w3)
      · exact mvT K.z (K.hw _ w4)) XA XB hty ho hp hn (by rw [A3]; exact h4) (by rw [B3]; exact h5)
    (fun i hi => ⟨by rw [gA i hi]; exact A6 (o + i) (by rw [A3]; omega), fun q => by rw [hpr] at q; cases q⟩) (g := mkF w.m pc Ls (.int jn :: .int jp :: .ref b :: .int jo :: .ref a :: S)) rfl (hsz.trans K.mx.symm) rfl (hb K.cd hd) (W := W) (by show 2 * 0 + _ ≤ _; rw [Nat.mul_zero, Nat.zero_add]; exact hW) hf hlo
  have hb' : T'.heap[b]? = some B' := P1
  have KP : Keep h T'.heap [b] := by
    rw [eT] at P2 P3
    refine ⟨Nat.le_of_eq P3.symm, fun x c hx hn => by rw [P2 x (fun e => hn (by rw [e]; exact List.mem_singleton.mpr rfl))]; exact hx, fun x c hx => ?_⟩
    by_cases e : x = b
    · subst e
      cases B1.1.symm.trans hx
      exact ⟨B', hb', b1, b2, b3⟩
    · exact ⟨c, by rw [P2 x e]; exact hx, rfl, rfl, rfl⟩
  have GD : ∀ j, j < zb.toNatClampNeg → (cpd vs ws o p n zb.toNatClampNeg d).getD j d = if p ≤ j ∧ j < p + n then vs.getD (o + (j - p)) d else ws.getD j d := fun j hj => by
    unfold cpd
    rw [List.getD_eq_getElem?_getD, List.getElem?_map, List.getElem?_range hj]; rfl
  have AR : Arv Z T'.heap b kb ty zb (cpd vs ws o p n zb.toNatClampNeg d) d := by
    refine ⟨B', ⟨hb', ?_, by rw [b2]; exact B1.2.2⟩, b1.trans B2, b3.trans B3, B4, fun j hj => ?_, fun j hj => ?_⟩
    · obtain ⟨q1, kk, q2, q3⟩ := B1.2.1
      exact ⟨fun x => by rw [b2]; exact q1 x, kk, by rw [b1]; exact q2, q3⟩
    · rw [b3, B3] at hj
      rw [b4 j, GD j hj]
      by_cases u : p ≤ j ∧ j < p + n
      · rw [if_pos u, if_pos u, gA (j - p) (by omega)]
      · rw [if_neg u, if_neg u]; exact B5 j (by rw [B3]; exact hj)
    · rw [b3, B3] at hj
      rw [GD j hj]
      by_cases u : p ≤ j ∧ j < p + n
      · rw [if_pos u]; exact A6 _ (by rw [A3]; omega)
      · rw [if_neg u]; exact B6 j (by rw [B3]; exact hj)
  obtain ⟨s₂, o', h1, r'⟩ := r T'.heap KP AR T' _ X' rfl (Fr.app N (fun y hy => by
    unfold copyLocs at hy
    obtain ⟨k, -, rfl⟩ := List.mem_map.mp hy
    exact hg))
  exact ⟨s₂, o', st _ h1, r'⟩
/-! a call of the superclass's method; words that the sheet says of another method of that class -/
theorem own_same {y y2 : MethodName} {C : String} (hd : (Jvm.Cond.declares y).before a0 Z = true) (hd2 : (Jvm.Cond.declares y2).before a0 Z = true) (hs : (Jvm.Cond.selects C y2 y2).before a0 Z = true) (hc : y2.cls = y.cls) (hy : y.cls ≠ "java/lang/invoke/MethodHandle" ∧ y.cls ≠ "java/lang/invoke/VarHandle") : (Jvm.Cond.sameMethod y.cls y.cls y.name y.desc).before a0 Z = true := by
  obtain ⟨r0, r, hn, -⟩ := Cond.declares_spec hd
  obtain ⟨r2, _, hn2, -⟩ := Cond.declares_spec hd2
  obtain ⟨kr, hk, hni⟩ := notFace_of_selects hs r2 hn2
  have c1 := findClass_of_methodNamed hn
  have c2 := findClass_of_methodNamed hn2
  rw [hc] at c2
  have e : r2.cls = r0.cls := Option.some.inj (c2.symm.trans c1)
  have hf := State.methodFound?_of_named hn hy
  have hn' : Z.methodNamed? ⟨y.cls, y.name, y.desc⟩ = some r0 := hn
  rw [e] at hk
  simp [Cond.before, Cond.holds, Cond.value, c1, hf, hn', hk, hni]
theorem own_nf (K : Cx w Z a0 own bytes ml rt nm) {y y2 : MethodName} {C : String} (i2 : Jvm.Cond.declares y2 ∈ tables_1) (i3 : Jvm.Cond.selects C y2 y2 ∈ tables_1) (hc : y2.cls = y.cls) : NotFace w.s y := fun r0 hn => by
  obtain ⟨r2, _, hn2, -⟩ := Cond.declares_spec (mvT (args := w.a) K.z (K.hw _ i2))
  obtain ⟨kr, hk, hni⟩ := notFace_of_selects (mvT (args := w.a) K.z (K.hw _ i3)) r2 hn2
  have c1 := findClass_of_methodNamed hn
  have c2 := findClass_of_methodNamed hn2
  rw [hc] at c2
  have e : r2.cls = r0.cls := Option.some.inj (c2.symm.trans c1)
  exact ⟨kr, e ▸ hk, hni⟩
theorem Rn.sup (K : Cx w Z a0 own bytes ml rt nm) {index W : Nat} {y y2 : MethodName} {C C2 : String} {b : Addr} {argsL rest : List Value} {bz : ByteArray} {mz : Nat} {rz : Option FieldType} {rm : Room} {Q' : Option Value → Heap → Prop}
    (hn : y.name ≠ "<init>") (i1 : Jvm.Cond.methodLink own index y ∈ tables_1) (i2 : Jvm.Cond.declares y ∈ tables_1) (i2' : Jvm.Cond.declares y2 ∈ tables_1) (i3 : Jvm.Cond.selects C2 y2 y2 ∈ tables_1) (hcl : y2.cls = y.cls) (i4 : Jvm.Cond.instanceMethod y ∈ tables_1) (i7 : Jvm.Cond.superclass own y.cls ∈ tables_1) (i5 : Jvm.Cond.code y bz mz rz ∈ tables_1) (i6 : Jvm.Cond.initialized y.cls ∈ tables_1)
    (hy : y.cls ≠ "java/lang/invoke/MethodHandle" ∧ y.cls ≠ "java/lang/invoke/VarHandle") (M : Met l Z y bz mz rz rm n0 [] (.ref b :: argsL).toArray h Q') (E : Ins Z h b C true) (hf : rm.frames + 1 ≤ R.frames) (hlo : W + (mz + 11) + rm.locals ≤ R.locals)
    (hsz : Ls.size = ml) (hlen : ∀ sig, parseMethodDescriptor y.desc = some sig → argsL.length = sig.parameters.length) (hS : S = argsL.reverse ++ .ref b :: rest) (hW : (rest.map fun v => v.category).sum ≤ W)
    (hd : decode bytes pc = .ok (.invokespecial index, 3)) (hq : pc + 3 = q) (hc : cs + rm.cells ≤ R.cells) (hs : ss + rm.slots ≤ R.slots)
    (r : ∀ v h', Q' v h' → Rn w l R n0 F q Ls (v.toList ++ rest) h' (cs + rm.cells) (ss + rm.slots)) : Rn w l R n0 F pc Ls S h cs ss := fun T locs X eT N => by
  subst hq hS
  obtain ⟨v, _, ⟨T', L', k', n'⟩, -, X', ⟨Lc, hQ, l', y', z'⟩, st⟩ := Jvm.RoadKit.superBack X K.x K.z (y := y) K.ow (K.hw _ i1) (own_same (K.hw _ i2) (K.hw _ i2') (K.hw _ i3) hcl hy) (K.hw _ i4) (K.hw _ i7) hn (backOf (Q := fun v h L => Fr n0 L ∧ Q' v h) (W := W) M K.z (K.hw _ i5) (K.hw _ i6) hf hlo) eT E (g := mkF w.m pc Ls (argsL.reverse ++ .ref b :: rest)) rfl (hsz.trans K.mx.symm) (K.hw _ i5) (argsL := argsL) (rest := rest) hlen rfl (by show 2 * 0 + _ ≤ _; rw [Nat.mul_zero, Nat.zero_add]; exact hW) (hb K.cd hd) (fun _ _ => ⟨rfl, eT, hc, hs⟩)
  dsimp only [Pt.U, Pt.locs, Pt.cells, Pt.slots] at X' l' y' z' st hQ
  subst l' y' z'
  obtain ⟨s₂, o, h1, r'⟩ := r v T'.heap hQ.2 T' _ X' rfl (Fr.app N hQ.1)
  exact ⟨s₂, o, st.trans h1, r'⟩
theorem Rn.ishl (K : Cx w Z a0 own bytes ml rt nm) {x y : Int32} (hd : decode bytes pc = .ok (.ishl, 1)) (hq : pc + 1 = q) (r : Rn w l R n0 F q Ls (.int (x <<< (y &&& 31)) :: S) h cs ss) : Rn w l R n0 F pc Ls (.int y :: .int x :: S) h cs ss := by
  subst hq; exact Rn.step (fun T locs X t k => XS.ishl X.here K.x rfl (hb K.cd hd) rfl k) r
theorem own_self (K : Cx w Z a0 own bytes ml rt nm) {y : MethodName} {C : String} (i4 : Jvm.Cond.instanceMethod y ∈ tables_1) (i3 : Jvm.Cond.selects C y y ∈ tables_1) (i7 : Jvm.Cond.privateMethod y ∈ tables_1) (hy : y.cls ≠ "java/lang/invoke/MethodHandle" ∧ y.cls ≠ "java/lang/invoke/VarHandle") : (Jvm.Cond.selects y.cls y y).before w.a w.s = true := by
  obtain ⟨mk, methM, hn, hm, -⟩ := Cond.instanceMethod_spec (mvT (args := w.a) K.z (K.hw _ i4))
  obtain ⟨kr, hk, hni⟩ := notFace_of_selects (mvT (args := w.a) K.z (K.hw _ i3)) mk hn
  exact selects_self_of_private (findClass_of_methodNamed hn) hk hni (Cond.privateMethod_at (mvP K.z (K.hw _ i7) (args := #[]))) (mvT K.z (K.hw _ i4)) hy
theorem Rn.privC (K : Cx w Z a0 own bytes ml rt nm) {index W : Nat} {y : MethodName} {C C2 : String} {b : Addr} {argsL rest : List Value} {bz : ByteArray} {mz : Nat} {rz : Option FieldType} {rm : Room} {Q' : Option Value → Heap → Prop}
    (i1 : Jvm.Cond.methodLink own index y ∈ tables_1) (i4 : Jvm.Cond.instanceMethod y ∈ tables_1) (i3 : Jvm.Cond.selects C2 y y ∈ tables_1) (i7 : Jvm.Cond.privateMethod y ∈ tables_1) (i5 : Jvm.Cond.code y bz mz rz ∈ tables_1) (i6 : Jvm.Cond.initialized y.cls ∈ tables_1)
    (hy : y.cls ≠ "java/lang/invoke/MethodHandle" ∧ y.cls ≠ "java/lang/invoke/VarHandle") (M : Met l Z y bz mz rz rm n0 [] (.ref b :: argsL).toArray h Q') (E : Exa Z h b C) (hf : rm.frames + 1 ≤ R.frames) (hlo : W + (mz + 11) + rm.locals ≤ R.locals)
    (hsz : Ls.size = ml) (hlen : ∀ sig, parseMethodDescriptor y.desc = some sig → argsL.length = sig.parameters.length) (hS : S = argsL.reverse ++ .ref b :: rest) (hW : (rest.map fun v => v.category).sum ≤ W)
    (hd : decode bytes pc = .ok (.invokevirtual index, 3)) (hq : pc + 3 = q) (hc : cs + rm.cells ≤ R.cells) (hs : ss + rm.slots ≤ R.slots)
    (r : ∀ v h', Q' v h' → Rn w l R n0 F q Ls (v.toList ++ rest) h' (cs + rm.cells) (ss + rm.slots)) : Rn w l R n0 F pc Ls S h cs ss := fun T locs X eT N => by
  subst hq hS
  obtain ⟨cq, q1, q2⟩ := E.cell
  obtain ⟨v, _, ⟨T', L', k', n'⟩, -, X', ⟨Lc, hQ, l', y', z'⟩, st⟩ := X.privateBack K.x (y := y) K.ow (mvT K.z (K.hw _ i1)) (mvT K.z (K.hw _ i4)) (own_self K i4 i3 i7 hy) (Cond.privateMethod_at (mvP K.z (K.hw _ i7) (args := #[]))) (mvT K.z (K.hw _ i5)) hy (backOf (Q := fun v h L => Fr n0 L ∧ Q' v h) (W := W) M K.z (K.hw _ i5) (K.hw _ i6) hf hlo) (g := mkF w.m pc Ls (argsL.reverse ++ .ref b :: rest)) rfl (hsz.trans K.mx.symm) (Steps.refl _) (a := b) (by rw [eT]; exact q1) q2 (argsL := argsL) (rest := rest) hlen rfl (by show 2 * 0 + _ ≤ _; rw [Nat.mul_zero, Nat.zero_add]; exact hW) (hb K.cd hd) (fun _ _ => ⟨rfl, eT, hc, hs⟩)
  dsimp only [Pt.U, Pt.locs, Pt.cells, Pt.slots] at X' l' y' z' st hQ
  subst l' y' z'
  obtain ⟨s₂, o, h1, r'⟩ := r v T'.heap hQ.2 T' _ X' rfl (Fr.app N hQ.1)
  exact ⟨s₂, o, st.trans h1, r'⟩
end OwnKit5
def Enm (Z : State) (h : Heap) (C : String) (a : Addr) (k : Int32) : Prop := Exa Z h a C ∧ Fld Z h a "java/lang/Enum" "ordinal" "I" (.int k)
theorem Enm.ne {Z : State} {h : Heap} {C D : String} {a b : Addr} {k j : Int32} (A : Enm Z h C a k) (B : Enm Z h D b j) (q : k ≠ j) : a ≠ b := Fld.ne A.2 B.2 (fun e => q (Value.int.inj e))
section OwnKitS
open Jvm.Free.Exc in
/-! walks that may intern literals: vm0 is the tables at hand; the words on constants are kept up (CHv, CHr, Safe: Shelf42/RW14) -/
abbrev Wk.on (w : Wk) (vm : Vm) : Wk := (w.1, w.2.1, w.2.2.1.setVm vm, w.2.2.2.1, w.2.2.2.2.1, w.2.2.2.2.2.1, w.2.2.2.2.2.2.1, w.2.2.2.2.2.2.2)
def Sd (w : Wk) (Z : State) (EL : List (String × Nat)) (sf : List Addr) (vm0 : Vm) (h : Heap) : Prop :=
  (∃ k0, w.s.Since vm0 k0 ∧ k0 ≤ h.size) ∧ Z.Warmed39 vm0 ∧ CHr Z EL w.s.vm w.s.heap vm0 h ∧ ∀ x ∈ sf, Safe Z EL vm0 h x ∧ x < h.size
abbrev FinS (w : Wk) (R : Room) (n0 : Nat) (Z : State) (EL : List (String × Nat)) (Q : Option Value → Heap → Prop) (o : Outcome) (s₂ : State) : Prop :=
  ∃ v L, o = .returned v ∧ (Fr n0 L ∧ Q v s₂.heap) ∧ CHr Z EL w.s.vm w.s.heap s₂.vm s₂.heap ∧ ReturnedEndW w.s o s₂ L R.cells R.slots
def RnS (w : Wk) (l : Launch) (R : Room) (n0 : Nat) (F : Outcome → State → Prop) (Z : State) (EL : List (String × Nat)) (sf : List Addr) (pc : Nat) (Ls : Array Slot) (S : List Value) (h : Heap) (cs ss : Nat) : Prop :=
  ∀ vm0, Sd w Z EL sf vm0 h → Rn (w.on vm0) l R n0 F pc Ls S h cs ss
def MetS (l : Launch) (Z : State) (EL : List (String × Nat)) (y : MethodName) (bytes : ByteArray) (ml : Nat) (rt : Option FieldType) (rm : Room) (n0 : Nat) (ws : List Jvm.Cond) (sf : List Addr) (as' : Array Value) (h0 : Heap) (Q : Option Value → Heap → Prop) : Prop :=
  MetFree l y (head1 (Jvm.Cond.code y bytes ml rt :: ws) rm) (fun a U => a = as' ∧ Z.Warmed39 U.vm ∧ U.heap = h0 ∧ CHv Z EL U.vm h0 ∧ ∀ x ∈ sf, Safe Z EL U.vm h0 x ∧ x < h0.size) (fun _ _ _ _ _ => True)
    (fun _ U o U' => ∃ v L, o = .returned v ∧ (Fr n0 L ∧ Q v U'.heap) ∧ CHr Z EL U.vm U.heap U'.vm U'.heap ∧ ReturnedEndW U o U' L rm.cells rm.slots)
variable {w : Wk} {l : Launch} {R : Room} {n0 : Nat} {F : Outcome → State → Prop} {Q : Option Value → Heap → Prop} {pc q : Nat} {Ls Ls' : Array Slot} {S S' : List Value} {h h' : Heap} {cs ss cs' ss' : Nat} {Z : State} {a0 : Array Value} {own : String} {bytes : ByteArray} {ml : Nat} {rt : Option FieldType} {nm : String} {EL : List (String × Nat)} {sf sf' : List Addr} {vm0 : Vm}
theorem Cx.on (K : Cx w Z a0 own bytes ml rt nm) (hs : Sd w Z EL sf vm0 h) : Cx (w.on vm0) Z a0 own bytes ml rt nm := by
  obtain ⟨⟨k0, hS, -⟩, hZ, -, -⟩ := hs
  exact ⟨K.1, K.2.1, K.2.2.1, (by show vm0.findClass own = some w.m.cls; rw [hS.1.alike.findClass]; exact K.ow), hZ, K.ret, K.lk, K.nme, K.hw⟩
/-- x may be written: it is no cell of a booked literal -/
def Wok (Z : State) (h : Heap) (sf : List Addr) (x : Addr) : Prop := x ∈ sf ∨ ∃ C, Exa Z h x C ∧ C ≠ "java/lang/String" ∧ C ≠ "[B"
theorem Wok.safe {x : Addr} (hs : Sd w Z EL sf vm0 h) (W : Wok Z h sf x) : Safe Z EL vm0 h x := by
  rcases W with q | ⟨C, E, h1, h2⟩
  · exact (hs.2.2.2 x q).1
  · exact Safe.exa hs.2.1.alike E h1 h2
theorem Sd.ext (hs : Sd w Z EL sf vm0 h) (E : Ext h h') : Sd w Z EL sf vm0 h' := by
  obtain ⟨⟨k0, hS, hk⟩, hZ, hC, hF⟩ := hs
  exact ⟨⟨k0, hS, Nat.le_trans hk E.1⟩, hZ, hC.trans (CHr.ext E hC.1), fun x hx => ⟨(hF x hx).1.ext E hC.1, Nat.lt_of_lt_of_le (hF x hx).2 E.1⟩⟩
theorem Sd.add {b : Addr} (hs : Sd w Z EL sf vm0 h) (E : Ext h h') (hb : b = h.size) (hb' : b < h'.size) : Sd w Z EL (b :: sf) vm0 h' := by
  have h1 := hs.ext E
  refine ⟨h1.1, h1.2.1, h1.2.2.1, fun x hx => (List.mem_cons.mp hx).elim (fun e => ?_) (h1.2.2.2 x)⟩
  subst e
  exact ⟨(Safe.new (Nat.le_of_eq hb.symm)).ext E hs.2.2.1.1, hb'⟩
theorem Sd.wr {a : Addr} {sl : Nat} {v : Value} (hs : Sd w Z EL sf vm0 h) (W : Wr h h' a sl v) (k : Wok Z h sf a) : Sd w Z EL sf vm0 h' := by
  have sa := k.safe hs
  obtain ⟨⟨k0, hS, hk⟩, hZ, hC, hF⟩ := hs
  exact ⟨⟨k0, hS, by rw [W.size]; exact hk⟩, hZ, hC.trans (CHr.wr W sa hC.1), fun x hx => ⟨Safe.wr W sa hC.1 (hF x hx).1, by rw [W.size]; exact (hF x hx).2⟩⟩
theorem Sd.keep {ws : List Addr} (hs : Sd w Z EL sf vm0 h) (K : Keep h h' ws) (k : ∀ x ∈ ws, Wok Z h sf x) : Sd w Z EL sf vm0 h' := by
  have sa : ∀ x ∈ ws, Safe Z EL vm0 h x := fun x hx => (k x hx).safe hs
  obtain ⟨⟨k0, hS, hk⟩, hZ, hC, hF⟩ := hs
  exact ⟨⟨k0, hS, Nat.le_trans hk K.1⟩, hZ, hC.trans (CHr.keep K sa hC.1), fun x hx => ⟨Safe.keep K sa hC.1 (hF x hx).1, Nat.lt_of_lt_of_le (hF x hx).2 K.1⟩⟩
theorem Sd.less (hs : Sd w Z EL sf vm0 h) (k : ∀ x ∈ sf', x ∈ sf) : Sd w Z EL sf' vm0 h := ⟨hs.1, hs.2.1, hs.2.2.1, fun x hx => hs.2.2.2 x (k x hx)⟩
/-- from one vm to a later one -/
theorem Sd.later {vm1 : Vm} (hs : Sd w Z EL sf vm0 h) (h1 : ∃ k1, w.s.Since vm1 k1 ∧ k1 ≤ h'.size) (hZ1 : Z.Warmed39 vm1) (hC : CHr Z EL vm0 h vm1 h') : Sd w Z EL sf vm1 h' := by
  obtain ⟨-, -, hC0, hF⟩ := hs
  exact ⟨h1, hZ1, hC0.trans hC, fun x hx => ⟨hC.safe (hF x hx).2 (hF x hx).1, Nat.lt_of_lt_of_le (hF x hx).2 hC.2.1⟩⟩
/-! lifting -/
theorem RnS.lift (f : ∀ vm0, Sd w Z EL sf vm0 h → Rn (w.on vm0) l R n0 F q Ls' S' h cs ss → Rn (w.on vm0) l R n0 F pc Ls S h cs ss) (r : RnS w l R n0 F Z EL sf q Ls' S' h cs ss) : RnS w l R n0 F Z EL sf pc Ls S h cs ss := fun vm0 hs => f vm0 hs (r vm0 hs)
theorem RnS.liftW {a : Addr} {sl : Nat} {v : Value} (k : Wok Z h sf a) (f : ∀ vm0, Sd w Z EL sf vm0 h → (∀ h', Wr h h' a sl v → Rn (w.on vm0) l R n0 F q Ls' S' h' cs ss) → Rn (w.on vm0) l R n0 F pc Ls S h cs ss) (r : ∀ h', Wr h h' a sl v → RnS w l R n0 F Z EL sf q Ls' S' h' cs ss) : RnS w l R n0 F Z EL sf pc Ls S h cs ss :=
  fun vm0 hs => f vm0 hs (fun h' W => r h' W vm0 (hs.wr W k))
/-- a callee that interns nothing -/
theorem RnS.liftC {Q' : Option Value → Heap → Prop} {rest : List Value} (f : ∀ vm0, Sd w Z EL sf vm0 h → (∀ v h', Q' v h' → Rn (w.on vm0) l R n0 F q Ls (v.toList ++ rest) h' cs' ss') → Rn (w.on vm0) l R n0 F pc Ls S h cs ss)
    (k : ∀ v h', Q' v h' → ∃ ws, Keep h h' ws ∧ ∀ x ∈ ws, Wok Z h sf x) (r : ∀ v h', Q' v h' → RnS w l R n0 F Z EL sf q Ls (v.toList ++ rest) h' cs' ss') : RnS w l R n0 F Z EL sf pc Ls S h cs ss :=
  fun vm0 hs => f vm0 hs (fun v h' hq => by obtain ⟨ws, K, kk⟩ := k v h' hq; exact r v h' hq vm0 (hs.keep K kk))
theorem RnS.liftWP {a : Addr} {sl : Nat} {v : Value} {P : Heap → Prop} (k : Wok Z h sf a) (f : ∀ vm0, Sd w Z EL sf vm0 h → (∀ h', Wr h h' a sl v → P h' → Rn (w.on vm0) l R n0 F q Ls' S' h' cs ss) → Rn (w.on vm0) l R n0 F pc Ls S h cs ss) (r : ∀ h', Wr h h' a sl v → P h' → RnS w l R n0 F Z EL sf q Ls' S' h' cs ss) : RnS w l R n0 F Z EL sf pc Ls S h cs ss :=
  fun vm0 hs => f vm0 hs (fun h' W p => r h' W p vm0 (hs.wr W k))
theorem Sd.keepN {ws bs : List Addr} (hs : Sd w Z EL sf vm0 h) (K : Keep h h' ws) (k : ∀ x ∈ ws, Wok Z h sf x) (hb : ∀ b ∈ bs, h.size ≤ b ∧ b < h'.size) : Sd w Z EL (bs ++ sf) vm0 h' := by
  have h1 := hs.keep K k
  have sa : ∀ x ∈ ws, Safe Z EL vm0 h x := fun x hx => (k x hx).safe hs
  exact ⟨h1.1, h1.2.1, h1.2.2.1, fun x hx => (List.mem_append.mp hx).elim (fun hx => ⟨Safe.keep K sa hs.2.2.1.1 (Safe.new (hb x hx).1), (hb x hx).2⟩) (h1.2.2.2 x)⟩
/-- a callee that interns nothing; what it made may be written from here on -/
theorem RnS.liftCN {Q' : Option Value → Heap → Prop} {rest : List Value} (f : ∀ vm0, Sd w Z EL sf vm0 h → (∀ v h', Q' v h' → Rn (w.on vm0) l R n0 F q Ls (v.toList ++ rest) h' cs' ss') → Rn (w.on vm0) l R n0 F pc Ls S h cs ss) (k : ∀ v h', Q' v h' → ∃ ws, Keep h h' ws ∧ ∀ x ∈ ws, Wok Z h sf x)
    (r : ∀ v h', Q' v h' → ∃ bs : List Addr, (∀ b ∈ bs, h.size ≤ b ∧ b < h'.size) ∧ RnS w l R n0 F Z EL (bs ++ sf) q Ls (v.toList ++ rest) h' cs' ss') : RnS w l R n0 F Z EL sf pc Ls S h cs ss :=
  fun vm0 hs => f vm0 hs (fun v h' hq => by obtain ⟨ws, K, kk⟩ := k v h' hq; obtain ⟨bs, hb, rr⟩ := r v h' hq; exact rr vm0 (hs.keepN K kk hb))
/-! making: what is made is safe -/
theorem RnS.newO (K : Cx w Z a0 own bytes ml rt nm) {i k : Nat} {C : String} (hi : Jvm.Cond.classLink own i C ∈ tables_1) (hin : Jvm.Cond.instantiable C k ∈ tables_1) (hz : Jvm.Cond.initialized C ∈ tables_1) (hc : cs + 1 ≤ R.cells) (hs : ss + k ≤ R.slots) (hd : decode bytes pc = .ok (.new i, 3)) (hq : pc + 3 = q)
    (r : ∀ b h', b = h.size → Ext h h' → Exa Z h' b C → (∀ {O n d : String} {ty : FieldType}, Laid Z a0 C O n d → parseFieldDescriptor d = some ty → Fld Z h' b O n d (defaultValue ty)) → RnS w l R n0 F Z EL (b :: sf) q Ls (.ref b :: S) h' (cs + 1) (ss + k)) : RnS w l R n0 F Z EL sf pc Ls S h cs ss :=
  fun vm0 hv => Rn.newO (K.on hv) hi hin hz hc hs hd hq (fun b h' e E A D => r b h' e E A D vm0 (hv.add E e A.lt))
theorem RnS.newP (K : Cx w Z a0 own bytes ml rt nm) {aty : ArrayType} {x : Int32} {cap : Nat} (hi : Jvm.Cond.arrayClass (newarray.typeOf aty) ∈ tables_1) (hn : ¬ x < 0) (hcap : x.toNatClampNeg ≤ cap) (hb8 : cap * 8 ≤ 536870912) (hc : cs + 1 ≤ R.cells) (hs : ss + cap ≤ R.slots) {ad : String} (had : "[" ++ (newarray.typeOf aty).toString = ad) (hd : decode bytes pc = .ok (.newarray aty, 2)) (hq : pc + 2 = q)
    (r : ∀ b h' k, b = h.size → Ext h h' → Arv Z h' b k (newarray.typeOf aty) x [] (defaultValue (newarray.typeOf aty)) → Exa Z h' b ad → RnS w l R n0 F Z EL (b :: sf) q Ls (.ref b :: S) h' (cs + 1) (ss + cap)) : RnS w l R n0 F Z EL sf pc Ls (.int x :: S) h cs ss :=
  fun vm0 hv => Rn.newP (K.on hv) hi hn hcap hb8 hc hs had hd hq (fun b h' k e E A D => r b h' k e E A D vm0 (hv.add E e A.lt))
/-! ldc of a String constant, read -/
theorem RnS.ldcS (K : Cx w Z a0 own bytes ml rt nm) {i n : Nat} {text : String} {vs : List Value} {z : Int32} (hi : Jvm.Cond.stringLink own i text ∈ tables_1) (wS : ∀ a ∈ Bundle.stringAtoms, a.before a0 Z = true) (hEL : EW Z a0 EL) (hmem : (own, i) ∈ EL) (ht : (∀ c ∈ text.toList, c.toNat < 256) ∧ text.toList.map (fun c => Value.int (Jvm.Lit.byteI c.toNat.toUInt16)) = vs) (hz : ¬ z < 0) (hl : z.toNatClampNeg = vs.length)
    (hn : 4 * text.toList.length ≤ n) (hbig : n ≤ 536870912) (hc : cs + 2 ≤ R.cells) (hsl : ss + (n + 4) ≤ R.slots) (hd : decode bytes pc = .ok (.ldc i, 2)) (hq : pc + 2 = q)
    (r : ∀ a b k h', Ext h h' → Exa Z h' a "java/lang/String" → Fld Z h' a "java/lang/String" "coder" "B" (.int 0) → Fld Z h' a "java/lang/String" "value" "[B" (.ref b) → Arv Z h' b k .byte z vs (.int 0) → (∀ x ∈ sf, x ≠ a ∧ x ≠ b) → RnS w l R n0 F Z EL sf q Ls (.ref a :: S) h' (cs + 2) (ss + (n + 4))) : RnS w l R n0 F Z EL sf pc Ls S h cs ss := fun vm0 hs T locs X eT N => by
  subst hq
  obtain ⟨k0, hS, hk⟩ := hs.1
  obtain ⟨a, T', h', k1, b, k, X', e', E, hS1, hk1, hZ1, -, q1, q2, q3, q4, -, -, hC, -, hne, st⟩ := ldcCH (s := w.s) (vm0 := vm0) X K.x hs.2.1 (K.on hs).ow (K.hw _ hi) wS eT hS hk hEL hmem hs.2.2.1.1 ht hz hl (g := mkF w.m pc Ls S) rfl (hb K.cd hd) hn hbig hc hsl
  have hs1 := hs.later ⟨k1, hS1, hk1⟩ hZ1 hC
  obtain ⟨s₂, o, h1, r'⟩ := r a b k h' E q1 q2 q3 q4 (fun x hx => hne x (hs1.2.2.2 x hx).1) T'.vm hs1 T' _ X' e' N
  exact ⟨s₂, o, st _ h1, r'⟩
/-! the ends -/
theorem RnS.fin {v : Option Value} {T : State} {locs : List Loc} {fs : List Frame} (hEL : EW Z a0 EL) (hs : Sd w Z EL sf vm0 h) (X : Stand w.p l w.e R (w.s.setVm vm0) w.m w.a w.b w.t w.c T locs cs ss) (eT : T.heap = h) (N : Fr n0 locs) (hW : (w.s.setVm vm0).WarmedH (T.setFrames fs).vm) (hsame : (w.s.setVm vm0).sameButNew ({ T.setFrames fs with vm := (w.s.setVm vm0).vm } : State) locs cs ss) (hc : cs ≤ R.cells) (hsl : ss ≤ R.slots) (hQ : Q v h) :
    FinS w R n0 Z EL Q (.returned v) (T.setFrames fs) := by
  obtain ⟨⟨k0, hS, hk⟩, hZ, hC, -⟩ := hs
  have hS2 : w.s.Since (T.setFrames fs).vm (T.setFrames fs).heap.size := hS.trans (hW.since _) (by show k0 ≤ T.heap.size; rw [eT]; exact hk)
  have hC2 : CHr Z EL vm0 h T.vm h := CHv.at X hZ hEL hC.1
  refine ⟨v, locs, rfl, ⟨N, by rw [← eT] at hQ; exact hQ⟩, ?_, ⟨_, rfl⟩, hS2.1, hS2.2, (hsame.setVm w.s.vm).mono hc hsl⟩
  have := hC.trans hC2
  rw [← eT] at this
  exact this
theorem RnS.retN (K : Cx w Z a0 own bytes ml rt nm) (hEL : EW Z a0 EL) {x : Int32} (t : FieldType) (ht : rt = some t) (ht' : t = .boolean ∨ t = .byte ∨ t = .char ∨ t = .short) (hd : decode bytes pc = .ok (.ireturn, 1)) (hc : cs ≤ R.cells) (hsl : ss ≤ R.slots) (hQ : Q (some (.int (nar t x))) h) : RnS w l R n0 (FinS w R n0 Z EL Q) Z EL sf pc Ls (.int x :: S) h cs ss := fun vm0 hs T locs X eT N => by
  obtain ⟨fs, hr, hrun, hended, hW, hsame⟩ := X.leave (v := some (.int (nar t x))) (fun h => by rw [K.ret, ht] at h; cases h) K.lk
  exact ⟨_, _, Jvm.RoadKit.retN X K.x (K.ret.trans ht) ht' (hb K.cd hd) hr, hrun, hended, RnS.fin hEL hs X eT N hW hsame hc hsl hQ⟩
theorem RnS.retA (K : Cx w Z a0 own bytes ml rt nm) (hEL : EW Z a0 EL) {v : Value} (t : FieldType) (hv : v.isRef = true) (ht : rt = some t) (ht' : t.isReference = true) (hd : decode bytes pc = .ok (.areturn, 1)) (hc : cs ≤ R.cells) (hsl : ss ≤ R.slots) (hQ : Q (some v) h) : RnS w l R n0 (FinS w R n0 Z EL Q) Z EL sf pc Ls [v] h cs ss := fun vm0 hs T locs X eT N => by
  obtain ⟨fs, hr, hrun, hended, hW, hsame⟩ := X.leave (v := some v) (fun h => by rw [K.ret, ht] at h; cases h) K.lk
  exact ⟨_, _, X.areturnOut K.x hv (K.ret.trans ht) ht' (hb K.cd hd) hr, hrun, hended, RnS.fin hEL hs X eT N hW hsame hc hsl hQ⟩
theorem RnS.retV (K : Cx w Z a0 own bytes ml rt nm) (hEL : EW Z a0 EL) (ht : rt = none) (hd : decode bytes pc = .ok (.return_, 1)) (hc : cs ≤ R.cells) (hsl : ss ≤ R.slots) (hQ : Q none h) : RnS w l R n0 (FinS w R n0 Z EL Q) Z EL sf pc Ls [] h cs ss := fun vm0 hs T locs X eT N => by
  obtain ⟨fs, hr, hrun, hended, hW, hsame⟩ := X.leave (v := none) (fun _ => rfl) K.lk
  exact ⟨_, _, X.returnOut K.x (K.ret.trans ht) (hb K.cd hd) hr, hrun, hended, RnS.fin hEL hs X eT N hW hsame hc hsl hQ⟩
/-! contracts -/
theorem MetS.intro {y : MethodName} {as' : Array Value} {h0 : Heap} {rm : Room} {ws : List Jvm.Cond} (hp : plainFor y = true) (hw : ∀ d ∈ tables_1, d.before a0 Z = true) (ef : ∀ m, entryFrame m as' ml = mkF m 0 Ls [])
    (k : ∀ w : Wk, Cx w Z a0 y.cls bytes ml rt y.name → RnS w l rm n0 (FinS w rm n0 Z EL Q) Z EL sf 0 Ls [] h0 0 0) : MetS l Z EL y bytes ml rt rm n0 ws sf as' h0 Q := by
  refine MetFree.of_bodySF hp hisR ?_
  intro p e s m args below meth c s₁ Bd hml0 hP hK
  obtain ⟨ha, hZ, hh, hC, hF⟩ := hP
  subst ha
  have e0 : s₁.heap = h0 := by rw [← hh, Bd.state]; rfl
  obtain ⟨s₂, o, h1, h2, h3, h4⟩ := k (p, e, s, m, args, below, meth, c) ⟨Bd.exec, Bd.bytes, hml0, findClass_of_methodNamed Bd.named, hZ, Bd.returns, Bd.notSynchronized, (name_of_methodNamed Bd.named Bd.method).1, hw⟩ s.vm ⟨⟨0, (State.WarmedH.refl s).since 0, Nat.zero_le _⟩, hZ, by show CHr Z EL s.vm s.heap s.vm h0; rw [hh]; exact CHr.refl hC, hF⟩ s₁ [] (Stand.of_body Bd) e0 (Fr.nil n0)
  exact ⟨s₂, o, castTop (ef m) h1, h2, h3, h4⟩
theorem own_backS {y : MethodName} {bz : ByteArray} {mz : Nat} {rz : Option FieldType} {rm : Room} {len W : Nat} {as' : Array Value} {Q' : Option Value → Heap → Prop} (ksf : ∀ x ∈ sf', x ∈ sf) (M : MetS l Z EL y bz mz rz rm n0 [] sf' as' h Q') (hs : Sd w Z EL sf vm0 h) (wc : (Jvm.Cond.code y bz mz rz).before a0 Z = true) (wz : (Jvm.Cond.initialized y.cls).before a0 Z = true) (hf : rm.frames + 1 ≤ R.frames) (hl : W + (mz + 11) + rm.locals ≤ R.locals) (hEL : EW Z a0 EL) :
    BackS l R w.p w.e w.b (w.s.setVm vm0) w.a y len W (fun A a => a = as' ∧ A.U.heap = h ∧ A.cells + rm.cells ≤ R.cells ∧ A.slots + rm.slots ≤ R.slots)
      (fun A _ v B => ∃ L, (Fr n0 L ∧ Q' v B.U.heap) ∧ B.locs = A.locs ++ L ∧ B.cells = A.cells + rm.cells ∧ B.slots = A.slots + rm.slots ∧ CHr Z EL vm0 h B.U.vm B.U.heap) :=
  BackS.of_freeW (bytes := bz) (maxL := mz) (ret := rz) (E := fun _ first o t L k n => k = rm.cells ∧ n = rm.slots ∧ (∃ v, o = .returned v ∧ Fr n0 L ∧ Q' v t.heap) ∧ CHr Z EL first.vm first.heap t.vm t.heap) M hf hl
    (fun m meth c A a Y hp => have hU : Z.Warmed39 A.U.vm := wtrans (s := w.s.setVm vm0) hs.2.1 Y.warmed
      ⟨by show (Jvm.Cond.and _ .tt).before a A.U = true; rw [Cond.before_and, mv hU wc]; rfl, mv hU wc, mv hU wz, hp.2.2.1, hp.2.2.2⟩)
    (fun m meth c A a g mk Y hp => ⟨hp.1, wtrans (s := w.s.setVm vm0) hs.2.1 Y.warmed, hp.2.1, (CHv.at Y hs.2.1 hEL hs.2.2.1.1).1, fun x hx' => have hx := ksf x hx'; ⟨(CHv.at Y hs.2.1 hEL hs.2.2.1.1).safe (hs.2.2.2 x hx).2 (hs.2.2.2 x hx).1, (hs.2.2.2 x hx).2⟩⟩) (fun _ _ _ _ _ _ _ _ _ => trivial)
    (fun _ _ _ _ ⟨v, L, h1, h2, h3, h4⟩ => ⟨L, _, _, h4, rfl, rfl, ⟨v, h1, h2⟩, h3⟩)
    (fun m meth c A a g mk v t L k n Y hp _ _ ⟨e1, e2, ⟨v', e3, e4⟩, e5⟩ => by
      cases e3; subst e1 e2
      refine ⟨L, e4, rfl, rfl, rfl, (CHv.at Y hs.2.1 hEL hs.2.2.1.1).trans ?_⟩
      rw [← hp.2.1]; exact e5)
theorem RnS.specS (K : Cx w Z a0 own bytes ml rt nm) (hEL : EW Z a0 EL) {index W : Nat} {y : MethodName} {b : Addr} {argsL rest : List Value} {bz : ByteArray} {mz : Nat} {rm : Room} {Q' : Option Value → Heap → Prop}
    (hn : y.name = "<init>") (i1 : Jvm.Cond.methodLink own index y ∈ tables_1) (i4 : Jvm.Cond.instanceMethod y ∈ tables_1) (i5 : Jvm.Cond.code y bz mz none ∈ tables_1) (i6 : Jvm.Cond.initialized y.cls ∈ tables_1)
    (hy : y.cls ≠ "java/lang/invoke/MethodHandle" ∧ y.cls ≠ "java/lang/invoke/VarHandle") (ksf : ∀ x ∈ sf', x ∈ sf) (M : MetS l Z EL y bz mz none rm n0 [] sf' (.ref b :: argsL).toArray h Q') (hf : rm.frames + 1 ≤ R.frames) (hlo : W + (mz + 11) + rm.locals ≤ R.locals)
    (hsz : Ls.size = ml) (hlen : ∀ sig, parseMethodDescriptor y.desc = some sig → argsL.length = sig.parameters.length) (hS : S = argsL.reverse ++ .ref b :: rest) (hW : (rest.map fun v => v.category).sum ≤ W)
    (hd : decode bytes pc = .ok (.invokespecial index, 3)) (hq : pc + 3 = q) (hc : cs + rm.cells ≤ R.cells) (hsl : ss + rm.slots ≤ R.slots)
    (r : ∀ v h', Q' v h' → RnS w l R n0 F Z EL sf q Ls (v.toList ++ rest) h' (cs + rm.cells) (ss + rm.slots)) : RnS w l R n0 F Z EL sf pc Ls S h cs ss := fun vm0 hs T locs X eT N => by
  subst hq hS
  have K2 := K.on hs
  obtain ⟨v, _, ⟨T', L', k', n'⟩, -, X', hS1, hle, ⟨Lc, hQ, l', y', z', hC⟩, st⟩ := X.specialBackS K.x (y := y) hn K2.ow (mvT hs.2.1 (K.hw _ i1)) (mvT hs.2.1 (K.hw _ i4)) (mvT hs.2.1 (K.hw _ i5)) hy (own_backS (w := w) (W := W) ksf M hs (K.hw _ i5) (K.hw _ i6) hf hlo hEL) (g := mkF w.m pc Ls (argsL.reverse ++ .ref b :: rest)) rfl (hsz.trans K.mx.symm) (Steps.refl _) (a := b) (argsL := argsL) (rest := rest) hlen rfl (by show 2 * 0 + _ ≤ _; rw [Nat.mul_zero, Nat.zero_add]; exact hW) (hb K.cd hd) (fun _ _ => ⟨rfl, eT, hc, hsl⟩)
  dsimp only [Pt.U, Pt.locs, Pt.cells, Pt.slots] at X' l' y' z' st hQ hC hS1 hle
  subst l' y' z'
  obtain ⟨k0, hS0, hk⟩ := hs.1
  have hs1 := hs.later ⟨_, hS0.trans hS1 (Nat.le_trans hk (by rw [← eT]; exact hle)), Nat.le_refl _⟩ (State.Warmed39.trans (t := w.s.setVm vm0) hs.2.1 hS1.1) hC
  obtain ⟨s₂, o, h1, r'⟩ := r v T'.heap hQ.2 T'.vm hs1 T' _ X' rfl (Fr.app N hQ.1)
  exact ⟨s₂, o, st.trans h1, r'⟩
theorem RnS.virtS (K : Cx w Z a0 own bytes ml rt nm) (hEL : EW Z a0 EL) {index W : Nat} {y z : MethodName} {C : String} {b : Addr} {argsL rest : List Value} {bz : ByteArray} {mz : Nat} {rz : Option FieldType} {rm : Room} {Q' : Option Value → Heap → Prop}
    (i1 : Jvm.Cond.methodLink own index y ∈ tables_1) (i2 : Jvm.Cond.declares y ∈ tables_1) (nf : ∀ vm0, Sd w Z EL sf vm0 h → NotFace (w.s.setVm vm0) y) (i3 : Jvm.Cond.selects C y z ∈ tables_1) (i4 : Jvm.Cond.instanceMethod z ∈ tables_1) (i5 : Jvm.Cond.code z bz mz rz ∈ tables_1) (i6 : Jvm.Cond.initialized z.cls ∈ tables_1)
    (hy : y.cls ≠ "java/lang/invoke/MethodHandle" ∧ y.cls ≠ "java/lang/invoke/VarHandle") (ksf : ∀ x ∈ sf', x ∈ sf) (M : MetS l Z EL z bz mz rz rm n0 [] sf' (.ref b :: argsL).toArray h Q') (E : Exa Z h b C) (hf : rm.frames + 1 ≤ R.frames) (hlo : W + (mz + 11) + rm.locals ≤ R.locals)
    (hsz : Ls.size = ml) (hlen : ∀ sig, parseMethodDescriptor y.desc = some sig → argsL.length = sig.parameters.length) (hS : S = argsL.reverse ++ .ref b :: rest) (hW : (rest.map fun v => v.category).sum ≤ W)
    (hd : decode bytes pc = .ok (.invokevirtual index, 3)) (hq : pc + 3 = q) (hc : cs + rm.cells ≤ R.cells) (hsl : ss + rm.slots ≤ R.slots)
    (r : ∀ v h', Q' v h' → RnS w l R n0 F Z EL sf q Ls (v.toList ++ rest) h' (cs + rm.cells) (ss + rm.slots)) : RnS w l R n0 F Z EL sf pc Ls S h cs ss := fun vm0 hs T locs X eT N => by
  subst hq hS
  have K2 := K.on hs
  obtain ⟨cq, kq, qa, qb, qc⟩ := isOf (s := w.s.setVm vm0) hs.2.1 eT E
  obtain ⟨v, _, ⟨T', L', k', n'⟩, -, X', hS1, hle, ⟨Lc, hQ, l', y', z', hC⟩, st⟩ := X.virtualBackS K.x (y := y) (z := z) K2.ow (mvT hs.2.1 (K.hw _ i1)) (mvT hs.2.1 (K.hw _ i2)) (nf vm0 hs) (mvT hs.2.1 (K.hw _ i3)) (mvT hs.2.1 (K.hw _ i4)) hy (own_backS (w := w) (W := W) ksf M hs (K.hw _ i5) (K.hw _ i6) hf hlo hEL) qa qc (g := mkF w.m pc Ls (argsL.reverse ++ .ref b :: rest)) rfl (hsz.trans K.mx.symm) (Steps.refl _) (argsL := argsL) (rest := rest) hlen rfl (by show 2 * 0 + _ ≤ _; rw [Nat.mul_zero, Nat.zero_add]; exact hW) (hb K.cd hd) (fun _ _ => ⟨rfl, eT, hc, hsl⟩)
  dsimp only [Pt.U, Pt.locs, Pt.cells, Pt.slots] at X' l' y' z' st hQ hC hS1 hle
  subst l' y' z'
  obtain ⟨k0, hS0, hk⟩ := hs.1
  have hs1 := hs.later ⟨_, hS0.trans hS1 (Nat.le_trans hk (by rw [← eT]; exact hle)), Nat.le_refl _⟩ (State.Warmed39.trans (t := w.s.setVm vm0) hs.2.1 hS1.1) hC
  obtain ⟨s₂, o, h1, r'⟩ := r v T'.heap hQ.2 T'.vm hs1 T' _ X' rfl (Fr.app N hQ.1)
  exact ⟨s₂, o, st.trans h1, r'⟩
theorem nfsS (K : Cx w Z a0 own bytes ml rt nm) {C : String} {y : MethodName} (i : Jvm.Cond.selects C y y ∈ tables_1) (vm0 : Vm) (hs : Sd w Z EL sf vm0 h) : NotFace (w.s.setVm vm0) y := notFace_of_selects (args := #[]) (mvT hs.2.1 (K.hw _ i))
theorem own_kp0 {Z : State} {h : Heap} {sf : List Addr} : ∃ ws, Keep h h ws ∧ ∀ x ∈ ws, Wok Z h sf x := ⟨[], Keep.refl h _, fun _ hx => by cases hx⟩
theorem own_kp1 {Z : State} {h h' : Heap} {sf : List Addr} (K : Keep h h' []) : ∃ ws, Keep h h' ws ∧ ∀ x ∈ ws, Wok Z h sf x := ⟨[], K, fun _ hx => by cases hx⟩
end OwnKitS

theorem own_m255 (x : Int32) : ∃ k : Fin 256, (x &&& (255 : Int32)) = Int32.ofNat k := by
  have h2 : (x.toBitVec &&& 255#32).toNat = x.toBitVec.toNat % 256 := by
    rw [BitVec.toNat_and]; exact Nat.and_two_pow_sub_one_eq_mod _ 8
  have h3 : x.toBitVec.toNat % 256 < 256 := Nat.mod_lt _ (by decide)
  refine ⟨⟨x.toBitVec.toNat % 256, h3⟩, ?_⟩
  apply Int32.toBitVec_inj.mp
  apply BitVec.eq_of_toNat_eq
  show (x.toBitVec &&& 255#32).toNat = _
  rw [h2]; simp [Int32.toBitVec_ofNat', BitVec.toNat_ofNat]; omega
theorem own_ch2 (x : Int32) : ¬ (255 : Int32) < nar .char ((x &&& (255 : Int32)).toUInt32.toUInt16.toUInt32.toInt32) := by
  obtain ⟨k, e⟩ := own_m255 x
  rw [e]
  exact (by decide +kernel : ∀ k : Fin 256, ¬ (255 : Int32) < nar .char ((Int32.ofNat k).toUInt32.toUInt16.toUInt32.toInt32)) k

theorem own_ne0 {args : Array Value} {s : State} {t : Term} {k : Int32} (ev : t.eval args s none [] s = some (.int k)) (h : (Jvm.Cond.not (Jvm.Cond.eq t (.int (0 : Int32)))).value args s none s [] = some true) : ¬ k = 0 := by
  rintro rfl
  simp [Cond.value, Term.eval, ev] at h

theorem own_kpL {Z : State} {h h' : Heap} {sf ws : List Addr} (K : Keep h h' ws) (k : ∀ x ∈ ws, x ∈ sf) : ∃ ws, Keep h h' ws ∧ ∀ x ∈ ws, Wok Z h sf x := ⟨ws, K, fun x hx => Or.inl (k x hx)⟩

theorem oT {α : Type _} {l : List α} {a : α} (i : Nat) (h : l[i]? = some a) : a ∈ l := List.mem_of_getElem? h
theorem oL {a b : Nat} (h : Nat.ble a b = true) : a ≤ b := Nat.le_of_ble_eq_true h
abbrev oR (a b c d : Nat) : Room := { frames := a, cells := b, slots := c, locals := d }
abbrev oH (Z : State) (a0 : Array Value) : Prop := ∀ d ∈ tables_1, d.before a0 Z = true
abbrev oZ : Value := .int (0 : Int32)
abbrev oB (x : Int32) : Int32 := nar .byte x.toInt8.toInt32
abbrev oB0 (x : Int32) : Int32 := nar .byte (x >>> ((0 : Int32) &&& 31)).toInt8.toInt32
abbrev oB8 (x : Int32) : Int32 := nar .byte (x >>> ((8 : Int32) &&& 31)).toInt8.toInt32
abbrev oSC (Z : State) (cst : Int32) : Prop := Sta Z Z.heap "java/lang/String" "COMPACT_STRINGS" "Z" (.int cst)
abbrev oSQ (Z : State) (fv : Value) : Prop := Sta Z Z.heap "jdk/internal/util/Preconditions" "SIOOBE_FORMATTER" "Ljava/util/function/BiFunction;" fv
abbrev oM0 : MethodName := ⟨"java/lang/String", "coder", "()B"⟩
abbrev oM1 : MethodName := ⟨"java/lang/String", "isEmpty", "()Z"⟩
abbrev oM2 : MethodName := ⟨"com/example/fuseline/fuseline/model/Account", "ownAccount", "()Z"⟩
abbrev oM3 : MethodName := ⟨"java/lang/String", "length", "()I"⟩
abbrev oM4 : MethodName := ⟨"java/lang/StringUTF16", "compress", "([CI[BII)I"⟩
abbrev oM5 : MethodName := ⟨"java/lang/StringUTF16", "compress", "([CII)[B"⟩
abbrev oM6 : MethodName := ⟨"java/lang/StringUTF16", "coderFromArrayLen", "([BI)B"⟩
abbrev oM7 : MethodName := ⟨"java/lang/String", "<init>", "([CIILjava/lang/Void;)V"⟩
abbrev oM8 : MethodName := ⟨"java/lang/String", "<init>", "([C)V"⟩
abbrev oM9 : MethodName := ⟨"java/lang/Record", "<init>", "()V"⟩
abbrev oM10 : MethodName := ⟨"java/util/Objects", "requireNonNull", "(Ljava/lang/Object;Ljava/lang/String;)Ljava/lang/Object;"⟩
abbrev oM11 : MethodName := ⟨"java/lang/Math", "max", "(II)I"⟩
abbrev oM12 : MethodName := ⟨"java/lang/Math", "min", "(II)I"⟩
abbrev oM13 : MethodName := ⟨"jdk/internal/util/ArraysSupport", "newLength", "(III)I"⟩
abbrev oM14 : MethodName := ⟨"java/lang/AbstractStringBuilder", "<init>", "(I)V"⟩
abbrev oM15 : MethodName := ⟨"java/lang/StringBuilder", "<init>", "()V"⟩
abbrev oM16 : MethodName := ⟨"java/lang/AbstractStringBuilder", "inflateIfNeededFor", "(Ljava/lang/String;)V"⟩
abbrev oM17 : MethodName := ⟨"java/util/Arrays", "copyOf", "([BI)[B"⟩
abbrev oM18 : MethodName := ⟨"java/lang/AbstractStringBuilder", "ensureCapacityInternal", "(I)V"⟩
abbrev oM19 : MethodName := ⟨"java/lang/AbstractStringBuilder", "newCapacity", "(I)I"⟩
abbrev oM20 : MethodName := ⟨"java/lang/String", "getBytes", "([BIB)V"⟩
abbrev oM21 : MethodName := ⟨"java/lang/AbstractStringBuilder", "putStringAt", "(ILjava/lang/String;)V"⟩
abbrev oM22 : MethodName := ⟨"java/lang/AbstractStringBuilder", "append", "(Ljava/lang/String;)Ljava/lang/AbstractStringBuilder;"⟩
abbrev oM23 : MethodName := ⟨"java/lang/StringBuilder", "append", "(Ljava/lang/String;)Ljava/lang/StringBuilder;"⟩
abbrev oM24 : MethodName := ⟨"java/lang/AbstractStringBuilder", "getValue", "()[B"⟩
abbrev oM25 : MethodName := ⟨"java/lang/AbstractStringBuilder", "isLatin1", "()Z"⟩
abbrev oM26 : MethodName := ⟨"java/lang/AbstractStringBuilder", "length", "()I"⟩
abbrev oM27 : MethodName := ⟨"java/lang/StringBuilder", "length", "()I"⟩
abbrev oM28 : MethodName := ⟨"java/util/Arrays", "checkLength", "(II)V"⟩
abbrev oM29 : MethodName := ⟨"java/util/Arrays", "copyOfRangeByte", "([BII)[B"⟩
abbrev oM30 : MethodName := ⟨"java/util/Arrays", "copyOfRange", "([BII)[B"⟩
abbrev oM31 : MethodName := ⟨"java/lang/String", "<init>", "(Ljava/lang/AbstractStringBuilder;Ljava/lang/Void;)V"⟩
abbrev oM32 : MethodName := ⟨"java/lang/String", "<init>", "(Ljava/lang/StringBuilder;)V"⟩
abbrev oM33 : MethodName := ⟨"java/lang/StringBuilder", "toString", "()Ljava/lang/String;"⟩
abbrev oM34 : MethodName := ⟨"java/lang/StringLatin1", "equals", "([B[B)Z"⟩
abbrev oM35 : MethodName := ⟨"java/lang/String", "equals", "(Ljava/lang/Object;)Z"⟩
abbrev oM36 : MethodName := ⟨"com/example/fuseline/fuseline/model/Account", "<init>", "(Ljava/lang/String;Ljava/lang/String;)V"⟩
abbrev oM37 : MethodName := ⟨"com/example/fuseline/fuseline/model/Account", "describe", "()Ljava/lang/String;"⟩
abbrev oC0 : ByteArray := jdk_42_method_152_code
abbrev oC1 : ByteArray := jdk_42_method_55_code
abbrev oC2 : ByteArray := prog_24_method_2_code
abbrev oC3 : ByteArray := jdk_42_method_54_code
abbrev oC4 : ByteArray := jdk_52_method_21_code
abbrev oC5 : ByteArray := jdk_52_method_16_code
abbrev oC6 : ByteArray := jdk_52_method_15_code
abbrev oC7 : ByteArray := jdk_42_method_149_code
abbrev oC8 : ByteArray := jdk_42_method_3_code
abbrev oC9 : ByteArray := jdk_30_method_1_code
abbrev oC10 : ByteArray := jdk_31_method_11_code
abbrev oC11 : ByteArray := jdk_29_method_65_code
abbrev oC12 : ByteArray := jdk_29_method_69_code
abbrev oC13 : ByteArray := jdk_48_method_27_code
abbrev oC14 : ByteArray := jdk_68_method_2_code
abbrev oC15 : ByteArray := jdk_67_method_1_code
abbrev oC16 : ByteArray := jdk_68_method_71_code
abbrev oC17 : ByteArray := jdk_65_method_121_code
abbrev oC18 : ByteArray := jdk_68_method_9_code
abbrev oC19 : ByteArray := jdk_68_method_10_code
abbrev oC20 : ByteArray := jdk_42_method_147_code
abbrev oC21 : ByteArray := jdk_68_method_73_code
abbrev oC22 : ByteArray := jdk_68_method_22_code
abbrev oC23 : ByteArray := jdk_67_method_7_code
abbrev oC24 : ByteArray := jdk_68_method_64_code
abbrev oC25 : ByteArray := jdk_68_method_68_code
abbrev oC26 : ByteArray := jdk_68_method_6_code
abbrev oC27 : ByteArray := jdk_67_method_93_code
abbrev oC28 : ByteArray := jdk_65_method_131_code
abbrev oC29 : ByteArray := jdk_65_method_133_code
abbrev oC30 : ByteArray := jdk_65_method_132_code
abbrev oC31 : ByteArray := jdk_42_method_150_code
abbrev oC32 : ByteArray := jdk_42_method_53_code
abbrev oC33 : ByteArray := jdk_67_method_42_code
abbrev oC34 : ByteArray := jdk_43_method_13_code
abbrev oC35 : ByteArray := jdk_42_method_66_code
abbrev oC36 : ByteArray := prog_24_method_1_code
abbrev oC37 : ByteArray := prog_24_method_3_code
abbrev oK0 (w : Wk) (Z : State) (a0 : Array Value) : Prop := Cx w Z a0 "java/lang/String" jdk_42_method_152_code 1 (some .byte) "coder"
abbrev oK1 (w : Wk) (Z : State) (a0 : Array Value) : Prop := Cx w Z a0 "java/lang/String" jdk_42_method_55_code 1 (some .boolean) "isEmpty"
abbrev oK2 (w : Wk) (Z : State) (a0 : Array Value) : Prop := Cx w Z a0 "com/example/fuseline/fuseline/model/Account" prog_24_method_2_code 1 (some .boolean) "ownAccount"
abbrev oK3 (w : Wk) (Z : State) (a0 : Array Value) : Prop := Cx w Z a0 "java/lang/String" jdk_42_method_54_code 1 (some .int) "length"
abbrev oK4 (w : Wk) (Z : State) (a0 : Array Value) : Prop := Cx w Z a0 "java/lang/StringUTF16" jdk_52_method_21_code 7 (some .int) "compress"
abbrev oK5 (w : Wk) (Z : State) (a0 : Array Value) : Prop := Cx w Z a0 "java/lang/StringUTF16" jdk_52_method_16_code 6 (some (.array .byte)) "compress"
abbrev oK6 (w : Wk) (Z : State) (a0 : Array Value) : Prop := Cx w Z a0 "java/lang/StringUTF16" jdk_52_method_15_code 2 (some .byte) "coderFromArrayLen"
abbrev oK7 (w : Wk) (Z : State) (a0 : Array Value) : Prop := Cx w Z a0 "java/lang/String" jdk_42_method_149_code 6 none "<init>"
abbrev oK8 (w : Wk) (Z : State) (a0 : Array Value) : Prop := Cx w Z a0 "java/lang/String" jdk_42_method_3_code 2 none "<init>"
abbrev oK9 (w : Wk) (Z : State) (a0 : Array Value) : Prop := Cx w Z a0 "java/lang/Record" jdk_30_method_1_code 1 none "<init>"
abbrev oK10 (w : Wk) (Z : State) (a0 : Array Value) : Prop := Cx w Z a0 "java/util/Objects" jdk_31_method_11_code 2 (some (.object "java/lang/Object")) "requireNonNull"
abbrev oK11 (w : Wk) (Z : State) (a0 : Array Value) : Prop := Cx w Z a0 "java/lang/Math" jdk_29_method_65_code 2 (some .int) "max"
abbrev oK12 (w : Wk) (Z : State) (a0 : Array Value) : Prop := Cx w Z a0 "java/lang/Math" jdk_29_method_69_code 2 (some .int) "min"
abbrev oK13 (w : Wk) (Z : State) (a0 : Array Value) : Prop := Cx w Z a0 "jdk/internal/util/ArraysSupport" jdk_48_method_27_code 4 (some .int) "newLength"
abbrev oK14 (w : Wk) (Z : State) (a0 : Array Value) : Prop := Cx w Z a0 "java/lang/AbstractStringBuilder" jdk_68_method_2_code 2 none "<init>"
abbrev oK15 (w : Wk) (Z : State) (a0 : Array Value) : Prop := Cx w Z a0 "java/lang/StringBuilder" jdk_67_method_1_code 1 none "<init>"
abbrev oK16 (w : Wk) (Z : State) (a0 : Array Value) : Prop := Cx w Z a0 "java/lang/AbstractStringBuilder" jdk_68_method_71_code 2 none "inflateIfNeededFor"
abbrev oK17 (w : Wk) (Z : State) (a0 : Array Value) : Prop := Cx w Z a0 "java/util/Arrays" jdk_65_method_121_code 3 (some (.array .byte)) "copyOf"
abbrev oK18 (w : Wk) (Z : State) (a0 : Array Value) : Prop := Cx w Z a0 "java/lang/AbstractStringBuilder" jdk_68_method_9_code 3 none "ensureCapacityInternal"
abbrev oK19 (w : Wk) (Z : State) (a0 : Array Value) : Prop := Cx w Z a0 "java/lang/AbstractStringBuilder" jdk_68_method_10_code 6 (some .int) "newCapacity"
abbrev oK20 (w : Wk) (Z : State) (a0 : Array Value) : Prop := Cx w Z a0 "java/lang/String" jdk_42_method_147_code 4 none "getBytes"
abbrev oK21 (w : Wk) (Z : State) (a0 : Array Value) : Prop := Cx w Z a0 "java/lang/AbstractStringBuilder" jdk_68_method_73_code 3 none "putStringAt"
abbrev oK22 (w : Wk) (Z : State) (a0 : Array Value) : Prop := Cx w Z a0 "java/lang/AbstractStringBuilder" jdk_68_method_22_code 3 (some (.object "java/lang/AbstractStringBuilder")) "append"
abbrev oK23 (w : Wk) (Z : State) (a0 : Array Value) : Prop := Cx w Z a0 "java/lang/StringBuilder" jdk_67_method_7_code 2 (some (.object "java/lang/StringBuilder")) "append"
abbrev oK24 (w : Wk) (Z : State) (a0 : Array Value) : Prop := Cx w Z a0 "java/lang/AbstractStringBuilder" jdk_68_method_64_code 1 (some (.array .byte)) "getValue"
abbrev oK25 (w : Wk) (Z : State) (a0 : Array Value) : Prop := Cx w Z a0 "java/lang/AbstractStringBuilder" jdk_68_method_68_code 1 (some .boolean) "isLatin1"
abbrev oK26 (w : Wk) (Z : State) (a0 : Array Value) : Prop := Cx w Z a0 "java/lang/AbstractStringBuilder" jdk_68_method_6_code 1 (some .int) "length"
abbrev oK27 (w : Wk) (Z : State) (a0 : Array Value) : Prop := Cx w Z a0 "java/lang/StringBuilder" jdk_67_method_93_code 1 (some .int) "length"
abbrev oK28 (w : Wk) (Z : State) (a0 : Array Value) : Prop := Cx w Z a0 "java/util/Arrays" jdk_65_method_131_code 2 none "checkLength"
abbrev oK29 (w : Wk) (Z : State) (a0 : Array Value) : Prop := Cx w Z a0 "java/util/Arrays" jdk_65_method_133_code 5 (some (.array .byte)) "copyOfRangeByte"
abbrev oK30 (w : Wk) (Z : State) (a0 : Array Value) : Prop := Cx w Z a0 "java/util/Arrays" jdk_65_method_132_code 3 (some (.array .byte)) "copyOfRange"
abbrev oK31 (w : Wk) (Z : State) (a0 : Array Value) : Prop := Cx w Z a0 "java/lang/String" jdk_42_method_150_code 5 none "<init>"
abbrev oK32 (w : Wk) (Z : State) (a0 : Array Value) : Prop := Cx w Z a0 "java/lang/String" jdk_42_method_53_code 2 none "<init>"
abbrev oK33 (w : Wk) (Z : State) (a0 : Array Value) : Prop := Cx w Z a0 "java/lang/StringBuilder" jdk_67_method_42_code 1 (some (.object "java/lang/String")) "toString"
abbrev oK34 (w : Wk) (Z : State) (a0 : Array Value) : Prop := Cx w Z a0 "java/lang/StringLatin1" jdk_43_method_13_code 3 (some .boolean) "equals"
abbrev oK35 (w : Wk) (Z : State) (a0 : Array Value) : Prop := Cx w Z a0 "java/lang/String" jdk_42_method_66_code 3 (some .boolean) "equals"
abbrev oK36 (w : Wk) (Z : State) (a0 : Array Value) : Prop := Cx w Z a0 "com/example/fuseline/fuseline/model/Account" prog_24_method_1_code 3 none "<init>"
abbrev oK37 (w : Wk) (Z : State) (a0 : Array Value) : Prop := Cx w Z a0 "com/example/fuseline/fuseline/model/Account" prog_24_method_3_code 1 (some (.object "java/lang/String")) "describe"
abbrev oK38 (w : Wk) (Z : State) (a0 : Array Value) : Prop := Cx w Z a0 "com/example/fuseline/fuseline/model/AccountDescribePinLaw" code 15 (some .boolean) "law"
section OwnWalks
set_option maxRecDepth 65536
set_option maxHeartbeats 40000000
theorem pd_0 : parseMethodDescriptor "()Z" = some ⟨[], some .boolean⟩ := by decide +kernel
theorem pd_1 : parseMethodDescriptor "()B" = some ⟨[], some .byte⟩ := by decide +kernel
theorem pd_2 : parseMethodDescriptor "([CI[BII)I" = some ⟨[(.array .char), .int, (.array .byte), .int, .int], some .int⟩ := by decide +kernel
theorem pd_3 : parseMethodDescriptor "([CII)[B" = some ⟨[(.array .char), .int, .int], some (.array .byte)⟩ := by decide +kernel
theorem pd_4 : parseMethodDescriptor "([BI)B" = some ⟨[(.array .byte), .int], some .byte⟩ := by decide +kernel
theorem pd_5 : parseMethodDescriptor "([CIILjava/lang/Void;)V" = some ⟨[(.array .char), .int, .int, (.object "java/lang/Void")], none⟩ := by decide +kernel
theorem pd_6 : parseMethodDescriptor "(II)I" = some ⟨[.int, .int], some .int⟩ := by decide +kernel
theorem pd_7 : parseMethodDescriptor "(I)V" = some ⟨[.int], none⟩ := by decide +kernel
theorem pd_8 : parseMethodDescriptor "(III)I" = some ⟨[.int, .int, .int], some .int⟩ := by decide +kernel
theorem pd_9 : parseMethodDescriptor "(I)I" = some ⟨[.int], some .int⟩ := by decide +kernel
theorem pd_10 : parseMethodDescriptor "([BI)[B" = some ⟨[(.array .byte), .int], some (.array .byte)⟩ := by decide +kernel
theorem pd_11 : parseMethodDescriptor "(Ljava/lang/String;)V" = some ⟨[(.object "java/lang/String")], none⟩ := by decide +kernel
theorem pd_12 : parseMethodDescriptor "([BIB)V" = some ⟨[(.array .byte), .int, .byte], none⟩ := by decide +kernel
theorem pd_13 : parseMethodDescriptor "()I" = some ⟨[], some .int⟩ := by decide +kernel
theorem pd_14 : parseMethodDescriptor "(ILjava/lang/String;)V" = some ⟨[.int, (.object "java/lang/String")], none⟩ := by decide +kernel
theorem pd_15 : parseMethodDescriptor "(Ljava/lang/String;)Ljava/lang/AbstractStringBuilder;" = some ⟨[(.object "java/lang/String")], some (.object "java/lang/AbstractStringBuilder")⟩ := by decide +kernel
theorem pd_16 : parseMethodDescriptor "(II)V" = some ⟨[.int, .int], none⟩ := by decide +kernel
theorem pd_17 : parseMethodDescriptor "([BII)[B" = some ⟨[(.array .byte), .int, .int], some (.array .byte)⟩ := by decide +kernel
theorem pd_18 : parseMethodDescriptor "()[B" = some ⟨[], some (.array .byte)⟩ := by decide +kernel
theorem pd_19 : parseMethodDescriptor "(Ljava/lang/AbstractStringBuilder;Ljava/lang/Void;)V" = some ⟨[(.object "java/lang/AbstractStringBuilder"), (.object "java/lang/Void")], none⟩ := by decide +kernel
theorem pd_20 : parseMethodDescriptor "(Ljava/lang/StringBuilder;)V" = some ⟨[(.object "java/lang/StringBuilder")], none⟩ := by decide +kernel
theorem pd_21 : parseMethodDescriptor "([B[B)Z" = some ⟨[(.array .byte), (.array .byte)], some .boolean⟩ := by decide +kernel
theorem pd_22 : parseMethodDescriptor "()V" = some ⟨[], none⟩ := by decide +kernel
theorem pd_23 : parseMethodDescriptor "(Ljava/lang/Object;Ljava/lang/String;)Ljava/lang/Object;" = some ⟨[(.object "java/lang/Object"), (.object "java/lang/String")], some (.object "java/lang/Object")⟩ := by decide +kernel
theorem pd_24 : parseMethodDescriptor "(Ljava/lang/String;)Ljava/lang/StringBuilder;" = some ⟨[(.object "java/lang/String")], some (.object "java/lang/StringBuilder")⟩ := by decide +kernel
theorem pd_25 : parseMethodDescriptor "()Ljava/lang/String;" = some ⟨[], some (.object "java/lang/String")⟩ := by decide +kernel
theorem pd_26 : parseMethodDescriptor "([C)V" = some ⟨[(.array .char)], none⟩ := by decide +kernel
theorem pd_27 : parseMethodDescriptor "(Ljava/lang/String;Ljava/lang/String;)V" = some ⟨[(.object "java/lang/String"), (.object "java/lang/String")], none⟩ := by decide +kernel
theorem pd_28 : parseMethodDescriptor "(Ljava/lang/Object;)Z" = some ⟨[(.object "java/lang/Object")], some .boolean⟩ := by decide +kernel
theorem d18_0 : decode oC0 0 = .ok (.getstatic 38, 3) := by decide +kernel
theorem d18_3 : decode oC0 3 = .ok (.ifCond .eq 10, 3) := by decide +kernel
theorem d18_6 : decode oC0 6 = .ok (.aload_n 0, 1) := by decide +kernel
theorem d18_7 : decode oC0 7 = .ok (.getfield 15, 3) := by decide +kernel
theorem d18_10 : decode oC0 10 = .ok (.goto 4, 3) := by decide +kernel
theorem d18_14 : decode oC0 14 = .ok (.ireturn, 1) := by decide +kernel
theorem pn_m_coder : plainName "java/lang/String" = true := by first | (simp [plainName, overriddenIn]; done) | decide +kernel
theorem m_coder (l : Launch) (Z : State) (a0 : Array Value) (hw : oH Z a0) (n0 : Nat) (h0 : Heap) (s : Addr) (cst : Int32) (X0 : Old Z n0 h0) (SC : oSC Z cst) (hcs : ¬ cst = 0) (Fc : Fld Z h0 s "java/lang/String" "coder" "B" (.int (0 : Int32))) :
    Met l Z oM0 oC0 1 (some .byte) (oR 0 0 0 0) n0 [] #[(.ref s)] h0 (fun v h => v = some (.int (0 : Int32)) ∧ h0 = h) := by
  refine Met.intro (Ls := #[.val (.ref s)]) (plainFor_of_name pn_m_coder) hw (fun _ => rfl) ?_
  intro w K0
  have K : oK0 w Z a0 := K0
  refine Rn.getS K (q := 3) (oT 14 rfl) (SC.ext X0.2) d18_0 rfl ?_
  refine Rn.ifN K (q := 6) d18_3 (XT.i0_eq_f hcs) rfl ?_
  refine Rn.aloadN K (q := 7) d18_6 rfl rfl rfl ?_
  refine Rn.getF K (q := 10) (oT 26 rfl) Via.refl Fc d18_7 rfl ?_
  refine Rn.goto K (q := 14) d18_10 (by decide) (by decide) ?_
  exact Rn.retN K .byte rfl (by simp) d18_14 (by decide) (by decide) ⟨rfl, rfl⟩
theorem d10_0 : decode oC1 0 = .ok (.aload_n 0, 1) := by decide +kernel
theorem d10_1 : decode oC1 1 = .ok (.getfield 9, 3) := by decide +kernel
theorem d10_4 : decode oC1 4 = .ok (.arraylength, 1) := by decide +kernel
theorem d10_5 : decode oC1 5 = .ok (.ifCond .ne 7, 3) := by decide +kernel
theorem d10_8 : decode oC1 8 = .ok (.iconst 1, 1) := by decide +kernel
theorem d10_9 : decode oC1 9 = .ok (.goto 4, 3) := by decide +kernel
theorem d10_13 : decode oC1 13 = .ok (.ireturn, 1) := by decide +kernel
theorem m_emp0 (l : Launch) (Z : State) (a0 : Array Value) (hw : oH Z a0) (n0 : Nat) (h0 : Heap) (s v : Addr) (k : ClassId) (cst : Int32)  (X0 : Old Z n0 h0) (SC : oSC Z cst) (hcs : ¬ cst = 0) (Es : Exa Z h0 s "java/lang/String") (Fc : Fld Z h0 s "java/lang/String" "coder" "B" (.int (0 : Int32))) (Fv : Fld Z h0 s "java/lang/String" "value" "[B" (.ref v)) (Av : Arv Z h0 v k .byte (0 : Int32) [] oZ) :
    Met l Z oM1 oC1 1 (some .boolean) (oR 0 0 0 0) n0 [] #[(.ref s)] h0 (fun v h => v = some (.int (1 : Int32)) ∧ h0 = h) := by
  refine Met.intro (Ls := #[.val (.ref s)]) (plainFor_of_name pn_m_coder) hw (fun _ => rfl) ?_
  intro w K0
  have K : oK1 w Z a0 := K0
  refine Rn.aloadN K (q := 1) d10_0 rfl rfl rfl ?_
  refine Rn.getF K (q := 4) (oT 28 rfl) Via.refl Fv d10_1 rfl ?_
  refine Rn.arraylength K (q := 5) Av d10_4 rfl ?_
  refine Rn.ifN K (q := 8) d10_5 (XT.i0_ne_f rfl) rfl ?_
  refine Rn.iconst K (q := 9) (1 : Int32) d10_8 rfl rfl ?_
  refine Rn.goto K (q := 13) d10_9 (by decide) (by decide) ?_
  exact Rn.retN K .boolean rfl (by simp) d10_13 (by decide) (by decide) ⟨rfl, rfl⟩
theorem d12_0 : decode oC2 0 = .ok (.aload_n 0, 1) := by decide +kernel
theorem d12_1 : decode oC2 1 = .ok (.getfield 35, 3) := by decide +kernel
theorem d12_4 : decode oC2 4 = .ok (.invokevirtual 17, 3) := by decide +kernel
theorem d12_7 : decode oC2 7 = .ok (.ireturn, 1) := by decide +kernel
theorem pn_m_own0 : plainName "com/example/fuseline/fuseline/model/Account" = true := by first | (simp [plainName, overriddenIn]; done) | decide +kernel
theorem m_own0 (l : Launch) (Z : State) (a0 : Array Value) (hw : oH Z a0) (n0 : Nat) (h0 : Heap) (o : Addr) (s v : Addr) (k : ClassId) (cst : Int32)  (X0 : Old Z n0 h0) (SC : oSC Z cst) (hcs : ¬ cst = 0) (Fo : Fld Z h0 o "com/example/fuseline/fuseline/model/Account" "client" "Ljava/lang/String;" (.ref s)) (Es : Exa Z h0 s "java/lang/String") (Fc : Fld Z h0 s "java/lang/String" "coder" "B" (.int (0 : Int32))) (Fv : Fld Z h0 s "java/lang/String" "value" "[B" (.ref v)) (Av : Arv Z h0 v k .byte (0 : Int32) [] oZ) :
    Met l Z oM2 oC2 1 (some .boolean) (oR 1 0 0 12) n0 [] #[(.ref o)] h0 (fun v h => v = some (.int (1 : Int32)) ∧ h0 = h) := by
  refine Met.intro (Ls := #[.val (.ref o)]) (plainFor_of_name pn_m_own0) hw (fun _ => rfl) ?_
  intro w K0
  have K : oK2 w Z a0 := K0
  refine Rn.aloadN K (q := 1) d12_0 rfl rfl rfl ?_
  refine Rn.getF K (q := 4) (oT 57 rfl) Via.refl Fo d12_1 rfl ?_
  refine Rn.virt K (q := 7) (W := 0) (y := oM1) (z := oM1) (b := s) (argsL := []) (rest := []) (oT 50 rfl) (oT 51 rfl) (nfs K (oT 53 rfl)) (oT 53 rfl) (oT 52 rfl) (oT 54 rfl) (oT 2 rfl) (by decide) (m_emp0 l Z a0 hw n0 h0 s v k cst  X0 SC hcs Es Fc Fv Av) Es (by decide) (by decide) rfl (lenOf pd_0 rfl) rfl (oL rfl) d12_4 rfl (by decide) (by decide) ?_
  rintro _ _ ⟨rfl, rfl⟩
  show Rn w l _ n0 _ 7 _ [(.int (1 : Int32))] h0 0 0
  exact Rn.retN K .boolean rfl (by simp) d12_7 (by decide) (by decide) ⟨rfl, rfl⟩
theorem d10_12 : decode oC1 12 = .ok (.iconst 0, 1) := by decide +kernel
theorem m_emp2 (l : Launch) (Z : State) (a0 : Array Value) (hw : oH Z a0) (n0 : Nat) (h0 : Heap) (s v : Addr) (k : ClassId) (cst : Int32) (x0 x1 : Int32) (X0 : Old Z n0 h0) (SC : oSC Z cst) (hcs : ¬ cst = 0) (Es : Exa Z h0 s "java/lang/String") (Fc : Fld Z h0 s "java/lang/String" "coder" "B" (.int (0 : Int32))) (Fv : Fld Z h0 s "java/lang/String" "value" "[B" (.ref v)) (Av : Arv Z h0 v k .byte (2 : Int32) [(.int x0), (.int x1)] oZ) :
    Met l Z oM1 oC1 1 (some .boolean) (oR 0 0 0 0) n0 [] #[(.ref s)] h0 (fun v h => v = some (.int (0 : Int32)) ∧ h0 = h) := by
  refine Met.intro (Ls := #[.val (.ref s)]) (plainFor_of_name pn_m_coder) hw (fun _ => rfl) ?_
  intro w K0
  have K : oK1 w Z a0 := K0
  refine Rn.aloadN K (q := 1) d10_0 rfl rfl rfl ?_
  refine Rn.getF K (q := 4) (oT 28 rfl) Via.refl Fv d10_1 rfl ?_
  refine Rn.arraylength K (q := 5) Av d10_4 rfl ?_
  refine Rn.ifY K (q := 12) d10_5 (XT.i0_ne_t (by decide)) (by decide) (by decide) ?_
  refine Rn.iconst K (q := 13) (0 : Int32) d10_12 rfl rfl ?_
  exact Rn.retN K .boolean rfl (by simp) d10_13 (by decide) (by decide) ⟨rfl, rfl⟩
theorem m_own2 (l : Launch) (Z : State) (a0 : Array Value) (hw : oH Z a0) (n0 : Nat) (h0 : Heap) (o : Addr) (s v : Addr) (k : ClassId) (cst : Int32) (x0 x1 : Int32) (X0 : Old Z n0 h0) (SC : oSC Z cst) (hcs : ¬ cst = 0) (Fo : Fld Z h0 o "com/example/fuseline/fuseline/model/Account" "client" "Ljava/lang/String;" (.ref s)) (Es : Exa Z h0 s "java/lang/String") (Fc : Fld Z h0 s "java/lang/String" "coder" "B" (.int (0 : Int32))) (Fv : Fld Z h0 s "java/lang/String" "value" "[B" (.ref v)) (Av : Arv Z h0 v k .byte (2 : Int32) [(.int x0), (.int x1)] oZ) :
    Met l Z oM2 oC2 1 (some .boolean) (oR 1 0 0 12) n0 [] #[(.ref o)] h0 (fun v h => v = some (.int (0 : Int32)) ∧ h0 = h) := by
  refine Met.intro (Ls := #[.val (.ref o)]) (plainFor_of_name pn_m_own0) hw (fun _ => rfl) ?_
  intro w K0
  have K : oK2 w Z a0 := K0
  refine Rn.aloadN K (q := 1) d12_0 rfl rfl rfl ?_
  refine Rn.getF K (q := 4) (oT 57 rfl) Via.refl Fo d12_1 rfl ?_
  refine Rn.virt K (q := 7) (W := 0) (y := oM1) (z := oM1) (b := s) (argsL := []) (rest := []) (oT 50 rfl) (oT 51 rfl) (nfs K (oT 53 rfl)) (oT 53 rfl) (oT 52 rfl) (oT 54 rfl) (oT 2 rfl) (by decide) (m_emp2 l Z a0 hw n0 h0 s v k cst x0 x1 X0 SC hcs Es Fc Fv Av) Es (by decide) (by decide) rfl (lenOf pd_0 rfl) rfl (oL rfl) d12_4 rfl (by decide) (by decide) ?_
  rintro _ _ ⟨rfl, rfl⟩
  show Rn w l _ n0 _ 7 _ [oZ] h0 0 0
  exact Rn.retN K .boolean rfl (by simp) d12_7 (by decide) (by decide) ⟨rfl, rfl⟩
theorem d17_0 : decode oC3 0 = .ok (.aload_n 0, 1) := by decide +kernel
theorem d17_1 : decode oC3 1 = .ok (.getfield 9, 3) := by decide +kernel
theorem d17_4 : decode oC3 4 = .ok (.arraylength, 1) := by decide +kernel
theorem d17_5 : decode oC3 5 = .ok (.aload_n 0, 1) := by decide +kernel
theorem d17_6 : decode oC3 6 = .ok (.invokevirtual 335, 3) := by decide +kernel
theorem d17_9 : decode oC3 9 = .ok (.ishr, 1) := by decide +kernel
theorem d17_10 : decode oC3 10 = .ok (.ireturn, 1) := by decide +kernel
theorem m_len7 (l : Launch) (Z : State) (a0 : Array Value) (hw : oH Z a0) (n0 : Nat) (h0 : Heap) (s v : Addr) (k : ClassId) (cst : Int32) (x0 x1 x2 x3 x4 x5 x6 : Int32) (X0 : Old Z n0 h0) (SC : oSC Z cst) (hcs : ¬ cst = 0) (Es : Exa Z h0 s "java/lang/String") (Fc : Fld Z h0 s "java/lang/String" "coder" "B" (.int (0 : Int32))) (Fv : Fld Z h0 s "java/lang/String" "value" "[B" (.ref v)) (Av : Arv Z h0 v k .byte (7 : Int32) [(.int x0), (.int x1), (.int x2), (.int x3), (.int x4), (.int x5), (.int x6)] oZ) :
    Met l Z oM3 oC3 1 (some .int) (oR 1 0 0 13) n0 [] #[(.ref s)] h0 (fun v h => v = some (.int (7 : Int32)) ∧ h0 = h) := by
  refine Met.intro (Ls := #[.val (.ref s)]) (plainFor_of_name pn_m_coder) hw (fun _ => rfl) ?_
  intro w K0
  have K : oK3 w Z a0 := K0
  refine Rn.aloadN K (q := 1) d17_0 rfl rfl rfl ?_
  refine Rn.getF K (q := 4) (oT 28 rfl) Via.refl Fv d17_1 rfl ?_
  refine Rn.arraylength K (q := 5) Av d17_4 rfl ?_
  refine Rn.aloadN K (q := 6) d17_5 rfl rfl rfl ?_
  refine Rn.virt K (q := 9) (W := 1) (y := oM0) (z := oM0) (b := s) (argsL := []) (rest := [(.int (7 : Int32))]) (oT 103 rfl) (oT 104 rfl) (nfs K (oT 106 rfl)) (oT 106 rfl) (oT 105 rfl) (oT 107 rfl) (oT 2 rfl) (by decide) (m_coder l Z a0 hw n0 h0 s cst X0 SC hcs Fc) Es (by decide) (by decide) rfl (lenOf pd_1 rfl) rfl (oL rfl) d17_6 rfl (by decide) (by decide) ?_
  rintro _ _ ⟨rfl, rfl⟩
  show Rn w l _ n0 _ 9 _ [oZ, (.int (7 : Int32))] h0 0 0
  refine Rn.ishr K (q := 10) d17_9 rfl ?_
  rw [show ((7 : Int32) >>> ((0 : Int32) &&& 31)) = (7 : Int32) from by decide]
  show Rn w l _ n0 _ 10 _ [(.int (7 : Int32))] h0 0 0
  exact Rn.retI K rfl d17_10 (by decide) (by decide) ⟨rfl, rfl⟩
theorem m_len2 (l : Launch) (Z : State) (a0 : Array Value) (hw : oH Z a0) (n0 : Nat) (h0 : Heap) (s v : Addr) (k : ClassId) (cst : Int32) (x0 x1 : Int32) (X0 : Old Z n0 h0) (SC : oSC Z cst) (hcs : ¬ cst = 0) (Es : Exa Z h0 s "java/lang/String") (Fc : Fld Z h0 s "java/lang/String" "coder" "B" (.int (0 : Int32))) (Fv : Fld Z h0 s "java/lang/String" "value" "[B" (.ref v)) (Av : Arv Z h0 v k .byte (2 : Int32) [(.int x0), (.int x1)] oZ) :
    Met l Z oM3 oC3 1 (some .int) (oR 1 0 0 13) n0 [] #[(.ref s)] h0 (fun v h => v = some (.int (2 : Int32)) ∧ h0 = h) := by
  refine Met.intro (Ls := #[.val (.ref s)]) (plainFor_of_name pn_m_coder) hw (fun _ => rfl) ?_
  intro w K0
  have K : oK3 w Z a0 := K0
  refine Rn.aloadN K (q := 1) d17_0 rfl rfl rfl ?_
  refine Rn.getF K (q := 4) (oT 28 rfl) Via.refl Fv d17_1 rfl ?_
  refine Rn.arraylength K (q := 5) Av d17_4 rfl ?_
  refine Rn.aloadN K (q := 6) d17_5 rfl rfl rfl ?_
  refine Rn.virt K (q := 9) (W := 1) (y := oM0) (z := oM0) (b := s) (argsL := []) (rest := [(.int (2 : Int32))]) (oT 103 rfl) (oT 104 rfl) (nfs K (oT 106 rfl)) (oT 106 rfl) (oT 105 rfl) (oT 107 rfl) (oT 2 rfl) (by decide) (m_coder l Z a0 hw n0 h0 s cst X0 SC hcs Fc) Es (by decide) (by decide) rfl (lenOf pd_1 rfl) rfl (oL rfl) d17_6 rfl (by decide) (by decide) ?_
  rintro _ _ ⟨rfl, rfl⟩
  show Rn w l _ n0 _ 9 _ [oZ, (.int (2 : Int32))] h0 0 0
  refine Rn.ishr K (q := 10) d17_9 rfl ?_
  rw [show ((2 : Int32) >>> ((0 : Int32) &&& 31)) = (2 : Int32) from by decide]
  show Rn w l _ n0 _ 10 _ [(.int (2 : Int32))] h0 0 0
  exact Rn.retI K rfl d17_10 (by decide) (by decide) ⟨rfl, rfl⟩
theorem m_len21 (l : Launch) (Z : State) (a0 : Array Value) (hw : oH Z a0) (n0 : Nat) (h0 : Heap) (s v : Addr) (k : ClassId) (cst : Int32) (x0 x1 x2 x3 x4 x5 x6 x7 x8 x9 x10 x11 x12 x13 x14 x15 x16 x17 x18 x19 x20 : Int32) (X0 : Old Z n0 h0) (SC : oSC Z cst) (hcs : ¬ cst = 0) (Es : Exa Z h0 s "java/lang/String") (Fc : Fld Z h0 s "java/lang/String" "coder" "B" (.int (0 : Int32))) (Fv : Fld Z h0 s "java/lang/String" "value" "[B" (.ref v)) (Av : Arv Z h0 v k .byte (21 : Int32) [(.int x0), (.int x1), (.int x2), (.int x3), (.int x4), (.int x5), (.int x6), (.int x7), (.int x8), (.int x9), (.int x10), (.int x11), (.int x12), (.int x13), (.int x14), (.int x15), (.int x16), (.int x17), (.int x18), (.int x19), (.int x20)] oZ) :
    Met l Z oM3 oC3 1 (some .int) (oR 1 0 0 13) n0 [] #[(.ref s)] h0 (fun v h => v = some (.int (21 : Int32)) ∧ h0 = h) := by
  refine Met.intro (Ls := #[.val (.ref s)]) (plainFor_of_name pn_m_coder) hw (fun _ => rfl) ?_
  intro w K0
  have K : oK3 w Z a0 := K0
  refine Rn.aloadN K (q := 1) d17_0 rfl rfl rfl ?_
  refine Rn.getF K (q := 4) (oT 28 rfl) Via.refl Fv d17_1 rfl ?_
  refine Rn.arraylength K (q := 5) Av d17_4 rfl ?_
  refine Rn.aloadN K (q := 6) d17_5 rfl rfl rfl ?_
  refine Rn.virt K (q := 9) (W := 1) (y := oM0) (z := oM0) (b := s) (argsL := []) (rest := [(.int (21 : Int32))]) (oT 103 rfl) (oT 104 rfl) (nfs K (oT 106 rfl)) (oT 106 rfl) (oT 105 rfl) (oT 107 rfl) (oT 2 rfl) (by decide) (m_coder l Z a0 hw n0 h0 s cst X0 SC hcs Fc) Es (by decide) (by decide) rfl (lenOf pd_1 rfl) rfl (oL rfl) d17_6 rfl (by decide) (by decide) ?_
  rintro _ _ ⟨rfl, rfl⟩
  show Rn w l _ n0 _ 9 _ [oZ, (.int (21 : Int32))] h0 0 0
  refine Rn.ishr K (q := 10) d17_9 rfl ?_
  rw [show ((21 : Int32) >>> ((0 : Int32) &&& 31)) = (21 : Int32) from by decide]
  show Rn w l _ n0 _ 10 _ [(.int (21 : Int32))] h0 0 0
  exact Rn.retI K rfl d17_10 (by decide) (by decide) ⟨rfl, rfl⟩
theorem m_len14 (l : Launch) (Z : State) (a0 : Array Value) (hw : oH Z a0) (n0 : Nat) (h0 : Heap) (s v : Addr) (k : ClassId) (cst : Int32) (x0 x1 x2 x3 x4 x5 x6 x7 x8 x9 x10 x11 x12 x13 : Int32) (X0 : Old Z n0 h0) (SC : oSC Z cst) (hcs : ¬ cst = 0) (Es : Exa Z h0 s "java/lang/String") (Fc : Fld Z h0 s "java/lang/String" "coder" "B" (.int (0 : Int32))) (Fv : Fld Z h0 s "java/lang/String" "value" "[B" (.ref v)) (Av : Arv Z h0 v k .byte (14 : Int32) [(.int x0), (.int x1), (.int x2), (.int x3), (.int x4), (.int x5), (.int x6), (.int x7), (.int x8), (.int x9), (.int x10), (.int x11), (.int x12), (.int x13)] oZ) :
    Met l Z oM3 oC3 1 (some .int) (oR 1 0 0 13) n0 [] #[(.ref s)] h0 (fun v h => v = some (.int (14 : Int32)) ∧ h0 = h) := by
  refine Met.intro (Ls := #[.val (.ref s)]) (plainFor_of_name pn_m_coder) hw (fun _ => rfl) ?_
  intro w K0
  have K : oK3 w Z a0 := K0
  refine Rn.aloadN K (q := 1) d17_0 rfl rfl rfl ?_
  refine Rn.getF K (q := 4) (oT 28 rfl) Via.refl Fv d17_1 rfl ?_
  refine Rn.arraylength K (q := 5) Av d17_4 rfl ?_
  refine Rn.aloadN K (q := 6) d17_5 rfl rfl rfl ?_
  refine Rn.virt K (q := 9) (W := 1) (y := oM0) (z := oM0) (b := s) (argsL := []) (rest := [(.int (14 : Int32))]) (oT 103 rfl) (oT 104 rfl) (nfs K (oT 106 rfl)) (oT 106 rfl) (oT 105 rfl) (oT 107 rfl) (oT 2 rfl) (by decide) (m_coder l Z a0 hw n0 h0 s cst X0 SC hcs Fc) Es (by decide) (by decide) rfl (lenOf pd_1 rfl) rfl (oL rfl) d17_6 rfl (by decide) (by decide) ?_
  rintro _ _ ⟨rfl, rfl⟩
  show Rn w l _ n0 _ 9 _ [oZ, (.int (14 : Int32))] h0 0 0
  refine Rn.ishr K (q := 10) d17_9 rfl ?_
  rw [show ((14 : Int32) >>> ((0 : Int32) &&& 31)) = (14 : Int32) from by decide]
  show Rn w l _ n0 _ 10 _ [(.int (14 : Int32))] h0 0 0
  exact Rn.retI K rfl d17_10 (by decide) (by decide) ⟨rfl, rfl⟩
theorem d5_0 : decode oC4 0 = .ok (.iconst 0, 1) := by decide +kernel
theorem d5_1 : decode oC4 1 = .ok (.istore 5, 2) := by decide +kernel
theorem d5_3 : decode oC4 3 = .ok (.iload 5, 2) := by decide +kernel
theorem d5_5 : decode oC4 5 = .ok (.iload 4, 2) := by decide +kernel
theorem d5_7 : decode oC4 7 = .ok (.if_icmp .ge 37, 3) := by decide +kernel
theorem d5_10 : decode oC4 10 = .ok (.aload_n 0, 1) := by decide +kernel
theorem d5_11 : decode oC4 11 = .ok (.iload_n 1, 1) := by decide +kernel
theorem d5_12 : decode oC4 12 = .ok (.caload, 1) := by decide +kernel
theorem d5_13 : decode oC4 13 = .ok (.istore 6, 2) := by decide +kernel
theorem d5_15 : decode oC4 15 = .ok (.iload 6, 2) := by decide +kernel
theorem d5_17 : decode oC4 17 = .ok (.sipush 255, 3) := by decide +kernel
theorem d5_20 : decode oC4 20 = .ok (.if_icmp .le 6, 3) := by decide +kernel
theorem d5_26 : decode oC4 26 = .ok (.aload_n 2, 1) := by decide +kernel
theorem d5_27 : decode oC4 27 = .ok (.iload_n 3, 1) := by decide +kernel
theorem d5_28 : decode oC4 28 = .ok (.iload 6, 2) := by decide +kernel
theorem d5_30 : decode oC4 30 = .ok (.i2b, 1) := by decide +kernel
theorem d5_31 : decode oC4 31 = .ok (.bastore, 1) := by decide +kernel
theorem d5_32 : decode oC4 32 = .ok (.iinc 1 1, 3) := by decide +kernel
theorem d5_35 : decode oC4 35 = .ok (.iinc 3 1, 3) := by decide +kernel
theorem d5_38 : decode oC4 38 = .ok (.iinc 5 1, 3) := by decide +kernel
theorem d5_41 : decode oC4 41 = .ok (.goto (-38), 3) := by decide +kernel
theorem d5_44 : decode oC4 44 = .ok (.iload 4, 2) := by decide +kernel
theorem d5_46 : decode oC4 46 = .ok (.ireturn, 1) := by decide +kernel
theorem pn_m_cpr2 : plainName "java/lang/StringUTF16" = true := by first | (simp [plainName, overriddenIn]; done) | decide +kernel
theorem m_cpr2 (l : Launch) (Z : State) (a0 : Array Value) (hw : oH Z a0) (n0 : Nat) (h0 : Heap) (c b : Addr) (kc k : ClassId) (x0 x1 : Int32) (X0 : Old Z n0 h0) (Ec : Exa Z h0 c "[C") (Ac : Arv Z h0 c kc .char (2 : Int32) [(.int x0), (.int x1)] oZ) (Eb : Exa Z h0 b "[B") (Ab : Arv Z h0 b k .byte (2 : Int32) [oZ, oZ] oZ) (gb : n0 ≤ b) (hx0 : ¬ (255 : Int32) < x0) (hx1 : ¬ (255 : Int32) < x1) :
    Met l Z oM4 oC4 7 (some .int) (oR 0 0 0 0) n0 [] #[(.ref c), oZ, (.ref b), oZ, (.int (2 : Int32))] h0 (fun v h => v = some (.int (2 : Int32)) ∧ Keep h0 h [b] ∧ Arv Z h b k .byte (2 : Int32) [(.int (oB x0)), (.int (oB x1))] oZ) := by
  refine Met.intro (Ls := #[.val (.ref c), .val oZ, .val (.ref b), .val oZ, .val (.int (2 : Int32)), .unset, .unset]) (plainFor_of_name pn_m_cpr2) hw (fun _ => rfl) ?_
  intro w K0
  have K : oK4 w Z a0 := K0
  have K1 := Keep.refl h0 [b]
  refine Rn.iconst K (q := 1) (0 : Int32) d5_0 rfl rfl ?_
  refine Rn.istore K (q := 3) (Ls' := #[.val (.ref c), .val oZ, .val (.ref b), .val oZ, .val (.int (2 : Int32)), .val oZ, .unset]) d5_1 rfl rfl ?_
  refine Rn.iload K (q := 5) d5_3 rfl rfl ?_
  refine Rn.iload K (q := 7) d5_5 rfl rfl ?_
  refine Rn.icN K (q := 10) d5_7 (XT.ii_ge_f (by decide)) rfl ?_
  refine Rn.aloadN K (q := 11) d5_10 rfl rfl rfl ?_
  refine Rn.iloadN K (q := 12) d5_11 rfl rfl ?_
  refine Rn.caload K (q := 13) (v := (.int x0)) Ac (by decide) rfl d5_12 rfl ?_
  refine Rn.istore K (q := 15) (Ls' := #[.val (.ref c), .val oZ, .val (.ref b), .val oZ, .val (.int (2 : Int32)), .val oZ, .val (.int x0)]) d5_13 rfl rfl ?_
  refine Rn.iload K (q := 17) d5_15 rfl rfl ?_
  refine Rn.sipush K (q := 20) (255 : Int32) d5_17 rfl rfl ?_
  refine Rn.icY K (q := 26) d5_20 (XT.ii_le_t hx0) (by decide) (by decide) ?_
  refine Rn.aloadN K (q := 27) d5_26 rfl rfl rfl ?_
  refine Rn.iloadN K (q := 28) d5_27 rfl rfl ?_
  refine Rn.iload K (q := 30) d5_28 rfl rfl ?_
  refine Rn.i2b K (q := 31) d5_30 rfl ?_
  refine Rn.bastoreB K (q := 32) (i := 0) Ab (by decide) rfl (oL rfl) gb d5_31 rfl ?_
  intro h1 W2 A3
  have f5 := K1.wr W2 (Or.inl (oT 0 rfl))
  have f8 := Ac.other W2 (ne_exa Ec Eb (by decide))
  replace A3 : Arv Z h1 b k .byte (2 : Int32) [(.int (oB x0)), oZ] oZ := A3
  refine Rn.iinc K (q := 35) (Ls' := #[.val (.ref c), .val (.int (1 : Int32)), .val (.ref b), .val oZ, .val (.int (2 : Int32)), .val oZ, .val (.int x0)]) (1 : Int32) d5_32 rfl rfl rfl rfl ?_
  refine Rn.iinc K (q := 38) (Ls' := #[.val (.ref c), .val (.int (1 : Int32)), .val (.ref b), .val (.int (1 : Int32)), .val (.int (2 : Int32)), .val oZ, .val (.int x0)]) (1 : Int32) d5_35 rfl rfl rfl rfl ?_
  refine Rn.iinc K (q := 41) (Ls' := #[.val (.ref c), .val (.int (1 : Int32)), .val (.ref b), .val (.int (1 : Int32)), .val (.int (2 : Int32)), .val (.int (1 : Int32)), .val (.int x0)]) (1 : Int32) d5_38 rfl rfl rfl rfl ?_
  refine Rn.goto K (q := 3) d5_41 (by decide) (by decide) ?_
  refine Rn.iload K (q := 5) d5_3 rfl rfl ?_
  refine Rn.iload K (q := 7) d5_5 rfl rfl ?_
  refine Rn.icN K (q := 10) d5_7 (XT.ii_ge_f (by decide)) rfl ?_
  refine Rn.aloadN K (q := 11) d5_10 rfl rfl rfl ?_
  refine Rn.iloadN K (q := 12) d5_11 rfl rfl ?_
  refine Rn.caload K (q := 13) (v := (.int x1)) f8 (by decide) rfl d5_12 rfl ?_
  refine Rn.istore K (q := 15) (Ls' := #[.val (.ref c), .val (.int (1 : Int32)), .val (.ref b), .val (.int (1 : Int32)), .val (.int (2 : Int32)), .val (.int (1 : Int32)), .val (.int x1)]) d5_13 rfl rfl ?_
  refine Rn.iload K (q := 17) d5_15 rfl rfl ?_
  refine Rn.sipush K (q := 20) (255 : Int32) d5_17 rfl rfl ?_
  refine Rn.icY K (q := 26) d5_20 (XT.ii_le_t hx1) (by decide) (by decide) ?_
  refine Rn.aloadN K (q := 27) d5_26 rfl rfl rfl ?_
  refine Rn.iloadN K (q := 28) d5_27 rfl rfl ?_
  refine Rn.iload K (q := 30) d5_28 rfl rfl ?_
  refine Rn.i2b K (q := 31) d5_30 rfl ?_
  refine Rn.bastoreB K (q := 32) (i := 1) A3 (by decide) rfl (oL rfl) gb d5_31 rfl ?_
  intro h9 W10 A11
  have f13 := f5.wr W10 (Or.inl (oT 0 rfl))
  replace A11 : Arv Z h9 b k .byte (2 : Int32) [(.int (oB x0)), (.int (oB x1))] oZ := A11
  refine Rn.iinc K (q := 35) (Ls' := #[.val (.ref c), .val (.int (2 : Int32)), .val (.ref b), .val (.int (1 : Int32)), .val (.int (2 : Int32)), .val (.int (1 : Int32)), .val (.int x1)]) (1 : Int32) d5_32 rfl rfl rfl rfl ?_
  refine Rn.iinc K (q := 38) (Ls' := #[.val (.ref c), .val (.int (2 : Int32)), .val (.ref b), .val (.int (2 : Int32)), .val (.int (2 : Int32)), .val (.int (1 : Int32)), .val (.int x1)]) (1 : Int32) d5_35 rfl rfl rfl rfl ?_
  refine Rn.iinc K (q := 41) (Ls' := #[.val (.ref c), .val (.int (2 : Int32)), .val (.ref b), .val (.int (2 : Int32)), .val (.int (2 : Int32)), .val (.int (2 : Int32)), .val (.int x1)]) (1 : Int32) d5_38 rfl rfl rfl rfl ?_
  refine Rn.goto K (q := 3) d5_41 (by decide) (by decide) ?_
  refine Rn.iload K (q := 5) d5_3 rfl rfl ?_
  refine Rn.iload K (q := 7) d5_5 rfl rfl ?_
  refine Rn.icY K (q := 44) d5_7 (XT.ii_ge_t (by decide)) (by decide) (by decide) ?_
  refine Rn.iload K (q := 46) d5_44 rfl rfl ?_
  exact Rn.retI K rfl d5_46 (by decide) (by decide) ⟨rfl, f13, A11⟩
theorem d4_0 : decode oC5 0 = .ok (.iload_n 2, 1) := by decide +kernel
theorem d4_1 : decode oC5 1 = .ok (.newarray .byte, 2) := by decide +kernel
theorem d4_3 : decode oC5 3 = .ok (.astore_n 3, 1) := by decide +kernel
theorem d4_4 : decode oC5 4 = .ok (.aload_n 0, 1) := by decide +kernel
theorem d4_5 : decode oC5 5 = .ok (.iload_n 1, 1) := by decide +kernel
theorem d4_6 : decode oC5 6 = .ok (.aload_n 3, 1) := by decide +kernel
theorem d4_7 : decode oC5 7 = .ok (.iconst 0, 1) := by decide +kernel
theorem d4_8 : decode oC5 8 = .ok (.iload_n 2, 1) := by decide +kernel
theorem d4_9 : decode oC5 9 = .ok (.invokestatic 115, 3) := by decide +kernel
theorem d4_12 : decode oC5 12 = .ok (.istore 4, 2) := by decide +kernel
theorem d4_14 : decode oC5 14 = .ok (.iload 4, 2) := by decide +kernel
theorem d4_16 : decode oC5 16 = .ok (.iload_n 2, 1) := by decide +kernel
theorem d4_17 : decode oC5 17 = .ok (.if_icmp .eq 40, 3) := by decide +kernel
theorem d4_57 : decode oC5 57 = .ok (.aload_n 3, 1) := by decide +kernel
theorem d4_58 : decode oC5 58 = .ok (.areturn, 1) := by decide +kernel
theorem m_cp2 (l : Launch) (Z : State) (a0 : Array Value) (hw : oH Z a0) (n0 : Nat) (h0 : Heap) (c : Addr) (kc : ClassId) (x0 x1 : Int32) (X0 : Old Z n0 h0) (Ec : Exa Z h0 c "[C") (Ac : Arv Z h0 c kc .char (2 : Int32) [(.int x0), (.int x1)] oZ) (hx0 : ¬ (255 : Int32) < x0) (hx1 : ¬ (255 : Int32) < x1) :
    Met l Z oM5 oC5 6 (some (.array .byte)) (oR 1 1 2 18) n0 [] #[(.ref c), oZ, (.int (2 : Int32))] h0 (fun v h => ∃ b k, v = some (.ref b) ∧ Keep h0 h [] ∧ Exa Z h b "[B" ∧ Arv Z h b k .byte (2 : Int32) [(.int (oB x0)), (.int (oB x1))] oZ) := by
  refine Met.intro (Ls := #[.val (.ref c), .val oZ, .val (.int (2 : Int32)), .unset, .unset, .unset]) (plainFor_of_name pn_m_cpr2) hw (fun _ => rfl) ?_
  intro w K0
  have K : oK5 w Z a0 := K0
  have K1 := Keep.refl h0 []
  refine Rn.iloadN K (q := 1) d4_0 rfl rfl ?_
  refine Rn.newP K (q := 3) (cap := 2) (oT 19 rfl) (by decide) (by decide) (by decide) (by decide) (by decide) (ad := "[B") (by decide) d4_1 rfl ?_
  intro b1 h2 k4 gb1_ X3 A_b1 EA_b1
  have ne_c_b1 : c ≠ b1 := fun e => absurd Ec.lt (by rw [e, gb1_]; exact Nat.lt_irrefl _)
  have ne_c_b1 : c ≠ b1 := fun e => absurd Ec.lt (by rw [e, gb1_]; exact Nat.lt_irrefl _)
  have g_b1 : n0 ≤ b1 := by rw [gb1_]; exact X0.1 ▸ X0.2.1
  have sz_b1 : h0.size ≤ b1 := by rw [gb1_]; exact K1.1
  have f5 := X0.ext X3
  have f6 := K1.ext X3
  have f7 := Ec.ext X3
  have f8 := Ac.ext X3
  replace A_b1 : Arv Z h2 b1 k4 .byte (2 : Int32) [oZ, oZ] oZ := A_b1.pad (pad_rep [] oZ 2)
  show Rn w l _ n0 _ 3 _ [(.ref b1)] h2 1 2
  refine Rn.astoreN K (q := 4) (Ls' := #[.val (.ref c), .val oZ, .val (.int (2 : Int32)), .val (.ref b1), .unset, .unset]) d4_3 rfl rfl rfl ?_
  refine Rn.aloadN K (q := 5) d4_4 rfl rfl rfl ?_
  refine Rn.iloadN K (q := 6) d4_5 rfl rfl ?_
  refine Rn.aloadN K (q := 7) d4_6 rfl rfl rfl ?_
  refine Rn.iconst K (q := 8) (0 : Int32) d4_7 rfl rfl ?_
  refine Rn.iloadN K (q := 9) d4_8 rfl rfl ?_
  refine Rn.stat K (q := 12) (W := 0) (y := oM4) (argsL := [(.ref c), oZ, (.ref b1), oZ, (.int (2 : Int32))]) (rest := []) (oT 20 rfl) (oT 21 rfl) (oT 22 rfl) (oT 17 rfl) (by decide) (m_cpr2 l Z a0 hw n0 h2 c b1 kc k4 x0 x1 f5 f7 f8 EA_b1 A_b1 g_b1 hx0 hx1) (by decide) (by decide) rfl (lenOf pd_2 rfl) rfl (oL rfl) d4_9 rfl (by decide) (by decide) ?_
  rintro _ h9 ⟨rfl, K10, A11⟩
  have f13 := f6.trans K10 (allS (Or.inr sz_b1) all0)
  have f16 := EA_b1.keep K10
  show Rn w l _ n0 _ 12 _ [(.int (2 : Int32))] h9 1 2
  refine Rn.istore K (q := 14) (Ls' := #[.val (.ref c), .val oZ, .val (.int (2 : Int32)), .val (.ref b1), .val (.int (2 : Int32)), .unset]) d4_12 rfl rfl ?_
  refine Rn.iload K (q := 16) d4_14 rfl rfl ?_
  refine Rn.iloadN K (q := 17) d4_16 rfl rfl ?_
  refine Rn.icY K (q := 57) d4_17 (XT.ii_eq_t rfl) (by decide) (by decide) ?_
  refine Rn.aloadN K (q := 58) d4_57 rfl rfl rfl ?_
  exact Rn.retA K (.array .byte) rfl rfl rfl d4_58 (by decide) (by decide) ⟨_, _, rfl, f13, f16, A11⟩
theorem d6_0 : decode oC6 0 = .ok (.iload_n 1, 1) := by decide +kernel
theorem d6_1 : decode oC6 1 = .ok (.aload_n 0, 1) := by decide +kernel
theorem d6_2 : decode oC6 2 = .ok (.arraylength, 1) := by decide +kernel
theorem d6_3 : decode oC6 3 = .ok (.isub, 1) := by decide +kernel
theorem d6_4 : decode oC6 4 = .ok (.bipush 31, 2) := by decide +kernel
theorem d6_6 : decode oC6 6 = .ok (.iushr, 1) := by decide +kernel
theorem d6_7 : decode oC6 7 = .ok (.i2b, 1) := by decide +kernel
theorem d6_8 : decode oC6 8 = .ok (.ireturn, 1) := by decide +kernel
theorem m_cfl2 (l : Launch) (Z : State) (a0 : Array Value) (hw : oH Z a0) (n0 : Nat) (h0 : Heap) (b : Addr) (k : ClassId) (x0 x1 : Int32) (X0 : Old Z n0 h0) (Ab : Arv Z h0 b k .byte (2 : Int32) [(.int (oB x0)), (.int (oB x1))] oZ) :
    Met l Z oM6 oC6 2 (some .byte) (oR 0 0 0 0) n0 [] #[(.ref b), (.int (2 : Int32))] h0 (fun v h => v = some (.int (0 : Int32)) ∧ h0 = h) := by
  refine Met.intro (Ls := #[.val (.ref b), .val (.int (2 : Int32))]) (plainFor_of_name pn_m_cpr2) hw (fun _ => rfl) ?_
  intro w K0
  have K : oK6 w Z a0 := K0
  refine Rn.iloadN K (q := 1) d6_0 rfl rfl ?_
  refine Rn.aloadN K (q := 2) d6_1 rfl rfl rfl ?_
  refine Rn.arraylength K (q := 3) Ab d6_2 rfl ?_
  refine Rn.isub K (q := 4) d6_3 rfl ?_
  show Rn w l _ n0 _ 4 _ [oZ] h0 0 0
  refine Rn.bipush K (q := 6) (31 : Int32) d6_4 rfl rfl ?_
  refine Rn.iushr K (q := 7) d6_6 rfl ?_
  refine Rn.i2b K (q := 8) d6_7 rfl ?_
  exact Rn.retN K .byte rfl (by simp) d6_8 (by decide) (by decide) ⟨by rw [show nar .byte (((0 : Int32).toUInt32 >>> ((31 : Int32) &&& 31).toUInt32).toInt32).toInt8.toInt32 = 0 from by decide], rfl⟩
theorem d2_0 : decode oC7 0 = .ok (.aload_n 0, 1) := by decide +kernel
theorem d2_1 : decode oC7 1 = .ok (.invokespecial 1, 3) := by decide +kernel
theorem d2_4 : decode oC7 4 = .ok (.iload_n 3, 1) := by decide +kernel
theorem d2_5 : decode oC7 5 = .ok (.ifCond .ne 22, 3) := by decide +kernel
theorem d2_27 : decode oC7 27 = .ok (.getstatic 38, 3) := by decide +kernel
theorem d2_30 : decode oC7 30 = .ok (.ifCond .eq 28, 3) := by decide +kernel
theorem d2_33 : decode oC7 33 = .ok (.aload_n 1, 1) := by decide +kernel
theorem d2_34 : decode oC7 34 = .ok (.iload_n 2, 1) := by decide +kernel
theorem d2_35 : decode oC7 35 = .ok (.iload_n 3, 1) := by decide +kernel
theorem d2_36 : decode oC7 36 = .ok (.invokestatic 177, 3) := by decide +kernel
theorem d2_39 : decode oC7 39 = .ok (.astore 5, 2) := by decide +kernel
theorem d2_41 : decode oC7 41 = .ok (.aload_n 0, 1) := by decide +kernel
theorem d2_42 : decode oC7 42 = .ok (.aload 5, 2) := by decide +kernel
theorem d2_44 : decode oC7 44 = .ok (.iload_n 3, 1) := by decide +kernel
theorem d2_45 : decode oC7 45 = .ok (.invokestatic 47, 3) := by decide +kernel
theorem d2_48 : decode oC7 48 = .ok (.putfield 15, 3) := by decide +kernel
theorem d2_51 : decode oC7 51 = .ok (.aload_n 0, 1) := by decide +kernel
theorem d2_52 : decode oC7 52 = .ok (.aload 5, 2) := by decide +kernel
theorem d2_54 : decode oC7 54 = .ok (.putfield 9, 3) := by decide +kernel
theorem d2_57 : decode oC7 57 = .ok (.return_, 1) := by decide +kernel
theorem m_iv2 (l : Launch) (Z : State) (a0 : Array Value) (hw : oH Z a0) (n0 : Nat) (h0 : Heap) (s c : Addr) (kc : ClassId) (x0 x1 : Int32) (cst : Int32) (X0 : Old Z n0 h0) (SC : oSC Z cst) (hcs : ¬ cst = 0) (Es : Exa Z h0 s "java/lang/String") (gs : n0 ≤ s) (Fv : Fld Z h0 s "java/lang/String" "value" "[B" .null) (Fc : Fld Z h0 s "java/lang/String" "coder" "B" (.int (0 : Int32))) (Ec : Exa Z h0 c "[C") (Ac : Arv Z h0 c kc .char (2 : Int32) [(.int x0), (.int x1)] oZ) (hx0 : ¬ (255 : Int32) < x0) (hx1 : ¬ (255 : Int32) < x1) :
    Met l Z oM7 oC7 6 none (oR 2 1 2 36) n0 [] #[(.ref s), (.ref c), oZ, (.int (2 : Int32)), .null] h0 (fun r h => r = none ∧ Keep h0 h [s] ∧ ∃ v k, Fld Z h s "java/lang/String" "value" "[B" (.ref v) ∧ Fld Z h s "java/lang/String" "coder" "B" (.int (0 : Int32)) ∧ Exa Z h v "[B" ∧ Arv Z h v k .byte (2 : Int32) [(.int (oB x0)), (.int (oB x1))] oZ) := by
  refine Met.intro (Ls := #[.val (.ref s), .val (.ref c), .val oZ, .val (.int (2 : Int32)), .val .null, .unset]) (plainFor_of_name pn_m_coder) hw (fun _ => rfl) ?_
  intro w K0
  have K : oK7 w Z a0 := K0
  have K1 := Keep.refl h0 [s]
  refine Rn.aloadN K (q := 1) d2_0 rfl rfl rfl ?_
  refine Rn.initO K (q := 4) (W := 0) (oT 11 rfl) (oT 12 rfl) (oT 13 rfl) (by decide) (by decide) rfl (oL rfl) d2_1 rfl ?_
  refine Rn.iloadN K (q := 5) d2_4 rfl rfl ?_
  refine Rn.ifY K (q := 27) d2_5 (XT.i0_ne_t (by decide)) (by decide) (by decide) ?_
  refine Rn.getS K (q := 30) (oT 14 rfl) (SC.ext X0.2) d2_27 rfl ?_
  refine Rn.ifN K (q := 33) d2_30 (XT.i0_eq_f hcs) rfl ?_
  refine Rn.aloadN K (q := 34) d2_33 rfl rfl rfl ?_
  refine Rn.iloadN K (q := 35) d2_34 rfl rfl ?_
  refine Rn.iloadN K (q := 36) d2_35 rfl rfl ?_
  refine Rn.stat K (q := 39) (W := 0) (y := oM5) (argsL := [(.ref c), oZ, (.int (2 : Int32))]) (rest := []) (oT 15 rfl) (oT 16 rfl) (oT 18 rfl) (oT 17 rfl) (by decide) (m_cp2 l Z a0 hw n0 h0 c kc x0 x1 X0 Ec Ac hx0 hx1) (by decide) (by decide) rfl (lenOf pd_3 rfl) rfl (oL rfl) d2_36 rfl (by decide) (by decide) ?_
  rintro _ h1 ⟨v, k, rfl, K2, E3, A4⟩
  have f5 := X0.keep K2 all0
  have f6 := K1.trans K2 all0
  have f7 := Es.keep K2
  have f8 := Fv.keep K2 nin0
  have f9 := Fc.keep K2 nin0
  show Rn w l _ n0 _ 39 _ [(.ref v)] h1 1 2
  refine Rn.astore K (q := 41) (Ls' := #[.val (.ref s), .val (.ref c), .val oZ, .val (.int (2 : Int32)), .val .null, .val (.ref v)]) d2_39 rfl rfl rfl ?_
  refine Rn.aloadN K (q := 42) d2_41 rfl rfl rfl ?_
  refine Rn.aload K (q := 44) d2_42 rfl rfl rfl ?_
  refine Rn.iloadN K (q := 45) d2_44 rfl rfl ?_
  refine Rn.stat K (q := 48) (W := 1) (y := oM6) (argsL := [(.ref v), (.int (2 : Int32))]) (rest := [(.ref s)]) (oT 23 rfl) (oT 24 rfl) (oT 25 rfl) (oT 17 rfl) (by decide) (m_cfl2 l Z a0 hw n0 h1 v k x0 x1 f5 A4) (by decide) (by decide) rfl (lenOf pd_4 rfl) rfl (oL rfl) d2_45 rfl (by decide) (by decide) ?_
  rintro _ _ ⟨rfl, rfl⟩
  show Rn w l _ n0 _ 48 _ [oZ, (.ref s)] h1 1 2
  refine Rn.putF K (q := 51) (ty := .byte) (v' := .int (nar .byte (0 : Int32))) (oT 26 rfl) Via.refl f9 f7 (Or.inr ⟨(oT 27 rfl), rfl, rfl⟩) (oT 1 rfl) (by decide) rfl (fits_nar_byte _) gs d2_48 rfl ?_
  intro h12 W13
  have f15 := f6.wr W13 (Or.inl (oT 0 rfl))
  have f16 := f7.wr W13
  have f17 := Fld.other W13 f8 (Or.inr (slot_ne (Or.inr (K.hw _ (oT 29 rfl))) (Or.inr (K.hw _ (oT 27 rfl))) (by decide) (t := (.array .byte)) (t' := .byte) (by decide) (by decide)))
  have f18 := Fld.same W13 f9
  have f21 := E3.wr W13
  have f22 := A4.other W13 (ne_exa E3 f7 (by decide))
  refine Rn.aloadN K (q := 52) d2_51 rfl rfl rfl ?_
  refine Rn.aload K (q := 54) d2_52 rfl rfl rfl ?_
  refine Rn.putF K (q := 57) (ty := (.array .byte)) (oT 28 rfl) Via.refl f17 f16 (Or.inr ⟨(oT 29 rfl), rfl, rfl⟩) (oT 1 rfl) (by decide) rfl rfl gs d2_54 rfl ?_
  intro h23 W24
  have f26 := f15.wr W24 (Or.inl (oT 0 rfl))
  have f28 := Fld.same W24 f17
  have f29 := Fld.other W24 f18 (Or.inr (slot_ne (Or.inr (K.hw _ (oT 27 rfl))) (Or.inr (K.hw _ (oT 29 rfl))) (by decide) (t := .byte) (t' := (.array .byte)) (by decide) (by decide)))
  have f32 := f21.wr W24
  have f33 := f22.other W24 (ne_exa f21 f16 (by decide))
  exact Rn.retV K rfl d2_57 (by decide) (by decide) ⟨rfl, f26, _, _, f28, f29, f32, f33⟩
theorem d1_0 : decode oC8 0 = .ok (.aload_n 0, 1) := by decide +kernel
theorem d1_1 : decode oC8 1 = .ok (.aload_n 1, 1) := by decide +kernel
theorem d1_2 : decode oC8 2 = .ok (.iconst 0, 1) := by decide +kernel
theorem d1_3 : decode oC8 3 = .ok (.aload_n 1, 1) := by decide +kernel
theorem d1_4 : decode oC8 4 = .ok (.arraylength, 1) := by decide +kernel
theorem d1_5 : decode oC8 5 = .ok (.aconst_null, 1) := by decide +kernel
theorem d1_6 : decode oC8 6 = .ok (.invokespecial 27, 3) := by decide +kernel
theorem d1_9 : decode oC8 9 = .ok (.return_, 1) := by decide +kernel
theorem m_ic2 (l : Launch) (Z : State) (a0 : Array Value) (hw : oH Z a0) (n0 : Nat) (h0 : Heap) (s c : Addr) (kc : ClassId) (x0 x1 : Int32) (cst : Int32) (X0 : Old Z n0 h0) (SC : oSC Z cst) (hcs : ¬ cst = 0) (Es : Exa Z h0 s "java/lang/String") (gs : n0 ≤ s) (Fv : Fld Z h0 s "java/lang/String" "value" "[B" .null) (Fc : Fld Z h0 s "java/lang/String" "coder" "B" (.int (0 : Int32))) (Ec : Exa Z h0 c "[C") (Ac : Arv Z h0 c kc .char (2 : Int32) [(.int x0), (.int x1)] oZ) (hx0 : ¬ (255 : Int32) < x0) (hx1 : ¬ (255 : Int32) < x1) :
    Met l Z oM8 oC8 2 none (oR 3 1 2 54) n0 [] #[(.ref s), (.ref c)] h0 (fun r h => r = none ∧ Keep h0 h [s] ∧ ∃ v k, Fld Z h s "java/lang/String" "value" "[B" (.ref v) ∧ Fld Z h s "java/lang/String" "coder" "B" (.int (0 : Int32)) ∧ Exa Z h v "[B" ∧ Arv Z h v k .byte (2 : Int32) [(.int (oB x0)), (.int (oB x1))] oZ) := by
  refine Met.intro (Ls := #[.val (.ref s), .val (.ref c)]) (plainFor_of_name pn_m_coder) hw (fun _ => rfl) ?_
  intro w K0
  have K : oK8 w Z a0 := K0
  refine Rn.aloadN K (q := 1) d1_0 rfl rfl rfl ?_
  refine Rn.aloadN K (q := 2) d1_1 rfl rfl rfl ?_
  refine Rn.iconst K (q := 3) (0 : Int32) d1_2 rfl rfl ?_
  refine Rn.aloadN K (q := 4) d1_3 rfl rfl rfl ?_
  refine Rn.arraylength K (q := 5) Ac d1_4 rfl ?_
  refine Rn.aconst_null K (q := 6) d1_5 rfl ?_
  refine Rn.spec K (q := 9) (W := 0) (y := oM7) (b := s) (argsL := [(.ref c), oZ, (.int (2 : Int32)), .null]) (rest := []) rfl (oT 7 rfl) (oT 8 rfl) (oT 10 rfl) (oT 2 rfl) (by decide) (m_iv2 l Z a0 hw n0 h0 s c kc x0 x1 cst X0 SC hcs Es gs Fv Fc Ec Ac hx0 hx1) (by decide) (by decide) rfl (lenOf pd_5 rfl) rfl (oL rfl) d1_6 rfl (by decide) (by decide) ?_
  rintro _ h1 ⟨rfl, K2, Q2⟩
  show Rn w l _ n0 _ 9 _ [] h1 1 2
  exact Rn.retV K rfl d1_9 (by decide) (by decide) ⟨rfl, K2, Q2⟩
theorem m_cpr23 (l : Launch) (Z : State) (a0 : Array Value) (hw : oH Z a0) (n0 : Nat) (h0 : Heap) (c b : Addr) (kc k : ClassId) (x0 x1 x2 x3 x4 x5 x6 x7 x8 x9 x10 x11 x12 x13 x14 x15 x16 x17 x18 x19 x20 x21 x22 : Int32) (X0 : Old Z n0 h0) (Ec : Exa Z h0 c "[C") (Ac : Arv Z h0 c kc .char (23 : Int32) [(.int x0), (.int x1), (.int x2), (.int x3), (.int x4), (.int x5), (.int x6), (.int x7), (.int x8), (.int x9), (.int x10), (.int x11), (.int x12), (.int x13), (.int x14), (.int x15), (.int x16), (.int x17), (.int x18), (.int x19), (.int x20), (.int x21), (.int x22)] oZ) (Eb : Exa Z h0 b "[B") (Ab : Arv Z h0 b k .byte (23 : Int32) [oZ, oZ, oZ, oZ, oZ, oZ, oZ, oZ, oZ, oZ, oZ, oZ, oZ, oZ, oZ, oZ, oZ, oZ, oZ, oZ, oZ, oZ, oZ] oZ) (gb : n0 ≤ b) (hx0 : ¬ (255 : Int32) < x0) (hx1 : ¬ (255 : Int32) < x1) (hx2 : ¬ (255 : Int32) < x2) (hx3 : ¬ (255 : Int32) < x3) (hx4 : ¬ (255 : Int32) < x4) (hx5 : ¬ (255 : Int32) < x5) (hx6 : ¬ (255 : Int32) < x6) (hx7 : ¬ (255 : Int32) < x7) (hx8 : ¬ (255 : Int32) < x8) (hx9 : ¬ (255 : Int32) < x9) (hx10 : ¬ (255 : Int32) < x10) (hx11 : ¬ (255 : Int32) < x11) (hx12 : ¬ (255 : Int32) < x12) (hx13 : ¬ (255 : Int32) < x13) (hx14 : ¬ (255 : Int32) < x14) (hx15 : ¬ (255 : Int32) < x15) (hx16 : ¬ (255 : Int32) < x16) (hx17 : ¬ (255 : Int32) < x17) (hx18 : ¬ (255 : Int32) < x18) (hx19 : ¬ (255 : Int32) < x19) (hx20 : ¬ (255 : Int32) < x20) (hx21 : ¬ (255 : Int32) < x21) (hx22 : ¬ (255 : Int32) < x22) :
    Met l Z oM4 oC4 7 (some .int) (oR 0 0 0 0) n0 [] #[(.ref c), oZ, (.ref b), oZ, (.int (23 : Int32))] h0 (fun v h => v = some (.int (23 : Int32)) ∧ Keep h0 h [b] ∧ Arv Z h b k .byte (23 : Int32) [(.int (oB x0)), (.int (oB x1)), (.int (oB x2)), (.int (oB x3)), (.int (oB x4)), (.int (oB x5)), (.int (oB x6)), (.int (oB x7)), (.int (oB x8)), (.int (oB x9)), (.int (oB x10)), (.int (oB x11)), (.int (oB x12)), (.int (oB x13)), (.int (oB x14)), (.int (oB x15)), (.int (oB x16)), (.int (oB x17)), (.int (oB x18)), (.int (oB x19)), (.int (oB x20)), (.int (oB x21)), (.int (oB x22))] oZ) := by
  refine Met.intro (Ls := #[.val (.ref c), .val oZ, .val (.ref b), .val oZ, .val (.int (23 : Int32)), .unset, .unset]) (plainFor_of_name pn_m_cpr2) hw (fun _ => rfl) ?_
  intro w K0
  have K : oK4 w Z a0 := K0
  have K1 := Keep.refl h0 [b]
  refine Rn.iconst K (q := 1) (0 : Int32) d5_0 rfl rfl ?_
  refine Rn.istore K (q := 3) (Ls' := #[.val (.ref c), .val oZ, .val (.ref b), .val oZ, .val (.int (23 : Int32)), .val oZ, .unset]) d5_1 rfl rfl ?_
  refine Rn.iload K (q := 5) d5_3 rfl rfl ?_
  refine Rn.iload K (q := 7) d5_5 rfl rfl ?_
  refine Rn.icN K (q := 10) d5_7 (XT.ii_ge_f (by decide)) rfl ?_
  refine Rn.aloadN K (q := 11) d5_10 rfl rfl rfl ?_
  refine Rn.iloadN K (q := 12) d5_11 rfl rfl ?_
  refine Rn.caload K (q := 13) (v := (.int x0)) Ac (by decide) rfl d5_12 rfl ?_
  refine Rn.istore K (q := 15) (Ls' := #[.val (.ref c), .val oZ, .val (.ref b), .val oZ, .val (.int (23 : Int32)), .val oZ, .val (.int x0)]) d5_13 rfl rfl ?_
  refine Rn.iload K (q := 17) d5_15 rfl rfl ?_
  refine Rn.sipush K (q := 20) (255 : Int32) d5_17 rfl rfl ?_
  refine Rn.icY K (q := 26) d5_20 (XT.ii_le_t hx0) (by decide) (by decide) ?_
  refine Rn.aloadN K (q := 27) d5_26 rfl rfl rfl ?_
  refine Rn.iloadN K (q := 28) d5_27 rfl rfl ?_
  refine Rn.iload K (q := 30) d5_28 rfl rfl ?_
  refine Rn.i2b K (q := 31) d5_30 rfl ?_
  refine Rn.bastoreB K (q := 32) (i := 0) Ab (by decide) rfl (oL rfl) gb d5_31 rfl ?_
  intro h1 W2 A3
  have f5 := K1.wr W2 (Or.inl (oT 0 rfl))
  have f6 := Eb.wr W2
  have f7 := Ec.wr W2
  have f8 := Ac.other W2 (ne_exa Ec Eb (by decide))
  replace A3 : Arv Z h1 b k .byte (23 : Int32) [(.int (oB x0)), oZ, oZ, oZ, oZ, oZ, oZ, oZ, oZ, oZ, oZ, oZ, oZ, oZ, oZ, oZ, oZ, oZ, oZ, oZ, oZ, oZ, oZ] oZ := A3
  refine Rn.iinc K (q := 35) (Ls' := #[.val (.ref c), .val (.int (1 : Int32)), .val (.ref b), .val oZ, .val (.int (23 : Int32)), .val oZ, .val (.int x0)]) (1 : Int32) d5_32 rfl rfl rfl rfl ?_
  refine Rn.iinc K (q := 38) (Ls' := #[.val (.ref c), .val (.int (1 : Int32)), .val (.ref b), .val (.int (1 : Int32)), .val (.int (23 : Int32)), .val oZ, .val (.int x0)]) (1 : Int32) d5_35 rfl rfl rfl rfl ?_
  refine Rn.iinc K (q := 41) (Ls' := #[.val (.ref c), .val (.int (1 : Int32)), .val (.ref b), .val (.int (1 : Int32)), .val (.int (23 : Int32)), .val (.int (1 : Int32)), .val (.int x0)]) (1 : Int32) d5_38 rfl rfl rfl rfl ?_
  refine Rn.goto K (q := 3) d5_41 (by decide) (by decide) ?_
  refine Rn.iload K (q := 5) d5_3 rfl rfl ?_
  refine Rn.iload K (q := 7) d5_5 rfl rfl ?_
  refine Rn.icN K (q := 10) d5_7 (XT.ii_ge_f (by decide)) rfl ?_
  refine Rn.aloadN K (q := 11) d5_10 rfl rfl rfl ?_
  refine Rn.iloadN K (q := 12) d5_11 rfl rfl ?_
  refine Rn.caload K (q := 13) (v := (.int x1)) f8 (by decide) rfl d5_12 rfl ?_
  refine Rn.istore K (q := 15) (Ls' := #[.val (.ref c), .val (.int (1 : Int32)), .val (.ref b), .val (.int (1 : Int32)), .val (.int (23 : Int32)), .val (.int (1 : Int32)), .val (.int x1)]) d5_13 rfl rfl ?_
  refine Rn.iload K (q := 17) d5_15 rfl rfl ?_
  refine Rn.sipush K (q := 20) (255 : Int32) d5_17 rfl rfl ?_
  refine Rn.icY K (q := 26) d5_20 (XT.ii_le_t hx1) (by decide) (by decide) ?_
  refine Rn.aloadN K (q := 27) d5_26 rfl rfl rfl ?_
  refine Rn.iloadN K (q := 28) d5_27 rfl rfl ?_
  refine Rn.iload K (q := 30) d5_28 rfl rfl ?_
  refine Rn.i2b K (q := 31) d5_30 rfl ?_
  refine Rn.bastoreB K (q := 32) (i := 1) A3 (by decide) rfl (oL rfl) gb d5_31 rfl ?_
  intro h9 W10 A11
  have f13 := f5.wr W10 (Or.inl (oT 0 rfl))
  have f14 := f6.wr W10
  have f15 := f7.wr W10
  have f16 := f8.other W10 (ne_exa f7 f6 (by decide))
  replace A11 : Arv Z h9 b k .byte (23 : Int32) [(.int (oB x0)), (.int (oB x1)), oZ, oZ, oZ, oZ, oZ, oZ, oZ, oZ, oZ, oZ, oZ, oZ, oZ, oZ, oZ, oZ, oZ, oZ, oZ, oZ, oZ] oZ := A11
  refine Rn.iinc K (q := 35) (Ls' := #[.val (.ref c), .val (.int (2 : Int32)), .val (.ref b), .val (.int (1 : Int32)), .val (.int (23 : Int32)), .val (.int (1 : Int32)), .val (.int x1)]) (1 : Int32) d5_32 rfl rfl rfl rfl ?_
  refine Rn.iinc K (q := 38) (Ls' := #[.val (.ref c), .val (.int (2 : Int32)), .val (.ref b), .val (.int (2 : Int32)), .val (.int (23 : Int32)), .val (.int (1 : Int32)), .val (.int x1)]) (1 : Int32) d5_35 rfl rfl rfl rfl ?_
  refine Rn.iinc K (q := 41) (Ls' := #[.val (.ref c), .val (.int (2 : Int32)), .val (.ref b), .val (.int (2 : Int32)), .val (.int (23 : Int32)), .val (.int (2 : Int32)), .val (.int x1)]) (1 : Int32) d5_38 rfl rfl rfl rfl ?_
  refine Rn.goto K (q := 3) d5_41 (by decide) (by decide) ?_
  refine Rn.iload K (q := 5) d5_3 rfl rfl ?_
  refine Rn.iload K (q := 7) d5_5 rfl rfl ?_
  refine Rn.icN K (q := 10) d5_7 (XT.ii_ge_f (by decide)) rfl ?_
  refine Rn.aloadN K (q := 11) d5_10 rfl rfl rfl ?_
  refine Rn.iloadN K (q := 12) d5_11 rfl rfl ?_
  refine Rn.caload K (q := 13) (v := (.int x2)) f16 (by decide) rfl d5_12 rfl ?_
  refine Rn.istore K (q := 15) (Ls' := #[.val (.ref c), .val (.int (2 : Int32)), .val (.ref b), .val (.int (2 : Int32)), .val (.int (23 : Int32)), .val (.int (2 : Int32)), .val (.int x2)]) d5_13 rfl rfl ?_
  refine Rn.iload K (q := 17) d5_15 rfl rfl ?_
  refine Rn.sipush K (q := 20) (255 : Int32) d5_17 rfl rfl ?_
  refine Rn.icY K (q := 26) d5_20 (XT.ii_le_t hx2) (by decide) (by decide) ?_
  refine Rn.aloadN K (q := 27) d5_26 rfl rfl rfl ?_
  refine Rn.iloadN K (q := 28) d5_27 rfl rfl ?_
  refine Rn.iload K (q := 30) d5_28 rfl rfl ?_
  refine Rn.i2b K (q := 31) d5_30 rfl ?_
  refine Rn.bastoreB K (q := 32) (i := 2) A11 (by decide) rfl (oL rfl) gb d5_31 rfl ?_
  intro h17 W18 A19
  have f21 := f13.wr W18 (Or.inl (oT 0 rfl))
  have f22 := f14.wr W18
  have f23 := f15.wr W18
  have f24 := f16.other W18 (ne_exa f15 f14 (by decide))
  replace A19 : Arv Z h17 b k .byte (23 : Int32) [(.int (oB x0)), (.int (oB x1)), (.int (oB x2)), oZ, oZ, oZ, oZ, oZ, oZ, oZ, oZ, oZ, oZ, oZ, oZ, oZ, oZ, oZ, oZ, oZ, oZ, oZ, oZ] oZ := A19
  refine Rn.iinc K (q := 35) (Ls' := #[.val (.ref c), .val (.int (3 : Int32)), .val (.ref b), .val (.int (2 : Int32)), .val (.int (23 : Int32)), .val (.int (2 : Int32)), .val (.int x2)]) (1 : Int32) d5_32 rfl rfl rfl rfl ?_
  refine Rn.iinc K (q := 38) (Ls' := #[.val (.ref c), .val (.int (3 : Int32)), .val (.ref b), .val (.int (3 : Int32)), .val (.int (23 : Int32)), .val (.int (2 : Int32)), .val (.int x2)]) (1 : Int32) d5_35 rfl rfl rfl rfl ?_
  refine Rn.iinc K (q := 41) (Ls' := #[.val (.ref c), .val (.int (3 : Int32)), .val (.ref b), .val (.int (3 : Int32)), .val (.int (23 : Int32)), .val (.int (3 : Int32)), .val (.int x2)]) (1 : Int32) d5_38 rfl rfl rfl rfl ?_
  refine Rn.goto K (q := 3) d5_41 (by decide) (by decide) ?_
  refine Rn.iload K (q := 5) d5_3 rfl rfl ?_
  refine Rn.iload K (q := 7) d5_5 rfl rfl ?_
  refine Rn.icN K (q := 10) d5_7 (XT.ii_ge_f (by decide)) rfl ?_
  refine Rn.aloadN K (q := 11) d5_10 rfl rfl rfl ?_
  refine Rn.iloadN K (q := 12) d5_11 rfl rfl ?_
  refine Rn.caload K (q := 13) (v := (.int x3)) f24 (by decide) rfl d5_12 rfl ?_
  refine Rn.istore K (q := 15) (Ls' := #[.val (.ref c), .val (.int (3 : Int32)), .val (.ref b), .val (.int (3 : Int32)), .val (.int (23 : Int32)), .val (.int (3 : Int32)), .val (.int x3)]) d5_13 rfl rfl ?_
  refine Rn.iload K (q := 17) d5_15 rfl rfl ?_
  refine Rn.sipush K (q := 20) (255 : Int32) d5_17 rfl rfl ?_
  refine Rn.icY K (q := 26) d5_20 (XT.ii_le_t hx3) (by decide) (by decide) ?_
  refine Rn.aloadN K (q := 27) d5_26 rfl rfl rfl ?_
  refine Rn.iloadN K (q := 28) d5_27 rfl rfl ?_
  refine Rn.iload K (q := 30) d5_28 rfl rfl ?_
  refine Rn.i2b K (q := 31) d5_30 rfl ?_
  refine Rn.bastoreB K (q := 32) (i := 3) A19 (by decide) rfl (oL rfl) gb d5_31 rfl ?_
  intro h25 W26 A27
  have f29 := f21.wr W26 (Or.inl (oT 0 rfl))
  have f30 := f22.wr W26
  have f31 := f23.wr W26
  have f32 := f24.other W26 (ne_exa f23 f22 (by decide))
  replace A27 : Arv Z h25 b k .byte (23 : Int32) [(.int (oB x0)), (.int (oB x1)), (.int (oB x2)), (.int (oB x3)), oZ, oZ, oZ, oZ, oZ, oZ, oZ, oZ, oZ, oZ, oZ, oZ, oZ, oZ, oZ, oZ, oZ, oZ, oZ] oZ := A27
  refine Rn.iinc K (q := 35) (Ls' := #[.val (.ref c), .val (.int (4 : Int32)), .val (.ref b), .val (.int (3 : Int32)), .val (.int (23 : Int32)), .val (.int (3 : Int32)), .val (.int x3)]) (1 : Int32) d5_32 rfl rfl rfl rfl ?_
  refine Rn.iinc K (q := 38) (Ls' := #[.val (.ref c), .val (.int (4 : Int32)), .val (.ref b), .val (.int (4 : Int32)), .val (.int (23 : Int32)), .val (.int (3 : Int32)), .val (.int x3)]) (1 : Int32) d5_35 rfl rfl rfl rfl ?_
  refine Rn.iinc K (q := 41) (Ls' := #[.val (.ref c), .val (.int (4 : Int32)), .val (.ref b), .val (.int (4 : Int32)), .val (.int (23 : Int32)), .val (.int (4 : Int32)), .val (.int x3)]) (1 : Int32) d5_38 rfl rfl rfl rfl ?_
  refine Rn.goto K (q := 3) d5_41 (by decide) (by decide) ?_
  refine Rn.iload K (q := 5) d5_3 rfl rfl ?_
  refine Rn.iload K (q := 7) d5_5 rfl rfl ?_
  refine Rn.icN K (q := 10) d5_7 (XT.ii_ge_f (by decide)) rfl ?_
  refine Rn.aloadN K (q := 11) d5_10 rfl rfl rfl ?_
  refine Rn.iloadN K (q := 12) d5_11 rfl rfl ?_
  refine Rn.caload K (q := 13) (v := (.int x4)) f32 (by decide) rfl d5_12 rfl ?_
  refine Rn.istore K (q := 15) (Ls' := #[.val (.ref c), .val (.int (4 : Int32)), .val (.ref b), .val (.int (4 : Int32)), .val (.int (23 : Int32)), .val (.int (4 : Int32)), .val (.int x4)]) d5_13 rfl rfl ?_
  refine Rn.iload K (q := 17) d5_15 rfl rfl ?_
  refine Rn.sipush K (q := 20) (255 : Int32) d5_17 rfl rfl ?_
  refine Rn.icY K (q := 26) d5_20 (XT.ii_le_t hx4) (by decide) (by decide) ?_
  refine Rn.aloadN K (q := 27) d5_26 rfl rfl rfl ?_
  refine Rn.iloadN K (q := 28) d5_27 rfl rfl ?_
  refine Rn.iload K (q := 30) d5_28 rfl rfl ?_
  refine Rn.i2b K (q := 31) d5_30 rfl ?_
  refine Rn.bastoreB K (q := 32) (i := 4) A27 (by decide) rfl (oL rfl) gb d5_31 rfl ?_
  intro h33 W34 A35
  have f37 := f29.wr W34 (Or.inl (oT 0 rfl))
  have f38 := f30.wr W34
  have f39 := f31.wr W34
  have f40 := f32.other W34 (ne_exa f31 f30 (by decide))
  replace A35 : Arv Z h33 b k .byte (23 : Int32) [(.int (oB x0)), (.int (oB x1)), (.int (oB x2)), (.int (oB x3)), (.int (oB x4)), oZ, oZ, oZ, oZ, oZ, oZ, oZ, oZ, oZ, oZ, oZ, oZ, oZ, oZ, oZ, oZ, oZ, oZ] oZ := A35
  refine Rn.iinc K (q := 35) (Ls' := #[.val (.ref c), .val (.int (5 : Int32)), .val (.ref b), .val (.int (4 : Int32)), .val (.int (23 : Int32)), .val (.int (4 : Int32)), .val (.int x4)]) (1 : Int32) d5_32 rfl rfl rfl rfl ?_
  refine Rn.iinc K (q := 38) (Ls' := #[.val (.ref c), .val (.int (5 : Int32)), .val (.ref b), .val (.int (5 : Int32)), .val (.int (23 : Int32)), .val (.int (4 : Int32)), .val (.int x4)]) (1 : Int32) d5_35 rfl rfl rfl rfl ?_
  refine Rn.iinc K (q := 41) (Ls' := #[.val (.ref c), .val (.int (5 : Int32)), .val (.ref b), .val (.int (5 : Int32)), .val (.int (23 : Int32)), .val (.int (5 : Int32)), .val (.int x4)]) (1 : Int32) d5_38 rfl rfl rfl rfl ?_
  refine Rn.goto K (q := 3) d5_41 (by decide) (by decide) ?_
  refine Rn.iload K (q := 5) d5_3 rfl rfl ?_
  refine Rn.iload K (q := 7) d5_5 rfl rfl ?_
  refine Rn.icN K (q := 10) d5_7 (XT.ii_ge_f (by decide)) rfl ?_
  refine Rn.aloadN K (q := 11) d5_10 rfl rfl rfl ?_
  refine Rn.iloadN K (q := 12) d5_11 rfl rfl ?_
  refine Rn.caload K (q := 13) (v := (.int x5)) f40 (by decide) rfl d5_12 rfl ?_
  refine Rn.istore K (q := 15) (Ls' := #[.val (.ref c), .val (.int (5 : Int32)), .val (.ref b), .val (.int (5 : Int32)), .val (.int (23 : Int32)), .val (.int (5 : Int32)), .val (.int x5)]) d5_13 rfl rfl ?_
  refine Rn.iload K (q := 17) d5_15 rfl rfl ?_
  refine Rn.sipush K (q := 20) (255 : Int32) d5_17 rfl rfl ?_
  refine Rn.icY K (q := 26) d5_20 (XT.ii_le_t hx5) (by decide) (by decide) ?_
  refine Rn.aloadN K (q := 27) d5_26 rfl rfl rfl ?_
  refine Rn.iloadN K (q := 28) d5_27 rfl rfl ?_
  refine Rn.iload K (q := 30) d5_28 rfl rfl ?_
  refine Rn.i2b K (q := 31) d5_30 rfl ?_
  refine Rn.bastoreB K (q := 32) (i := 5) A35 (by decide) rfl (oL rfl) gb d5_31 rfl ?_
  intro h41 W42 A43
  have f45 := f37.wr W42 (Or.inl (oT 0 rfl))
  have f46 := f38.wr W42
  have f47 := f39.wr W42
  have f48 := f40.other W42 (ne_exa f39 f38 (by decide))
  replace A43 : Arv Z h41 b k .byte (23 : Int32) [(.int (oB x0)), (.int (oB x1)), (.int (oB x2)), (.int (oB x3)), (.int (oB x4)), (.int (oB x5)), oZ, oZ, oZ, oZ, oZ, oZ, oZ, oZ, oZ, oZ, oZ, oZ, oZ, oZ, oZ, oZ, oZ] oZ := A43
  refine Rn.iinc K (q := 35) (Ls' := #[.val (.ref c), .val (.int (6 : Int32)), .val (.ref b), .val (.int (5 : Int32)), .val (.int (23 : Int32)), .val (.int (5 : Int32)), .val (.int x5)]) (1 : Int32) d5_32 rfl rfl rfl rfl ?_
  refine Rn.iinc K (q := 38) (Ls' := #[.val (.ref c), .val (.int (6 : Int32)), .val (.ref b), .val (.int (6 : Int32)), .val (.int (23 : Int32)), .val (.int (5 : Int32)), .val (.int x5)]) (1 : Int32) d5_35 rfl rfl rfl rfl ?_
  refine Rn.iinc K (q := 41) (Ls' := #[.val (.ref c), .val (.int (6 : Int32)), .val (.ref b), .val (.int (6 : Int32)), .val (.int (23 : Int32)), .val (.int (6 : Int32)), .val (.int x5)]) (1 : Int32) d5_38 rfl rfl rfl rfl ?_
  refine Rn.goto K (q := 3) d5_41 (by decide) (by decide) ?_
  refine Rn.iload K (q := 5) d5_3 rfl rfl ?_
  refine Rn.iload K (q := 7) d5_5 rfl rfl ?_
  refine Rn.icN K (q := 10) d5_7 (XT.ii_ge_f (by decide)) rfl ?_
  refine Rn.aloadN K (q := 11) d5_10 rfl rfl rfl ?_
  refine Rn.iloadN K (q := 12) d5_11 rfl rfl ?_
  refine Rn.caload K (q := 13) (v := (.int x6)) f48 (by decide) rfl d5_12 rfl ?_
  refine Rn.istore K (q := 15) (Ls' := #[.val (.ref c), .val (.int (6 : Int32)), .val (.ref b), .val (.int (6 : Int32)), .val (.int (23 : Int32)), .val (.int (6 : Int32)), .val (.int x6)]) d5_13 rfl rfl ?_
  refine Rn.iload K (q := 17) d5_15 rfl rfl ?_
  refine Rn.sipush K (q := 20) (255 : Int32) d5_17 rfl rfl ?_
  refine Rn.icY K (q := 26) d5_20 (XT.ii_le_t hx6) (by decide) (by decide) ?_
  refine Rn.aloadN K (q := 27) d5_26 rfl rfl rfl ?_
  refine Rn.iloadN K (q := 28) d5_27 rfl rfl ?_
  refine Rn.iload K (q := 30) d5_28 rfl rfl ?_
  refine Rn.i2b K (q := 31) d5_30 rfl ?_
  refine Rn.bastoreB K (q := 32) (i := 6) A43 (by decide) rfl (oL rfl) gb d5_31 rfl ?_
  intro h49 W50 A51
  have f53 := f45.wr W50 (Or.inl (oT 0 rfl))
  have f54 := f46.wr W50
  have f55 := f47.wr W50
  have f56 := f48.other W50 (ne_exa f47 f46 (by decide))
  replace A51 : Arv Z h49 b k .byte (23 : Int32) [(.int (oB x0)), (.int (oB x1)), (.int (oB x2)), (.int (oB x3)), (.int (oB x4)), (.int (oB x5)), (.int (oB x6)), oZ, oZ, oZ, oZ, oZ, oZ, oZ, oZ, oZ, oZ, oZ, oZ, oZ, oZ, oZ, oZ] oZ := A51
  refine Rn.iinc K (q := 35) (Ls' := #[.val (.ref c), .val (.int (7 : Int32)), .val (.ref b), .val (.int (6 : Int32)), .val (.int (23 : Int32)), .val (.int (6 : Int32)), .val (.int x6)]) (1 : Int32) d5_32 rfl rfl rfl rfl ?_
  refine Rn.iinc K (q := 38) (Ls' := #[.val (.ref c), .val (.int (7 : Int32)), .val (.ref b), .val (.int (7 : Int32)), .val (.int (23 : Int32)), .val (.int (6 : Int32)), .val (.int x6)]) (1 : Int32) d5_35 rfl rfl rfl rfl ?_
  refine Rn.iinc K (q := 41) (Ls' := #[.val (.ref c), .val (.int (7 : Int32)), .val (.ref b), .val (.int (7 : Int32)), .val (.int (23 : Int32)), .val (.int (7 : Int32)), .val (.int x6)]) (1 : Int32) d5_38 rfl rfl rfl rfl ?_
  refine Rn.goto K (q := 3) d5_41 (by decide) (by decide) ?_
  refine Rn.iload K (q := 5) d5_3 rfl rfl ?_
  refine Rn.iload K (q := 7) d5_5 rfl rfl ?_
  refine Rn.icN K (q := 10) d5_7 (XT.ii_ge_f (by decide)) rfl ?_
  refine Rn.aloadN K (q := 11) d5_10 rfl rfl rfl ?_
  refine Rn.iloadN K (q := 12) d5_11 rfl rfl ?_
  refine Rn.caload K (q := 13) (v := (.int x7)) f56 (by decide) rfl d5_12 rfl ?_
  refine Rn.istore K (q := 15) (Ls' := #[.val (.ref c), .val (.int (7 : Int32)), .val (.ref b), .val (.int (7 : Int32)), .val (.int (23 : Int32)), .val (.int (7 : Int32)), .val (.int x7)]) d5_13 rfl rfl ?_
  refine Rn.iload K (q := 17) d5_15 rfl rfl ?_
  refine Rn.sipush K (q := 20) (255 : Int32) d5_17 rfl rfl ?_
  refine Rn.icY K (q := 26) d5_20 (XT.ii_le_t hx7) (by decide) (by decide) ?_
  refine Rn.aloadN K (q := 27) d5_26 rfl rfl rfl ?_
  refine Rn.iloadN K (q := 28) d5_27 rfl rfl ?_
  refine Rn.iload K (q := 30) d5_28 rfl rfl ?_
  refine Rn.i2b K (q := 31) d5_30 rfl ?_
  refine Rn.bastoreB K (q := 32) (i := 7) A51 (by decide) rfl (oL rfl) gb d5_31 rfl ?_
  intro h57 W58 A59
  have f61 := f53.wr W58 (Or.inl (oT 0 rfl))
  have f62 := f54.wr W58
  have f63 := f55.wr W58
  have f64 := f56.other W58 (ne_exa f55 f54 (by decide))
  replace A59 : Arv Z h57 b k .byte (23 : Int32) [(.int (oB x0)), (.int (oB x1)), (.int (oB x2)), (.int (oB x3)), (.int (oB x4)), (.int (oB x5)), (.int (oB x6)), (.int (oB x7)), oZ, oZ, oZ, oZ, oZ, oZ, oZ, oZ, oZ, oZ, oZ, oZ, oZ, oZ, oZ] oZ := A59
  refine Rn.iinc K (q := 35) (Ls' := #[.val (.ref c), .val (.int (8 : Int32)), .val (.ref b), .val (.int (7 : Int32)), .val (.int (23 : Int32)), .val (.int (7 : Int32)), .val (.int x7)]) (1 : Int32) d5_32 rfl rfl rfl rfl ?_
  refine Rn.iinc K (q := 38) (Ls' := #[.val (.ref c), .val (.int (8 : Int32)), .val (.ref b), .val (.int (8 : Int32)), .val (.int (23 : Int32)), .val (.int (7 : Int32)), .val (.int x7)]) (1 : Int32) d5_35 rfl rfl rfl rfl ?_
  refine Rn.iinc K (q := 41) (Ls' := #[.val (.ref c), .val (.int (8 : Int32)), .val (.ref b), .val (.int (8 : Int32)), .val (.int (23 : Int32)), .val (.int (8 : Int32)), .val (.int x7)]) (1 : Int32) d5_38 rfl rfl rfl rfl ?_
  refine Rn.goto K (q := 3) d5_41 (by decide) (by decide) ?_
  refine Rn.iload K (q := 5) d5_3 rfl rfl ?_
  refine Rn.iload K (q := 7) d5_5 rfl rfl ?_
  refine Rn.icN K (q := 10) d5_7 (XT.ii_ge_f (by decide)) rfl ?_
  refine Rn.aloadN K (q := 11) d5_10 rfl rfl rfl ?_
  refine Rn.iloadN K (q := 12) d5_11 rfl rfl ?_
  refine Rn.caload K (q := 13) (v := (.int x8)) f64 (by decide) rfl d5_12 rfl ?_
  refine Rn.istore K (q := 15) (Ls' := #[.val (.ref c), .val (.int (8 : Int32)), .val (.ref b), .val (.int (8 : Int32)), .val (.int (23 : Int32)), .val (.int (8 : Int32)), .val (.int x8)]) d5_13 rfl rfl ?_
  refine Rn.iload K (q := 17) d5_15 rfl rfl ?_
  refine Rn.sipush K (q := 20) (255 : Int32) d5_17 rfl rfl ?_
  refine Rn.icY K (q := 26) d5_20 (XT.ii_le_t hx8) (by decide) (by decide) ?_
  refine Rn.aloadN K (q := 27) d5_26 rfl rfl rfl ?_
  refine Rn.iloadN K (q := 28) d5_27 rfl rfl ?_
  refine Rn.iload K (q := 30) d5_28 rfl rfl ?_
  refine Rn.i2b K (q := 31) d5_30 rfl ?_
  refine Rn.bastoreB K (q := 32) (i := 8) A59 (by decide) rfl (oL rfl) gb d5_31 rfl ?_
  intro h65 W66 A67
  have f69 := f61.wr W66 (Or.inl (oT 0 rfl))
  have f70 := f62.wr W66
  have f71 := f63.wr W66
  have f72 := f64.other W66 (ne_exa f63 f62 (by decide))
  replace A67 : Arv Z h65 b k .byte (23 : Int32) [(.int (oB x0)), (.int (oB x1)), (.int (oB x2)), (.int (oB x3)), (.int (oB x4)), (.int (oB x5)), (.int (oB x6)), (.int (oB x7)), (.int (oB x8)), oZ, oZ, oZ, oZ, oZ, oZ, oZ, oZ, oZ, oZ, oZ, oZ, oZ, oZ] oZ := A67
  refine Rn.iinc K (q := 35) (Ls' := #[.val (.ref c), .val (.int (9 : Int32)), .val (.ref b), .val (.int (8 : Int32)), .val (.int (23 : Int32)), .val (.int (8 : Int32)), .val (.int x8)]) (1 : Int32) d5_32 rfl rfl rfl rfl ?_
  refine Rn.iinc K (q := 38) (Ls' := #[.val (.ref c), .val (.int (9 : Int32)), .val (.ref b), .val (.int (9 : Int32)), .val (.int (23 : Int32)), .val (.int (8 : Int32)), .val (.int x8)]) (1 : Int32) d5_35 rfl rfl rfl rfl ?_
  refine Rn.iinc K (q := 41) (Ls' := #[.val (.ref c), .val (.int (9 : Int32)), .val (.ref b), .val (.int (9 : Int32)), .val (.int (23 : Int32)), .val (.int (9 : Int32)), .val (.int x8)]) (1 : Int32) d5_38 rfl rfl rfl rfl ?_
  refine Rn.goto K (q := 3) d5_41 (by decide) (by decide) ?_
  refine Rn.iload K (q := 5) d5_3 rfl rfl ?_
  refine Rn.iload K (q := 7) d5_5 rfl rfl ?_
  refine Rn.icN K (q := 10) d5_7 (XT.ii_ge_f (by decide)) rfl ?_
  refine Rn.aloadN K (q := 11) d5_10 rfl rfl rfl ?_
  refine Rn.iloadN K (q := 12) d5_11 rfl rfl ?_
  refine Rn.caload K (q := 13) (v := (.int x9)) f72 (by decide) rfl d5_12 rfl ?_
  refine Rn.istore K (q := 15) (Ls' := #[.val (.ref c), .val (.int (9 : Int32)), .val (.ref b), .val (.int (9 : Int32)), .val (.int (23 : Int32)), .val (.int (9 : Int32)), .val (.int x9)]) d5_13 rfl rfl ?_
  refine Rn.iload K (q := 17) d5_15 rfl rfl ?_
  refine Rn.sipush K (q := 20) (255 : Int32) d5_17 rfl rfl ?_
  refine Rn.icY K (q := 26) d5_20 (XT.ii_le_t hx9) (by decide) (by decide) ?_
  refine Rn.aloadN K (q := 27) d5_26 rfl rfl rfl ?_
  refine Rn.iloadN K (q := 28) d5_27 rfl rfl ?_
  refine Rn.iload K (q := 30) d5_28 rfl rfl ?_
  refine Rn.i2b K (q := 31) d5_30 rfl ?_
  refine Rn.bastoreB K (q := 32) (i := 9) A67 (by decide) rfl (oL rfl) gb d5_31 rfl ?_
  intro h73 W74 A75
  have f77 := f69.wr W74 (Or.inl (oT 0 rfl))
  have f78 := f70.wr W74
  have f79 := f71.wr W74
  have f80 := f72.other W74 (ne_exa f71 f70 (by decide))
  replace A75 : Arv Z h73 b k .byte (23 : Int32) [(.int (oB x0)), (.int (oB x1)), (.int (oB x2)), (.int (oB x3)), (.int (oB x4)), (.int (oB x5)), (.int (oB x6)), (.int (oB x7)), (.int (oB x8)), (.int (oB x9)), oZ, oZ, oZ, oZ, oZ, oZ, oZ, oZ, oZ, oZ, oZ, oZ, oZ] oZ := A75
  refine Rn.iinc K (q := 35) (Ls' := #[.val (.ref c), .val (.int (10 : Int32)), .val (.ref b), .val (.int (9 : Int32)), .val (.int (23 : Int32)), .val (.int (9 : Int32)), .val (.int x9)]) (1 : Int32) d5_32 rfl rfl rfl rfl ?_
  refine Rn.iinc K (q := 38) (Ls' := #[.val (.ref c), .val (.int (10 : Int32)), .val (.ref b), .val (.int (10 : Int32)), .val (.int (23 : Int32)), .val (.int (9 : Int32)), .val (.int x9)]) (1 : Int32) d5_35 rfl rfl rfl rfl ?_
  refine Rn.iinc K (q := 41) (Ls' := #[.val (.ref c), .val (.int (10 : Int32)), .val (.ref b), .val (.int (10 : Int32)), .val (.int (23 : Int32)), .val (.int (10 : Int32)), .val (.int x9)]) (1 : Int32) d5_38 rfl rfl rfl rfl ?_
  refine Rn.goto K (q := 3) d5_41 (by decide) (by decide) ?_
  refine Rn.iload K (q := 5) d5_3 rfl rfl ?_
  refine Rn.iload K (q := 7) d5_5 rfl rfl ?_
  refine Rn.icN K (q := 10) d5_7 (XT.ii_ge_f (by decide)) rfl ?_
  refine Rn.aloadN K (q := 11) d5_10 rfl rfl rfl ?_
  refine Rn.iloadN K (q := 12) d5_11 rfl rfl ?_
  refine Rn.caload K (q := 13) (v := (.int x10)) f80 (by decide) rfl d5_12 rfl ?_
  refine Rn.istore K (q := 15) (Ls' := #[.val (.ref c), .val (.int (10 : Int32)), .val (.ref b), .val (.int (10 : Int32)), .val (.int (23 : Int32)), .val (.int (10 : Int32)), .val (.int x10)]) d5_13 rfl rfl ?_
  refine Rn.iload K (q := 17) d5_15 rfl rfl ?_
  refine Rn.sipush K (q := 20) (255 : Int32) d5_17 rfl rfl ?_
  refine Rn.icY K (q := 26) d5_20 (XT.ii_le_t hx10) (by decide) (by decide) ?_
  refine Rn.aloadN K (q := 27) d5_26 rfl rfl rfl ?_
  refine Rn.iloadN K (q := 28) d5_27 rfl rfl ?_
  refine Rn.iload K (q := 30) d5_28 rfl rfl ?_
  refine Rn.i2b K (q := 31) d5_30 rfl ?_
  refine Rn.bastoreB K (q := 32) (i := 10) A75 (by decide) rfl (oL rfl) gb d5_31 rfl ?_
  intro h81 W82 A83
  have f85 := f77.wr W82 (Or.inl (oT 0 rfl))
  have f86 := f78.wr W82
  have f87 := f79.wr W82
  have f88 := f80.other W82 (ne_exa f79 f78 (by decide))
  replace A83 : Arv Z h81 b k .byte (23 : Int32) [(.int (oB x0)), (.int (oB x1)), (.int (oB x2)), (.int (oB x3)), (.int (oB x4)), (.int (oB x5)), (.int (oB x6)), (.int (oB x7)), (.int (oB x8)), (.int (oB x9)), (.int (oB x10)), oZ, oZ, oZ, oZ, oZ, oZ, oZ, oZ, oZ, oZ, oZ, oZ] oZ := A83
  refine Rn.iinc K (q := 35) (Ls' := #[.val (.ref c), .val (.int (11 : Int32)), .val (.ref b), .val (.int (10 : Int32)), .val (.int (23 : Int32)), .val (.int (10 : Int32)), .val (.int x10)]) (1 : Int32) d5_32 rfl rfl rfl rfl ?_
  refine Rn.iinc K (q := 38) (Ls' := #[.val (.ref c), .val (.int (11 : Int32)), .val (.ref b), .val (.int (11 : Int32)), .val (.int (23 : Int32)), .val (.int (10 : Int32)), .val (.int x10)]) (1 : Int32) d5_35 rfl rfl rfl rfl ?_
  refine Rn.iinc K (q := 41) (Ls' := #[.val (.ref c), .val (.int (11 : Int32)), .val (.ref b), .val (.int (11 : Int32)), .val (.int (23 : Int32)), .val (.int (11 : Int32)), .val (.int x10)]) (1 : Int32) d5_38 rfl rfl rfl rfl ?_
  refine Rn.goto K (q := 3) d5_41 (by decide) (by decide) ?_
  refine Rn.iload K (q := 5) d5_3 rfl rfl ?_
  refine Rn.iload K (q := 7) d5_5 rfl rfl ?_
  refine Rn.icN K (q := 10) d5_7 (XT.ii_ge_f (by decide)) rfl ?_
  refine Rn.aloadN K (q := 11) d5_10 rfl rfl rfl ?_
  refine Rn.iloadN K (q := 12) d5_11 rfl rfl ?_
  refine Rn.caload K (q := 13) (v := (.int x11)) f88 (by decide) rfl d5_12 rfl ?_
  refine Rn.istore K (q := 15) (Ls' := #[.val (.ref c), .val (.int (11 : Int32)), .val (.ref b), .val (.int (11 : Int32)), .val (.int (23 : Int32)), .val (.int (11 : Int32)), .val (.int x11)]) d5_13 rfl rfl ?_
  refine Rn.iload K (q := 17) d5_15 rfl rfl ?_
  refine Rn.sipush K (q := 20) (255 : Int32) d5_17 rfl rfl ?_
  refine Rn.icY K (q := 26) d5_20 (XT.ii_le_t hx11) (by decide) (by decide) ?_
  refine Rn.aloadN K (q := 27) d5_26 rfl rfl rfl ?_
  refine Rn.iloadN K (q := 28) d5_27 rfl rfl ?_
  refine Rn.iload K (q := 30) d5_28 rfl rfl ?_
  refine Rn.i2b K (q := 31) d5_30 rfl ?_
  refine Rn.bastoreB K (q := 32) (i := 11) A83 (by decide) rfl (oL rfl) gb d5_31 rfl ?_
  intro h89 W90 A91
  have f93 := f85.wr W90 (Or.inl (oT 0 rfl))
  have f94 := f86.wr W90
  have f95 := f87.wr W90
  have f96 := f88.other W90 (ne_exa f87 f86 (by decide))
  replace A91 : Arv Z h89 b k .byte (23 : Int32) [(.int (oB x0)), (.int (oB x1)), (.int (oB x2)), (.int (oB x3)), (.int (oB x4)), (.int (oB x5)), (.int (oB x6)), (.int (oB x7)), (.int (oB x8)), (.int (oB x9)), (.int (oB x10)), (.int (oB x11)), oZ, oZ, oZ, oZ, oZ, oZ, oZ, oZ, oZ, oZ, oZ] oZ := A91
  refine Rn.iinc K (q := 35) (Ls' := #[.val (.ref c), .val (.int (12 : Int32)), .val (.ref b), .val (.int (11 : Int32)), .val (.int (23 : Int32)), .val (.int (11 : Int32)), .val (.int x11)]) (1 : Int32) d5_32 rfl rfl rfl rfl ?_
  refine Rn.iinc K (q := 38) (Ls' := #[.val (.ref c), .val (.int (12 : Int32)), .val (.ref b), .val (.int (12 : Int32)), .val (.int (23 : Int32)), .val (.int (11 : Int32)), .val (.int x11)]) (1 : Int32) d5_35 rfl rfl rfl rfl ?_
  refine Rn.iinc K (q := 41) (Ls' := #[.val (.ref c), .val (.int (12 : Int32)), .val (.ref b), .val (.int (12 : Int32)), .val (.int (23 : Int32)), .val (.int (12 : Int32)), .val (.int x11)]) (1 : Int32) d5_38 rfl rfl rfl rfl ?_
  refine Rn.goto K (q := 3) d5_41 (by decide) (by decide) ?_
  refine Rn.iload K (q := 5) d5_3 rfl rfl ?_
  refine Rn.iload K (q := 7) d5_5 rfl rfl ?_
  refine Rn.icN K (q := 10) d5_7 (XT.ii_ge_f (by decide)) rfl ?_
  refine Rn.aloadN K (q := 11) d5_10 rfl rfl rfl ?_
  refine Rn.iloadN K (q := 12) d5_11 rfl rfl ?_
  refine Rn.caload K (q := 13) (v := (.int x12)) f96 (by decide) rfl d5_12 rfl ?_
  refine Rn.istore K (q := 15) (Ls' := #[.val (.ref c), .val (.int (12 : Int32)), .val (.ref b), .val (.int (12 : Int32)), .val (.int (23 : Int32)), .val (.int (12 : Int32)), .val (.int x12)]) d5_13 rfl rfl ?_
  refine Rn.iload K (q := 17) d5_15 rfl rfl ?_
  refine Rn.sipush K (q := 20) (255 : Int32) d5_17 rfl rfl ?_
  refine Rn.icY K (q := 26) d5_20 (XT.ii_le_t hx12) (by decide) (by decide) ?_
  refine Rn.aloadN K (q := 27) d5_26 rfl rfl rfl ?_
  refine Rn.iloadN K (q := 28) d5_27 rfl rfl ?_
  refine Rn.iload K (q := 30) d5_28 rfl rfl ?_
  refine Rn.i2b K (q := 31) d5_30 rfl ?_
  refine Rn.bastoreB K (q := 32) (i := 12) A91 (by decide) rfl (oL rfl) gb d5_31 rfl ?_
  intro h97 W98 A99
  have f101 := f93.wr W98 (Or.inl (oT 0 rfl))
  have f102 := f94.wr W98
  have f103 := f95.wr W98
  have f104 := f96.other W98 (ne_exa f95 f94 (by decide))
  replace A99 : Arv Z h97 b k .byte (23 : Int32) [(.int (oB x0)), (.int (oB x1)), (.int (oB x2)), (.int (oB x3)), (.int (oB x4)), (.int (oB x5)), (.int (oB x6)), (.int (oB x7)), (.int (oB x8)), (.int (oB x9)), (.int (oB x10)), (.int (oB x11)), (.int (oB x12)), oZ, oZ, oZ, oZ, oZ, oZ, oZ, oZ, oZ, oZ] oZ := A99
  refine Rn.iinc K (q := 35) (Ls' := #[.val (.ref c), .val (.int (13 : Int32)), .val (.ref b), .val (.int (12 : Int32)), .val (.int (23 : Int32)), .val (.int (12 : Int32)), .val (.int x12)]) (1 : Int32) d5_32 rfl rfl rfl rfl ?_
  refine Rn.iinc K (q := 38) (Ls' := #[.val (.ref c), .val (.int (13 : Int32)), .val (.ref b), .val (.int (13 : Int32)), .val (.int (23 : Int32)), .val (.int (12 : Int32)), .val (.int x12)]) (1 : Int32) d5_35 rfl rfl rfl rfl ?_
  refine Rn.iinc K (q := 41) (Ls' := #[.val (.ref c), .val (.int (13 : Int32)), .val (.ref b), .val (.int (13 : Int32)), .val (.int (23 : Int32)), .val (.int (13 : Int32)), .val (.int x12)]) (1 : Int32) d5_38 rfl rfl rfl rfl ?_
  refine Rn.goto K (q := 3) d5_41 (by decide) (by decide) ?_
  refine Rn.iload K (q := 5) d5_3 rfl rfl ?_
  refine Rn.iload K (q := 7) d5_5 rfl rfl ?_
  refine Rn.icN K (q := 10) d5_7 (XT.ii_ge_f (by decide)) rfl ?_
  refine Rn.aloadN K (q := 11) d5_10 rfl rfl rfl ?_
  refine Rn.iloadN K (q := 12) d5_11 rfl rfl ?_
  refine Rn.caload K (q := 13) (v := (.int x13)) f104 (by decide) rfl d5_12 rfl ?_
  refine Rn.istore K (q := 15) (Ls' := #[.val (.ref c), .val (.int (13 : Int32)), .val (.ref b), .val (.int (13 : Int32)), .val (.int (23 : Int32)), .val (.int (13 : Int32)), .val (.int x13)]) d5_13 rfl rfl ?_
  refine Rn.iload K (q := 17) d5_15 rfl rfl ?_
  refine Rn.sipush K (q := 20) (255 : Int32) d5_17 rfl rfl ?_
  refine Rn.icY K (q := 26) d5_20 (XT.ii_le_t hx13) (by decide) (by decide) ?_
  refine Rn.aloadN K (q := 27) d5_26 rfl rfl rfl ?_
  refine Rn.iloadN K (q := 28) d5_27 rfl rfl ?_
  refine Rn.iload K (q := 30) d5_28 rfl rfl ?_
  refine Rn.i2b K (q := 31) d5_30 rfl ?_
  refine Rn.bastoreB K (q := 32) (i := 13) A99 (by decide) rfl (oL rfl) gb d5_31 rfl ?_
  intro h105 W106 A107
  have f109 := f101.wr W106 (Or.inl (oT 0 rfl))
  have f110 := f102.wr W106
  have f111 := f103.wr W106
  have f112 := f104.other W106 (ne_exa f103 f102 (by decide))
  replace A107 : Arv Z h105 b k .byte (23 : Int32) [(.int (oB x0)), (.int (oB x1)), (.int (oB x2)), (.int (oB x3)), (.int (oB x4)), (.int (oB x5)), (.int (oB x6)), (.int (oB x7)), (.int (oB x8)), (.int (oB x9)), (.int (oB x10)), (.int (oB x11)), (.int (oB x12)), (.int (oB x13)), oZ, oZ, oZ, oZ, oZ, oZ, oZ, oZ, oZ] oZ := A107
  refine Rn.iinc K (q := 35) (Ls' := #[.val (.ref c), .val (.int (14 : Int32)), .val (.ref b), .val (.int (13 : Int32)), .val (.int (23 : Int32)), .val (.int (13 : Int32)), .val (.int x13)]) (1 : Int32) d5_32 rfl rfl rfl rfl ?_
  refine Rn.iinc K (q := 38) (Ls' := #[.val (.ref c), .val (.int (14 : Int32)), .val (.ref b), .val (.int (14 : Int32)), .val (.int (23 : Int32)), .val (.int (13 : Int32)), .val (.int x13)]) (1 : Int32) d5_35 rfl rfl rfl rfl ?_
  refine Rn.iinc K (q := 41) (Ls' := #[.val (.ref c), .val (.int (14 : Int32)), .val (.ref b), .val (.int (14 : Int32)), .val (.int (23 : Int32)), .val (.int (14 : Int32)), .val (.int x13)]) (1 : Int32) d5_38 rfl rfl rfl rfl ?_
  refine Rn.goto K (q := 3) d5_41 (by decide) (by decide) ?_
  refine Rn.iload K (q := 5) d5_3 rfl rfl ?_
  refine Rn.iload K (q := 7) d5_5 rfl rfl ?_
  refine Rn.icN K (q := 10) d5_7 (XT.ii_ge_f (by decide)) rfl ?_
  refine Rn.aloadN K (q := 11) d5_10 rfl rfl rfl ?_
  refine Rn.iloadN K (q := 12) d5_11 rfl rfl ?_
  refine Rn.caload K (q := 13) (v := (.int x14)) f112 (by decide) rfl d5_12 rfl ?_
  refine Rn.istore K (q := 15) (Ls' := #[.val (.ref c), .val (.int (14 : Int32)), .val (.ref b), .val (.int (14 : Int32)), .val (.int (23 : Int32)), .val (.int (14 : Int32)), .val (.int x14)]) d5_13 rfl rfl ?_
  refine Rn.iload K (q := 17) d5_15 rfl rfl ?_
  refine Rn.sipush K (q := 20) (255 : Int32) d5_17 rfl rfl ?_
  refine Rn.icY K (q := 26) d5_20 (XT.ii_le_t hx14) (by decide) (by decide) ?_
  refine Rn.aloadN K (q := 27) d5_26 rfl rfl rfl ?_
  refine Rn.iloadN K (q := 28) d5_27 rfl rfl ?_
  refine Rn.iload K (q := 30) d5_28 rfl rfl ?_
  refine Rn.i2b K (q := 31) d5_30 rfl ?_
  refine Rn.bastoreB K (q := 32) (i := 14) A107 (by decide) rfl (oL rfl) gb d5_31 rfl ?_
  intro h113 W114 A115
  have f117 := f109.wr W114 (Or.inl (oT 0 rfl))
  have f118 := f110.wr W114
  have f119 := f111.wr W114
  have f120 := f112.other W114 (ne_exa f111 f110 (by decide))
  replace A115 : Arv Z h113 b k .byte (23 : Int32) [(.int (oB x0)), (.int (oB x1)), (.int (oB x2)), (.int (oB x3)), (.int (oB x4)), (.int (oB x5)), (.int (oB x6)), (.int (oB x7)), (.int (oB x8)), (.int (oB x9)), (.int (oB x10)), (.int (oB x11)), (.int (oB x12)), (.int (oB x13)), (.int (oB x14)), oZ, oZ, oZ, oZ, oZ, oZ, oZ, oZ] oZ := A115
  refine Rn.iinc K (q := 35) (Ls' := #[.val (.ref c), .val (.int (15 : Int32)), .val (.ref b), .val (.int (14 : Int32)), .val (.int (23 : Int32)), .val (.int (14 : Int32)), .val (.int x14)]) (1 : Int32) d5_32 rfl rfl rfl rfl ?_
  refine Rn.iinc K (q := 38) (Ls' := #[.val (.ref c), .val (.int (15 : Int32)), .val (.ref b), .val (.int (15 : Int32)), .val (.int (23 : Int32)), .val (.int (14 : Int32)), .val (.int x14)]) (1 : Int32) d5_35 rfl rfl rfl rfl ?_
  refine Rn.iinc K (q := 41) (Ls' := #[.val (.ref c), .val (.int (15 : Int32)), .val (.ref b), .val (.int (15 : Int32)), .val (.int (23 : Int32)), .val (.int (15 : Int32)), .val (.int x14)]) (1 : Int32) d5_38 rfl rfl rfl rfl ?_
  refine Rn.goto K (q := 3) d5_41 (by decide) (by decide) ?_
  refine Rn.iload K (q := 5) d5_3 rfl rfl ?_
  refine Rn.iload K (q := 7) d5_5 rfl rfl ?_
  refine Rn.icN K (q := 10) d5_7 (XT.ii_ge_f (by decide)) rfl ?_
  refine Rn.aloadN K (q := 11) d5_10 rfl rfl rfl ?_
  refine Rn.iloadN K (q := 12) d5_11 rfl rfl ?_
  refine Rn.caload K (q := 13) (v := (.int x15)) f120 (by decide) rfl d5_12 rfl ?_
  refine Rn.istore K (q := 15) (Ls' := #[.val (.ref c), .val (.int (15 : Int32)), .val (.ref b), .val (.int (15 : Int32)), .val (.int (23 : Int32)), .val (.int (15 : Int32)), .val (.int x15)]) d5_13 rfl rfl ?_
  refine Rn.iload K (q := 17) d5_15 rfl rfl ?_
  refine Rn.sipush K (q := 20) (255 : Int32) d5_17 rfl rfl ?_
  refine Rn.icY K (q := 26) d5_20 (XT.ii_le_t hx15) (by decide) (by decide) ?_
  refine Rn.aloadN K (q := 27) d5_26 rfl rfl rfl ?_
  refine Rn.iloadN K (q := 28) d5_27 rfl rfl ?_
  refine Rn.iload K (q := 30) d5_28 rfl rfl ?_
  refine Rn.i2b K (q := 31) d5_30 rfl ?_
  refine Rn.bastoreB K (q := 32) (i := 15) A115 (by decide) rfl (oL rfl) gb d5_31 rfl ?_
  intro h121 W122 A123
  have f125 := f117.wr W122 (Or.inl (oT 0 rfl))
  have f126 := f118.wr W122
  have f127 := f119.wr W122
  have f128 := f120.other W122 (ne_exa f119 f118 (by decide))
  replace A123 : Arv Z h121 b k .byte (23 : Int32) [(.int (oB x0)), (.int (oB x1)), (.int (oB x2)), (.int (oB x3)), (.int (oB x4)), (.int (oB x5)), (.int (oB x6)), (.int (oB x7)), (.int (oB x8)), (.int (oB x9)), (.int (oB x10)), (.int (oB x11)), (.int (oB x12)), (.int (oB x13)), (.int (oB x14)), (.int (oB x15)), oZ, oZ, oZ, oZ, oZ, oZ, oZ] oZ := A123
  refine Rn.iinc K (q := 35) (Ls' := #[.val (.ref c), .val (.int (16 : Int32)), .val (.ref b), .val (.int (15 : Int32)), .val (.int (23 : Int32)), .val (.int (15 : Int32)), .val (.int x15)]) (1 : Int32) d5_32 rfl rfl rfl rfl ?_
  refine Rn.iinc K (q := 38) (Ls' := #[.val (.ref c), .val (.int (16 : Int32)), .val (.ref b), .val (.int (16 : Int32)), .val (.int (23 : Int32)), .val (.int (15 : Int32)), .val (.int x15)]) (1 : Int32) d5_35 rfl rfl rfl rfl ?_
  refine Rn.iinc K (q := 41) (Ls' := #[.val (.ref c), .val (.int (16 : Int32)), .val (.ref b), .val (.int (16 : Int32)), .val (.int (23 : Int32)), .val (.int (16 : Int32)), .val (.int x15)]) (1 : Int32) d5_38 rfl rfl rfl rfl ?_
  refine Rn.goto K (q := 3) d5_41 (by decide) (by decide) ?_
  refine Rn.iload K (q := 5) d5_3 rfl rfl ?_
  refine Rn.iload K (q := 7) d5_5 rfl rfl ?_
  refine Rn.icN K (q := 10) d5_7 (XT.ii_ge_f (by decide)) rfl ?_
  refine Rn.aloadN K (q := 11) d5_10 rfl rfl rfl ?_
  refine Rn.iloadN K (q := 12) d5_11 rfl rfl ?_
  refine Rn.caload K (q := 13) (v := (.int x16)) f128 (by decide) rfl d5_12 rfl ?_
  refine Rn.istore K (q := 15) (Ls' := #[.val (.ref c), .val (.int (16 : Int32)), .val (.ref b), .val (.int (16 : Int32)), .val (.int (23 : Int32)), .val (.int (16 : Int32)), .val (.int x16)]) d5_13 rfl rfl ?_
  refine Rn.iload K (q := 17) d5_15 rfl rfl ?_
  refine Rn.sipush K (q := 20) (255 : Int32) d5_17 rfl rfl ?_
  refine Rn.icY K (q := 26) d5_20 (XT.ii_le_t hx16) (by decide) (by decide) ?_
  refine Rn.aloadN K (q := 27) d5_26 rfl rfl rfl ?_
  refine Rn.iloadN K (q := 28) d5_27 rfl rfl ?_
  refine Rn.iload K (q := 30) d5_28 rfl rfl ?_
  refine Rn.i2b K (q := 31) d5_30 rfl ?_
  refine Rn.bastoreB K (q := 32) (i := 16) A123 (by decide) rfl (oL rfl) gb d5_31 rfl ?_
  intro h129 W130 A131
  have f133 := f125.wr W130 (Or.inl (oT 0 rfl))
  have f134 := f126.wr W130
  have f135 := f127.wr W130
  have f136 := f128.other W130 (ne_exa f127 f126 (by decide))
  replace A131 : Arv Z h129 b k .byte (23 : Int32) [(.int (oB x0)), (.int (oB x1)), (.int (oB x2)), (.int (oB x3)), (.int (oB x4)), (.int (oB x5)), (.int (oB x6)), (.int (oB x7)), (.int (oB x8)), (.int (oB x9)), (.int (oB x10)), (.int (oB x11)), (.int (oB x12)), (.int (oB x13)), (.int (oB x14)), (.int (oB x15)), (.int (oB x16)), oZ, oZ, oZ, oZ, oZ, oZ] oZ := A131
  refine Rn.iinc K (q := 35) (Ls' := #[.val (.ref c), .val (.int (17 : Int32)), .val (.ref b), .val (.int (16 : Int32)), .val (.int (23 : Int32)), .val (.int (16 : Int32)), .val (.int x16)]) (1 : Int32) d5_32 rfl rfl rfl rfl ?_
  refine Rn.iinc K (q := 38) (Ls' := #[.val (.ref c), .val (.int (17 : Int32)), .val (.ref b), .val (.int (17 : Int32)), .val (.int (23 : Int32)), .val (.int (16 : Int32)), .val (.int x16)]) (1 : Int32) d5_35 rfl rfl rfl rfl ?_
  refine Rn.iinc K (q := 41) (Ls' := #[.val (.ref c), .val (.int (17 : Int32)), .val (.ref b), .val (.int (17 : Int32)), .val (.int (23 : Int32)), .val (.int (17 : Int32)), .val (.int x16)]) (1 : Int32) d5_38 rfl rfl rfl rfl ?_
  refine Rn.goto K (q := 3) d5_41 (by decide) (by decide) ?_
  refine Rn.iload K (q := 5) d5_3 rfl rfl ?_
  refine Rn.iload K (q := 7) d5_5 rfl rfl ?_
  refine Rn.icN K (q := 10) d5_7 (XT.ii_ge_f (by decide)) rfl ?_
  refine Rn.aloadN K (q := 11) d5_10 rfl rfl rfl ?_
  refine Rn.iloadN K (q := 12) d5_11 rfl rfl ?_
  refine Rn.caload K (q := 13) (v := (.int x17)) f136 (by decide) rfl d5_12 rfl ?_
  refine Rn.istore K (q := 15) (Ls' := #[.val (.ref c), .val (.int (17 : Int32)), .val (.ref b), .val (.int (17 : Int32)), .val (.int (23 : Int32)), .val (.int (17 : Int32)), .val (.int x17)]) d5_13 rfl rfl ?_
  refine Rn.iload K (q := 17) d5_15 rfl rfl ?_
  refine Rn.sipush K (q := 20) (255 : Int32) d5_17 rfl rfl ?_
  refine Rn.icY K (q := 26) d5_20 (XT.ii_le_t hx17) (by decide) (by decide) ?_
  refine Rn.aloadN K (q := 27) d5_26 rfl rfl rfl ?_
  refine Rn.iloadN K (q := 28) d5_27 rfl rfl ?_
  refine Rn.iload K (q := 30) d5_28 rfl rfl ?_
  refine Rn.i2b K (q := 31) d5_30 rfl ?_
  refine Rn.bastoreB K (q := 32) (i := 17) A131 (by decide) rfl (oL rfl) gb d5_31 rfl ?_
  intro h137 W138 A139
  have f141 := f133.wr W138 (Or.inl (oT 0 rfl))
  have f142 := f134.wr W138
  have f143 := f135.wr W138
  have f144 := f136.other W138 (ne_exa f135 f134 (by decide))
  replace A139 : Arv Z h137 b k .byte (23 : Int32) [(.int (oB x0)), (.int (oB x1)), (.int (oB x2)), (.int (oB x3)), (.int (oB x4)), (.int (oB x5)), (.int (oB x6)), (.int (oB x7)), (.int (oB x8)), (.int (oB x9)), (.int (oB x10)), (.int (oB x11)), (.int (oB x12)), (.int (oB x13)), (.int (oB x14)), (.int (oB x15)), (.int (oB x16)), (.int (oB x17)), oZ, oZ, oZ, oZ, oZ] oZ := A139
  refine Rn.iinc K (q := 35) (Ls' := #[.val (.ref c), .val (.int (18 : Int32)), .val (.ref b), .val (.int (17 : Int32)), .val (.int (23 : Int32)), .val (.int (17 : Int32)), .val (.int x17)]) (1 : Int32) d5_32 rfl rfl rfl rfl ?_
  refine Rn.iinc K (q := 38) (Ls' := #[.val (.ref c), .val (.int (18 : Int32)), .val (.ref b), .val (.int (18 : Int32)), .val (.int (23 : Int32)), .val (.int (17 : Int32)), .val (.int x17)]) (1 : Int32) d5_35 rfl rfl rfl rfl ?_
  refine Rn.iinc K (q := 41) (Ls' := #[.val (.ref c), .val (.int (18 : Int32)), .val (.ref b), .val (.int (18 : Int32)), .val (.int (23 : Int32)), .val (.int (18 : Int32)), .val (.int x17)]) (1 : Int32) d5_38 rfl rfl rfl rfl ?_
  refine Rn.goto K (q := 3) d5_41 (by decide) (by decide) ?_
  refine Rn.iload K (q := 5) d5_3 rfl rfl ?_
  refine Rn.iload K (q := 7) d5_5 rfl rfl ?_
  refine Rn.icN K (q := 10) d5_7 (XT.ii_ge_f (by decide)) rfl ?_
  refine Rn.aloadN K (q := 11) d5_10 rfl rfl rfl ?_
  refine Rn.iloadN K (q := 12) d5_11 rfl rfl ?_
  refine Rn.caload K (q := 13) (v := (.int x18)) f144 (by decide) rfl d5_12 rfl ?_
  refine Rn.istore K (q := 15) (Ls' := #[.val (.ref c), .val (.int (18 : Int32)), .val (.ref b), .val (.int (18 : Int32)), .val (.int (23 : Int32)), .val (.int (18 : Int32)), .val (.int x18)]) d5_13 rfl rfl ?_
  refine Rn.iload K (q := 17) d5_15 rfl rfl ?_
  refine Rn.sipush K (q := 20) (255 : Int32) d5_17 rfl rfl ?_
  refine Rn.icY K (q := 26) d5_20 (XT.ii_le_t hx18) (by decide) (by decide) ?_
  refine Rn.aloadN K (q := 27) d5_26 rfl rfl rfl ?_
  refine Rn.iloadN K (q := 28) d5_27 rfl rfl ?_
  refine Rn.iload K (q := 30) d5_28 rfl rfl ?_
  refine Rn.i2b K (q := 31) d5_30 rfl ?_
  refine Rn.bastoreB K (q := 32) (i := 18) A139 (by decide) rfl (oL rfl) gb d5_31 rfl ?_
  intro h145 W146 A147
  have f149 := f141.wr W146 (Or.inl (oT 0 rfl))
  have f150 := f142.wr W146
  have f151 := f143.wr W146
  have f152 := f144.other W146 (ne_exa f143 f142 (by decide))
  replace A147 : Arv Z h145 b k .byte (23 : Int32) [(.int (oB x0)), (.int (oB x1)), (.int (oB x2)), (.int (oB x3)), (.int (oB x4)), (.int (oB x5)), (.int (oB x6)), (.int (oB x7)), (.int (oB x8)), (.int (oB x9)), (.int (oB x10)), (.int (oB x11)), (.int (oB x12)), (.int (oB x13)), (.int (oB x14)), (.int (oB x15)), (.int (oB x16)), (.int (oB x17)), (.int (oB x18)), oZ, oZ, oZ, oZ] oZ := A147
  refine Rn.iinc K (q := 35) (Ls' := #[.val (.ref c), .val (.int (19 : Int32)), .val (.ref b), .val (.int (18 : Int32)), .val (.int (23 : Int32)), .val (.int (18 : Int32)), .val (.int x18)]) (1 : Int32) d5_32 rfl rfl rfl rfl ?_
  refine Rn.iinc K (q := 38) (Ls' := #[.val (.ref c), .val (.int (19 : Int32)), .val (.ref b), .val (.int (19 : Int32)), .val (.int (23 : Int32)), .val (.int (18 : Int32)), .val (.int x18)]) (1 : Int32) d5_35 rfl rfl rfl rfl ?_
  refine Rn.iinc K (q := 41) (Ls' := #[.val (.ref c), .val (.int (19 : Int32)), .val (.ref b), .val (.int (19 : Int32)), .val (.int (23 : Int32)), .val (.int (19 : Int32)), .val (.int x18)]) (1 : Int32) d5_38 rfl rfl rfl rfl ?_
  refine Rn.goto K (q := 3) d5_41 (by decide) (by decide) ?_
  refine Rn.iload K (q := 5) d5_3 rfl rfl ?_
  refine Rn.iload K (q := 7) d5_5 rfl rfl ?_
  refine Rn.icN K (q := 10) d5_7 (XT.ii_ge_f (by decide)) rfl ?_
  refine Rn.aloadN K (q := 11) d5_10 rfl rfl rfl ?_
  refine Rn.iloadN K (q := 12) d5_11 rfl rfl ?_
  refine Rn.caload K (q := 13) (v := (.int x19)) f152 (by decide) rfl d5_12 rfl ?_
  refine Rn.istore K (q := 15) (Ls' := #[.val (.ref c), .val (.int (19 : Int32)), .val (.ref b), .val (.int (19 : Int32)), .val (.int (23 : Int32)), .val (.int (19 : Int32)), .val (.int x19)]) d5_13 rfl rfl ?_
  refine Rn.iload K (q := 17) d5_15 rfl rfl ?_
  refine Rn.sipush K (q := 20) (255 : Int32) d5_17 rfl rfl ?_
  refine Rn.icY K (q := 26) d5_20 (XT.ii_le_t hx19) (by decide) (by decide) ?_
  refine Rn.aloadN K (q := 27) d5_26 rfl rfl rfl ?_
  refine Rn.iloadN K (q := 28) d5_27 rfl rfl ?_
  refine Rn.iload K (q := 30) d5_28 rfl rfl ?_
  refine Rn.i2b K (q := 31) d5_30 rfl ?_
  refine Rn.bastoreB K (q := 32) (i := 19) A147 (by decide) rfl (oL rfl) gb d5_31 rfl ?_
  intro h153 W154 A155
  have f157 := f149.wr W154 (Or.inl (oT 0 rfl))
  have f158 := f150.wr W154
  have f159 := f151.wr W154
  have f160 := f152.other W154 (ne_exa f151 f150 (by decide))
  replace A155 : Arv Z h153 b k .byte (23 : Int32) [(.int (oB x0)), (.int (oB x1)), (.int (oB x2)), (.int (oB x3)), (.int (oB x4)), (.int (oB x5)), (.int (oB x6)), (.int (oB x7)), (.int (oB x8)), (.int (oB x9)), (.int (oB x10)), (.int (oB x11)), (.int (oB x12)), (.int (oB x13)), (.int (oB x14)), (.int (oB x15)), (.int (oB x16)), (.int (oB x17)), (.int (oB x18)), (.int (oB x19)), oZ, oZ, oZ] oZ := A155
  refine Rn.iinc K (q := 35) (Ls' := #[.val (.ref c), .val (.int (20 : Int32)), .val (.ref b), .val (.int (19 : Int32)), .val (.int (23 : Int32)), .val (.int (19 : Int32)), .val (.int x19)]) (1 : Int32) d5_32 rfl rfl rfl rfl ?_
  refine Rn.iinc K (q := 38) (Ls' := #[.val (.ref c), .val (.int (20 : Int32)), .val (.ref b), .val (.int (20 : Int32)), .val (.int (23 : Int32)), .val (.int (19 : Int32)), .val (.int x19)]) (1 : Int32) d5_35 rfl rfl rfl rfl ?_
  refine Rn.iinc K (q := 41) (Ls' := #[.val (.ref c), .val (.int (20 : Int32)), .val (.ref b), .val (.int (20 : Int32)), .val (.int (23 : Int32)), .val (.int (20 : Int32)), .val (.int x19)]) (1 : Int32) d5_38 rfl rfl rfl rfl ?_
  refine Rn.goto K (q := 3) d5_41 (by decide) (by decide) ?_
  refine Rn.iload K (q := 5) d5_3 rfl rfl ?_
  refine Rn.iload K (q := 7) d5_5 rfl rfl ?_
  refine Rn.icN K (q := 10) d5_7 (XT.ii_ge_f (by decide)) rfl ?_
  refine Rn.aloadN K (q := 11) d5_10 rfl rfl rfl ?_
  refine Rn.iloadN K (q := 12) d5_11 rfl rfl ?_
  refine Rn.caload K (q := 13) (v := (.int x20)) f160 (by decide) rfl d5_12 rfl ?_
  refine Rn.istore K (q := 15) (Ls' := #[.val (.ref c), .val (.int (20 : Int32)), .val (.ref b), .val (.int (20 : Int32)), .val (.int (23 : Int32)), .val (.int (20 : Int32)), .val (.int x20)]) d5_13 rfl rfl ?_
  refine Rn.iload K (q := 17) d5_15 rfl rfl ?_
  refine Rn.sipush K (q := 20) (255 : Int32) d5_17 rfl rfl ?_
  refine Rn.icY K (q := 26) d5_20 (XT.ii_le_t hx20) (by decide) (by decide) ?_
  refine Rn.aloadN K (q := 27) d5_26 rfl rfl rfl ?_
  refine Rn.iloadN K (q := 28) d5_27 rfl rfl ?_
  refine Rn.iload K (q := 30) d5_28 rfl rfl ?_
  refine Rn.i2b K (q := 31) d5_30 rfl ?_
  refine Rn.bastoreB K (q := 32) (i := 20) A155 (by decide) rfl (oL rfl) gb d5_31 rfl ?_
  intro h161 W162 A163
  have f165 := f157.wr W162 (Or.inl (oT 0 rfl))
  have f166 := f158.wr W162
  have f167 := f159.wr W162
  have f168 := f160.other W162 (ne_exa f159 f158 (by decide))
  replace A163 : Arv Z h161 b k .byte (23 : Int32) [(.int (oB x0)), (.int (oB x1)), (.int (oB x2)), (.int (oB x3)), (.int (oB x4)), (.int (oB x5)), (.int (oB x6)), (.int (oB x7)), (.int (oB x8)), (.int (oB x9)), (.int (oB x10)), (.int (oB x11)), (.int (oB x12)), (.int (oB x13)), (.int (oB x14)), (.int (oB x15)), (.int (oB x16)), (.int (oB x17)), (.int (oB x18)), (.int (oB x19)), (.int (oB x20)), oZ, oZ] oZ := A163
  refine Rn.iinc K (q := 35) (Ls' := #[.val (.ref c), .val (.int (21 : Int32)), .val (.ref b), .val (.int (20 : Int32)), .val (.int (23 : Int32)), .val (.int (20 : Int32)), .val (.int x20)]) (1 : Int32) d5_32 rfl rfl rfl rfl ?_
  refine Rn.iinc K (q := 38) (Ls' := #[.val (.ref c), .val (.int (21 : Int32)), .val (.ref b), .val (.int (21 : Int32)), .val (.int (23 : Int32)), .val (.int (20 : Int32)), .val (.int x20)]) (1 : Int32) d5_35 rfl rfl rfl rfl ?_
  refine Rn.iinc K (q := 41) (Ls' := #[.val (.ref c), .val (.int (21 : Int32)), .val (.ref b), .val (.int (21 : Int32)), .val (.int (23 : Int32)), .val (.int (21 : Int32)), .val (.int x20)]) (1 : Int32) d5_38 rfl rfl rfl rfl ?_
  refine Rn.goto K (q := 3) d5_41 (by decide) (by decide) ?_
  refine Rn.iload K (q := 5) d5_3 rfl rfl ?_
  refine Rn.iload K (q := 7) d5_5 rfl rfl ?_
  refine Rn.icN K (q := 10) d5_7 (XT.ii_ge_f (by decide)) rfl ?_
  refine Rn.aloadN K (q := 11) d5_10 rfl rfl rfl ?_
  refine Rn.iloadN K (q := 12) d5_11 rfl rfl ?_
  refine Rn.caload K (q := 13) (v := (.int x21)) f168 (by decide) rfl d5_12 rfl ?_
  refine Rn.istore K (q := 15) (Ls' := #[.val (.ref c), .val (.int (21 : Int32)), .val (.ref b), .val (.int (21 : Int32)), .val (.int (23 : Int32)), .val (.int (21 : Int32)), .val (.int x21)]) d5_13 rfl rfl ?_
  refine Rn.iload K (q := 17) d5_15 rfl rfl ?_
  refine Rn.sipush K (q := 20) (255 : Int32) d5_17 rfl rfl ?_
  refine Rn.icY K (q := 26) d5_20 (XT.ii_le_t hx21) (by decide) (by decide) ?_
  refine Rn.aloadN K (q := 27) d5_26 rfl rfl rfl ?_
  refine Rn.iloadN K (q := 28) d5_27 rfl rfl ?_
  refine Rn.iload K (q := 30) d5_28 rfl rfl ?_
  refine Rn.i2b K (q := 31) d5_30 rfl ?_
  refine Rn.bastoreB K (q := 32) (i := 21) A163 (by decide) rfl (oL rfl) gb d5_31 rfl ?_
  intro h169 W170 A171
  have f173 := f165.wr W170 (Or.inl (oT 0 rfl))
  have f176 := f168.other W170 (ne_exa f167 f166 (by decide))
  replace A171 : Arv Z h169 b k .byte (23 : Int32) [(.int (oB x0)), (.int (oB x1)), (.int (oB x2)), (.int (oB x3)), (.int (oB x4)), (.int (oB x5)), (.int (oB x6)), (.int (oB x7)), (.int (oB x8)), (.int (oB x9)), (.int (oB x10)), (.int (oB x11)), (.int (oB x12)), (.int (oB x13)), (.int (oB x14)), (.int (oB x15)), (.int (oB x16)), (.int (oB x17)), (.int (oB x18)), (.int (oB x19)), (.int (oB x20)), (.int (oB x21)), oZ] oZ := A171
  refine Rn.iinc K (q := 35) (Ls' := #[.val (.ref c), .val (.int (22 : Int32)), .val (.ref b), .val (.int (21 : Int32)), .val (.int (23 : Int32)), .val (.int (21 : Int32)), .val (.int x21)]) (1 : Int32) d5_32 rfl rfl rfl rfl ?_
  refine Rn.iinc K (q := 38) (Ls' := #[.val (.ref c), .val (.int (22 : Int32)), .val (.ref b), .val (.int (22 : Int32)), .val (.int (23 : Int32)), .val (.int (21 : Int32)), .val (.int x21)]) (1 : Int32) d5_35 rfl rfl rfl rfl ?_
  refine Rn.iinc K (q := 41) (Ls' := #[.val (.ref c), .val (.int (22 : Int32)), .val (.ref b), .val (.int (22 : Int32)), .val (.int (23 : Int32)), .val (.int (22 : Int32)), .val (.int x21)]) (1 : Int32) d5_38 rfl rfl rfl rfl ?_
  refine Rn.goto K (q := 3) d5_41 (by decide) (by decide) ?_
  refine Rn.iload K (q := 5) d5_3 rfl rfl ?_
  refine Rn.iload K (q := 7) d5_5 rfl rfl ?_
  refine Rn.icN K (q := 10) d5_7 (XT.ii_ge_f (by decide)) rfl ?_
  refine Rn.aloadN K (q := 11) d5_10 rfl rfl rfl ?_
  refine Rn.iloadN K (q := 12) d5_11 rfl rfl ?_
  refine Rn.caload K (q := 13) (v := (.int x22)) f176 (by decide) rfl d5_12 rfl ?_
  refine Rn.istore K (q := 15) (Ls' := #[.val (.ref c), .val (.int (22 : Int32)), .val (.ref b), .val (.int (22 : Int32)), .val (.int (23 : Int32)), .val (.int (22 : Int32)), .val (.int x22)]) d5_13 rfl rfl ?_
  refine Rn.iload K (q := 17) d5_15 rfl rfl ?_
  refine Rn.sipush K (q := 20) (255 : Int32) d5_17 rfl rfl ?_
  refine Rn.icY K (q := 26) d5_20 (XT.ii_le_t hx22) (by decide) (by decide) ?_
  refine Rn.aloadN K (q := 27) d5_26 rfl rfl rfl ?_
  refine Rn.iloadN K (q := 28) d5_27 rfl rfl ?_
  refine Rn.iload K (q := 30) d5_28 rfl rfl ?_
  refine Rn.i2b K (q := 31) d5_30 rfl ?_
  refine Rn.bastoreB K (q := 32) (i := 22) A171 (by decide) rfl (oL rfl) gb d5_31 rfl ?_
  intro h177 W178 A179
  have f181 := f173.wr W178 (Or.inl (oT 0 rfl))
  replace A179 : Arv Z h177 b k .byte (23 : Int32) [(.int (oB x0)), (.int (oB x1)), (.int (oB x2)), (.int (oB x3)), (.int (oB x4)), (.int (oB x5)), (.int (oB x6)), (.int (oB x7)), (.int (oB x8)), (.int (oB x9)), (.int (oB x10)), (.int (oB x11)), (.int (oB x12)), (.int (oB x13)), (.int (oB x14)), (.int (oB x15)), (.int (oB x16)), (.int (oB x17)), (.int (oB x18)), (.int (oB x19)), (.int (oB x20)), (.int (oB x21)), (.int (oB x22))] oZ := A179
  refine Rn.iinc K (q := 35) (Ls' := #[.val (.ref c), .val (.int (23 : Int32)), .val (.ref b), .val (.int (22 : Int32)), .val (.int (23 : Int32)), .val (.int (22 : Int32)), .val (.int x22)]) (1 : Int32) d5_32 rfl rfl rfl rfl ?_
  refine Rn.iinc K (q := 38) (Ls' := #[.val (.ref c), .val (.int (23 : Int32)), .val (.ref b), .val (.int (23 : Int32)), .val (.int (23 : Int32)), .val (.int (22 : Int32)), .val (.int x22)]) (1 : Int32) d5_35 rfl rfl rfl rfl ?_
  refine Rn.iinc K (q := 41) (Ls' := #[.val (.ref c), .val (.int (23 : Int32)), .val (.ref b), .val (.int (23 : Int32)), .val (.int (23 : Int32)), .val (.int (23 : Int32)), .val (.int x22)]) (1 : Int32) d5_38 rfl rfl rfl rfl ?_
  refine Rn.goto K (q := 3) d5_41 (by decide) (by decide) ?_
  refine Rn.iload K (q := 5) d5_3 rfl rfl ?_
  refine Rn.iload K (q := 7) d5_5 rfl rfl ?_
  refine Rn.icY K (q := 44) d5_7 (XT.ii_ge_t (by decide)) (by decide) (by decide) ?_
  refine Rn.iload K (q := 46) d5_44 rfl rfl ?_
  exact Rn.retI K rfl d5_46 (by decide) (by decide) ⟨rfl, f181, A179⟩
theorem m_cp23 (l : Launch) (Z : State) (a0 : Array Value) (hw : oH Z a0) (n0 : Nat) (h0 : Heap) (c : Addr) (kc : ClassId) (x0 x1 x2 x3 x4 x5 x6 x7 x8 x9 x10 x11 x12 x13 x14 x15 x16 x17 x18 x19 x20 x21 x22 : Int32) (X0 : Old Z n0 h0) (Ec : Exa Z h0 c "[C") (Ac : Arv Z h0 c kc .char (23 : Int32) [(.int x0), (.int x1), (.int x2), (.int x3), (.int x4), (.int x5), (.int x6), (.int x7), (.int x8), (.int x9), (.int x10), (.int x11), (.int x12), (.int x13), (.int x14), (.int x15), (.int x16), (.int x17), (.int x18), (.int x19), (.int x20), (.int x21), (.int x22)] oZ) (hx0 : ¬ (255 : Int32) < x0) (hx1 : ¬ (255 : Int32) < x1) (hx2 : ¬ (255 : Int32) < x2) (hx3 : ¬ (255 : Int32) < x3) (hx4 : ¬ (255 : Int32) < x4) (hx5 : ¬ (255 : Int32) < x5) (hx6 : ¬ (255 : Int32) < x6) (hx7 : ¬ (255 : Int32) < x7) (hx8 : ¬ (255 : Int32) < x8) (hx9 : ¬ (255 : Int32) < x9) (hx10 : ¬ (255 : Int32) < x10) (hx11 : ¬ (255 : Int32) < x11) (hx12 : ¬ (255 : Int32) < x12) (hx13 : ¬ (255 : Int32) < x13) (hx14 : ¬ (255 : Int32) < x14) (hx15 : ¬ (255 : Int32) < x15) (hx16 : ¬ (255 : Int32) < x16) (hx17 : ¬ (255 : Int32) < x17) (hx18 : ¬ (255 : Int32) < x18) (hx19 : ¬ (255 : Int32) < x19) (hx20 : ¬ (255 : Int32) < x20) (hx21 : ¬ (255 : Int32) < x21) (hx22 : ¬ (255 : Int32) < x22) :
    Met l Z oM5 oC5 6 (some (.array .byte)) (oR 1 1 23 18) n0 [] #[(.ref c), oZ, (.int (23 : Int32))] h0 (fun v h => ∃ b k, v = some (.ref b) ∧ Keep h0 h [] ∧ Exa Z h b "[B" ∧ Arv Z h b k .byte (23 : Int32) [(.int (oB x0)), (.int (oB x1)), (.int (oB x2)), (.int (oB x3)), (.int (oB x4)), (.int (oB x5)), (.int (oB x6)), (.int (oB x7)), (.int (oB x8)), (.int (oB x9)), (.int (oB x10)), (.int (oB x11)), (.int (oB x12)), (.int (oB x13)), (.int (oB x14)), (.int (oB x15)), (.int (oB x16)), (.int (oB x17)), (.int (oB x18)), (.int (oB x19)), (.int (oB x20)), (.int (oB x21)), (.int (oB x22))] oZ) := by
  refine Met.intro (Ls := #[.val (.ref c), .val oZ, .val (.int (23 : Int32)), .unset, .unset, .unset]) (plainFor_of_name pn_m_cpr2) hw (fun _ => rfl) ?_
  intro w K0
  have K : oK5 w Z a0 := K0
  have K1 := Keep.refl h0 []
  refine Rn.iloadN K (q := 1) d4_0 rfl rfl ?_
  refine Rn.newP K (q := 3) (cap := 23) (oT 19 rfl) (by decide) (by decide) (by decide) (by decide) (by decide) (ad := "[B") (by decide) d4_1 rfl ?_
  intro b1 h2 k4 gb1_ X3 A_b1 EA_b1
  have ne_c_b1 : c ≠ b1 := fun e => absurd Ec.lt (by rw [e, gb1_]; exact Nat.lt_irrefl _)
  have ne_c_b1 : c ≠ b1 := fun e => absurd Ec.lt (by rw [e, gb1_]; exact Nat.lt_irrefl _)
  have g_b1 : n0 ≤ b1 := by rw [gb1_]; exact X0.1 ▸ X0.2.1
  have sz_b1 : h0.size ≤ b1 := by rw [gb1_]; exact K1.1
  have f5 := X0.ext X3
  have f6 := K1.ext X3
  have f7 := Ec.ext X3
  have f8 := Ac.ext X3
  replace A_b1 : Arv Z h2 b1 k4 .byte (23 : Int32) [oZ, oZ, oZ, oZ, oZ, oZ, oZ, oZ, oZ, oZ, oZ, oZ, oZ, oZ, oZ, oZ, oZ, oZ, oZ, oZ, oZ, oZ, oZ] oZ := A_b1.pad (pad_rep [] oZ 23)
  show Rn w l _ n0 _ 3 _ [(.ref b1)] h2 1 23
  refine Rn.astoreN K (q := 4) (Ls' := #[.val (.ref c), .val oZ, .val (.int (23 : Int32)), .val (.ref b1), .unset, .unset]) d4_3 rfl rfl rfl ?_
  refine Rn.aloadN K (q := 5) d4_4 rfl rfl rfl ?_
  refine Rn.iloadN K (q := 6) d4_5 rfl rfl ?_
  refine Rn.aloadN K (q := 7) d4_6 rfl rfl rfl ?_
  refine Rn.iconst K (q := 8) (0 : Int32) d4_7 rfl rfl ?_
  refine Rn.iloadN K (q := 9) d4_8 rfl rfl ?_
  refine Rn.stat K (q := 12) (W := 0) (y := oM4) (argsL := [(.ref c), oZ, (.ref b1), oZ, (.int (23 : Int32))]) (rest := []) (oT 20 rfl) (oT 21 rfl) (oT 22 rfl) (oT 17 rfl) (by decide) (m_cpr23 l Z a0 hw n0 h2 c b1 kc k4 x0 x1 x2 x3 x4 x5 x6 x7 x8 x9 x10 x11 x12 x13 x14 x15 x16 x17 x18 x19 x20 x21 x22 f5 f7 f8 EA_b1 A_b1 g_b1 hx0 hx1 hx2 hx3 hx4 hx5 hx6 hx7 hx8 hx9 hx10 hx11 hx12 hx13 hx14 hx15 hx16 hx17 hx18 hx19 hx20 hx21 hx22) (by decide) (by decide) rfl (lenOf pd_2 rfl) rfl (oL rfl) d4_9 rfl (by decide) (by decide) ?_
  rintro _ h9 ⟨rfl, K10, A11⟩
  have f13 := f6.trans K10 (allS (Or.inr sz_b1) all0)
  have f16 := EA_b1.keep K10
  show Rn w l _ n0 _ 12 _ [(.int (23 : Int32))] h9 1 23
  refine Rn.istore K (q := 14) (Ls' := #[.val (.ref c), .val oZ, .val (.int (23 : Int32)), .val (.ref b1), .val (.int (23 : Int32)), .unset]) d4_12 rfl rfl ?_
  refine Rn.iload K (q := 16) d4_14 rfl rfl ?_
  refine Rn.iloadN K (q := 17) d4_16 rfl rfl ?_
  refine Rn.icY K (q := 57) d4_17 (XT.ii_eq_t rfl) (by decide) (by decide) ?_
  refine Rn.aloadN K (q := 58) d4_57 rfl rfl rfl ?_
  exact Rn.retA K (.array .byte) rfl rfl rfl d4_58 (by decide) (by decide) ⟨_, _, rfl, f13, f16, A11⟩
theorem m_cfl23 (l : Launch) (Z : State) (a0 : Array Value) (hw : oH Z a0) (n0 : Nat) (h0 : Heap) (b : Addr) (k : ClassId) (x0 x1 x2 x3 x4 x5 x6 x7 x8 x9 x10 x11 x12 x13 x14 x15 x16 x17 x18 x19 x20 x21 x22 : Int32) (X0 : Old Z n0 h0) (Ab : Arv Z h0 b k .byte (23 : Int32) [(.int (oB x0)), (.int (oB x1)), (.int (oB x2)), (.int (oB x3)), (.int (oB x4)), (.int (oB x5)), (.int (oB x6)), (.int (oB x7)), (.int (oB x8)), (.int (oB x9)), (.int (oB x10)), (.int (oB x11)), (.int (oB x12)), (.int (oB x13)), (.int (oB x14)), (.int (oB x15)), (.int (oB x16)), (.int (oB x17)), (.int (oB x18)), (.int (oB x19)), (.int (oB x20)), (.int (oB x21)), (.int (oB x22))] oZ) :
    Met l Z oM6 oC6 2 (some .byte) (oR 0 0 0 0) n0 [] #[(.ref b), (.int (23 : Int32))] h0 (fun v h => v = some (.int (0 : Int32)) ∧ h0 = h) := by
  refine Met.intro (Ls := #[.val (.ref b), .val (.int (23 : Int32))]) (plainFor_of_name pn_m_cpr2) hw (fun _ => rfl) ?_
  intro w K0
  have K : oK6 w Z a0 := K0
  refine Rn.iloadN K (q := 1) d6_0 rfl rfl ?_
  refine Rn.aloadN K (q := 2) d6_1 rfl rfl rfl ?_
  refine Rn.arraylength K (q := 3) Ab d6_2 rfl ?_
  refine Rn.isub K (q := 4) d6_3 rfl ?_
  show Rn w l _ n0 _ 4 _ [oZ] h0 0 0
  refine Rn.bipush K (q := 6) (31 : Int32) d6_4 rfl rfl ?_
  refine Rn.iushr K (q := 7) d6_6 rfl ?_
  refine Rn.i2b K (q := 8) d6_7 rfl ?_
  exact Rn.retN K .byte rfl (by simp) d6_8 (by decide) (by decide) ⟨by rw [show nar .byte (((0 : Int32).toUInt32 >>> ((31 : Int32) &&& 31).toUInt32).toInt32).toInt8.toInt32 = 0 from by decide], rfl⟩
theorem m_iv23 (l : Launch) (Z : State) (a0 : Array Value) (hw : oH Z a0) (n0 : Nat) (h0 : Heap) (s c : Addr) (kc : ClassId) (x0 x1 x2 x3 x4 x5 x6 x7 x8 x9 x10 x11 x12 x13 x14 x15 x16 x17 x18 x19 x20 x21 x22 : Int32) (cst : Int32) (X0 : Old Z n0 h0) (SC : oSC Z cst) (hcs : ¬ cst = 0) (Es : Exa Z h0 s "java/lang/String") (gs : n0 ≤ s) (Fv : Fld Z h0 s "java/lang/String" "value" "[B" .null) (Fc : Fld Z h0 s "java/lang/String" "coder" "B" (.int (0 : Int32))) (Ec : Exa Z h0 c "[C") (Ac : Arv Z h0 c kc .char (23 : Int32) [(.int x0), (.int x1), (.int x2), (.int x3), (.int x4), (.int x5), (.int x6), (.int x7), (.int x8), (.int x9), (.int x10), (.int x11), (.int x12), (.int x13), (.int x14), (.int x15), (.int x16), (.int x17), (.int x18), (.int x19), (.int x20), (.int x21), (.int x22)] oZ) (hx0 : ¬ (255 : Int32) < x0) (hx1 : ¬ (255 : Int32) < x1) (hx2 : ¬ (255 : Int32) < x2) (hx3 : ¬ (255 : Int32) < x3) (hx4 : ¬ (255 : Int32) < x4) (hx5 : ¬ (255 : Int32) < x5) (hx6 : ¬ (255 : Int32) < x6) (hx7 : ¬ (255 : Int32) < x7) (hx8 : ¬ (255 : Int32) < x8) (hx9 : ¬ (255 : Int32) < x9) (hx10 : ¬ (255 : Int32) < x10) (hx11 : ¬ (255 : Int32) < x11) (hx12 : ¬ (255 : Int32) < x12) (hx13 : ¬ (255 : Int32) < x13) (hx14 : ¬ (255 : Int32) < x14) (hx15 : ¬ (255 : Int32) < x15) (hx16 : ¬ (255 : Int32) < x16) (hx17 : ¬ (255 : Int32) < x17) (hx18 : ¬ (255 : Int32) < x18) (hx19 : ¬ (255 : Int32) < x19) (hx20 : ¬ (255 : Int32) < x20) (hx21 : ¬ (255 : Int32) < x21) (hx22 : ¬ (255 : Int32) < x22) :
    Met l Z oM7 oC7 6 none (oR 2 1 23 36) n0 [] #[(.ref s), (.ref c), oZ, (.int (23 : Int32)), .null] h0 (fun r h => r = none ∧ Keep h0 h [s] ∧ ∃ v k, Fld Z h s "java/lang/String" "value" "[B" (.ref v) ∧ Fld Z h s "java/lang/String" "coder" "B" (.int (0 : Int32)) ∧ Exa Z h v "[B" ∧ Arv Z h v k .byte (23 : Int32) [(.int (oB x0)), (.int (oB x1)), (.int (oB x2)), (.int (oB x3)), (.int (oB x4)), (.int (oB x5)), (.int (oB x6)), (.int (oB x7)), (.int (oB x8)), (.int (oB x9)), (.int (oB x10)), (.int (oB x11)), (.int (oB x12)), (.int (oB x13)), (.int (oB x14)), (.int (oB x15)), (.int (oB x16)), (.int (oB x17)), (.int (oB x18)), (.int (oB x19)), (.int (oB x20)), (.int (oB x21)), (.int (oB x22))] oZ) := by
  refine Met.intro (Ls := #[.val (.ref s), .val (.ref c), .val oZ, .val (.int (23 : Int32)), .val .null, .unset]) (plainFor_of_name pn_m_coder) hw (fun _ => rfl) ?_
  intro w K0
  have K : oK7 w Z a0 := K0
  have K1 := Keep.refl h0 [s]
  refine Rn.aloadN K (q := 1) d2_0 rfl rfl rfl ?_
  refine Rn.initO K (q := 4) (W := 0) (oT 11 rfl) (oT 12 rfl) (oT 13 rfl) (by decide) (by decide) rfl (oL rfl) d2_1 rfl ?_
  refine Rn.iloadN K (q := 5) d2_4 rfl rfl ?_
  refine Rn.ifY K (q := 27) d2_5 (XT.i0_ne_t (by decide)) (by decide) (by decide) ?_
  refine Rn.getS K (q := 30) (oT 14 rfl) (SC.ext X0.2) d2_27 rfl ?_
  refine Rn.ifN K (q := 33) d2_30 (XT.i0_eq_f hcs) rfl ?_
  refine Rn.aloadN K (q := 34) d2_33 rfl rfl rfl ?_
  refine Rn.iloadN K (q := 35) d2_34 rfl rfl ?_
  refine Rn.iloadN K (q := 36) d2_35 rfl rfl ?_
  refine Rn.stat K (q := 39) (W := 0) (y := oM5) (argsL := [(.ref c), oZ, (.int (23 : Int32))]) (rest := []) (oT 15 rfl) (oT 16 rfl) (oT 18 rfl) (oT 17 rfl) (by decide) (m_cp23 l Z a0 hw n0 h0 c kc x0 x1 x2 x3 x4 x5 x6 x7 x8 x9 x10 x11 x12 x13 x14 x15 x16 x17 x18 x19 x20 x21 x22 X0 Ec Ac hx0 hx1 hx2 hx3 hx4 hx5 hx6 hx7 hx8 hx9 hx10 hx11 hx12 hx13 hx14 hx15 hx16 hx17 hx18 hx19 hx20 hx21 hx22) (by decide) (by decide) rfl (lenOf pd_3 rfl) rfl (oL rfl) d2_36 rfl (by decide) (by decide) ?_
  rintro _ h1 ⟨v, k, rfl, K2, E3, A4⟩
  have f5 := X0.keep K2 all0
  have f6 := K1.trans K2 all0
  have f7 := Es.keep K2
  have f8 := Fv.keep K2 nin0
  have f9 := Fc.keep K2 nin0
  show Rn w l _ n0 _ 39 _ [(.ref v)] h1 1 23
  refine Rn.astore K (q := 41) (Ls' := #[.val (.ref s), .val (.ref c), .val oZ, .val (.int (23 : Int32)), .val .null, .val (.ref v)]) d2_39 rfl rfl rfl ?_
  refine Rn.aloadN K (q := 42) d2_41 rfl rfl rfl ?_
  refine Rn.aload K (q := 44) d2_42 rfl rfl rfl ?_
  refine Rn.iloadN K (q := 45) d2_44 rfl rfl ?_
  refine Rn.stat K (q := 48) (W := 1) (y := oM6) (argsL := [(.ref v), (.int (23 : Int32))]) (rest := [(.ref s)]) (oT 23 rfl) (oT 24 rfl) (oT 25 rfl) (oT 17 rfl) (by decide) (m_cfl23 l Z a0 hw n0 h1 v k x0 x1 x2 x3 x4 x5 x6 x7 x8 x9 x10 x11 x12 x13 x14 x15 x16 x17 x18 x19 x20 x21 x22 f5 A4) (by decide) (by decide) rfl (lenOf pd_4 rfl) rfl (oL rfl) d2_45 rfl (by decide) (by decide) ?_
  rintro _ _ ⟨rfl, rfl⟩
  show Rn w l _ n0 _ 48 _ [oZ, (.ref s)] h1 1 23
  refine Rn.putF K (q := 51) (ty := .byte) (v' := .int (nar .byte (0 : Int32))) (oT 26 rfl) Via.refl f9 f7 (Or.inr ⟨(oT 27 rfl), rfl, rfl⟩) (oT 1 rfl) (by decide) rfl (fits_nar_byte _) gs d2_48 rfl ?_
  intro h12 W13
  have f15 := f6.wr W13 (Or.inl (oT 0 rfl))
  have f16 := f7.wr W13
  have f17 := Fld.other W13 f8 (Or.inr (slot_ne (Or.inr (K.hw _ (oT 29 rfl))) (Or.inr (K.hw _ (oT 27 rfl))) (by decide) (t := (.array .byte)) (t' := .byte) (by decide) (by decide)))
  have f18 := Fld.same W13 f9
  have f21 := E3.wr W13
  have f22 := A4.other W13 (ne_exa E3 f7 (by decide))
  refine Rn.aloadN K (q := 52) d2_51 rfl rfl rfl ?_
  refine Rn.aload K (q := 54) d2_52 rfl rfl rfl ?_
  refine Rn.putF K (q := 57) (ty := (.array .byte)) (oT 28 rfl) Via.refl f17 f16 (Or.inr ⟨(oT 29 rfl), rfl, rfl⟩) (oT 1 rfl) (by decide) rfl rfl gs d2_54 rfl ?_
  intro h23 W24
  have f26 := f15.wr W24 (Or.inl (oT 0 rfl))
  have f28 := Fld.same W24 f17
  have f29 := Fld.other W24 f18 (Or.inr (slot_ne (Or.inr (K.hw _ (oT 27 rfl))) (Or.inr (K.hw _ (oT 29 rfl))) (by decide) (t := .byte) (t' := (.array .byte)) (by decide) (by decide)))
  have f32 := f21.wr W24
  have f33 := f22.other W24 (ne_exa f21 f16 (by decide))
  exact Rn.retV K rfl d2_57 (by decide) (by decide) ⟨rfl, f26, _, _, f28, f29, f32, f33⟩
theorem m_ic23 (l : Launch) (Z : State) (a0 : Array Value) (hw : oH Z a0) (n0 : Nat) (h0 : Heap) (s c : Addr) (kc : ClassId) (x0 x1 x2 x3 x4 x5 x6 x7 x8 x9 x10 x11 x12 x13 x14 x15 x16 x17 x18 x19 x20 x21 x22 : Int32) (cst : Int32) (X0 : Old Z n0 h0) (SC : oSC Z cst) (hcs : ¬ cst = 0) (Es : Exa Z h0 s "java/lang/String") (gs : n0 ≤ s) (Fv : Fld Z h0 s "java/lang/String" "value" "[B" .null) (Fc : Fld Z h0 s "java/lang/String" "coder" "B" (.int (0 : Int32))) (Ec : Exa Z h0 c "[C") (Ac : Arv Z h0 c kc .char (23 : Int32) [(.int x0), (.int x1), (.int x2), (.int x3), (.int x4), (.int x5), (.int x6), (.int x7), (.int x8), (.int x9), (.int x10), (.int x11), (.int x12), (.int x13), (.int x14), (.int x15), (.int x16), (.int x17), (.int x18), (.int x19), (.int x20), (.int x21), (.int x22)] oZ) (hx0 : ¬ (255 : Int32) < x0) (hx1 : ¬ (255 : Int32) < x1) (hx2 : ¬ (255 : Int32) < x2) (hx3 : ¬ (255 : Int32) < x3) (hx4 : ¬ (255 : Int32) < x4) (hx5 : ¬ (255 : Int32) < x5) (hx6 : ¬ (255 : Int32) < x6) (hx7 : ¬ (255 : Int32) < x7) (hx8 : ¬ (255 : Int32) < x8) (hx9 : ¬ (255 : Int32) < x9) (hx10 : ¬ (255 : Int32) < x10) (hx11 : ¬ (255 : Int32) < x11) (hx12 : ¬ (255 : Int32) < x12) (hx13 : ¬ (255 : Int32) < x13) (hx14 : ¬ (255 : Int32) < x14) (hx15 : ¬ (255 : Int32) < x15) (hx16 : ¬ (255 : Int32) < x16) (hx17 : ¬ (255 : Int32) < x17) (hx18 : ¬ (255 : Int32) < x18) (hx19 : ¬ (255 : Int32) < x19) (hx20 : ¬ (255 : Int32) < x20) (hx21 : ¬ (255 : Int32) < x21) (hx22 : ¬ (255 : Int32) < x22) :
    Met l Z oM8 oC8 2 none (oR 3 1 23 54) n0 [] #[(.ref s), (.ref c)] h0 (fun r h => r = none ∧ Keep h0 h [s] ∧ ∃ v k, Fld Z h s "java/lang/String" "value" "[B" (.ref v) ∧ Fld Z h s "java/lang/String" "coder" "B" (.int (0 : Int32)) ∧ Exa Z h v "[B" ∧ Arv Z h v k .byte (23 : Int32) [(.int (oB x0)), (.int (oB x1)), (.int (oB x2)), (.int (oB x3)), (.int (oB x4)), (.int (oB x5)), (.int (oB x6)), (.int (oB x7)), (.int (oB x8)), (.int (oB x9)), (.int (oB x10)), (.int (oB x11)), (.int (oB x12)), (.int (oB x13)), (.int (oB x14)), (.int (oB x15)), (.int (oB x16)), (.int (oB x17)), (.int (oB x18)), (.int (oB x19)), (.int (oB x20)), (.int (oB x21)), (.int (oB x22))] oZ) := by
  refine Met.intro (Ls := #[.val (.ref s), .val (.ref c)]) (plainFor_of_name pn_m_coder) hw (fun _ => rfl) ?_
  intro w K0
  have K : oK8 w Z a0 := K0
  refine Rn.aloadN K (q := 1) d1_0 rfl rfl rfl ?_
  refine Rn.aloadN K (q := 2) d1_1 rfl rfl rfl ?_
  refine Rn.iconst K (q := 3) (0 : Int32) d1_2 rfl rfl ?_
  refine Rn.aloadN K (q := 4) d1_3 rfl rfl rfl ?_
  refine Rn.arraylength K (q := 5) Ac d1_4 rfl ?_
  refine Rn.aconst_null K (q := 6) d1_5 rfl ?_
  refine Rn.spec K (q := 9) (W := 0) (y := oM7) (b := s) (argsL := [(.ref c), oZ, (.int (23 : Int32)), .null]) (rest := []) rfl (oT 7 rfl) (oT 8 rfl) (oT 10 rfl) (oT 2 rfl) (by decide) (m_iv23 l Z a0 hw n0 h0 s c kc x0 x1 x2 x3 x4 x5 x6 x7 x8 x9 x10 x11 x12 x13 x14 x15 x16 x17 x18 x19 x20 x21 x22 cst X0 SC hcs Es gs Fv Fc Ec Ac hx0 hx1 hx2 hx3 hx4 hx5 hx6 hx7 hx8 hx9 hx10 hx11 hx12 hx13 hx14 hx15 hx16 hx17 hx18 hx19 hx20 hx21 hx22) (by decide) (by decide) rfl (lenOf pd_5 rfl) rfl (oL rfl) d1_6 rfl (by decide) (by decide) ?_
  rintro _ h1 ⟨rfl, K2, Q2⟩
  show Rn w l _ n0 _ 9 _ [] h1 1 23
  exact Rn.retV K rfl d1_9 (by decide) (by decide) ⟨rfl, K2, Q2⟩
theorem m_cpr32 (l : Launch) (Z : State) (a0 : Array Value) (hw : oH Z a0) (n0 : Nat) (h0 : Heap) (c b : Addr) (kc k : ClassId) (x0 x1 x2 x3 x4 x5 x6 x7 x8 x9 x10 x11 x12 x13 x14 x15 x16 x17 x18 x19 x20 x21 x22 x23 x24 x25 x26 x27 x28 x29 x30 x31 : Int32) (X0 : Old Z n0 h0) (Ec : Exa Z h0 c "[C") (Ac : Arv Z h0 c kc .char (32 : Int32) [(.int x0), (.int x1), (.int x2), (.int x3), (.int x4), (.int x5), (.int x6), (.int x7), (.int x8), (.int x9), (.int x10), (.int x11), (.int x12), (.int x13), (.int x14), (.int x15), (.int x16), (.int x17), (.int x18), (.int x19), (.int x20), (.int x21), (.int x22), (.int x23), (.int x24), (.int x25), (.int x26), (.int x27), (.int x28), (.int x29), (.int x30), (.int x31)] oZ) (Eb : Exa Z h0 b "[B") (Ab : Arv Z h0 b k .byte (32 : Int32) [oZ, oZ, oZ, oZ, oZ, oZ, oZ, oZ, oZ, oZ, oZ, oZ, oZ, oZ, oZ, oZ, oZ, oZ, oZ, oZ, oZ, oZ, oZ, oZ, oZ, oZ, oZ, oZ, oZ, oZ, oZ, oZ] oZ) (gb : n0 ≤ b) (hx0 : ¬ (255 : Int32) < x0) (hx1 : ¬ (255 : Int32) < x1) (hx2 : ¬ (255 : Int32) < x2) (hx3 : ¬ (255 : Int32) < x3) (hx4 : ¬ (255 : Int32) < x4) (hx5 : ¬ (255 : Int32) < x5) (hx6 : ¬ (255 : Int32) < x6) (hx7 : ¬ (255 : Int32) < x7) (hx8 : ¬ (255 : Int32) < x8) (hx9 : ¬ (255 : Int32) < x9) (hx10 : ¬ (255 : Int32) < x10) (hx11 : ¬ (255 : Int32) < x11) (hx12 : ¬ (255 : Int32) < x12) (hx13 : ¬ (255 : Int32) < x13) (hx14 : ¬ (255 : Int32) < x14) (hx15 : ¬ (255 : Int32) < x15) (hx16 : ¬ (255 : Int32) < x16) (hx17 : ¬ (255 : Int32) < x17) (hx18 : ¬ (255 : Int32) < x18) (hx19 : ¬ (255 : Int32) < x19) (hx20 : ¬ (255 : Int32) < x20) (hx21 : ¬ (255 : Int32) < x21) (hx22 : ¬ (255 : Int32) < x22) (hx23 : ¬ (255 : Int32) < x23) (hx24 : ¬ (255 : Int32) < x24) (hx25 : ¬ (255 : Int32) < x25) (hx26 : ¬ (255 : Int32) < x26) (hx27 : ¬ (255 : Int32) < x27) (hx28 : ¬ (255 : Int32) < x28) (hx29 : ¬ (255 : Int32) < x29) (hx30 : ¬ (255 : Int32) < x30) (hx31 : ¬ (255 : Int32) < x31) :
    Met l Z oM4 oC4 7 (some .int) (oR 0 0 0 0) n0 [] #[(.ref c), oZ, (.ref b), oZ, (.int (32 : Int32))] h0 (fun v h => v = some (.int (32 : Int32)) ∧ Keep h0 h [b] ∧ Arv Z h b k .byte (32 : Int32) [(.int (oB x0)), (.int (oB x1)), (.int (oB x2)), (.int (oB x3)), (.int (oB x4)), (.int (oB x5)), (.int (oB x6)), (.int (oB x7)), (.int (oB x8)), (.int (oB x9)), (.int (oB x10)), (.int (oB x11)), (.int (oB x12)), (.int (oB x13)), (.int (oB x14)), (.int (oB x15)), (.int (oB x16)), (.int (oB x17)), (.int (oB x18)), (.int (oB x19)), (.int (oB x20)), (.int (oB x21)), (.int (oB x22)), (.int (oB x23)), (.int (oB x24)), (.int (oB x25)), (.int (oB x26)), (.int (oB x27)), (.int (oB x28)), (.int (oB x29)), (.int (oB x30)), (.int (oB x31))] oZ) := by
  refine Met.intro (Ls := #[.val (.ref c), .val oZ, .val (.ref b), .val oZ, .val (.int (32 : Int32)), .unset, .unset]) (plainFor_of_name pn_m_cpr2) hw (fun _ => rfl) ?_
  intro w K0
  have K : oK4 w Z a0 := K0
  have K1 := Keep.refl h0 [b]
  refine Rn.iconst K (q := 1) (0 : Int32) d5_0 rfl rfl ?_
  refine Rn.istore K (q := 3) (Ls' := #[.val (.ref c), .val oZ, .val (.ref b), .val oZ, .val (.int (32 : Int32)), .val oZ, .unset]) d5_1 rfl rfl ?_
  refine Rn.iload K (q := 5) d5_3 rfl rfl ?_
  refine Rn.iload K (q := 7) d5_5 rfl rfl ?_
  refine Rn.icN K (q := 10) d5_7 (XT.ii_ge_f (by decide)) rfl ?_
  refine Rn.aloadN K (q := 11) d5_10 rfl rfl rfl ?_
  refine Rn.iloadN K (q := 12) d5_11 rfl rfl ?_
  refine Rn.caload K (q := 13) (v := (.int x0)) Ac (by decide) rfl d5_12 rfl ?_
  refine Rn.istore K (q := 15) (Ls' := #[.val (.ref c), .val oZ, .val (.ref b), .val oZ, .val (.int (32 : Int32)), .val oZ, .val (.int x0)]) d5_13 rfl rfl ?_
  refine Rn.iload K (q := 17) d5_15 rfl rfl ?_
  refine Rn.sipush K (q := 20) (255 : Int32) d5_17 rfl rfl ?_
  refine Rn.icY K (q := 26) d5_20 (XT.ii_le_t hx0) (by decide) (by decide) ?_
  refine Rn.aloadN K (q := 27) d5_26 rfl rfl rfl ?_
  refine Rn.iloadN K (q := 28) d5_27 rfl rfl ?_
  refine Rn.iload K (q := 30) d5_28 rfl rfl ?_
  refine Rn.i2b K (q := 31) d5_30 rfl ?_
  refine Rn.bastoreB K (q := 32) (i := 0) Ab (by decide) rfl (oL rfl) gb d5_31 rfl ?_
  intro h1 W2 A3
  have f5 := K1.wr W2 (Or.inl (oT 0 rfl))
  have f6 := Eb.wr W2
  have f7 := Ec.wr W2
  have f8 := Ac.other W2 (ne_exa Ec Eb (by decide))
  replace A3 : Arv Z h1 b k .byte (32 : Int32) [(.int (oB x0)), oZ, oZ, oZ, oZ, oZ, oZ, oZ, oZ, oZ, oZ, oZ, oZ, oZ, oZ, oZ, oZ, oZ, oZ, oZ, oZ, oZ, oZ, oZ, oZ, oZ, oZ, oZ, oZ, oZ, oZ, oZ] oZ := A3
  refine Rn.iinc K (q := 35) (Ls' := #[.val (.ref c), .val (.int (1 : Int32)), .val (.ref b), .val oZ, .val (.int (32 : Int32)), .val oZ, .val (.int x0)]) (1 : Int32) d5_32 rfl rfl rfl rfl ?_
  refine Rn.iinc K (q := 38) (Ls' := #[.val (.ref c), .val (.int (1 : Int32)), .val (.ref b), .val (.int (1 : Int32)), .val (.int (32 : Int32)), .val oZ, .val (.int x0)]) (1 : Int32) d5_35 rfl rfl rfl rfl ?_
  refine Rn.iinc K (q := 41) (Ls' := #[.val (.ref c), .val (.int (1 : Int32)), .val (.ref b), .val (.int (1 : Int32)), .val (.int (32 : Int32)), .val (.int (1 : Int32)), .val (.int x0)]) (1 : Int32) d5_38 rfl rfl rfl rfl ?_
  refine Rn.goto K (q := 3) d5_41 (by decide) (by decide) ?_
  refine Rn.iload K (q := 5) d5_3 rfl rfl ?_
  refine Rn.iload K (q := 7) d5_5 rfl rfl ?_
  refine Rn.icN K (q := 10) d5_7 (XT.ii_ge_f (by decide)) rfl ?_
  refine Rn.aloadN K (q := 11) d5_10 rfl rfl rfl ?_
  refine Rn.iloadN K (q := 12) d5_11 rfl rfl ?_
  refine Rn.caload K (q := 13) (v := (.int x1)) f8 (by decide) rfl d5_12 rfl ?_
  refine Rn.istore K (q := 15) (Ls' := #[.val (.ref c), .val (.int (1 : Int32)), .val (.ref b), .val (.int (1 : Int32)), .val (.int (32 : Int32)), .val (.int (1 : Int32)), .val (.int x1)]) d5_13 rfl rfl ?_
  refine Rn.iload K (q := 17) d5_15 rfl rfl ?_
  refine Rn.sipush K (q := 20) (255 : Int32) d5_17 rfl rfl ?_
  refine Rn.icY K (q := 26) d5_20 (XT.ii_le_t hx1) (by decide) (by decide) ?_
  refine Rn.aloadN K (q := 27) d5_26 rfl rfl rfl ?_
  refine Rn.iloadN K (q := 28) d5_27 rfl rfl ?_
  refine Rn.iload K (q := 30) d5_28 rfl rfl ?_
  refine Rn.i2b K (q := 31) d5_30 rfl ?_
  refine Rn.bastoreB K (q := 32) (i := 1) A3 (by decide) rfl (oL rfl) gb d5_31 rfl ?_
  intro h9 W10 A11
  have f13 := f5.wr W10 (Or.inl (oT 0 rfl))
  have f14 := f6.wr W10
  have f15 := f7.wr W10
  have f16 := f8.other W10 (ne_exa f7 f6 (by decide))
  replace A11 : Arv Z h9 b k .byte (32 : Int32) [(.int (oB x0)), (.int (oB x1)), oZ, oZ, oZ, oZ, oZ, oZ, oZ, oZ, oZ, oZ, oZ, oZ, oZ, oZ, oZ, oZ, oZ, oZ, oZ, oZ, oZ, oZ, oZ, oZ, oZ, oZ, oZ, oZ, oZ, oZ] oZ := A11
  refine Rn.iinc K (q := 35) (Ls' := #[.val (.ref c), .val (.int (2 : Int32)), .val (.ref b), .val (.int (1 : Int32)), .val (.int (32 : Int32)), .val (.int (1 : Int32)), .val (.int x1)]) (1 : Int32) d5_32 rfl rfl rfl rfl ?_
  refine Rn.iinc K (q := 38) (Ls' := #[.val (.ref c), .val (.int (2 : Int32)), .val (.ref b), .val (.int (2 : Int32)), .val (.int (32 : Int32)), .val (.int (1 : Int32)), .val (.int x1)]) (1 : Int32) d5_35 rfl rfl rfl rfl ?_
  refine Rn.iinc K (q := 41) (Ls' := #[.val (.ref c), .val (.int (2 : Int32)), .val (.ref b), .val (.int (2 : Int32)), .val (.int (32 : Int32)), .val (.int (2 : Int32)), .val (.int x1)]) (1 : Int32) d5_38 rfl rfl rfl rfl ?_
  refine Rn.goto K (q := 3) d5_41 (by decide) (by decide) ?_
  refine Rn.iload K (q := 5) d5_3 rfl rfl ?_
  refine Rn.iload K (q := 7) d5_5 rfl rfl ?_
  refine Rn.icN K (q := 10) d5_7 (XT.ii_ge_f (by decide)) rfl ?_
  refine Rn.aloadN K (q := 11) d5_10 rfl rfl rfl ?_
  refine Rn.iloadN K (q := 12) d5_11 rfl rfl ?_
  refine Rn.caload K (q := 13) (v := (.int x2)) f16 (by decide) rfl d5_12 rfl ?_
  refine Rn.istore K (q := 15) (Ls' := #[.val (.ref c), .val (.int (2 : Int32)), .val (.ref b), .val (.int (2 : Int32)), .val (.int (32 : Int32)), .val (.int (2 : Int32)), .val (.int x2)]) d5_13 rfl rfl ?_
  refine Rn.iload K (q := 17) d5_15 rfl rfl ?_
  refine Rn.sipush K (q := 20) (255 : Int32) d5_17 rfl rfl ?_
  refine Rn.icY K (q := 26) d5_20 (XT.ii_le_t hx2) (by decide) (by decide) ?_
  refine Rn.aloadN K (q := 27) d5_26 rfl rfl rfl ?_
  refine Rn.iloadN K (q := 28) d5_27 rfl rfl ?_
  refine Rn.iload K (q := 30) d5_28 rfl rfl ?_
  refine Rn.i2b K (q := 31) d5_30 rfl ?_
  refine Rn.bastoreB K (q := 32) (i := 2) A11 (by decide) rfl (oL rfl) gb d5_31 rfl ?_
  intro h17 W18 A19
  have f21 := f13.wr W18 (Or.inl (oT 0 rfl))
  have f22 := f14.wr W18
  have f23 := f15.wr W18
  have f24 := f16.other W18 (ne_exa f15 f14 (by decide))
  replace A19 : Arv Z h17 b k .byte (32 : Int32) [(.int (oB x0)), (.int (oB x1)), (.int (oB x2)), oZ, oZ, oZ, oZ, oZ, oZ, oZ, oZ, oZ, oZ, oZ, oZ, oZ, oZ, oZ, oZ, oZ, oZ, oZ, oZ, oZ, oZ, oZ, oZ, oZ, oZ, oZ, oZ, oZ] oZ := A19
  refine Rn.iinc K (q := 35) (Ls' := #[.val (.ref c), .val (.int (3 : Int32)), .val (.ref b), .val (.int (2 : Int32)), .val (.int (32 : Int32)), .val (.int (2 : Int32)), .val (.int x2)]) (1 : Int32) d5_32 rfl rfl rfl rfl ?_
  refine Rn.iinc K (q := 38) (Ls' := #[.val (.ref c), .val (.int (3 : Int32)), .val (.ref b), .val (.int (3 : Int32)), .val (.int (32 : Int32)), .val (.int (2 : Int32)), .val (.int x2)]) (1 : Int32) d5_35 rfl rfl rfl rfl ?_
  refine Rn.iinc K (q := 41) (Ls' := #[.val (.ref c), .val (.int (3 : Int32)), .val (.ref b), .val (.int (3 : Int32)), .val (.int (32 : Int32)), .val (.int (3 : Int32)), .val (.int x2)]) (1 : Int32) d5_38 rfl rfl rfl rfl ?_
  refine Rn.goto K (q := 3) d5_41 (by decide) (by decide) ?_
  refine Rn.iload K (q := 5) d5_3 rfl rfl ?_
  refine Rn.iload K (q := 7) d5_5 rfl rfl ?_
  refine Rn.icN K (q := 10) d5_7 (XT.ii_ge_f (by decide)) rfl ?_
  refine Rn.aloadN K (q := 11) d5_10 rfl rfl rfl ?_
  refine Rn.iloadN K (q := 12) d5_11 rfl rfl ?_
  refine Rn.caload K (q := 13) (v := (.int x3)) f24 (by decide) rfl d5_12 rfl ?_
  refine Rn.istore K (q := 15) (Ls' := #[.val (.ref c), .val (.int (3 : Int32)), .val (.ref b), .val (.int (3 : Int32)), .val (.int (32 : Int32)), .val (.int (3 : Int32)), .val (.int x3)]) d5_13 rfl rfl ?_
  refine Rn.iload K (q := 17) d5_15 rfl rfl ?_
  refine Rn.sipush K (q := 20) (255 : Int32) d5_17 rfl rfl ?_
  refine Rn.icY K (q := 26) d5_20 (XT.ii_le_t hx3) (by decide) (by decide) ?_
  refine Rn.aloadN K (q := 27) d5_26 rfl rfl rfl ?_
  refine Rn.iloadN K (q := 28) d5_27 rfl rfl ?_
  refine Rn.iload K (q := 30) d5_28 rfl rfl ?_
  refine Rn.i2b K (q := 31) d5_30 rfl ?_
  refine Rn.bastoreB K (q := 32) (i := 3) A19 (by decide) rfl (oL rfl) gb d5_31 rfl ?_
  intro h25 W26 A27
  have f29 := f21.wr W26 (Or.inl (oT 0 rfl))
  have f30 := f22.wr W26
  have f31 := f23.wr W26
  have f32 := f24.other W26 (ne_exa f23 f22 (by decide))
  replace A27 : Arv Z h25 b k .byte (32 : Int32) [(.int (oB x0)), (.int (oB x1)), (.int (oB x2)), (.int (oB x3)), oZ, oZ, oZ, oZ, oZ, oZ, oZ, oZ, oZ, oZ, oZ, oZ, oZ, oZ, oZ, oZ, oZ, oZ, oZ, oZ, oZ, oZ, oZ, oZ, oZ, oZ, oZ, oZ] oZ := A27
  refine Rn.iinc K (q := 35) (Ls' := #[.val (.ref c), .val (.int (4 : Int32)), .val (.ref b), .val (.int (3 : Int32)), .val (.int (32 : Int32)), .val (.int (3 : Int32)), .val (.int x3)]) (1 : Int32) d5_32 rfl rfl rfl rfl ?_
  refine Rn.iinc K (q := 38) (Ls' := #[.val (.ref c), .val (.int (4 : Int32)), .val (.ref b), .val (.int (4 : Int32)), .val (.int (32 : Int32)), .val (.int (3 : Int32)), .val (.int x3)]) (1 : Int32) d5_35 rfl rfl rfl rfl ?_
  refine Rn.iinc K (q := 41) (Ls' := #[.val (.ref c), .val (.int (4 : Int32)), .val (.ref b), .val (.int (4 : Int32)), .val (.int (32 : Int32)), .val (.int (4 : Int32)), .val (.int x3)]) (1 : Int32) d5_38 rfl rfl rfl rfl ?_
  refine Rn.goto K (q := 3) d5_41 (by decide) (by decide) ?_
  refine Rn.iload K (q := 5) d5_3 rfl rfl ?_
  refine Rn.iload K (q := 7) d5_5 rfl rfl ?_
  refine Rn.icN K (q := 10) d5_7 (XT.ii_ge_f (by decide)) rfl ?_
  refine Rn.aloadN K (q := 11) d5_10 rfl rfl rfl ?_
  refine Rn.iloadN K (q := 12) d5_11 rfl rfl ?_
  refine Rn.caload K (q := 13) (v := (.int x4)) f32 (by decide) rfl d5_12 rfl ?_
  refine Rn.istore K (q := 15) (Ls' := #[.val (.ref c), .val (.int (4 : Int32)), .val (.ref b), .val (.int (4 : Int32)), .val (.int (32 : Int32)), .val (.int (4 : Int32)), .val (.int x4)]) d5_13 rfl rfl ?_
  refine Rn.iload K (q := 17) d5_15 rfl rfl ?_
  refine Rn.sipush K (q := 20) (255 : Int32) d5_17 rfl rfl ?_
  refine Rn.icY K (q := 26) d5_20 (XT.ii_le_t hx4) (by decide) (by decide) ?_
  refine Rn.aloadN K (q := 27) d5_26 rfl rfl rfl ?_
  refine Rn.iloadN K (q := 28) d5_27 rfl rfl ?_
  refine Rn.iload K (q := 30) d5_28 rfl rfl ?_
  refine Rn.i2b K (q := 31) d5_30 rfl ?_
  refine Rn.bastoreB K (q := 32) (i := 4) A27 (by decide) rfl (oL rfl) gb d5_31 rfl ?_
  intro h33 W34 A35
  have f37 := f29.wr W34 (Or.inl (oT 0 rfl))
  have f38 := f30.wr W34
  have f39 := f31.wr W34
  have f40 := f32.other W34 (ne_exa f31 f30 (by decide))
  replace A35 : Arv Z h33 b k .byte (32 : Int32) [(.int (oB x0)), (.int (oB x1)), (.int (oB x2)), (.int (oB x3)), (.int (oB x4)), oZ, oZ, oZ, oZ, oZ, oZ, oZ, oZ, oZ, oZ, oZ, oZ, oZ, oZ, oZ, oZ, oZ, oZ, oZ, oZ, oZ, oZ, oZ, oZ, oZ, oZ, oZ] oZ := A35
  refine Rn.iinc K (q := 35) (Ls' := #[.val (.ref c), .val (.int (5 : Int32)), .val (.ref b), .val (.int (4 : Int32)), .val (.int (32 : Int32)), .val (.int (4 : Int32)), .val (.int x4)]) (1 : Int32) d5_32 rfl rfl rfl rfl ?_
  refine Rn.iinc K (q := 38) (Ls' := #[.val (.ref c), .val (.int (5 : Int32)), .val (.ref b), .val (.int (5 : Int32)), .val (.int (32 : Int32)), .val (.int (4 : Int32)), .val (.int x4)]) (1 : Int32) d5_35 rfl rfl rfl rfl ?_
  refine Rn.iinc K (q := 41) (Ls' := #[.val (.ref c), .val (.int (5 : Int32)), .val (.ref b), .val (.int (5 : Int32)), .val (.int (32 : Int32)), .val (.int (5 : Int32)), .val (.int x4)]) (1 : Int32) d5_38 rfl rfl rfl rfl ?_
  refine Rn.goto K (q := 3) d5_41 (by decide) (by decide) ?_
  refine Rn.iload K (q := 5) d5_3 rfl rfl ?_
  refine Rn.iload K (q := 7) d5_5 rfl rfl ?_
  refine Rn.icN K (q := 10) d5_7 (XT.ii_ge_f (by decide)) rfl ?_
  refine Rn.aloadN K (q := 11) d5_10 rfl rfl rfl ?_
  refine Rn.iloadN K (q := 12) d5_11 rfl rfl ?_
  refine Rn.caload K (q := 13) (v := (.int x5)) f40 (by decide) rfl d5_12 rfl ?_
  refine Rn.istore K (q := 15) (Ls' := #[.val (.ref c), .val (.int (5 : Int32)), .val (.ref b), .val (.int (5 : Int32)), .val (.int (32 : Int32)), .val (.int (5 : Int32)), .val (.int x5)]) d5_13 rfl rfl ?_
  refine Rn.iload K (q := 17) d5_15 rfl rfl ?_
  refine Rn.sipush K (q := 20) (255 : Int32) d5_17 rfl rfl ?_
  refine Rn.icY K (q := 26) d5_20 (XT.ii_le_t hx5) (by decide) (by decide) ?_
  refine Rn.aloadN K (q := 27) d5_26 rfl rfl rfl ?_
  refine Rn.iloadN K (q := 28) d5_27 rfl rfl ?_
  refine Rn.iload K (q := 30) d5_28 rfl rfl ?_
  refine Rn.i2b K (q := 31) d5_30 rfl ?_
  refine Rn.bastoreB K (q := 32) (i := 5) A35 (by decide) rfl (oL rfl) gb d5_31 rfl ?_
  intro h41 W42 A43
  have f45 := f37.wr W42 (Or.inl (oT 0 rfl))
  have f46 := f38.wr W42
  have f47 := f39.wr W42
  have f48 := f40.other W42 (ne_exa f39 f38 (by decide))
  replace A43 : Arv Z h41 b k .byte (32 : Int32) [(.int (oB x0)), (.int (oB x1)), (.int (oB x2)), (.int (oB x3)), (.int (oB x4)), (.int (oB x5)), oZ, oZ, oZ, oZ, oZ, oZ, oZ, oZ, oZ, oZ, oZ, oZ, oZ, oZ, oZ, oZ, oZ, oZ, oZ, oZ, oZ, oZ, oZ, oZ, oZ, oZ] oZ := A43
  refine Rn.iinc K (q := 35) (Ls' := #[.val (.ref c), .val (.int (6 : Int32)), .val (.ref b), .val (.int (5 : Int32)), .val (.int (32 : Int32)), .val (.int (5 : Int32)), .val (.int x5)]) (1 : Int32) d5_32 rfl rfl rfl rfl ?_
  refine Rn.iinc K (q := 38) (Ls' := #[.val (.ref c), .val (.int (6 : Int32)), .val (.ref b), .val (.int (6 : Int32)), .val (.int (32 : Int32)), .val (.int (5 : Int32)), .val (.int x5)]) (1 : Int32) d5_35 rfl rfl rfl rfl ?_
  refine Rn.iinc K (q := 41) (Ls' := #[.val (.ref c), .val (.int (6 : Int32)), .val (.ref b), .val (.int (6 : Int32)), .val (.int (32 : Int32)), .val (.int (6 : Int32)), .val (.int x5)]) (1 : Int32) d5_38 rfl rfl rfl rfl ?_
  refine Rn.goto K (q := 3) d5_41 (by decide) (by decide) ?_
  refine Rn.iload K (q := 5) d5_3 rfl rfl ?_
  refine Rn.iload K (q := 7) d5_5 rfl rfl ?_
  refine Rn.icN K (q := 10) d5_7 (XT.ii_ge_f (by decide)) rfl ?_
  refine Rn.aloadN K (q := 11) d5_10 rfl rfl rfl ?_
  refine Rn.iloadN K (q := 12) d5_11 rfl rfl ?_
  refine Rn.caload K (q := 13) (v := (.int x6)) f48 (by decide) rfl d5_12 rfl ?_
  refine Rn.istore K (q := 15) (Ls' := #[.val (.ref c), .val (.int (6 : Int32)), .val (.ref b), .val (.int (6 : Int32)), .val (.int (32 : Int32)), .val (.int (6 : Int32)), .val (.int x6)]) d5_13 rfl rfl ?_
  refine Rn.iload K (q := 17) d5_15 rfl rfl ?_
  refine Rn.sipush K (q := 20) (255 : Int32) d5_17 rfl rfl ?_
  refine Rn.icY K (q := 26) d5_20 (XT.ii_le_t hx6) (by decide) (by decide) ?_
  refine Rn.aloadN K (q := 27) d5_26 rfl rfl rfl ?_
  refine Rn.iloadN K (q := 28) d5_27 rfl rfl ?_
  refine Rn.iload K (q := 30) d5_28 rfl rfl ?_
  refine Rn.i2b K (q := 31) d5_30 rfl ?_
  refine Rn.bastoreB K (q := 32) (i := 6) A43 (by decide) rfl (oL rfl) gb d5_31 rfl ?_
  intro h49 W50 A51
  have f53 := f45.wr W50 (Or.inl (oT 0 rfl))
  have f54 := f46.wr W50
  have f55 := f47.wr W50
  have f56 := f48.other W50 (ne_exa f47 f46 (by decide))
  replace A51 : Arv Z h49 b k .byte (32 : Int32) [(.int (oB x0)), (.int (oB x1)), (.int (oB x2)), (.int (oB x3)), (.int (oB x4)), (.int (oB x5)), (.int (oB x6)), oZ, oZ, oZ, oZ, oZ, oZ, oZ, oZ, oZ, oZ, oZ, oZ, oZ, oZ, oZ, oZ, oZ, oZ, oZ, oZ, oZ, oZ, oZ, oZ, oZ] oZ := A51
  refine Rn.iinc K (q := 35) (Ls' := #[.val (.ref c), .val (.int (7 : Int32)), .val (.ref b), .val (.int (6 : Int32)), .val (.int (32 : Int32)), .val (.int (6 : Int32)), .val (.int x6)]) (1 : Int32) d5_32 rfl rfl rfl rfl ?_
  refine Rn.iinc K (q := 38) (Ls' := #[.val (.ref c), .val (.int (7 : Int32)), .val (.ref b), .val (.int (7 : Int32)), .val (.int (32 : Int32)), .val (.int (6 : Int32)), .val (.int x6)]) (1 : Int32) d5_35 rfl rfl rfl rfl ?_
  refine Rn.iinc K (q := 41) (Ls' := #[.val (.ref c), .val (.int (7 : Int32)), .val (.ref b), .val (.int (7 : Int32)), .val (.int (32 : Int32)), .val (.int (7 : Int32)), .val (.int x6)]) (1 : Int32) d5_38 rfl rfl rfl rfl ?_
  refine Rn.goto K (q := 3) d5_41 (by decide) (by decide) ?_
  refine Rn.iload K (q := 5) d5_3 rfl rfl ?_
  refine Rn.iload K (q := 7) d5_5 rfl rfl ?_
  refine Rn.icN K (q := 10) d5_7 (XT.ii_ge_f (by decide)) rfl ?_
  refine Rn.aloadN K (q := 11) d5_10 rfl rfl rfl ?_
  refine Rn.iloadN K (q := 12) d5_11 rfl rfl ?_
  refine Rn.caload K (q := 13) (v := (.int x7)) f56 (by decide) rfl d5_12 rfl ?_
  refine Rn.istore K (q := 15) (Ls' := #[.val (.ref c), .val (.int (7 : Int32)), .val (.ref b), .val (.int (7 : Int32)), .val (.int (32 : Int32)), .val (.int (7 : Int32)), .val (.int x7)]) d5_13 rfl rfl ?_
  refine Rn.iload K (q := 17) d5_15 rfl rfl ?_
  refine Rn.sipush K (q := 20) (255 : Int32) d5_17 rfl rfl ?_
  refine Rn.icY K (q := 26) d5_20 (XT.ii_le_t hx7) (by decide) (by decide) ?_
  refine Rn.aloadN K (q := 27) d5_26 rfl rfl rfl ?_
  refine Rn.iloadN K (q := 28) d5_27 rfl rfl ?_
  refine Rn.iload K (q := 30) d5_28 rfl rfl ?_
  refine Rn.i2b K (q := 31) d5_30 rfl ?_
  refine Rn.bastoreB K (q := 32) (i := 7) A51 (by decide) rfl (oL rfl) gb d5_31 rfl ?_
  intro h57 W58 A59
  have f61 := f53.wr W58 (Or.inl (oT 0 rfl))
  have f62 := f54.wr W58
  have f63 := f55.wr W58
  have f64 := f56.other W58 (ne_exa f55 f54 (by decide))
  replace A59 : Arv Z h57 b k .byte (32 : Int32) [(.int (oB x0)), (.int (oB x1)), (.int (oB x2)), (.int (oB x3)), (.int (oB x4)), (.int (oB x5)), (.int (oB x6)), (.int (oB x7)), oZ, oZ, oZ, oZ, oZ, oZ, oZ, oZ, oZ, oZ, oZ, oZ, oZ, oZ, oZ, oZ, oZ, oZ, oZ, oZ, oZ, oZ, oZ, oZ] oZ := A59
  refine Rn.iinc K (q := 35) (Ls' := #[.val (.ref c), .val (.int (8 : Int32)), .val (.ref b), .val (.int (7 : Int32)), .val (.int (32 : Int32)), .val (.int (7 : Int32)), .val (.int x7)]) (1 : Int32) d5_32 rfl rfl rfl rfl ?_
  refine Rn.iinc K (q := 38) (Ls' := #[.val (.ref c), .val (.int (8 : Int32)), .val (.ref b), .val (.int (8 : Int32)), .val (.int (32 : Int32)), .val (.int (7 : Int32)), .val (.int x7)]) (1 : Int32) d5_35 rfl rfl rfl rfl ?_
  refine Rn.iinc K (q := 41) (Ls' := #[.val (.ref c), .val (.int (8 : Int32)), .val (.ref b), .val (.int (8 : Int32)), .val (.int (32 : Int32)), .val (.int (8 : Int32)), .val (.int x7)]) (1 : Int32) d5_38 rfl rfl rfl rfl ?_
  refine Rn.goto K (q := 3) d5_41 (by decide) (by decide) ?_
  refine Rn.iload K (q := 5) d5_3 rfl rfl ?_
  refine Rn.iload K (q := 7) d5_5 rfl rfl ?_
  refine Rn.icN K (q := 10) d5_7 (XT.ii_ge_f (by decide)) rfl ?_
  refine Rn.aloadN K (q := 11) d5_10 rfl rfl rfl ?_
  refine Rn.iloadN K (q := 12) d5_11 rfl rfl ?_
  refine Rn.caload K (q := 13) (v := (.int x8)) f64 (by decide) rfl d5_12 rfl ?_
  refine Rn.istore K (q := 15) (Ls' := #[.val (.ref c), .val (.int (8 : Int32)), .val (.ref b), .val (.int (8 : Int32)), .val (.int (32 : Int32)), .val (.int (8 : Int32)), .val (.int x8)]) d5_13 rfl rfl ?_
  refine Rn.iload K (q := 17) d5_15 rfl rfl ?_
  refine Rn.sipush K (q := 20) (255 : Int32) d5_17 rfl rfl ?_
  refine Rn.icY K (q := 26) d5_20 (XT.ii_le_t hx8) (by decide) (by decide) ?_
  refine Rn.aloadN K (q := 27) d5_26 rfl rfl rfl ?_
  refine Rn.iloadN K (q := 28) d5_27 rfl rfl ?_
  refine Rn.iload K (q := 30) d5_28 rfl rfl ?_
  refine Rn.i2b K (q := 31) d5_30 rfl ?_
  refine Rn.bastoreB K (q := 32) (i := 8) A59 (by decide) rfl (oL rfl) gb d5_31 rfl ?_
  intro h65 W66 A67
  have f69 := f61.wr W66 (Or.inl (oT 0 rfl))
  have f70 := f62.wr W66
  have f71 := f63.wr W66
  have f72 := f64.other W66 (ne_exa f63 f62 (by decide))
  replace A67 : Arv Z h65 b k .byte (32 : Int32) [(.int (oB x0)), (.int (oB x1)), (.int (oB x2)), (.int (oB x3)), (.int (oB x4)), (.int (oB x5)), (.int (oB x6)), (.int (oB x7)), (.int (oB x8)), oZ, oZ, oZ, oZ, oZ, oZ, oZ, oZ, oZ, oZ, oZ, oZ, oZ, oZ, oZ, oZ, oZ, oZ, oZ, oZ, oZ, oZ, oZ] oZ := A67
  refine Rn.iinc K (q := 35) (Ls' := #[.val (.ref c), .val (.int (9 : Int32)), .val (.ref b), .val (.int (8 : Int32)), .val (.int (32 : Int32)), .val (.int (8 : Int32)), .val (.int x8)]) (1 : Int32) d5_32 rfl rfl rfl rfl ?_
  refine Rn.iinc K (q := 38) (Ls' := #[.val (.ref c), .val (.int (9 : Int32)), .val (.ref b), .val (.int (9 : Int32)), .val (.int (32 : Int32)), .val (.int (8 : Int32)), .val (.int x8)]) (1 : Int32) d5_35 rfl rfl rfl rfl ?_
  refine Rn.iinc K (q := 41) (Ls' := #[.val (.ref c), .val (.int (9 : Int32)), .val (.ref b), .val (.int (9 : Int32)), .val (.int (32 : Int32)), .val (.int (9 : Int32)), .val (.int x8)]) (1 : Int32) d5_38 rfl rfl rfl rfl ?_
  refine Rn.goto K (q := 3) d5_41 (by decide) (by decide) ?_
  refine Rn.iload K (q := 5) d5_3 rfl rfl ?_
  refine Rn.iload K (q := 7) d5_5 rfl rfl ?_
  refine Rn.icN K (q := 10) d5_7 (XT.ii_ge_f (by decide)) rfl ?_
  refine Rn.aloadN K (q := 11) d5_10 rfl rfl rfl ?_
  refine Rn.iloadN K (q := 12) d5_11 rfl rfl ?_
  refine Rn.caload K (q := 13) (v := (.int x9)) f72 (by decide) rfl d5_12 rfl ?_
  refine Rn.istore K (q := 15) (Ls' := #[.val (.ref c), .val (.int (9 : Int32)), .val (.ref b), .val (.int (9 : Int32)), .val (.int (32 : Int32)), .val (.int (9 : Int32)), .val (.int x9)]) d5_13 rfl rfl ?_
  refine Rn.iload K (q := 17) d5_15 rfl rfl ?_
  refine Rn.sipush K (q := 20) (255 : Int32) d5_17 rfl rfl ?_
  refine Rn.icY K (q := 26) d5_20 (XT.ii_le_t hx9) (by decide) (by decide) ?_
  refine Rn.aloadN K (q := 27) d5_26 rfl rfl rfl ?_
  refine Rn.iloadN K (q := 28) d5_27 rfl rfl ?_
  refine Rn.iload K (q := 30) d5_28 rfl rfl ?_
  refine Rn.i2b K (q := 31) d5_30 rfl ?_
  refine Rn.bastoreB K (q := 32) (i := 9) A67 (by decide) rfl (oL rfl) gb d5_31 rfl ?_
  intro h73 W74 A75
  have f77 := f69.wr W74 (Or.inl (oT 0 rfl))
  have f78 := f70.wr W74
  have f79 := f71.wr W74
  have f80 := f72.other W74 (ne_exa f71 f70 (by decide))
  replace A75 : Arv Z h73 b k .byte (32 : Int32) [(.int (oB x0)), (.int (oB x1)), (.int (oB x2)), (.int (oB x3)), (.int (oB x4)), (.int (oB x5)), (.int (oB x6)), (.int (oB x7)), (.int (oB x8)), (.int (oB x9)), oZ, oZ, oZ, oZ, oZ, oZ, oZ, oZ, oZ, oZ, oZ, oZ, oZ, oZ, oZ, oZ, oZ, oZ, oZ, oZ, oZ, oZ] oZ := A75
  refine Rn.iinc K (q := 35) (Ls' := #[.val (.ref c), .val (.int (10 : Int32)), .val (.ref b), .val (.int (9 : Int32)), .val (.int (32 : Int32)), .val (.int (9 : Int32)), .val (.int x9)]) (1 : Int32) d5_32 rfl rfl rfl rfl ?_
  refine Rn.iinc K (q := 38) (Ls' := #[.val (.ref c), .val (.int (10 : Int32)), .val (.ref b), .val (.int (10 : Int32)), .val (.int (32 : Int32)), .val (.int (9 : Int32)), .val (.int x9)]) (1 : Int32) d5_35 rfl rfl rfl rfl ?_
  refine Rn.iinc K (q := 41) (Ls' := #[.val (.ref c), .val (.int (10 : Int32)), .val (.ref b), .val (.int (10 : Int32)), .val (.int (32 : Int32)), .val (.int (10 : Int32)), .val (.int x9)]) (1 : Int32) d5_38 rfl rfl rfl rfl ?_
  refine Rn.goto K (q := 3) d5_41 (by decide) (by decide) ?_
  refine Rn.iload K (q := 5) d5_3 rfl rfl ?_
  refine Rn.iload K (q := 7) d5_5 rfl rfl ?_
  refine Rn.icN K (q := 10) d5_7 (XT.ii_ge_f (by decide)) rfl ?_
  refine Rn.aloadN K (q := 11) d5_10 rfl rfl rfl ?_
  refine Rn.iloadN K (q := 12) d5_11 rfl rfl ?_
  refine Rn.caload K (q := 13) (v := (.int x10)) f80 (by decide) rfl d5_12 rfl ?_
  refine Rn.istore K (q := 15) (Ls' := #[.val (.ref c), .val (.int (10 : Int32)), .val (.ref b), .val (.int (10 : Int32)), .val (.int (32 : Int32)), .val (.int (10 : Int32)), .val (.int x10)]) d5_13 rfl rfl ?_
  refine Rn.iload K (q := 17) d5_15 rfl rfl ?_
  refine Rn.sipush K (q := 20) (255 : Int32) d5_17 rfl rfl ?_
  refine Rn.icY K (q := 26) d5_20 (XT.ii_le_t hx10) (by decide) (by decide) ?_
  refine Rn.aloadN K (q := 27) d5_26 rfl rfl rfl ?_
  refine Rn.iloadN K (q := 28) d5_27 rfl rfl ?_
  refine Rn.iload K (q := 30) d5_28 rfl rfl ?_
  refine Rn.i2b K (q := 31) d5_30 rfl ?_
  refine Rn.bastoreB K (q := 32) (i := 10) A75 (by decide) rfl (oL rfl) gb d5_31 rfl ?_
  intro h81 W82 A83
  have f85 := f77.wr W82 (Or.inl (oT 0 rfl))
  have f86 := f78.wr W82
  have f87 := f79.wr W82
  have f88 := f80.other W82 (ne_exa f79 f78 (by decide))
  replace A83 : Arv Z h81 b k .byte (32 : Int32) [(.int (oB x0)), (.int (oB x1)), (.int (oB x2)), (.int (oB x3)), (.int (oB x4)), (.int (oB x5)), (.int (oB x6)), (.int (oB x7)), (.int (oB x8)), (.int (oB x9)), (.int (oB x10)), oZ, oZ, oZ, oZ, oZ, oZ, oZ, oZ, oZ, oZ, oZ, oZ, oZ, oZ, oZ, oZ, oZ, oZ, oZ, oZ, oZ] oZ := A83
  refine Rn.iinc K (q := 35) (Ls' := #[.val (.ref c), .val (.int (11 : Int32)), .val (.ref b), .val (.int (10 : Int32)), .val (.int (32 : Int32)), .val (.int (10 : Int32)), .val (.int x10)]) (1 : Int32) d5_32 rfl rfl rfl rfl ?_
  refine Rn.iinc K (q := 38) (Ls' := #[.val (.ref c), .val (.int (11 : Int32)), .val (.ref b), .val (.int (11 : Int32)), .val (.int (32 : Int32)), .val (.int (10 : Int32)), .val (.int x10)]) (1 : Int32) d5_35 rfl rfl rfl rfl ?_
  refine Rn.iinc K (q := 41) (Ls' := #[.val (.ref c), .val (.int (11 : Int32)), .val (.ref b), .val (.int (11 : Int32)), .val (.int (32 : Int32)), .val (.int (11 : Int32)), .val (.int x10)]) (1 : Int32) d5_38 rfl rfl rfl rfl ?_
  refine Rn.goto K (q := 3) d5_41 (by decide) (by decide) ?_
  refine Rn.iload K (q := 5) d5_3 rfl rfl ?_
  refine Rn.iload K (q := 7) d5_5 rfl rfl ?_
  refine Rn.icN K (q := 10) d5_7 (XT.ii_ge_f (by decide)) rfl ?_
  refine Rn.aloadN K (q := 11) d5_10 rfl rfl rfl ?_
  refine Rn.iloadN K (q := 12) d5_11 rfl rfl ?_
  refine Rn.caload K (q := 13) (v := (.int x11)) f88 (by decide) rfl d5_12 rfl ?_
  refine Rn.istore K (q := 15) (Ls' := #[.val (.ref c), .val (.int (11 : Int32)), .val (.ref b), .val (.int (11 : Int32)), .val (.int (32 : Int32)), .val (.int (11 : Int32)), .val (.int x11)]) d5_13 rfl rfl ?_
  refine Rn.iload K (q := 17) d5_15 rfl rfl ?_
  refine Rn.sipush K (q := 20) (255 : Int32) d5_17 rfl rfl ?_
  refine Rn.icY K (q := 26) d5_20 (XT.ii_le_t hx11) (by decide) (by decide) ?_
  refine Rn.aloadN K (q := 27) d5_26 rfl rfl rfl ?_
  refine Rn.iloadN K (q := 28) d5_27 rfl rfl ?_
  refine Rn.iload K (q := 30) d5_28 rfl rfl ?_
  refine Rn.i2b K (q := 31) d5_30 rfl ?_
  refine Rn.bastoreB K (q := 32) (i := 11) A83 (by decide) rfl (oL rfl) gb d5_31 rfl ?_
  intro h89 W90 A91
  have f93 := f85.wr W90 (Or.inl (oT 0 rfl))
  have f94 := f86.wr W90
  have f95 := f87.wr W90
  have f96 := f88.other W90 (ne_exa f87 f86 (by decide))
  replace A91 : Arv Z h89 b k .byte (32 : Int32) [(.int (oB x0)), (.int (oB x1)), (.int (oB x2)), (.int (oB x3)), (.int (oB x4)), (.int (oB x5)), (.int (oB x6)), (.int (oB x7)), (.int (oB x8)), (.int (oB x9)), (.int (oB x10)), (.int (oB x11)), oZ, oZ, oZ, oZ, oZ, oZ, oZ, oZ, oZ, oZ, oZ, oZ, oZ, oZ, oZ, oZ, oZ, oZ, oZ, oZ] oZ := A91
  refine Rn.iinc K (q := 35) (Ls' := #[.val (.ref c), .val (.int (12 : Int32)), .val (.ref b), .val (.int (11 : Int32)), .val (.int (32 : Int32)), .val (.int (11 : Int32)), .val (.int x11)]) (1 : Int32) d5_32 rfl rfl rfl rfl ?_
  refine Rn.iinc K (q := 38) (Ls' := #[.val (.ref c), .val (.int (12 : Int32)), .val (.ref b), .val (.int (12 : Int32)), .val (.int (32 : Int32)), .val (.int (11 : Int32)), .val (.int x11)]) (1 : Int32) d5_35 rfl rfl rfl rfl ?_
  refine Rn.iinc K (q := 41) (Ls' := #[.val (.ref c), .val (.int (12 : Int32)), .val (.ref b), .val (.int (12 : Int32)), .val (.int (32 : Int32)), .val (.int (12 : Int32)), .val (.int x11)]) (1 : Int32) d5_38 rfl rfl rfl rfl ?_
  refine Rn.goto K (q := 3) d5_41 (by decide) (by decide) ?_
  refine Rn.iload K (q := 5) d5_3 rfl rfl ?_
  refine Rn.iload K (q := 7) d5_5 rfl rfl ?_
  refine Rn.icN K (q := 10) d5_7 (XT.ii_ge_f (by decide)) rfl ?_
  refine Rn.aloadN K (q := 11) d5_10 rfl rfl rfl ?_
  refine Rn.iloadN K (q := 12) d5_11 rfl rfl ?_
  refine Rn.caload K (q := 13) (v := (.int x12)) f96 (by decide) rfl d5_12 rfl ?_
  refine Rn.istore K (q := 15) (Ls' := #[.val (.ref c), .val (.int (12 : Int32)), .val (.ref b), .val (.int (12 : Int32)), .val (.int (32 : Int32)), .val (.int (12 : Int32)), .val (.int x12)]) d5_13 rfl rfl ?_
  refine Rn.iload K (q := 17) d5_15 rfl rfl ?_
  refine Rn.sipush K (q := 20) (255 : Int32) d5_17 rfl rfl ?_
  refine Rn.icY K (q := 26) d5_20 (XT.ii_le_t hx12) (by decide) (by decide) ?_
  refine Rn.aloadN K (q := 27) d5_26 rfl rfl rfl ?_
  refine Rn.iloadN K (q := 28) d5_27 rfl rfl ?_
  refine Rn.iload K (q := 30) d5_28 rfl rfl ?_
  refine Rn.i2b K (q := 31) d5_30 rfl ?_
  refine Rn.bastoreB K (q := 32) (i := 12) A91 (by decide) rfl (oL rfl) gb d5_31 rfl ?_
  intro h97 W98 A99
  have f101 := f93.wr W98 (Or.inl (oT 0 rfl))
  have f102 := f94.wr W98
  have f103 := f95.wr W98
  have f104 := f96.other W98 (ne_exa f95 f94 (by decide))
  replace A99 : Arv Z h97 b k .byte (32 : Int32) [(.int (oB x0)), (.int (oB x1)), (.int (oB x2)), (.int (oB x3)), (.int (oB x4)), (.int (oB x5)), (.int (oB x6)), (.int (oB x7)), (.int (oB x8)), (.int (oB x9)), (.int (oB x10)), (.int (oB x11)), (.int (oB x12)), oZ, oZ, oZ, oZ, oZ, oZ, oZ, oZ, oZ, oZ, oZ, oZ, oZ, oZ, oZ, oZ, oZ, oZ, oZ] oZ := A99
  refine Rn.iinc K (q := 35) (Ls' := #[.val (.ref c), .val (.int (13 : Int32)), .val (.ref b), .val (.int (12 : Int32)), .val (.int (32 : Int32)), .val (.int (12 : Int32)), .val (.int x12)]) (1 : Int32) d5_32 rfl rfl rfl rfl ?_
  refine Rn.iinc K (q := 38) (Ls' := #[.val (.ref c), .val (.int (13 : Int32)), .val (.ref b), .val (.int (13 : Int32)), .val (.int (32 : Int32)), .val (.int (12 : Int32)), .val (.int x12)]) (1 : Int32) d5_35 rfl rfl rfl rfl ?_
  refine Rn.iinc K (q := 41) (Ls' := #[.val (.ref c), .val (.int (13 : Int32)), .val (.ref b), .val (.int (13 : Int32)), .val (.int (32 : Int32)), .val (.int (13 : Int32)), .val (.int x12)]) (1 : Int32) d5_38 rfl rfl rfl rfl ?_
  refine Rn.goto K (q := 3) d5_41 (by decide) (by decide) ?_
  refine Rn.iload K (q := 5) d5_3 rfl rfl ?_
  refine Rn.iload K (q := 7) d5_5 rfl rfl ?_
  refine Rn.icN K (q := 10) d5_7 (XT.ii_ge_f (by decide)) rfl ?_
  refine Rn.aloadN K (q := 11) d5_10 rfl rfl rfl ?_
  refine Rn.iloadN K (q := 12) d5_11 rfl rfl ?_
  refine Rn.caload K (q := 13) (v := (.int x13)) f104 (by decide) rfl d5_12 rfl ?_
  refine Rn.istore K (q := 15) (Ls' := #[.val (.ref c), .val (.int (13 : Int32)), .val (.ref b), .val (.int (13 : Int32)), .val (.int (32 : Int32)), .val (.int (13 : Int32)), .val (.int x13)]) d5_13 rfl rfl ?_
  refine Rn.iload K (q := 17) d5_15 rfl rfl ?_
  refine Rn.sipush K (q := 20) (255 : Int32) d5_17 rfl rfl ?_
  refine Rn.icY K (q := 26) d5_20 (XT.ii_le_t hx13) (by decide) (by decide) ?_
  refine Rn.aloadN K (q := 27) d5_26 rfl rfl rfl ?_
  refine Rn.iloadN K (q := 28) d5_27 rfl rfl ?_
  refine Rn.iload K (q := 30) d5_28 rfl rfl ?_
  refine Rn.i2b K (q := 31) d5_30 rfl ?_
  refine Rn.bastoreB K (q := 32) (i := 13) A99 (by decide) rfl (oL rfl) gb d5_31 rfl ?_
  intro h105 W106 A107
  have f109 := f101.wr W106 (Or.inl (oT 0 rfl))
  have f110 := f102.wr W106
  have f111 := f103.wr W106
  have f112 := f104.other W106 (ne_exa f103 f102 (by decide))
  replace A107 : Arv Z h105 b k .byte (32 : Int32) [(.int (oB x0)), (.int (oB x1)), (.int (oB x2)), (.int (oB x3)), (.int (oB x4)), (.int (oB x5)), (.int (oB x6)), (.int (oB x7)), (.int (oB x8)), (.int (oB x9)), (.int (oB x10)), (.int (oB x11)), (.int (oB x12)), (.int (oB x13)), oZ, oZ, oZ, oZ, oZ, oZ, oZ, oZ, oZ, oZ, oZ, oZ, oZ, oZ, oZ, oZ, oZ, oZ] oZ := A107
  refine Rn.iinc K (q := 35) (Ls' := #[.val (.ref c), .val (.int (14 : Int32)), .val (.ref b), .val (.int (13 : Int32)), .val (.int (32 : Int32)), .val (.int (13 : Int32)), .val (.int x13)]) (1 : Int32) d5_32 rfl rfl rfl rfl ?_
  refine Rn.iinc K (q := 38) (Ls' := #[.val (.ref c), .val (.int (14 : Int32)), .val (.ref b), .val (.int (14 : Int32)), .val (.int (32 : Int32)), .val (.int (13 : Int32)), .val (.int x13)]) (1 : Int32) d5_35 rfl rfl rfl rfl ?_
  refine Rn.iinc K (q := 41) (Ls' := #[.val (.ref c), .val (.int (14 : Int32)), .val (.ref b), .val (.int (14 : Int32)), .val (.int (32 : Int32)), .val (.int (14 : Int32)), .val (.int x13)]) (1 : Int32) d5_38 rfl rfl rfl rfl ?_
  refine Rn.goto K (q := 3) d5_41 (by decide) (by decide) ?_
  refine Rn.iload K (q := 5) d5_3 rfl rfl ?_
  refine Rn.iload K (q := 7) d5_5 rfl rfl ?_
  refine Rn.icN K (q := 10) d5_7 (XT.ii_ge_f (by decide)) rfl ?_
  refine Rn.aloadN K (q := 11) d5_10 rfl rfl rfl ?_
  refine Rn.iloadN K (q := 12) d5_11 rfl rfl ?_
  refine Rn.caload K (q := 13) (v := (.int x14)) f112 (by decide) rfl d5_12 rfl ?_
  refine Rn.istore K (q := 15) (Ls' := #[.val (.ref c), .val (.int (14 : Int32)), .val (.ref b), .val (.int (14 : Int32)), .val (.int (32 : Int32)), .val (.int (14 : Int32)), .val (.int x14)]) d5_13 rfl rfl ?_
  refine Rn.iload K (q := 17) d5_15 rfl rfl ?_
  refine Rn.sipush K (q := 20) (255 : Int32) d5_17 rfl rfl ?_
  refine Rn.icY K (q := 26) d5_20 (XT.ii_le_t hx14) (by decide) (by decide) ?_
  refine Rn.aloadN K (q := 27) d5_26 rfl rfl rfl ?_
  refine Rn.iloadN K (q := 28) d5_27 rfl rfl ?_
  refine Rn.iload K (q := 30) d5_28 rfl rfl ?_
  refine Rn.i2b K (q := 31) d5_30 rfl ?_
  refine Rn.bastoreB K (q := 32) (i := 14) A107 (by decide) rfl (oL rfl) gb d5_31 rfl ?_
  intro h113 W114 A115
  have f117 := f109.wr W114 (Or.inl (oT 0 rfl))
  have f118 := f110.wr W114
  have f119 := f111.wr W114
  have f120 := f112.other W114 (ne_exa f111 f110 (by decide))
  replace A115 : Arv Z h113 b k .byte (32 : Int32) [(.int (oB x0)), (.int (oB x1)), (.int (oB x2)), (.int (oB x3)), (.int (oB x4)), (.int (oB x5)), (.int (oB x6)), (.int (oB x7)), (.int (oB x8)), (.int (oB x9)), (.int (oB x10)), (.int (oB x11)), (.int (oB x12)), (.int (oB x13)), (.int (oB x14)), oZ, oZ, oZ, oZ, oZ, oZ, oZ, oZ, oZ, oZ, oZ, oZ, oZ, oZ, oZ, oZ, oZ] oZ := A115
  refine Rn.iinc K (q := 35) (Ls' := #[.val (.ref c), .val (.int (15 : Int32)), .val (.ref b), .val (.int (14 : Int32)), .val (.int (32 : Int32)), .val (.int (14 : Int32)), .val (.int x14)]) (1 : Int32) d5_32 rfl rfl rfl rfl ?_
  refine Rn.iinc K (q := 38) (Ls' := #[.val (.ref c), .val (.int (15 : Int32)), .val (.ref b), .val (.int (15 : Int32)), .val (.int (32 : Int32)), .val (.int (14 : Int32)), .val (.int x14)]) (1 : Int32) d5_35 rfl rfl rfl rfl ?_
  refine Rn.iinc K (q := 41) (Ls' := #[.val (.ref c), .val (.int (15 : Int32)), .val (.ref b), .val (.int (15 : Int32)), .val (.int (32 : Int32)), .val (.int (15 : Int32)), .val (.int x14)]) (1 : Int32) d5_38 rfl rfl rfl rfl ?_
  refine Rn.goto K (q := 3) d5_41 (by decide) (by decide) ?_
  refine Rn.iload K (q := 5) d5_3 rfl rfl ?_
  refine Rn.iload K (q := 7) d5_5 rfl rfl ?_
  refine Rn.icN K (q := 10) d5_7 (XT.ii_ge_f (by decide)) rfl ?_
  refine Rn.aloadN K (q := 11) d5_10 rfl rfl rfl ?_
  refine Rn.iloadN K (q := 12) d5_11 rfl rfl ?_
  refine Rn.caload K (q := 13) (v := (.int x15)) f120 (by decide) rfl d5_12 rfl ?_
  refine Rn.istore K (q := 15) (Ls' := #[.val (.ref c), .val (.int (15 : Int32)), .val (.ref b), .val (.int (15 : Int32)), .val (.int (32 : Int32)), .val (.int (15 : Int32)), .val (.int x15)]) d5_13 rfl rfl ?_
  refine Rn.iload K (q := 17) d5_15 rfl rfl ?_
  refine Rn.sipush K (q := 20) (255 : Int32) d5_17 rfl rfl ?_
  refine Rn.icY K (q := 26) d5_20 (XT.ii_le_t hx15) (by decide) (by decide) ?_
  refine Rn.aloadN K (q := 27) d5_26 rfl rfl rfl ?_
  refine Rn.iloadN K (q := 28) d5_27 rfl rfl ?_
  refine Rn.iload K (q := 30) d5_28 rfl rfl ?_
  refine Rn.i2b K (q := 31) d5_30 rfl ?_
  refine Rn.bastoreB K (q := 32) (i := 15) A115 (by decide) rfl (oL rfl) gb d5_31 rfl ?_
  intro h121 W122 A123
  have f125 := f117.wr W122 (Or.inl (oT 0 rfl))
  have f126 := f118.wr W122
  have f127 := f119.wr W122
  have f128 := f120.other W122 (ne_exa f119 f118 (by decide))
  replace A123 : Arv Z h121 b k .byte (32 : Int32) [(.int (oB x0)), (.int (oB x1)), (.int (oB x2)), (.int (oB x3)), (.int (oB x4)), (.int (oB x5)), (.int (oB x6)), (.int (oB x7)), (.int (oB x8)), (.int (oB x9)), (.int (oB x10)), (.int (oB x11)), (.int (oB x12)), (.int (oB x13)), (.int (oB x14)), (.int (oB x15)), oZ, oZ, oZ, oZ, oZ, oZ, oZ, oZ, oZ, oZ, oZ, oZ, oZ, oZ, oZ, oZ] oZ := A123
  refine Rn.iinc K (q := 35) (Ls' := #[.val (.ref c), .val (.int (16 : Int32)), .val (.ref b), .val (.int (15 : Int32)), .val (.int (32 : Int32)), .val (.int (15 : Int32)), .val (.int x15)]) (1 : Int32) d5_32 rfl rfl rfl rfl ?_
  refine Rn.iinc K (q := 38) (Ls' := #[.val (.ref c), .val (.int (16 : Int32)), .val (.ref b), .val (.int (16 : Int32)), .val (.int (32 : Int32)), .val (.int (15 : Int32)), .val (.int x15)]) (1 : Int32) d5_35 rfl rfl rfl rfl ?_
  refine Rn.iinc K (q := 41) (Ls' := #[.val (.ref c), .val (.int (16 : Int32)), .val (.ref b), .val (.int (16 : Int32)), .val (.int (32 : Int32)), .val (.int (16 : Int32)), .val (.int x15)]) (1 : Int32) d5_38 rfl rfl rfl rfl ?_
  refine Rn.goto K (q := 3) d5_41 (by decide) (by decide) ?_
  refine Rn.iload K (q := 5) d5_3 rfl rfl ?_
  refine Rn.iload K (q := 7) d5_5 rfl rfl ?_
  refine Rn.icN K (q := 10) d5_7 (XT.ii_ge_f (by decide)) rfl ?_
  refine Rn.aloadN K (q := 11) d5_10 rfl rfl rfl ?_
  refine Rn.iloadN K (q := 12) d5_11 rfl rfl ?_
  refine Rn.caload K (q := 13) (v := (.int x16)) f128 (by decide) rfl d5_12 rfl ?_
  refine Rn.istore K (q := 15) (Ls' := #[.val (.ref c), .val (.int (16 : Int32)), .val (.ref b), .val (.int (16 : Int32)), .val (.int (32 : Int32)), .val (.int (16 : Int32)), .val (.int x16)]) d5_13 rfl rfl ?_
  refine Rn.iload K (q := 17) d5_15 rfl rfl ?_
  refine Rn.sipush K (q := 20) (255 : Int32) d5_17 rfl rfl ?_
  refine Rn.icY K (q := 26) d5_20 (XT.ii_le_t hx16) (by decide) (by decide) ?_
  refine Rn.aloadN K (q := 27) d5_26 rfl rfl rfl ?_
  refine Rn.iloadN K (q := 28) d5_27 rfl rfl ?_
  refine Rn.iload K (q := 30) d5_28 rfl rfl ?_
  refine Rn.i2b K (q := 31) d5_30 rfl ?_
  refine Rn.bastoreB K (q := 32) (i := 16) A123 (by decide) rfl (oL rfl) gb d5_31 rfl ?_
  intro h129 W130 A131
  have f133 := f125.wr W130 (Or.inl (oT 0 rfl))
  have f134 := f126.wr W130
  have f135 := f127.wr W130
  have f136 := f128.other W130 (ne_exa f127 f126 (by decide))
  replace A131 : Arv Z h129 b k .byte (32 : Int32) [(.int (oB x0)), (.int (oB x1)), (.int (oB x2)), (.int (oB x3)), (.int (oB x4)), (.int (oB x5)), (.int (oB x6)), (.int (oB x7)), (.int (oB x8)), (.int (oB x9)), (.int (oB x10)), (.int (oB x11)), (.int (oB x12)), (.int (oB x13)), (.int (oB x14)), (.int (oB x15)), (.int (oB x16)), oZ, oZ, oZ, oZ, oZ, oZ, oZ, oZ, oZ, oZ, oZ, oZ, oZ, oZ, oZ] oZ := A131
  refine Rn.iinc K (q := 35) (Ls' := #[.val (.ref c), .val (.int (17 : Int32)), .val (.ref b), .val (.int (16 : Int32)), .val (.int (32 : Int32)), .val (.int (16 : Int32)), .val (.int x16)]) (1 : Int32) d5_32 rfl rfl rfl rfl ?_
  refine Rn.iinc K (q := 38) (Ls' := #[.val (.ref c), .val (.int (17 : Int32)), .val (.ref b), .val (.int (17 : Int32)), .val (.int (32 : Int32)), .val (.int (16 : Int32)), .val (.int x16)]) (1 : Int32) d5_35 rfl rfl rfl rfl ?_
  refine Rn.iinc K (q := 41) (Ls' := #[.val (.ref c), .val (.int (17 : Int32)), .val (.ref b), .val (.int (17 : Int32)), .val (.int (32 : Int32)), .val (.int (17 : Int32)), .val (.int x16)]) (1 : Int32) d5_38 rfl rfl rfl rfl ?_
  refine Rn.goto K (q := 3) d5_41 (by decide) (by decide) ?_
  refine Rn.iload K (q := 5) d5_3 rfl rfl ?_
  refine Rn.iload K (q := 7) d5_5 rfl rfl ?_
  refine Rn.icN K (q := 10) d5_7 (XT.ii_ge_f (by decide)) rfl ?_
  refine Rn.aloadN K (q := 11) d5_10 rfl rfl rfl ?_
  refine Rn.iloadN K (q := 12) d5_11 rfl rfl ?_
  refine Rn.caload K (q := 13) (v := (.int x17)) f136 (by decide) rfl d5_12 rfl ?_
  refine Rn.istore K (q := 15) (Ls' := #[.val (.ref c), .val (.int (17 : Int32)), .val (.ref b), .val (.int (17 : Int32)), .val (.int (32 : Int32)), .val (.int (17 : Int32)), .val (.int x17)]) d5_13 rfl rfl ?_
  refine Rn.iload K (q := 17) d5_15 rfl rfl ?_
  refine Rn.sipush K (q := 20) (255 : Int32) d5_17 rfl rfl ?_
  refine Rn.icY K (q := 26) d5_20 (XT.ii_le_t hx17) (by decide) (by decide) ?_
  refine Rn.aloadN K (q := 27) d5_26 rfl rfl rfl ?_
  refine Rn.iloadN K (q := 28) d5_27 rfl rfl ?_
  refine Rn.iload K (q := 30) d5_28 rfl rfl ?_
  refine Rn.i2b K (q := 31) d5_30 rfl ?_
  refine Rn.bastoreB K (q := 32) (i := 17) A131 (by decide) rfl (oL rfl) gb d5_31 rfl ?_
  intro h137 W138 A139
  have f141 := f133.wr W138 (Or.inl (oT 0 rfl))
  have f142 := f134.wr W138
  have f143 := f135.wr W138
  have f144 := f136.other W138 (ne_exa f135 f134 (by decide))
  replace A139 : Arv Z h137 b k .byte (32 : Int32) [(.int (oB x0)), (.int (oB x1)), (.int (oB x2)), (.int (oB x3)), (.int (oB x4)), (.int (oB x5)), (.int (oB x6)), (.int (oB x7)), (.int (oB x8)), (.int (oB x9)), (.int (oB x10)), (.int (oB x11)), (.int (oB x12)), (.int (oB x13)), (.int (oB x14)), (.int (oB x15)), (.int (oB x16)), (.int (oB x17)), oZ, oZ, oZ, oZ, oZ, oZ, oZ, oZ, oZ, oZ, oZ, oZ, oZ, oZ] oZ := A139
  refine Rn.iinc K (q := 35) (Ls' := #[.val (.ref c), .val (.int (18 : Int32)), .val (.ref b), .val (.int (17 : Int32)), .val (.int (32 : Int32)), .val (.int (17 : Int32)), .val (.int x17)]) (1 : Int32) d5_32 rfl rfl rfl rfl ?_
  refine Rn.iinc K (q := 38) (Ls' := #[.val (.ref c), .val (.int (18 : Int32)), .val (.ref b), .val (.int (18 : Int32)), .val (.int (32 : Int32)), .val (.int (17 : Int32)), .val (.int x17)]) (1 : Int32) d5_35 rfl rfl rfl rfl ?_
  refine Rn.iinc K (q := 41) (Ls' := #[.val (.ref c), .val (.int (18 : Int32)), .val (.ref b), .val (.int (18 : Int32)), .val (.int (32 : Int32)), .val (.int (18 : Int32)), .val (.int x17)]) (1 : Int32) d5_38 rfl rfl rfl rfl ?_
  refine Rn.goto K (q := 3) d5_41 (by decide) (by decide) ?_
  refine Rn.iload K (q := 5) d5_3 rfl rfl ?_
  refine Rn.iload K (q := 7) d5_5 rfl rfl ?_
  refine Rn.icN K (q := 10) d5_7 (XT.ii_ge_f (by decide)) rfl ?_
  refine Rn.aloadN K (q := 11) d5_10 rfl rfl rfl ?_
  refine Rn.iloadN K (q := 12) d5_11 rfl rfl ?_
  refine Rn.caload K (q := 13) (v := (.int x18)) f144 (by decide) rfl d5_12 rfl ?_
  refine Rn.istore K (q := 15) (Ls' := #[.val (.ref c), .val (.int (18 : Int32)), .val (.ref b), .val (.int (18 : Int32)), .val (.int (32 : Int32)), .val (.int (18 : Int32)), .val (.int x18)]) d5_13 rfl rfl ?_
  refine Rn.iload K (q := 17) d5_15 rfl rfl ?_
  refine Rn.sipush K (q := 20) (255 : Int32) d5_17 rfl rfl ?_
  refine Rn.icY K (q := 26) d5_20 (XT.ii_le_t hx18) (by decide) (by decide) ?_
  refine Rn.aloadN K (q := 27) d5_26 rfl rfl rfl ?_
  refine Rn.iloadN K (q := 28) d5_27 rfl rfl ?_
  refine Rn.iload K (q := 30) d5_28 rfl rfl ?_
  refine Rn.i2b K (q := 31) d5_30 rfl ?_
  refine Rn.bastoreB K (q := 32) (i := 18) A139 (by decide) rfl (oL rfl) gb d5_31 rfl ?_
  intro h145 W146 A147
  have f149 := f141.wr W146 (Or.inl (oT 0 rfl))
  have f150 := f142.wr W146
  have f151 := f143.wr W146
  have f152 := f144.other W146 (ne_exa f143 f142 (by decide))
  replace A147 : Arv Z h145 b k .byte (32 : Int32) [(.int (oB x0)), (.int (oB x1)), (.int (oB x2)), (.int (oB x3)), (.int (oB x4)), (.int (oB x5)), (.int (oB x6)), (.int (oB x7)), (.int (oB x8)), (.int (oB x9)), (.int (oB x10)), (.int (oB x11)), (.int (oB x12)), (.int (oB x13)), (.int (oB x14)), (.int (oB x15)), (.int (oB x16)), (.int (oB x17)), (.int (oB x18)), oZ, oZ, oZ, oZ, oZ, oZ, oZ, oZ, oZ, oZ, oZ, oZ, oZ] oZ := A147
  refine Rn.iinc K (q := 35) (Ls' := #[.val (.ref c), .val (.int (19 : Int32)), .val (.ref b), .val (.int (18 : Int32)), .val (.int (32 : Int32)), .val (.int (18 : Int32)), .val (.int x18)]) (1 : Int32) d5_32 rfl rfl rfl rfl ?_
  refine Rn.iinc K (q := 38) (Ls' := #[.val (.ref c), .val (.int (19 : Int32)), .val (.ref b), .val (.int (19 : Int32)), .val (.int (32 : Int32)), .val (.int (18 : Int32)), .val (.int x18)]) (1 : Int32) d5_35 rfl rfl rfl rfl ?_
  refine Rn.iinc K (q := 41) (Ls' := #[.val (.ref c), .val (.int (19 : Int32)), .val (.ref b), .val (.int (19 : Int32)), .val (.int (32 : Int32)), .val (.int (19 : Int32)), .val (.int x18)]) (1 : Int32) d5_38 rfl rfl rfl rfl ?_
  refine Rn.goto K (q := 3) d5_41 (by decide) (by decide) ?_
  refine Rn.iload K (q := 5) d5_3 rfl rfl ?_
  refine Rn.iload K (q := 7) d5_5 rfl rfl ?_
  refine Rn.icN K (q := 10) d5_7 (XT.ii_ge_f (by decide)) rfl ?_
  refine Rn.aloadN K (q := 11) d5_10 rfl rfl rfl ?_
  refine Rn.iloadN K (q := 12) d5_11 rfl rfl ?_
  refine Rn.caload K (q := 13) (v := (.int x19)) f152 (by decide) rfl d5_12 rfl ?_
  refine Rn.istore K (q := 15) (Ls' := #[.val (.ref c), .val (.int (19 : Int32)), .val (.ref b), .val (.int (19 : Int32)), .val (.int (32 : Int32)), .val (.int (19 : Int32)), .val (.int x19)]) d5_13 rfl rfl ?_
  refine Rn.iload K (q := 17) d5_15 rfl rfl ?_
  refine Rn.sipush K (q := 20) (255 : Int32) d5_17 rfl rfl ?_
  refine Rn.icY K (q := 26) d5_20 (XT.ii_le_t hx19) (by decide) (by decide) ?_
  refine Rn.aloadN K (q := 27) d5_26 rfl rfl rfl ?_
  refine Rn.iloadN K (q := 28) d5_27 rfl rfl ?_
  refine Rn.iload K (q := 30) d5_28 rfl rfl ?_
  refine Rn.i2b K (q := 31) d5_30 rfl ?_
  refine Rn.bastoreB K (q := 32) (i := 19) A147 (by decide) rfl (oL rfl) gb d5_31 rfl ?_
  intro h153 W154 A155
  have f157 := f149.wr W154 (Or.inl (oT 0 rfl))
  have f158 := f150.wr W154
  have f159 := f151.wr W154
  have f160 := f152.other W154 (ne_exa f151 f150 (by decide))
  replace A155 : Arv Z h153 b k .byte (32 : Int32) [(.int (oB x0)), (.int (oB x1)), (.int (oB x2)), (.int (oB x3)), (.int (oB x4)), (.int (oB x5)), (.int (oB x6)), (.int (oB x7)), (.int (oB x8)), (.int (oB x9)), (.int (oB x10)), (.int (oB x11)), (.int (oB x12)), (.int (oB x13)), (.int (oB x14)), (.int (oB x15)), (.int (oB x16)), (.int (oB x17)), (.int (oB x18)), (.int (oB x19)), oZ, oZ, oZ, oZ, oZ, oZ, oZ, oZ, oZ, oZ, oZ, oZ] oZ := A155
  refine Rn.iinc K (q := 35) (Ls' := #[.val (.ref c), .val (.int (20 : Int32)), .val (.ref b), .val (.int (19 : Int32)), .val (.int (32 : Int32)), .val (.int (19 : Int32)), .val (.int x19)]) (1 : Int32) d5_32 rfl rfl rfl rfl ?_
  refine Rn.iinc K (q := 38) (Ls' := #[.val (.ref c), .val (.int (20 : Int32)), .val (.ref b), .val (.int (20 : Int32)), .val (.int (32 : Int32)), .val (.int (19 : Int32)), .val (.int x19)]) (1 : Int32) d5_35 rfl rfl rfl rfl ?_
  refine Rn.iinc K (q := 41) (Ls' := #[.val (.ref c), .val (.int (20 : Int32)), .val (.ref b), .val (.int (20 : Int32)), .val (.int (32 : Int32)), .val (.int (20 : Int32)), .val (.int x19)]) (1 : Int32) d5_38 rfl rfl rfl rfl ?_
  refine Rn.goto K (q := 3) d5_41 (by decide) (by decide) ?_
  refine Rn.iload K (q := 5) d5_3 rfl rfl ?_
  refine Rn.iload K (q := 7) d5_5 rfl rfl ?_
  refine Rn.icN K (q := 10) d5_7 (XT.ii_ge_f (by decide)) rfl ?_
  refine Rn.aloadN K (q := 11) d5_10 rfl rfl rfl ?_
  refine Rn.iloadN K (q := 12) d5_11 rfl rfl ?_
  refine Rn.caload K (q := 13) (v := (.int x20)) f160 (by decide) rfl d5_12 rfl ?_
  refine Rn.istore K (q := 15) (Ls' := #[.val (.ref c), .val (.int (20 : Int32)), .val (.ref b), .val (.int (20 : Int32)), .val (.int (32 : Int32)), .val (.int (20 : Int32)), .val (.int x20)]) d5_13 rfl rfl ?_
  refine Rn.iload K (q := 17) d5_15 rfl rfl ?_
  refine Rn.sipush K (q := 20) (255 : Int32) d5_17 rfl rfl ?_
  refine Rn.icY K (q := 26) d5_20 (XT.ii_le_t hx20) (by decide) (by decide) ?_
  refine Rn.aloadN K (q := 27) d5_26 rfl rfl rfl ?_
  refine Rn.iloadN K (q := 28) d5_27 rfl rfl ?_
  refine Rn.iload K (q := 30) d5_28 rfl rfl ?_
  refine Rn.i2b K (q := 31) d5_30 rfl ?_
  refine Rn.bastoreB K (q := 32) (i := 20) A155 (by decide) rfl (oL rfl) gb d5_31 rfl ?_
  intro h161 W162 A163
  have f165 := f157.wr W162 (Or.inl (oT 0 rfl))
  have f166 := f158.wr W162
  have f167 := f159.wr W162
  have f168 := f160.other W162 (ne_exa f159 f158 (by decide))
  replace A163 : Arv Z h161 b k .byte (32 : Int32) [(.int (oB x0)), (.int (oB x1)), (.int (oB x2)), (.int (oB x3)), (.int (oB x4)), (.int (oB x5)), (.int (oB x6)), (.int (oB x7)), (.int (oB x8)), (.int (oB x9)), (.int (oB x10)), (.int (oB x11)), (.int (oB x12)), (.int (oB x13)), (.int (oB x14)), (.int (oB x15)), (.int (oB x16)), (.int (oB x17)), (.int (oB x18)), (.int (oB x19)), (.int (oB x20)), oZ, oZ, oZ, oZ, oZ, oZ, oZ, oZ, oZ, oZ, oZ] oZ := A163
  refine Rn.iinc K (q := 35) (Ls' := #[.val (.ref c), .val (.int (21 : Int32)), .val (.ref b), .val (.int (20 : Int32)), .val (.int (32 : Int32)), .val (.int (20 : Int32)), .val (.int x20)]) (1 : Int32) d5_32 rfl rfl rfl rfl ?_
  refine Rn.iinc K (q := 38) (Ls' := #[.val (.ref c), .val (.int (21 : Int32)), .val (.ref b), .val (.int (21 : Int32)), .val (.int (32 : Int32)), .val (.int (20 : Int32)), .val (.int x20)]) (1 : Int32) d5_35 rfl rfl rfl rfl ?_
  refine Rn.iinc K (q := 41) (Ls' := #[.val (.ref c), .val (.int (21 : Int32)), .val (.ref b), .val (.int (21 : Int32)), .val (.int (32 : Int32)), .val (.int (21 : Int32)), .val (.int x20)]) (1 : Int32) d5_38 rfl rfl rfl rfl ?_
  refine Rn.goto K (q := 3) d5_41 (by decide) (by decide) ?_
  refine Rn.iload K (q := 5) d5_3 rfl rfl ?_
  refine Rn.iload K (q := 7) d5_5 rfl rfl ?_
  refine Rn.icN K (q := 10) d5_7 (XT.ii_ge_f (by decide)) rfl ?_
  refine Rn.aloadN K (q := 11) d5_10 rfl rfl rfl ?_
  refine Rn.iloadN K (q := 12) d5_11 rfl rfl ?_
  refine Rn.caload K (q := 13) (v := (.int x21)) f168 (by decide) rfl d5_12 rfl ?_
  refine Rn.istore K (q := 15) (Ls' := #[.val (.ref c), .val (.int (21 : Int32)), .val (.ref b), .val (.int (21 : Int32)), .val (.int (32 : Int32)), .val (.int (21 : Int32)), .val (.int x21)]) d5_13 rfl rfl ?_
  refine Rn.iload K (q := 17) d5_15 rfl rfl ?_
  refine Rn.sipush K (q := 20) (255 : Int32) d5_17 rfl rfl ?_
  refine Rn.icY K (q := 26) d5_20 (XT.ii_le_t hx21) (by decide) (by decide) ?_
  refine Rn.aloadN K (q := 27) d5_26 rfl rfl rfl ?_
  refine Rn.iloadN K (q := 28) d5_27 rfl rfl ?_
  refine Rn.iload K (q := 30) d5_28 rfl rfl ?_
  refine Rn.i2b K (q := 31) d5_30 rfl ?_
  refine Rn.bastoreB K (q := 32) (i := 21) A163 (by decide) rfl (oL rfl) gb d5_31 rfl ?_
  intro h169 W170 A171
  have f173 := f165.wr W170 (Or.inl (oT 0 rfl))
  have f174 := f166.wr W170
  have f175 := f167.wr W170
  have f176 := f168.other W170 (ne_exa f167 f166 (by decide))
  replace A171 : Arv Z h169 b k .byte (32 : Int32) [(.int (oB x0)), (.int (oB x1)), (.int (oB x2)), (.int (oB x3)), (.int (oB x4)), (.int (oB x5)), (.int (oB x6)), (.int (oB x7)), (.int (oB x8)), (.int (oB x9)), (.int (oB x10)), (.int (oB x11)), (.int (oB x12)), (.int (oB x13)), (.int (oB x14)), (.int (oB x15)), (.int (oB x16)), (.int (oB x17)), (.int (oB x18)), (.int (oB x19)), (.int (oB x20)), (.int (oB x21)), oZ, oZ, oZ, oZ, oZ, oZ, oZ, oZ, oZ, oZ] oZ := A171
  refine Rn.iinc K (q := 35) (Ls' := #[.val (.ref c), .val (.int (22 : Int32)), .val (.ref b), .val (.int (21 : Int32)), .val (.int (32 : Int32)), .val (.int (21 : Int32)), .val (.int x21)]) (1 : Int32) d5_32 rfl rfl rfl rfl ?_
  refine Rn.iinc K (q := 38) (Ls' := #[.val (.ref c), .val (.int (22 : Int32)), .val (.ref b), .val (.int (22 : Int32)), .val (.int (32 : Int32)), .val (.int (21 : Int32)), .val (.int x21)]) (1 : Int32) d5_35 rfl rfl rfl rfl ?_
  refine Rn.iinc K (q := 41) (Ls' := #[.val (.ref c), .val (.int (22 : Int32)), .val (.ref b), .val (.int (22 : Int32)), .val (.int (32 : Int32)), .val (.int (22 : Int32)), .val (.int x21)]) (1 : Int32) d5_38 rfl rfl rfl rfl ?_
  refine Rn.goto K (q := 3) d5_41 (by decide) (by decide) ?_
  refine Rn.iload K (q := 5) d5_3 rfl rfl ?_
  refine Rn.iload K (q := 7) d5_5 rfl rfl ?_
  refine Rn.icN K (q := 10) d5_7 (XT.ii_ge_f (by decide)) rfl ?_
  refine Rn.aloadN K (q := 11) d5_10 rfl rfl rfl ?_
  refine Rn.iloadN K (q := 12) d5_11 rfl rfl ?_
  refine Rn.caload K (q := 13) (v := (.int x22)) f176 (by decide) rfl d5_12 rfl ?_
  refine Rn.istore K (q := 15) (Ls' := #[.val (.ref c), .val (.int (22 : Int32)), .val (.ref b), .val (.int (22 : Int32)), .val (.int (32 : Int32)), .val (.int (22 : Int32)), .val (.int x22)]) d5_13 rfl rfl ?_
  refine Rn.iload K (q := 17) d5_15 rfl rfl ?_
  refine Rn.sipush K (q := 20) (255 : Int32) d5_17 rfl rfl ?_
  refine Rn.icY K (q := 26) d5_20 (XT.ii_le_t hx22) (by decide) (by decide) ?_
  refine Rn.aloadN K (q := 27) d5_26 rfl rfl rfl ?_
  refine Rn.iloadN K (q := 28) d5_27 rfl rfl ?_
  refine Rn.iload K (q := 30) d5_28 rfl rfl ?_
  refine Rn.i2b K (q := 31) d5_30 rfl ?_
  refine Rn.bastoreB K (q := 32) (i := 22) A171 (by decide) rfl (oL rfl) gb d5_31 rfl ?_
  intro h177 W178 A179
  have f181 := f173.wr W178 (Or.inl (oT 0 rfl))
  have f182 := f174.wr W178
  have f183 := f175.wr W178
  have f184 := f176.other W178 (ne_exa f175 f174 (by decide))
  replace A179 : Arv Z h177 b k .byte (32 : Int32) [(.int (oB x0)), (.int (oB x1)), (.int (oB x2)), (.int (oB x3)), (.int (oB x4)), (.int (oB x5)), (.int (oB x6)), (.int (oB x7)), (.int (oB x8)), (.int (oB x9)), (.int (oB x10)), (.int (oB x11)), (.int (oB x12)), (.int (oB x13)), (.int (oB x14)), (.int (oB x15)), (.int (oB x16)), (.int (oB x17)), (.int (oB x18)), (.int (oB x19)), (.int (oB x20)), (.int (oB x21)), (.int (oB x22)), oZ, oZ, oZ, oZ, oZ, oZ, oZ, oZ, oZ] oZ := A179
  refine Rn.iinc K (q := 35) (Ls' := #[.val (.ref c), .val (.int (23 : Int32)), .val (.ref b), .val (.int (22 : Int32)), .val (.int (32 : Int32)), .val (.int (22 : Int32)), .val (.int x22)]) (1 : Int32) d5_32 rfl rfl rfl rfl ?_
  refine Rn.iinc K (q := 38) (Ls' := #[.val (.ref c), .val (.int (23 : Int32)), .val (.ref b), .val (.int (23 : Int32)), .val (.int (32 : Int32)), .val (.int (22 : Int32)), .val (.int x22)]) (1 : Int32) d5_35 rfl rfl rfl rfl ?_
  refine Rn.iinc K (q := 41) (Ls' := #[.val (.ref c), .val (.int (23 : Int32)), .val (.ref b), .val (.int (23 : Int32)), .val (.int (32 : Int32)), .val (.int (23 : Int32)), .val (.int x22)]) (1 : Int32) d5_38 rfl rfl rfl rfl ?_
  refine Rn.goto K (q := 3) d5_41 (by decide) (by decide) ?_
  refine Rn.iload K (q := 5) d5_3 rfl rfl ?_
  refine Rn.iload K (q := 7) d5_5 rfl rfl ?_
  refine Rn.icN K (q := 10) d5_7 (XT.ii_ge_f (by decide)) rfl ?_
  refine Rn.aloadN K (q := 11) d5_10 rfl rfl rfl ?_
  refine Rn.iloadN K (q := 12) d5_11 rfl rfl ?_
  refine Rn.caload K (q := 13) (v := (.int x23)) f184 (by decide) rfl d5_12 rfl ?_
  refine Rn.istore K (q := 15) (Ls' := #[.val (.ref c), .val (.int (23 : Int32)), .val (.ref b), .val (.int (23 : Int32)), .val (.int (32 : Int32)), .val (.int (23 : Int32)), .val (.int x23)]) d5_13 rfl rfl ?_
  refine Rn.iload K (q := 17) d5_15 rfl rfl ?_
  refine Rn.sipush K (q := 20) (255 : Int32) d5_17 rfl rfl ?_
  refine Rn.icY K (q := 26) d5_20 (XT.ii_le_t hx23) (by decide) (by decide) ?_
  refine Rn.aloadN K (q := 27) d5_26 rfl rfl rfl ?_
  refine Rn.iloadN K (q := 28) d5_27 rfl rfl ?_
  refine Rn.iload K (q := 30) d5_28 rfl rfl ?_
  refine Rn.i2b K (q := 31) d5_30 rfl ?_
  refine Rn.bastoreB K (q := 32) (i := 23) A179 (by decide) rfl (oL rfl) gb d5_31 rfl ?_
  intro h185 W186 A187
  have f189 := f181.wr W186 (Or.inl (oT 0 rfl))
  have f190 := f182.wr W186
  have f191 := f183.wr W186
  have f192 := f184.other W186 (ne_exa f183 f182 (by decide))
  replace A187 : Arv Z h185 b k .byte (32 : Int32) [(.int (oB x0)), (.int (oB x1)), (.int (oB x2)), (.int (oB x3)), (.int (oB x4)), (.int (oB x5)), (.int (oB x6)), (.int (oB x7)), (.int (oB x8)), (.int (oB x9)), (.int (oB x10)), (.int (oB x11)), (.int (oB x12)), (.int (oB x13)), (.int (oB x14)), (.int (oB x15)), (.int (oB x16)), (.int (oB x17)), (.int (oB x18)), (.int (oB x19)), (.int (oB x20)), (.int (oB x21)), (.int (oB x22)), (.int (oB x23)), oZ, oZ, oZ, oZ, oZ, oZ, oZ, oZ] oZ := A187
  refine Rn.iinc K (q := 35) (Ls' := #[.val (.ref c), .val (.int (24 : Int32)), .val (.ref b), .val (.int (23 : Int32)), .val (.int (32 : Int32)), .val (.int (23 : Int32)), .val (.int x23)]) (1 : Int32) d5_32 rfl rfl rfl rfl ?_
  refine Rn.iinc K (q := 38) (Ls' := #[.val (.ref c), .val (.int (24 : Int32)), .val (.ref b), .val (.int (24 : Int32)), .val (.int (32 : Int32)), .val (.int (23 : Int32)), .val (.int x23)]) (1 : Int32) d5_35 rfl rfl rfl rfl ?_
  refine Rn.iinc K (q := 41) (Ls' := #[.val (.ref c), .val (.int (24 : Int32)), .val (.ref b), .val (.int (24 : Int32)), .val (.int (32 : Int32)), .val (.int (24 : Int32)), .val (.int x23)]) (1 : Int32) d5_38 rfl rfl rfl rfl ?_
  refine Rn.goto K (q := 3) d5_41 (by decide) (by decide) ?_
  refine Rn.iload K (q := 5) d5_3 rfl rfl ?_
  refine Rn.iload K (q := 7) d5_5 rfl rfl ?_
  refine Rn.icN K (q := 10) d5_7 (XT.ii_ge_f (by decide)) rfl ?_
  refine Rn.aloadN K (q := 11) d5_10 rfl rfl rfl ?_
  refine Rn.iloadN K (q := 12) d5_11 rfl rfl ?_
  refine Rn.caload K (q := 13) (v := (.int x24)) f192 (by decide) rfl d5_12 rfl ?_
  refine Rn.istore K (q := 15) (Ls' := #[.val (.ref c), .val (.int (24 : Int32)), .val (.ref b), .val (.int (24 : Int32)), .val (.int (32 : Int32)), .val (.int (24 : Int32)), .val (.int x24)]) d5_13 rfl rfl ?_
  refine Rn.iload K (q := 17) d5_15 rfl rfl ?_
  refine Rn.sipush K (q := 20) (255 : Int32) d5_17 rfl rfl ?_
  refine Rn.icY K (q := 26) d5_20 (XT.ii_le_t hx24) (by decide) (by decide) ?_
  refine Rn.aloadN K (q := 27) d5_26 rfl rfl rfl ?_
  refine Rn.iloadN K (q := 28) d5_27 rfl rfl ?_
  refine Rn.iload K (q := 30) d5_28 rfl rfl ?_
  refine Rn.i2b K (q := 31) d5_30 rfl ?_
  refine Rn.bastoreB K (q := 32) (i := 24) A187 (by decide) rfl (oL rfl) gb d5_31 rfl ?_
  intro h193 W194 A195
  have f197 := f189.wr W194 (Or.inl (oT 0 rfl))
  have f198 := f190.wr W194
  have f199 := f191.wr W194
  have f200 := f192.other W194 (ne_exa f191 f190 (by decide))
  replace A195 : Arv Z h193 b k .byte (32 : Int32) [(.int (oB x0)), (.int (oB x1)), (.int (oB x2)), (.int (oB x3)), (.int (oB x4)), (.int (oB x5)), (.int (oB x6)), (.int (oB x7)), (.int (oB x8)), (.int (oB x9)), (.int (oB x10)), (.int (oB x11)), (.int (oB x12)), (.int (oB x13)), (.int (oB x14)), (.int (oB x15)), (.int (oB x16)), (.int (oB x17)), (.int (oB x18)), (.int (oB x19)), (.int (oB x20)), (.int (oB x21)), (.int (oB x22)), (.int (oB x23)), (.int (oB x24)), oZ, oZ, oZ, oZ, oZ, oZ, oZ] oZ := A195
  refine Rn.iinc K (q := 35) (Ls' := #[.val (.ref c), .val (.int (25 : Int32)), .val (.ref b), .val (.int (24 : Int32)), .val (.int (32 : Int32)), .val (.int (24 : Int32)), .val (.int x24)]) (1 : Int32) d5_32 rfl rfl rfl rfl ?_
  refine Rn.iinc K (q := 38) (Ls' := #[.val (.ref c), .val (.int (25 : Int32)), .val (.ref b), .val (.int (25 : Int32)), .val (.int (32 : Int32)), .val (.int (24 : Int32)), .val (.int x24)]) (1 : Int32) d5_35 rfl rfl rfl rfl ?_
  refine Rn.iinc K (q := 41) (Ls' := #[.val (.ref c), .val (.int (25 : Int32)), .val (.ref b), .val (.int (25 : Int32)), .val (.int (32 : Int32)), .val (.int (25 : Int32)), .val (.int x24)]) (1 : Int32) d5_38 rfl rfl rfl rfl ?_
  refine Rn.goto K (q := 3) d5_41 (by decide) (by decide) ?_
  refine Rn.iload K (q := 5) d5_3 rfl rfl ?_
  refine Rn.iload K (q := 7) d5_5 rfl rfl ?_
  refine Rn.icN K (q := 10) d5_7 (XT.ii_ge_f (by decide)) rfl ?_
  refine Rn.aloadN K (q := 11) d5_10 rfl rfl rfl ?_
  refine Rn.iloadN K (q := 12) d5_11 rfl rfl ?_
  refine Rn.caload K (q := 13) (v := (.int x25)) f200 (by decide) rfl d5_12 rfl ?_
  refine Rn.istore K (q := 15) (Ls' := #[.val (.ref c), .val (.int (25 : Int32)), .val (.ref b), .val (.int (25 : Int32)), .val (.int (32 : Int32)), .val (.int (25 : Int32)), .val (.int x25)]) d5_13 rfl rfl ?_
  refine Rn.iload K (q := 17) d5_15 rfl rfl ?_
  refine Rn.sipush K (q := 20) (255 : Int32) d5_17 rfl rfl ?_
  refine Rn.icY K (q := 26) d5_20 (XT.ii_le_t hx25) (by decide) (by decide) ?_
  refine Rn.aloadN K (q := 27) d5_26 rfl rfl rfl ?_
  refine Rn.iloadN K (q := 28) d5_27 rfl rfl ?_
  refine Rn.iload K (q := 30) d5_28 rfl rfl ?_
  refine Rn.i2b K (q := 31) d5_30 rfl ?_
  refine Rn.bastoreB K (q := 32) (i := 25) A195 (by decide) rfl (oL rfl) gb d5_31 rfl ?_
  intro h201 W202 A203
  have f205 := f197.wr W202 (Or.inl (oT 0 rfl))
  have f206 := f198.wr W202
  have f207 := f199.wr W202
  have f208 := f200.other W202 (ne_exa f199 f198 (by decide))
  replace A203 : Arv Z h201 b k .byte (32 : Int32) [(.int (oB x0)), (.int (oB x1)), (.int (oB x2)), (.int (oB x3)), (.int (oB x4)), (.int (oB x5)), (.int (oB x6)), (.int (oB x7)), (.int (oB x8)), (.int (oB x9)), (.int (oB x10)), (.int (oB x11)), (.int (oB x12)), (.int (oB x13)), (.int (oB x14)), (.int (oB x15)), (.int (oB x16)), (.int (oB x17)), (.int (oB x18)), (.int (oB x19)), (.int (oB x20)), (.int (oB x21)), (.int (oB x22)), (.int (oB x23)), (.int (oB x24)), (.int (oB x25)), oZ, oZ, oZ, oZ, oZ, oZ] oZ := A203
  refine Rn.iinc K (q := 35) (Ls' := #[.val (.ref c), .val (.int (26 : Int32)), .val (.ref b), .val (.int (25 : Int32)), .val (.int (32 : Int32)), .val (.int (25 : Int32)), .val (.int x25)]) (1 : Int32) d5_32 rfl rfl rfl rfl ?_
  refine Rn.iinc K (q := 38) (Ls' := #[.val (.ref c), .val (.int (26 : Int32)), .val (.ref b), .val (.int (26 : Int32)), .val (.int (32 : Int32)), .val (.int (25 : Int32)), .val (.int x25)]) (1 : Int32) d5_35 rfl rfl rfl rfl ?_
  refine Rn.iinc K (q := 41) (Ls' := #[.val (.ref c), .val (.int (26 : Int32)), .val (.ref b), .val (.int (26 : Int32)), .val (.int (32 : Int32)), .val (.int (26 : Int32)), .val (.int x25)]) (1 : Int32) d5_38 rfl rfl rfl rfl ?_
  refine Rn.goto K (q := 3) d5_41 (by decide) (by decide) ?_
  refine Rn.iload K (q := 5) d5_3 rfl rfl ?_
  refine Rn.iload K (q := 7) d5_5 rfl rfl ?_
  refine Rn.icN K (q := 10) d5_7 (XT.ii_ge_f (by decide)) rfl ?_
  refine Rn.aloadN K (q := 11) d5_10 rfl rfl rfl ?_
  refine Rn.iloadN K (q := 12) d5_11 rfl rfl ?_
  refine Rn.caload K (q := 13) (v := (.int x26)) f208 (by decide) rfl d5_12 rfl ?_
  refine Rn.istore K (q := 15) (Ls' := #[.val (.ref c), .val (.int (26 : Int32)), .val (.ref b), .val (.int (26 : Int32)), .val (.int (32 : Int32)), .val (.int (26 : Int32)), .val (.int x26)]) d5_13 rfl rfl ?_
  refine Rn.iload K (q := 17) d5_15 rfl rfl ?_
  refine Rn.sipush K (q := 20) (255 : Int32) d5_17 rfl rfl ?_
  refine Rn.icY K (q := 26) d5_20 (XT.ii_le_t hx26) (by decide) (by decide) ?_
  refine Rn.aloadN K (q := 27) d5_26 rfl rfl rfl ?_
  refine Rn.iloadN K (q := 28) d5_27 rfl rfl ?_
  refine Rn.iload K (q := 30) d5_28 rfl rfl ?_
  refine Rn.i2b K (q := 31) d5_30 rfl ?_
  refine Rn.bastoreB K (q := 32) (i := 26) A203 (by decide) rfl (oL rfl) gb d5_31 rfl ?_
  intro h209 W210 A211
  have f213 := f205.wr W210 (Or.inl (oT 0 rfl))
  have f214 := f206.wr W210
  have f215 := f207.wr W210
  have f216 := f208.other W210 (ne_exa f207 f206 (by decide))
  replace A211 : Arv Z h209 b k .byte (32 : Int32) [(.int (oB x0)), (.int (oB x1)), (.int (oB x2)), (.int (oB x3)), (.int (oB x4)), (.int (oB x5)), (.int (oB x6)), (.int (oB x7)), (.int (oB x8)), (.int (oB x9)), (.int (oB x10)), (.int (oB x11)), (.int (oB x12)), (.int (oB x13)), (.int (oB x14)), (.int (oB x15)), (.int (oB x16)), (.int (oB x17)), (.int (oB x18)), (.int (oB x19)), (.int (oB x20)), (.int (oB x21)), (.int (oB x22)), (.int (oB x23)), (.int (oB x24)), (.int (oB x25)), (.int (oB x26)), oZ, oZ, oZ, oZ, oZ] oZ := A211
  refine Rn.iinc K (q := 35) (Ls' := #[.val (.ref c), .val (.int (27 : Int32)), .val (.ref b), .val (.int (26 : Int32)), .val (.int (32 : Int32)), .val (.int (26 : Int32)), .val (.int x26)]) (1 : Int32) d5_32 rfl rfl rfl rfl ?_
  refine Rn.iinc K (q := 38) (Ls' := #[.val (.ref c), .val (.int (27 : Int32)), .val (.ref b), .val (.int (27 : Int32)), .val (.int (32 : Int32)), .val (.int (26 : Int32)), .val (.int x26)]) (1 : Int32) d5_35 rfl rfl rfl rfl ?_
  refine Rn.iinc K (q := 41) (Ls' := #[.val (.ref c), .val (.int (27 : Int32)), .val (.ref b), .val (.int (27 : Int32)), .val (.int (32 : Int32)), .val (.int (27 : Int32)), .val (.int x26)]) (1 : Int32) d5_38 rfl rfl rfl rfl ?_
  refine Rn.goto K (q := 3) d5_41 (by decide) (by decide) ?_
  refine Rn.iload K (q := 5) d5_3 rfl rfl ?_
  refine Rn.iload K (q := 7) d5_5 rfl rfl ?_
  refine Rn.icN K (q := 10) d5_7 (XT.ii_ge_f (by decide)) rfl ?_
  refine Rn.aloadN K (q := 11) d5_10 rfl rfl rfl ?_
  refine Rn.iloadN K (q := 12) d5_11 rfl rfl ?_
  refine Rn.caload K (q := 13) (v := (.int x27)) f216 (by decide) rfl d5_12 rfl ?_
  refine Rn.istore K (q := 15) (Ls' := #[.val (.ref c), .val (.int (27 : Int32)), .val (.ref b), .val (.int (27 : Int32)), .val (.int (32 : Int32)), .val (.int (27 : Int32)), .val (.int x27)]) d5_13 rfl rfl ?_
  refine Rn.iload K (q := 17) d5_15 rfl rfl ?_
  refine Rn.sipush K (q := 20) (255 : Int32) d5_17 rfl rfl ?_
  refine Rn.icY K (q := 26) d5_20 (XT.ii_le_t hx27) (by decide) (by decide) ?_
  refine Rn.aloadN K (q := 27) d5_26 rfl rfl rfl ?_
  refine Rn.iloadN K (q := 28) d5_27 rfl rfl ?_
  refine Rn.iload K (q := 30) d5_28 rfl rfl ?_
  refine Rn.i2b K (q := 31) d5_30 rfl ?_
  refine Rn.bastoreB K (q := 32) (i := 27) A211 (by decide) rfl (oL rfl) gb d5_31 rfl ?_
  intro h217 W218 A219
  have f221 := f213.wr W218 (Or.inl (oT 0 rfl))
  have f222 := f214.wr W218
  have f223 := f215.wr W218
  have f224 := f216.other W218 (ne_exa f215 f214 (by decide))
  replace A219 : Arv Z h217 b k .byte (32 : Int32) [(.int (oB x0)), (.int (oB x1)), (.int (oB x2)), (.int (oB x3)), (.int (oB x4)), (.int (oB x5)), (.int (oB x6)), (.int (oB x7)), (.int (oB x8)), (.int (oB x9)), (.int (oB x10)), (.int (oB x11)), (.int (oB x12)), (.int (oB x13)), (.int (oB x14)), (.int (oB x15)), (.int (oB x16)), (.int (oB x17)), (.int (oB x18)), (.int (oB x19)), (.int (oB x20)), (.int (oB x21)), (.int (oB x22)), (.int (oB x23)), (.int (oB x24)), (.int (oB x25)), (.int (oB x26)), (.int (oB x27)), oZ, oZ, oZ, oZ] oZ := A219
  refine Rn.iinc K (q := 35) (Ls' := #[.val (.ref c), .val (.int (28 : Int32)), .val (.ref b), .val (.int (27 : Int32)), .val (.int (32 : Int32)), .val (.int (27 : Int32)), .val (.int x27)]) (1 : Int32) d5_32 rfl rfl rfl rfl ?_
  refine Rn.iinc K (q := 38) (Ls' := #[.val (.ref c), .val (.int (28 : Int32)), .val (.ref b), .val (.int (28 : Int32)), .val (.int (32 : Int32)), .val (.int (27 : Int32)), .val (.int x27)]) (1 : Int32) d5_35 rfl rfl rfl rfl ?_
  refine Rn.iinc K (q := 41) (Ls' := #[.val (.ref c), .val (.int (28 : Int32)), .val (.ref b), .val (.int (28 : Int32)), .val (.int (32 : Int32)), .val (.int (28 : Int32)), .val (.int x27)]) (1 : Int32) d5_38 rfl rfl rfl rfl ?_
  refine Rn.goto K (q := 3) d5_41 (by decide) (by decide) ?_
  refine Rn.iload K (q := 5) d5_3 rfl rfl ?_
  refine Rn.iload K (q := 7) d5_5 rfl rfl ?_
  refine Rn.icN K (q := 10) d5_7 (XT.ii_ge_f (by decide)) rfl ?_
  refine Rn.aloadN K (q := 11) d5_10 rfl rfl rfl ?_
  refine Rn.iloadN K (q := 12) d5_11 rfl rfl ?_
  refine Rn.caload K (q := 13) (v := (.int x28)) f224 (by decide) rfl d5_12 rfl ?_
  refine Rn.istore K (q := 15) (Ls' := #[.val (.ref c), .val (.int (28 : Int32)), .val (.ref b), .val (.int (28 : Int32)), .val (.int (32 : Int32)), .val (.int (28 : Int32)), .val (.int x28)]) d5_13 rfl rfl ?_
  refine Rn.iload K (q := 17) d5_15 rfl rfl ?_
  refine Rn.sipush K (q := 20) (255 : Int32) d5_17 rfl rfl ?_
  refine Rn.icY K (q := 26) d5_20 (XT.ii_le_t hx28) (by decide) (by decide) ?_
  refine Rn.aloadN K (q := 27) d5_26 rfl rfl rfl ?_
  refine Rn.iloadN K (q := 28) d5_27 rfl rfl ?_
  refine Rn.iload K (q := 30) d5_28 rfl rfl ?_
  refine Rn.i2b K (q := 31) d5_30 rfl ?_
  refine Rn.bastoreB K (q := 32) (i := 28) A219 (by decide) rfl (oL rfl) gb d5_31 rfl ?_
  intro h225 W226 A227
  have f229 := f221.wr W226 (Or.inl (oT 0 rfl))
  have f230 := f222.wr W226
  have f231 := f223.wr W226
  have f232 := f224.other W226 (ne_exa f223 f222 (by decide))
  replace A227 : Arv Z h225 b k .byte (32 : Int32) [(.int (oB x0)), (.int (oB x1)), (.int (oB x2)), (.int (oB x3)), (.int (oB x4)), (.int (oB x5)), (.int (oB x6)), (.int (oB x7)), (.int (oB x8)), (.int (oB x9)), (.int (oB x10)), (.int (oB x11)), (.int (oB x12)), (.int (oB x13)), (.int (oB x14)), (.int (oB x15)), (.int (oB x16)), (.int (oB x17)), (.int (oB x18)), (.int (oB x19)), (.int (oB x20)), (.int (oB x21)), (.int (oB x22)), (.int (oB x23)), (.int (oB x24)), (.int (oB x25)), (.int (oB x26)), (.int (oB x27)), (.int (oB x28)), oZ, oZ, oZ] oZ := A227
  refine Rn.iinc K (q := 35) (Ls' := #[.val (.ref c), .val (.int (29 : Int32)), .val (.ref b), .val (.int (28 : Int32)), .val (.int (32 : Int32)), .val (.int (28 : Int32)), .val (.int x28)]) (1 : Int32) d5_32 rfl rfl rfl rfl ?_
  refine Rn.iinc K (q := 38) (Ls' := #[.val (.ref c), .val (.int (29 : Int32)), .val (.ref b), .val (.int (29 : Int32)), .val (.int (32 : Int32)), .val (.int (28 : Int32)), .val (.int x28)]) (1 : Int32) d5_35 rfl rfl rfl rfl ?_
  refine Rn.iinc K (q := 41) (Ls' := #[.val (.ref c), .val (.int (29 : Int32)), .val (.ref b), .val (.int (29 : Int32)), .val (.int (32 : Int32)), .val (.int (29 : Int32)), .val (.int x28)]) (1 : Int32) d5_38 rfl rfl rfl rfl ?_
  refine Rn.goto K (q := 3) d5_41 (by decide) (by decide) ?_
  refine Rn.iload K (q := 5) d5_3 rfl rfl ?_
  refine Rn.iload K (q := 7) d5_5 rfl rfl ?_
  refine Rn.icN K (q := 10) d5_7 (XT.ii_ge_f (by decide)) rfl ?_
  refine Rn.aloadN K (q := 11) d5_10 rfl rfl rfl ?_
  refine Rn.iloadN K (q := 12) d5_11 rfl rfl ?_
  refine Rn.caload K (q := 13) (v := (.int x29)) f232 (by decide) rfl d5_12 rfl ?_
  refine Rn.istore K (q := 15) (Ls' := #[.val (.ref c), .val (.int (29 : Int32)), .val (.ref b), .val (.int (29 : Int32)), .val (.int (32 : Int32)), .val (.int (29 : Int32)), .val (.int x29)]) d5_13 rfl rfl ?_
  refine Rn.iload K (q := 17) d5_15 rfl rfl ?_
  refine Rn.sipush K (q := 20) (255 : Int32) d5_17 rfl rfl ?_
  refine Rn.icY K (q := 26) d5_20 (XT.ii_le_t hx29) (by decide) (by decide) ?_
  refine Rn.aloadN K (q := 27) d5_26 rfl rfl rfl ?_
  refine Rn.iloadN K (q := 28) d5_27 rfl rfl ?_
  refine Rn.iload K (q := 30) d5_28 rfl rfl ?_
  refine Rn.i2b K (q := 31) d5_30 rfl ?_
  refine Rn.bastoreB K (q := 32) (i := 29) A227 (by decide) rfl (oL rfl) gb d5_31 rfl ?_
  intro h233 W234 A235
  have f237 := f229.wr W234 (Or.inl (oT 0 rfl))
  have f238 := f230.wr W234
  have f239 := f231.wr W234
  have f240 := f232.other W234 (ne_exa f231 f230 (by decide))
  replace A235 : Arv Z h233 b k .byte (32 : Int32) [(.int (oB x0)), (.int (oB x1)), (.int (oB x2)), (.int (oB x3)), (.int (oB x4)), (.int (oB x5)), (.int (oB x6)), (.int (oB x7)), (.int (oB x8)), (.int (oB x9)), (.int (oB x10)), (.int (oB x11)), (.int (oB x12)), (.int (oB x13)), (.int (oB x14)), (.int (oB x15)), (.int (oB x16)), (.int (oB x17)), (.int (oB x18)), (.int (oB x19)), (.int (oB x20)), (.int (oB x21)), (.int (oB x22)), (.int (oB x23)), (.int (oB x24)), (.int (oB x25)), (.int (oB x26)), (.int (oB x27)), (.int (oB x28)), (.int (oB x29)), oZ, oZ] oZ := A235
  refine Rn.iinc K (q := 35) (Ls' := #[.val (.ref c), .val (.int (30 : Int32)), .val (.ref b), .val (.int (29 : Int32)), .val (.int (32 : Int32)), .val (.int (29 : Int32)), .val (.int x29)]) (1 : Int32) d5_32 rfl rfl rfl rfl ?_
  refine Rn.iinc K (q := 38) (Ls' := #[.val (.ref c), .val (.int (30 : Int32)), .val (.ref b), .val (.int (30 : Int32)), .val (.int (32 : Int32)), .val (.int (29 : Int32)), .val (.int x29)]) (1 : Int32) d5_35 rfl rfl rfl rfl ?_
  refine Rn.iinc K (q := 41) (Ls' := #[.val (.ref c), .val (.int (30 : Int32)), .val (.ref b), .val (.int (30 : Int32)), .val (.int (32 : Int32)), .val (.int (30 : Int32)), .val (.int x29)]) (1 : Int32) d5_38 rfl rfl rfl rfl ?_
  refine Rn.goto K (q := 3) d5_41 (by decide) (by decide) ?_
  refine Rn.iload K (q := 5) d5_3 rfl rfl ?_
  refine Rn.iload K (q := 7) d5_5 rfl rfl ?_
  refine Rn.icN K (q := 10) d5_7 (XT.ii_ge_f (by decide)) rfl ?_
  refine Rn.aloadN K (q := 11) d5_10 rfl rfl rfl ?_
  refine Rn.iloadN K (q := 12) d5_11 rfl rfl ?_
  refine Rn.caload K (q := 13) (v := (.int x30)) f240 (by decide) rfl d5_12 rfl ?_
  refine Rn.istore K (q := 15) (Ls' := #[.val (.ref c), .val (.int (30 : Int32)), .val (.ref b), .val (.int (30 : Int32)), .val (.int (32 : Int32)), .val (.int (30 : Int32)), .val (.int x30)]) d5_13 rfl rfl ?_
  refine Rn.iload K (q := 17) d5_15 rfl rfl ?_
  refine Rn.sipush K (q := 20) (255 : Int32) d5_17 rfl rfl ?_
  refine Rn.icY K (q := 26) d5_20 (XT.ii_le_t hx30) (by decide) (by decide) ?_
  refine Rn.aloadN K (q := 27) d5_26 rfl rfl rfl ?_
  refine Rn.iloadN K (q := 28) d5_27 rfl rfl ?_
  refine Rn.iload K (q := 30) d5_28 rfl rfl ?_
  refine Rn.i2b K (q := 31) d5_30 rfl ?_
  refine Rn.bastoreB K (q := 32) (i := 30) A235 (by decide) rfl (oL rfl) gb d5_31 rfl ?_
  intro h241 W242 A243
  have f245 := f237.wr W242 (Or.inl (oT 0 rfl))
  have f248 := f240.other W242 (ne_exa f239 f238 (by decide))
  replace A243 : Arv Z h241 b k .byte (32 : Int32) [(.int (oB x0)), (.int (oB x1)), (.int (oB x2)), (.int (oB x3)), (.int (oB x4)), (.int (oB x5)), (.int (oB x6)), (.int (oB x7)), (.int (oB x8)), (.int (oB x9)), (.int (oB x10)), (.int (oB x11)), (.int (oB x12)), (.int (oB x13)), (.int (oB x14)), (.int (oB x15)), (.int (oB x16)), (.int (oB x17)), (.int (oB x18)), (.int (oB x19)), (.int (oB x20)), (.int (oB x21)), (.int (oB x22)), (.int (oB x23)), (.int (oB x24)), (.int (oB x25)), (.int (oB x26)), (.int (oB x27)), (.int (oB x28)), (.int (oB x29)), (.int (oB x30)), oZ] oZ := A243
  refine Rn.iinc K (q := 35) (Ls' := #[.val (.ref c), .val (.int (31 : Int32)), .val (.ref b), .val (.int (30 : Int32)), .val (.int (32 : Int32)), .val (.int (30 : Int32)), .val (.int x30)]) (1 : Int32) d5_32 rfl rfl rfl rfl ?_
  refine Rn.iinc K (q := 38) (Ls' := #[.val (.ref c), .val (.int (31 : Int32)), .val (.ref b), .val (.int (31 : Int32)), .val (.int (32 : Int32)), .val (.int (30 : Int32)), .val (.int x30)]) (1 : Int32) d5_35 rfl rfl rfl rfl ?_
  refine Rn.iinc K (q := 41) (Ls' := #[.val (.ref c), .val (.int (31 : Int32)), .val (.ref b), .val (.int (31 : Int32)), .val (.int (32 : Int32)), .val (.int (31 : Int32)), .val (.int x30)]) (1 : Int32) d5_38 rfl rfl rfl rfl ?_
  refine Rn.goto K (q := 3) d5_41 (by decide) (by decide) ?_
  refine Rn.iload K (q := 5) d5_3 rfl rfl ?_
  refine Rn.iload K (q := 7) d5_5 rfl rfl ?_
  refine Rn.icN K (q := 10) d5_7 (XT.ii_ge_f (by decide)) rfl ?_
  refine Rn.aloadN K (q := 11) d5_10 rfl rfl rfl ?_
  refine Rn.iloadN K (q := 12) d5_11 rfl rfl ?_
  refine Rn.caload K (q := 13) (v := (.int x31)) f248 (by decide) rfl d5_12 rfl ?_
  refine Rn.istore K (q := 15) (Ls' := #[.val (.ref c), .val (.int (31 : Int32)), .val (.ref b), .val (.int (31 : Int32)), .val (.int (32 : Int32)), .val (.int (31 : Int32)), .val (.int x31)]) d5_13 rfl rfl ?_
  refine Rn.iload K (q := 17) d5_15 rfl rfl ?_
  refine Rn.sipush K (q := 20) (255 : Int32) d5_17 rfl rfl ?_
  refine Rn.icY K (q := 26) d5_20 (XT.ii_le_t hx31) (by decide) (by decide) ?_
  refine Rn.aloadN K (q := 27) d5_26 rfl rfl rfl ?_
  refine Rn.iloadN K (q := 28) d5_27 rfl rfl ?_
  refine Rn.iload K (q := 30) d5_28 rfl rfl ?_
  refine Rn.i2b K (q := 31) d5_30 rfl ?_
  refine Rn.bastoreB K (q := 32) (i := 31) A243 (by decide) rfl (oL rfl) gb d5_31 rfl ?_
  intro h249 W250 A251
  have f253 := f245.wr W250 (Or.inl (oT 0 rfl))
  replace A251 : Arv Z h249 b k .byte (32 : Int32) [(.int (oB x0)), (.int (oB x1)), (.int (oB x2)), (.int (oB x3)), (.int (oB x4)), (.int (oB x5)), (.int (oB x6)), (.int (oB x7)), (.int (oB x8)), (.int (oB x9)), (.int (oB x10)), (.int (oB x11)), (.int (oB x12)), (.int (oB x13)), (.int (oB x14)), (.int (oB x15)), (.int (oB x16)), (.int (oB x17)), (.int (oB x18)), (.int (oB x19)), (.int (oB x20)), (.int (oB x21)), (.int (oB x22)), (.int (oB x23)), (.int (oB x24)), (.int (oB x25)), (.int (oB x26)), (.int (oB x27)), (.int (oB x28)), (.int (oB x29)), (.int (oB x30)), (.int (oB x31))] oZ := A251
  refine Rn.iinc K (q := 35) (Ls' := #[.val (.ref c), .val (.int (32 : Int32)), .val (.ref b), .val (.int (31 : Int32)), .val (.int (32 : Int32)), .val (.int (31 : Int32)), .val (.int x31)]) (1 : Int32) d5_32 rfl rfl rfl rfl ?_
  refine Rn.iinc K (q := 38) (Ls' := #[.val (.ref c), .val (.int (32 : Int32)), .val (.ref b), .val (.int (32 : Int32)), .val (.int (32 : Int32)), .val (.int (31 : Int32)), .val (.int x31)]) (1 : Int32) d5_35 rfl rfl rfl rfl ?_
  refine Rn.iinc K (q := 41) (Ls' := #[.val (.ref c), .val (.int (32 : Int32)), .val (.ref b), .val (.int (32 : Int32)), .val (.int (32 : Int32)), .val (.int (32 : Int32)), .val (.int x31)]) (1 : Int32) d5_38 rfl rfl rfl rfl ?_
  refine Rn.goto K (q := 3) d5_41 (by decide) (by decide) ?_
  refine Rn.iload K (q := 5) d5_3 rfl rfl ?_
  refine Rn.iload K (q := 7) d5_5 rfl rfl ?_
  refine Rn.icY K (q := 44) d5_7 (XT.ii_ge_t (by decide)) (by decide) (by decide) ?_
  refine Rn.iload K (q := 46) d5_44 rfl rfl ?_
  exact Rn.retI K rfl d5_46 (by decide) (by decide) ⟨rfl, f253, A251⟩
theorem m_cp32 (l : Launch) (Z : State) (a0 : Array Value) (hw : oH Z a0) (n0 : Nat) (h0 : Heap) (c : Addr) (kc : ClassId) (x0 x1 x2 x3 x4 x5 x6 x7 x8 x9 x10 x11 x12 x13 x14 x15 x16 x17 x18 x19 x20 x21 x22 x23 x24 x25 x26 x27 x28 x29 x30 x31 : Int32) (X0 : Old Z n0 h0) (Ec : Exa Z h0 c "[C") (Ac : Arv Z h0 c kc .char (32 : Int32) [(.int x0), (.int x1), (.int x2), (.int x3), (.int x4), (.int x5), (.int x6), (.int x7), (.int x8), (.int x9), (.int x10), (.int x11), (.int x12), (.int x13), (.int x14), (.int x15), (.int x16), (.int x17), (.int x18), (.int x19), (.int x20), (.int x21), (.int x22), (.int x23), (.int x24), (.int x25), (.int x26), (.int x27), (.int x28), (.int x29), (.int x30), (.int x31)] oZ) (hx0 : ¬ (255 : Int32) < x0) (hx1 : ¬ (255 : Int32) < x1) (hx2 : ¬ (255 : Int32) < x2) (hx3 : ¬ (255 : Int32) < x3) (hx4 : ¬ (255 : Int32) < x4) (hx5 : ¬ (255 : Int32) < x5) (hx6 : ¬ (255 : Int32) < x6) (hx7 : ¬ (255 : Int32) < x7) (hx8 : ¬ (255 : Int32) < x8) (hx9 : ¬ (255 : Int32) < x9) (hx10 : ¬ (255 : Int32) < x10) (hx11 : ¬ (255 : Int32) < x11) (hx12 : ¬ (255 : Int32) < x12) (hx13 : ¬ (255 : Int32) < x13) (hx14 : ¬ (255 : Int32) < x14) (hx15 : ¬ (255 : Int32) < x15) (hx16 : ¬ (255 : Int32) < x16) (hx17 : ¬ (255 : Int32) < x17) (hx18 : ¬ (255 : Int32) < x18) (hx19 : ¬ (255 : Int32) < x19) (hx20 : ¬ (255 : Int32) < x20) (hx21 : ¬ (255 : Int32) < x21) (hx22 : ¬ (255 : Int32) < x22) (hx23 : ¬ (255 : Int32) < x23) (hx24 : ¬ (255 : Int32) < x24) (hx25 : ¬ (255 : Int32) < x25) (hx26 : ¬ (255 : Int32) < x26) (hx27 : ¬ (255 : Int32) < x27) (hx28 : ¬ (255 : Int32) < x28) (hx29 : ¬ (255 : Int32) < x29) (hx30 : ¬ (255 : Int32) < x30) (hx31 : ¬ (255 : Int32) < x31) :
    Met l Z oM5 oC5 6 (some (.array .byte)) (oR 1 1 32 18) n0 [] #[(.ref c), oZ, (.int (32 : Int32))] h0 (fun v h => ∃ b k, v = some (.ref b) ∧ Keep h0 h [] ∧ Exa Z h b "[B" ∧ Arv Z h b k .byte (32 : Int32) [(.int (oB x0)), (.int (oB x1)), (.int (oB x2)), (.int (oB x3)), (.int (oB x4)), (.int (oB x5)), (.int (oB x6)), (.int (oB x7)), (.int (oB x8)), (.int (oB x9)), (.int (oB x10)), (.int (oB x11)), (.int (oB x12)), (.int (oB x13)), (.int (oB x14)), (.int (oB x15)), (.int (oB x16)), (.int (oB x17)), (.int (oB x18)), (.int (oB x19)), (.int (oB x20)), (.int (oB x21)), (.int (oB x22)), (.int (oB x23)), (.int (oB x24)), (.int (oB x25)), (.int (oB x26)), (.int (oB x27)), (.int (oB x28)), (.int (oB x29)), (.int (oB x30)), (.int (oB x31))] oZ) := by
  refine Met.intro (Ls := #[.val (.ref c), .val oZ, .val (.int (32 : Int32)), .unset, .unset, .unset]) (plainFor_of_name pn_m_cpr2) hw (fun _ => rfl) ?_
  intro w K0
  have K : oK5 w Z a0 := K0
  have K1 := Keep.refl h0 []
  refine Rn.iloadN K (q := 1) d4_0 rfl rfl ?_
  refine Rn.newP K (q := 3) (cap := 32) (oT 19 rfl) (by decide) (by decide) (by decide) (by decide) (by decide) (ad := "[B") (by decide) d4_1 rfl ?_
  intro b1 h2 k4 gb1_ X3 A_b1 EA_b1
  have ne_c_b1 : c ≠ b1 := fun e => absurd Ec.lt (by rw [e, gb1_]; exact Nat.lt_irrefl _)
  have ne_c_b1 : c ≠ b1 := fun e => absurd Ec.lt (by rw [e, gb1_]; exact Nat.lt_irrefl _)
  have g_b1 : n0 ≤ b1 := by rw [gb1_]; exact X0.1 ▸ X0.2.1
  have sz_b1 : h0.size ≤ b1 := by rw [gb1_]; exact K1.1
  have f5 := X0.ext X3
  have f6 := K1.ext X3
  have f7 := Ec.ext X3
  have f8 := Ac.ext X3
  replace A_b1 : Arv Z h2 b1 k4 .byte (32 : Int32) [oZ, oZ, oZ, oZ, oZ, oZ, oZ, oZ, oZ, oZ, oZ, oZ, oZ, oZ, oZ, oZ, oZ, oZ, oZ, oZ, oZ, oZ, oZ, oZ, oZ, oZ, oZ, oZ, oZ, oZ, oZ, oZ] oZ := A_b1.pad (pad_rep [] oZ 32)
  show Rn w l _ n0 _ 3 _ [(.ref b1)] h2 1 32
  refine Rn.astoreN K (q := 4) (Ls' := #[.val (.ref c), .val oZ, .val (.int (32 : Int32)), .val (.ref b1), .unset, .unset]) d4_3 rfl rfl rfl ?_
  refine Rn.aloadN K (q := 5) d4_4 rfl rfl rfl ?_
  refine Rn.iloadN K (q := 6) d4_5 rfl rfl ?_
  refine Rn.aloadN K (q := 7) d4_6 rfl rfl rfl ?_
  refine Rn.iconst K (q := 8) (0 : Int32) d4_7 rfl rfl ?_
  refine Rn.iloadN K (q := 9) d4_8 rfl rfl ?_
  refine Rn.stat K (q := 12) (W := 0) (y := oM4) (argsL := [(.ref c), oZ, (.ref b1), oZ, (.int (32 : Int32))]) (rest := []) (oT 20 rfl) (oT 21 rfl) (oT 22 rfl) (oT 17 rfl) (by decide) (m_cpr32 l Z a0 hw n0 h2 c b1 kc k4 x0 x1 x2 x3 x4 x5 x6 x7 x8 x9 x10 x11 x12 x13 x14 x15 x16 x17 x18 x19 x20 x21 x22 x23 x24 x25 x26 x27 x28 x29 x30 x31 f5 f7 f8 EA_b1 A_b1 g_b1 hx0 hx1 hx2 hx3 hx4 hx5 hx6 hx7 hx8 hx9 hx10 hx11 hx12 hx13 hx14 hx15 hx16 hx17 hx18 hx19 hx20 hx21 hx22 hx23 hx24 hx25 hx26 hx27 hx28 hx29 hx30 hx31) (by decide) (by decide) rfl (lenOf pd_2 rfl) rfl (oL rfl) d4_9 rfl (by decide) (by decide) ?_
  rintro _ h9 ⟨rfl, K10, A11⟩
  have f13 := f6.trans K10 (allS (Or.inr sz_b1) all0)
  have f16 := EA_b1.keep K10
  show Rn w l _ n0 _ 12 _ [(.int (32 : Int32))] h9 1 32
  refine Rn.istore K (q := 14) (Ls' := #[.val (.ref c), .val oZ, .val (.int (32 : Int32)), .val (.ref b1), .val (.int (32 : Int32)), .unset]) d4_12 rfl rfl ?_
  refine Rn.iload K (q := 16) d4_14 rfl rfl ?_
  refine Rn.iloadN K (q := 17) d4_16 rfl rfl ?_
  refine Rn.icY K (q := 57) d4_17 (XT.ii_eq_t rfl) (by decide) (by decide) ?_
  refine Rn.aloadN K (q := 58) d4_57 rfl rfl rfl ?_
  exact Rn.retA K (.array .byte) rfl rfl rfl d4_58 (by decide) (by decide) ⟨_, _, rfl, f13, f16, A11⟩
theorem m_cfl32 (l : Launch) (Z : State) (a0 : Array Value) (hw : oH Z a0) (n0 : Nat) (h0 : Heap) (b : Addr) (k : ClassId) (x0 x1 x2 x3 x4 x5 x6 x7 x8 x9 x10 x11 x12 x13 x14 x15 x16 x17 x18 x19 x20 x21 x22 x23 x24 x25 x26 x27 x28 x29 x30 x31 : Int32) (X0 : Old Z n0 h0) (Ab : Arv Z h0 b k .byte (32 : Int32) [(.int (oB x0)), (.int (oB x1)), (.int (oB x2)), (.int (oB x3)), (.int (oB x4)), (.int (oB x5)), (.int (oB x6)), (.int (oB x7)), (.int (oB x8)), (.int (oB x9)), (.int (oB x10)), (.int (oB x11)), (.int (oB x12)), (.int (oB x13)), (.int (oB x14)), (.int (oB x15)), (.int (oB x16)), (.int (oB x17)), (.int (oB x18)), (.int (oB x19)), (.int (oB x20)), (.int (oB x21)), (.int (oB x22)), (.int (oB x23)), (.int (oB x24)), (.int (oB x25)), (.int (oB x26)), (.int (oB x27)), (.int (oB x28)), (.int (oB x29)), (.int (oB x30)), (.int (oB x31))] oZ) :
    Met l Z oM6 oC6 2 (some .byte) (oR 0 0 0 0) n0 [] #[(.ref b), (.int (32 : Int32))] h0 (fun v h => v = some (.int (0 : Int32)) ∧ h0 = h) := by
  refine Met.intro (Ls := #[.val (.ref b), .val (.int (32 : Int32))]) (plainFor_of_name pn_m_cpr2) hw (fun _ => rfl) ?_
  intro w K0
  have K : oK6 w Z a0 := K0
  refine Rn.iloadN K (q := 1) d6_0 rfl rfl ?_
  refine Rn.aloadN K (q := 2) d6_1 rfl rfl rfl ?_
  refine Rn.arraylength K (q := 3) Ab d6_2 rfl ?_
  refine Rn.isub K (q := 4) d6_3 rfl ?_
  show Rn w l _ n0 _ 4 _ [oZ] h0 0 0
  refine Rn.bipush K (q := 6) (31 : Int32) d6_4 rfl rfl ?_
  refine Rn.iushr K (q := 7) d6_6 rfl ?_
  refine Rn.i2b K (q := 8) d6_7 rfl ?_
  exact Rn.retN K .byte rfl (by simp) d6_8 (by decide) (by decide) ⟨by rw [show nar .byte (((0 : Int32).toUInt32 >>> ((31 : Int32) &&& 31).toUInt32).toInt32).toInt8.toInt32 = 0 from by decide], rfl⟩
theorem m_iv32 (l : Launch) (Z : State) (a0 : Array Value) (hw : oH Z a0) (n0 : Nat) (h0 : Heap) (s c : Addr) (kc : ClassId) (x0 x1 x2 x3 x4 x5 x6 x7 x8 x9 x10 x11 x12 x13 x14 x15 x16 x17 x18 x19 x20 x21 x22 x23 x24 x25 x26 x27 x28 x29 x30 x31 : Int32) (cst : Int32) (X0 : Old Z n0 h0) (SC : oSC Z cst) (hcs : ¬ cst = 0) (Es : Exa Z h0 s "java/lang/String") (gs : n0 ≤ s) (Fv : Fld Z h0 s "java/lang/String" "value" "[B" .null) (Fc : Fld Z h0 s "java/lang/String" "coder" "B" (.int (0 : Int32))) (Ec : Exa Z h0 c "[C") (Ac : Arv Z h0 c kc .char (32 : Int32) [(.int x0), (.int x1), (.int x2), (.int x3), (.int x4), (.int x5), (.int x6), (.int x7), (.int x8), (.int x9), (.int x10), (.int x11), (.int x12), (.int x13), (.int x14), (.int x15), (.int x16), (.int x17), (.int x18), (.int x19), (.int x20), (.int x21), (.int x22), (.int x23), (.int x24), (.int x25), (.int x26), (.int x27), (.int x28), (.int x29), (.int x30), (.int x31)] oZ) (hx0 : ¬ (255 : Int32) < x0) (hx1 : ¬ (255 : Int32) < x1) (hx2 : ¬ (255 : Int32) < x2) (hx3 : ¬ (255 : Int32) < x3) (hx4 : ¬ (255 : Int32) < x4) (hx5 : ¬ (255 : Int32) < x5) (hx6 : ¬ (255 : Int32) < x6) (hx7 : ¬ (255 : Int32) < x7) (hx8 : ¬ (255 : Int32) < x8) (hx9 : ¬ (255 : Int32) < x9) (hx10 : ¬ (255 : Int32) < x10) (hx11 : ¬ (255 : Int32) < x11) (hx12 : ¬ (255 : Int32) < x12) (hx13 : ¬ (255 : Int32) < x13) (hx14 : ¬ (255 : Int32) < x14) (hx15 : ¬ (255 : Int32) < x15) (hx16 : ¬ (255 : Int32) < x16) (hx17 : ¬ (255 : Int32) < x17) (hx18 : ¬ (255 : Int32) < x18) (hx19 : ¬ (255 : Int32) < x19) (hx20 : ¬ (255 : Int32) < x20) (hx21 : ¬ (255 : Int32) < x21) (hx22 : ¬ (255 : Int32) < x22) (hx23 : ¬ (255 : Int32) < x23) (hx24 : ¬ (255 : Int32) < x24) (hx25 : ¬ (255 : Int32) < x25) (hx26 : ¬ (255 : Int32) < x26) (hx27 : ¬ (255 : Int32) < x27) (hx28 : ¬ (255 : Int32) < x28) (hx29 : ¬ (255 : Int32) < x29) (hx30 : ¬ (255 : Int32) < x30) (hx31 : ¬ (255 : Int32) < x31) :
    Met l Z oM7 oC7 6 none (oR 2 1 32 36) n0 [] #[(.ref s), (.ref c), oZ, (.int (32 : Int32)), .null] h0 (fun r h => r = none ∧ Keep h0 h [s] ∧ ∃ v k, Fld Z h s "java/lang/String" "value" "[B" (.ref v) ∧ Fld Z h s "java/lang/String" "coder" "B" (.int (0 : Int32)) ∧ Exa Z h v "[B" ∧ Arv Z h v k .byte (32 : Int32) [(.int (oB x0)), (.int (oB x1)), (.int (oB x2)), (.int (oB x3)), (.int (oB x4)), (.int (oB x5)), (.int (oB x6)), (.int (oB x7)), (.int (oB x8)), (.int (oB x9)), (.int (oB x10)), (.int (oB x11)), (.int (oB x12)), (.int (oB x13)), (.int (oB x14)), (.int (oB x15)), (.int (oB x16)), (.int (oB x17)), (.int (oB x18)), (.int (oB x19)), (.int (oB x20)), (.int (oB x21)), (.int (oB x22)), (.int (oB x23)), (.int (oB x24)), (.int (oB x25)), (.int (oB x26)), (.int (oB x27)), (.int (oB x28)), (.int (oB x29)), (.int (oB x30)), (.int (oB x31))] oZ) := by
  refine Met.intro (Ls := #[.val (.ref s), .val (.ref c), .val oZ, .val (.int (32 : Int32)), .val .null, .unset]) (plainFor_of_name pn_m_coder) hw (fun _ => rfl) ?_
  intro w K0
  have K : oK7 w Z a0 := K0
  have K1 := Keep.refl h0 [s]
  refine Rn.aloadN K (q := 1) d2_0 rfl rfl rfl ?_
  refine Rn.initO K (q := 4) (W := 0) (oT 11 rfl) (oT 12 rfl) (oT 13 rfl) (by decide) (by decide) rfl (oL rfl) d2_1 rfl ?_
  refine Rn.iloadN K (q := 5) d2_4 rfl rfl ?_
  refine Rn.ifY K (q := 27) d2_5 (XT.i0_ne_t (by decide)) (by decide) (by decide) ?_
  refine Rn.getS K (q := 30) (oT 14 rfl) (SC.ext X0.2) d2_27 rfl ?_
  refine Rn.ifN K (q := 33) d2_30 (XT.i0_eq_f hcs) rfl ?_
  refine Rn.aloadN K (q := 34) d2_33 rfl rfl rfl ?_
  refine Rn.iloadN K (q := 35) d2_34 rfl rfl ?_
  refine Rn.iloadN K (q := 36) d2_35 rfl rfl ?_
  refine Rn.stat K (q := 39) (W := 0) (y := oM5) (argsL := [(.ref c), oZ, (.int (32 : Int32))]) (rest := []) (oT 15 rfl) (oT 16 rfl) (oT 18 rfl) (oT 17 rfl) (by decide) (m_cp32 l Z a0 hw n0 h0 c kc x0 x1 x2 x3 x4 x5 x6 x7 x8 x9 x10 x11 x12 x13 x14 x15 x16 x17 x18 x19 x20 x21 x22 x23 x24 x25 x26 x27 x28 x29 x30 x31 X0 Ec Ac hx0 hx1 hx2 hx3 hx4 hx5 hx6 hx7 hx8 hx9 hx10 hx11 hx12 hx13 hx14 hx15 hx16 hx17 hx18 hx19 hx20 hx21 hx22 hx23 hx24 hx25 hx26 hx27 hx28 hx29 hx30 hx31) (by decide) (by decide) rfl (lenOf pd_3 rfl) rfl (oL rfl) d2_36 rfl (by decide) (by decide) ?_
  rintro _ h1 ⟨v, k, rfl, K2, E3, A4⟩
  have f5 := X0.keep K2 all0
  have f6 := K1.trans K2 all0
  have f7 := Es.keep K2
  have f8 := Fv.keep K2 nin0
  have f9 := Fc.keep K2 nin0
  show Rn w l _ n0 _ 39 _ [(.ref v)] h1 1 32
  refine Rn.astore K (q := 41) (Ls' := #[.val (.ref s), .val (.ref c), .val oZ, .val (.int (32 : Int32)), .val .null, .val (.ref v)]) d2_39 rfl rfl rfl ?_
  refine Rn.aloadN K (q := 42) d2_41 rfl rfl rfl ?_
  refine Rn.aload K (q := 44) d2_42 rfl rfl rfl ?_
  refine Rn.iloadN K (q := 45) d2_44 rfl rfl ?_
  refine Rn.stat K (q := 48) (W := 1) (y := oM6) (argsL := [(.ref v), (.int (32 : Int32))]) (rest := [(.ref s)]) (oT 23 rfl) (oT 24 rfl) (oT 25 rfl) (oT 17 rfl) (by decide) (m_cfl32 l Z a0 hw n0 h1 v k x0 x1 x2 x3 x4 x5 x6 x7 x8 x9 x10 x11 x12 x13 x14 x15 x16 x17 x18 x19 x20 x21 x22 x23 x24 x25 x26 x27 x28 x29 x30 x31 f5 A4) (by decide) (by decide) rfl (lenOf pd_4 rfl) rfl (oL rfl) d2_45 rfl (by decide) (by decide) ?_
  rintro _ _ ⟨rfl, rfl⟩
  show Rn w l _ n0 _ 48 _ [oZ, (.ref s)] h1 1 32
  refine Rn.putF K (q := 51) (ty := .byte) (v' := .int (nar .byte (0 : Int32))) (oT 26 rfl) Via.refl f9 f7 (Or.inr ⟨(oT 27 rfl), rfl, rfl⟩) (oT 1 rfl) (by decide) rfl (fits_nar_byte _) gs d2_48 rfl ?_
  intro h12 W13
  have f15 := f6.wr W13 (Or.inl (oT 0 rfl))
  have f16 := f7.wr W13
  have f17 := Fld.other W13 f8 (Or.inr (slot_ne (Or.inr (K.hw _ (oT 29 rfl))) (Or.inr (K.hw _ (oT 27 rfl))) (by decide) (t := (.array .byte)) (t' := .byte) (by decide) (by decide)))
  have f18 := Fld.same W13 f9
  have f21 := E3.wr W13
  have f22 := A4.other W13 (ne_exa E3 f7 (by decide))
  refine Rn.aloadN K (q := 52) d2_51 rfl rfl rfl ?_
  refine Rn.aload K (q := 54) d2_52 rfl rfl rfl ?_
  refine Rn.putF K (q := 57) (ty := (.array .byte)) (oT 28 rfl) Via.refl f17 f16 (Or.inr ⟨(oT 29 rfl), rfl, rfl⟩) (oT 1 rfl) (by decide) rfl rfl gs d2_54 rfl ?_
  intro h23 W24
  have f26 := f15.wr W24 (Or.inl (oT 0 rfl))
  have f28 := Fld.same W24 f17
  have f29 := Fld.other W24 f18 (Or.inr (slot_ne (Or.inr (K.hw _ (oT 27 rfl))) (Or.inr (K.hw _ (oT 29 rfl))) (by decide) (t := .byte) (t' := (.array .byte)) (by decide) (by decide)))
  have f32 := f21.wr W24
  have f33 := f22.other W24 (ne_exa f21 f16 (by decide))
  exact Rn.retV K rfl d2_57 (by decide) (by decide) ⟨rfl, f26, _, _, f28, f29, f32, f33⟩
theorem m_ic32 (l : Launch) (Z : State) (a0 : Array Value) (hw : oH Z a0) (n0 : Nat) (h0 : Heap) (s c : Addr) (kc : ClassId) (x0 x1 x2 x3 x4 x5 x6 x7 x8 x9 x10 x11 x12 x13 x14 x15 x16 x17 x18 x19 x20 x21 x22 x23 x24 x25 x26 x27 x28 x29 x30 x31 : Int32) (cst : Int32) (X0 : Old Z n0 h0) (SC : oSC Z cst) (hcs : ¬ cst = 0) (Es : Exa Z h0 s "java/lang/String") (gs : n0 ≤ s) (Fv : Fld Z h0 s "java/lang/String" "value" "[B" .null) (Fc : Fld Z h0 s "java/lang/String" "coder" "B" (.int (0 : Int32))) (Ec : Exa Z h0 c "[C") (Ac : Arv Z h0 c kc .char (32 : Int32) [(.int x0), (.int x1), (.int x2), (.int x3), (.int x4), (.int x5), (.int x6), (.int x7), (.int x8), (.int x9), (.int x10), (.int x11), (.int x12), (.int x13), (.int x14), (.int x15), (.int x16), (.int x17), (.int x18), (.int x19), (.int x20), (.int x21), (.int x22), (.int x23), (.int x24), (.int x25), (.int x26), (.int x27), (.int x28), (.int x29), (.int x30), (.int x31)] oZ) (hx0 : ¬ (255 : Int32) < x0) (hx1 : ¬ (255 : Int32) < x1) (hx2 : ¬ (255 : Int32) < x2) (hx3 : ¬ (255 : Int32) < x3) (hx4 : ¬ (255 : Int32) < x4) (hx5 : ¬ (255 : Int32) < x5) (hx6 : ¬ (255 : Int32) < x6) (hx7 : ¬ (255 : Int32) < x7) (hx8 : ¬ (255 : Int32) < x8) (hx9 : ¬ (255 : Int32) < x9) (hx10 : ¬ (255 : Int32) < x10) (hx11 : ¬ (255 : Int32) < x11) (hx12 : ¬ (255 : Int32) < x12) (hx13 : ¬ (255 : Int32) < x13) (hx14 : ¬ (255 : Int32) < x14) (hx15 : ¬ (255 : Int32) < x15) (hx16 : ¬ (255 : Int32) < x16) (hx17 : ¬ (255 : Int32) < x17) (hx18 : ¬ (255 : Int32) < x18) (hx19 : ¬ (255 : Int32) < x19) (hx20 : ¬ (255 : Int32) < x20) (hx21 : ¬ (255 : Int32) < x21) (hx22 : ¬ (255 : Int32) < x22) (hx23 : ¬ (255 : Int32) < x23) (hx24 : ¬ (255 : Int32) < x24) (hx25 : ¬ (255 : Int32) < x25) (hx26 : ¬ (255 : Int32) < x26) (hx27 : ¬ (255 : Int32) < x27) (hx28 : ¬ (255 : Int32) < x28) (hx29 : ¬ (255 : Int32) < x29) (hx30 : ¬ (255 : Int32) < x30) (hx31 : ¬ (255 : Int32) < x31) :
    Met l Z oM8 oC8 2 none (oR 3 1 32 54) n0 [] #[(.ref s), (.ref c)] h0 (fun r h => r = none ∧ Keep h0 h [s] ∧ ∃ v k, Fld Z h s "java/lang/String" "value" "[B" (.ref v) ∧ Fld Z h s "java/lang/String" "coder" "B" (.int (0 : Int32)) ∧ Exa Z h v "[B" ∧ Arv Z h v k .byte (32 : Int32) [(.int (oB x0)), (.int (oB x1)), (.int (oB x2)), (.int (oB x3)), (.int (oB x4)), (.int (oB x5)), (.int (oB x6)), (.int (oB x7)), (.int (oB x8)), (.int (oB x9)), (.int (oB x10)), (.int (oB x11)), (.int (oB x12)), (.int (oB x13)), (.int (oB x14)), (.int (oB x15)), (.int (oB x16)), (.int (oB x17)), (.int (oB x18)), (.int (oB x19)), (.int (oB x20)), (.int (oB x21)), (.int (oB x22)), (.int (oB x23)), (.int (oB x24)), (.int (oB x25)), (.int (oB x26)), (.int (oB x27)), (.int (oB x28)), (.int (oB x29)), (.int (oB x30)), (.int (oB x31))] oZ) := by
  refine Met.intro (Ls := #[.val (.ref s), .val (.ref c)]) (plainFor_of_name pn_m_coder) hw (fun _ => rfl) ?_
  intro w K0
  have K : oK8 w Z a0 := K0
  refine Rn.aloadN K (q := 1) d1_0 rfl rfl rfl ?_
  refine Rn.aloadN K (q := 2) d1_1 rfl rfl rfl ?_
  refine Rn.iconst K (q := 3) (0 : Int32) d1_2 rfl rfl ?_
  refine Rn.aloadN K (q := 4) d1_3 rfl rfl rfl ?_
  refine Rn.arraylength K (q := 5) Ac d1_4 rfl ?_
  refine Rn.aconst_null K (q := 6) d1_5 rfl ?_
  refine Rn.spec K (q := 9) (W := 0) (y := oM7) (b := s) (argsL := [(.ref c), oZ, (.int (32 : Int32)), .null]) (rest := []) rfl (oT 7 rfl) (oT 8 rfl) (oT 10 rfl) (oT 2 rfl) (by decide) (m_iv32 l Z a0 hw n0 h0 s c kc x0 x1 x2 x3 x4 x5 x6 x7 x8 x9 x10 x11 x12 x13 x14 x15 x16 x17 x18 x19 x20 x21 x22 x23 x24 x25 x26 x27 x28 x29 x30 x31 cst X0 SC hcs Es gs Fv Fc Ec Ac hx0 hx1 hx2 hx3 hx4 hx5 hx6 hx7 hx8 hx9 hx10 hx11 hx12 hx13 hx14 hx15 hx16 hx17 hx18 hx19 hx20 hx21 hx22 hx23 hx24 hx25 hx26 hx27 hx28 hx29 hx30 hx31) (by decide) (by decide) rfl (lenOf pd_5 rfl) rfl (oL rfl) d1_6 rfl (by decide) (by decide) ?_
  rintro _ h1 ⟨rfl, K2, Q2⟩
  show Rn w l _ n0 _ 9 _ [] h1 1 32
  exact Rn.retV K rfl d1_9 (by decide) (by decide) ⟨rfl, K2, Q2⟩
theorem d8_0 : decode oC9 0 = .ok (.aload_n 0, 1) := by decide +kernel
theorem d8_1 : decode oC9 1 = .ok (.invokespecial 1, 3) := by decide +kernel
theorem d8_4 : decode oC9 4 = .ok (.return_, 1) := by decide +kernel
theorem pn_m_rec : plainName "java/lang/Record" = true := by first | (simp [plainName, overriddenIn]; done) | decide +kernel
theorem m_rec (l : Launch) (Z : State) (a0 : Array Value) (hw : oH Z a0) (n0 : Nat) (h0 : Heap) (o : Addr) (X0 : Old Z n0 h0) :
    Met l Z oM9 oC9 1 none (oR 1 0 0 12) n0 [] #[(.ref o)] h0 (fun v h => v = none ∧ h0 = h) := by
  refine Met.intro (Ls := #[.val (.ref o)]) (plainFor_of_name pn_m_rec) hw (fun _ => rfl) ?_
  intro w K0
  have K : oK9 w Z a0 := K0
  refine Rn.aloadN K (q := 1) d8_0 rfl rfl rfl ?_
  refine Rn.initO K (q := 4) (W := 0) (oT 41 rfl) (oT 12 rfl) (oT 13 rfl) (by decide) (by decide) rfl (oL rfl) d8_1 rfl ?_
  exact Rn.retV K rfl d8_4 (by decide) (by decide) ⟨rfl, rfl⟩
theorem d9_0 : decode oC10 0 = .ok (.aload_n 0, 1) := by decide +kernel
theorem d9_1 : decode oC10 1 = .ok (.ifnonnull 12, 3) := by decide +kernel
theorem d9_13 : decode oC10 13 = .ok (.aload_n 0, 1) := by decide +kernel
theorem d9_14 : decode oC10 14 = .ok (.areturn, 1) := by decide +kernel
theorem pn_m_rnn : plainName "java/util/Objects" = true := by first | (simp [plainName, overriddenIn]; done) | decide +kernel
theorem m_rnn (l : Launch) (Z : State) (a0 : Array Value) (hw : oH Z a0) (n0 : Nat) (h0 : Heap) (s t : Addr) (X0 : Old Z n0 h0) :
    Met l Z oM10 oC10 2 (some (.object "java/lang/Object")) (oR 0 0 0 0) n0 [] #[(.ref s), (.ref t)] h0 (fun v h => v = some (.ref s) ∧ h0 = h) := by
  refine Met.intro (Ls := #[.val (.ref s), .val (.ref t)]) (plainFor_of_name pn_m_rnn) hw (fun _ => rfl) ?_
  intro w K0
  have K : oK10 w Z a0 := K0
  refine Rn.aloadN K (q := 1) d9_0 rfl rfl rfl ?_
  refine Rn.nonnullY K (q := 13) d9_1 (by decide) (by decide) ?_
  refine Rn.aloadN K (q := 14) d9_13 rfl rfl rfl ?_
  exact Rn.retA K (.object "java/lang/Object") rfl rfl rfl d9_14 (by decide) (by decide) ⟨rfl, rfl⟩
theorem d25_0 : decode oC11 0 = .ok (.iload_n 0, 1) := by decide +kernel
theorem d25_1 : decode oC11 1 = .ok (.iload_n 1, 1) := by decide +kernel
theorem d25_2 : decode oC11 2 = .ok (.if_icmp .lt 7, 3) := by decide +kernel
theorem d25_9 : decode oC11 9 = .ok (.iload_n 1, 1) := by decide +kernel
theorem d25_10 : decode oC11 10 = .ok (.ireturn, 1) := by decide +kernel
theorem m_max_14_18 (l : Launch) (Z : State) (a0 : Array Value) (hw : oH Z a0) (n0 : Nat) (h0 : Heap)  (X0 : Old Z n0 h0) :
    Met l Z oM11 oC11 2 (some .int) (oR 0 0 0 0) n0 [] #[(.int (14 : Int32)), (.int (18 : Int32))] h0 (fun v h => v = some (.int (18 : Int32)) ∧ h0 = h) := by
  refine Met.intro (Ls := #[.val (.int (14 : Int32)), .val (.int (18 : Int32))]) (Jvm.Free.JP.mathPlain rfl (by decide +kernel)) hw (fun _ => rfl) ?_
  intro w K0
  have K : oK11 w Z a0 := K0
  refine Rn.iloadN K (q := 1) d25_0 rfl rfl ?_
  refine Rn.iloadN K (q := 2) d25_1 rfl rfl ?_
  refine Rn.icY K (q := 9) d25_2 (XT.ii_lt_t (by decide)) (by decide) (by decide) ?_
  refine Rn.iloadN K (q := 10) d25_9 rfl rfl ?_
  exact Rn.retI K rfl d25_10 (by decide) (by decide) ⟨rfl, rfl⟩
theorem m_max_7_18 (l : Launch) (Z : State) (a0 : Array Value) (hw : oH Z a0) (n0 : Nat) (h0 : Heap)  (X0 : Old Z n0 h0) :
    Met l Z oM11 oC11 2 (some .int) (oR 0 0 0 0) n0 [] #[(.int (7 : Int32)), (.int (18 : Int32))] h0 (fun v h => v = some (.int (18 : Int32)) ∧ h0 = h) := by
  refine Met.intro (Ls := #[.val (.int (7 : Int32)), .val (.int (18 : Int32))]) (Jvm.Free.JP.mathPlain rfl (by decide +kernel)) hw (fun _ => rfl) ?_
  intro w K0
  have K : oK11 w Z a0 := K0
  refine Rn.iloadN K (q := 1) d25_0 rfl rfl ?_
  refine Rn.iloadN K (q := 2) d25_1 rfl rfl ?_
  refine Rn.icY K (q := 9) d25_2 (XT.ii_lt_t (by decide)) (by decide) (by decide) ?_
  refine Rn.iloadN K (q := 10) d25_9 rfl rfl ?_
  exact Rn.retI K rfl d25_10 (by decide) (by decide) ⟨rfl, rfl⟩
theorem d27_0 : decode oC12 0 = .ok (.iload_n 0, 1) := by decide +kernel
theorem d27_1 : decode oC12 1 = .ok (.iload_n 1, 1) := by decide +kernel
theorem d27_2 : decode oC12 2 = .ok (.if_icmp .gt 7, 3) := by decide +kernel
theorem d27_5 : decode oC12 5 = .ok (.iload_n 0, 1) := by decide +kernel
theorem d27_6 : decode oC12 6 = .ok (.goto 4, 3) := by decide +kernel
theorem d27_10 : decode oC12 10 = .ok (.ireturn, 1) := by decide +kernel
theorem m_min_16_34 (l : Launch) (Z : State) (a0 : Array Value) (hw : oH Z a0) (n0 : Nat) (h0 : Heap)  (X0 : Old Z n0 h0) :
    Met l Z oM12 oC12 2 (some .int) (oR 0 0 0 0) n0 [] #[(.int (16 : Int32)), (.int (34 : Int32))] h0 (fun v h => v = some (.int (16 : Int32)) ∧ h0 = h) := by
  refine Met.intro (Ls := #[.val (.int (16 : Int32)), .val (.int (34 : Int32))]) (Jvm.Free.JP.mathPlain rfl (by decide +kernel)) hw (fun _ => rfl) ?_
  intro w K0
  have K : oK12 w Z a0 := K0
  refine Rn.iloadN K (q := 1) d27_0 rfl rfl ?_
  refine Rn.iloadN K (q := 2) d27_1 rfl rfl ?_
  refine Rn.icN K (q := 5) d27_2 (XT.ii_gt_f (by decide)) rfl ?_
  refine Rn.iloadN K (q := 6) d27_5 rfl rfl ?_
  refine Rn.goto K (q := 10) d27_6 (by decide) (by decide) ?_
  exact Rn.retI K rfl d27_10 (by decide) (by decide) ⟨rfl, rfl⟩
theorem d27_9 : decode oC12 9 = .ok (.iload_n 1, 1) := by decide +kernel
theorem m_min_34_23 (l : Launch) (Z : State) (a0 : Array Value) (hw : oH Z a0) (n0 : Nat) (h0 : Heap)  (X0 : Old Z n0 h0) :
    Met l Z oM12 oC12 2 (some .int) (oR 0 0 0 0) n0 [] #[(.int (34 : Int32)), (.int (23 : Int32))] h0 (fun v h => v = some (.int (23 : Int32)) ∧ h0 = h) := by
  refine Met.intro (Ls := #[.val (.int (34 : Int32)), .val (.int (23 : Int32))]) (Jvm.Free.JP.mathPlain rfl (by decide +kernel)) hw (fun _ => rfl) ?_
  intro w K0
  have K : oK12 w Z a0 := K0
  refine Rn.iloadN K (q := 1) d27_0 rfl rfl ?_
  refine Rn.iloadN K (q := 2) d27_1 rfl rfl ?_
  refine Rn.icY K (q := 9) d27_2 (XT.ii_gt_t (by decide)) (by decide) (by decide) ?_
  refine Rn.iloadN K (q := 10) d27_9 rfl rfl ?_
  exact Rn.retI K rfl d27_10 (by decide) (by decide) ⟨rfl, rfl⟩
theorem m_min_34_32 (l : Launch) (Z : State) (a0 : Array Value) (hw : oH Z a0) (n0 : Nat) (h0 : Heap)  (X0 : Old Z n0 h0) :
    Met l Z oM12 oC12 2 (some .int) (oR 0 0 0 0) n0 [] #[(.int (34 : Int32)), (.int (32 : Int32))] h0 (fun v h => v = some (.int (32 : Int32)) ∧ h0 = h) := by
  refine Met.intro (Ls := #[.val (.int (34 : Int32)), .val (.int (32 : Int32))]) (Jvm.Free.JP.mathPlain rfl (by decide +kernel)) hw (fun _ => rfl) ?_
  intro w K0
  have K : oK12 w Z a0 := K0
  refine Rn.iloadN K (q := 1) d27_0 rfl rfl ?_
  refine Rn.iloadN K (q := 2) d27_1 rfl rfl ?_
  refine Rn.icY K (q := 9) d27_2 (XT.ii_gt_t (by decide)) (by decide) (by decide) ?_
  refine Rn.iloadN K (q := 10) d27_9 rfl rfl ?_
  exact Rn.retI K rfl d27_10 (by decide) (by decide) ⟨rfl, rfl⟩
theorem d24_0 : decode oC13 0 = .ok (.iload_n 0, 1) := by decide +kernel
theorem d24_1 : decode oC13 1 = .ok (.iload_n 1, 1) := by decide +kernel
theorem d24_2 : decode oC13 2 = .ok (.iload_n 2, 1) := by decide +kernel
theorem d24_3 : decode oC13 3 = .ok (.invokestatic 194, 3) := by decide +kernel
theorem d24_6 : decode oC13 6 = .ok (.iadd, 1) := by decide +kernel
theorem d24_7 : decode oC13 7 = .ok (.istore_n 3, 1) := by decide +kernel
theorem d24_8 : decode oC13 8 = .ok (.iconst 0, 1) := by decide +kernel
theorem d24_9 : decode oC13 9 = .ok (.iload_n 3, 1) := by decide +kernel
theorem d24_10 : decode oC13 10 = .ok (.if_icmp .ge 11, 3) := by decide +kernel
theorem d24_13 : decode oC13 13 = .ok (.iload_n 3, 1) := by decide +kernel
theorem d24_14 : decode oC13 14 = .ok (.ldc 200, 2) := by decide +kernel
theorem d24_16 : decode oC13 16 = .ok (.if_icmp .gt 5, 3) := by decide +kernel
theorem d24_19 : decode oC13 19 = .ok (.iload_n 3, 1) := by decide +kernel
theorem d24_20 : decode oC13 20 = .ok (.ireturn, 1) := by decide +kernel
theorem pn_m_nl14 : plainName "jdk/internal/util/ArraysSupport" = true := by first | (simp [plainName, overriddenIn]; done) | decide +kernel
theorem m_nl14 (l : Launch) (Z : State) (a0 : Array Value) (hw : oH Z a0) (n0 : Nat) (h0 : Heap)  (X0 : Old Z n0 h0) :
    Met l Z oM13 oC13 4 (some .int) (oR 1 0 0 15) n0 [] #[(.int (16 : Int32)), (.int (14 : Int32)), (.int (18 : Int32))] h0 (fun v h => v = some (.int (34 : Int32)) ∧ h0 = h) := by
  refine Met.intro (Ls := #[.val (.int (16 : Int32)), .val (.int (14 : Int32)), .val (.int (18 : Int32)), .unset]) (plainFor_of_name pn_m_nl14) hw (fun _ => rfl) ?_
  intro w K0
  have K : oK13 w Z a0 := K0
  refine Rn.iloadN K (q := 1) d24_0 rfl rfl ?_
  refine Rn.iloadN K (q := 2) d24_1 rfl rfl ?_
  refine Rn.iloadN K (q := 3) d24_2 rfl rfl ?_
  refine Rn.stat K (q := 6) (W := 1) (y := oM11) (argsL := [(.int (14 : Int32)), (.int (18 : Int32))]) (rest := [(.int (16 : Int32))]) (oT 145 rfl) (oT 146 rfl) (oT 148 rfl) (oT 147 rfl) (by decide) (m_max_14_18 l Z a0 hw n0 h0 X0) (by decide) (by decide) rfl (lenOf pd_6 rfl) rfl (oL rfl) d24_3 rfl (by decide) (by decide) ?_
  rintro _ _ ⟨rfl, rfl⟩
  show Rn w l _ n0 _ 6 _ [(.int (18 : Int32)), (.int (16 : Int32))] h0 0 0
  refine Rn.iadd K (q := 7) d24_6 rfl ?_
  show Rn w l _ n0 _ 7 _ [(.int (34 : Int32))] h0 0 0
  refine Rn.istoreN K (q := 8) (Ls' := #[.val (.int (16 : Int32)), .val (.int (14 : Int32)), .val (.int (18 : Int32)), .val (.int (34 : Int32))]) d24_7 rfl rfl ?_
  refine Rn.iconst K (q := 9) (0 : Int32) d24_8 rfl rfl ?_
  refine Rn.iloadN K (q := 10) d24_9 rfl rfl ?_
  refine Rn.icN K (q := 13) d24_10 (XT.ii_ge_f (by decide)) rfl ?_
  refine Rn.iloadN K (q := 14) d24_13 rfl rfl ?_
  refine Rn.ldcI K (q := 16) (2147483639 : Int32) (oT 149 rfl) d24_14 rfl ?_
  refine Rn.icN K (q := 19) d24_16 (XT.ii_gt_f (by decide)) rfl ?_
  refine Rn.iloadN K (q := 20) d24_19 rfl rfl ?_
  exact Rn.retI K rfl d24_20 (by decide) (by decide) ⟨rfl, rfl⟩
theorem m_nl7 (l : Launch) (Z : State) (a0 : Array Value) (hw : oH Z a0) (n0 : Nat) (h0 : Heap)  (X0 : Old Z n0 h0) :
    Met l Z oM13 oC13 4 (some .int) (oR 1 0 0 15) n0 [] #[(.int (16 : Int32)), (.int (7 : Int32)), (.int (18 : Int32))] h0 (fun v h => v = some (.int (34 : Int32)) ∧ h0 = h) := by
  refine Met.intro (Ls := #[.val (.int (16 : Int32)), .val (.int (7 : Int32)), .val (.int (18 : Int32)), .unset]) (plainFor_of_name pn_m_nl14) hw (fun _ => rfl) ?_
  intro w K0
  have K : oK13 w Z a0 := K0
  refine Rn.iloadN K (q := 1) d24_0 rfl rfl ?_
  refine Rn.iloadN K (q := 2) d24_1 rfl rfl ?_
  refine Rn.iloadN K (q := 3) d24_2 rfl rfl ?_
  refine Rn.stat K (q := 6) (W := 1) (y := oM11) (argsL := [(.int (7 : Int32)), (.int (18 : Int32))]) (rest := [(.int (16 : Int32))]) (oT 145 rfl) (oT 146 rfl) (oT 148 rfl) (oT 147 rfl) (by decide) (m_max_7_18 l Z a0 hw n0 h0 X0) (by decide) (by decide) rfl (lenOf pd_6 rfl) rfl (oL rfl) d24_3 rfl (by decide) (by decide) ?_
  rintro _ _ ⟨rfl, rfl⟩
  show Rn w l _ n0 _ 6 _ [(.int (18 : Int32)), (.int (16 : Int32))] h0 0 0
  refine Rn.iadd K (q := 7) d24_6 rfl ?_
  show Rn w l _ n0 _ 7 _ [(.int (34 : Int32))] h0 0 0
  refine Rn.istoreN K (q := 8) (Ls' := #[.val (.int (16 : Int32)), .val (.int (7 : Int32)), .val (.int (18 : Int32)), .val (.int (34 : Int32))]) d24_7 rfl rfl ?_
  refine Rn.iconst K (q := 9) (0 : Int32) d24_8 rfl rfl ?_
  refine Rn.iloadN K (q := 10) d24_9 rfl rfl ?_
  refine Rn.icN K (q := 13) d24_10 (XT.ii_ge_f (by decide)) rfl ?_
  refine Rn.iloadN K (q := 14) d24_13 rfl rfl ?_
  refine Rn.ldcI K (q := 16) (2147483639 : Int32) (oT 149 rfl) d24_14 rfl ?_
  refine Rn.icN K (q := 19) d24_16 (XT.ii_gt_f (by decide)) rfl ?_
  refine Rn.iloadN K (q := 20) d24_19 rfl rfl ?_
  exact Rn.retI K rfl d24_20 (by decide) (by decide) ⟨rfl, rfl⟩
theorem d14_0 : decode oC14 0 = .ok (.aload_n 0, 1) := by decide +kernel
theorem d14_1 : decode oC14 1 = .ok (.invokespecial 3, 3) := by decide +kernel
theorem d14_4 : decode oC14 4 = .ok (.getstatic 18, 3) := by decide +kernel
theorem d14_7 : decode oC14 7 = .ok (.ifCond .eq 18, 3) := by decide +kernel
theorem d14_10 : decode oC14 10 = .ok (.aload_n 0, 1) := by decide +kernel
theorem d14_11 : decode oC14 11 = .ok (.iload_n 1, 1) := by decide +kernel
theorem d14_12 : decode oC14 12 = .ok (.newarray .byte, 2) := by decide +kernel
theorem d14_14 : decode oC14 14 = .ok (.putfield 15, 3) := by decide +kernel
theorem d14_17 : decode oC14 17 = .ok (.aload_n 0, 1) := by decide +kernel
theorem d14_18 : decode oC14 18 = .ok (.iconst 0, 1) := by decide +kernel
theorem d14_19 : decode oC14 19 = .ok (.putfield 22, 3) := by decide +kernel
theorem d14_22 : decode oC14 22 = .ok (.goto 16, 3) := by decide +kernel
theorem d14_38 : decode oC14 38 = .ok (.return_, 1) := by decide +kernel
theorem pn_m_asi : plainName "java/lang/AbstractStringBuilder" = true := by first | (simp [plainName, overriddenIn]; done) | decide +kernel
theorem m_asi (l : Launch) (Z : State) (a0 : Array Value) (hw : oH Z a0) (n0 : Nat) (h0 : Heap) (b : Addr) (cst : Int32) (X0 : Old Z n0 h0) (SC : oSC Z cst) (hcs : ¬ cst = 0) (Eb : Exa Z h0 b "java/lang/StringBuilder") (gb : n0 ≤ b) (Bv : Fld Z h0 b "java/lang/AbstractStringBuilder" "value" "[B" .null) (Bc : Fld Z h0 b "java/lang/AbstractStringBuilder" "coder" "B" (.int (0 : Int32))) (Bn : Fld Z h0 b "java/lang/AbstractStringBuilder" "count" "I" (.int (0 : Int32))) :
    Met l Z oM14 oC14 2 none (oR 1 1 16 14) n0 [] #[(.ref b), (.int (16 : Int32))] h0 (fun r h => r = none ∧ Keep h0 h [b] ∧ ∃ u k, h0.size ≤ u ∧ n0 ≤ u ∧ Fld Z h b "java/lang/AbstractStringBuilder" "value" "[B" (.ref u) ∧ Fld Z h b "java/lang/AbstractStringBuilder" "coder" "B" (.int (0 : Int32)) ∧ Fld Z h b "java/lang/AbstractStringBuilder" "count" "I" (.int (0 : Int32)) ∧ Exa Z h u "[B" ∧ Arv Z h u k .byte (16 : Int32) [oZ, oZ, oZ, oZ, oZ, oZ, oZ, oZ, oZ, oZ, oZ, oZ, oZ, oZ, oZ, oZ] oZ) := by
  refine Met.intro (Ls := #[.val (.ref b), .val (.int (16 : Int32))]) (plainFor_of_name pn_m_asi) hw (fun _ => rfl) ?_
  intro w K0
  have K : oK14 w Z a0 := K0
  have K1 := Keep.refl h0 [b]
  refine Rn.aloadN K (q := 1) d14_0 rfl rfl rfl ?_
  refine Rn.initO K (q := 4) (W := 0) (oT 81 rfl) (oT 12 rfl) (oT 13 rfl) (by decide) (by decide) rfl (oL rfl) d14_1 rfl ?_
  refine Rn.getS K (q := 7) (oT 82 rfl) (SC.ext X0.2) d14_4 rfl ?_
  refine Rn.ifN K (q := 10) d14_7 (XT.i0_eq_f hcs) rfl ?_
  refine Rn.aloadN K (q := 11) d14_10 rfl rfl rfl ?_
  refine Rn.iloadN K (q := 12) d14_11 rfl rfl ?_
  refine Rn.newP K (q := 14) (cap := 16) (oT 19 rfl) (by decide) (by decide) (by decide) (by decide) (by decide) (ad := "[B") (by decide) d14_12 rfl ?_
  intro b1 h2 k4 gb1_ X3 A_b1 EA_b1
  have ne_b_b1 : b ≠ b1 := fun e => absurd Eb.lt (by rw [e, gb1_]; exact Nat.lt_irrefl _)
  have g_b1 : n0 ≤ b1 := by rw [gb1_]; exact X0.1 ▸ X0.2.1
  have sz_b1 : h0.size ≤ b1 := by rw [gb1_]; exact K1.1
  have f6 := K1.ext X3
  have f7 := Eb.ext X3
  have f8 := Bv.ext X3
  have f9 := Bc.ext X3
  have f10 := Bn.ext X3
  replace A_b1 : Arv Z h2 b1 k4 .byte (16 : Int32) [oZ, oZ, oZ, oZ, oZ, oZ, oZ, oZ, oZ, oZ, oZ, oZ, oZ, oZ, oZ, oZ] oZ := A_b1.pad (pad_rep [] oZ 16)
  show Rn w l _ n0 _ 14 _ [(.ref b1), (.ref b)] h2 1 16
  refine Rn.putF K (q := 17) (ty := (.array .byte)) (oT 83 rfl) Via.refl f8 f7 (Or.inl (oT 84 rfl)) (oT 70 rfl) (by decide) rfl rfl gb d14_14 rfl ?_
  intro h11 W12
  have f14 := f6.wr W12 (Or.inl (oT 0 rfl))
  have f15 := f7.wr W12
  have f16 := Fld.same W12 f8
  have f17 := Fld.other W12 f9 (Or.inr (slot_ne (Or.inl (K.hw _ (oT 86 rfl))) (Or.inl (K.hw _ (oT 84 rfl))) (by decide) (t := .byte) (t' := (.array .byte)) (by decide) (by decide)))
  have f18 := Fld.other W12 f10 (Or.inr (slot_ne (Or.inl (K.hw _ (oT 109 rfl))) (Or.inl (K.hw _ (oT 84 rfl))) (by decide) (t := .int) (t' := (.array .byte)) (by decide) (by decide)))
  have f19 := A_b1.other W12 (Ne.symm ne_b_b1)
  have f20 := EA_b1.wr W12
  refine Rn.aloadN K (q := 18) d14_17 rfl rfl rfl ?_
  refine Rn.iconst K (q := 19) (0 : Int32) d14_18 rfl rfl ?_
  refine Rn.putF K (q := 22) (ty := .byte) (v' := .int (nar .byte (0 : Int32))) (oT 85 rfl) Via.refl f17 f15 (Or.inl (oT 86 rfl)) (oT 70 rfl) (by decide) rfl (fits_nar_byte _) gb d14_19 rfl ?_
  intro h21 W22
  have f24 := f14.wr W22 (Or.inl (oT 0 rfl))
  have f26 := Fld.other W22 f16 (Or.inr (slot_ne (Or.inl (K.hw _ (oT 84 rfl))) (Or.inl (K.hw _ (oT 86 rfl))) (by decide) (t := (.array .byte)) (t' := .byte) (by decide) (by decide)))
  have f27 := Fld.same W22 f17
  have f28 := Fld.other W22 f18 (Or.inr (slot_ne (Or.inl (K.hw _ (oT 109 rfl))) (Or.inl (K.hw _ (oT 86 rfl))) (by decide) (t := .int) (t' := .byte) (by decide) (by decide)))
  have f29 := f19.other W22 (Ne.symm ne_b_b1)
  have f30 := f20.wr W22
  refine Rn.goto K (q := 38) d14_22 (by decide) (by decide) ?_
  exact Rn.retV K rfl d14_38 (by decide) (by decide) ⟨rfl, f24, _, _, sz_b1, g_b1, f26, f27, f28, f30, f29⟩
theorem d13_0 : decode oC15 0 = .ok (.aload_n 0, 1) := by decide +kernel
theorem d13_1 : decode oC15 1 = .ok (.bipush 16, 2) := by decide +kernel
theorem d13_3 : decode oC15 3 = .ok (.invokespecial 1, 3) := by decide +kernel
theorem d13_6 : decode oC15 6 = .ok (.return_, 1) := by decide +kernel
theorem pn_m_sbi : plainName "java/lang/StringBuilder" = true := by first | (simp [plainName, overriddenIn]; done) | decide +kernel
theorem m_sbi (l : Launch) (Z : State) (a0 : Array Value) (hw : oH Z a0) (n0 : Nat) (h0 : Heap) (b : Addr) (cst : Int32) (X0 : Old Z n0 h0) (SC : oSC Z cst) (hcs : ¬ cst = 0) (Eb : Exa Z h0 b "java/lang/StringBuilder") (gb : n0 ≤ b) (Bv : Fld Z h0 b "java/lang/AbstractStringBuilder" "value" "[B" .null) (Bc : Fld Z h0 b "java/lang/AbstractStringBuilder" "coder" "B" (.int (0 : Int32))) (Bn : Fld Z h0 b "java/lang/AbstractStringBuilder" "count" "I" (.int (0 : Int32))) :
    Met l Z oM15 oC15 1 none (oR 2 1 16 28) n0 [] #[(.ref b)] h0 (fun r h => r = none ∧ Keep h0 h [b] ∧ ∃ u k, h0.size ≤ u ∧ n0 ≤ u ∧ Fld Z h b "java/lang/AbstractStringBuilder" "value" "[B" (.ref u) ∧ Fld Z h b "java/lang/AbstractStringBuilder" "coder" "B" (.int (0 : Int32)) ∧ Fld Z h b "java/lang/AbstractStringBuilder" "count" "I" (.int (0 : Int32)) ∧ Exa Z h u "[B" ∧ Arv Z h u k .byte (16 : Int32) [oZ, oZ, oZ, oZ, oZ, oZ, oZ, oZ, oZ, oZ, oZ, oZ, oZ, oZ, oZ, oZ] oZ) := by
  refine Met.intro (Ls := #[.val (.ref b)]) (plainFor_of_name pn_m_sbi) hw (fun _ => rfl) ?_
  intro w K0
  have K : oK15 w Z a0 := K0
  refine Rn.aloadN K (q := 1) d13_0 rfl rfl rfl ?_
  refine Rn.bipush K (q := 3) (16 : Int32) d13_1 rfl rfl ?_
  refine Rn.spec K (q := 6) (W := 0) (y := oM14) (b := b) (argsL := [(.int (16 : Int32))]) (rest := []) rfl (oT 75 rfl) (oT 76 rfl) (oT 80 rfl) (oT 79 rfl) (by decide) (m_asi l Z a0 hw n0 h0 b cst X0 SC hcs Eb gb Bv Bc Bn) (by decide) (by decide) rfl (lenOf pd_7 rfl) rfl (oL rfl) d13_3 rfl (by decide) (by decide) ?_
  rintro _ h1 ⟨rfl, Q2⟩
  show Rn w l _ n0 _ 6 _ [] h1 1 16
  exact Rn.retV K rfl d13_6 (by decide) (by decide) ⟨rfl, Q2⟩
theorem d21_0 : decode oC16 0 = .ok (.getstatic 18, 3) := by decide +kernel
theorem d21_3 : decode oC16 3 = .ok (.ifCond .eq 18, 3) := by decide +kernel
theorem d21_6 : decode oC16 6 = .ok (.aload_n 0, 1) := by decide +kernel
theorem d21_7 : decode oC16 7 = .ok (.getfield 22, 3) := by decide +kernel
theorem d21_10 : decode oC16 10 = .ok (.aload_n 1, 1) := by decide +kernel
theorem d21_11 : decode oC16 11 = .ok (.invokevirtual 40, 3) := by decide +kernel
theorem d21_14 : decode oC16 14 = .ok (.if_icmp .eq 7, 3) := by decide +kernel
theorem d21_21 : decode oC16 21 = .ok (.return_, 1) := by decide +kernel
theorem m_inf (l : Launch) (Z : State) (a0 : Array Value) (hw : oH Z a0) (n0 : Nat) (h0 : Heap) (b s : Addr) (cst : Int32) (X0 : Old Z n0 h0) (SC : oSC Z cst) (hcs : ¬ cst = 0) (Bc : Fld Z h0 b "java/lang/AbstractStringBuilder" "coder" "B" (.int (0 : Int32))) (Es : Exa Z h0 s "java/lang/String") (Fc : Fld Z h0 s "java/lang/String" "coder" "B" (.int (0 : Int32))) :
    Met l Z oM16 oC16 2 none (oR 1 0 0 13) n0 [] #[(.ref b), (.ref s)] h0 (fun v h => v = none ∧ h0 = h) := by
  refine Met.intro (Ls := #[.val (.ref b), .val (.ref s)]) (plainFor_of_name pn_m_asi) hw (fun _ => rfl) ?_
  intro w K0
  have K : oK16 w Z a0 := K0
  refine Rn.getS K (q := 3) (oT 82 rfl) (SC.ext X0.2) d21_0 rfl ?_
  refine Rn.ifN K (q := 6) d21_3 (XT.i0_eq_f hcs) rfl ?_
  refine Rn.aloadN K (q := 7) d21_6 rfl rfl rfl ?_
  refine Rn.getF K (q := 10) (oT 85 rfl) Via.refl Bc d21_7 rfl ?_
  refine Rn.aloadN K (q := 11) d21_10 rfl rfl rfl ?_
  refine Rn.virt K (q := 14) (W := 1) (y := oM0) (z := oM0) (b := s) (argsL := []) (rest := [oZ]) (oT 125 rfl) (oT 104 rfl) (nfs K (oT 106 rfl)) (oT 106 rfl) (oT 105 rfl) (oT 107 rfl) (oT 2 rfl) (by decide) (m_coder l Z a0 hw n0 h0 s cst X0 SC hcs Fc) Es (by decide) (by decide) rfl (lenOf pd_1 rfl) rfl (oL rfl) d21_11 rfl (by decide) (by decide) ?_
  rintro _ _ ⟨rfl, rfl⟩
  show Rn w l _ n0 _ 14 _ [oZ, oZ] h0 0 0
  refine Rn.icY K (q := 21) d21_14 (XT.ii_eq_t rfl) (by decide) (by decide) ?_
  exact Rn.retV K rfl d21_21 (by decide) (by decide) ⟨rfl, rfl⟩
theorem d26_0 : decode oC17 0 = .ok (.iload_n 1, 1) := by decide +kernel
theorem d26_1 : decode oC17 1 = .ok (.aload_n 0, 1) := by decide +kernel
theorem d26_2 : decode oC17 2 = .ok (.arraylength, 1) := by decide +kernel
theorem d26_3 : decode oC17 3 = .ok (.if_icmp .ne 11, 3) := by decide +kernel
theorem d26_14 : decode oC17 14 = .ok (.iload_n 1, 1) := by decide +kernel
theorem d26_15 : decode oC17 15 = .ok (.newarray .byte, 2) := by decide +kernel
theorem d26_17 : decode oC17 17 = .ok (.astore_n 2, 1) := by decide +kernel
theorem d26_18 : decode oC17 18 = .ok (.aload_n 0, 1) := by decide +kernel
theorem d26_19 : decode oC17 19 = .ok (.iconst 0, 1) := by decide +kernel
theorem d26_20 : decode oC17 20 = .ok (.aload_n 2, 1) := by decide +kernel
theorem d26_21 : decode oC17 21 = .ok (.iconst 0, 1) := by decide +kernel
theorem d26_22 : decode oC17 22 = .ok (.aload_n 0, 1) := by decide +kernel
theorem d26_23 : decode oC17 23 = .ok (.arraylength, 1) := by decide +kernel
theorem d26_24 : decode oC17 24 = .ok (.iload_n 1, 1) := by decide +kernel
theorem d26_25 : decode oC17 25 = .ok (.invokestatic 304, 3) := by decide +kernel
theorem d26_28 : decode oC17 28 = .ok (.invokestatic 150, 3) := by decide +kernel
theorem d26_31 : decode oC17 31 = .ok (.aload_n 2, 1) := by decide +kernel
theorem d26_32 : decode oC17 32 = .ok (.areturn, 1) := by decide +kernel
theorem pn_m_cpo : plainName "java/util/Arrays" = true := by first | (simp [plainName, overriddenIn]; done) | decide +kernel
theorem m_cpo (l : Launch) (Z : State) (a0 : Array Value) (hw : oH Z a0) (n0 : Nat) (h0 : Heap) (u : Addr) (ku : ClassId) (z0 z1 z2 z3 z4 z5 z6 z7 z8 : Int32) (X0 : Old Z n0 h0) (Au : Arv Z h0 u ku .byte (16 : Int32) [(.int z0), (.int z1), (.int z2), (.int z3), (.int z4), (.int z5), (.int z6), (.int z7), (.int z8), oZ, oZ, oZ, oZ, oZ, oZ, oZ] oZ) :
    Met l Z oM17 oC17 3 (some (.array .byte)) (oR 1 1 34 60) n0 [] #[(.ref u), (.int (34 : Int32))] h0 (fun r h => ∃ u2 k2, r = some (.ref u2) ∧ h0.size ≤ u2 ∧ n0 ≤ u2 ∧ Keep h0 h [] ∧ Exa Z h u2 "[B" ∧ Arv Z h u2 k2 .byte (34 : Int32) [(.int z0), (.int z1), (.int z2), (.int z3), (.int z4), (.int z5), (.int z6), (.int z7), (.int z8), oZ, oZ, oZ, oZ, oZ, oZ, oZ, oZ, oZ, oZ, oZ, oZ, oZ, oZ, oZ, oZ, oZ, oZ, oZ, oZ, oZ, oZ, oZ, oZ, oZ] oZ) := by
  refine Met.intro (Ls := #[.val (.ref u), .val (.int (34 : Int32)), .unset]) (plainFor_of_name pn_m_cpo) hw (fun _ => rfl) ?_
  intro w K0
  have K : oK17 w Z a0 := K0
  have K1 := Keep.refl h0 []
  refine Rn.iloadN K (q := 1) d26_0 rfl rfl ?_
  refine Rn.aloadN K (q := 2) d26_1 rfl rfl rfl ?_
  refine Rn.arraylength K (q := 3) Au d26_2 rfl ?_
  refine Rn.icY K (q := 14) d26_3 (XT.ii_ne_t (by decide)) (by decide) (by decide) ?_
  refine Rn.iloadN K (q := 15) d26_14 rfl rfl ?_
  refine Rn.newP K (q := 17) (cap := 34) (oT 19 rfl) (by decide) (by decide) (by decide) (by decide) (by decide) (ad := "[B") (by decide) d26_15 rfl ?_
  intro b1 h2 k4 gb1_ X3 A_b1 EA_b1
  have g_b1 : n0 ≤ b1 := by rw [gb1_]; exact X0.1 ▸ X0.2.1
  have sz_b1 : h0.size ≤ b1 := by rw [gb1_]; exact K1.1
  have f5 := X0.ext X3
  have f6 := K1.ext X3
  have f7 := Au.ext X3
  replace A_b1 : Arv Z h2 b1 k4 .byte (34 : Int32) [oZ, oZ, oZ, oZ, oZ, oZ, oZ, oZ, oZ, oZ, oZ, oZ, oZ, oZ, oZ, oZ, oZ, oZ, oZ, oZ, oZ, oZ, oZ, oZ, oZ, oZ, oZ, oZ, oZ, oZ, oZ, oZ, oZ, oZ] oZ := A_b1.pad (pad_rep [] oZ 34)
  show Rn w l _ n0 _ 17 _ [(.ref b1)] h2 1 34
  refine Rn.astoreN K (q := 18) (Ls' := #[.val (.ref u), .val (.int (34 : Int32)), .val (.ref b1)]) d26_17 rfl rfl rfl ?_
  refine Rn.aloadN K (q := 19) d26_18 rfl rfl rfl ?_
  refine Rn.iconst K (q := 20) (0 : Int32) d26_19 rfl rfl ?_
  refine Rn.aloadN K (q := 21) d26_20 rfl rfl rfl ?_
  refine Rn.iconst K (q := 22) (0 : Int32) d26_21 rfl rfl ?_
  refine Rn.aloadN K (q := 23) d26_22 rfl rfl rfl ?_
  refine Rn.arraylength K (q := 24) f7 d26_23 rfl ?_
  refine Rn.iloadN K (q := 25) d26_24 rfl rfl ?_
  refine Rn.stat K (q := 28) (W := 4) (y := oM12) (argsL := [(.int (16 : Int32)), (.int (34 : Int32))]) (rest := [oZ, (.ref b1), oZ, (.ref u)]) (oT 155 rfl) (oT 156 rfl) (oT 157 rfl) (oT 147 rfl) (by decide) (m_min_16_34 l Z a0 hw n0 h2 f5) (by decide) (by decide) rfl (lenOf pd_6 rfl) rfl (oL rfl) d26_25 rfl (by decide) (by decide) ?_
  rintro _ _ ⟨rfl, rfl⟩
  show Rn w l _ n0 _ 28 _ [(.int (16 : Int32)), oZ, (.ref b1), oZ, (.ref u)] h2 1 34
  refine Rn.acopy K (q := 31) (W := 0) (o := 0) (p := 0) (n := 16) (z := 34) (by decide) rfl (oT 158 rfl) (oT 134 rfl) (oT 132 rfl) (oT 133 rfl) f7 A_b1 (by decide) (by decide) (by decide) (by decide) (by decide) (by decide) g_b1 rfl (oL rfl) (by decide) (by decide) d26_28 rfl ?_
  intro h8 K9 A10
  have f12 := f6.trans K9 (allS (Or.inr sz_b1) all0)
  have f14 := EA_b1.keep K9
  replace A10 : Arv Z h8 b1 k4 .byte (34 : Int32) [(.int z0), (.int z1), (.int z2), (.int z3), (.int z4), (.int z5), (.int z6), (.int z7), (.int z8), oZ, oZ, oZ, oZ, oZ, oZ, oZ, oZ, oZ, oZ, oZ, oZ, oZ, oZ, oZ, oZ, oZ, oZ, oZ, oZ, oZ, oZ, oZ, oZ, oZ] oZ := A10
  show Rn w l _ n0 _ 31 _ [] h8 1 34
  refine Rn.aloadN K (q := 32) d26_31 rfl rfl rfl ?_
  exact Rn.retA K (.array .byte) rfl rfl rfl d26_32 (by decide) (by decide) ⟨_, _, rfl, sz_b1, g_b1, f12, f14, A10⟩
theorem d19_0 : decode oC18 0 = .ok (.aload_n 0, 1) := by decide +kernel
theorem d19_1 : decode oC18 1 = .ok (.getfield 15, 3) := by decide +kernel
theorem d19_4 : decode oC18 4 = .ok (.arraylength, 1) := by decide +kernel
theorem d19_5 : decode oC18 5 = .ok (.aload_n 0, 1) := by decide +kernel
theorem d19_6 : decode oC18 6 = .ok (.getfield 22, 3) := by decide +kernel
theorem d19_9 : decode oC18 9 = .ok (.ishr, 1) := by decide +kernel
theorem d19_10 : decode oC18 10 = .ok (.istore_n 2, 1) := by decide +kernel
theorem d19_11 : decode oC18 11 = .ok (.iload_n 1, 1) := by decide +kernel
theorem d19_12 : decode oC18 12 = .ok (.iload_n 2, 1) := by decide +kernel
theorem d19_13 : decode oC18 13 = .ok (.isub, 1) := by decide +kernel
theorem d19_14 : decode oC18 14 = .ok (.ifCond .le 24, 3) := by decide +kernel
theorem d19_38 : decode oC18 38 = .ok (.return_, 1) := by decide +kernel
theorem m_ens16_7 (l : Launch) (Z : State) (a0 : Array Value) (hw : oH Z a0) (n0 : Nat) (h0 : Heap) (b u : Addr) (ku : ClassId)  (X0 : Old Z n0 h0) (Eb : Exa Z h0 b "java/lang/StringBuilder") (gb : n0 ≤ b) (Bv : Fld Z h0 b "java/lang/AbstractStringBuilder" "value" "[B" (.ref u)) (Bc : Fld Z h0 b "java/lang/AbstractStringBuilder" "coder" "B" (.int (0 : Int32))) (Bn : Fld Z h0 b "java/lang/AbstractStringBuilder" "count" "I" (.int (0 : Int32))) (Eu : Exa Z h0 u "[B") (gu : n0 ≤ u) (Au : Arv Z h0 u ku .byte (16 : Int32) [oZ, oZ, oZ, oZ, oZ, oZ, oZ, oZ, oZ, oZ, oZ, oZ, oZ, oZ, oZ, oZ] oZ) :
    Met l Z oM18 oC18 3 none (oR 0 0 0 0) n0 [] #[(.ref b), (.int (7 : Int32))] h0 (fun v h => v = none ∧ h0 = h) := by
  refine Met.intro (Ls := #[.val (.ref b), .val (.int (7 : Int32)), .unset]) (plainFor_of_name pn_m_asi) hw (fun _ => rfl) ?_
  intro w K0
  have K : oK18 w Z a0 := K0
  refine Rn.aloadN K (q := 1) d19_0 rfl rfl rfl ?_
  refine Rn.getF K (q := 4) (oT 83 rfl) Via.refl Bv d19_1 rfl ?_
  refine Rn.arraylength K (q := 5) Au d19_4 rfl ?_
  refine Rn.aloadN K (q := 6) d19_5 rfl rfl rfl ?_
  refine Rn.getF K (q := 9) (oT 85 rfl) Via.refl Bc d19_6 rfl ?_
  refine Rn.ishr K (q := 10) d19_9 rfl ?_
  rw [show ((16 : Int32) >>> ((0 : Int32) &&& 31)) = (16 : Int32) from by decide]
  show Rn w l _ n0 _ 10 _ [(.int (16 : Int32))] h0 0 0
  refine Rn.istoreN K (q := 11) (Ls' := #[.val (.ref b), .val (.int (7 : Int32)), .val (.int (16 : Int32))]) d19_10 rfl rfl ?_
  refine Rn.iloadN K (q := 12) d19_11 rfl rfl ?_
  refine Rn.iloadN K (q := 13) d19_12 rfl rfl ?_
  refine Rn.isub K (q := 14) d19_13 rfl ?_
  show Rn w l _ n0 _ 14 _ [(.int (-9 : Int32))] h0 0 0
  refine Rn.ifY K (q := 38) d19_14 (XT.i0_le_t (by decide)) (by decide) (by decide) ?_
  exact Rn.retV K rfl d19_38 (by decide) (by decide) ⟨rfl, rfl⟩
theorem m_ens16_9 (l : Launch) (Z : State) (a0 : Array Value) (hw : oH Z a0) (n0 : Nat) (h0 : Heap) (b u : Addr) (ku : ClassId) (z0 z1 z2 z3 z4 z5 z6 : Int32) (X0 : Old Z n0 h0) (Eb : Exa Z h0 b "java/lang/StringBuilder") (gb : n0 ≤ b) (Bv : Fld Z h0 b "java/lang/AbstractStringBuilder" "value" "[B" (.ref u)) (Bc : Fld Z h0 b "java/lang/AbstractStringBuilder" "coder" "B" (.int (0 : Int32))) (Bn : Fld Z h0 b "java/lang/AbstractStringBuilder" "count" "I" (.int (7 : Int32))) (Eu : Exa Z h0 u "[B") (gu : n0 ≤ u) (Au : Arv Z h0 u ku .byte (16 : Int32) [(.int z0), (.int z1), (.int z2), (.int z3), (.int z4), (.int z5), (.int z6), oZ, oZ, oZ, oZ, oZ, oZ, oZ, oZ, oZ] oZ) :
    Met l Z oM18 oC18 3 none (oR 0 0 0 0) n0 [] #[(.ref b), (.int (9 : Int32))] h0 (fun v h => v = none ∧ h0 = h) := by
  refine Met.intro (Ls := #[.val (.ref b), .val (.int (9 : Int32)), .unset]) (plainFor_of_name pn_m_asi) hw (fun _ => rfl) ?_
  intro w K0
  have K : oK18 w Z a0 := K0
  refine Rn.aloadN K (q := 1) d19_0 rfl rfl rfl ?_
  refine Rn.getF K (q := 4) (oT 83 rfl) Via.refl Bv d19_1 rfl ?_
  refine Rn.arraylength K (q := 5) Au d19_4 rfl ?_
  refine Rn.aloadN K (q := 6) d19_5 rfl rfl rfl ?_
  refine Rn.getF K (q := 9) (oT 85 rfl) Via.refl Bc d19_6 rfl ?_
  refine Rn.ishr K (q := 10) d19_9 rfl ?_
  rw [show ((16 : Int32) >>> ((0 : Int32) &&& 31)) = (16 : Int32) from by decide]
  show Rn w l _ n0 _ 10 _ [(.int (16 : Int32))] h0 0 0
  refine Rn.istoreN K (q := 11) (Ls' := #[.val (.ref b), .val (.int (9 : Int32)), .val (.int (16 : Int32))]) d19_10 rfl rfl ?_
  refine Rn.iloadN K (q := 12) d19_11 rfl rfl ?_
  refine Rn.iloadN K (q := 13) d19_12 rfl rfl ?_
  refine Rn.isub K (q := 14) d19_13 rfl ?_
  show Rn w l _ n0 _ 14 _ [(.int (-7 : Int32))] h0 0 0
  refine Rn.ifY K (q := 38) d19_14 (XT.i0_le_t (by decide)) (by decide) (by decide) ?_
  exact Rn.retV K rfl d19_38 (by decide) (by decide) ⟨rfl, rfl⟩
theorem m_ens34_32 (l : Launch) (Z : State) (a0 : Array Value) (hw : oH Z a0) (n0 : Nat) (h0 : Heap) (b u : Addr) (ku : ClassId) (z0 z1 z2 z3 z4 z5 z6 z7 z8 z9 z10 z11 z12 z13 z14 z15 z16 z17 z18 z19 z20 z21 z22 z23 z24 z25 z26 z27 z28 z29 : Int32) (X0 : Old Z n0 h0) (Eb : Exa Z h0 b "java/lang/StringBuilder") (gb : n0 ≤ b) (Bv : Fld Z h0 b "java/lang/AbstractStringBuilder" "value" "[B" (.ref u)) (Bc : Fld Z h0 b "java/lang/AbstractStringBuilder" "coder" "B" (.int (0 : Int32))) (Bn : Fld Z h0 b "java/lang/AbstractStringBuilder" "count" "I" (.int (30 : Int32))) (Eu : Exa Z h0 u "[B") (gu : n0 ≤ u) (Au : Arv Z h0 u ku .byte (34 : Int32) [(.int z0), (.int z1), (.int z2), (.int z3), (.int z4), (.int z5), (.int z6), (.int z7), (.int z8), (.int z9), (.int z10), (.int z11), (.int z12), (.int z13), (.int z14), (.int z15), (.int z16), (.int z17), (.int z18), (.int z19), (.int z20), (.int z21), (.int z22), (.int z23), (.int z24), (.int z25), (.int z26), (.int z27), (.int z28), (.int z29), oZ, oZ, oZ, oZ] oZ) :
    Met l Z oM18 oC18 3 none (oR 0 0 0 0) n0 [] #[(.ref b), (.int (32 : Int32))] h0 (fun v h => v = none ∧ h0 = h) := by
  refine Met.intro (Ls := #[.val (.ref b), .val (.int (32 : Int32)), .unset]) (plainFor_of_name pn_m_asi) hw (fun _ => rfl) ?_
  intro w K0
  have K : oK18 w Z a0 := K0
  refine Rn.aloadN K (q := 1) d19_0 rfl rfl rfl ?_
  refine Rn.getF K (q := 4) (oT 83 rfl) Via.refl Bv d19_1 rfl ?_
  refine Rn.arraylength K (q := 5) Au d19_4 rfl ?_
  refine Rn.aloadN K (q := 6) d19_5 rfl rfl rfl ?_
  refine Rn.getF K (q := 9) (oT 85 rfl) Via.refl Bc d19_6 rfl ?_
  refine Rn.ishr K (q := 10) d19_9 rfl ?_
  rw [show ((34 : Int32) >>> ((0 : Int32) &&& 31)) = (34 : Int32) from by decide]
  show Rn w l _ n0 _ 10 _ [(.int (34 : Int32))] h0 0 0
  refine Rn.istoreN K (q := 11) (Ls' := #[.val (.ref b), .val (.int (32 : Int32)), .val (.int (34 : Int32))]) d19_10 rfl rfl ?_
  refine Rn.iloadN K (q := 12) d19_11 rfl rfl ?_
  refine Rn.iloadN K (q := 13) d19_12 rfl rfl ?_
  refine Rn.isub K (q := 14) d19_13 rfl ?_
  show Rn w l _ n0 _ 14 _ [(.int (-2 : Int32))] h0 0 0
  refine Rn.ifY K (q := 38) d19_14 (XT.i0_le_t (by decide)) (by decide) (by decide) ?_
  exact Rn.retV K rfl d19_38 (by decide) (by decide) ⟨rfl, rfl⟩
theorem d23_0 : decode oC19 0 = .ok (.aload_n 0, 1) := by decide +kernel
theorem d23_1 : decode oC19 1 = .ok (.getfield 15, 3) := by decide +kernel
theorem d23_4 : decode oC19 4 = .ok (.arraylength, 1) := by decide +kernel
theorem d23_5 : decode oC19 5 = .ok (.istore_n 2, 1) := by decide +kernel
theorem d23_6 : decode oC19 6 = .ok (.iload_n 1, 1) := by decide +kernel
theorem d23_7 : decode oC19 7 = .ok (.aload_n 0, 1) := by decide +kernel
theorem d23_8 : decode oC19 8 = .ok (.getfield 22, 3) := by decide +kernel
theorem d23_11 : decode oC19 11 = .ok (.ishl, 1) := by decide +kernel
theorem d23_12 : decode oC19 12 = .ok (.istore_n 3, 1) := by decide +kernel
theorem d23_13 : decode oC19 13 = .ok (.iload_n 3, 1) := by decide +kernel
theorem d23_14 : decode oC19 14 = .ok (.iload_n 2, 1) := by decide +kernel
theorem d23_15 : decode oC19 15 = .ok (.isub, 1) := by decide +kernel
theorem d23_16 : decode oC19 16 = .ok (.istore 4, 2) := by decide +kernel
theorem d23_18 : decode oC19 18 = .ok (.iload_n 2, 1) := by decide +kernel
theorem d23_19 : decode oC19 19 = .ok (.iload 4, 2) := by decide +kernel
theorem d23_21 : decode oC19 21 = .ok (.iload_n 2, 1) := by decide +kernel
theorem d23_22 : decode oC19 22 = .ok (.iconst 2, 1) := by decide +kernel
theorem d23_23 : decode oC19 23 = .ok (.aload_n 0, 1) := by decide +kernel
theorem d23_24 : decode oC19 24 = .ok (.getfield 22, 3) := by decide +kernel
theorem d23_27 : decode oC19 27 = .ok (.ishl, 1) := by decide +kernel
theorem d23_28 : decode oC19 28 = .ok (.iadd, 1) := by decide +kernel
theorem d23_29 : decode oC19 29 = .ok (.invokestatic 114, 3) := by decide +kernel
theorem d23_32 : decode oC19 32 = .ok (.istore 5, 2) := by decide +kernel
theorem d23_34 : decode oC19 34 = .ok (.iload 5, 2) := by decide +kernel
theorem d23_36 : decode oC19 36 = .ok (.ldc 39, 2) := by decide +kernel
theorem d23_38 : decode oC19 38 = .ok (.if_icmp .ne 13, 3) := by decide +kernel
theorem d23_51 : decode oC19 51 = .ok (.iload 5, 2) := by decide +kernel
theorem d23_53 : decode oC19 53 = .ok (.aload_n 0, 1) := by decide +kernel
theorem d23_54 : decode oC19 54 = .ok (.getfield 22, 3) := by decide +kernel
theorem d23_57 : decode oC19 57 = .ok (.ishr, 1) := by decide +kernel
theorem d23_58 : decode oC19 58 = .ok (.ireturn, 1) := by decide +kernel
theorem m_nc30 (l : Launch) (Z : State) (a0 : Array Value) (hw : oH Z a0) (n0 : Nat) (h0 : Heap) (b u : Addr) (ku : ClassId) (z0 z1 z2 z3 z4 z5 z6 z7 z8 : Int32) (X0 : Old Z n0 h0) (Eb : Exa Z h0 b "java/lang/StringBuilder") (gb : n0 ≤ b) (Bv : Fld Z h0 b "java/lang/AbstractStringBuilder" "value" "[B" (.ref u)) (Bc : Fld Z h0 b "java/lang/AbstractStringBuilder" "coder" "B" (.int (0 : Int32))) (Bn : Fld Z h0 b "java/lang/AbstractStringBuilder" "count" "I" (.int (9 : Int32))) (Eu : Exa Z h0 u "[B") (gu : n0 ≤ u) (Au : Arv Z h0 u ku .byte (16 : Int32) [(.int z0), (.int z1), (.int z2), (.int z3), (.int z4), (.int z5), (.int z6), (.int z7), (.int z8), oZ, oZ, oZ, oZ, oZ, oZ, oZ] oZ) :
    Met l Z oM19 oC19 6 (some .int) (oR 2 0 0 32) n0 [] #[(.ref b), (.int (30 : Int32))] h0 (fun v h => v = some (.int (34 : Int32)) ∧ h0 = h) := by
  refine Met.intro (Ls := #[.val (.ref b), .val (.int (30 : Int32)), .unset, .unset, .unset, .unset]) (plainFor_of_name pn_m_asi) hw (fun _ => rfl) ?_
  intro w K0
  have K : oK19 w Z a0 := K0
  refine Rn.aloadN K (q := 1) d23_0 rfl rfl rfl ?_
  refine Rn.getF K (q := 4) (oT 83 rfl) Via.refl Bv d23_1 rfl ?_
  refine Rn.arraylength K (q := 5) Au d23_4 rfl ?_
  refine Rn.istoreN K (q := 6) (Ls' := #[.val (.ref b), .val (.int (30 : Int32)), .val (.int (16 : Int32)), .unset, .unset, .unset]) d23_5 rfl rfl ?_
  refine Rn.iloadN K (q := 7) d23_6 rfl rfl ?_
  refine Rn.aloadN K (q := 8) d23_7 rfl rfl rfl ?_
  refine Rn.getF K (q := 11) (oT 85 rfl) Via.refl Bc d23_8 rfl ?_
  refine Rn.ishl K (q := 12) d23_11 rfl ?_
  rw [show ((30 : Int32) <<< ((0 : Int32) &&& 31)) = (30 : Int32) from by decide]
  show Rn w l _ n0 _ 12 _ [(.int (30 : Int32))] h0 0 0
  refine Rn.istoreN K (q := 13) (Ls' := #[.val (.ref b), .val (.int (30 : Int32)), .val (.int (16 : Int32)), .val (.int (30 : Int32)), .unset, .unset]) d23_12 rfl rfl ?_
  refine Rn.iloadN K (q := 14) d23_13 rfl rfl ?_
  refine Rn.iloadN K (q := 15) d23_14 rfl rfl ?_
  refine Rn.isub K (q := 16) d23_15 rfl ?_
  show Rn w l _ n0 _ 16 _ [(.int (14 : Int32))] h0 0 0
  refine Rn.istore K (q := 18) (Ls' := #[.val (.ref b), .val (.int (30 : Int32)), .val (.int (16 : Int32)), .val (.int (30 : Int32)), .val (.int (14 : Int32)), .unset]) d23_16 rfl rfl ?_
  refine Rn.iloadN K (q := 19) d23_18 rfl rfl ?_
  refine Rn.iload K (q := 21) d23_19 rfl rfl ?_
  refine Rn.iloadN K (q := 22) d23_21 rfl rfl ?_
  refine Rn.iconst K (q := 23) (2 : Int32) d23_22 rfl rfl ?_
  refine Rn.aloadN K (q := 24) d23_23 rfl rfl rfl ?_
  refine Rn.getF K (q := 27) (oT 85 rfl) Via.refl Bc d23_24 rfl ?_
  refine Rn.ishl K (q := 28) d23_27 rfl ?_
  rw [show ((2 : Int32) <<< ((0 : Int32) &&& 31)) = (2 : Int32) from by decide]
  show Rn w l _ n0 _ 28 _ [(.int (2 : Int32)), (.int (16 : Int32)), (.int (14 : Int32)), (.int (16 : Int32))] h0 0 0
  refine Rn.iadd K (q := 29) d23_28 rfl ?_
  show Rn w l _ n0 _ 29 _ [(.int (18 : Int32)), (.int (14 : Int32)), (.int (16 : Int32))] h0 0 0
  refine Rn.stat K (q := 32) (W := 0) (y := oM13) (argsL := [(.int (16 : Int32)), (.int (14 : Int32)), (.int (18 : Int32))]) (rest := []) (oT 141 rfl) (oT 142 rfl) (oT 144 rfl) (oT 143 rfl) (by decide) (m_nl14 l Z a0 hw n0 h0 X0) (by decide) (by decide) rfl (lenOf pd_8 rfl) rfl (oL rfl) d23_29 rfl (by decide) (by decide) ?_
  rintro _ _ ⟨rfl, rfl⟩
  show Rn w l _ n0 _ 32 _ [(.int (34 : Int32))] h0 0 0
  refine Rn.istore K (q := 34) (Ls' := #[.val (.ref b), .val (.int (30 : Int32)), .val (.int (16 : Int32)), .val (.int (30 : Int32)), .val (.int (14 : Int32)), .val (.int (34 : Int32))]) d23_32 rfl rfl ?_
  refine Rn.iload K (q := 36) d23_34 rfl rfl ?_
  refine Rn.ldcI K (q := 38) (2147483647 : Int32) (oT 150 rfl) d23_36 rfl ?_
  refine Rn.icY K (q := 51) d23_38 (XT.ii_ne_t (by decide)) (by decide) (by decide) ?_
  refine Rn.iload K (q := 53) d23_51 rfl rfl ?_
  refine Rn.aloadN K (q := 54) d23_53 rfl rfl rfl ?_
  refine Rn.getF K (q := 57) (oT 85 rfl) Via.refl Bc d23_54 rfl ?_
  refine Rn.ishr K (q := 58) d23_57 rfl ?_
  rw [show ((34 : Int32) >>> ((0 : Int32) &&& 31)) = (34 : Int32) from by decide]
  show Rn w l _ n0 _ 58 _ [(.int (34 : Int32))] h0 0 0
  exact Rn.retI K rfl d23_58 (by decide) (by decide) ⟨rfl, rfl⟩
theorem d19_17 : decode oC18 17 = .ok (.aload_n 0, 1) := by decide +kernel
theorem d19_18 : decode oC18 18 = .ok (.aload_n 0, 1) := by decide +kernel
theorem d19_19 : decode oC18 19 = .ok (.getfield 15, 3) := by decide +kernel
theorem d19_22 : decode oC18 22 = .ok (.aload_n 0, 1) := by decide +kernel
theorem d19_23 : decode oC18 23 = .ok (.iload_n 1, 1) := by decide +kernel
theorem d19_24 : decode oC18 24 = .ok (.invokevirtual 104, 3) := by decide +kernel
theorem d19_27 : decode oC18 27 = .ok (.aload_n 0, 1) := by decide +kernel
theorem d19_28 : decode oC18 28 = .ok (.getfield 22, 3) := by decide +kernel
theorem d19_31 : decode oC18 31 = .ok (.ishl, 1) := by decide +kernel
theorem d19_32 : decode oC18 32 = .ok (.invokestatic 108, 3) := by decide +kernel
theorem d19_35 : decode oC18 35 = .ok (.putfield 15, 3) := by decide +kernel
theorem m_ensG30 (l : Launch) (Z : State) (a0 : Array Value) (hw : oH Z a0) (n0 : Nat) (h0 : Heap) (b u : Addr) (ku : ClassId) (z0 z1 z2 z3 z4 z5 z6 z7 z8 : Int32) (X0 : Old Z n0 h0) (Eb : Exa Z h0 b "java/lang/StringBuilder") (gb : n0 ≤ b) (Bv : Fld Z h0 b "java/lang/AbstractStringBuilder" "value" "[B" (.ref u)) (Bc : Fld Z h0 b "java/lang/AbstractStringBuilder" "coder" "B" (.int (0 : Int32))) (Bn : Fld Z h0 b "java/lang/AbstractStringBuilder" "count" "I" (.int (9 : Int32))) (Eu : Exa Z h0 u "[B") (gu : n0 ≤ u) (Au : Arv Z h0 u ku .byte (16 : Int32) [(.int z0), (.int z1), (.int z2), (.int z3), (.int z4), (.int z5), (.int z6), (.int z7), (.int z8), oZ, oZ, oZ, oZ, oZ, oZ, oZ] oZ) :
    Met l Z oM18 oC18 3 none (oR 3 1 34 80) n0 [] #[(.ref b), (.int (30 : Int32))] h0 (fun r h => r = none ∧ Keep h0 h [b] ∧ ∃ u k, h0.size ≤ u ∧ n0 ≤ u ∧ Fld Z h b "java/lang/AbstractStringBuilder" "value" "[B" (.ref u) ∧ Fld Z h b "java/lang/AbstractStringBuilder" "coder" "B" (.int (0 : Int32)) ∧ Fld Z h b "java/lang/AbstractStringBuilder" "count" "I" (.int (9 : Int32)) ∧ Exa Z h u "[B" ∧ Arv Z h u k .byte (34 : Int32) [(.int z0), (.int z1), (.int z2), (.int z3), (.int z4), (.int z5), (.int z6), (.int z7), (.int z8), oZ, oZ, oZ, oZ, oZ, oZ, oZ, oZ, oZ, oZ, oZ, oZ, oZ, oZ, oZ, oZ, oZ, oZ, oZ, oZ, oZ, oZ, oZ, oZ, oZ] oZ) := by
  refine Met.intro (Ls := #[.val (.ref b), .val (.int (30 : Int32)), .unset]) (plainFor_of_name pn_m_asi) hw (fun _ => rfl) ?_
  intro w K0
  have K : oK18 w Z a0 := K0
  have K1 := Keep.refl h0 [b]
  refine Rn.aloadN K (q := 1) d19_0 rfl rfl rfl ?_
  refine Rn.getF K (q := 4) (oT 83 rfl) Via.refl Bv d19_1 rfl ?_
  refine Rn.arraylength K (q := 5) Au d19_4 rfl ?_
  refine Rn.aloadN K (q := 6) d19_5 rfl rfl rfl ?_
  refine Rn.getF K (q := 9) (oT 85 rfl) Via.refl Bc d19_6 rfl ?_
  refine Rn.ishr K (q := 10) d19_9 rfl ?_
  rw [show ((16 : Int32) >>> ((0 : Int32) &&& 31)) = (16 : Int32) from by decide]
  show Rn w l _ n0 _ 10 _ [(.int (16 : Int32))] h0 0 0
  refine Rn.istoreN K (q := 11) (Ls' := #[.val (.ref b), .val (.int (30 : Int32)), .val (.int (16 : Int32))]) d19_10 rfl rfl ?_
  refine Rn.iloadN K (q := 12) d19_11 rfl rfl ?_
  refine Rn.iloadN K (q := 13) d19_12 rfl rfl ?_
  refine Rn.isub K (q := 14) d19_13 rfl ?_
  show Rn w l _ n0 _ 14 _ [(.int (14 : Int32))] h0 0 0
  refine Rn.ifN K (q := 17) d19_14 (XT.i0_le_f (by decide)) rfl ?_
  refine Rn.aloadN K (q := 18) d19_17 rfl rfl rfl ?_
  refine Rn.aloadN K (q := 19) d19_18 rfl rfl rfl ?_
  refine Rn.getF K (q := 22) (oT 83 rfl) Via.refl Bv d19_19 rfl ?_
  refine Rn.aloadN K (q := 23) d19_22 rfl rfl rfl ?_
  refine Rn.iloadN K (q := 24) d19_23 rfl rfl ?_
  refine Rn.privC K (q := 27) (W := 2) (y := oM19) (b := b) (argsL := [(.int (30 : Int32))]) (rest := [(.ref u), (.ref b)]) (oT 136 rfl) (oT 137 rfl) (oT 139 rfl) (oT 138 rfl) (oT 140 rfl) (oT 79 rfl) (by decide) (m_nc30 l Z a0 hw n0 h0 b u ku z0 z1 z2 z3 z4 z5 z6 z7 z8 X0 Eb gb Bv Bc Bn Eu gu Au) Eb (by decide) (by decide) rfl (lenOf pd_9 rfl) rfl (oL rfl) d19_24 rfl (by decide) (by decide) ?_
  rintro _ _ ⟨rfl, rfl⟩
  show Rn w l _ n0 _ 27 _ [(.int (34 : Int32)), (.ref u), (.ref b)] h0 0 0
  refine Rn.aloadN K (q := 28) d19_27 rfl rfl rfl ?_
  refine Rn.getF K (q := 31) (oT 85 rfl) Via.refl Bc d19_28 rfl ?_
  refine Rn.ishl K (q := 32) d19_31 rfl ?_
  rw [show ((34 : Int32) <<< ((0 : Int32) &&& 31)) = (34 : Int32) from by decide]
  show Rn w l _ n0 _ 32 _ [(.int (34 : Int32)), (.ref u), (.ref b)] h0 0 0
  refine Rn.stat K (q := 35) (W := 1) (y := oM17) (argsL := [(.ref u), (.int (34 : Int32))]) (rest := [(.ref b)]) (oT 151 rfl) (oT 152 rfl) (oT 154 rfl) (oT 153 rfl) (by decide) (m_cpo l Z a0 hw n0 h0 u ku z0 z1 z2 z3 z4 z5 z6 z7 z8 X0 Au) (by decide) (by decide) rfl (lenOf pd_10 rfl) rfl (oL rfl) d19_32 rfl (by decide) (by decide) ?_
  rintro _ h1 ⟨u2, k2, rfl, su2, gu2, K2, E3, A4⟩
  have f6 := K1.trans K2 all0
  have f7 := Eb.keep K2
  have f8 := Bv.keep K2 nin0
  have f9 := Bc.keep K2 nin0
  have f10 := Bn.keep K2 nin0
  show Rn w l _ n0 _ 35 _ [(.ref u2), (.ref b)] h1 1 34
  refine Rn.putF K (q := 38) (ty := (.array .byte)) (oT 83 rfl) Via.refl f8 f7 (Or.inl (oT 84 rfl)) (oT 70 rfl) (by decide) rfl rfl gb d19_35 rfl ?_
  intro h13 W14
  have f16 := f6.wr W14 (Or.inl (oT 0 rfl))
  have f18 := Fld.same W14 f8
  have f19 := Fld.other W14 f9 (Or.inr (slot_ne (Or.inl (K.hw _ (oT 86 rfl))) (Or.inl (K.hw _ (oT 84 rfl))) (by decide) (t := .byte) (t' := (.array .byte)) (by decide) (by decide)))
  have f20 := Fld.other W14 f10 (Or.inr (slot_ne (Or.inl (K.hw _ (oT 109 rfl))) (Or.inl (K.hw _ (oT 84 rfl))) (by decide) (t := .int) (t' := (.array .byte)) (by decide) (by decide)))
  have f23 := E3.wr W14
  have f24 := A4.other W14 (ne_exa E3 f7 (by decide))
  exact Rn.retV K rfl d19_38 (by decide) (by decide) ⟨rfl, f16, _, _, su2, gu2, f18, f19, f20, f23, f24⟩
theorem m_nc23 (l : Launch) (Z : State) (a0 : Array Value) (hw : oH Z a0) (n0 : Nat) (h0 : Heap) (b u : Addr) (ku : ClassId) (z0 z1 z2 z3 z4 z5 z6 z7 z8 : Int32) (X0 : Old Z n0 h0) (Eb : Exa Z h0 b "java/lang/StringBuilder") (gb : n0 ≤ b) (Bv : Fld Z h0 b "java/lang/AbstractStringBuilder" "value" "[B" (.ref u)) (Bc : Fld Z h0 b "java/lang/AbstractStringBuilder" "coder" "B" (.int (0 : Int32))) (Bn : Fld Z h0 b "java/lang/AbstractStringBuilder" "count" "I" (.int (9 : Int32))) (Eu : Exa Z h0 u "[B") (gu : n0 ≤ u) (Au : Arv Z h0 u ku .byte (16 : Int32) [(.int z0), (.int z1), (.int z2), (.int z3), (.int z4), (.int z5), (.int z6), (.int z7), (.int z8), oZ, oZ, oZ, oZ, oZ, oZ, oZ] oZ) :
    Met l Z oM19 oC19 6 (some .int) (oR 2 0 0 32) n0 [] #[(.ref b), (.int (23 : Int32))] h0 (fun v h => v = some (.int (34 : Int32)) ∧ h0 = h) := by
  refine Met.intro (Ls := #[.val (.ref b), .val (.int (23 : Int32)), .unset, .unset, .unset, .unset]) (plainFor_of_name pn_m_asi) hw (fun _ => rfl) ?_
  intro w K0
  have K : oK19 w Z a0 := K0
  refine Rn.aloadN K (q := 1) d23_0 rfl rfl rfl ?_
  refine Rn.getF K (q := 4) (oT 83 rfl) Via.refl Bv d23_1 rfl ?_
  refine Rn.arraylength K (q := 5) Au d23_4 rfl ?_
  refine Rn.istoreN K (q := 6) (Ls' := #[.val (.ref b), .val (.int (23 : Int32)), .val (.int (16 : Int32)), .unset, .unset, .unset]) d23_5 rfl rfl ?_
  refine Rn.iloadN K (q := 7) d23_6 rfl rfl ?_
  refine Rn.aloadN K (q := 8) d23_7 rfl rfl rfl ?_
  refine Rn.getF K (q := 11) (oT 85 rfl) Via.refl Bc d23_8 rfl ?_
  refine Rn.ishl K (q := 12) d23_11 rfl ?_
  rw [show ((23 : Int32) <<< ((0 : Int32) &&& 31)) = (23 : Int32) from by decide]
  show Rn w l _ n0 _ 12 _ [(.int (23 : Int32))] h0 0 0
  refine Rn.istoreN K (q := 13) (Ls' := #[.val (.ref b), .val (.int (23 : Int32)), .val (.int (16 : Int32)), .val (.int (23 : Int32)), .unset, .unset]) d23_12 rfl rfl ?_
  refine Rn.iloadN K (q := 14) d23_13 rfl rfl ?_
  refine Rn.iloadN K (q := 15) d23_14 rfl rfl ?_
  refine Rn.isub K (q := 16) d23_15 rfl ?_
  show Rn w l _ n0 _ 16 _ [(.int (7 : Int32))] h0 0 0
  refine Rn.istore K (q := 18) (Ls' := #[.val (.ref b), .val (.int (23 : Int32)), .val (.int (16 : Int32)), .val (.int (23 : Int32)), .val (.int (7 : Int32)), .unset]) d23_16 rfl rfl ?_
  refine Rn.iloadN K (q := 19) d23_18 rfl rfl ?_
  refine Rn.iload K (q := 21) d23_19 rfl rfl ?_
  refine Rn.iloadN K (q := 22) d23_21 rfl rfl ?_
  refine Rn.iconst K (q := 23) (2 : Int32) d23_22 rfl rfl ?_
  refine Rn.aloadN K (q := 24) d23_23 rfl rfl rfl ?_
  refine Rn.getF K (q := 27) (oT 85 rfl) Via.refl Bc d23_24 rfl ?_
  refine Rn.ishl K (q := 28) d23_27 rfl ?_
  rw [show ((2 : Int32) <<< ((0 : Int32) &&& 31)) = (2 : Int32) from by decide]
  show Rn w l _ n0 _ 28 _ [(.int (2 : Int32)), (.int (16 : Int32)), (.int (7 : Int32)), (.int (16 : Int32))] h0 0 0
  refine Rn.iadd K (q := 29) d23_28 rfl ?_
  show Rn w l _ n0 _ 29 _ [(.int (18 : Int32)), (.int (7 : Int32)), (.int (16 : Int32))] h0 0 0
  refine Rn.stat K (q := 32) (W := 0) (y := oM13) (argsL := [(.int (16 : Int32)), (.int (7 : Int32)), (.int (18 : Int32))]) (rest := []) (oT 141 rfl) (oT 142 rfl) (oT 144 rfl) (oT 143 rfl) (by decide) (m_nl7 l Z a0 hw n0 h0 X0) (by decide) (by decide) rfl (lenOf pd_8 rfl) rfl (oL rfl) d23_29 rfl (by decide) (by decide) ?_
  rintro _ _ ⟨rfl, rfl⟩
  show Rn w l _ n0 _ 32 _ [(.int (34 : Int32))] h0 0 0
  refine Rn.istore K (q := 34) (Ls' := #[.val (.ref b), .val (.int (23 : Int32)), .val (.int (16 : Int32)), .val (.int (23 : Int32)), .val (.int (7 : Int32)), .val (.int (34 : Int32))]) d23_32 rfl rfl ?_
  refine Rn.iload K (q := 36) d23_34 rfl rfl ?_
  refine Rn.ldcI K (q := 38) (2147483647 : Int32) (oT 150 rfl) d23_36 rfl ?_
  refine Rn.icY K (q := 51) d23_38 (XT.ii_ne_t (by decide)) (by decide) (by decide) ?_
  refine Rn.iload K (q := 53) d23_51 rfl rfl ?_
  refine Rn.aloadN K (q := 54) d23_53 rfl rfl rfl ?_
  refine Rn.getF K (q := 57) (oT 85 rfl) Via.refl Bc d23_54 rfl ?_
  refine Rn.ishr K (q := 58) d23_57 rfl ?_
  rw [show ((34 : Int32) >>> ((0 : Int32) &&& 31)) = (34 : Int32) from by decide]
  show Rn w l _ n0 _ 58 _ [(.int (34 : Int32))] h0 0 0
  exact Rn.retI K rfl d23_58 (by decide) (by decide) ⟨rfl, rfl⟩
theorem m_ensG23 (l : Launch) (Z : State) (a0 : Array Value) (hw : oH Z a0) (n0 : Nat) (h0 : Heap) (b u : Addr) (ku : ClassId) (z0 z1 z2 z3 z4 z5 z6 z7 z8 : Int32) (X0 : Old Z n0 h0) (Eb : Exa Z h0 b "java/lang/StringBuilder") (gb : n0 ≤ b) (Bv : Fld Z h0 b "java/lang/AbstractStringBuilder" "value" "[B" (.ref u)) (Bc : Fld Z h0 b "java/lang/AbstractStringBuilder" "coder" "B" (.int (0 : Int32))) (Bn : Fld Z h0 b "java/lang/AbstractStringBuilder" "count" "I" (.int (9 : Int32))) (Eu : Exa Z h0 u "[B") (gu : n0 ≤ u) (Au : Arv Z h0 u ku .byte (16 : Int32) [(.int z0), (.int z1), (.int z2), (.int z3), (.int z4), (.int z5), (.int z6), (.int z7), (.int z8), oZ, oZ, oZ, oZ, oZ, oZ, oZ] oZ) :
    Met l Z oM18 oC18 3 none (oR 3 1 34 80) n0 [] #[(.ref b), (.int (23 : Int32))] h0 (fun r h => r = none ∧ Keep h0 h [b] ∧ ∃ u k, h0.size ≤ u ∧ n0 ≤ u ∧ Fld Z h b "java/lang/AbstractStringBuilder" "value" "[B" (.ref u) ∧ Fld Z h b "java/lang/AbstractStringBuilder" "coder" "B" (.int (0 : Int32)) ∧ Fld Z h b "java/lang/AbstractStringBuilder" "count" "I" (.int (9 : Int32)) ∧ Exa Z h u "[B" ∧ Arv Z h u k .byte (34 : Int32) [(.int z0), (.int z1), (.int z2), (.int z3), (.int z4), (.int z5), (.int z6), (.int z7), (.int z8), oZ, oZ, oZ, oZ, oZ, oZ, oZ, oZ, oZ, oZ, oZ, oZ, oZ, oZ, oZ, oZ, oZ, oZ, oZ, oZ, oZ, oZ, oZ, oZ, oZ] oZ) := by
  refine Met.intro (Ls := #[.val (.ref b), .val (.int (23 : Int32)), .unset]) (plainFor_of_name pn_m_asi) hw (fun _ => rfl) ?_
  intro w K0
  have K : oK18 w Z a0 := K0
  have K1 := Keep.refl h0 [b]
  refine Rn.aloadN K (q := 1) d19_0 rfl rfl rfl ?_
  refine Rn.getF K (q := 4) (oT 83 rfl) Via.refl Bv d19_1 rfl ?_
  refine Rn.arraylength K (q := 5) Au d19_4 rfl ?_
  refine Rn.aloadN K (q := 6) d19_5 rfl rfl rfl ?_
  refine Rn.getF K (q := 9) (oT 85 rfl) Via.refl Bc d19_6 rfl ?_
  refine Rn.ishr K (q := 10) d19_9 rfl ?_
  rw [show ((16 : Int32) >>> ((0 : Int32) &&& 31)) = (16 : Int32) from by decide]
  show Rn w l _ n0 _ 10 _ [(.int (16 : Int32))] h0 0 0
  refine Rn.istoreN K (q := 11) (Ls' := #[.val (.ref b), .val (.int (23 : Int32)), .val (.int (16 : Int32))]) d19_10 rfl rfl ?_
  refine Rn.iloadN K (q := 12) d19_11 rfl rfl ?_
  refine Rn.iloadN K (q := 13) d19_12 rfl rfl ?_
  refine Rn.isub K (q := 14) d19_13 rfl ?_
  show Rn w l _ n0 _ 14 _ [(.int (7 : Int32))] h0 0 0
  refine Rn.ifN K (q := 17) d19_14 (XT.i0_le_f (by decide)) rfl ?_
  refine Rn.aloadN K (q := 18) d19_17 rfl rfl rfl ?_
  refine Rn.aloadN K (q := 19) d19_18 rfl rfl rfl ?_
  refine Rn.getF K (q := 22) (oT 83 rfl) Via.refl Bv d19_19 rfl ?_
  refine Rn.aloadN K (q := 23) d19_22 rfl rfl rfl ?_
  refine Rn.iloadN K (q := 24) d19_23 rfl rfl ?_
  refine Rn.privC K (q := 27) (W := 2) (y := oM19) (b := b) (argsL := [(.int (23 : Int32))]) (rest := [(.ref u), (.ref b)]) (oT 136 rfl) (oT 137 rfl) (oT 139 rfl) (oT 138 rfl) (oT 140 rfl) (oT 79 rfl) (by decide) (m_nc23 l Z a0 hw n0 h0 b u ku z0 z1 z2 z3 z4 z5 z6 z7 z8 X0 Eb gb Bv Bc Bn Eu gu Au) Eb (by decide) (by decide) rfl (lenOf pd_9 rfl) rfl (oL rfl) d19_24 rfl (by decide) (by decide) ?_
  rintro _ _ ⟨rfl, rfl⟩
  show Rn w l _ n0 _ 27 _ [(.int (34 : Int32)), (.ref u), (.ref b)] h0 0 0
  refine Rn.aloadN K (q := 28) d19_27 rfl rfl rfl ?_
  refine Rn.getF K (q := 31) (oT 85 rfl) Via.refl Bc d19_28 rfl ?_
  refine Rn.ishl K (q := 32) d19_31 rfl ?_
  rw [show ((34 : Int32) <<< ((0 : Int32) &&& 31)) = (34 : Int32) from by decide]
  show Rn w l _ n0 _ 32 _ [(.int (34 : Int32)), (.ref u), (.ref b)] h0 0 0
  refine Rn.stat K (q := 35) (W := 1) (y := oM17) (argsL := [(.ref u), (.int (34 : Int32))]) (rest := [(.ref b)]) (oT 151 rfl) (oT 152 rfl) (oT 154 rfl) (oT 153 rfl) (by decide) (m_cpo l Z a0 hw n0 h0 u ku z0 z1 z2 z3 z4 z5 z6 z7 z8 X0 Au) (by decide) (by decide) rfl (lenOf pd_10 rfl) rfl (oL rfl) d19_32 rfl (by decide) (by decide) ?_
  rintro _ h1 ⟨u2, k2, rfl, su2, gu2, K2, E3, A4⟩
  have f6 := K1.trans K2 all0
  have f7 := Eb.keep K2
  have f8 := Bv.keep K2 nin0
  have f9 := Bc.keep K2 nin0
  have f10 := Bn.keep K2 nin0
  show Rn w l _ n0 _ 35 _ [(.ref u2), (.ref b)] h1 1 34
  refine Rn.putF K (q := 38) (ty := (.array .byte)) (oT 83 rfl) Via.refl f8 f7 (Or.inl (oT 84 rfl)) (oT 70 rfl) (by decide) rfl rfl gb d19_35 rfl ?_
  intro h13 W14
  have f16 := f6.wr W14 (Or.inl (oT 0 rfl))
  have f18 := Fld.same W14 f8
  have f19 := Fld.other W14 f9 (Or.inr (slot_ne (Or.inl (K.hw _ (oT 86 rfl))) (Or.inl (K.hw _ (oT 84 rfl))) (by decide) (t := .byte) (t' := (.array .byte)) (by decide) (by decide)))
  have f20 := Fld.other W14 f10 (Or.inr (slot_ne (Or.inl (K.hw _ (oT 109 rfl))) (Or.inl (K.hw _ (oT 84 rfl))) (by decide) (t := .int) (t' := (.array .byte)) (by decide) (by decide)))
  have f23 := E3.wr W14
  have f24 := A4.other W14 (ne_exa E3 f7 (by decide))
  exact Rn.retV K rfl d19_38 (by decide) (by decide) ⟨rfl, f16, _, _, su2, gu2, f18, f19, f20, f23, f24⟩
theorem d22_0 : decode oC20 0 = .ok (.aload_n 0, 1) := by decide +kernel
theorem d22_1 : decode oC20 1 = .ok (.invokevirtual 335, 3) := by decide +kernel
theorem d22_4 : decode oC20 4 = .ok (.iload_n 3, 1) := by decide +kernel
theorem d22_5 : decode oC20 5 = .ok (.if_icmp .ne 23, 3) := by decide +kernel
theorem d22_8 : decode oC20 8 = .ok (.aload_n 0, 1) := by decide +kernel
theorem d22_9 : decode oC20 9 = .ok (.getfield 9, 3) := by decide +kernel
theorem d22_12 : decode oC20 12 = .ok (.iconst 0, 1) := by decide +kernel
theorem d22_13 : decode oC20 13 = .ok (.aload_n 1, 1) := by decide +kernel
theorem d22_14 : decode oC20 14 = .ok (.iload_n 2, 1) := by decide +kernel
theorem d22_15 : decode oC20 15 = .ok (.iload_n 3, 1) := by decide +kernel
theorem d22_16 : decode oC20 16 = .ok (.ishl, 1) := by decide +kernel
theorem d22_17 : decode oC20 17 = .ok (.aload_n 0, 1) := by decide +kernel
theorem d22_18 : decode oC20 18 = .ok (.getfield 9, 3) := by decide +kernel
theorem d22_21 : decode oC20 21 = .ok (.arraylength, 1) := by decide +kernel
theorem d22_22 : decode oC20 22 = .ok (.invokestatic 212, 3) := by decide +kernel
theorem d22_25 : decode oC20 25 = .ok (.goto 18, 3) := by decide +kernel
theorem d22_43 : decode oC20 43 = .ok (.return_, 1) := by decide +kernel
theorem m_gb16_0_7 (l : Launch) (Z : State) (a0 : Array Value) (hw : oH Z a0) (n0 : Nat) (h0 : Heap) (u : Addr) (ku : ClassId)  (s v : Addr) (k : ClassId) (x0 x1 x2 x3 x4 x5 x6 : Int32) (cst : Int32) (X0 : Old Z n0 h0) (SC : oSC Z cst) (hcs : ¬ cst = 0) (Es : Exa Z h0 s "java/lang/String") (Fc : Fld Z h0 s "java/lang/String" "coder" "B" (.int (0 : Int32))) (Fv : Fld Z h0 s "java/lang/String" "value" "[B" (.ref v)) (Av : Arv Z h0 v k .byte (7 : Int32) [(.int x0), (.int x1), (.int x2), (.int x3), (.int x4), (.int x5), (.int x6)] oZ) (gu : n0 ≤ u) (Eu : Exa Z h0 u "[B") (Au : Arv Z h0 u ku .byte (16 : Int32) [oZ, oZ, oZ, oZ, oZ, oZ, oZ, oZ, oZ, oZ, oZ, oZ, oZ, oZ, oZ, oZ] oZ) (hvu : v ≠ u) :
    Met l Z oM20 oC20 4 none (oR 1 0 0 44) n0 [] #[(.ref s), (.ref u), oZ, oZ] h0 (fun r h => r = none ∧ Keep h0 h [u] ∧ Arv Z h u ku .byte (16 : Int32) [(.int x0), (.int x1), (.int x2), (.int x3), (.int x4), (.int x5), (.int x6), oZ, oZ, oZ, oZ, oZ, oZ, oZ, oZ, oZ] oZ) := by
  refine Met.intro (Ls := #[.val (.ref s), .val (.ref u), .val oZ, .val oZ]) (plainFor_of_name pn_m_coder) hw (fun _ => rfl) ?_
  intro w K0
  have K : oK20 w Z a0 := K0
  have K1 := Keep.refl h0 [u]
  refine Rn.aloadN K (q := 1) d22_0 rfl rfl rfl ?_
  refine Rn.virt K (q := 4) (W := 0) (y := oM0) (z := oM0) (b := s) (argsL := []) (rest := []) (oT 103 rfl) (oT 104 rfl) (nfs K (oT 106 rfl)) (oT 106 rfl) (oT 105 rfl) (oT 107 rfl) (oT 2 rfl) (by decide) (m_coder l Z a0 hw n0 h0 s cst X0 SC hcs Fc) Es (by decide) (by decide) rfl (lenOf pd_1 rfl) rfl (oL rfl) d22_1 rfl (by decide) (by decide) ?_
  rintro _ _ ⟨rfl, rfl⟩
  show Rn w l _ n0 _ 4 _ [oZ] h0 0 0
  refine Rn.iloadN K (q := 5) d22_4 rfl rfl ?_
  refine Rn.icN K (q := 8) d22_5 (XT.ii_ne_f rfl) rfl ?_
  refine Rn.aloadN K (q := 9) d22_8 rfl rfl rfl ?_
  refine Rn.getF K (q := 12) (oT 28 rfl) Via.refl Fv d22_9 rfl ?_
  refine Rn.iconst K (q := 13) (0 : Int32) d22_12 rfl rfl ?_
  refine Rn.aloadN K (q := 14) d22_13 rfl rfl rfl ?_
  refine Rn.iloadN K (q := 15) d22_14 rfl rfl ?_
  refine Rn.iloadN K (q := 16) d22_15 rfl rfl ?_
  refine Rn.ishl K (q := 17) d22_16 rfl ?_
  rw [show ((0 : Int32) <<< ((0 : Int32) &&& 31)) = (0 : Int32) from by decide]
  show Rn w l _ n0 _ 17 _ [oZ, (.ref u), oZ, (.ref v)] h0 0 0
  refine Rn.aloadN K (q := 18) d22_17 rfl rfl rfl ?_
  refine Rn.getF K (q := 21) (oT 28 rfl) Via.refl Fv d22_18 rfl ?_
  refine Rn.arraylength K (q := 22) Av d22_21 rfl ?_
  refine Rn.acopy K (q := 25) (W := 0) (o := 0) (p := 0) (n := 7) (z := 16) (by decide) rfl (oT 131 rfl) (oT 134 rfl) (oT 132 rfl) (oT 133 rfl) Av Au (by decide) (by decide) (by decide) (by decide) (by decide) (by decide) gu rfl (oL rfl) (by decide) (by decide) d22_22 rfl ?_
  intro h1 K2 A3
  have f5 := K1.trans K2 (allS (Or.inl (oT 0 rfl)) all0)
  replace A3 : Arv Z h1 u ku .byte (16 : Int32) [(.int x0), (.int x1), (.int x2), (.int x3), (.int x4), (.int x5), (.int x6), oZ, oZ, oZ, oZ, oZ, oZ, oZ, oZ, oZ] oZ := A3
  show Rn w l _ n0 _ 25 _ [] h1 0 0
  refine Rn.goto K (q := 43) d22_25 (by decide) (by decide) ?_
  exact Rn.retV K rfl d22_43 (by decide) (by decide) ⟨rfl, f5, A3⟩
theorem d20_0 : decode oC21 0 = .ok (.aload_n 0, 1) := by decide +kernel
theorem d20_1 : decode oC21 1 = .ok (.aload_n 2, 1) := by decide +kernel
theorem d20_2 : decode oC21 2 = .ok (.invokevirtual 397, 3) := by decide +kernel
theorem d20_5 : decode oC21 5 = .ok (.aload_n 2, 1) := by decide +kernel
theorem d20_6 : decode oC21 6 = .ok (.aload_n 0, 1) := by decide +kernel
theorem d20_7 : decode oC21 7 = .ok (.getfield 15, 3) := by decide +kernel
theorem d20_10 : decode oC21 10 = .ok (.iload_n 1, 1) := by decide +kernel
theorem d20_11 : decode oC21 11 = .ok (.aload_n 0, 1) := by decide +kernel
theorem d20_12 : decode oC21 12 = .ok (.getfield 22, 3) := by decide +kernel
theorem d20_15 : decode oC21 15 = .ok (.invokevirtual 399, 3) := by decide +kernel
theorem d20_18 : decode oC21 18 = .ok (.return_, 1) := by decide +kernel
theorem m_put16_0_7 (l : Launch) (Z : State) (a0 : Array Value) (hw : oH Z a0) (n0 : Nat) (h0 : Heap) (b u : Addr) (ku : ClassId)  (s v : Addr) (k : ClassId) (x0 x1 x2 x3 x4 x5 x6 : Int32) (cst : Int32) (X0 : Old Z n0 h0) (SC : oSC Z cst) (hcs : ¬ cst = 0) (Eb : Exa Z h0 b "java/lang/StringBuilder") (gb : n0 ≤ b) (Bv : Fld Z h0 b "java/lang/AbstractStringBuilder" "value" "[B" (.ref u)) (Bc : Fld Z h0 b "java/lang/AbstractStringBuilder" "coder" "B" (.int (0 : Int32))) (Bn : Fld Z h0 b "java/lang/AbstractStringBuilder" "count" "I" (.int (0 : Int32))) (Eu : Exa Z h0 u "[B") (gu : n0 ≤ u) (Au : Arv Z h0 u ku .byte (16 : Int32) [oZ, oZ, oZ, oZ, oZ, oZ, oZ, oZ, oZ, oZ, oZ, oZ, oZ, oZ, oZ, oZ] oZ) (Es : Exa Z h0 s "java/lang/String") (Fc : Fld Z h0 s "java/lang/String" "coder" "B" (.int (0 : Int32))) (Fv : Fld Z h0 s "java/lang/String" "value" "[B" (.ref v)) (Av : Arv Z h0 v k .byte (7 : Int32) [(.int x0), (.int x1), (.int x2), (.int x3), (.int x4), (.int x5), (.int x6)] oZ) (hvu : v ≠ u) :
    Met l Z oM21 oC21 3 none (oR 2 0 0 62) n0 [] #[(.ref b), oZ, (.ref s)] h0 (fun r h => r = none ∧ Keep h0 h [u] ∧ Arv Z h u ku .byte (16 : Int32) [(.int x0), (.int x1), (.int x2), (.int x3), (.int x4), (.int x5), (.int x6), oZ, oZ, oZ, oZ, oZ, oZ, oZ, oZ, oZ] oZ) := by
  refine Met.intro (Ls := #[.val (.ref b), .val oZ, .val (.ref s)]) (plainFor_of_name pn_m_asi) hw (fun _ => rfl) ?_
  intro w K0
  have K : oK21 w Z a0 := K0
  refine Rn.aloadN K (q := 1) d20_0 rfl rfl rfl ?_
  refine Rn.aloadN K (q := 2) d20_1 rfl rfl rfl ?_
  refine Rn.privC K (q := 5) (W := 0) (y := oM16) (b := b) (argsL := [(.ref s)]) (rest := []) (oT 120 rfl) (oT 121 rfl) (oT 123 rfl) (oT 122 rfl) (oT 124 rfl) (oT 79 rfl) (by decide) (m_inf l Z a0 hw n0 h0 b s cst X0 SC hcs Bc Es Fc) Eb (by decide) (by decide) rfl (lenOf pd_11 rfl) rfl (oL rfl) d20_2 rfl (by decide) (by decide) ?_
  rintro _ _ ⟨rfl, rfl⟩
  show Rn w l _ n0 _ 5 _ [] h0 0 0
  refine Rn.aloadN K (q := 6) d20_5 rfl rfl rfl ?_
  refine Rn.aloadN K (q := 7) d20_6 rfl rfl rfl ?_
  refine Rn.getF K (q := 10) (oT 83 rfl) Via.refl Bv d20_7 rfl ?_
  refine Rn.iloadN K (q := 11) d20_10 rfl rfl ?_
  refine Rn.aloadN K (q := 12) d20_11 rfl rfl rfl ?_
  refine Rn.getF K (q := 15) (oT 85 rfl) Via.refl Bc d20_12 rfl ?_
  refine Rn.virt K (q := 18) (W := 0) (y := oM20) (z := oM20) (b := s) (argsL := [(.ref u), oZ, oZ]) (rest := []) (oT 126 rfl) (oT 127 rfl) (nfs K (oT 129 rfl)) (oT 129 rfl) (oT 128 rfl) (oT 130 rfl) (oT 2 rfl) (by decide) (m_gb16_0_7 l Z a0 hw n0 h0 u ku  s v k x0 x1 x2 x3 x4 x5 x6 cst X0 SC hcs Es Fc Fv Av gu Eu Au hvu) Es (by decide) (by decide) rfl (lenOf pd_12 rfl) rfl (oL rfl) d20_15 rfl (by decide) (by decide) ?_
  rintro _ h1 ⟨rfl, Q2⟩
  show Rn w l _ n0 _ 18 _ [] h1 0 0
  exact Rn.retV K rfl d20_18 (by decide) (by decide) ⟨rfl, Q2⟩
theorem d16_0 : decode oC22 0 = .ok (.aload_n 1, 1) := by decide +kernel
theorem d16_1 : decode oC22 1 = .ok (.ifnonnull 8, 3) := by decide +kernel
theorem d16_9 : decode oC22 9 = .ok (.aload_n 1, 1) := by decide +kernel
theorem d16_10 : decode oC22 10 = .ok (.invokevirtual 32, 3) := by decide +kernel
theorem d16_13 : decode oC22 13 = .ok (.istore_n 2, 1) := by decide +kernel
theorem d16_14 : decode oC22 14 = .ok (.aload_n 0, 1) := by decide +kernel
theorem d16_15 : decode oC22 15 = .ok (.aload_n 0, 1) := by decide +kernel
theorem d16_16 : decode oC22 16 = .ok (.getfield 79, 3) := by decide +kernel
theorem d16_19 : decode oC22 19 = .ok (.iload_n 2, 1) := by decide +kernel
theorem d16_20 : decode oC22 20 = .ok (.iadd, 1) := by decide +kernel
theorem d16_21 : decode oC22 21 = .ok (.invokevirtual 100, 3) := by decide +kernel
theorem d16_24 : decode oC22 24 = .ok (.aload_n 0, 1) := by decide +kernel
theorem d16_25 : decode oC22 25 = .ok (.aload_n 0, 1) := by decide +kernel
theorem d16_26 : decode oC22 26 = .ok (.getfield 79, 3) := by decide +kernel
theorem d16_29 : decode oC22 29 = .ok (.aload_n 1, 1) := by decide +kernel
theorem d16_30 : decode oC22 30 = .ok (.invokevirtual 208, 3) := by decide +kernel
theorem d16_33 : decode oC22 33 = .ok (.aload_n 0, 1) := by decide +kernel
theorem d16_34 : decode oC22 34 = .ok (.dup, 1) := by decide +kernel
theorem d16_35 : decode oC22 35 = .ok (.getfield 79, 3) := by decide +kernel
theorem d16_38 : decode oC22 38 = .ok (.iload_n 2, 1) := by decide +kernel
theorem d16_39 : decode oC22 39 = .ok (.iadd, 1) := by decide +kernel
theorem d16_40 : decode oC22 40 = .ok (.putfield 79, 3) := by decide +kernel
theorem d16_43 : decode oC22 43 = .ok (.aload_n 0, 1) := by decide +kernel
theorem d16_44 : decode oC22 44 = .ok (.areturn, 1) := by decide +kernel
theorem m_asa16_0_7 (l : Launch) (Z : State) (a0 : Array Value) (hw : oH Z a0) (n0 : Nat) (h0 : Heap) (b u : Addr) (ku : ClassId)  (s v : Addr) (k : ClassId) (x0 x1 x2 x3 x4 x5 x6 : Int32) (cst : Int32) (X0 : Old Z n0 h0) (SC : oSC Z cst) (hcs : ¬ cst = 0) (Eb : Exa Z h0 b "java/lang/StringBuilder") (gb : n0 ≤ b) (Bv : Fld Z h0 b "java/lang/AbstractStringBuilder" "value" "[B" (.ref u)) (Bc : Fld Z h0 b "java/lang/AbstractStringBuilder" "coder" "B" (.int (0 : Int32))) (Bn : Fld Z h0 b "java/lang/AbstractStringBuilder" "count" "I" (.int (0 : Int32))) (Eu : Exa Z h0 u "[B") (gu : n0 ≤ u) (Au : Arv Z h0 u ku .byte (16 : Int32) [oZ, oZ, oZ, oZ, oZ, oZ, oZ, oZ, oZ, oZ, oZ, oZ, oZ, oZ, oZ, oZ] oZ) (Es : Exa Z h0 s "java/lang/String") (Fc : Fld Z h0 s "java/lang/String" "coder" "B" (.int (0 : Int32))) (Fv : Fld Z h0 s "java/lang/String" "value" "[B" (.ref v)) (Av : Arv Z h0 v k .byte (7 : Int32) [(.int x0), (.int x1), (.int x2), (.int x3), (.int x4), (.int x5), (.int x6)] oZ) (hvu : v ≠ u) (hvb : v ≠ b) :
    Met l Z oM22 oC22 3 (some (.object "java/lang/AbstractStringBuilder")) (oR 4 0 0 110) n0 [] #[(.ref b), (.ref s)] h0 (fun r h => r = some (.ref b) ∧ Keep h0 h [b, u] ∧ Fld Z h b "java/lang/AbstractStringBuilder" "value" "[B" (.ref u) ∧ Fld Z h b "java/lang/AbstractStringBuilder" "coder" "B" (.int (0 : Int32)) ∧ Fld Z h b "java/lang/AbstractStringBuilder" "count" "I" (.int (7 : Int32)) ∧ Arv Z h u ku .byte (16 : Int32) [(.int x0), (.int x1), (.int x2), (.int x3), (.int x4), (.int x5), (.int x6), oZ, oZ, oZ, oZ, oZ, oZ, oZ, oZ, oZ] oZ) := by
  refine Met.intro (Ls := #[.val (.ref b), .val (.ref s), .unset]) (plainFor_of_name pn_m_asi) hw (fun _ => rfl) ?_
  intro w K0
  have K : oK22 w Z a0 := K0
  have K1 := Keep.refl h0 [b, u]
  refine Rn.aloadN K (q := 1) d16_0 rfl rfl rfl ?_
  refine Rn.nonnullY K (q := 9) d16_1 (by decide) (by decide) ?_
  refine Rn.aloadN K (q := 10) d16_9 rfl rfl rfl ?_
  refine Rn.virt K (q := 13) (W := 0) (y := oM3) (z := oM3) (b := s) (argsL := []) (rest := []) (oT 98 rfl) (oT 99 rfl) (nfs K (oT 101 rfl)) (oT 101 rfl) (oT 100 rfl) (oT 102 rfl) (oT 2 rfl) (by decide) (m_len7 l Z a0 hw n0 h0 s v k cst x0 x1 x2 x3 x4 x5 x6 X0 SC hcs Es Fc Fv Av) Es (by decide) (by decide) rfl (lenOf pd_13 rfl) rfl (oL rfl) d16_10 rfl (by decide) (by decide) ?_
  rintro _ _ ⟨rfl, rfl⟩
  show Rn w l _ n0 _ 13 _ [(.int (7 : Int32))] h0 0 0
  refine Rn.istoreN K (q := 14) (Ls' := #[.val (.ref b), .val (.ref s), .val (.int (7 : Int32))]) d16_13 rfl rfl ?_
  refine Rn.aloadN K (q := 15) d16_14 rfl rfl rfl ?_
  refine Rn.aloadN K (q := 16) d16_15 rfl rfl rfl ?_
  refine Rn.getF K (q := 19) (oT 108 rfl) Via.refl Bn d16_16 rfl ?_
  refine Rn.iloadN K (q := 20) d16_19 rfl rfl ?_
  refine Rn.iadd K (q := 21) d16_20 rfl ?_
  show Rn w l _ n0 _ 21 _ [(.int (7 : Int32)), (.ref b)] h0 0 0
  refine Rn.privC K (q := 24) (W := 0) (y := oM18) (b := b) (argsL := [(.int (7 : Int32))]) (rest := []) (oT 110 rfl) (oT 111 rfl) (oT 113 rfl) (oT 112 rfl) (oT 114 rfl) (oT 79 rfl) (by decide) (m_ens16_7 l Z a0 hw n0 h0 b u ku  X0 Eb gb Bv Bc Bn Eu gu Au) Eb (by decide) (by decide) rfl (lenOf pd_7 rfl) rfl (oL rfl) d16_21 rfl (by decide) (by decide) ?_
  rintro _ _ ⟨rfl, rfl⟩
  show Rn w l _ n0 _ 24 _ [] h0 0 0
  refine Rn.aloadN K (q := 25) d16_24 rfl rfl rfl ?_
  refine Rn.aloadN K (q := 26) d16_25 rfl rfl rfl ?_
  refine Rn.getF K (q := 29) (oT 108 rfl) Via.refl Bn d16_26 rfl ?_
  refine Rn.aloadN K (q := 30) d16_29 rfl rfl rfl ?_
  refine Rn.privC K (q := 33) (W := 0) (y := oM21) (b := b) (argsL := [oZ, (.ref s)]) (rest := []) (oT 115 rfl) (oT 116 rfl) (oT 118 rfl) (oT 117 rfl) (oT 119 rfl) (oT 79 rfl) (by decide) (m_put16_0_7 l Z a0 hw n0 h0 b u ku  s v k x0 x1 x2 x3 x4 x5 x6 cst X0 SC hcs Eb gb Bv Bc Bn Eu gu Au Es Fc Fv Av hvu) Eb (by decide) (by decide) rfl (lenOf pd_14 rfl) rfl (oL rfl) d16_30 rfl (by decide) (by decide) ?_
  rintro _ h1 ⟨rfl, K2, A3⟩
  have f5 := K1.trans K2 (allS (Or.inl (oT 1 rfl)) all0)
  have f6 := Eb.keep K2
  have f7 := Bv.keep K2 (ninS (ne_exa Eb Eu (by decide)) nin0)
  have f8 := Bc.keep K2 (ninS (ne_exa Eb Eu (by decide)) nin0)
  have f9 := Bn.keep K2 (ninS (ne_exa Eb Eu (by decide)) nin0)
  have f10 := Eu.keep K2
  show Rn w l _ n0 _ 33 _ [] h1 0 0
  refine Rn.aloadN K (q := 34) d16_33 rfl rfl rfl ?_
  refine Rn.dup K (q := 35) d16_34 rfl rfl ?_
  refine Rn.getF K (q := 38) (oT 108 rfl) Via.refl f9 d16_35 rfl ?_
  refine Rn.iloadN K (q := 39) d16_38 rfl rfl ?_
  refine Rn.iadd K (q := 40) d16_39 rfl ?_
  show Rn w l _ n0 _ 40 _ [(.int (7 : Int32)), (.ref b)] h1 0 0
  refine Rn.putF K (q := 43) (ty := .int) (oT 108 rfl) Via.refl f9 f6 (Or.inl (oT 109 rfl)) (oT 70 rfl) (by decide) rfl rfl gb d16_40 rfl ?_
  intro h15 W16
  have f18 := f5.wr W16 (Or.inl (oT 0 rfl))
  have f20 := Fld.other W16 f7 (Or.inr (slot_ne (Or.inl (K.hw _ (oT 84 rfl))) (Or.inl (K.hw _ (oT 109 rfl))) (by decide) (t := (.array .byte)) (t' := .int) (by decide) (by decide)))
  have f21 := Fld.other W16 f8 (Or.inr (slot_ne (Or.inl (K.hw _ (oT 86 rfl))) (Or.inl (K.hw _ (oT 109 rfl))) (by decide) (t := .byte) (t' := .int) (by decide) (by decide)))
  have f22 := Fld.same W16 f9
  have f28 := A3.other W16 (ne_exa f10 f6 (by decide))
  refine Rn.aloadN K (q := 44) d16_43 rfl rfl rfl ?_
  exact Rn.retA K (.object "java/lang/AbstractStringBuilder") rfl rfl rfl d16_44 (by decide) (by decide) ⟨rfl, f18, f20, f21, f22, f28⟩
theorem d15_0 : decode oC23 0 = .ok (.aload_n 0, 1) := by decide +kernel
theorem d15_1 : decode oC23 1 = .ok (.aload_n 1, 1) := by decide +kernel
theorem d15_2 : decode oC23 2 = .ok (.invokespecial 29, 3) := by decide +kernel
theorem d15_5 : decode oC23 5 = .ok (.pop, 1) := by decide +kernel
theorem d15_6 : decode oC23 6 = .ok (.aload_n 0, 1) := by decide +kernel
theorem d15_7 : decode oC23 7 = .ok (.areturn, 1) := by decide +kernel
theorem m_app16_0_7 (l : Launch) (Z : State) (a0 : Array Value) (hw : oH Z a0) (n0 : Nat) (h0 : Heap) (b u : Addr) (ku : ClassId)  (s v : Addr) (k : ClassId) (x0 x1 x2 x3 x4 x5 x6 : Int32) (cst : Int32) (X0 : Old Z n0 h0) (SC : oSC Z cst) (hcs : ¬ cst = 0) (Eb : Exa Z h0 b "java/lang/StringBuilder") (gb : n0 ≤ b) (Bv : Fld Z h0 b "java/lang/AbstractStringBuilder" "value" "[B" (.ref u)) (Bc : Fld Z h0 b "java/lang/AbstractStringBuilder" "coder" "B" (.int (0 : Int32))) (Bn : Fld Z h0 b "java/lang/AbstractStringBuilder" "count" "I" (.int (0 : Int32))) (Eu : Exa Z h0 u "[B") (gu : n0 ≤ u) (Au : Arv Z h0 u ku .byte (16 : Int32) [oZ, oZ, oZ, oZ, oZ, oZ, oZ, oZ, oZ, oZ, oZ, oZ, oZ, oZ, oZ, oZ] oZ) (Es : Exa Z h0 s "java/lang/String") (Fc : Fld Z h0 s "java/lang/String" "coder" "B" (.int (0 : Int32))) (Fv : Fld Z h0 s "java/lang/String" "value" "[B" (.ref v)) (Av : Arv Z h0 v k .byte (7 : Int32) [(.int x0), (.int x1), (.int x2), (.int x3), (.int x4), (.int x5), (.int x6)] oZ) (hvu : v ≠ u) (hvb : v ≠ b) :
    Met l Z oM23 oC23 2 (some (.object "java/lang/StringBuilder")) (oR 5 0 0 126) n0 [] #[(.ref b), (.ref s)] h0 (fun r h => r = some (.ref b) ∧ Keep h0 h [b, u] ∧ Fld Z h b "java/lang/AbstractStringBuilder" "value" "[B" (.ref u) ∧ Fld Z h b "java/lang/AbstractStringBuilder" "coder" "B" (.int (0 : Int32)) ∧ Fld Z h b "java/lang/AbstractStringBuilder" "count" "I" (.int (7 : Int32)) ∧ Arv Z h u ku .byte (16 : Int32) [(.int x0), (.int x1), (.int x2), (.int x3), (.int x4), (.int x5), (.int x6), oZ, oZ, oZ, oZ, oZ, oZ, oZ, oZ, oZ] oZ) := by
  refine Met.intro (Ls := #[.val (.ref b), .val (.ref s)]) (plainFor_of_name pn_m_sbi) hw (fun _ => rfl) ?_
  intro w K0
  have K : oK23 w Z a0 := K0
  refine Rn.aloadN K (q := 1) d15_0 rfl rfl rfl ?_
  refine Rn.aloadN K (q := 2) d15_1 rfl rfl rfl ?_
  refine Rn.sup K (q := 5) (W := 0) (y := oM22) (y2 := oM24) (b := b) (argsL := [(.ref s)]) (rest := []) (by decide) (oT 93 rfl) (oT 96 rfl) (oT 172 rfl) (oT 174 rfl) rfl (oT 94 rfl) (oT 95 rfl) (oT 97 rfl) (oT 79 rfl) (by decide) (m_asa16_0_7 l Z a0 hw n0 h0 b u ku  s v k x0 x1 x2 x3 x4 x5 x6 cst X0 SC hcs Eb gb Bv Bc Bn Eu gu Au Es Fc Fv Av hvu hvb) (Ins.of_exa Eb (K.hw _ (oT 78 rfl))) (by decide) (by decide) rfl (lenOf pd_15 rfl) rfl (oL rfl) d15_2 rfl (by decide) (by decide) ?_
  rintro _ h1 ⟨rfl, Q2⟩
  show Rn w l _ n0 _ 5 _ [(.ref b)] h1 0 0
  refine Rn.pop K (q := 6) d15_5 rfl rfl ?_
  refine Rn.aloadN K (q := 7) d15_6 rfl rfl rfl ?_
  exact Rn.retA K (.object "java/lang/StringBuilder") rfl rfl rfl d15_7 (by decide) (by decide) ⟨rfl, Q2⟩
theorem m_gb16_7_2 (l : Launch) (Z : State) (a0 : Array Value) (hw : oH Z a0) (n0 : Nat) (h0 : Heap) (u : Addr) (ku : ClassId) (z0 z1 z2 z3 z4 z5 z6 : Int32) (s v : Addr) (k : ClassId) (x0 x1 : Int32) (cst : Int32) (X0 : Old Z n0 h0) (SC : oSC Z cst) (hcs : ¬ cst = 0) (Es : Exa Z h0 s "java/lang/String") (Fc : Fld Z h0 s "java/lang/String" "coder" "B" (.int (0 : Int32))) (Fv : Fld Z h0 s "java/lang/String" "value" "[B" (.ref v)) (Av : Arv Z h0 v k .byte (2 : Int32) [(.int x0), (.int x1)] oZ) (gu : n0 ≤ u) (Eu : Exa Z h0 u "[B") (Au : Arv Z h0 u ku .byte (16 : Int32) [(.int z0), (.int z1), (.int z2), (.int z3), (.int z4), (.int z5), (.int z6), oZ, oZ, oZ, oZ, oZ, oZ, oZ, oZ, oZ] oZ) (hvu : v ≠ u) :
    Met l Z oM20 oC20 4 none (oR 1 0 0 44) n0 [] #[(.ref s), (.ref u), (.int (7 : Int32)), oZ] h0 (fun r h => r = none ∧ Keep h0 h [u] ∧ Arv Z h u ku .byte (16 : Int32) [(.int z0), (.int z1), (.int z2), (.int z3), (.int z4), (.int z5), (.int z6), (.int x0), (.int x1), oZ, oZ, oZ, oZ, oZ, oZ, oZ] oZ) := by
  refine Met.intro (Ls := #[.val (.ref s), .val (.ref u), .val (.int (7 : Int32)), .val oZ]) (plainFor_of_name pn_m_coder) hw (fun _ => rfl) ?_
  intro w K0
  have K : oK20 w Z a0 := K0
  have K1 := Keep.refl h0 [u]
  refine Rn.aloadN K (q := 1) d22_0 rfl rfl rfl ?_
  refine Rn.virt K (q := 4) (W := 0) (y := oM0) (z := oM0) (b := s) (argsL := []) (rest := []) (oT 103 rfl) (oT 104 rfl) (nfs K (oT 106 rfl)) (oT 106 rfl) (oT 105 rfl) (oT 107 rfl) (oT 2 rfl) (by decide) (m_coder l Z a0 hw n0 h0 s cst X0 SC hcs Fc) Es (by decide) (by decide) rfl (lenOf pd_1 rfl) rfl (oL rfl) d22_1 rfl (by decide) (by decide) ?_
  rintro _ _ ⟨rfl, rfl⟩
  show Rn w l _ n0 _ 4 _ [oZ] h0 0 0
  refine Rn.iloadN K (q := 5) d22_4 rfl rfl ?_
  refine Rn.icN K (q := 8) d22_5 (XT.ii_ne_f rfl) rfl ?_
  refine Rn.aloadN K (q := 9) d22_8 rfl rfl rfl ?_
  refine Rn.getF K (q := 12) (oT 28 rfl) Via.refl Fv d22_9 rfl ?_
  refine Rn.iconst K (q := 13) (0 : Int32) d22_12 rfl rfl ?_
  refine Rn.aloadN K (q := 14) d22_13 rfl rfl rfl ?_
  refine Rn.iloadN K (q := 15) d22_14 rfl rfl ?_
  refine Rn.iloadN K (q := 16) d22_15 rfl rfl ?_
  refine Rn.ishl K (q := 17) d22_16 rfl ?_
  rw [show ((7 : Int32) <<< ((0 : Int32) &&& 31)) = (7 : Int32) from by decide]
  show Rn w l _ n0 _ 17 _ [(.int (7 : Int32)), (.ref u), oZ, (.ref v)] h0 0 0
  refine Rn.aloadN K (q := 18) d22_17 rfl rfl rfl ?_
  refine Rn.getF K (q := 21) (oT 28 rfl) Via.refl Fv d22_18 rfl ?_
  refine Rn.arraylength K (q := 22) Av d22_21 rfl ?_
  refine Rn.acopy K (q := 25) (W := 0) (o := 0) (p := 7) (n := 2) (z := 16) (by decide) rfl (oT 131 rfl) (oT 134 rfl) (oT 132 rfl) (oT 133 rfl) Av Au (by decide) (by decide) (by decide) (by decide) (by decide) (by decide) gu rfl (oL rfl) (by decide) (by decide) d22_22 rfl ?_
  intro h1 K2 A3
  have f5 := K1.trans K2 (allS (Or.inl (oT 0 rfl)) all0)
  replace A3 : Arv Z h1 u ku .byte (16 : Int32) [(.int z0), (.int z1), (.int z2), (.int z3), (.int z4), (.int z5), (.int z6), (.int x0), (.int x1), oZ, oZ, oZ, oZ, oZ, oZ, oZ] oZ := A3
  show Rn w l _ n0 _ 25 _ [] h1 0 0
  refine Rn.goto K (q := 43) d22_25 (by decide) (by decide) ?_
  exact Rn.retV K rfl d22_43 (by decide) (by decide) ⟨rfl, f5, A3⟩
theorem m_put16_7_2 (l : Launch) (Z : State) (a0 : Array Value) (hw : oH Z a0) (n0 : Nat) (h0 : Heap) (b u : Addr) (ku : ClassId) (z0 z1 z2 z3 z4 z5 z6 : Int32) (s v : Addr) (k : ClassId) (x0 x1 : Int32) (cst : Int32) (X0 : Old Z n0 h0) (SC : oSC Z cst) (hcs : ¬ cst = 0) (Eb : Exa Z h0 b "java/lang/StringBuilder") (gb : n0 ≤ b) (Bv : Fld Z h0 b "java/lang/AbstractStringBuilder" "value" "[B" (.ref u)) (Bc : Fld Z h0 b "java/lang/AbstractStringBuilder" "coder" "B" (.int (0 : Int32))) (Bn : Fld Z h0 b "java/lang/AbstractStringBuilder" "count" "I" (.int (7 : Int32))) (Eu : Exa Z h0 u "[B") (gu : n0 ≤ u) (Au : Arv Z h0 u ku .byte (16 : Int32) [(.int z0), (.int z1), (.int z2), (.int z3), (.int z4), (.int z5), (.int z6), oZ, oZ, oZ, oZ, oZ, oZ, oZ, oZ, oZ] oZ) (Es : Exa Z h0 s "java/lang/String") (Fc : Fld Z h0 s "java/lang/String" "coder" "B" (.int (0 : Int32))) (Fv : Fld Z h0 s "java/lang/String" "value" "[B" (.ref v)) (Av : Arv Z h0 v k .byte (2 : Int32) [(.int x0), (.int x1)] oZ) (hvu : v ≠ u) :
    Met l Z oM21 oC21 3 none (oR 2 0 0 62) n0 [] #[(.ref b), (.int (7 : Int32)), (.ref s)] h0 (fun r h => r = none ∧ Keep h0 h [u] ∧ Arv Z h u ku .byte (16 : Int32) [(.int z0), (.int z1), (.int z2), (.int z3), (.int z4), (.int z5), (.int z6), (.int x0), (.int x1), oZ, oZ, oZ, oZ, oZ, oZ, oZ] oZ) := by
  refine Met.intro (Ls := #[.val (.ref b), .val (.int (7 : Int32)), .val (.ref s)]) (plainFor_of_name pn_m_asi) hw (fun _ => rfl) ?_
  intro w K0
  have K : oK21 w Z a0 := K0
  refine Rn.aloadN K (q := 1) d20_0 rfl rfl rfl ?_
  refine Rn.aloadN K (q := 2) d20_1 rfl rfl rfl ?_
  refine Rn.privC K (q := 5) (W := 0) (y := oM16) (b := b) (argsL := [(.ref s)]) (rest := []) (oT 120 rfl) (oT 121 rfl) (oT 123 rfl) (oT 122 rfl) (oT 124 rfl) (oT 79 rfl) (by decide) (m_inf l Z a0 hw n0 h0 b s cst X0 SC hcs Bc Es Fc) Eb (by decide) (by decide) rfl (lenOf pd_11 rfl) rfl (oL rfl) d20_2 rfl (by decide) (by decide) ?_
  rintro _ _ ⟨rfl, rfl⟩
  show Rn w l _ n0 _ 5 _ [] h0 0 0
  refine Rn.aloadN K (q := 6) d20_5 rfl rfl rfl ?_
  refine Rn.aloadN K (q := 7) d20_6 rfl rfl rfl ?_
  refine Rn.getF K (q := 10) (oT 83 rfl) Via.refl Bv d20_7 rfl ?_
  refine Rn.iloadN K (q := 11) d20_10 rfl rfl ?_
  refine Rn.aloadN K (q := 12) d20_11 rfl rfl rfl ?_
  refine Rn.getF K (q := 15) (oT 85 rfl) Via.refl Bc d20_12 rfl ?_
  refine Rn.virt K (q := 18) (W := 0) (y := oM20) (z := oM20) (b := s) (argsL := [(.ref u), (.int (7 : Int32)), oZ]) (rest := []) (oT 126 rfl) (oT 127 rfl) (nfs K (oT 129 rfl)) (oT 129 rfl) (oT 128 rfl) (oT 130 rfl) (oT 2 rfl) (by decide) (m_gb16_7_2 l Z a0 hw n0 h0 u ku z0 z1 z2 z3 z4 z5 z6 s v k x0 x1 cst X0 SC hcs Es Fc Fv Av gu Eu Au hvu) Es (by decide) (by decide) rfl (lenOf pd_12 rfl) rfl (oL rfl) d20_15 rfl (by decide) (by decide) ?_
  rintro _ h1 ⟨rfl, Q2⟩
  show Rn w l _ n0 _ 18 _ [] h1 0 0
  exact Rn.retV K rfl d20_18 (by decide) (by decide) ⟨rfl, Q2⟩
theorem m_asa16_7_2 (l : Launch) (Z : State) (a0 : Array Value) (hw : oH Z a0) (n0 : Nat) (h0 : Heap) (b u : Addr) (ku : ClassId) (z0 z1 z2 z3 z4 z5 z6 : Int32) (s v : Addr) (k : ClassId) (x0 x1 : Int32) (cst : Int32) (X0 : Old Z n0 h0) (SC : oSC Z cst) (hcs : ¬ cst = 0) (Eb : Exa Z h0 b "java/lang/StringBuilder") (gb : n0 ≤ b) (Bv : Fld Z h0 b "java/lang/AbstractStringBuilder" "value" "[B" (.ref u)) (Bc : Fld Z h0 b "java/lang/AbstractStringBuilder" "coder" "B" (.int (0 : Int32))) (Bn : Fld Z h0 b "java/lang/AbstractStringBuilder" "count" "I" (.int (7 : Int32))) (Eu : Exa Z h0 u "[B") (gu : n0 ≤ u) (Au : Arv Z h0 u ku .byte (16 : Int32) [(.int z0), (.int z1), (.int z2), (.int z3), (.int z4), (.int z5), (.int z6), oZ, oZ, oZ, oZ, oZ, oZ, oZ, oZ, oZ] oZ) (Es : Exa Z h0 s "java/lang/String") (Fc : Fld Z h0 s "java/lang/String" "coder" "B" (.int (0 : Int32))) (Fv : Fld Z h0 s "java/lang/String" "value" "[B" (.ref v)) (Av : Arv Z h0 v k .byte (2 : Int32) [(.int x0), (.int x1)] oZ) (hvu : v ≠ u) (hvb : v ≠ b) :
    Met l Z oM22 oC22 3 (some (.object "java/lang/AbstractStringBuilder")) (oR 4 0 0 110) n0 [] #[(.ref b), (.ref s)] h0 (fun r h => r = some (.ref b) ∧ Keep h0 h [b, u] ∧ Fld Z h b "java/lang/AbstractStringBuilder" "value" "[B" (.ref u) ∧ Fld Z h b "java/lang/AbstractStringBuilder" "coder" "B" (.int (0 : Int32)) ∧ Fld Z h b "java/lang/AbstractStringBuilder" "count" "I" (.int (9 : Int32)) ∧ Arv Z h u ku .byte (16 : Int32) [(.int z0), (.int z1), (.int z2), (.int z3), (.int z4), (.int z5), (.int z6), (.int x0), (.int x1), oZ, oZ, oZ, oZ, oZ, oZ, oZ] oZ) := by
  refine Met.intro (Ls := #[.val (.ref b), .val (.ref s), .unset]) (plainFor_of_name pn_m_asi) hw (fun _ => rfl) ?_
  intro w K0
  have K : oK22 w Z a0 := K0
  have K1 := Keep.refl h0 [b, u]
  refine Rn.aloadN K (q := 1) d16_0 rfl rfl rfl ?_
  refine Rn.nonnullY K (q := 9) d16_1 (by decide) (by decide) ?_
  refine Rn.aloadN K (q := 10) d16_9 rfl rfl rfl ?_
  refine Rn.virt K (q := 13) (W := 0) (y := oM3) (z := oM3) (b := s) (argsL := []) (rest := []) (oT 98 rfl) (oT 99 rfl) (nfs K (oT 101 rfl)) (oT 101 rfl) (oT 100 rfl) (oT 102 rfl) (oT 2 rfl) (by decide) (m_len2 l Z a0 hw n0 h0 s v k cst x0 x1 X0 SC hcs Es Fc Fv Av) Es (by decide) (by decide) rfl (lenOf pd_13 rfl) rfl (oL rfl) d16_10 rfl (by decide) (by decide) ?_
  rintro _ _ ⟨rfl, rfl⟩
  show Rn w l _ n0 _ 13 _ [(.int (2 : Int32))] h0 0 0
  refine Rn.istoreN K (q := 14) (Ls' := #[.val (.ref b), .val (.ref s), .val (.int (2 : Int32))]) d16_13 rfl rfl ?_
  refine Rn.aloadN K (q := 15) d16_14 rfl rfl rfl ?_
  refine Rn.aloadN K (q := 16) d16_15 rfl rfl rfl ?_
  refine Rn.getF K (q := 19) (oT 108 rfl) Via.refl Bn d16_16 rfl ?_
  refine Rn.iloadN K (q := 20) d16_19 rfl rfl ?_
  refine Rn.iadd K (q := 21) d16_20 rfl ?_
  show Rn w l _ n0 _ 21 _ [(.int (9 : Int32)), (.ref b)] h0 0 0
  refine Rn.privC K (q := 24) (W := 0) (y := oM18) (b := b) (argsL := [(.int (9 : Int32))]) (rest := []) (oT 110 rfl) (oT 111 rfl) (oT 113 rfl) (oT 112 rfl) (oT 114 rfl) (oT 79 rfl) (by decide) (m_ens16_9 l Z a0 hw n0 h0 b u ku z0 z1 z2 z3 z4 z5 z6 X0 Eb gb Bv Bc Bn Eu gu Au) Eb (by decide) (by decide) rfl (lenOf pd_7 rfl) rfl (oL rfl) d16_21 rfl (by decide) (by decide) ?_
  rintro _ _ ⟨rfl, rfl⟩
  show Rn w l _ n0 _ 24 _ [] h0 0 0
  refine Rn.aloadN K (q := 25) d16_24 rfl rfl rfl ?_
  refine Rn.aloadN K (q := 26) d16_25 rfl rfl rfl ?_
  refine Rn.getF K (q := 29) (oT 108 rfl) Via.refl Bn d16_26 rfl ?_
  refine Rn.aloadN K (q := 30) d16_29 rfl rfl rfl ?_
  refine Rn.privC K (q := 33) (W := 0) (y := oM21) (b := b) (argsL := [(.int (7 : Int32)), (.ref s)]) (rest := []) (oT 115 rfl) (oT 116 rfl) (oT 118 rfl) (oT 117 rfl) (oT 119 rfl) (oT 79 rfl) (by decide) (m_put16_7_2 l Z a0 hw n0 h0 b u ku z0 z1 z2 z3 z4 z5 z6 s v k x0 x1 cst X0 SC hcs Eb gb Bv Bc Bn Eu gu Au Es Fc Fv Av hvu) Eb (by decide) (by decide) rfl (lenOf pd_14 rfl) rfl (oL rfl) d16_30 rfl (by decide) (by decide) ?_
  rintro _ h1 ⟨rfl, K2, A3⟩
  have f5 := K1.trans K2 (allS (Or.inl (oT 1 rfl)) all0)
  have f6 := Eb.keep K2
  have f7 := Bv.keep K2 (ninS (ne_exa Eb Eu (by decide)) nin0)
  have f8 := Bc.keep K2 (ninS (ne_exa Eb Eu (by decide)) nin0)
  have f9 := Bn.keep K2 (ninS (ne_exa Eb Eu (by decide)) nin0)
  have f10 := Eu.keep K2
  show Rn w l _ n0 _ 33 _ [] h1 0 0
  refine Rn.aloadN K (q := 34) d16_33 rfl rfl rfl ?_
  refine Rn.dup K (q := 35) d16_34 rfl rfl ?_
  refine Rn.getF K (q := 38) (oT 108 rfl) Via.refl f9 d16_35 rfl ?_
  refine Rn.iloadN K (q := 39) d16_38 rfl rfl ?_
  refine Rn.iadd K (q := 40) d16_39 rfl ?_
  show Rn w l _ n0 _ 40 _ [(.int (9 : Int32)), (.ref b)] h1 0 0
  refine Rn.putF K (q := 43) (ty := .int) (oT 108 rfl) Via.refl f9 f6 (Or.inl (oT 109 rfl)) (oT 70 rfl) (by decide) rfl rfl gb d16_40 rfl ?_
  intro h15 W16
  have f18 := f5.wr W16 (Or.inl (oT 0 rfl))
  have f20 := Fld.other W16 f7 (Or.inr (slot_ne (Or.inl (K.hw _ (oT 84 rfl))) (Or.inl (K.hw _ (oT 109 rfl))) (by decide) (t := (.array .byte)) (t' := .int) (by decide) (by decide)))
  have f21 := Fld.other W16 f8 (Or.inr (slot_ne (Or.inl (K.hw _ (oT 86 rfl))) (Or.inl (K.hw _ (oT 109 rfl))) (by decide) (t := .byte) (t' := .int) (by decide) (by decide)))
  have f22 := Fld.same W16 f9
  have f28 := A3.other W16 (ne_exa f10 f6 (by decide))
  refine Rn.aloadN K (q := 44) d16_43 rfl rfl rfl ?_
  exact Rn.retA K (.object "java/lang/AbstractStringBuilder") rfl rfl rfl d16_44 (by decide) (by decide) ⟨rfl, f18, f20, f21, f22, f28⟩
theorem m_app16_7_2 (l : Launch) (Z : State) (a0 : Array Value) (hw : oH Z a0) (n0 : Nat) (h0 : Heap) (b u : Addr) (ku : ClassId) (z0 z1 z2 z3 z4 z5 z6 : Int32) (s v : Addr) (k : ClassId) (x0 x1 : Int32) (cst : Int32) (X0 : Old Z n0 h0) (SC : oSC Z cst) (hcs : ¬ cst = 0) (Eb : Exa Z h0 b "java/lang/StringBuilder") (gb : n0 ≤ b) (Bv : Fld Z h0 b "java/lang/AbstractStringBuilder" "value" "[B" (.ref u)) (Bc : Fld Z h0 b "java/lang/AbstractStringBuilder" "coder" "B" (.int (0 : Int32))) (Bn : Fld Z h0 b "java/lang/AbstractStringBuilder" "count" "I" (.int (7 : Int32))) (Eu : Exa Z h0 u "[B") (gu : n0 ≤ u) (Au : Arv Z h0 u ku .byte (16 : Int32) [(.int z0), (.int z1), (.int z2), (.int z3), (.int z4), (.int z5), (.int z6), oZ, oZ, oZ, oZ, oZ, oZ, oZ, oZ, oZ] oZ) (Es : Exa Z h0 s "java/lang/String") (Fc : Fld Z h0 s "java/lang/String" "coder" "B" (.int (0 : Int32))) (Fv : Fld Z h0 s "java/lang/String" "value" "[B" (.ref v)) (Av : Arv Z h0 v k .byte (2 : Int32) [(.int x0), (.int x1)] oZ) (hvu : v ≠ u) (hvb : v ≠ b) :
    Met l Z oM23 oC23 2 (some (.object "java/lang/StringBuilder")) (oR 5 0 0 126) n0 [] #[(.ref b), (.ref s)] h0 (fun r h => r = some (.ref b) ∧ Keep h0 h [b, u] ∧ Fld Z h b "java/lang/AbstractStringBuilder" "value" "[B" (.ref u) ∧ Fld Z h b "java/lang/AbstractStringBuilder" "coder" "B" (.int (0 : Int32)) ∧ Fld Z h b "java/lang/AbstractStringBuilder" "count" "I" (.int (9 : Int32)) ∧ Arv Z h u ku .byte (16 : Int32) [(.int z0), (.int z1), (.int z2), (.int z3), (.int z4), (.int z5), (.int z6), (.int x0), (.int x1), oZ, oZ, oZ, oZ, oZ, oZ, oZ] oZ) := by
  refine Met.intro (Ls := #[.val (.ref b), .val (.ref s)]) (plainFor_of_name pn_m_sbi) hw (fun _ => rfl) ?_
  intro w K0
  have K : oK23 w Z a0 := K0
  refine Rn.aloadN K (q := 1) d15_0 rfl rfl rfl ?_
  refine Rn.aloadN K (q := 2) d15_1 rfl rfl rfl ?_
  refine Rn.sup K (q := 5) (W := 0) (y := oM22) (y2 := oM24) (b := b) (argsL := [(.ref s)]) (rest := []) (by decide) (oT 93 rfl) (oT 96 rfl) (oT 172 rfl) (oT 174 rfl) rfl (oT 94 rfl) (oT 95 rfl) (oT 97 rfl) (oT 79 rfl) (by decide) (m_asa16_7_2 l Z a0 hw n0 h0 b u ku z0 z1 z2 z3 z4 z5 z6 s v k x0 x1 cst X0 SC hcs Eb gb Bv Bc Bn Eu gu Au Es Fc Fv Av hvu hvb) (Ins.of_exa Eb (K.hw _ (oT 78 rfl))) (by decide) (by decide) rfl (lenOf pd_15 rfl) rfl (oL rfl) d15_2 rfl (by decide) (by decide) ?_
  rintro _ h1 ⟨rfl, Q2⟩
  show Rn w l _ n0 _ 5 _ [(.ref b)] h1 0 0
  refine Rn.pop K (q := 6) d15_5 rfl rfl ?_
  refine Rn.aloadN K (q := 7) d15_6 rfl rfl rfl ?_
  exact Rn.retA K (.object "java/lang/StringBuilder") rfl rfl rfl d15_7 (by decide) (by decide) ⟨rfl, Q2⟩
theorem m_gb34_30_2 (l : Launch) (Z : State) (a0 : Array Value) (hw : oH Z a0) (n0 : Nat) (h0 : Heap) (u : Addr) (ku : ClassId) (z0 z1 z2 z3 z4 z5 z6 z7 z8 z9 z10 z11 z12 z13 z14 z15 z16 z17 z18 z19 z20 z21 z22 z23 z24 z25 z26 z27 z28 z29 : Int32) (s v : Addr) (k : ClassId) (x0 x1 : Int32) (cst : Int32) (X0 : Old Z n0 h0) (SC : oSC Z cst) (hcs : ¬ cst = 0) (Es : Exa Z h0 s "java/lang/String") (Fc : Fld Z h0 s "java/lang/String" "coder" "B" (.int (0 : Int32))) (Fv : Fld Z h0 s "java/lang/String" "value" "[B" (.ref v)) (Av : Arv Z h0 v k .byte (2 : Int32) [(.int x0), (.int x1)] oZ) (gu : n0 ≤ u) (Eu : Exa Z h0 u "[B") (Au : Arv Z h0 u ku .byte (34 : Int32) [(.int z0), (.int z1), (.int z2), (.int z3), (.int z4), (.int z5), (.int z6), (.int z7), (.int z8), (.int z9), (.int z10), (.int z11), (.int z12), (.int z13), (.int z14), (.int z15), (.int z16), (.int z17), (.int z18), (.int z19), (.int z20), (.int z21), (.int z22), (.int z23), (.int z24), (.int z25), (.int z26), (.int z27), (.int z28), (.int z29), oZ, oZ, oZ, oZ] oZ) (hvu : v ≠ u) :
    Met l Z oM20 oC20 4 none (oR 1 0 0 44) n0 [] #[(.ref s), (.ref u), (.int (30 : Int32)), oZ] h0 (fun r h => r = none ∧ Keep h0 h [u] ∧ Arv Z h u ku .byte (34 : Int32) [(.int z0), (.int z1), (.int z2), (.int z3), (.int z4), (.int z5), (.int z6), (.int z7), (.int z8), (.int z9), (.int z10), (.int z11), (.int z12), (.int z13), (.int z14), (.int z15), (.int z16), (.int z17), (.int z18), (.int z19), (.int z20), (.int z21), (.int z22), (.int z23), (.int z24), (.int z25), (.int z26), (.int z27), (.int z28), (.int z29), (.int x0), (.int x1), oZ, oZ] oZ) := by
  refine Met.intro (Ls := #[.val (.ref s), .val (.ref u), .val (.int (30 : Int32)), .val oZ]) (plainFor_of_name pn_m_coder) hw (fun _ => rfl) ?_
  intro w K0
  have K : oK20 w Z a0 := K0
  have K1 := Keep.refl h0 [u]
  refine Rn.aloadN K (q := 1) d22_0 rfl rfl rfl ?_
  refine Rn.virt K (q := 4) (W := 0) (y := oM0) (z := oM0) (b := s) (argsL := []) (rest := []) (oT 103 rfl) (oT 104 rfl) (nfs K (oT 106 rfl)) (oT 106 rfl) (oT 105 rfl) (oT 107 rfl) (oT 2 rfl) (by decide) (m_coder l Z a0 hw n0 h0 s cst X0 SC hcs Fc) Es (by decide) (by decide) rfl (lenOf pd_1 rfl) rfl (oL rfl) d22_1 rfl (by decide) (by decide) ?_
  rintro _ _ ⟨rfl, rfl⟩
  show Rn w l _ n0 _ 4 _ [oZ] h0 0 0
  refine Rn.iloadN K (q := 5) d22_4 rfl rfl ?_
  refine Rn.icN K (q := 8) d22_5 (XT.ii_ne_f rfl) rfl ?_
  refine Rn.aloadN K (q := 9) d22_8 rfl rfl rfl ?_
  refine Rn.getF K (q := 12) (oT 28 rfl) Via.refl Fv d22_9 rfl ?_
  refine Rn.iconst K (q := 13) (0 : Int32) d22_12 rfl rfl ?_
  refine Rn.aloadN K (q := 14) d22_13 rfl rfl rfl ?_
  refine Rn.iloadN K (q := 15) d22_14 rfl rfl ?_
  refine Rn.iloadN K (q := 16) d22_15 rfl rfl ?_
  refine Rn.ishl K (q := 17) d22_16 rfl ?_
  rw [show ((30 : Int32) <<< ((0 : Int32) &&& 31)) = (30 : Int32) from by decide]
  show Rn w l _ n0 _ 17 _ [(.int (30 : Int32)), (.ref u), oZ, (.ref v)] h0 0 0
  refine Rn.aloadN K (q := 18) d22_17 rfl rfl rfl ?_
  refine Rn.getF K (q := 21) (oT 28 rfl) Via.refl Fv d22_18 rfl ?_
  refine Rn.arraylength K (q := 22) Av d22_21 rfl ?_
  refine Rn.acopy K (q := 25) (W := 0) (o := 0) (p := 30) (n := 2) (z := 34) (by decide) rfl (oT 131 rfl) (oT 134 rfl) (oT 132 rfl) (oT 133 rfl) Av Au (by decide) (by decide) (by decide) (by decide) (by decide) (by decide) gu rfl (oL rfl) (by decide) (by decide) d22_22 rfl ?_
  intro h1 K2 A3
  have f5 := K1.trans K2 (allS (Or.inl (oT 0 rfl)) all0)
  replace A3 : Arv Z h1 u ku .byte (34 : Int32) [(.int z0), (.int z1), (.int z2), (.int z3), (.int z4), (.int z5), (.int z6), (.int z7), (.int z8), (.int z9), (.int z10), (.int z11), (.int z12), (.int z13), (.int z14), (.int z15), (.int z16), (.int z17), (.int z18), (.int z19), (.int z20), (.int z21), (.int z22), (.int z23), (.int z24), (.int z25), (.int z26), (.int z27), (.int z28), (.int z29), (.int x0), (.int x1), oZ, oZ] oZ := A3
  show Rn w l _ n0 _ 25 _ [] h1 0 0
  refine Rn.goto K (q := 43) d22_25 (by decide) (by decide) ?_
  exact Rn.retV K rfl d22_43 (by decide) (by decide) ⟨rfl, f5, A3⟩
theorem m_put34_30_2 (l : Launch) (Z : State) (a0 : Array Value) (hw : oH Z a0) (n0 : Nat) (h0 : Heap) (b u : Addr) (ku : ClassId) (z0 z1 z2 z3 z4 z5 z6 z7 z8 z9 z10 z11 z12 z13 z14 z15 z16 z17 z18 z19 z20 z21 z22 z23 z24 z25 z26 z27 z28 z29 : Int32) (s v : Addr) (k : ClassId) (x0 x1 : Int32) (cst : Int32) (X0 : Old Z n0 h0) (SC : oSC Z cst) (hcs : ¬ cst = 0) (Eb : Exa Z h0 b "java/lang/StringBuilder") (gb : n0 ≤ b) (Bv : Fld Z h0 b "java/lang/AbstractStringBuilder" "value" "[B" (.ref u)) (Bc : Fld Z h0 b "java/lang/AbstractStringBuilder" "coder" "B" (.int (0 : Int32))) (Bn : Fld Z h0 b "java/lang/AbstractStringBuilder" "count" "I" (.int (30 : Int32))) (Eu : Exa Z h0 u "[B") (gu : n0 ≤ u) (Au : Arv Z h0 u ku .byte (34 : Int32) [(.int z0), (.int z1), (.int z2), (.int z3), (.int z4), (.int z5), (.int z6), (.int z7), (.int z8), (.int z9), (.int z10), (.int z11), (.int z12), (.int z13), (.int z14), (.int z15), (.int z16), (.int z17), (.int z18), (.int z19), (.int z20), (.int z21), (.int z22), (.int z23), (.int z24), (.int z25), (.int z26), (.int z27), (.int z28), (.int z29), oZ, oZ, oZ, oZ] oZ) (Es : Exa Z h0 s "java/lang/String") (Fc : Fld Z h0 s "java/lang/String" "coder" "B" (.int (0 : Int32))) (Fv : Fld Z h0 s "java/lang/String" "value" "[B" (.ref v)) (Av : Arv Z h0 v k .byte (2 : Int32) [(.int x0), (.int x1)] oZ) (hvu : v ≠ u) :
    Met l Z oM21 oC21 3 none (oR 2 0 0 62) n0 [] #[(.ref b), (.int (30 : Int32)), (.ref s)] h0 (fun r h => r = none ∧ Keep h0 h [u] ∧ Arv Z h u ku .byte (34 : Int32) [(.int z0), (.int z1), (.int z2), (.int z3), (.int z4), (.int z5), (.int z6), (.int z7), (.int z8), (.int z9), (.int z10), (.int z11), (.int z12), (.int z13), (.int z14), (.int z15), (.int z16), (.int z17), (.int z18), (.int z19), (.int z20), (.int z21), (.int z22), (.int z23), (.int z24), (.int z25), (.int z26), (.int z27), (.int z28), (.int z29), (.int x0), (.int x1), oZ, oZ] oZ) := by
  refine Met.intro (Ls := #[.val (.ref b), .val (.int (30 : Int32)), .val (.ref s)]) (plainFor_of_name pn_m_asi) hw (fun _ => rfl) ?_
  intro w K0
  have K : oK21 w Z a0 := K0
  refine Rn.aloadN K (q := 1) d20_0 rfl rfl rfl ?_
  refine Rn.aloadN K (q := 2) d20_1 rfl rfl rfl ?_
  refine Rn.privC K (q := 5) (W := 0) (y := oM16) (b := b) (argsL := [(.ref s)]) (rest := []) (oT 120 rfl) (oT 121 rfl) (oT 123 rfl) (oT 122 rfl) (oT 124 rfl) (oT 79 rfl) (by decide) (m_inf l Z a0 hw n0 h0 b s cst X0 SC hcs Bc Es Fc) Eb (by decide) (by decide) rfl (lenOf pd_11 rfl) rfl (oL rfl) d20_2 rfl (by decide) (by decide) ?_
  rintro _ _ ⟨rfl, rfl⟩
  show Rn w l _ n0 _ 5 _ [] h0 0 0
  refine Rn.aloadN K (q := 6) d20_5 rfl rfl rfl ?_
  refine Rn.aloadN K (q := 7) d20_6 rfl rfl rfl ?_
  refine Rn.getF K (q := 10) (oT 83 rfl) Via.refl Bv d20_7 rfl ?_
  refine Rn.iloadN K (q := 11) d20_10 rfl rfl ?_
  refine Rn.aloadN K (q := 12) d20_11 rfl rfl rfl ?_
  refine Rn.getF K (q := 15) (oT 85 rfl) Via.refl Bc d20_12 rfl ?_
  refine Rn.virt K (q := 18) (W := 0) (y := oM20) (z := oM20) (b := s) (argsL := [(.ref u), (.int (30 : Int32)), oZ]) (rest := []) (oT 126 rfl) (oT 127 rfl) (nfs K (oT 129 rfl)) (oT 129 rfl) (oT 128 rfl) (oT 130 rfl) (oT 2 rfl) (by decide) (m_gb34_30_2 l Z a0 hw n0 h0 u ku z0 z1 z2 z3 z4 z5 z6 z7 z8 z9 z10 z11 z12 z13 z14 z15 z16 z17 z18 z19 z20 z21 z22 z23 z24 z25 z26 z27 z28 z29 s v k x0 x1 cst X0 SC hcs Es Fc Fv Av gu Eu Au hvu) Es (by decide) (by decide) rfl (lenOf pd_12 rfl) rfl (oL rfl) d20_15 rfl (by decide) (by decide) ?_
  rintro _ h1 ⟨rfl, Q2⟩
  show Rn w l _ n0 _ 18 _ [] h1 0 0
  exact Rn.retV K rfl d20_18 (by decide) (by decide) ⟨rfl, Q2⟩
theorem m_asa34_30_2 (l : Launch) (Z : State) (a0 : Array Value) (hw : oH Z a0) (n0 : Nat) (h0 : Heap) (b u : Addr) (ku : ClassId) (z0 z1 z2 z3 z4 z5 z6 z7 z8 z9 z10 z11 z12 z13 z14 z15 z16 z17 z18 z19 z20 z21 z22 z23 z24 z25 z26 z27 z28 z29 : Int32) (s v : Addr) (k : ClassId) (x0 x1 : Int32) (cst : Int32) (X0 : Old Z n0 h0) (SC : oSC Z cst) (hcs : ¬ cst = 0) (Eb : Exa Z h0 b "java/lang/StringBuilder") (gb : n0 ≤ b) (Bv : Fld Z h0 b "java/lang/AbstractStringBuilder" "value" "[B" (.ref u)) (Bc : Fld Z h0 b "java/lang/AbstractStringBuilder" "coder" "B" (.int (0 : Int32))) (Bn : Fld Z h0 b "java/lang/AbstractStringBuilder" "count" "I" (.int (30 : Int32))) (Eu : Exa Z h0 u "[B") (gu : n0 ≤ u) (Au : Arv Z h0 u ku .byte (34 : Int32) [(.int z0), (.int z1), (.int z2), (.int z3), (.int z4), (.int z5), (.int z6), (.int z7), (.int z8), (.int z9), (.int z10), (.int z11), (.int z12), (.int z13), (.int z14), (.int z15), (.int z16), (.int z17), (.int z18), (.int z19), (.int z20), (.int z21), (.int z22), (.int z23), (.int z24), (.int z25), (.int z26), (.int z27), (.int z28), (.int z29), oZ, oZ, oZ, oZ] oZ) (Es : Exa Z h0 s "java/lang/String") (Fc : Fld Z h0 s "java/lang/String" "coder" "B" (.int (0 : Int32))) (Fv : Fld Z h0 s "java/lang/String" "value" "[B" (.ref v)) (Av : Arv Z h0 v k .byte (2 : Int32) [(.int x0), (.int x1)] oZ) (hvu : v ≠ u) (hvb : v ≠ b) :
    Met l Z oM22 oC22 3 (some (.object "java/lang/AbstractStringBuilder")) (oR 4 0 0 110) n0 [] #[(.ref b), (.ref s)] h0 (fun r h => r = some (.ref b) ∧ Keep h0 h [b, u] ∧ Fld Z h b "java/lang/AbstractStringBuilder" "value" "[B" (.ref u) ∧ Fld Z h b "java/lang/AbstractStringBuilder" "coder" "B" (.int (0 : Int32)) ∧ Fld Z h b "java/lang/AbstractStringBuilder" "count" "I" (.int (32 : Int32)) ∧ Arv Z h u ku .byte (34 : Int32) [(.int z0), (.int z1), (.int z2), (.int z3), (.int z4), (.int z5), (.int z6), (.int z7), (.int z8), (.int z9), (.int z10), (.int z11), (.int z12), (.int z13), (.int z14), (.int z15), (.int z16), (.int z17), (.int z18), (.int z19), (.int z20), (.int z21), (.int z22), (.int z23), (.int z24), (.int z25), (.int z26), (.int z27), (.int z28), (.int z29), (.int x0), (.int x1), oZ, oZ] oZ) := by
  refine Met.intro (Ls := #[.val (.ref b), .val (.ref s), .unset]) (plainFor_of_name pn_m_asi) hw (fun _ => rfl) ?_
  intro w K0
  have K : oK22 w Z a0 := K0
  have K1 := Keep.refl h0 [b, u]
  refine Rn.aloadN K (q := 1) d16_0 rfl rfl rfl ?_
  refine Rn.nonnullY K (q := 9) d16_1 (by decide) (by decide) ?_
  refine Rn.aloadN K (q := 10) d16_9 rfl rfl rfl ?_
  refine Rn.virt K (q := 13) (W := 0) (y := oM3) (z := oM3) (b := s) (argsL := []) (rest := []) (oT 98 rfl) (oT 99 rfl) (nfs K (oT 101 rfl)) (oT 101 rfl) (oT 100 rfl) (oT 102 rfl) (oT 2 rfl) (by decide) (m_len2 l Z a0 hw n0 h0 s v k cst x0 x1 X0 SC hcs Es Fc Fv Av) Es (by decide) (by decide) rfl (lenOf pd_13 rfl) rfl (oL rfl) d16_10 rfl (by decide) (by decide) ?_
  rintro _ _ ⟨rfl, rfl⟩
  show Rn w l _ n0 _ 13 _ [(.int (2 : Int32))] h0 0 0
  refine Rn.istoreN K (q := 14) (Ls' := #[.val (.ref b), .val (.ref s), .val (.int (2 : Int32))]) d16_13 rfl rfl ?_
  refine Rn.aloadN K (q := 15) d16_14 rfl rfl rfl ?_
  refine Rn.aloadN K (q := 16) d16_15 rfl rfl rfl ?_
  refine Rn.getF K (q := 19) (oT 108 rfl) Via.refl Bn d16_16 rfl ?_
  refine Rn.iloadN K (q := 20) d16_19 rfl rfl ?_
  refine Rn.iadd K (q := 21) d16_20 rfl ?_
  show Rn w l _ n0 _ 21 _ [(.int (32 : Int32)), (.ref b)] h0 0 0
  refine Rn.privC K (q := 24) (W := 0) (y := oM18) (b := b) (argsL := [(.int (32 : Int32))]) (rest := []) (oT 110 rfl) (oT 111 rfl) (oT 113 rfl) (oT 112 rfl) (oT 114 rfl) (oT 79 rfl) (by decide) (m_ens34_32 l Z a0 hw n0 h0 b u ku z0 z1 z2 z3 z4 z5 z6 z7 z8 z9 z10 z11 z12 z13 z14 z15 z16 z17 z18 z19 z20 z21 z22 z23 z24 z25 z26 z27 z28 z29 X0 Eb gb Bv Bc Bn Eu gu Au) Eb (by decide) (by decide) rfl (lenOf pd_7 rfl) rfl (oL rfl) d16_21 rfl (by decide) (by decide) ?_
  rintro _ _ ⟨rfl, rfl⟩
  show Rn w l _ n0 _ 24 _ [] h0 0 0
  refine Rn.aloadN K (q := 25) d16_24 rfl rfl rfl ?_
  refine Rn.aloadN K (q := 26) d16_25 rfl rfl rfl ?_
  refine Rn.getF K (q := 29) (oT 108 rfl) Via.refl Bn d16_26 rfl ?_
  refine Rn.aloadN K (q := 30) d16_29 rfl rfl rfl ?_
  refine Rn.privC K (q := 33) (W := 0) (y := oM21) (b := b) (argsL := [(.int (30 : Int32)), (.ref s)]) (rest := []) (oT 115 rfl) (oT 116 rfl) (oT 118 rfl) (oT 117 rfl) (oT 119 rfl) (oT 79 rfl) (by decide) (m_put34_30_2 l Z a0 hw n0 h0 b u ku z0 z1 z2 z3 z4 z5 z6 z7 z8 z9 z10 z11 z12 z13 z14 z15 z16 z17 z18 z19 z20 z21 z22 z23 z24 z25 z26 z27 z28 z29 s v k x0 x1 cst X0 SC hcs Eb gb Bv Bc Bn Eu gu Au Es Fc Fv Av hvu) Eb (by decide) (by decide) rfl (lenOf pd_14 rfl) rfl (oL rfl) d16_30 rfl (by decide) (by decide) ?_
  rintro _ h1 ⟨rfl, K2, A3⟩
  have f5 := K1.trans K2 (allS (Or.inl (oT 1 rfl)) all0)
  have f6 := Eb.keep K2
  have f7 := Bv.keep K2 (ninS (ne_exa Eb Eu (by decide)) nin0)
  have f8 := Bc.keep K2 (ninS (ne_exa Eb Eu (by decide)) nin0)
  have f9 := Bn.keep K2 (ninS (ne_exa Eb Eu (by decide)) nin0)
  have f10 := Eu.keep K2
  show Rn w l _ n0 _ 33 _ [] h1 0 0
  refine Rn.aloadN K (q := 34) d16_33 rfl rfl rfl ?_
  refine Rn.dup K (q := 35) d16_34 rfl rfl ?_
  refine Rn.getF K (q := 38) (oT 108 rfl) Via.refl f9 d16_35 rfl ?_
  refine Rn.iloadN K (q := 39) d16_38 rfl rfl ?_
  refine Rn.iadd K (q := 40) d16_39 rfl ?_
  show Rn w l _ n0 _ 40 _ [(.int (32 : Int32)), (.ref b)] h1 0 0
  refine Rn.putF K (q := 43) (ty := .int) (oT 108 rfl) Via.refl f9 f6 (Or.inl (oT 109 rfl)) (oT 70 rfl) (by decide) rfl rfl gb d16_40 rfl ?_
  intro h15 W16
  have f18 := f5.wr W16 (Or.inl (oT 0 rfl))
  have f20 := Fld.other W16 f7 (Or.inr (slot_ne (Or.inl (K.hw _ (oT 84 rfl))) (Or.inl (K.hw _ (oT 109 rfl))) (by decide) (t := (.array .byte)) (t' := .int) (by decide) (by decide)))
  have f21 := Fld.other W16 f8 (Or.inr (slot_ne (Or.inl (K.hw _ (oT 86 rfl))) (Or.inl (K.hw _ (oT 109 rfl))) (by decide) (t := .byte) (t' := .int) (by decide) (by decide)))
  have f22 := Fld.same W16 f9
  have f28 := A3.other W16 (ne_exa f10 f6 (by decide))
  refine Rn.aloadN K (q := 44) d16_43 rfl rfl rfl ?_
  exact Rn.retA K (.object "java/lang/AbstractStringBuilder") rfl rfl rfl d16_44 (by decide) (by decide) ⟨rfl, f18, f20, f21, f22, f28⟩
theorem m_app34_30_2 (l : Launch) (Z : State) (a0 : Array Value) (hw : oH Z a0) (n0 : Nat) (h0 : Heap) (b u : Addr) (ku : ClassId) (z0 z1 z2 z3 z4 z5 z6 z7 z8 z9 z10 z11 z12 z13 z14 z15 z16 z17 z18 z19 z20 z21 z22 z23 z24 z25 z26 z27 z28 z29 : Int32) (s v : Addr) (k : ClassId) (x0 x1 : Int32) (cst : Int32) (X0 : Old Z n0 h0) (SC : oSC Z cst) (hcs : ¬ cst = 0) (Eb : Exa Z h0 b "java/lang/StringBuilder") (gb : n0 ≤ b) (Bv : Fld Z h0 b "java/lang/AbstractStringBuilder" "value" "[B" (.ref u)) (Bc : Fld Z h0 b "java/lang/AbstractStringBuilder" "coder" "B" (.int (0 : Int32))) (Bn : Fld Z h0 b "java/lang/AbstractStringBuilder" "count" "I" (.int (30 : Int32))) (Eu : Exa Z h0 u "[B") (gu : n0 ≤ u) (Au : Arv Z h0 u ku .byte (34 : Int32) [(.int z0), (.int z1), (.int z2), (.int z3), (.int z4), (.int z5), (.int z6), (.int z7), (.int z8), (.int z9), (.int z10), (.int z11), (.int z12), (.int z13), (.int z14), (.int z15), (.int z16), (.int z17), (.int z18), (.int z19), (.int z20), (.int z21), (.int z22), (.int z23), (.int z24), (.int z25), (.int z26), (.int z27), (.int z28), (.int z29), oZ, oZ, oZ, oZ] oZ) (Es : Exa Z h0 s "java/lang/String") (Fc : Fld Z h0 s "java/lang/String" "coder" "B" (.int (0 : Int32))) (Fv : Fld Z h0 s "java/lang/String" "value" "[B" (.ref v)) (Av : Arv Z h0 v k .byte (2 : Int32) [(.int x0), (.int x1)] oZ) (hvu : v ≠ u) (hvb : v ≠ b) :
    Met l Z oM23 oC23 2 (some (.object "java/lang/StringBuilder")) (oR 5 0 0 126) n0 [] #[(.ref b), (.ref s)] h0 (fun r h => r = some (.ref b) ∧ Keep h0 h [b, u] ∧ Fld Z h b "java/lang/AbstractStringBuilder" "value" "[B" (.ref u) ∧ Fld Z h b "java/lang/AbstractStringBuilder" "coder" "B" (.int (0 : Int32)) ∧ Fld Z h b "java/lang/AbstractStringBuilder" "count" "I" (.int (32 : Int32)) ∧ Arv Z h u ku .byte (34 : Int32) [(.int z0), (.int z1), (.int z2), (.int z3), (.int z4), (.int z5), (.int z6), (.int z7), (.int z8), (.int z9), (.int z10), (.int z11), (.int z12), (.int z13), (.int z14), (.int z15), (.int z16), (.int z17), (.int z18), (.int z19), (.int z20), (.int z21), (.int z22), (.int z23), (.int z24), (.int z25), (.int z26), (.int z27), (.int z28), (.int z29), (.int x0), (.int x1), oZ, oZ] oZ) := by
  refine Met.intro (Ls := #[.val (.ref b), .val (.ref s)]) (plainFor_of_name pn_m_sbi) hw (fun _ => rfl) ?_
  intro w K0
  have K : oK23 w Z a0 := K0
  refine Rn.aloadN K (q := 1) d15_0 rfl rfl rfl ?_
  refine Rn.aloadN K (q := 2) d15_1 rfl rfl rfl ?_
  refine Rn.sup K (q := 5) (W := 0) (y := oM22) (y2 := oM24) (b := b) (argsL := [(.ref s)]) (rest := []) (by decide) (oT 93 rfl) (oT 96 rfl) (oT 172 rfl) (oT 174 rfl) rfl (oT 94 rfl) (oT 95 rfl) (oT 97 rfl) (oT 79 rfl) (by decide) (m_asa34_30_2 l Z a0 hw n0 h0 b u ku z0 z1 z2 z3 z4 z5 z6 z7 z8 z9 z10 z11 z12 z13 z14 z15 z16 z17 z18 z19 z20 z21 z22 z23 z24 z25 z26 z27 z28 z29 s v k x0 x1 cst X0 SC hcs Eb gb Bv Bc Bn Eu gu Au Es Fc Fv Av hvu hvb) (Ins.of_exa Eb (K.hw _ (oT 78 rfl))) (by decide) (by decide) rfl (lenOf pd_15 rfl) rfl (oL rfl) d15_2 rfl (by decide) (by decide) ?_
  rintro _ h1 ⟨rfl, Q2⟩
  show Rn w l _ n0 _ 5 _ [(.ref b)] h1 0 0
  refine Rn.pop K (q := 6) d15_5 rfl rfl ?_
  refine Rn.aloadN K (q := 7) d15_6 rfl rfl rfl ?_
  exact Rn.retA K (.object "java/lang/StringBuilder") rfl rfl rfl d15_7 (by decide) (by decide) ⟨rfl, Q2⟩
theorem m_gb34_9_21 (l : Launch) (Z : State) (a0 : Array Value) (hw : oH Z a0) (n0 : Nat) (h0 : Heap) (u : Addr) (ku : ClassId) (z0 z1 z2 z3 z4 z5 z6 z7 z8 : Int32) (s v : Addr) (k : ClassId) (x0 x1 x2 x3 x4 x5 x6 x7 x8 x9 x10 x11 x12 x13 x14 x15 x16 x17 x18 x19 x20 : Int32) (cst : Int32) (X0 : Old Z n0 h0) (SC : oSC Z cst) (hcs : ¬ cst = 0) (Es : Exa Z h0 s "java/lang/String") (Fc : Fld Z h0 s "java/lang/String" "coder" "B" (.int (0 : Int32))) (Fv : Fld Z h0 s "java/lang/String" "value" "[B" (.ref v)) (Av : Arv Z h0 v k .byte (21 : Int32) [(.int x0), (.int x1), (.int x2), (.int x3), (.int x4), (.int x5), (.int x6), (.int x7), (.int x8), (.int x9), (.int x10), (.int x11), (.int x12), (.int x13), (.int x14), (.int x15), (.int x16), (.int x17), (.int x18), (.int x19), (.int x20)] oZ) (gu : n0 ≤ u) (Eu : Exa Z h0 u "[B") (Au : Arv Z h0 u ku .byte (34 : Int32) [(.int z0), (.int z1), (.int z2), (.int z3), (.int z4), (.int z5), (.int z6), (.int z7), (.int z8), oZ, oZ, oZ, oZ, oZ, oZ, oZ, oZ, oZ, oZ, oZ, oZ, oZ, oZ, oZ, oZ, oZ, oZ, oZ, oZ, oZ, oZ, oZ, oZ, oZ] oZ) (hvu : v ≠ u) :
    Met l Z oM20 oC20 4 none (oR 1 0 0 44) n0 [] #[(.ref s), (.ref u), (.int (9 : Int32)), oZ] h0 (fun r h => r = none ∧ Keep h0 h [u] ∧ Arv Z h u ku .byte (34 : Int32) [(.int z0), (.int z1), (.int z2), (.int z3), (.int z4), (.int z5), (.int z6), (.int z7), (.int z8), (.int x0), (.int x1), (.int x2), (.int x3), (.int x4), (.int x5), (.int x6), (.int x7), (.int x8), (.int x9), (.int x10), (.int x11), (.int x12), (.int x13), (.int x14), (.int x15), (.int x16), (.int x17), (.int x18), (.int x19), (.int x20), oZ, oZ, oZ, oZ] oZ) := by
  refine Met.intro (Ls := #[.val (.ref s), .val (.ref u), .val (.int (9 : Int32)), .val oZ]) (plainFor_of_name pn_m_coder) hw (fun _ => rfl) ?_
  intro w K0
  have K : oK20 w Z a0 := K0
  have K1 := Keep.refl h0 [u]
  refine Rn.aloadN K (q := 1) d22_0 rfl rfl rfl ?_
  refine Rn.virt K (q := 4) (W := 0) (y := oM0) (z := oM0) (b := s) (argsL := []) (rest := []) (oT 103 rfl) (oT 104 rfl) (nfs K (oT 106 rfl)) (oT 106 rfl) (oT 105 rfl) (oT 107 rfl) (oT 2 rfl) (by decide) (m_coder l Z a0 hw n0 h0 s cst X0 SC hcs Fc) Es (by decide) (by decide) rfl (lenOf pd_1 rfl) rfl (oL rfl) d22_1 rfl (by decide) (by decide) ?_
  rintro _ _ ⟨rfl, rfl⟩
  show Rn w l _ n0 _ 4 _ [oZ] h0 0 0
  refine Rn.iloadN K (q := 5) d22_4 rfl rfl ?_
  refine Rn.icN K (q := 8) d22_5 (XT.ii_ne_f rfl) rfl ?_
  refine Rn.aloadN K (q := 9) d22_8 rfl rfl rfl ?_
  refine Rn.getF K (q := 12) (oT 28 rfl) Via.refl Fv d22_9 rfl ?_
  refine Rn.iconst K (q := 13) (0 : Int32) d22_12 rfl rfl ?_
  refine Rn.aloadN K (q := 14) d22_13 rfl rfl rfl ?_
  refine Rn.iloadN K (q := 15) d22_14 rfl rfl ?_
  refine Rn.iloadN K (q := 16) d22_15 rfl rfl ?_
  refine Rn.ishl K (q := 17) d22_16 rfl ?_
  rw [show ((9 : Int32) <<< ((0 : Int32) &&& 31)) = (9 : Int32) from by decide]
  show Rn w l _ n0 _ 17 _ [(.int (9 : Int32)), (.ref u), oZ, (.ref v)] h0 0 0
  refine Rn.aloadN K (q := 18) d22_17 rfl rfl rfl ?_
  refine Rn.getF K (q := 21) (oT 28 rfl) Via.refl Fv d22_18 rfl ?_
  refine Rn.arraylength K (q := 22) Av d22_21 rfl ?_
  refine Rn.acopy K (q := 25) (W := 0) (o := 0) (p := 9) (n := 21) (z := 34) (by decide) rfl (oT 131 rfl) (oT 134 rfl) (oT 132 rfl) (oT 133 rfl) Av Au (by decide) (by decide) (by decide) (by decide) (by decide) (by decide) gu rfl (oL rfl) (by decide) (by decide) d22_22 rfl ?_
  intro h1 K2 A3
  have f5 := K1.trans K2 (allS (Or.inl (oT 0 rfl)) all0)
  replace A3 : Arv Z h1 u ku .byte (34 : Int32) [(.int z0), (.int z1), (.int z2), (.int z3), (.int z4), (.int z5), (.int z6), (.int z7), (.int z8), (.int x0), (.int x1), (.int x2), (.int x3), (.int x4), (.int x5), (.int x6), (.int x7), (.int x8), (.int x9), (.int x10), (.int x11), (.int x12), (.int x13), (.int x14), (.int x15), (.int x16), (.int x17), (.int x18), (.int x19), (.int x20), oZ, oZ, oZ, oZ] oZ := A3
  show Rn w l _ n0 _ 25 _ [] h1 0 0
  refine Rn.goto K (q := 43) d22_25 (by decide) (by decide) ?_
  exact Rn.retV K rfl d22_43 (by decide) (by decide) ⟨rfl, f5, A3⟩
theorem m_put34_9_21 (l : Launch) (Z : State) (a0 : Array Value) (hw : oH Z a0) (n0 : Nat) (h0 : Heap) (b u : Addr) (ku : ClassId) (z0 z1 z2 z3 z4 z5 z6 z7 z8 : Int32) (s v : Addr) (k : ClassId) (x0 x1 x2 x3 x4 x5 x6 x7 x8 x9 x10 x11 x12 x13 x14 x15 x16 x17 x18 x19 x20 : Int32) (cst : Int32) (X0 : Old Z n0 h0) (SC : oSC Z cst) (hcs : ¬ cst = 0) (Eb : Exa Z h0 b "java/lang/StringBuilder") (gb : n0 ≤ b) (Bv : Fld Z h0 b "java/lang/AbstractStringBuilder" "value" "[B" (.ref u)) (Bc : Fld Z h0 b "java/lang/AbstractStringBuilder" "coder" "B" (.int (0 : Int32))) (Bn : Fld Z h0 b "java/lang/AbstractStringBuilder" "count" "I" (.int (9 : Int32))) (Eu : Exa Z h0 u "[B") (gu : n0 ≤ u) (Au : Arv Z h0 u ku .byte (34 : Int32) [(.int z0), (.int z1), (.int z2), (.int z3), (.int z4), (.int z5), (.int z6), (.int z7), (.int z8), oZ, oZ, oZ, oZ, oZ, oZ, oZ, oZ, oZ, oZ, oZ, oZ, oZ, oZ, oZ, oZ, oZ, oZ, oZ, oZ, oZ, oZ, oZ, oZ, oZ] oZ) (Es : Exa Z h0 s "java/lang/String") (Fc : Fld Z h0 s "java/lang/String" "coder" "B" (.int (0 : Int32))) (Fv : Fld Z h0 s "java/lang/String" "value" "[B" (.ref v)) (Av : Arv Z h0 v k .byte (21 : Int32) [(.int x0), (.int x1), (.int x2), (.int x3), (.int x4), (.int x5), (.int x6), (.int x7), (.int x8), (.int x9), (.int x10), (.int x11), (.int x12), (.int x13), (.int x14), (.int x15), (.int x16), (.int x17), (.int x18), (.int x19), (.int x20)] oZ) (hvu : v ≠ u) :
    Met l Z oM21 oC21 3 none (oR 2 0 0 62) n0 [] #[(.ref b), (.int (9 : Int32)), (.ref s)] h0 (fun r h => r = none ∧ Keep h0 h [u] ∧ Arv Z h u ku .byte (34 : Int32) [(.int z0), (.int z1), (.int z2), (.int z3), (.int z4), (.int z5), (.int z6), (.int z7), (.int z8), (.int x0), (.int x1), (.int x2), (.int x3), (.int x4), (.int x5), (.int x6), (.int x7), (.int x8), (.int x9), (.int x10), (.int x11), (.int x12), (.int x13), (.int x14), (.int x15), (.int x16), (.int x17), (.int x18), (.int x19), (.int x20), oZ, oZ, oZ, oZ] oZ) := by
  refine Met.intro (Ls := #[.val (.ref b), .val (.int (9 : Int32)), .val (.ref s)]) (plainFor_of_name pn_m_asi) hw (fun _ => rfl) ?_
  intro w K0
  have K : oK21 w Z a0 := K0
  refine Rn.aloadN K (q := 1) d20_0 rfl rfl rfl ?_
  refine Rn.aloadN K (q := 2) d20_1 rfl rfl rfl ?_
  refine Rn.privC K (q := 5) (W := 0) (y := oM16) (b := b) (argsL := [(.ref s)]) (rest := []) (oT 120 rfl) (oT 121 rfl) (oT 123 rfl) (oT 122 rfl) (oT 124 rfl) (oT 79 rfl) (by decide) (m_inf l Z a0 hw n0 h0 b s cst X0 SC hcs Bc Es Fc) Eb (by decide) (by decide) rfl (lenOf pd_11 rfl) rfl (oL rfl) d20_2 rfl (by decide) (by decide) ?_
  rintro _ _ ⟨rfl, rfl⟩
  show Rn w l _ n0 _ 5 _ [] h0 0 0
  refine Rn.aloadN K (q := 6) d20_5 rfl rfl rfl ?_
  refine Rn.aloadN K (q := 7) d20_6 rfl rfl rfl ?_
  refine Rn.getF K (q := 10) (oT 83 rfl) Via.refl Bv d20_7 rfl ?_
  refine Rn.iloadN K (q := 11) d20_10 rfl rfl ?_
  refine Rn.aloadN K (q := 12) d20_11 rfl rfl rfl ?_
  refine Rn.getF K (q := 15) (oT 85 rfl) Via.refl Bc d20_12 rfl ?_
  refine Rn.virt K (q := 18) (W := 0) (y := oM20) (z := oM20) (b := s) (argsL := [(.ref u), (.int (9 : Int32)), oZ]) (rest := []) (oT 126 rfl) (oT 127 rfl) (nfs K (oT 129 rfl)) (oT 129 rfl) (oT 128 rfl) (oT 130 rfl) (oT 2 rfl) (by decide) (m_gb34_9_21 l Z a0 hw n0 h0 u ku z0 z1 z2 z3 z4 z5 z6 z7 z8 s v k x0 x1 x2 x3 x4 x5 x6 x7 x8 x9 x10 x11 x12 x13 x14 x15 x16 x17 x18 x19 x20 cst X0 SC hcs Es Fc Fv Av gu Eu Au hvu) Es (by decide) (by decide) rfl (lenOf pd_12 rfl) rfl (oL rfl) d20_15 rfl (by decide) (by decide) ?_
  rintro _ h1 ⟨rfl, Q2⟩
  show Rn w l _ n0 _ 18 _ [] h1 0 0
  exact Rn.retV K rfl d20_18 (by decide) (by decide) ⟨rfl, Q2⟩
theorem m_asaG34_9_21 (l : Launch) (Z : State) (a0 : Array Value) (hw : oH Z a0) (n0 : Nat) (h0 : Heap) (b u : Addr) (ku : ClassId) (z0 z1 z2 z3 z4 z5 z6 z7 z8 : Int32) (s v : Addr) (k : ClassId) (x0 x1 x2 x3 x4 x5 x6 x7 x8 x9 x10 x11 x12 x13 x14 x15 x16 x17 x18 x19 x20 : Int32) (cst : Int32) (X0 : Old Z n0 h0) (SC : oSC Z cst) (hcs : ¬ cst = 0) (Eb : Exa Z h0 b "java/lang/StringBuilder") (gb : n0 ≤ b) (Bv : Fld Z h0 b "java/lang/AbstractStringBuilder" "value" "[B" (.ref u)) (Bc : Fld Z h0 b "java/lang/AbstractStringBuilder" "coder" "B" (.int (0 : Int32))) (Bn : Fld Z h0 b "java/lang/AbstractStringBuilder" "count" "I" (.int (9 : Int32))) (Eu : Exa Z h0 u "[B") (gu : n0 ≤ u) (Au : Arv Z h0 u ku .byte (16 : Int32) [(.int z0), (.int z1), (.int z2), (.int z3), (.int z4), (.int z5), (.int z6), (.int z7), (.int z8), oZ, oZ, oZ, oZ, oZ, oZ, oZ] oZ) (Es : Exa Z h0 s "java/lang/String") (Fc : Fld Z h0 s "java/lang/String" "coder" "B" (.int (0 : Int32))) (Fv : Fld Z h0 s "java/lang/String" "value" "[B" (.ref v)) (Av : Arv Z h0 v k .byte (21 : Int32) [(.int x0), (.int x1), (.int x2), (.int x3), (.int x4), (.int x5), (.int x6), (.int x7), (.int x8), (.int x9), (.int x10), (.int x11), (.int x12), (.int x13), (.int x14), (.int x15), (.int x16), (.int x17), (.int x18), (.int x19), (.int x20)] oZ) (hvu : v ≠ u) (hvb : v ≠ b) :
    Met l Z oM22 oC22 3 (some (.object "java/lang/AbstractStringBuilder")) (oR 4 1 34 110) n0 [] #[(.ref b), (.ref s)] h0 (fun r h => r = some (.ref b) ∧ Keep h0 h [b] ∧ ∃ u k, h0.size ≤ u ∧ n0 ≤ u ∧ Fld Z h b "java/lang/AbstractStringBuilder" "value" "[B" (.ref u) ∧ Fld Z h b "java/lang/AbstractStringBuilder" "coder" "B" (.int (0 : Int32)) ∧ Fld Z h b "java/lang/AbstractStringBuilder" "count" "I" (.int (30 : Int32)) ∧ Exa Z h u "[B" ∧ Arv Z h u k .byte (34 : Int32) [(.int z0), (.int z1), (.int z2), (.int z3), (.int z4), (.int z5), (.int z6), (.int z7), (.int z8), (.int x0), (.int x1), (.int x2), (.int x3), (.int x4), (.int x5), (.int x6), (.int x7), (.int x8), (.int x9), (.int x10), (.int x11), (.int x12), (.int x13), (.int x14), (.int x15), (.int x16), (.int x17), (.int x18), (.int x19), (.int x20), oZ, oZ, oZ, oZ] oZ) := by
  refine Met.intro (Ls := #[.val (.ref b), .val (.ref s), .unset]) (plainFor_of_name pn_m_asi) hw (fun _ => rfl) ?_
  intro w K0
  have K : oK22 w Z a0 := K0
  have K1 := Keep.refl h0 [b]
  refine Rn.aloadN K (q := 1) d16_0 rfl rfl rfl ?_
  refine Rn.nonnullY K (q := 9) d16_1 (by decide) (by decide) ?_
  refine Rn.aloadN K (q := 10) d16_9 rfl rfl rfl ?_
  refine Rn.virt K (q := 13) (W := 0) (y := oM3) (z := oM3) (b := s) (argsL := []) (rest := []) (oT 98 rfl) (oT 99 rfl) (nfs K (oT 101 rfl)) (oT 101 rfl) (oT 100 rfl) (oT 102 rfl) (oT 2 rfl) (by decide) (m_len21 l Z a0 hw n0 h0 s v k cst x0 x1 x2 x3 x4 x5 x6 x7 x8 x9 x10 x11 x12 x13 x14 x15 x16 x17 x18 x19 x20 X0 SC hcs Es Fc Fv Av) Es (by decide) (by decide) rfl (lenOf pd_13 rfl) rfl (oL rfl) d16_10 rfl (by decide) (by decide) ?_
  rintro _ _ ⟨rfl, rfl⟩
  show Rn w l _ n0 _ 13 _ [(.int (21 : Int32))] h0 0 0
  refine Rn.istoreN K (q := 14) (Ls' := #[.val (.ref b), .val (.ref s), .val (.int (21 : Int32))]) d16_13 rfl rfl ?_
  refine Rn.aloadN K (q := 15) d16_14 rfl rfl rfl ?_
  refine Rn.aloadN K (q := 16) d16_15 rfl rfl rfl ?_
  refine Rn.getF K (q := 19) (oT 108 rfl) Via.refl Bn d16_16 rfl ?_
  refine Rn.iloadN K (q := 20) d16_19 rfl rfl ?_
  refine Rn.iadd K (q := 21) d16_20 rfl ?_
  show Rn w l _ n0 _ 21 _ [(.int (30 : Int32)), (.ref b)] h0 0 0
  refine Rn.privC K (q := 24) (W := 0) (y := oM18) (b := b) (argsL := [(.int (30 : Int32))]) (rest := []) (oT 110 rfl) (oT 111 rfl) (oT 113 rfl) (oT 112 rfl) (oT 114 rfl) (oT 79 rfl) (by decide) (m_ensG30 l Z a0 hw n0 h0 b u ku z0 z1 z2 z3 z4 z5 z6 z7 z8 X0 Eb gb Bv Bc Bn Eu gu Au) Eb (by decide) (by decide) rfl (lenOf pd_7 rfl) rfl (oL rfl) d16_21 rfl (by decide) (by decide) ?_
  rintro _ h1 ⟨rfl, K2, u2, k2, su2, gu2, Bv2, Bc2, Bn2, Eu2, Au2⟩
  have ne_v_u2 : v ≠ u2 := fun e => absurd Av.lt (by rw [e]; exact Nat.not_lt.mpr su2)
  have f3 := X0.keep K2 (allS gb all0)
  have f4 := K1.trans K2 (allS (Or.inl (oT 0 rfl)) all0)
  have f5 := Eb.keep K2
  have f8 := Es.keep K2
  have f9 := Fc.keep K2 (ninS (ne_exa Es Eb (by decide)) nin0)
  have f10 := Fv.keep K2 (ninS (ne_exa Es Eb (by decide)) nin0)
  have f11 := Av.keep K2 (ninS hvb nin0)
  show Rn w l _ n0 _ 24 _ [] h1 1 34
  refine Rn.aloadN K (q := 25) d16_24 rfl rfl rfl ?_
  refine Rn.aloadN K (q := 26) d16_25 rfl rfl rfl ?_
  refine Rn.getF K (q := 29) (oT 108 rfl) Via.refl Bn2 d16_26 rfl ?_
  refine Rn.aloadN K (q := 30) d16_29 rfl rfl rfl ?_
  refine Rn.privC K (q := 33) (W := 0) (y := oM21) (b := b) (argsL := [(.int (9 : Int32)), (.ref s)]) (rest := []) (oT 115 rfl) (oT 116 rfl) (oT 118 rfl) (oT 117 rfl) (oT 119 rfl) (oT 79 rfl) (by decide) (m_put34_9_21 l Z a0 hw n0 h1 b u2 k2 z0 z1 z2 z3 z4 z5 z6 z7 z8 s v k x0 x1 x2 x3 x4 x5 x6 x7 x8 x9 x10 x11 x12 x13 x14 x15 x16 x17 x18 x19 x20 cst f3 SC hcs f5 gb Bv2 Bc2 Bn2 Eu2 gu2 Au2 f8 f9 f10 f11 ne_v_u2) f5 (by decide) (by decide) rfl (lenOf pd_14 rfl) rfl (oL rfl) d16_30 rfl (by decide) (by decide) ?_
  rintro _ h12 ⟨rfl, K13, A14⟩
  have f16 := f4.trans K13 (allS (Or.inr su2) all0)
  have f17 := f5.keep K13
  have f24 := Bv2.keep K13 (ninS (ne_exa f5 Eu2 (by decide)) nin0)
  have f25 := Bc2.keep K13 (ninS (ne_exa f5 Eu2 (by decide)) nin0)
  have f26 := Bn2.keep K13 (ninS (ne_exa f5 Eu2 (by decide)) nin0)
  have f27 := Eu2.keep K13
  show Rn w l _ n0 _ 33 _ [] h12 1 34
  refine Rn.aloadN K (q := 34) d16_33 rfl rfl rfl ?_
  refine Rn.dup K (q := 35) d16_34 rfl rfl ?_
  refine Rn.getF K (q := 38) (oT 108 rfl) Via.refl f26 d16_35 rfl ?_
  refine Rn.iloadN K (q := 39) d16_38 rfl rfl ?_
  refine Rn.iadd K (q := 40) d16_39 rfl ?_
  show Rn w l _ n0 _ 40 _ [(.int (30 : Int32)), (.ref b)] h12 1 34
  refine Rn.putF K (q := 43) (ty := .int) (oT 108 rfl) Via.refl f26 f17 (Or.inl (oT 109 rfl)) (oT 70 rfl) (by decide) rfl rfl gb d16_40 rfl ?_
  intro h28 W29
  have f31 := f16.wr W29 (Or.inl (oT 0 rfl))
  have f39 := Fld.other W29 f24 (Or.inr (slot_ne (Or.inl (K.hw _ (oT 84 rfl))) (Or.inl (K.hw _ (oT 109 rfl))) (by decide) (t := (.array .byte)) (t' := .int) (by decide) (by decide)))
  have f40 := Fld.other W29 f25 (Or.inr (slot_ne (Or.inl (K.hw _ (oT 86 rfl))) (Or.inl (K.hw _ (oT 109 rfl))) (by decide) (t := .byte) (t' := .int) (by decide) (by decide)))
  have f41 := Fld.same W29 f26
  have f42 := f27.wr W29
  have f43 := A14.other W29 (ne_exa f27 f17 (by decide))
  refine Rn.aloadN K (q := 44) d16_43 rfl rfl rfl ?_
  exact Rn.retA K (.object "java/lang/AbstractStringBuilder") rfl rfl rfl d16_44 (by decide) (by decide) ⟨rfl, f31, _, _, su2, gu2, f39, f40, f41, f42, f43⟩
theorem m_appG34_9_21 (l : Launch) (Z : State) (a0 : Array Value) (hw : oH Z a0) (n0 : Nat) (h0 : Heap) (b u : Addr) (ku : ClassId) (z0 z1 z2 z3 z4 z5 z6 z7 z8 : Int32) (s v : Addr) (k : ClassId) (x0 x1 x2 x3 x4 x5 x6 x7 x8 x9 x10 x11 x12 x13 x14 x15 x16 x17 x18 x19 x20 : Int32) (cst : Int32) (X0 : Old Z n0 h0) (SC : oSC Z cst) (hcs : ¬ cst = 0) (Eb : Exa Z h0 b "java/lang/StringBuilder") (gb : n0 ≤ b) (Bv : Fld Z h0 b "java/lang/AbstractStringBuilder" "value" "[B" (.ref u)) (Bc : Fld Z h0 b "java/lang/AbstractStringBuilder" "coder" "B" (.int (0 : Int32))) (Bn : Fld Z h0 b "java/lang/AbstractStringBuilder" "count" "I" (.int (9 : Int32))) (Eu : Exa Z h0 u "[B") (gu : n0 ≤ u) (Au : Arv Z h0 u ku .byte (16 : Int32) [(.int z0), (.int z1), (.int z2), (.int z3), (.int z4), (.int z5), (.int z6), (.int z7), (.int z8), oZ, oZ, oZ, oZ, oZ, oZ, oZ] oZ) (Es : Exa Z h0 s "java/lang/String") (Fc : Fld Z h0 s "java/lang/String" "coder" "B" (.int (0 : Int32))) (Fv : Fld Z h0 s "java/lang/String" "value" "[B" (.ref v)) (Av : Arv Z h0 v k .byte (21 : Int32) [(.int x0), (.int x1), (.int x2), (.int x3), (.int x4), (.int x5), (.int x6), (.int x7), (.int x8), (.int x9), (.int x10), (.int x11), (.int x12), (.int x13), (.int x14), (.int x15), (.int x16), (.int x17), (.int x18), (.int x19), (.int x20)] oZ) (hvu : v ≠ u) (hvb : v ≠ b) :
    Met l Z oM23 oC23 2 (some (.object "java/lang/StringBuilder")) (oR 5 1 34 126) n0 [] #[(.ref b), (.ref s)] h0 (fun r h => r = some (.ref b) ∧ Keep h0 h [b] ∧ ∃ u k, h0.size ≤ u ∧ n0 ≤ u ∧ Fld Z h b "java/lang/AbstractStringBuilder" "value" "[B" (.ref u) ∧ Fld Z h b "java/lang/AbstractStringBuilder" "coder" "B" (.int (0 : Int32)) ∧ Fld Z h b "java/lang/AbstractStringBuilder" "count" "I" (.int (30 : Int32)) ∧ Exa Z h u "[B" ∧ Arv Z h u k .byte (34 : Int32) [(.int z0), (.int z1), (.int z2), (.int z3), (.int z4), (.int z5), (.int z6), (.int z7), (.int z8), (.int x0), (.int x1), (.int x2), (.int x3), (.int x4), (.int x5), (.int x6), (.int x7), (.int x8), (.int x9), (.int x10), (.int x11), (.int x12), (.int x13), (.int x14), (.int x15), (.int x16), (.int x17), (.int x18), (.int x19), (.int x20), oZ, oZ, oZ, oZ] oZ) := by
  refine Met.intro (Ls := #[.val (.ref b), .val (.ref s)]) (plainFor_of_name pn_m_sbi) hw (fun _ => rfl) ?_
  intro w K0
  have K : oK23 w Z a0 := K0
  refine Rn.aloadN K (q := 1) d15_0 rfl rfl rfl ?_
  refine Rn.aloadN K (q := 2) d15_1 rfl rfl rfl ?_
  refine Rn.sup K (q := 5) (W := 0) (y := oM22) (y2 := oM24) (b := b) (argsL := [(.ref s)]) (rest := []) (by decide) (oT 93 rfl) (oT 96 rfl) (oT 172 rfl) (oT 174 rfl) rfl (oT 94 rfl) (oT 95 rfl) (oT 97 rfl) (oT 79 rfl) (by decide) (m_asaG34_9_21 l Z a0 hw n0 h0 b u ku z0 z1 z2 z3 z4 z5 z6 z7 z8 s v k x0 x1 x2 x3 x4 x5 x6 x7 x8 x9 x10 x11 x12 x13 x14 x15 x16 x17 x18 x19 x20 cst X0 SC hcs Eb gb Bv Bc Bn Eu gu Au Es Fc Fv Av hvu hvb) (Ins.of_exa Eb (K.hw _ (oT 78 rfl))) (by decide) (by decide) rfl (lenOf pd_15 rfl) rfl (oL rfl) d15_2 rfl (by decide) (by decide) ?_
  rintro _ h1 ⟨rfl, Q2⟩
  show Rn w l _ n0 _ 5 _ [(.ref b)] h1 1 34
  refine Rn.pop K (q := 6) d15_5 rfl rfl ?_
  refine Rn.aloadN K (q := 7) d15_6 rfl rfl rfl ?_
  exact Rn.retA K (.object "java/lang/StringBuilder") rfl rfl rfl d15_7 (by decide) (by decide) ⟨rfl, Q2⟩
theorem m_gb34_9_14 (l : Launch) (Z : State) (a0 : Array Value) (hw : oH Z a0) (n0 : Nat) (h0 : Heap) (u : Addr) (ku : ClassId) (z0 z1 z2 z3 z4 z5 z6 z7 z8 : Int32) (s v : Addr) (k : ClassId) (x0 x1 x2 x3 x4 x5 x6 x7 x8 x9 x10 x11 x12 x13 : Int32) (cst : Int32) (X0 : Old Z n0 h0) (SC : oSC Z cst) (hcs : ¬ cst = 0) (Es : Exa Z h0 s "java/lang/String") (Fc : Fld Z h0 s "java/lang/String" "coder" "B" (.int (0 : Int32))) (Fv : Fld Z h0 s "java/lang/String" "value" "[B" (.ref v)) (Av : Arv Z h0 v k .byte (14 : Int32) [(.int x0), (.int x1), (.int x2), (.int x3), (.int x4), (.int x5), (.int x6), (.int x7), (.int x8), (.int x9), (.int x10), (.int x11), (.int x12), (.int x13)] oZ) (gu : n0 ≤ u) (Eu : Exa Z h0 u "[B") (Au : Arv Z h0 u ku .byte (34 : Int32) [(.int z0), (.int z1), (.int z2), (.int z3), (.int z4), (.int z5), (.int z6), (.int z7), (.int z8), oZ, oZ, oZ, oZ, oZ, oZ, oZ, oZ, oZ, oZ, oZ, oZ, oZ, oZ, oZ, oZ, oZ, oZ, oZ, oZ, oZ, oZ, oZ, oZ, oZ] oZ) (hvu : v ≠ u) :
    Met l Z oM20 oC20 4 none (oR 1 0 0 44) n0 [] #[(.ref s), (.ref u), (.int (9 : Int32)), oZ] h0 (fun r h => r = none ∧ Keep h0 h [u] ∧ Arv Z h u ku .byte (34 : Int32) [(.int z0), (.int z1), (.int z2), (.int z3), (.int z4), (.int z5), (.int z6), (.int z7), (.int z8), (.int x0), (.int x1), (.int x2), (.int x3), (.int x4), (.int x5), (.int x6), (.int x7), (.int x8), (.int x9), (.int x10), (.int x11), (.int x12), (.int x13), oZ, oZ, oZ, oZ, oZ, oZ, oZ, oZ, oZ, oZ, oZ] oZ) := by
  refine Met.intro (Ls := #[.val (.ref s), .val (.ref u), .val (.int (9 : Int32)), .val oZ]) (plainFor_of_name pn_m_coder) hw (fun _ => rfl) ?_
  intro w K0
  have K : oK20 w Z a0 := K0
  have K1 := Keep.refl h0 [u]
  refine Rn.aloadN K (q := 1) d22_0 rfl rfl rfl ?_
  refine Rn.virt K (q := 4) (W := 0) (y := oM0) (z := oM0) (b := s) (argsL := []) (rest := []) (oT 103 rfl) (oT 104 rfl) (nfs K (oT 106 rfl)) (oT 106 rfl) (oT 105 rfl) (oT 107 rfl) (oT 2 rfl) (by decide) (m_coder l Z a0 hw n0 h0 s cst X0 SC hcs Fc) Es (by decide) (by decide) rfl (lenOf pd_1 rfl) rfl (oL rfl) d22_1 rfl (by decide) (by decide) ?_
  rintro _ _ ⟨rfl, rfl⟩
  show Rn w l _ n0 _ 4 _ [oZ] h0 0 0
  refine Rn.iloadN K (q := 5) d22_4 rfl rfl ?_
  refine Rn.icN K (q := 8) d22_5 (XT.ii_ne_f rfl) rfl ?_
  refine Rn.aloadN K (q := 9) d22_8 rfl rfl rfl ?_
  refine Rn.getF K (q := 12) (oT 28 rfl) Via.refl Fv d22_9 rfl ?_
  refine Rn.iconst K (q := 13) (0 : Int32) d22_12 rfl rfl ?_
  refine Rn.aloadN K (q := 14) d22_13 rfl rfl rfl ?_
  refine Rn.iloadN K (q := 15) d22_14 rfl rfl ?_
  refine Rn.iloadN K (q := 16) d22_15 rfl rfl ?_
  refine Rn.ishl K (q := 17) d22_16 rfl ?_
  rw [show ((9 : Int32) <<< ((0 : Int32) &&& 31)) = (9 : Int32) from by decide]
  show Rn w l _ n0 _ 17 _ [(.int (9 : Int32)), (.ref u), oZ, (.ref v)] h0 0 0
  refine Rn.aloadN K (q := 18) d22_17 rfl rfl rfl ?_
  refine Rn.getF K (q := 21) (oT 28 rfl) Via.refl Fv d22_18 rfl ?_
  refine Rn.arraylength K (q := 22) Av d22_21 rfl ?_
  refine Rn.acopy K (q := 25) (W := 0) (o := 0) (p := 9) (n := 14) (z := 34) (by decide) rfl (oT 131 rfl) (oT 134 rfl) (oT 132 rfl) (oT 133 rfl) Av Au (by decide) (by decide) (by decide) (by decide) (by decide) (by decide) gu rfl (oL rfl) (by decide) (by decide) d22_22 rfl ?_
  intro h1 K2 A3
  have f5 := K1.trans K2 (allS (Or.inl (oT 0 rfl)) all0)
  replace A3 : Arv Z h1 u ku .byte (34 : Int32) [(.int z0), (.int z1), (.int z2), (.int z3), (.int z4), (.int z5), (.int z6), (.int z7), (.int z8), (.int x0), (.int x1), (.int x2), (.int x3), (.int x4), (.int x5), (.int x6), (.int x7), (.int x8), (.int x9), (.int x10), (.int x11), (.int x12), (.int x13), oZ, oZ, oZ, oZ, oZ, oZ, oZ, oZ, oZ, oZ, oZ] oZ := A3
  show Rn w l _ n0 _ 25 _ [] h1 0 0
  refine Rn.goto K (q := 43) d22_25 (by decide) (by decide) ?_
  exact Rn.retV K rfl d22_43 (by decide) (by decide) ⟨rfl, f5, A3⟩
theorem m_put34_9_14 (l : Launch) (Z : State) (a0 : Array Value) (hw : oH Z a0) (n0 : Nat) (h0 : Heap) (b u : Addr) (ku : ClassId) (z0 z1 z2 z3 z4 z5 z6 z7 z8 : Int32) (s v : Addr) (k : ClassId) (x0 x1 x2 x3 x4 x5 x6 x7 x8 x9 x10 x11 x12 x13 : Int32) (cst : Int32) (X0 : Old Z n0 h0) (SC : oSC Z cst) (hcs : ¬ cst = 0) (Eb : Exa Z h0 b "java/lang/StringBuilder") (gb : n0 ≤ b) (Bv : Fld Z h0 b "java/lang/AbstractStringBuilder" "value" "[B" (.ref u)) (Bc : Fld Z h0 b "java/lang/AbstractStringBuilder" "coder" "B" (.int (0 : Int32))) (Bn : Fld Z h0 b "java/lang/AbstractStringBuilder" "count" "I" (.int (9 : Int32))) (Eu : Exa Z h0 u "[B") (gu : n0 ≤ u) (Au : Arv Z h0 u ku .byte (34 : Int32) [(.int z0), (.int z1), (.int z2), (.int z3), (.int z4), (.int z5), (.int z6), (.int z7), (.int z8), oZ, oZ, oZ, oZ, oZ, oZ, oZ, oZ, oZ, oZ, oZ, oZ, oZ, oZ, oZ, oZ, oZ, oZ, oZ, oZ, oZ, oZ, oZ, oZ, oZ] oZ) (Es : Exa Z h0 s "java/lang/String") (Fc : Fld Z h0 s "java/lang/String" "coder" "B" (.int (0 : Int32))) (Fv : Fld Z h0 s "java/lang/String" "value" "[B" (.ref v)) (Av : Arv Z h0 v k .byte (14 : Int32) [(.int x0), (.int x1), (.int x2), (.int x3), (.int x4), (.int x5), (.int x6), (.int x7), (.int x8), (.int x9), (.int x10), (.int x11), (.int x12), (.int x13)] oZ) (hvu : v ≠ u) :
    Met l Z oM21 oC21 3 none (oR 2 0 0 62) n0 [] #[(.ref b), (.int (9 : Int32)), (.ref s)] h0 (fun r h => r = none ∧ Keep h0 h [u] ∧ Arv Z h u ku .byte (34 : Int32) [(.int z0), (.int z1), (.int z2), (.int z3), (.int z4), (.int z5), (.int z6), (.int z7), (.int z8), (.int x0), (.int x1), (.int x2), (.int x3), (.int x4), (.int x5), (.int x6), (.int x7), (.int x8), (.int x9), (.int x10), (.int x11), (.int x12), (.int x13), oZ, oZ, oZ, oZ, oZ, oZ, oZ, oZ, oZ, oZ, oZ] oZ) := by
  refine Met.intro (Ls := #[.val (.ref b), .val (.int (9 : Int32)), .val (.ref s)]) (plainFor_of_name pn_m_asi) hw (fun _ => rfl) ?_
  intro w K0
  have K : oK21 w Z a0 := K0
  refine Rn.aloadN K (q := 1) d20_0 rfl rfl rfl ?_
  refine Rn.aloadN K (q := 2) d20_1 rfl rfl rfl ?_
  refine Rn.privC K (q := 5) (W := 0) (y := oM16) (b := b) (argsL := [(.ref s)]) (rest := []) (oT 120 rfl) (oT 121 rfl) (oT 123 rfl) (oT 122 rfl) (oT 124 rfl) (oT 79 rfl) (by decide) (m_inf l Z a0 hw n0 h0 b s cst X0 SC hcs Bc Es Fc) Eb (by decide) (by decide) rfl (lenOf pd_11 rfl) rfl (oL rfl) d20_2 rfl (by decide) (by decide) ?_
  rintro _ _ ⟨rfl, rfl⟩
  show Rn w l _ n0 _ 5 _ [] h0 0 0
  refine Rn.aloadN K (q := 6) d20_5 rfl rfl rfl ?_
  refine Rn.aloadN K (q := 7) d20_6 rfl rfl rfl ?_
  refine Rn.getF K (q := 10) (oT 83 rfl) Via.refl Bv d20_7 rfl ?_
  refine Rn.iloadN K (q := 11) d20_10 rfl rfl ?_
  refine Rn.aloadN K (q := 12) d20_11 rfl rfl rfl ?_
  refine Rn.getF K (q := 15) (oT 85 rfl) Via.refl Bc d20_12 rfl ?_
  refine Rn.virt K (q := 18) (W := 0) (y := oM20) (z := oM20) (b := s) (argsL := [(.ref u), (.int (9 : Int32)), oZ]) (rest := []) (oT 126 rfl) (oT 127 rfl) (nfs K (oT 129 rfl)) (oT 129 rfl) (oT 128 rfl) (oT 130 rfl) (oT 2 rfl) (by decide) (m_gb34_9_14 l Z a0 hw n0 h0 u ku z0 z1 z2 z3 z4 z5 z6 z7 z8 s v k x0 x1 x2 x3 x4 x5 x6 x7 x8 x9 x10 x11 x12 x13 cst X0 SC hcs Es Fc Fv Av gu Eu Au hvu) Es (by decide) (by decide) rfl (lenOf pd_12 rfl) rfl (oL rfl) d20_15 rfl (by decide) (by decide) ?_
  rintro _ h1 ⟨rfl, Q2⟩
  show Rn w l _ n0 _ 18 _ [] h1 0 0
  exact Rn.retV K rfl d20_18 (by decide) (by decide) ⟨rfl, Q2⟩
theorem m_asaG34_9_14 (l : Launch) (Z : State) (a0 : Array Value) (hw : oH Z a0) (n0 : Nat) (h0 : Heap) (b u : Addr) (ku : ClassId) (z0 z1 z2 z3 z4 z5 z6 z7 z8 : Int32) (s v : Addr) (k : ClassId) (x0 x1 x2 x3 x4 x5 x6 x7 x8 x9 x10 x11 x12 x13 : Int32) (cst : Int32) (X0 : Old Z n0 h0) (SC : oSC Z cst) (hcs : ¬ cst = 0) (Eb : Exa Z h0 b "java/lang/StringBuilder") (gb : n0 ≤ b) (Bv : Fld Z h0 b "java/lang/AbstractStringBuilder" "value" "[B" (.ref u)) (Bc : Fld Z h0 b "java/lang/AbstractStringBuilder" "coder" "B" (.int (0 : Int32))) (Bn : Fld Z h0 b "java/lang/AbstractStringBuilder" "count" "I" (.int (9 : Int32))) (Eu : Exa Z h0 u "[B") (gu : n0 ≤ u) (Au : Arv Z h0 u ku .byte (16 : Int32) [(.int z0), (.int z1), (.int z2), (.int z3), (.int z4), (.int z5), (.int z6), (.int z7), (.int z8), oZ, oZ, oZ, oZ, oZ, oZ, oZ] oZ) (Es : Exa Z h0 s "java/lang/String") (Fc : Fld Z h0 s "java/lang/String" "coder" "B" (.int (0 : Int32))) (Fv : Fld Z h0 s "java/lang/String" "value" "[B" (.ref v)) (Av : Arv Z h0 v k .byte (14 : Int32) [(.int x0), (.int x1), (.int x2), (.int x3), (.int x4), (.int x5), (.int x6), (.int x7), (.int x8), (.int x9), (.int x10), (.int x11), (.int x12), (.int x13)] oZ) (hvu : v ≠ u) (hvb : v ≠ b) :
    Met l Z oM22 oC22 3 (some (.object "java/lang/AbstractStringBuilder")) (oR 4 1 34 110) n0 [] #[(.ref b), (.ref s)] h0 (fun r h => r = some (.ref b) ∧ Keep h0 h [b] ∧ ∃ u k, h0.size ≤ u ∧ n0 ≤ u ∧ Fld Z h b "java/lang/AbstractStringBuilder" "value" "[B" (.ref u) ∧ Fld Z h b "java/lang/AbstractStringBuilder" "coder" "B" (.int (0 : Int32)) ∧ Fld Z h b "java/lang/AbstractStringBuilder" "count" "I" (.int (23 : Int32)) ∧ Exa Z h u "[B" ∧ Arv Z h u k .byte (34 : Int32) [(.int z0), (.int z1), (.int z2), (.int z3), (.int z4), (.int z5), (.int z6), (.int z7), (.int z8), (.int x0), (.int x1), (.int x2), (.int x3), (.int x4), (.int x5), (.int x6), (.int x7), (.int x8), (.int x9), (.int x10), (.int x11), (.int x12), (.int x13), oZ, oZ, oZ, oZ, oZ, oZ, oZ, oZ, oZ, oZ, oZ] oZ) := by
  refine Met.intro (Ls := #[.val (.ref b), .val (.ref s), .unset]) (plainFor_of_name pn_m_asi) hw (fun _ => rfl) ?_
  intro w K0
  have K : oK22 w Z a0 := K0
  have K1 := Keep.refl h0 [b]
  refine Rn.aloadN K (q := 1) d16_0 rfl rfl rfl ?_
  refine Rn.nonnullY K (q := 9) d16_1 (by decide) (by decide) ?_
  refine Rn.aloadN K (q := 10) d16_9 rfl rfl rfl ?_
  refine Rn.virt K (q := 13) (W := 0) (y := oM3) (z := oM3) (b := s) (argsL := []) (rest := []) (oT 98 rfl) (oT 99 rfl) (nfs K (oT 101 rfl)) (oT 101 rfl) (oT 100 rfl) (oT 102 rfl) (oT 2 rfl) (by decide) (m_len14 l Z a0 hw n0 h0 s v k cst x0 x1 x2 x3 x4 x5 x6 x7 x8 x9 x10 x11 x12 x13 X0 SC hcs Es Fc Fv Av) Es (by decide) (by decide) rfl (lenOf pd_13 rfl) rfl (oL rfl) d16_10 rfl (by decide) (by decide) ?_
  rintro _ _ ⟨rfl, rfl⟩
  show Rn w l _ n0 _ 13 _ [(.int (14 : Int32))] h0 0 0
  refine Rn.istoreN K (q := 14) (Ls' := #[.val (.ref b), .val (.ref s), .val (.int (14 : Int32))]) d16_13 rfl rfl ?_
  refine Rn.aloadN K (q := 15) d16_14 rfl rfl rfl ?_
  refine Rn.aloadN K (q := 16) d16_15 rfl rfl rfl ?_
  refine Rn.getF K (q := 19) (oT 108 rfl) Via.refl Bn d16_16 rfl ?_
  refine Rn.iloadN K (q := 20) d16_19 rfl rfl ?_
  refine Rn.iadd K (q := 21) d16_20 rfl ?_
  show Rn w l _ n0 _ 21 _ [(.int (23 : Int32)), (.ref b)] h0 0 0
  refine Rn.privC K (q := 24) (W := 0) (y := oM18) (b := b) (argsL := [(.int (23 : Int32))]) (rest := []) (oT 110 rfl) (oT 111 rfl) (oT 113 rfl) (oT 112 rfl) (oT 114 rfl) (oT 79 rfl) (by decide) (m_ensG23 l Z a0 hw n0 h0 b u ku z0 z1 z2 z3 z4 z5 z6 z7 z8 X0 Eb gb Bv Bc Bn Eu gu Au) Eb (by decide) (by decide) rfl (lenOf pd_7 rfl) rfl (oL rfl) d16_21 rfl (by decide) (by decide) ?_
  rintro _ h1 ⟨rfl, K2, u2, k2, su2, gu2, Bv2, Bc2, Bn2, Eu2, Au2⟩
  have ne_v_u2 : v ≠ u2 := fun e => absurd Av.lt (by rw [e]; exact Nat.not_lt.mpr su2)
  have f3 := X0.keep K2 (allS gb all0)
  have f4 := K1.trans K2 (allS (Or.inl (oT 0 rfl)) all0)
  have f5 := Eb.keep K2
  have f8 := Es.keep K2
  have f9 := Fc.keep K2 (ninS (ne_exa Es Eb (by decide)) nin0)
  have f10 := Fv.keep K2 (ninS (ne_exa Es Eb (by decide)) nin0)
  have f11 := Av.keep K2 (ninS hvb nin0)
  show Rn w l _ n0 _ 24 _ [] h1 1 34
  refine Rn.aloadN K (q := 25) d16_24 rfl rfl rfl ?_
  refine Rn.aloadN K (q := 26) d16_25 rfl rfl rfl ?_
  refine Rn.getF K (q := 29) (oT 108 rfl) Via.refl Bn2 d16_26 rfl ?_
  refine Rn.aloadN K (q := 30) d16_29 rfl rfl rfl ?_
  refine Rn.privC K (q := 33) (W := 0) (y := oM21) (b := b) (argsL := [(.int (9 : Int32)), (.ref s)]) (rest := []) (oT 115 rfl) (oT 116 rfl) (oT 118 rfl) (oT 117 rfl) (oT 119 rfl) (oT 79 rfl) (by decide) (m_put34_9_14 l Z a0 hw n0 h1 b u2 k2 z0 z1 z2 z3 z4 z5 z6 z7 z8 s v k x0 x1 x2 x3 x4 x5 x6 x7 x8 x9 x10 x11 x12 x13 cst f3 SC hcs f5 gb Bv2 Bc2 Bn2 Eu2 gu2 Au2 f8 f9 f10 f11 ne_v_u2) f5 (by decide) (by decide) rfl (lenOf pd_14 rfl) rfl (oL rfl) d16_30 rfl (by decide) (by decide) ?_
  rintro _ h12 ⟨rfl, K13, A14⟩
  have f16 := f4.trans K13 (allS (Or.inr su2) all0)
  have f17 := f5.keep K13
  have f24 := Bv2.keep K13 (ninS (ne_exa f5 Eu2 (by decide)) nin0)
  have f25 := Bc2.keep K13 (ninS (ne_exa f5 Eu2 (by decide)) nin0)
  have f26 := Bn2.keep K13 (ninS (ne_exa f5 Eu2 (by decide)) nin0)
  have f27 := Eu2.keep K13
  show Rn w l _ n0 _ 33 _ [] h12 1 34
  refine Rn.aloadN K (q := 34) d16_33 rfl rfl rfl ?_
  refine Rn.dup K (q := 35) d16_34 rfl rfl ?_
  refine Rn.getF K (q := 38) (oT 108 rfl) Via.refl f26 d16_35 rfl ?_
  refine Rn.iloadN K (q := 39) d16_38 rfl rfl ?_
  refine Rn.iadd K (q := 40) d16_39 rfl ?_
  show Rn w l _ n0 _ 40 _ [(.int (23 : Int32)), (.ref b)] h12 1 34
  refine Rn.putF K (q := 43) (ty := .int) (oT 108 rfl) Via.refl f26 f17 (Or.inl (oT 109 rfl)) (oT 70 rfl) (by decide) rfl rfl gb d16_40 rfl ?_
  intro h28 W29
  have f31 := f16.wr W29 (Or.inl (oT 0 rfl))
  have f39 := Fld.other W29 f24 (Or.inr (slot_ne (Or.inl (K.hw _ (oT 84 rfl))) (Or.inl (K.hw _ (oT 109 rfl))) (by decide) (t := (.array .byte)) (t' := .int) (by decide) (by decide)))
  have f40 := Fld.other W29 f25 (Or.inr (slot_ne (Or.inl (K.hw _ (oT 86 rfl))) (Or.inl (K.hw _ (oT 109 rfl))) (by decide) (t := .byte) (t' := .int) (by decide) (by decide)))
  have f41 := Fld.same W29 f26
  have f42 := f27.wr W29
  have f43 := A14.other W29 (ne_exa f27 f17 (by decide))
  refine Rn.aloadN K (q := 44) d16_43 rfl rfl rfl ?_
  exact Rn.retA K (.object "java/lang/AbstractStringBuilder") rfl rfl rfl d16_44 (by decide) (by decide) ⟨rfl, f31, _, _, su2, gu2, f39, f40, f41, f42, f43⟩
theorem m_appG34_9_14 (l : Launch) (Z : State) (a0 : Array Value) (hw : oH Z a0) (n0 : Nat) (h0 : Heap) (b u : Addr) (ku : ClassId) (z0 z1 z2 z3 z4 z5 z6 z7 z8 : Int32) (s v : Addr) (k : ClassId) (x0 x1 x2 x3 x4 x5 x6 x7 x8 x9 x10 x11 x12 x13 : Int32) (cst : Int32) (X0 : Old Z n0 h0) (SC : oSC Z cst) (hcs : ¬ cst = 0) (Eb : Exa Z h0 b "java/lang/StringBuilder") (gb : n0 ≤ b) (Bv : Fld Z h0 b "java/lang/AbstractStringBuilder" "value" "[B" (.ref u)) (Bc : Fld Z h0 b "java/lang/AbstractStringBuilder" "coder" "B" (.int (0 : Int32))) (Bn : Fld Z h0 b "java/lang/AbstractStringBuilder" "count" "I" (.int (9 : Int32))) (Eu : Exa Z h0 u "[B") (gu : n0 ≤ u) (Au : Arv Z h0 u ku .byte (16 : Int32) [(.int z0), (.int z1), (.int z2), (.int z3), (.int z4), (.int z5), (.int z6), (.int z7), (.int z8), oZ, oZ, oZ, oZ, oZ, oZ, oZ] oZ) (Es : Exa Z h0 s "java/lang/String") (Fc : Fld Z h0 s "java/lang/String" "coder" "B" (.int (0 : Int32))) (Fv : Fld Z h0 s "java/lang/String" "value" "[B" (.ref v)) (Av : Arv Z h0 v k .byte (14 : Int32) [(.int x0), (.int x1), (.int x2), (.int x3), (.int x4), (.int x5), (.int x6), (.int x7), (.int x8), (.int x9), (.int x10), (.int x11), (.int x12), (.int x13)] oZ) (hvu : v ≠ u) (hvb : v ≠ b) :
    Met l Z oM23 oC23 2 (some (.object "java/lang/StringBuilder")) (oR 5 1 34 126) n0 [] #[(.ref b), (.ref s)] h0 (fun r h => r = some (.ref b) ∧ Keep h0 h [b] ∧ ∃ u k, h0.size ≤ u ∧ n0 ≤ u ∧ Fld Z h b "java/lang/AbstractStringBuilder" "value" "[B" (.ref u) ∧ Fld Z h b "java/lang/AbstractStringBuilder" "coder" "B" (.int (0 : Int32)) ∧ Fld Z h b "java/lang/AbstractStringBuilder" "count" "I" (.int (23 : Int32)) ∧ Exa Z h u "[B" ∧ Arv Z h u k .byte (34 : Int32) [(.int z0), (.int z1), (.int z2), (.int z3), (.int z4), (.int z5), (.int z6), (.int z7), (.int z8), (.int x0), (.int x1), (.int x2), (.int x3), (.int x4), (.int x5), (.int x6), (.int x7), (.int x8), (.int x9), (.int x10), (.int x11), (.int x12), (.int x13), oZ, oZ, oZ, oZ, oZ, oZ, oZ, oZ, oZ, oZ, oZ] oZ) := by
  refine Met.intro (Ls := #[.val (.ref b), .val (.ref s)]) (plainFor_of_name pn_m_sbi) hw (fun _ => rfl) ?_
  intro w K0
  have K : oK23 w Z a0 := K0
  refine Rn.aloadN K (q := 1) d15_0 rfl rfl rfl ?_
  refine Rn.aloadN K (q := 2) d15_1 rfl rfl rfl ?_
  refine Rn.sup K (q := 5) (W := 0) (y := oM22) (y2 := oM24) (b := b) (argsL := [(.ref s)]) (rest := []) (by decide) (oT 93 rfl) (oT 96 rfl) (oT 172 rfl) (oT 174 rfl) rfl (oT 94 rfl) (oT 95 rfl) (oT 97 rfl) (oT 79 rfl) (by decide) (m_asaG34_9_14 l Z a0 hw n0 h0 b u ku z0 z1 z2 z3 z4 z5 z6 z7 z8 s v k x0 x1 x2 x3 x4 x5 x6 x7 x8 x9 x10 x11 x12 x13 cst X0 SC hcs Eb gb Bv Bc Bn Eu gu Au Es Fc Fv Av hvu hvb) (Ins.of_exa Eb (K.hw _ (oT 78 rfl))) (by decide) (by decide) rfl (lenOf pd_15 rfl) rfl (oL rfl) d15_2 rfl (by decide) (by decide) ?_
  rintro _ h1 ⟨rfl, Q2⟩
  show Rn w l _ n0 _ 5 _ [(.ref b)] h1 1 34
  refine Rn.pop K (q := 6) d15_5 rfl rfl ?_
  refine Rn.aloadN K (q := 7) d15_6 rfl rfl rfl ?_
  exact Rn.retA K (.object "java/lang/StringBuilder") rfl rfl rfl d15_7 (by decide) (by decide) ⟨rfl, Q2⟩
theorem d31_0 : decode oC24 0 = .ok (.aload_n 0, 1) := by decide +kernel
theorem d31_1 : decode oC24 1 = .ok (.getfield 15, 3) := by decide +kernel
theorem d31_4 : decode oC24 4 = .ok (.areturn, 1) := by decide +kernel
theorem m_gv (l : Launch) (Z : State) (a0 : Array Value) (hw : oH Z a0) (n0 : Nat) (h0 : Heap) (b u : Addr) (X0 : Old Z n0 h0) (Bv : Fld Z h0 b "java/lang/AbstractStringBuilder" "value" "[B" (.ref u)) :
    Met l Z oM24 oC24 1 (some (.array .byte)) (oR 0 0 0 0) n0 [] #[(.ref b)] h0 (fun r h => r = some (.ref u) ∧ h0 = h) := by
  refine Met.intro (Ls := #[.val (.ref b)]) (plainFor_of_name pn_m_asi) hw (fun _ => rfl) ?_
  intro w K0
  have K : oK24 w Z a0 := K0
  refine Rn.aloadN K (q := 1) d31_0 rfl rfl rfl ?_
  refine Rn.getF K (q := 4) (oT 83 rfl) Via.refl Bv d31_1 rfl ?_
  exact Rn.retA K (.array .byte) rfl rfl rfl d31_4 (by decide) (by decide) ⟨rfl, rfl⟩
theorem d34_0 : decode oC25 0 = .ok (.getstatic 18, 3) := by decide +kernel
theorem d34_3 : decode oC25 3 = .ok (.ifCond .eq 14, 3) := by decide +kernel
theorem d34_6 : decode oC25 6 = .ok (.aload_n 0, 1) := by decide +kernel
theorem d34_7 : decode oC25 7 = .ok (.getfield 22, 3) := by decide +kernel
theorem d34_10 : decode oC25 10 = .ok (.ifCond .ne 7, 3) := by decide +kernel
theorem d34_13 : decode oC25 13 = .ok (.iconst 1, 1) := by decide +kernel
theorem d34_14 : decode oC25 14 = .ok (.goto 4, 3) := by decide +kernel
theorem d34_18 : decode oC25 18 = .ok (.ireturn, 1) := by decide +kernel
theorem m_alat (l : Launch) (Z : State) (a0 : Array Value) (hw : oH Z a0) (n0 : Nat) (h0 : Heap) (b : Addr) (cst : Int32) (X0 : Old Z n0 h0) (SC : oSC Z cst) (hcs : ¬ cst = 0) (Bc : Fld Z h0 b "java/lang/AbstractStringBuilder" "coder" "B" (.int (0 : Int32))) :
    Met l Z oM25 oC25 1 (some .boolean) (oR 0 0 0 0) n0 [] #[(.ref b)] h0 (fun v h => v = some (.int (1 : Int32)) ∧ h0 = h) := by
  refine Met.intro (Ls := #[.val (.ref b)]) (plainFor_of_name pn_m_asi) hw (fun _ => rfl) ?_
  intro w K0
  have K : oK25 w Z a0 := K0
  refine Rn.getS K (q := 3) (oT 82 rfl) (SC.ext X0.2) d34_0 rfl ?_
  refine Rn.ifN K (q := 6) d34_3 (XT.i0_eq_f hcs) rfl ?_
  refine Rn.aloadN K (q := 7) d34_6 rfl rfl rfl ?_
  refine Rn.getF K (q := 10) (oT 85 rfl) Via.refl Bc d34_7 rfl ?_
  refine Rn.ifN K (q := 13) d34_10 (XT.i0_ne_f rfl) rfl ?_
  refine Rn.iconst K (q := 14) (1 : Int32) d34_13 rfl rfl ?_
  refine Rn.goto K (q := 18) d34_14 (by decide) (by decide) ?_
  exact Rn.retN K .boolean rfl (by simp) d34_18 (by decide) (by decide) ⟨rfl, rfl⟩
theorem d33_0 : decode oC26 0 = .ok (.aload_n 0, 1) := by decide +kernel
theorem d33_1 : decode oC26 1 = .ok (.getfield 79, 3) := by decide +kernel
theorem d33_4 : decode oC26 4 = .ok (.ireturn, 1) := by decide +kernel
theorem m_aln (l : Launch) (Z : State) (a0 : Array Value) (hw : oH Z a0) (n0 : Nat) (h0 : Heap) (b : Addr) (c : Int32) (X0 : Old Z n0 h0) (Bn : Fld Z h0 b "java/lang/AbstractStringBuilder" "count" "I" (.int c)) :
    Met l Z oM26 oC26 1 (some .int) (oR 0 0 0 0) n0 [] #[(.ref b)] h0 (fun v h => v = some (.int c) ∧ h0 = h) := by
  refine Met.intro (Ls := #[.val (.ref b)]) (plainFor_of_name pn_m_asi) hw (fun _ => rfl) ?_
  intro w K0
  have K : oK26 w Z a0 := K0
  refine Rn.aloadN K (q := 1) d33_0 rfl rfl rfl ?_
  refine Rn.getF K (q := 4) (oT 108 rfl) Via.refl Bn d33_1 rfl ?_
  exact Rn.retI K rfl d33_4 (by decide) (by decide) ⟨rfl, rfl⟩
theorem d32_0 : decode oC27 0 = .ok (.aload_n 0, 1) := by decide +kernel
theorem d32_1 : decode oC27 1 = .ok (.invokespecial 343, 3) := by decide +kernel
theorem d32_4 : decode oC27 4 = .ok (.ireturn, 1) := by decide +kernel
theorem m_sln (l : Launch) (Z : State) (a0 : Array Value) (hw : oH Z a0) (n0 : Nat) (h0 : Heap) (b : Addr) (c : Int32) (X0 : Old Z n0 h0) (Eb : Exa Z h0 b "java/lang/StringBuilder") (Bn : Fld Z h0 b "java/lang/AbstractStringBuilder" "count" "I" (.int c)) :
    Met l Z oM27 oC27 1 (some .int) (oR 1 0 0 12) n0 [] #[(.ref b)] h0 (fun v h => v = some (.int c) ∧ h0 = h) := by
  refine Met.intro (Ls := #[.val (.ref b)]) (plainFor_of_name pn_m_sbi) hw (fun _ => rfl) ?_
  intro w K0
  have K : oK27 w Z a0 := K0
  refine Rn.aloadN K (q := 1) d32_0 rfl rfl rfl ?_
  refine Rn.sup K (q := 4) (W := 0) (y := oM26) (y2 := oM24) (b := b) (argsL := []) (rest := []) (by decide) (oT 182 rfl) (oT 177 rfl) (oT 172 rfl) (oT 174 rfl) rfl (oT 178 rfl) (oT 95 rfl) (oT 183 rfl) (oT 79 rfl) (by decide) (m_aln l Z a0 hw n0 h0 b c X0 Bn) (Ins.of_exa Eb (K.hw _ (oT 78 rfl))) (by decide) (by decide) rfl (lenOf pd_13 rfl) rfl (oL rfl) d32_1 rfl (by decide) (by decide) ?_
  rintro _ _ ⟨rfl, rfl⟩
  show Rn w l _ n0 _ 4 _ [(.int c)] h0 0 0
  exact Rn.retI K rfl d32_4 (by decide) (by decide) ⟨rfl, rfl⟩
theorem d37_0 : decode oC28 0 = .ok (.iload_n 1, 1) := by decide +kernel
theorem d37_1 : decode oC28 1 = .ok (.iload_n 0, 1) := by decide +kernel
theorem d37_2 : decode oC28 2 = .ok (.if_icmp .ge 35, 3) := by decide +kernel
theorem d37_37 : decode oC28 37 = .ok (.return_, 1) := by decide +kernel
theorem m_ckl23 (l : Launch) (Z : State) (a0 : Array Value) (hw : oH Z a0) (n0 : Nat) (h0 : Heap)  (X0 : Old Z n0 h0) :
    Met l Z oM28 oC28 2 none (oR 0 0 0 0) n0 [] #[oZ, (.int (23 : Int32))] h0 (fun r h => r = none ∧ h0 = h) := by
  refine Met.intro (Ls := #[.val oZ, .val (.int (23 : Int32))]) (plainFor_of_name pn_m_cpo) hw (fun _ => rfl) ?_
  intro w K0
  have K : oK28 w Z a0 := K0
  refine Rn.iloadN K (q := 1) d37_0 rfl rfl ?_
  refine Rn.iloadN K (q := 2) d37_1 rfl rfl ?_
  refine Rn.icY K (q := 37) d37_2 (XT.ii_ge_t (by decide)) (by decide) (by decide) ?_
  exact Rn.retV K rfl d37_37 (by decide) (by decide) ⟨rfl, rfl⟩
theorem d36_0 : decode oC29 0 = .ok (.iload_n 1, 1) := by decide +kernel
theorem d36_1 : decode oC29 1 = .ok (.iload_n 2, 1) := by decide +kernel
theorem d36_2 : decode oC29 2 = .ok (.invokestatic 343, 3) := by decide +kernel
theorem d36_5 : decode oC29 5 = .ok (.iload_n 2, 1) := by decide +kernel
theorem d36_6 : decode oC29 6 = .ok (.iload_n 1, 1) := by decide +kernel
theorem d36_7 : decode oC29 7 = .ok (.isub, 1) := by decide +kernel
theorem d36_8 : decode oC29 8 = .ok (.istore_n 3, 1) := by decide +kernel
theorem d36_9 : decode oC29 9 = .ok (.iload_n 3, 1) := by decide +kernel
theorem d36_10 : decode oC29 10 = .ok (.newarray .byte, 2) := by decide +kernel
theorem d36_12 : decode oC29 12 = .ok (.astore 4, 2) := by decide +kernel
theorem d36_14 : decode oC29 14 = .ok (.aload_n 0, 1) := by decide +kernel
theorem d36_15 : decode oC29 15 = .ok (.iload_n 1, 1) := by decide +kernel
theorem d36_16 : decode oC29 16 = .ok (.aload 4, 2) := by decide +kernel
theorem d36_18 : decode oC29 18 = .ok (.iconst 0, 1) := by decide +kernel
theorem d36_19 : decode oC29 19 = .ok (.aload_n 0, 1) := by decide +kernel
theorem d36_20 : decode oC29 20 = .ok (.arraylength, 1) := by decide +kernel
theorem d36_21 : decode oC29 21 = .ok (.iload_n 1, 1) := by decide +kernel
theorem d36_22 : decode oC29 22 = .ok (.isub, 1) := by decide +kernel
theorem d36_23 : decode oC29 23 = .ok (.iload_n 3, 1) := by decide +kernel
theorem d36_24 : decode oC29 24 = .ok (.invokestatic 304, 3) := by decide +kernel
theorem d36_27 : decode oC29 27 = .ok (.invokestatic 150, 3) := by decide +kernel
theorem d36_30 : decode oC29 30 = .ok (.aload 4, 2) := by decide +kernel
theorem d36_32 : decode oC29 32 = .ok (.areturn, 1) := by decide +kernel
theorem m_crb23 (l : Launch) (Z : State) (a0 : Array Value) (hw : oH Z a0) (n0 : Nat) (h0 : Heap) (u : Addr) (ku : ClassId) (z0 z1 z2 z3 z4 z5 z6 z7 z8 z9 z10 z11 z12 z13 z14 z15 z16 z17 z18 z19 z20 z21 z22 : Int32) (X0 : Old Z n0 h0) (Au : Arv Z h0 u ku .byte (34 : Int32) [(.int z0), (.int z1), (.int z2), (.int z3), (.int z4), (.int z5), (.int z6), (.int z7), (.int z8), (.int z9), (.int z10), (.int z11), (.int z12), (.int z13), (.int z14), (.int z15), (.int z16), (.int z17), (.int z18), (.int z19), (.int z20), (.int z21), (.int z22), oZ, oZ, oZ, oZ, oZ, oZ, oZ, oZ, oZ, oZ, oZ] oZ) :
    Met l Z oM29 oC29 5 (some (.array .byte)) (oR 1 1 23 60) n0 [] #[(.ref u), oZ, (.int (23 : Int32))] h0 (fun r h => ∃ u2 k2, r = some (.ref u2) ∧ h0.size ≤ u2 ∧ n0 ≤ u2 ∧ Keep h0 h [] ∧ Exa Z h u2 "[B" ∧ Arv Z h u2 k2 .byte (23 : Int32) [(.int z0), (.int z1), (.int z2), (.int z3), (.int z4), (.int z5), (.int z6), (.int z7), (.int z8), (.int z9), (.int z10), (.int z11), (.int z12), (.int z13), (.int z14), (.int z15), (.int z16), (.int z17), (.int z18), (.int z19), (.int z20), (.int z21), (.int z22)] oZ) := by
  refine Met.intro (Ls := #[.val (.ref u), .val oZ, .val (.int (23 : Int32)), .unset, .unset]) (plainFor_of_name pn_m_cpo) hw (fun _ => rfl) ?_
  intro w K0
  have K : oK29 w Z a0 := K0
  have K1 := Keep.refl h0 []
  refine Rn.iloadN K (q := 1) d36_0 rfl rfl ?_
  refine Rn.iloadN K (q := 2) d36_1 rfl rfl ?_
  refine Rn.stat K (q := 5) (W := 0) (y := oM28) (argsL := [oZ, (.int (23 : Int32))]) (rest := []) (oT 195 rfl) (oT 196 rfl) (oT 197 rfl) (oT 153 rfl) (by decide) (m_ckl23 l Z a0 hw n0 h0 X0) (by decide) (by decide) rfl (lenOf pd_16 rfl) rfl (oL rfl) d36_2 rfl (by decide) (by decide) ?_
  rintro _ _ ⟨rfl, rfl⟩
  show Rn w l _ n0 _ 5 _ [] h0 0 0
  refine Rn.iloadN K (q := 6) d36_5 rfl rfl ?_
  refine Rn.iloadN K (q := 7) d36_6 rfl rfl ?_
  refine Rn.isub K (q := 8) d36_7 rfl ?_
  show Rn w l _ n0 _ 8 _ [(.int (23 : Int32))] h0 0 0
  refine Rn.istoreN K (q := 9) (Ls' := #[.val (.ref u), .val oZ, .val (.int (23 : Int32)), .val (.int (23 : Int32)), .unset]) d36_8 rfl rfl ?_
  refine Rn.iloadN K (q := 10) d36_9 rfl rfl ?_
  refine Rn.newP K (q := 12) (cap := 23) (oT 19 rfl) (by decide) (by decide) (by decide) (by decide) (by decide) (ad := "[B") (by decide) d36_10 rfl ?_
  intro b1 h2 k4 gb1_ X3 A_b1 EA_b1
  have g_b1 : n0 ≤ b1 := by rw [gb1_]; exact X0.1 ▸ X0.2.1
  have sz_b1 : h0.size ≤ b1 := by rw [gb1_]; exact K1.1
  have f5 := X0.ext X3
  have f6 := K1.ext X3
  have f7 := Au.ext X3
  replace A_b1 : Arv Z h2 b1 k4 .byte (23 : Int32) [oZ, oZ, oZ, oZ, oZ, oZ, oZ, oZ, oZ, oZ, oZ, oZ, oZ, oZ, oZ, oZ, oZ, oZ, oZ, oZ, oZ, oZ, oZ] oZ := A_b1.pad (pad_rep [] oZ 23)
  show Rn w l _ n0 _ 12 _ [(.ref b1)] h2 1 23
  refine Rn.astore K (q := 14) (Ls' := #[.val (.ref u), .val oZ, .val (.int (23 : Int32)), .val (.int (23 : Int32)), .val (.ref b1)]) d36_12 rfl rfl rfl ?_
  refine Rn.aloadN K (q := 15) d36_14 rfl rfl rfl ?_
  refine Rn.iloadN K (q := 16) d36_15 rfl rfl ?_
  refine Rn.aload K (q := 18) d36_16 rfl rfl rfl ?_
  refine Rn.iconst K (q := 19) (0 : Int32) d36_18 rfl rfl ?_
  refine Rn.aloadN K (q := 20) d36_19 rfl rfl rfl ?_
  refine Rn.arraylength K (q := 21) f7 d36_20 rfl ?_
  refine Rn.iloadN K (q := 22) d36_21 rfl rfl ?_
  refine Rn.isub K (q := 23) d36_22 rfl ?_
  show Rn w l _ n0 _ 23 _ [(.int (34 : Int32)), oZ, (.ref b1), oZ, (.ref u)] h2 1 23
  refine Rn.iloadN K (q := 24) d36_23 rfl rfl ?_
  refine Rn.stat K (q := 27) (W := 4) (y := oM12) (argsL := [(.int (34 : Int32)), (.int (23 : Int32))]) (rest := [oZ, (.ref b1), oZ, (.ref u)]) (oT 155 rfl) (oT 156 rfl) (oT 157 rfl) (oT 147 rfl) (by decide) (m_min_34_23 l Z a0 hw n0 h2 f5) (by decide) (by decide) rfl (lenOf pd_6 rfl) rfl (oL rfl) d36_24 rfl (by decide) (by decide) ?_
  rintro _ _ ⟨rfl, rfl⟩
  show Rn w l _ n0 _ 27 _ [(.int (23 : Int32)), oZ, (.ref b1), oZ, (.ref u)] h2 1 23
  refine Rn.acopy K (q := 30) (W := 0) (o := 0) (p := 0) (n := 23) (z := 23) (by decide) rfl (oT 158 rfl) (oT 134 rfl) (oT 132 rfl) (oT 133 rfl) f7 A_b1 (by decide) (by decide) (by decide) (by decide) (by decide) (by decide) g_b1 rfl (oL rfl) (by decide) (by decide) d36_27 rfl ?_
  intro h8 K9 A10
  have f12 := f6.trans K9 (allS (Or.inr sz_b1) all0)
  have f14 := EA_b1.keep K9
  replace A10 : Arv Z h8 b1 k4 .byte (23 : Int32) [(.int z0), (.int z1), (.int z2), (.int z3), (.int z4), (.int z5), (.int z6), (.int z7), (.int z8), (.int z9), (.int z10), (.int z11), (.int z12), (.int z13), (.int z14), (.int z15), (.int z16), (.int z17), (.int z18), (.int z19), (.int z20), (.int z21), (.int z22)] oZ := A10
  show Rn w l _ n0 _ 30 _ [] h8 1 23
  refine Rn.aload K (q := 32) d36_30 rfl rfl rfl ?_
  exact Rn.retA K (.array .byte) rfl rfl rfl d36_32 (by decide) (by decide) ⟨_, _, rfl, sz_b1, g_b1, f12, f14, A10⟩
theorem d35_0 : decode oC30 0 = .ok (.iload_n 1, 1) := by decide +kernel
theorem d35_1 : decode oC30 1 = .ok (.ifCond .ne 9, 3) := by decide +kernel
theorem d35_4 : decode oC30 4 = .ok (.iload_n 2, 1) := by decide +kernel
theorem d35_5 : decode oC30 5 = .ok (.aload_n 0, 1) := by decide +kernel
theorem d35_6 : decode oC30 6 = .ok (.arraylength, 1) := by decide +kernel
theorem d35_7 : decode oC30 7 = .ok (.if_icmp .eq 10, 3) := by decide +kernel
theorem d35_10 : decode oC30 10 = .ok (.aload_n 0, 1) := by decide +kernel
theorem d35_11 : decode oC30 11 = .ok (.iload_n 1, 1) := by decide +kernel
theorem d35_12 : decode oC30 12 = .ok (.iload_n 2, 1) := by decide +kernel
theorem d35_13 : decode oC30 13 = .ok (.invokestatic 339, 3) := by decide +kernel
theorem d35_16 : decode oC30 16 = .ok (.areturn, 1) := by decide +kernel
theorem m_cor23 (l : Launch) (Z : State) (a0 : Array Value) (hw : oH Z a0) (n0 : Nat) (h0 : Heap) (u : Addr) (ku : ClassId) (z0 z1 z2 z3 z4 z5 z6 z7 z8 z9 z10 z11 z12 z13 z14 z15 z16 z17 z18 z19 z20 z21 z22 : Int32) (X0 : Old Z n0 h0) (Au : Arv Z h0 u ku .byte (34 : Int32) [(.int z0), (.int z1), (.int z2), (.int z3), (.int z4), (.int z5), (.int z6), (.int z7), (.int z8), (.int z9), (.int z10), (.int z11), (.int z12), (.int z13), (.int z14), (.int z15), (.int z16), (.int z17), (.int z18), (.int z19), (.int z20), (.int z21), (.int z22), oZ, oZ, oZ, oZ, oZ, oZ, oZ, oZ, oZ, oZ, oZ] oZ) :
    Met l Z oM30 oC30 3 (some (.array .byte)) (oR 2 1 23 78) n0 [] #[(.ref u), oZ, (.int (23 : Int32))] h0 (fun r h => ∃ u2 k2, r = some (.ref u2) ∧ h0.size ≤ u2 ∧ n0 ≤ u2 ∧ Keep h0 h [] ∧ Exa Z h u2 "[B" ∧ Arv Z h u2 k2 .byte (23 : Int32) [(.int z0), (.int z1), (.int z2), (.int z3), (.int z4), (.int z5), (.int z6), (.int z7), (.int z8), (.int z9), (.int z10), (.int z11), (.int z12), (.int z13), (.int z14), (.int z15), (.int z16), (.int z17), (.int z18), (.int z19), (.int z20), (.int z21), (.int z22)] oZ) := by
  refine Met.intro (Ls := #[.val (.ref u), .val oZ, .val (.int (23 : Int32))]) (plainFor_of_name pn_m_cpo) hw (fun _ => rfl) ?_
  intro w K0
  have K : oK30 w Z a0 := K0
  refine Rn.iloadN K (q := 1) d35_0 rfl rfl ?_
  refine Rn.ifN K (q := 4) d35_1 (XT.i0_ne_f rfl) rfl ?_
  refine Rn.iloadN K (q := 5) d35_4 rfl rfl ?_
  refine Rn.aloadN K (q := 6) d35_5 rfl rfl rfl ?_
  refine Rn.arraylength K (q := 7) Au d35_6 rfl ?_
  refine Rn.icN K (q := 10) d35_7 (XT.ii_eq_f (by decide)) rfl ?_
  refine Rn.aloadN K (q := 11) d35_10 rfl rfl rfl ?_
  refine Rn.iloadN K (q := 12) d35_11 rfl rfl ?_
  refine Rn.iloadN K (q := 13) d35_12 rfl rfl ?_
  refine Rn.stat K (q := 16) (W := 0) (y := oM29) (argsL := [(.ref u), oZ, (.int (23 : Int32))]) (rest := []) (oT 192 rfl) (oT 193 rfl) (oT 194 rfl) (oT 153 rfl) (by decide) (m_crb23 l Z a0 hw n0 h0 u ku z0 z1 z2 z3 z4 z5 z6 z7 z8 z9 z10 z11 z12 z13 z14 z15 z16 z17 z18 z19 z20 z21 z22 X0 Au) (by decide) (by decide) rfl (lenOf pd_17 rfl) rfl (oL rfl) d35_13 rfl (by decide) (by decide) ?_
  rintro _ h1 ⟨u2, k2, rfl, Q2⟩
  show Rn w l _ n0 _ 16 _ [(.ref u2)] h1 1 23
  exact Rn.retA K (.array .byte) rfl rfl rfl d35_16 (by decide) (by decide) ⟨_, _, rfl, Q2⟩
theorem d30_0 : decode oC31 0 = .ok (.aload_n 0, 1) := by decide +kernel
theorem d30_1 : decode oC31 1 = .ok (.invokespecial 1, 3) := by decide +kernel
theorem d30_4 : decode oC31 4 = .ok (.aload_n 1, 1) := by decide +kernel
theorem d30_5 : decode oC31 5 = .ok (.invokevirtual 552, 3) := by decide +kernel
theorem d30_8 : decode oC31 8 = .ok (.astore_n 3, 1) := by decide +kernel
theorem d30_9 : decode oC31 9 = .ok (.aload_n 1, 1) := by decide +kernel
theorem d30_10 : decode oC31 10 = .ok (.invokevirtual 549, 3) := by decide +kernel
theorem d30_13 : decode oC31 13 = .ok (.istore 4, 2) := by decide +kernel
theorem d30_15 : decode oC31 15 = .ok (.aload_n 1, 1) := by decide +kernel
theorem d30_16 : decode oC31 16 = .ok (.invokevirtual 1047, 3) := by decide +kernel
theorem d30_19 : decode oC31 19 = .ok (.ifCond .eq 22, 3) := by decide +kernel
theorem d30_22 : decode oC31 22 = .ok (.aload_n 0, 1) := by decide +kernel
theorem d30_23 : decode oC31 23 = .ok (.iconst 0, 1) := by decide +kernel
theorem d30_24 : decode oC31 24 = .ok (.putfield 15, 3) := by decide +kernel
theorem d30_27 : decode oC31 27 = .ok (.aload_n 0, 1) := by decide +kernel
theorem d30_28 : decode oC31 28 = .ok (.aload_n 3, 1) := by decide +kernel
theorem d30_29 : decode oC31 29 = .ok (.iconst 0, 1) := by decide +kernel
theorem d30_30 : decode oC31 30 = .ok (.iload 4, 2) := by decide +kernel
theorem d30_32 : decode oC31 32 = .ok (.invokestatic 54, 3) := by decide +kernel
theorem d30_35 : decode oC31 35 = .ok (.putfield 9, 3) := by decide +kernel
theorem d30_38 : decode oC31 38 = .ok (.goto 59, 3) := by decide +kernel
theorem d30_97 : decode oC31 97 = .ok (.return_, 1) := by decide +kernel
theorem m_isb23 (l : Launch) (Z : State) (a0 : Array Value) (hw : oH Z a0) (n0 : Nat) (h0 : Heap) (s : Addr) (b u : Addr) (ku : ClassId) (z0 z1 z2 z3 z4 z5 z6 z7 z8 z9 z10 z11 z12 z13 z14 z15 z16 z17 z18 z19 z20 z21 z22 : Int32) (cst : Int32) (X0 : Old Z n0 h0) (SC : oSC Z cst) (hcs : ¬ cst = 0) (Es : Exa Z h0 s "java/lang/String") (gs : n0 ≤ s) (Fv : Fld Z h0 s "java/lang/String" "value" "[B" .null) (Fc : Fld Z h0 s "java/lang/String" "coder" "B" (.int (0 : Int32))) (Eb : Exa Z h0 b "java/lang/StringBuilder") (gb : n0 ≤ b) (Bv : Fld Z h0 b "java/lang/AbstractStringBuilder" "value" "[B" (.ref u)) (Bc : Fld Z h0 b "java/lang/AbstractStringBuilder" "coder" "B" (.int (0 : Int32))) (Bn : Fld Z h0 b "java/lang/AbstractStringBuilder" "count" "I" (.int (23 : Int32))) (Eu : Exa Z h0 u "[B") (gu : n0 ≤ u) (Au : Arv Z h0 u ku .byte (34 : Int32) [(.int z0), (.int z1), (.int z2), (.int z3), (.int z4), (.int z5), (.int z6), (.int z7), (.int z8), (.int z9), (.int z10), (.int z11), (.int z12), (.int z13), (.int z14), (.int z15), (.int z16), (.int z17), (.int z18), (.int z19), (.int z20), (.int z21), (.int z22), oZ, oZ, oZ, oZ, oZ, oZ, oZ, oZ, oZ, oZ, oZ] oZ) :
    Met l Z oM31 oC31 5 none (oR 3 1 23 98) n0 [] #[(.ref s), (.ref b), .null] h0 (fun r h => r = none ∧ Keep h0 h [s] ∧ ∃ v k, Fld Z h s "java/lang/String" "value" "[B" (.ref v) ∧ Fld Z h s "java/lang/String" "coder" "B" (.int (0 : Int32)) ∧ Arv Z h v k .byte (23 : Int32) [(.int z0), (.int z1), (.int z2), (.int z3), (.int z4), (.int z5), (.int z6), (.int z7), (.int z8), (.int z9), (.int z10), (.int z11), (.int z12), (.int z13), (.int z14), (.int z15), (.int z16), (.int z17), (.int z18), (.int z19), (.int z20), (.int z21), (.int z22)] oZ) := by
  refine Met.intro (Ls := #[.val (.ref s), .val (.ref b), .val .null, .unset, .unset]) (plainFor_of_name pn_m_coder) hw (fun _ => rfl) ?_
  intro w K0
  have K : oK31 w Z a0 := K0
  have K1 := Keep.refl h0 [s]
  refine Rn.aloadN K (q := 1) d30_0 rfl rfl rfl ?_
  refine Rn.initO K (q := 4) (W := 0) (oT 11 rfl) (oT 12 rfl) (oT 13 rfl) (by decide) (by decide) rfl (oL rfl) d30_1 rfl ?_
  refine Rn.aloadN K (q := 5) d30_4 rfl rfl rfl ?_
  refine Rn.virt K (q := 8) (W := 0) (y := oM24) (z := oM24) (b := b) (argsL := []) (rest := []) (oT 171 rfl) (oT 172 rfl) (nfs K (oT 174 rfl)) (oT 174 rfl) (oT 173 rfl) (oT 175 rfl) (oT 79 rfl) (by decide) (m_gv l Z a0 hw n0 h0 b u X0 Bv) Eb (by decide) (by decide) rfl (lenOf pd_18 rfl) rfl (oL rfl) d30_5 rfl (by decide) (by decide) ?_
  rintro _ _ ⟨rfl, rfl⟩
  show Rn w l _ n0 _ 8 _ [(.ref u)] h0 0 0
  refine Rn.astoreN K (q := 9) (Ls' := #[.val (.ref s), .val (.ref b), .val .null, .val (.ref u), .unset]) d30_8 rfl rfl rfl ?_
  refine Rn.aloadN K (q := 10) d30_9 rfl rfl rfl ?_
  refine Rn.virt K (q := 13) (W := 0) (y := oM26) (z := oM27) (b := b) (argsL := []) (rest := []) (oT 176 rfl) (oT 177 rfl) (own_nf K (y2 := oM24) (oT 172 rfl) (oT 174 rfl) rfl) (oT 179 rfl) (oT 180 rfl) (oT 181 rfl) (oT 71 rfl) (by decide) (m_sln l Z a0 hw n0 h0 b (23 : Int32) X0 Eb Bn) Eb (by decide) (by decide) rfl (lenOf pd_13 rfl) rfl (oL rfl) d30_10 rfl (by decide) (by decide) ?_
  rintro _ _ ⟨rfl, rfl⟩
  show Rn w l _ n0 _ 13 _ [(.int (23 : Int32))] h0 0 0
  refine Rn.istore K (q := 15) (Ls' := #[.val (.ref s), .val (.ref b), .val .null, .val (.ref u), .val (.int (23 : Int32))]) d30_13 rfl rfl ?_
  refine Rn.aloadN K (q := 16) d30_15 rfl rfl rfl ?_
  refine Rn.virt K (q := 19) (W := 0) (y := oM25) (z := oM25) (b := b) (argsL := []) (rest := []) (oT 184 rfl) (oT 185 rfl) (nfs K (oT 187 rfl)) (oT 187 rfl) (oT 186 rfl) (oT 188 rfl) (oT 79 rfl) (by decide) (m_alat l Z a0 hw n0 h0 b cst X0 SC hcs Bc) Eb (by decide) (by decide) rfl (lenOf pd_0 rfl) rfl (oL rfl) d30_16 rfl (by decide) (by decide) ?_
  rintro _ _ ⟨rfl, rfl⟩
  show Rn w l _ n0 _ 19 _ [(.int (1 : Int32))] h0 0 0
  refine Rn.ifN K (q := 22) d30_19 (XT.i0_eq_f (by decide)) rfl ?_
  refine Rn.aloadN K (q := 23) d30_22 rfl rfl rfl ?_
  refine Rn.iconst K (q := 24) (0 : Int32) d30_23 rfl rfl ?_
  refine Rn.putF K (q := 27) (ty := .byte) (v' := .int (nar .byte (0 : Int32))) (oT 26 rfl) Via.refl Fc Es (Or.inr ⟨(oT 27 rfl), rfl, rfl⟩) (oT 1 rfl) (by decide) rfl (fits_nar_byte _) gs d30_24 rfl ?_
  intro h1 W2
  have f3 := X0.wr W2 gs
  have f4 := K1.wr W2 (Or.inl (oT 0 rfl))
  have f5 := Es.wr W2
  have f6 := Fld.other W2 Fv (Or.inr (slot_ne (Or.inr (K.hw _ (oT 29 rfl))) (Or.inr (K.hw _ (oT 27 rfl))) (by decide) (t := (.array .byte)) (t' := .byte) (by decide) (by decide)))
  have f7 := Fld.same W2 Fc
  have f12 := Au.other W2 (ne_exa Eu Es (by decide))
  refine Rn.aloadN K (q := 28) d30_27 rfl rfl rfl ?_
  refine Rn.aloadN K (q := 29) d30_28 rfl rfl rfl ?_
  refine Rn.iconst K (q := 30) (0 : Int32) d30_29 rfl rfl ?_
  refine Rn.iload K (q := 32) d30_30 rfl rfl ?_
  refine Rn.stat K (q := 35) (W := 1) (y := oM30) (argsL := [(.ref u), oZ, (.int (23 : Int32))]) (rest := [(.ref s)]) (oT 189 rfl) (oT 190 rfl) (oT 191 rfl) (oT 153 rfl) (by decide) (m_cor23 l Z a0 hw n0 h1 u ku z0 z1 z2 z3 z4 z5 z6 z7 z8 z9 z10 z11 z12 z13 z14 z15 z16 z17 z18 z19 z20 z21 z22 f3 f12) (by decide) (by decide) rfl (lenOf pd_17 rfl) rfl (oL rfl) d30_32 rfl (by decide) (by decide) ?_
  rintro _ h14 ⟨u2, k2, rfl, su2, gu2, K15, E16, A17⟩
  have f19 := f4.trans K15 all0
  have f20 := f5.keep K15
  have f21 := f6.keep K15 nin0
  have f22 := f7.keep K15 nin0
  show Rn w l _ n0 _ 35 _ [(.ref u2), (.ref s)] h14 1 23
  refine Rn.putF K (q := 38) (ty := (.array .byte)) (oT 28 rfl) Via.refl f21 f20 (Or.inr ⟨(oT 29 rfl), rfl, rfl⟩) (oT 1 rfl) (by decide) rfl rfl gs d30_35 rfl ?_
  intro h29 W30
  have f32 := f19.wr W30 (Or.inl (oT 0 rfl))
  have f34 := Fld.same W30 f21
  have f35 := Fld.other W30 f22 (Or.inr (slot_ne (Or.inr (K.hw _ (oT 27 rfl))) (Or.inr (K.hw _ (oT 29 rfl))) (by decide) (t := .byte) (t' := (.array .byte)) (by decide) (by decide)))
  have f43 := A17.other W30 (ne_exa E16 f20 (by decide))
  refine Rn.goto K (q := 97) d30_38 (by decide) (by decide) ?_
  exact Rn.retV K rfl d30_97 (by decide) (by decide) ⟨rfl, f32, _, _, f34, f35, f43⟩
theorem d29_0 : decode oC32 0 = .ok (.aload_n 0, 1) := by decide +kernel
theorem d29_1 : decode oC32 1 = .ok (.aload_n 1, 1) := by decide +kernel
theorem d29_2 : decode oC32 2 = .ok (.aconst_null, 1) := by decide +kernel
theorem d29_3 : decode oC32 3 = .ok (.invokespecial 489, 3) := by decide +kernel
theorem d29_6 : decode oC32 6 = .ok (.return_, 1) := by decide +kernel
theorem m_isB23 (l : Launch) (Z : State) (a0 : Array Value) (hw : oH Z a0) (n0 : Nat) (h0 : Heap) (s : Addr) (b u : Addr) (ku : ClassId) (z0 z1 z2 z3 z4 z5 z6 z7 z8 z9 z10 z11 z12 z13 z14 z15 z16 z17 z18 z19 z20 z21 z22 : Int32) (cst : Int32) (X0 : Old Z n0 h0) (SC : oSC Z cst) (hcs : ¬ cst = 0) (Es : Exa Z h0 s "java/lang/String") (gs : n0 ≤ s) (Fv : Fld Z h0 s "java/lang/String" "value" "[B" .null) (Fc : Fld Z h0 s "java/lang/String" "coder" "B" (.int (0 : Int32))) (Eb : Exa Z h0 b "java/lang/StringBuilder") (gb : n0 ≤ b) (Bv : Fld Z h0 b "java/lang/AbstractStringBuilder" "value" "[B" (.ref u)) (Bc : Fld Z h0 b "java/lang/AbstractStringBuilder" "coder" "B" (.int (0 : Int32))) (Bn : Fld Z h0 b "java/lang/AbstractStringBuilder" "count" "I" (.int (23 : Int32))) (Eu : Exa Z h0 u "[B") (gu : n0 ≤ u) (Au : Arv Z h0 u ku .byte (34 : Int32) [(.int z0), (.int z1), (.int z2), (.int z3), (.int z4), (.int z5), (.int z6), (.int z7), (.int z8), (.int z9), (.int z10), (.int z11), (.int z12), (.int z13), (.int z14), (.int z15), (.int z16), (.int z17), (.int z18), (.int z19), (.int z20), (.int z21), (.int z22), oZ, oZ, oZ, oZ, oZ, oZ, oZ, oZ, oZ, oZ, oZ] oZ) :
    Met l Z oM32 oC32 2 none (oR 4 1 23 116) n0 [] #[(.ref s), (.ref b)] h0 (fun r h => r = none ∧ Keep h0 h [s] ∧ ∃ v k, Fld Z h s "java/lang/String" "value" "[B" (.ref v) ∧ Fld Z h s "java/lang/String" "coder" "B" (.int (0 : Int32)) ∧ Arv Z h v k .byte (23 : Int32) [(.int z0), (.int z1), (.int z2), (.int z3), (.int z4), (.int z5), (.int z6), (.int z7), (.int z8), (.int z9), (.int z10), (.int z11), (.int z12), (.int z13), (.int z14), (.int z15), (.int z16), (.int z17), (.int z18), (.int z19), (.int z20), (.int z21), (.int z22)] oZ) := by
  refine Met.intro (Ls := #[.val (.ref s), .val (.ref b)]) (plainFor_of_name pn_m_coder) hw (fun _ => rfl) ?_
  intro w K0
  have K : oK32 w Z a0 := K0
  refine Rn.aloadN K (q := 1) d29_0 rfl rfl rfl ?_
  refine Rn.aloadN K (q := 2) d29_1 rfl rfl rfl ?_
  refine Rn.aconst_null K (q := 3) d29_2 rfl ?_
  refine Rn.spec K (q := 6) (W := 0) (y := oM31) (b := s) (argsL := [(.ref b), .null]) (rest := []) rfl (oT 168 rfl) (oT 169 rfl) (oT 170 rfl) (oT 2 rfl) (by decide) (m_isb23 l Z a0 hw n0 h0 s b u ku z0 z1 z2 z3 z4 z5 z6 z7 z8 z9 z10 z11 z12 z13 z14 z15 z16 z17 z18 z19 z20 z21 z22 cst X0 SC hcs Es gs Fv Fc Eb gb Bv Bc Bn Eu gu Au) (by decide) (by decide) rfl (lenOf pd_19 rfl) rfl (oL rfl) d29_3 rfl (by decide) (by decide) ?_
  rintro _ h1 ⟨rfl, Q2⟩
  show Rn w l _ n0 _ 6 _ [] h1 1 23
  exact Rn.retV K rfl d29_6 (by decide) (by decide) ⟨rfl, Q2⟩
theorem d28_0 : decode oC33 0 = .ok (.new 18, 3) := by decide +kernel
theorem d28_3 : decode oC33 3 = .ok (.dup, 1) := by decide +kernel
theorem d28_4 : decode oC33 4 = .ok (.aload_n 0, 1) := by decide +kernel
theorem d28_5 : decode oC33 5 = .ok (.invokespecial 137, 3) := by decide +kernel
theorem d28_8 : decode oC33 8 = .ok (.areturn, 1) := by decide +kernel
theorem m_tos23 (l : Launch) (Z : State) (a0 : Array Value) (hw : oH Z a0) (n0 : Nat) (h0 : Heap) (b u : Addr) (ku : ClassId) (z0 z1 z2 z3 z4 z5 z6 z7 z8 z9 z10 z11 z12 z13 z14 z15 z16 z17 z18 z19 z20 z21 z22 : Int32) (cst : Int32) (X0 : Old Z n0 h0) (SC : oSC Z cst) (hcs : ¬ cst = 0) (Eb : Exa Z h0 b "java/lang/StringBuilder") (gb : n0 ≤ b) (Bv : Fld Z h0 b "java/lang/AbstractStringBuilder" "value" "[B" (.ref u)) (Bc : Fld Z h0 b "java/lang/AbstractStringBuilder" "coder" "B" (.int (0 : Int32))) (Bn : Fld Z h0 b "java/lang/AbstractStringBuilder" "count" "I" (.int (23 : Int32))) (Eu : Exa Z h0 u "[B") (gu : n0 ≤ u) (Au : Arv Z h0 u ku .byte (34 : Int32) [(.int z0), (.int z1), (.int z2), (.int z3), (.int z4), (.int z5), (.int z6), (.int z7), (.int z8), (.int z9), (.int z10), (.int z11), (.int z12), (.int z13), (.int z14), (.int z15), (.int z16), (.int z17), (.int z18), (.int z19), (.int z20), (.int z21), (.int z22), oZ, oZ, oZ, oZ, oZ, oZ, oZ, oZ, oZ, oZ, oZ] oZ) :
    Met l Z oM33 oC33 1 (some (.object "java/lang/String")) (oR 5 2 27 132) n0 [] #[(.ref b)] h0 (fun r h => ∃ s v k, r = some (.ref s) ∧ h0.size ≤ s ∧ Keep h0 h [] ∧ Exa Z h s "java/lang/String" ∧ Fld Z h s "java/lang/String" "coder" "B" (.int (0 : Int32)) ∧ Fld Z h s "java/lang/String" "value" "[B" (.ref v) ∧ Arv Z h v k .byte (23 : Int32) [(.int z0), (.int z1), (.int z2), (.int z3), (.int z4), (.int z5), (.int z6), (.int z7), (.int z8), (.int z9), (.int z10), (.int z11), (.int z12), (.int z13), (.int z14), (.int z15), (.int z16), (.int z17), (.int z18), (.int z19), (.int z20), (.int z21), (.int z22)] oZ) := by
  refine Met.intro (Ls := #[.val (.ref b)]) (plainFor_of_name pn_m_sbi) hw (fun _ => rfl) ?_
  intro w K0
  have K : oK33 w Z a0 := K0
  have K1 := Keep.refl h0 []
  refine Rn.newO K (q := 3) (oT 164 rfl) (oT 1 rfl) (oT 2 rfl) (by decide) (by decide) d28_0 rfl ?_
  intro b1 h2 gb1_ X3 A_b1 D4
  have ne_u_b1 : u ≠ b1 := fun e => absurd Eu.lt (by rw [e, gb1_]; exact Nat.lt_irrefl _)
  have ne_u_b1 : u ≠ b1 := fun e => absurd Eu.lt (by rw [e, gb1_]; exact Nat.lt_irrefl _)
  have g_b1 : n0 ≤ b1 := by rw [gb1_]; exact X0.1 ▸ X0.2.1
  have sz_b1 : h0.size ≤ b1 := by rw [gb1_]; exact K1.1
  have f5 := X0.ext X3
  have f6 := K1.ext X3
  have f7 := Eb.ext X3
  have f8 := Bv.ext X3
  have f9 := Bc.ext X3
  have f10 := Bn.ext X3
  have f11 := Eu.ext X3
  have f12 := Au.ext X3
  have f13 : Fld Z h2 b1 "java/lang/String" "coder" "B" (.int (0 : Int32)) := D4 (Or.inr (K.hw _ (oT 27 rfl))) (ty := .byte) (by decide)
  have f14 : Fld Z h2 b1 "java/lang/String" "value" "[B" .null := D4 (Or.inr (K.hw _ (oT 29 rfl))) (ty := (.array .byte)) (by decide)
  show Rn w l _ n0 _ 3 _ [(.ref b1)] h2 1 4
  refine Rn.dup K (q := 4) d28_3 rfl rfl ?_
  refine Rn.aloadN K (q := 5) d28_4 rfl rfl rfl ?_
  refine Rn.spec K (q := 8) (W := 1) (y := oM32) (b := b1) (argsL := [(.ref b)]) (rest := [(.ref b1)]) rfl (oT 165 rfl) (oT 166 rfl) (oT 167 rfl) (oT 2 rfl) (by decide) (m_isB23 l Z a0 hw n0 h2 b1 b u ku z0 z1 z2 z3 z4 z5 z6 z7 z8 z9 z10 z11 z12 z13 z14 z15 z16 z17 z18 z19 z20 z21 z22 cst f5 SC hcs A_b1 g_b1 f14 f13 f7 gb f8 f9 f10 f11 gu f12) (by decide) (by decide) rfl (lenOf pd_20 rfl) rfl (oL rfl) d28_5 rfl (by decide) (by decide) ?_
  rintro _ h15 ⟨rfl, K16, v, k, F17, F18, A19⟩
  have f21 := f6.trans K16 (allS (Or.inr sz_b1) all0)
  have f28 := A_b1.keep K16
  show Rn w l _ n0 _ 8 _ [(.ref b1)] h15 2 27
  exact Rn.retA K (.object "java/lang/String") rfl rfl rfl d28_8 (by decide) (by decide) ⟨_, _, _, rfl, sz_b1, f21, f28, F18, F17, A19⟩
theorem d39_0 : decode oC34 0 = .ok (.aload_n 0, 1) := by decide +kernel
theorem d39_1 : decode oC34 1 = .ok (.arraylength, 1) := by decide +kernel
theorem d39_2 : decode oC34 2 = .ok (.aload_n 1, 1) := by decide +kernel
theorem d39_3 : decode oC34 3 = .ok (.arraylength, 1) := by decide +kernel
theorem d39_4 : decode oC34 4 = .ok (.if_icmp .ne 30, 3) := by decide +kernel
theorem d39_7 : decode oC34 7 = .ok (.iconst 0, 1) := by decide +kernel
theorem d39_8 : decode oC34 8 = .ok (.istore_n 2, 1) := by decide +kernel
theorem d39_9 : decode oC34 9 = .ok (.iload_n 2, 1) := by decide +kernel
theorem d39_10 : decode oC34 10 = .ok (.aload_n 0, 1) := by decide +kernel
theorem d39_11 : decode oC34 11 = .ok (.arraylength, 1) := by decide +kernel
theorem d39_12 : decode oC34 12 = .ok (.if_icmp .ge 20, 3) := by decide +kernel
theorem d39_15 : decode oC34 15 = .ok (.aload_n 0, 1) := by decide +kernel
theorem d39_16 : decode oC34 16 = .ok (.iload_n 2, 1) := by decide +kernel
theorem d39_17 : decode oC34 17 = .ok (.baload, 1) := by decide +kernel
theorem d39_18 : decode oC34 18 = .ok (.aload_n 1, 1) := by decide +kernel
theorem d39_19 : decode oC34 19 = .ok (.iload_n 2, 1) := by decide +kernel
theorem d39_20 : decode oC34 20 = .ok (.baload, 1) := by decide +kernel
theorem d39_21 : decode oC34 21 = .ok (.if_icmp .eq 5, 3) := by decide +kernel
theorem d39_26 : decode oC34 26 = .ok (.iinc 2 1, 3) := by decide +kernel
theorem d39_29 : decode oC34 29 = .ok (.goto (-20), 3) := by decide +kernel
theorem d39_32 : decode oC34 32 = .ok (.iconst 1, 1) := by decide +kernel
theorem d39_33 : decode oC34 33 = .ok (.ireturn, 1) := by decide +kernel
theorem pn_m_leq23 : plainName "java/lang/StringLatin1" = true := by first | (simp [plainName, overriddenIn]; done) | decide +kernel
theorem m_leq23 (l : Launch) (Z : State) (a0 : Array Value) (hw : oH Z a0) (n0 : Nat) (h0 : Heap) (v w_ : Addr) (k kw : ClassId) (x0 x1 x2 x3 x4 x5 x6 x7 x8 x9 x10 x11 x12 x13 x14 x15 x16 x17 x18 x19 x20 x21 x22 : Int32) (X0 : Old Z n0 h0) (Av : Arv Z h0 v k .byte (23 : Int32) [(.int x0), (.int x1), (.int x2), (.int x3), (.int x4), (.int x5), (.int x6), (.int x7), (.int x8), (.int x9), (.int x10), (.int x11), (.int x12), (.int x13), (.int x14), (.int x15), (.int x16), (.int x17), (.int x18), (.int x19), (.int x20), (.int x21), (.int x22)] oZ) (Aw : Arv Z h0 w_ kw .byte (23 : Int32) [(.int x0), (.int x1), (.int x2), (.int x3), (.int x4), (.int x5), (.int x6), (.int x7), (.int x8), (.int x9), (.int x10), (.int x11), (.int x12), (.int x13), (.int x14), (.int x15), (.int x16), (.int x17), (.int x18), (.int x19), (.int x20), (.int x21), (.int x22)] oZ) :
    Met l Z oM34 oC34 3 (some .boolean) (oR 0 0 0 0) n0 [] #[(.ref v), (.ref w_)] h0 (fun v h => v = some (.int (1 : Int32)) ∧ h0 = h) := by
  refine Met.intro (Ls := #[.val (.ref v), .val (.ref w_), .unset]) (plainFor_of_name pn_m_leq23) hw (fun _ => rfl) ?_
  intro w K0
  have K : oK34 w Z a0 := K0
  refine Rn.aloadN K (q := 1) d39_0 rfl rfl rfl ?_
  refine Rn.arraylength K (q := 2) Av d39_1 rfl ?_
  refine Rn.aloadN K (q := 3) d39_2 rfl rfl rfl ?_
  refine Rn.arraylength K (q := 4) Aw d39_3 rfl ?_
  refine Rn.icN K (q := 7) d39_4 (XT.ii_ne_f rfl) rfl ?_
  refine Rn.iconst K (q := 8) (0 : Int32) d39_7 rfl rfl ?_
  refine Rn.istoreN K (q := 9) (Ls' := #[.val (.ref v), .val (.ref w_), .val oZ]) d39_8 rfl rfl ?_
  refine Rn.iloadN K (q := 10) d39_9 rfl rfl ?_
  refine Rn.aloadN K (q := 11) d39_10 rfl rfl rfl ?_
  refine Rn.arraylength K (q := 12) Av d39_11 rfl ?_
  refine Rn.icN K (q := 15) d39_12 (XT.ii_ge_f (by decide)) rfl ?_
  refine Rn.aloadN K (q := 16) d39_15 rfl rfl rfl ?_
  refine Rn.iloadN K (q := 17) d39_16 rfl rfl ?_
  refine Rn.baloadB K (q := 18) (v := (.int x0)) Av (by decide) rfl d39_17 rfl ?_
  refine Rn.aloadN K (q := 19) d39_18 rfl rfl rfl ?_
  refine Rn.iloadN K (q := 20) d39_19 rfl rfl ?_
  refine Rn.baloadB K (q := 21) (v := (.int x0)) Aw (by decide) rfl d39_20 rfl ?_
  refine Rn.icY K (q := 26) d39_21 (XT.ii_eq_t rfl) (by decide) (by decide) ?_
  refine Rn.iinc K (q := 29) (Ls' := #[.val (.ref v), .val (.ref w_), .val (.int (1 : Int32))]) (1 : Int32) d39_26 rfl rfl rfl rfl ?_
  refine Rn.goto K (q := 9) d39_29 (by decide) (by decide) ?_
  refine Rn.iloadN K (q := 10) d39_9 rfl rfl ?_
  refine Rn.aloadN K (q := 11) d39_10 rfl rfl rfl ?_
  refine Rn.arraylength K (q := 12) Av d39_11 rfl ?_
  refine Rn.icN K (q := 15) d39_12 (XT.ii_ge_f (by decide)) rfl ?_
  refine Rn.aloadN K (q := 16) d39_15 rfl rfl rfl ?_
  refine Rn.iloadN K (q := 17) d39_16 rfl rfl ?_
  refine Rn.baloadB K (q := 18) (v := (.int x1)) Av (by decide) rfl d39_17 rfl ?_
  refine Rn.aloadN K (q := 19) d39_18 rfl rfl rfl ?_
  refine Rn.iloadN K (q := 20) d39_19 rfl rfl ?_
  refine Rn.baloadB K (q := 21) (v := (.int x1)) Aw (by decide) rfl d39_20 rfl ?_
  refine Rn.icY K (q := 26) d39_21 (XT.ii_eq_t rfl) (by decide) (by decide) ?_
  refine Rn.iinc K (q := 29) (Ls' := #[.val (.ref v), .val (.ref w_), .val (.int (2 : Int32))]) (1 : Int32) d39_26 rfl rfl rfl rfl ?_
  refine Rn.goto K (q := 9) d39_29 (by decide) (by decide) ?_
  refine Rn.iloadN K (q := 10) d39_9 rfl rfl ?_
  refine Rn.aloadN K (q := 11) d39_10 rfl rfl rfl ?_
  refine Rn.arraylength K (q := 12) Av d39_11 rfl ?_
  refine Rn.icN K (q := 15) d39_12 (XT.ii_ge_f (by decide)) rfl ?_
  refine Rn.aloadN K (q := 16) d39_15 rfl rfl rfl ?_
  refine Rn.iloadN K (q := 17) d39_16 rfl rfl ?_
  refine Rn.baloadB K (q := 18) (v := (.int x2)) Av (by decide) rfl d39_17 rfl ?_
  refine Rn.aloadN K (q := 19) d39_18 rfl rfl rfl ?_
  refine Rn.iloadN K (q := 20) d39_19 rfl rfl ?_
  refine Rn.baloadB K (q := 21) (v := (.int x2)) Aw (by decide) rfl d39_20 rfl ?_
  refine Rn.icY K (q := 26) d39_21 (XT.ii_eq_t rfl) (by decide) (by decide) ?_
  refine Rn.iinc K (q := 29) (Ls' := #[.val (.ref v), .val (.ref w_), .val (.int (3 : Int32))]) (1 : Int32) d39_26 rfl rfl rfl rfl ?_
  refine Rn.goto K (q := 9) d39_29 (by decide) (by decide) ?_
  refine Rn.iloadN K (q := 10) d39_9 rfl rfl ?_
  refine Rn.aloadN K (q := 11) d39_10 rfl rfl rfl ?_
  refine Rn.arraylength K (q := 12) Av d39_11 rfl ?_
  refine Rn.icN K (q := 15) d39_12 (XT.ii_ge_f (by decide)) rfl ?_
  refine Rn.aloadN K (q := 16) d39_15 rfl rfl rfl ?_
  refine Rn.iloadN K (q := 17) d39_16 rfl rfl ?_
  refine Rn.baloadB K (q := 18) (v := (.int x3)) Av (by decide) rfl d39_17 rfl ?_
  refine Rn.aloadN K (q := 19) d39_18 rfl rfl rfl ?_
  refine Rn.iloadN K (q := 20) d39_19 rfl rfl ?_
  refine Rn.baloadB K (q := 21) (v := (.int x3)) Aw (by decide) rfl d39_20 rfl ?_
  refine Rn.icY K (q := 26) d39_21 (XT.ii_eq_t rfl) (by decide) (by decide) ?_
  refine Rn.iinc K (q := 29) (Ls' := #[.val (.ref v), .val (.ref w_), .val (.int (4 : Int32))]) (1 : Int32) d39_26 rfl rfl rfl rfl ?_
  refine Rn.goto K (q := 9) d39_29 (by decide) (by decide) ?_
  refine Rn.iloadN K (q := 10) d39_9 rfl rfl ?_
  refine Rn.aloadN K (q := 11) d39_10 rfl rfl rfl ?_
  refine Rn.arraylength K (q := 12) Av d39_11 rfl ?_
  refine Rn.icN K (q := 15) d39_12 (XT.ii_ge_f (by decide)) rfl ?_
  refine Rn.aloadN K (q := 16) d39_15 rfl rfl rfl ?_
  refine Rn.iloadN K (q := 17) d39_16 rfl rfl ?_
  refine Rn.baloadB K (q := 18) (v := (.int x4)) Av (by decide) rfl d39_17 rfl ?_
  refine Rn.aloadN K (q := 19) d39_18 rfl rfl rfl ?_
  refine Rn.iloadN K (q := 20) d39_19 rfl rfl ?_
  refine Rn.baloadB K (q := 21) (v := (.int x4)) Aw (by decide) rfl d39_20 rfl ?_
  refine Rn.icY K (q := 26) d39_21 (XT.ii_eq_t rfl) (by decide) (by decide) ?_
  refine Rn.iinc K (q := 29) (Ls' := #[.val (.ref v), .val (.ref w_), .val (.int (5 : Int32))]) (1 : Int32) d39_26 rfl rfl rfl rfl ?_
  refine Rn.goto K (q := 9) d39_29 (by decide) (by decide) ?_
  refine Rn.iloadN K (q := 10) d39_9 rfl rfl ?_
  refine Rn.aloadN K (q := 11) d39_10 rfl rfl rfl ?_
  refine Rn.arraylength K (q := 12) Av d39_11 rfl ?_
  refine Rn.icN K (q := 15) d39_12 (XT.ii_ge_f (by decide)) rfl ?_
  refine Rn.aloadN K (q := 16) d39_15 rfl rfl rfl ?_
  refine Rn.iloadN K (q := 17) d39_16 rfl rfl ?_
  refine Rn.baloadB K (q := 18) (v := (.int x5)) Av (by decide) rfl d39_17 rfl ?_
  refine Rn.aloadN K (q := 19) d39_18 rfl rfl rfl ?_
  refine Rn.iloadN K (q := 20) d39_19 rfl rfl ?_
  refine Rn.baloadB K (q := 21) (v := (.int x5)) Aw (by decide) rfl d39_20 rfl ?_
  refine Rn.icY K (q := 26) d39_21 (XT.ii_eq_t rfl) (by decide) (by decide) ?_
  refine Rn.iinc K (q := 29) (Ls' := #[.val (.ref v), .val (.ref w_), .val (.int (6 : Int32))]) (1 : Int32) d39_26 rfl rfl rfl rfl ?_
  refine Rn.goto K (q := 9) d39_29 (by decide) (by decide) ?_
  refine Rn.iloadN K (q := 10) d39_9 rfl rfl ?_
  refine Rn.aloadN K (q := 11) d39_10 rfl rfl rfl ?_
  refine Rn.arraylength K (q := 12) Av d39_11 rfl ?_
  refine Rn.icN K (q := 15) d39_12 (XT.ii_ge_f (by decide)) rfl ?_
  refine Rn.aloadN K (q := 16) d39_15 rfl rfl rfl ?_
  refine Rn.iloadN K (q := 17) d39_16 rfl rfl ?_
  refine Rn.baloadB K (q := 18) (v := (.int x6)) Av (by decide) rfl d39_17 rfl ?_
  refine Rn.aloadN K (q := 19) d39_18 rfl rfl rfl ?_
  refine Rn.iloadN K (q := 20) d39_19 rfl rfl ?_
  refine Rn.baloadB K (q := 21) (v := (.int x6)) Aw (by decide) rfl d39_20 rfl ?_
  refine Rn.icY K (q := 26) d39_21 (XT.ii_eq_t rfl) (by decide) (by decide) ?_
  refine Rn.iinc K (q := 29) (Ls' := #[.val (.ref v), .val (.ref w_), .val (.int (7 : Int32))]) (1 : Int32) d39_26 rfl rfl rfl rfl ?_
  refine Rn.goto K (q := 9) d39_29 (by decide) (by decide) ?_
  refine Rn.iloadN K (q := 10) d39_9 rfl rfl ?_
  refine Rn.aloadN K (q := 11) d39_10 rfl rfl rfl ?_
  refine Rn.arraylength K (q := 12) Av d39_11 rfl ?_
  refine Rn.icN K (q := 15) d39_12 (XT.ii_ge_f (by decide)) rfl ?_
  refine Rn.aloadN K (q := 16) d39_15 rfl rfl rfl ?_
  refine Rn.iloadN K (q := 17) d39_16 rfl rfl ?_
  refine Rn.baloadB K (q := 18) (v := (.int x7)) Av (by decide) rfl d39_17 rfl ?_
  refine Rn.aloadN K (q := 19) d39_18 rfl rfl rfl ?_
  refine Rn.iloadN K (q := 20) d39_19 rfl rfl ?_
  refine Rn.baloadB K (q := 21) (v := (.int x7)) Aw (by decide) rfl d39_20 rfl ?_
  refine Rn.icY K (q := 26) d39_21 (XT.ii_eq_t rfl) (by decide) (by decide) ?_
  refine Rn.iinc K (q := 29) (Ls' := #[.val (.ref v), .val (.ref w_), .val (.int (8 : Int32))]) (1 : Int32) d39_26 rfl rfl rfl rfl ?_
  refine Rn.goto K (q := 9) d39_29 (by decide) (by decide) ?_
  refine Rn.iloadN K (q := 10) d39_9 rfl rfl ?_
  refine Rn.aloadN K (q := 11) d39_10 rfl rfl rfl ?_
  refine Rn.arraylength K (q := 12) Av d39_11 rfl ?_
  refine Rn.icN K (q := 15) d39_12 (XT.ii_ge_f (by decide)) rfl ?_
  refine Rn.aloadN K (q := 16) d39_15 rfl rfl rfl ?_
  refine Rn.iloadN K (q := 17) d39_16 rfl rfl ?_
  refine Rn.baloadB K (q := 18) (v := (.int x8)) Av (by decide) rfl d39_17 rfl ?_
  refine Rn.aloadN K (q := 19) d39_18 rfl rfl rfl ?_
  refine Rn.iloadN K (q := 20) d39_19 rfl rfl ?_
  refine Rn.baloadB K (q := 21) (v := (.int x8)) Aw (by decide) rfl d39_20 rfl ?_
  refine Rn.icY K (q := 26) d39_21 (XT.ii_eq_t rfl) (by decide) (by decide) ?_
  refine Rn.iinc K (q := 29) (Ls' := #[.val (.ref v), .val (.ref w_), .val (.int (9 : Int32))]) (1 : Int32) d39_26 rfl rfl rfl rfl ?_
  refine Rn.goto K (q := 9) d39_29 (by decide) (by decide) ?_
  refine Rn.iloadN K (q := 10) d39_9 rfl rfl ?_
  refine Rn.aloadN K (q := 11) d39_10 rfl rfl rfl ?_
  refine Rn.arraylength K (q := 12) Av d39_11 rfl ?_
  refine Rn.icN K (q := 15) d39_12 (XT.ii_ge_f (by decide)) rfl ?_
  refine Rn.aloadN K (q := 16) d39_15 rfl rfl rfl ?_
  refine Rn.iloadN K (q := 17) d39_16 rfl rfl ?_
  refine Rn.baloadB K (q := 18) (v := (.int x9)) Av (by decide) rfl d39_17 rfl ?_
  refine Rn.aloadN K (q := 19) d39_18 rfl rfl rfl ?_
  refine Rn.iloadN K (q := 20) d39_19 rfl rfl ?_
  refine Rn.baloadB K (q := 21) (v := (.int x9)) Aw (by decide) rfl d39_20 rfl ?_
  refine Rn.icY K (q := 26) d39_21 (XT.ii_eq_t rfl) (by decide) (by decide) ?_
  refine Rn.iinc K (q := 29) (Ls' := #[.val (.ref v), .val (.ref w_), .val (.int (10 : Int32))]) (1 : Int32) d39_26 rfl rfl rfl rfl ?_
  refine Rn.goto K (q := 9) d39_29 (by decide) (by decide) ?_
  refine Rn.iloadN K (q := 10) d39_9 rfl rfl ?_
  refine Rn.aloadN K (q := 11) d39_10 rfl rfl rfl ?_
  refine Rn.arraylength K (q := 12) Av d39_11 rfl ?_
  refine Rn.icN K (q := 15) d39_12 (XT.ii_ge_f (by decide)) rfl ?_
  refine Rn.aloadN K (q := 16) d39_15 rfl rfl rfl ?_
  refine Rn.iloadN K (q := 17) d39_16 rfl rfl ?_
  refine Rn.baloadB K (q := 18) (v := (.int x10)) Av (by decide) rfl d39_17 rfl ?_
  refine Rn.aloadN K (q := 19) d39_18 rfl rfl rfl ?_
  refine Rn.iloadN K (q := 20) d39_19 rfl rfl ?_
  refine Rn.baloadB K (q := 21) (v := (.int x10)) Aw (by decide) rfl d39_20 rfl ?_
  refine Rn.icY K (q := 26) d39_21 (XT.ii_eq_t rfl) (by decide) (by decide) ?_
  refine Rn.iinc K (q := 29) (Ls' := #[.val (.ref v), .val (.ref w_), .val (.int (11 : Int32))]) (1 : Int32) d39_26 rfl rfl rfl rfl ?_
  refine Rn.goto K (q := 9) d39_29 (by decide) (by decide) ?_
  refine Rn.iloadN K (q := 10) d39_9 rfl rfl ?_
  refine Rn.aloadN K (q := 11) d39_10 rfl rfl rfl ?_
  refine Rn.arraylength K (q := 12) Av d39_11 rfl ?_
  refine Rn.icN K (q := 15) d39_12 (XT.ii_ge_f (by decide)) rfl ?_
  refine Rn.aloadN K (q := 16) d39_15 rfl rfl rfl ?_
  refine Rn.iloadN K (q := 17) d39_16 rfl rfl ?_
  refine Rn.baloadB K (q := 18) (v := (.int x11)) Av (by decide) rfl d39_17 rfl ?_
  refine Rn.aloadN K (q := 19) d39_18 rfl rfl rfl ?_
  refine Rn.iloadN K (q := 20) d39_19 rfl rfl ?_
  refine Rn.baloadB K (q := 21) (v := (.int x11)) Aw (by decide) rfl d39_20 rfl ?_
  refine Rn.icY K (q := 26) d39_21 (XT.ii_eq_t rfl) (by decide) (by decide) ?_
  refine Rn.iinc K (q := 29) (Ls' := #[.val (.ref v), .val (.ref w_), .val (.int (12 : Int32))]) (1 : Int32) d39_26 rfl rfl rfl rfl ?_
  refine Rn.goto K (q := 9) d39_29 (by decide) (by decide) ?_
  refine Rn.iloadN K (q := 10) d39_9 rfl rfl ?_
  refine Rn.aloadN K (q := 11) d39_10 rfl rfl rfl ?_
  refine Rn.arraylength K (q := 12) Av d39_11 rfl ?_
  refine Rn.icN K (q := 15) d39_12 (XT.ii_ge_f (by decide)) rfl ?_
  refine Rn.aloadN K (q := 16) d39_15 rfl rfl rfl ?_
  refine Rn.iloadN K (q := 17) d39_16 rfl rfl ?_
  refine Rn.baloadB K (q := 18) (v := (.int x12)) Av (by decide) rfl d39_17 rfl ?_
  refine Rn.aloadN K (q := 19) d39_18 rfl rfl rfl ?_
  refine Rn.iloadN K (q := 20) d39_19 rfl rfl ?_
  refine Rn.baloadB K (q := 21) (v := (.int x12)) Aw (by decide) rfl d39_20 rfl ?_
  refine Rn.icY K (q := 26) d39_21 (XT.ii_eq_t rfl) (by decide) (by decide) ?_
  refine Rn.iinc K (q := 29) (Ls' := #[.val (.ref v), .val (.ref w_), .val (.int (13 : Int32))]) (1 : Int32) d39_26 rfl rfl rfl rfl ?_
  refine Rn.goto K (q := 9) d39_29 (by decide) (by decide) ?_
  refine Rn.iloadN K (q := 10) d39_9 rfl rfl ?_
  refine Rn.aloadN K (q := 11) d39_10 rfl rfl rfl ?_
  refine Rn.arraylength K (q := 12) Av d39_11 rfl ?_
  refine Rn.icN K (q := 15) d39_12 (XT.ii_ge_f (by decide)) rfl ?_
  refine Rn.aloadN K (q := 16) d39_15 rfl rfl rfl ?_
  refine Rn.iloadN K (q := 17) d39_16 rfl rfl ?_
  refine Rn.baloadB K (q := 18) (v := (.int x13)) Av (by decide) rfl d39_17 rfl ?_
  refine Rn.aloadN K (q := 19) d39_18 rfl rfl rfl ?_
  refine Rn.iloadN K (q := 20) d39_19 rfl rfl ?_
  refine Rn.baloadB K (q := 21) (v := (.int x13)) Aw (by decide) rfl d39_20 rfl ?_
  refine Rn.icY K (q := 26) d39_21 (XT.ii_eq_t rfl) (by decide) (by decide) ?_
  refine Rn.iinc K (q := 29) (Ls' := #[.val (.ref v), .val (.ref w_), .val (.int (14 : Int32))]) (1 : Int32) d39_26 rfl rfl rfl rfl ?_
  refine Rn.goto K (q := 9) d39_29 (by decide) (by decide) ?_
  refine Rn.iloadN K (q := 10) d39_9 rfl rfl ?_
  refine Rn.aloadN K (q := 11) d39_10 rfl rfl rfl ?_
  refine Rn.arraylength K (q := 12) Av d39_11 rfl ?_
  refine Rn.icN K (q := 15) d39_12 (XT.ii_ge_f (by decide)) rfl ?_
  refine Rn.aloadN K (q := 16) d39_15 rfl rfl rfl ?_
  refine Rn.iloadN K (q := 17) d39_16 rfl rfl ?_
  refine Rn.baloadB K (q := 18) (v := (.int x14)) Av (by decide) rfl d39_17 rfl ?_
  refine Rn.aloadN K (q := 19) d39_18 rfl rfl rfl ?_
  refine Rn.iloadN K (q := 20) d39_19 rfl rfl ?_
  refine Rn.baloadB K (q := 21) (v := (.int x14)) Aw (by decide) rfl d39_20 rfl ?_
  refine Rn.icY K (q := 26) d39_21 (XT.ii_eq_t rfl) (by decide) (by decide) ?_
  refine Rn.iinc K (q := 29) (Ls' := #[.val (.ref v), .val (.ref w_), .val (.int (15 : Int32))]) (1 : Int32) d39_26 rfl rfl rfl rfl ?_
  refine Rn.goto K (q := 9) d39_29 (by decide) (by decide) ?_
  refine Rn.iloadN K (q := 10) d39_9 rfl rfl ?_
  refine Rn.aloadN K (q := 11) d39_10 rfl rfl rfl ?_
  refine Rn.arraylength K (q := 12) Av d39_11 rfl ?_
  refine Rn.icN K (q := 15) d39_12 (XT.ii_ge_f (by decide)) rfl ?_
  refine Rn.aloadN K (q := 16) d39_15 rfl rfl rfl ?_
  refine Rn.iloadN K (q := 17) d39_16 rfl rfl ?_
  refine Rn.baloadB K (q := 18) (v := (.int x15)) Av (by decide) rfl d39_17 rfl ?_
  refine Rn.aloadN K (q := 19) d39_18 rfl rfl rfl ?_
  refine Rn.iloadN K (q := 20) d39_19 rfl rfl ?_
  refine Rn.baloadB K (q := 21) (v := (.int x15)) Aw (by decide) rfl d39_20 rfl ?_
  refine Rn.icY K (q := 26) d39_21 (XT.ii_eq_t rfl) (by decide) (by decide) ?_
  refine Rn.iinc K (q := 29) (Ls' := #[.val (.ref v), .val (.ref w_), .val (.int (16 : Int32))]) (1 : Int32) d39_26 rfl rfl rfl rfl ?_
  refine Rn.goto K (q := 9) d39_29 (by decide) (by decide) ?_
  refine Rn.iloadN K (q := 10) d39_9 rfl rfl ?_
  refine Rn.aloadN K (q := 11) d39_10 rfl rfl rfl ?_
  refine Rn.arraylength K (q := 12) Av d39_11 rfl ?_
  refine Rn.icN K (q := 15) d39_12 (XT.ii_ge_f (by decide)) rfl ?_
  refine Rn.aloadN K (q := 16) d39_15 rfl rfl rfl ?_
  refine Rn.iloadN K (q := 17) d39_16 rfl rfl ?_
  refine Rn.baloadB K (q := 18) (v := (.int x16)) Av (by decide) rfl d39_17 rfl ?_
  refine Rn.aloadN K (q := 19) d39_18 rfl rfl rfl ?_
  refine Rn.iloadN K (q := 20) d39_19 rfl rfl ?_
  refine Rn.baloadB K (q := 21) (v := (.int x16)) Aw (by decide) rfl d39_20 rfl ?_
  refine Rn.icY K (q := 26) d39_21 (XT.ii_eq_t rfl) (by decide) (by decide) ?_
  refine Rn.iinc K (q := 29) (Ls' := #[.val (.ref v), .val (.ref w_), .val (.int (17 : Int32))]) (1 : Int32) d39_26 rfl rfl rfl rfl ?_
  refine Rn.goto K (q := 9) d39_29 (by decide) (by decide) ?_
  refine Rn.iloadN K (q := 10) d39_9 rfl rfl ?_
  refine Rn.aloadN K (q := 11) d39_10 rfl rfl rfl ?_
  refine Rn.arraylength K (q := 12) Av d39_11 rfl ?_
  refine Rn.icN K (q := 15) d39_12 (XT.ii_ge_f (by decide)) rfl ?_
  refine Rn.aloadN K (q := 16) d39_15 rfl rfl rfl ?_
  refine Rn.iloadN K (q := 17) d39_16 rfl rfl ?_
  refine Rn.baloadB K (q := 18) (v := (.int x17)) Av (by decide) rfl d39_17 rfl ?_
  refine Rn.aloadN K (q := 19) d39_18 rfl rfl rfl ?_
  refine Rn.iloadN K (q := 20) d39_19 rfl rfl ?_
  refine Rn.baloadB K (q := 21) (v := (.int x17)) Aw (by decide) rfl d39_20 rfl ?_
  refine Rn.icY K (q := 26) d39_21 (XT.ii_eq_t rfl) (by decide) (by decide) ?_
  refine Rn.iinc K (q := 29) (Ls' := #[.val (.ref v), .val (.ref w_), .val (.int (18 : Int32))]) (1 : Int32) d39_26 rfl rfl rfl rfl ?_
  refine Rn.goto K (q := 9) d39_29 (by decide) (by decide) ?_
  refine Rn.iloadN K (q := 10) d39_9 rfl rfl ?_
  refine Rn.aloadN K (q := 11) d39_10 rfl rfl rfl ?_
  refine Rn.arraylength K (q := 12) Av d39_11 rfl ?_
  refine Rn.icN K (q := 15) d39_12 (XT.ii_ge_f (by decide)) rfl ?_
  refine Rn.aloadN K (q := 16) d39_15 rfl rfl rfl ?_
  refine Rn.iloadN K (q := 17) d39_16 rfl rfl ?_
  refine Rn.baloadB K (q := 18) (v := (.int x18)) Av (by decide) rfl d39_17 rfl ?_
  refine Rn.aloadN K (q := 19) d39_18 rfl rfl rfl ?_
  refine Rn.iloadN K (q := 20) d39_19 rfl rfl ?_
  refine Rn.baloadB K (q := 21) (v := (.int x18)) Aw (by decide) rfl d39_20 rfl ?_
  refine Rn.icY K (q := 26) d39_21 (XT.ii_eq_t rfl) (by decide) (by decide) ?_
  refine Rn.iinc K (q := 29) (Ls' := #[.val (.ref v), .val (.ref w_), .val (.int (19 : Int32))]) (1 : Int32) d39_26 rfl rfl rfl rfl ?_
  refine Rn.goto K (q := 9) d39_29 (by decide) (by decide) ?_
  refine Rn.iloadN K (q := 10) d39_9 rfl rfl ?_
  refine Rn.aloadN K (q := 11) d39_10 rfl rfl rfl ?_
  refine Rn.arraylength K (q := 12) Av d39_11 rfl ?_
  refine Rn.icN K (q := 15) d39_12 (XT.ii_ge_f (by decide)) rfl ?_
  refine Rn.aloadN K (q := 16) d39_15 rfl rfl rfl ?_
  refine Rn.iloadN K (q := 17) d39_16 rfl rfl ?_
  refine Rn.baloadB K (q := 18) (v := (.int x19)) Av (by decide) rfl d39_17 rfl ?_
  refine Rn.aloadN K (q := 19) d39_18 rfl rfl rfl ?_
  refine Rn.iloadN K (q := 20) d39_19 rfl rfl ?_
  refine Rn.baloadB K (q := 21) (v := (.int x19)) Aw (by decide) rfl d39_20 rfl ?_
  refine Rn.icY K (q := 26) d39_21 (XT.ii_eq_t rfl) (by decide) (by decide) ?_
  refine Rn.iinc K (q := 29) (Ls' := #[.val (.ref v), .val (.ref w_), .val (.int (20 : Int32))]) (1 : Int32) d39_26 rfl rfl rfl rfl ?_
  refine Rn.goto K (q := 9) d39_29 (by decide) (by decide) ?_
  refine Rn.iloadN K (q := 10) d39_9 rfl rfl ?_
  refine Rn.aloadN K (q := 11) d39_10 rfl rfl rfl ?_
  refine Rn.arraylength K (q := 12) Av d39_11 rfl ?_
  refine Rn.icN K (q := 15) d39_12 (XT.ii_ge_f (by decide)) rfl ?_
  refine Rn.aloadN K (q := 16) d39_15 rfl rfl rfl ?_
  refine Rn.iloadN K (q := 17) d39_16 rfl rfl ?_
  refine Rn.baloadB K (q := 18) (v := (.int x20)) Av (by decide) rfl d39_17 rfl ?_
  refine Rn.aloadN K (q := 19) d39_18 rfl rfl rfl ?_
  refine Rn.iloadN K (q := 20) d39_19 rfl rfl ?_
  refine Rn.baloadB K (q := 21) (v := (.int x20)) Aw (by decide) rfl d39_20 rfl ?_
  refine Rn.icY K (q := 26) d39_21 (XT.ii_eq_t rfl) (by decide) (by decide) ?_
  refine Rn.iinc K (q := 29) (Ls' := #[.val (.ref v), .val (.ref w_), .val (.int (21 : Int32))]) (1 : Int32) d39_26 rfl rfl rfl rfl ?_
  refine Rn.goto K (q := 9) d39_29 (by decide) (by decide) ?_
  refine Rn.iloadN K (q := 10) d39_9 rfl rfl ?_
  refine Rn.aloadN K (q := 11) d39_10 rfl rfl rfl ?_
  refine Rn.arraylength K (q := 12) Av d39_11 rfl ?_
  refine Rn.icN K (q := 15) d39_12 (XT.ii_ge_f (by decide)) rfl ?_
  refine Rn.aloadN K (q := 16) d39_15 rfl rfl rfl ?_
  refine Rn.iloadN K (q := 17) d39_16 rfl rfl ?_
  refine Rn.baloadB K (q := 18) (v := (.int x21)) Av (by decide) rfl d39_17 rfl ?_
  refine Rn.aloadN K (q := 19) d39_18 rfl rfl rfl ?_
  refine Rn.iloadN K (q := 20) d39_19 rfl rfl ?_
  refine Rn.baloadB K (q := 21) (v := (.int x21)) Aw (by decide) rfl d39_20 rfl ?_
  refine Rn.icY K (q := 26) d39_21 (XT.ii_eq_t rfl) (by decide) (by decide) ?_
  refine Rn.iinc K (q := 29) (Ls' := #[.val (.ref v), .val (.ref w_), .val (.int (22 : Int32))]) (1 : Int32) d39_26 rfl rfl rfl rfl ?_
  refine Rn.goto K (q := 9) d39_29 (by decide) (by decide) ?_
  refine Rn.iloadN K (q := 10) d39_9 rfl rfl ?_
  refine Rn.aloadN K (q := 11) d39_10 rfl rfl rfl ?_
  refine Rn.arraylength K (q := 12) Av d39_11 rfl ?_
  refine Rn.icN K (q := 15) d39_12 (XT.ii_ge_f (by decide)) rfl ?_
  refine Rn.aloadN K (q := 16) d39_15 rfl rfl rfl ?_
  refine Rn.iloadN K (q := 17) d39_16 rfl rfl ?_
  refine Rn.baloadB K (q := 18) (v := (.int x22)) Av (by decide) rfl d39_17 rfl ?_
  refine Rn.aloadN K (q := 19) d39_18 rfl rfl rfl ?_
  refine Rn.iloadN K (q := 20) d39_19 rfl rfl ?_
  refine Rn.baloadB K (q := 21) (v := (.int x22)) Aw (by decide) rfl d39_20 rfl ?_
  refine Rn.icY K (q := 26) d39_21 (XT.ii_eq_t rfl) (by decide) (by decide) ?_
  refine Rn.iinc K (q := 29) (Ls' := #[.val (.ref v), .val (.ref w_), .val (.int (23 : Int32))]) (1 : Int32) d39_26 rfl rfl rfl rfl ?_
  refine Rn.goto K (q := 9) d39_29 (by decide) (by decide) ?_
  refine Rn.iloadN K (q := 10) d39_9 rfl rfl ?_
  refine Rn.aloadN K (q := 11) d39_10 rfl rfl rfl ?_
  refine Rn.arraylength K (q := 12) Av d39_11 rfl ?_
  refine Rn.icY K (q := 32) d39_12 (XT.ii_ge_t (by decide)) (by decide) (by decide) ?_
  refine Rn.iconst K (q := 33) (1 : Int32) d39_32 rfl rfl ?_
  exact Rn.retN K .boolean rfl (by simp) d39_33 (by decide) (by decide) ⟨rfl, rfl⟩
theorem d38_0 : decode oC35 0 = .ok (.aload_n 0, 1) := by decide +kernel
theorem d38_1 : decode oC35 1 = .ok (.aload_n 1, 1) := by decide +kernel
theorem d38_2 : decode oC35 2 = .ok (.if_acmp .ne 5, 3) := by decide +kernel
theorem d38_7 : decode oC35 7 = .ok (.aload_n 1, 1) := by decide +kernel
theorem d38_8 : decode oC35 8 = .ok (.instanceof 10, 3) := by decide +kernel
theorem d38_11 : decode oC35 11 = .ok (.ifCond .eq 43, 3) := by decide +kernel
theorem d38_14 : decode oC35 14 = .ok (.aload_n 1, 1) := by decide +kernel
theorem d38_15 : decode oC35 15 = .ok (.checkcast 10, 3) := by decide +kernel
theorem d38_18 : decode oC35 18 = .ok (.astore_n 2, 1) := by decide +kernel
theorem d38_19 : decode oC35 19 = .ok (.getstatic 38, 3) := by decide +kernel
theorem d38_22 : decode oC35 22 = .ok (.ifCond .eq 14, 3) := by decide +kernel
theorem d38_25 : decode oC35 25 = .ok (.aload_n 0, 1) := by decide +kernel
theorem d38_26 : decode oC35 26 = .ok (.getfield 15, 3) := by decide +kernel
theorem d38_29 : decode oC35 29 = .ok (.aload_n 2, 1) := by decide +kernel
theorem d38_30 : decode oC35 30 = .ok (.getfield 15, 3) := by decide +kernel
theorem d38_33 : decode oC35 33 = .ok (.if_icmp .ne 21, 3) := by decide +kernel
theorem d38_36 : decode oC35 36 = .ok (.aload_n 0, 1) := by decide +kernel
theorem d38_37 : decode oC35 37 = .ok (.getfield 9, 3) := by decide +kernel
theorem d38_40 : decode oC35 40 = .ok (.aload_n 2, 1) := by decide +kernel
theorem d38_41 : decode oC35 41 = .ok (.getfield 9, 3) := by decide +kernel
theorem d38_44 : decode oC35 44 = .ok (.invokestatic 541, 3) := by decide +kernel
theorem d38_47 : decode oC35 47 = .ok (.ifCond .eq 7, 3) := by decide +kernel
theorem d38_50 : decode oC35 50 = .ok (.iconst 1, 1) := by decide +kernel
theorem d38_51 : decode oC35 51 = .ok (.goto 4, 3) := by decide +kernel
theorem d38_55 : decode oC35 55 = .ok (.ireturn, 1) := by decide +kernel
theorem m_seq23 (l : Launch) (Z : State) (a0 : Array Value) (hw : oH Z a0) (n0 : Nat) (h0 : Heap) (s v t w_ : Addr) (k kw : ClassId) (cst : Int32) (x0 x1 x2 x3 x4 x5 x6 x7 x8 x9 x10 x11 x12 x13 x14 x15 x16 x17 x18 x19 x20 x21 x22 : Int32) (X0 : Old Z n0 h0) (SC : oSC Z cst) (hcs : ¬ cst = 0) (Es : Exa Z h0 s "java/lang/String") (Fc : Fld Z h0 s "java/lang/String" "coder" "B" (.int (0 : Int32))) (Fv : Fld Z h0 s "java/lang/String" "value" "[B" (.ref v)) (Av : Arv Z h0 v k .byte (23 : Int32) [(.int x0), (.int x1), (.int x2), (.int x3), (.int x4), (.int x5), (.int x6), (.int x7), (.int x8), (.int x9), (.int x10), (.int x11), (.int x12), (.int x13), (.int x14), (.int x15), (.int x16), (.int x17), (.int x18), (.int x19), (.int x20), (.int x21), (.int x22)] oZ) (Est : Exa Z h0 t "java/lang/String") (Fct : Fld Z h0 t "java/lang/String" "coder" "B" (.int (0 : Int32))) (Fvt : Fld Z h0 t "java/lang/String" "value" "[B" (.ref w_)) (Aw : Arv Z h0 w_ kw .byte (23 : Int32) [(.int x0), (.int x1), (.int x2), (.int x3), (.int x4), (.int x5), (.int x6), (.int x7), (.int x8), (.int x9), (.int x10), (.int x11), (.int x12), (.int x13), (.int x14), (.int x15), (.int x16), (.int x17), (.int x18), (.int x19), (.int x20), (.int x21), (.int x22)] oZ) (hst : s ≠ t) :
    Met l Z oM35 oC35 3 (some .boolean) (oR 1 0 0 16) n0 [] #[(.ref s), (.ref t)] h0 (fun v h => v = some (.int (1 : Int32)) ∧ h0 = h) := by
  refine Met.intro (Ls := #[.val (.ref s), .val (.ref t), .unset]) (plainFor_of_name pn_m_coder) hw (fun _ => rfl) ?_
  intro w K0
  have K : oK35 w Z a0 := K0
  refine Rn.aloadN K (q := 1) d38_0 rfl rfl rfl ?_
  refine Rn.aloadN K (q := 2) d38_1 rfl rfl rfl ?_
  refine Rn.acY K (q := 7) d38_2 rfl rfl (XT.aa_ne_t (fun e => hst (Value.ref.inj e))) (by decide) (by decide) ?_
  refine Rn.aloadN K (q := 8) d38_7 rfl rfl rfl ?_
  refine Rn.instY K (q := 11) (oT 203 rfl) (Ins.of_exa Est (K.hw _ (oT 9 rfl))) d38_8 rfl ?_
  refine Rn.ifN K (q := 14) d38_11 (XT.i0_eq_f (by decide)) rfl ?_
  refine Rn.aloadN K (q := 15) d38_14 rfl rfl rfl ?_
  refine Rn.castY K (q := 18) (oT 203 rfl) (Ins.of_exa Est (K.hw _ (oT 9 rfl))) d38_15 rfl ?_
  refine Rn.astoreN K (q := 19) (Ls' := #[.val (.ref s), .val (.ref t), .val (.ref t)]) d38_18 rfl rfl rfl ?_
  refine Rn.getS K (q := 22) (oT 14 rfl) (SC.ext X0.2) d38_19 rfl ?_
  refine Rn.ifN K (q := 25) d38_22 (XT.i0_eq_f hcs) rfl ?_
  refine Rn.aloadN K (q := 26) d38_25 rfl rfl rfl ?_
  refine Rn.getF K (q := 29) (oT 26 rfl) Via.refl Fc d38_26 rfl ?_
  refine Rn.aloadN K (q := 30) d38_29 rfl rfl rfl ?_
  refine Rn.getF K (q := 33) (oT 26 rfl) Via.refl Fct d38_30 rfl ?_
  refine Rn.icN K (q := 36) d38_33 (XT.ii_ne_f rfl) rfl ?_
  refine Rn.aloadN K (q := 37) d38_36 rfl rfl rfl ?_
  refine Rn.getF K (q := 40) (oT 28 rfl) Via.refl Fv d38_37 rfl ?_
  refine Rn.aloadN K (q := 41) d38_40 rfl rfl rfl ?_
  refine Rn.getF K (q := 44) (oT 28 rfl) Via.refl Fvt d38_41 rfl ?_
  refine Rn.stat K (q := 47) (W := 0) (y := oM34) (argsL := [(.ref v), (.ref w_)]) (rest := []) (oT 204 rfl) (oT 205 rfl) (oT 207 rfl) (oT 206 rfl) (by decide) (m_leq23 l Z a0 hw n0 h0 v w_ k kw x0 x1 x2 x3 x4 x5 x6 x7 x8 x9 x10 x11 x12 x13 x14 x15 x16 x17 x18 x19 x20 x21 x22 X0 Av Aw) (by decide) (by decide) rfl (lenOf pd_21 rfl) rfl (oL rfl) d38_44 rfl (by decide) (by decide) ?_
  rintro _ _ ⟨rfl, rfl⟩
  show Rn w l _ n0 _ 47 _ [(.int (1 : Int32))] h0 0 0
  refine Rn.ifN K (q := 50) d38_47 (XT.i0_eq_f (by decide)) rfl ?_
  refine Rn.iconst K (q := 51) (1 : Int32) d38_50 rfl rfl ?_
  refine Rn.goto K (q := 55) d38_51 (by decide) (by decide) ?_
  exact Rn.retN K .boolean rfl (by simp) d38_55 (by decide) (by decide) ⟨rfl, rfl⟩
theorem m_ckl32 (l : Launch) (Z : State) (a0 : Array Value) (hw : oH Z a0) (n0 : Nat) (h0 : Heap)  (X0 : Old Z n0 h0) :
    Met l Z oM28 oC28 2 none (oR 0 0 0 0) n0 [] #[oZ, (.int (32 : Int32))] h0 (fun r h => r = none ∧ h0 = h) := by
  refine Met.intro (Ls := #[.val oZ, .val (.int (32 : Int32))]) (plainFor_of_name pn_m_cpo) hw (fun _ => rfl) ?_
  intro w K0
  have K : oK28 w Z a0 := K0
  refine Rn.iloadN K (q := 1) d37_0 rfl rfl ?_
  refine Rn.iloadN K (q := 2) d37_1 rfl rfl ?_
  refine Rn.icY K (q := 37) d37_2 (XT.ii_ge_t (by decide)) (by decide) (by decide) ?_
  exact Rn.retV K rfl d37_37 (by decide) (by decide) ⟨rfl, rfl⟩
theorem m_crb32 (l : Launch) (Z : State) (a0 : Array Value) (hw : oH Z a0) (n0 : Nat) (h0 : Heap) (u : Addr) (ku : ClassId) (z0 z1 z2 z3 z4 z5 z6 z7 z8 z9 z10 z11 z12 z13 z14 z15 z16 z17 z18 z19 z20 z21 z22 z23 z24 z25 z26 z27 z28 z29 z30 z31 : Int32) (X0 : Old Z n0 h0) (Au : Arv Z h0 u ku .byte (34 : Int32) [(.int z0), (.int z1), (.int z2), (.int z3), (.int z4), (.int z5), (.int z6), (.int z7), (.int z8), (.int z9), (.int z10), (.int z11), (.int z12), (.int z13), (.int z14), (.int z15), (.int z16), (.int z17), (.int z18), (.int z19), (.int z20), (.int z21), (.int z22), (.int z23), (.int z24), (.int z25), (.int z26), (.int z27), (.int z28), (.int z29), (.int z30), (.int z31), oZ, oZ] oZ) :
    Met l Z oM29 oC29 5 (some (.array .byte)) (oR 1 1 32 60) n0 [] #[(.ref u), oZ, (.int (32 : Int32))] h0 (fun r h => ∃ u2 k2, r = some (.ref u2) ∧ h0.size ≤ u2 ∧ n0 ≤ u2 ∧ Keep h0 h [] ∧ Exa Z h u2 "[B" ∧ Arv Z h u2 k2 .byte (32 : Int32) [(.int z0), (.int z1), (.int z2), (.int z3), (.int z4), (.int z5), (.int z6), (.int z7), (.int z8), (.int z9), (.int z10), (.int z11), (.int z12), (.int z13), (.int z14), (.int z15), (.int z16), (.int z17), (.int z18), (.int z19), (.int z20), (.int z21), (.int z22), (.int z23), (.int z24), (.int z25), (.int z26), (.int z27), (.int z28), (.int z29), (.int z30), (.int z31)] oZ) := by
  refine Met.intro (Ls := #[.val (.ref u), .val oZ, .val (.int (32 : Int32)), .unset, .unset]) (plainFor_of_name pn_m_cpo) hw (fun _ => rfl) ?_
  intro w K0
  have K : oK29 w Z a0 := K0
  have K1 := Keep.refl h0 []
  refine Rn.iloadN K (q := 1) d36_0 rfl rfl ?_
  refine Rn.iloadN K (q := 2) d36_1 rfl rfl ?_
  refine Rn.stat K (q := 5) (W := 0) (y := oM28) (argsL := [oZ, (.int (32 : Int32))]) (rest := []) (oT 195 rfl) (oT 196 rfl) (oT 197 rfl) (oT 153 rfl) (by decide) (m_ckl32 l Z a0 hw n0 h0 X0) (by decide) (by decide) rfl (lenOf pd_16 rfl) rfl (oL rfl) d36_2 rfl (by decide) (by decide) ?_
  rintro _ _ ⟨rfl, rfl⟩
  show Rn w l _ n0 _ 5 _ [] h0 0 0
  refine Rn.iloadN K (q := 6) d36_5 rfl rfl ?_
  refine Rn.iloadN K (q := 7) d36_6 rfl rfl ?_
  refine Rn.isub K (q := 8) d36_7 rfl ?_
  show Rn w l _ n0 _ 8 _ [(.int (32 : Int32))] h0 0 0
  refine Rn.istoreN K (q := 9) (Ls' := #[.val (.ref u), .val oZ, .val (.int (32 : Int32)), .val (.int (32 : Int32)), .unset]) d36_8 rfl rfl ?_
  refine Rn.iloadN K (q := 10) d36_9 rfl rfl ?_
  refine Rn.newP K (q := 12) (cap := 32) (oT 19 rfl) (by decide) (by decide) (by decide) (by decide) (by decide) (ad := "[B") (by decide) d36_10 rfl ?_
  intro b1 h2 k4 gb1_ X3 A_b1 EA_b1
  have g_b1 : n0 ≤ b1 := by rw [gb1_]; exact X0.1 ▸ X0.2.1
  have sz_b1 : h0.size ≤ b1 := by rw [gb1_]; exact K1.1
  have f5 := X0.ext X3
  have f6 := K1.ext X3
  have f7 := Au.ext X3
  replace A_b1 : Arv Z h2 b1 k4 .byte (32 : Int32) [oZ, oZ, oZ, oZ, oZ, oZ, oZ, oZ, oZ, oZ, oZ, oZ, oZ, oZ, oZ, oZ, oZ, oZ, oZ, oZ, oZ, oZ, oZ, oZ, oZ, oZ, oZ, oZ, oZ, oZ, oZ, oZ] oZ := A_b1.pad (pad_rep [] oZ 32)
  show Rn w l _ n0 _ 12 _ [(.ref b1)] h2 1 32
  refine Rn.astore K (q := 14) (Ls' := #[.val (.ref u), .val oZ, .val (.int (32 : Int32)), .val (.int (32 : Int32)), .val (.ref b1)]) d36_12 rfl rfl rfl ?_
  refine Rn.aloadN K (q := 15) d36_14 rfl rfl rfl ?_
  refine Rn.iloadN K (q := 16) d36_15 rfl rfl ?_
  refine Rn.aload K (q := 18) d36_16 rfl rfl rfl ?_
  refine Rn.iconst K (q := 19) (0 : Int32) d36_18 rfl rfl ?_
  refine Rn.aloadN K (q := 20) d36_19 rfl rfl rfl ?_
  refine Rn.arraylength K (q := 21) f7 d36_20 rfl ?_
  refine Rn.iloadN K (q := 22) d36_21 rfl rfl ?_
  refine Rn.isub K (q := 23) d36_22 rfl ?_
  show Rn w l _ n0 _ 23 _ [(.int (34 : Int32)), oZ, (.ref b1), oZ, (.ref u)] h2 1 32
  refine Rn.iloadN K (q := 24) d36_23 rfl rfl ?_
  refine Rn.stat K (q := 27) (W := 4) (y := oM12) (argsL := [(.int (34 : Int32)), (.int (32 : Int32))]) (rest := [oZ, (.ref b1), oZ, (.ref u)]) (oT 155 rfl) (oT 156 rfl) (oT 157 rfl) (oT 147 rfl) (by decide) (m_min_34_32 l Z a0 hw n0 h2 f5) (by decide) (by decide) rfl (lenOf pd_6 rfl) rfl (oL rfl) d36_24 rfl (by decide) (by decide) ?_
  rintro _ _ ⟨rfl, rfl⟩
  show Rn w l _ n0 _ 27 _ [(.int (32 : Int32)), oZ, (.ref b1), oZ, (.ref u)] h2 1 32
  refine Rn.acopy K (q := 30) (W := 0) (o := 0) (p := 0) (n := 32) (z := 32) (by decide) rfl (oT 158 rfl) (oT 134 rfl) (oT 132 rfl) (oT 133 rfl) f7 A_b1 (by decide) (by decide) (by decide) (by decide) (by decide) (by decide) g_b1 rfl (oL rfl) (by decide) (by decide) d36_27 rfl ?_
  intro h8 K9 A10
  have f12 := f6.trans K9 (allS (Or.inr sz_b1) all0)
  have f14 := EA_b1.keep K9
  replace A10 : Arv Z h8 b1 k4 .byte (32 : Int32) [(.int z0), (.int z1), (.int z2), (.int z3), (.int z4), (.int z5), (.int z6), (.int z7), (.int z8), (.int z9), (.int z10), (.int z11), (.int z12), (.int z13), (.int z14), (.int z15), (.int z16), (.int z17), (.int z18), (.int z19), (.int z20), (.int z21), (.int z22), (.int z23), (.int z24), (.int z25), (.int z26), (.int z27), (.int z28), (.int z29), (.int z30), (.int z31)] oZ := A10
  show Rn w l _ n0 _ 30 _ [] h8 1 32
  refine Rn.aload K (q := 32) d36_30 rfl rfl rfl ?_
  exact Rn.retA K (.array .byte) rfl rfl rfl d36_32 (by decide) (by decide) ⟨_, _, rfl, sz_b1, g_b1, f12, f14, A10⟩
theorem m_cor32 (l : Launch) (Z : State) (a0 : Array Value) (hw : oH Z a0) (n0 : Nat) (h0 : Heap) (u : Addr) (ku : ClassId) (z0 z1 z2 z3 z4 z5 z6 z7 z8 z9 z10 z11 z12 z13 z14 z15 z16 z17 z18 z19 z20 z21 z22 z23 z24 z25 z26 z27 z28 z29 z30 z31 : Int32) (X0 : Old Z n0 h0) (Au : Arv Z h0 u ku .byte (34 : Int32) [(.int z0), (.int z1), (.int z2), (.int z3), (.int z4), (.int z5), (.int z6), (.int z7), (.int z8), (.int z9), (.int z10), (.int z11), (.int z12), (.int z13), (.int z14), (.int z15), (.int z16), (.int z17), (.int z18), (.int z19), (.int z20), (.int z21), (.int z22), (.int z23), (.int z24), (.int z25), (.int z26), (.int z27), (.int z28), (.int z29), (.int z30), (.int z31), oZ, oZ] oZ) :
    Met l Z oM30 oC30 3 (some (.array .byte)) (oR 2 1 32 78) n0 [] #[(.ref u), oZ, (.int (32 : Int32))] h0 (fun r h => ∃ u2 k2, r = some (.ref u2) ∧ h0.size ≤ u2 ∧ n0 ≤ u2 ∧ Keep h0 h [] ∧ Exa Z h u2 "[B" ∧ Arv Z h u2 k2 .byte (32 : Int32) [(.int z0), (.int z1), (.int z2), (.int z3), (.int z4), (.int z5), (.int z6), (.int z7), (.int z8), (.int z9), (.int z10), (.int z11), (.int z12), (.int z13), (.int z14), (.int z15), (.int z16), (.int z17), (.int z18), (.int z19), (.int z20), (.int z21), (.int z22), (.int z23), (.int z24), (.int z25), (.int z26), (.int z27), (.int z28), (.int z29), (.int z30), (.int z31)] oZ) := by
  refine Met.intro (Ls := #[.val (.ref u), .val oZ, .val (.int (32 : Int32))]) (plainFor_of_name pn_m_cpo) hw (fun _ => rfl) ?_
  intro w K0
  have K : oK30 w Z a0 := K0
  refine Rn.iloadN K (q := 1) d35_0 rfl rfl ?_
  refine Rn.ifN K (q := 4) d35_1 (XT.i0_ne_f rfl) rfl ?_
  refine Rn.iloadN K (q := 5) d35_4 rfl rfl ?_
  refine Rn.aloadN K (q := 6) d35_5 rfl rfl rfl ?_
  refine Rn.arraylength K (q := 7) Au d35_6 rfl ?_
  refine Rn.icN K (q := 10) d35_7 (XT.ii_eq_f (by decide)) rfl ?_
  refine Rn.aloadN K (q := 11) d35_10 rfl rfl rfl ?_
  refine Rn.iloadN K (q := 12) d35_11 rfl rfl ?_
  refine Rn.iloadN K (q := 13) d35_12 rfl rfl ?_
  refine Rn.stat K (q := 16) (W := 0) (y := oM29) (argsL := [(.ref u), oZ, (.int (32 : Int32))]) (rest := []) (oT 192 rfl) (oT 193 rfl) (oT 194 rfl) (oT 153 rfl) (by decide) (m_crb32 l Z a0 hw n0 h0 u ku z0 z1 z2 z3 z4 z5 z6 z7 z8 z9 z10 z11 z12 z13 z14 z15 z16 z17 z18 z19 z20 z21 z22 z23 z24 z25 z26 z27 z28 z29 z30 z31 X0 Au) (by decide) (by decide) rfl (lenOf pd_17 rfl) rfl (oL rfl) d35_13 rfl (by decide) (by decide) ?_
  rintro _ h1 ⟨u2, k2, rfl, Q2⟩
  show Rn w l _ n0 _ 16 _ [(.ref u2)] h1 1 32
  exact Rn.retA K (.array .byte) rfl rfl rfl d35_16 (by decide) (by decide) ⟨_, _, rfl, Q2⟩
theorem m_isb32 (l : Launch) (Z : State) (a0 : Array Value) (hw : oH Z a0) (n0 : Nat) (h0 : Heap) (s : Addr) (b u : Addr) (ku : ClassId) (z0 z1 z2 z3 z4 z5 z6 z7 z8 z9 z10 z11 z12 z13 z14 z15 z16 z17 z18 z19 z20 z21 z22 z23 z24 z25 z26 z27 z28 z29 z30 z31 : Int32) (cst : Int32) (X0 : Old Z n0 h0) (SC : oSC Z cst) (hcs : ¬ cst = 0) (Es : Exa Z h0 s "java/lang/String") (gs : n0 ≤ s) (Fv : Fld Z h0 s "java/lang/String" "value" "[B" .null) (Fc : Fld Z h0 s "java/lang/String" "coder" "B" (.int (0 : Int32))) (Eb : Exa Z h0 b "java/lang/StringBuilder") (gb : n0 ≤ b) (Bv : Fld Z h0 b "java/lang/AbstractStringBuilder" "value" "[B" (.ref u)) (Bc : Fld Z h0 b "java/lang/AbstractStringBuilder" "coder" "B" (.int (0 : Int32))) (Bn : Fld Z h0 b "java/lang/AbstractStringBuilder" "count" "I" (.int (32 : Int32))) (Eu : Exa Z h0 u "[B") (gu : n0 ≤ u) (Au : Arv Z h0 u ku .byte (34 : Int32) [(.int z0), (.int z1), (.int z2), (.int z3), (.int z4), (.int z5), (.int z6), (.int z7), (.int z8), (.int z9), (.int z10), (.int z11), (.int z12), (.int z13), (.int z14), (.int z15), (.int z16), (.int z17), (.int z18), (.int z19), (.int z20), (.int z21), (.int z22), (.int z23), (.int z24), (.int z25), (.int z26), (.int z27), (.int z28), (.int z29), (.int z30), (.int z31), oZ, oZ] oZ) :
    Met l Z oM31 oC31 5 none (oR 3 1 32 98) n0 [] #[(.ref s), (.ref b), .null] h0 (fun r h => r = none ∧ Keep h0 h [s] ∧ ∃ v k, Fld Z h s "java/lang/String" "value" "[B" (.ref v) ∧ Fld Z h s "java/lang/String" "coder" "B" (.int (0 : Int32)) ∧ Arv Z h v k .byte (32 : Int32) [(.int z0), (.int z1), (.int z2), (.int z3), (.int z4), (.int z5), (.int z6), (.int z7), (.int z8), (.int z9), (.int z10), (.int z11), (.int z12), (.int z13), (.int z14), (.int z15), (.int z16), (.int z17), (.int z18), (.int z19), (.int z20), (.int z21), (.int z22), (.int z23), (.int z24), (.int z25), (.int z26), (.int z27), (.int z28), (.int z29), (.int z30), (.int z31)] oZ) := by
  refine Met.intro (Ls := #[.val (.ref s), .val (.ref b), .val .null, .unset, .unset]) (plainFor_of_name pn_m_coder) hw (fun _ => rfl) ?_
  intro w K0
  have K : oK31 w Z a0 := K0
  have K1 := Keep.refl h0 [s]
  refine Rn.aloadN K (q := 1) d30_0 rfl rfl rfl ?_
  refine Rn.initO K (q := 4) (W := 0) (oT 11 rfl) (oT 12 rfl) (oT 13 rfl) (by decide) (by decide) rfl (oL rfl) d30_1 rfl ?_
  refine Rn.aloadN K (q := 5) d30_4 rfl rfl rfl ?_
  refine Rn.virt K (q := 8) (W := 0) (y := oM24) (z := oM24) (b := b) (argsL := []) (rest := []) (oT 171 rfl) (oT 172 rfl) (nfs K (oT 174 rfl)) (oT 174 rfl) (oT 173 rfl) (oT 175 rfl) (oT 79 rfl) (by decide) (m_gv l Z a0 hw n0 h0 b u X0 Bv) Eb (by decide) (by decide) rfl (lenOf pd_18 rfl) rfl (oL rfl) d30_5 rfl (by decide) (by decide) ?_
  rintro _ _ ⟨rfl, rfl⟩
  show Rn w l _ n0 _ 8 _ [(.ref u)] h0 0 0
  refine Rn.astoreN K (q := 9) (Ls' := #[.val (.ref s), .val (.ref b), .val .null, .val (.ref u), .unset]) d30_8 rfl rfl rfl ?_
  refine Rn.aloadN K (q := 10) d30_9 rfl rfl rfl ?_
  refine Rn.virt K (q := 13) (W := 0) (y := oM26) (z := oM27) (b := b) (argsL := []) (rest := []) (oT 176 rfl) (oT 177 rfl) (own_nf K (y2 := oM24) (oT 172 rfl) (oT 174 rfl) rfl) (oT 179 rfl) (oT 180 rfl) (oT 181 rfl) (oT 71 rfl) (by decide) (m_sln l Z a0 hw n0 h0 b (32 : Int32) X0 Eb Bn) Eb (by decide) (by decide) rfl (lenOf pd_13 rfl) rfl (oL rfl) d30_10 rfl (by decide) (by decide) ?_
  rintro _ _ ⟨rfl, rfl⟩
  show Rn w l _ n0 _ 13 _ [(.int (32 : Int32))] h0 0 0
  refine Rn.istore K (q := 15) (Ls' := #[.val (.ref s), .val (.ref b), .val .null, .val (.ref u), .val (.int (32 : Int32))]) d30_13 rfl rfl ?_
  refine Rn.aloadN K (q := 16) d30_15 rfl rfl rfl ?_
  refine Rn.virt K (q := 19) (W := 0) (y := oM25) (z := oM25) (b := b) (argsL := []) (rest := []) (oT 184 rfl) (oT 185 rfl) (nfs K (oT 187 rfl)) (oT 187 rfl) (oT 186 rfl) (oT 188 rfl) (oT 79 rfl) (by decide) (m_alat l Z a0 hw n0 h0 b cst X0 SC hcs Bc) Eb (by decide) (by decide) rfl (lenOf pd_0 rfl) rfl (oL rfl) d30_16 rfl (by decide) (by decide) ?_
  rintro _ _ ⟨rfl, rfl⟩
  show Rn w l _ n0 _ 19 _ [(.int (1 : Int32))] h0 0 0
  refine Rn.ifN K (q := 22) d30_19 (XT.i0_eq_f (by decide)) rfl ?_
  refine Rn.aloadN K (q := 23) d30_22 rfl rfl rfl ?_
  refine Rn.iconst K (q := 24) (0 : Int32) d30_23 rfl rfl ?_
  refine Rn.putF K (q := 27) (ty := .byte) (v' := .int (nar .byte (0 : Int32))) (oT 26 rfl) Via.refl Fc Es (Or.inr ⟨(oT 27 rfl), rfl, rfl⟩) (oT 1 rfl) (by decide) rfl (fits_nar_byte _) gs d30_24 rfl ?_
  intro h1 W2
  have f3 := X0.wr W2 gs
  have f4 := K1.wr W2 (Or.inl (oT 0 rfl))
  have f5 := Es.wr W2
  have f6 := Fld.other W2 Fv (Or.inr (slot_ne (Or.inr (K.hw _ (oT 29 rfl))) (Or.inr (K.hw _ (oT 27 rfl))) (by decide) (t := (.array .byte)) (t' := .byte) (by decide) (by decide)))
  have f7 := Fld.same W2 Fc
  have f12 := Au.other W2 (ne_exa Eu Es (by decide))
  refine Rn.aloadN K (q := 28) d30_27 rfl rfl rfl ?_
  refine Rn.aloadN K (q := 29) d30_28 rfl rfl rfl ?_
  refine Rn.iconst K (q := 30) (0 : Int32) d30_29 rfl rfl ?_
  refine Rn.iload K (q := 32) d30_30 rfl rfl ?_
  refine Rn.stat K (q := 35) (W := 1) (y := oM30) (argsL := [(.ref u), oZ, (.int (32 : Int32))]) (rest := [(.ref s)]) (oT 189 rfl) (oT 190 rfl) (oT 191 rfl) (oT 153 rfl) (by decide) (m_cor32 l Z a0 hw n0 h1 u ku z0 z1 z2 z3 z4 z5 z6 z7 z8 z9 z10 z11 z12 z13 z14 z15 z16 z17 z18 z19 z20 z21 z22 z23 z24 z25 z26 z27 z28 z29 z30 z31 f3 f12) (by decide) (by decide) rfl (lenOf pd_17 rfl) rfl (oL rfl) d30_32 rfl (by decide) (by decide) ?_
  rintro _ h14 ⟨u2, k2, rfl, su2, gu2, K15, E16, A17⟩
  have f19 := f4.trans K15 all0
  have f20 := f5.keep K15
  have f21 := f6.keep K15 nin0
  have f22 := f7.keep K15 nin0
  show Rn w l _ n0 _ 35 _ [(.ref u2), (.ref s)] h14 1 32
  refine Rn.putF K (q := 38) (ty := (.array .byte)) (oT 28 rfl) Via.refl f21 f20 (Or.inr ⟨(oT 29 rfl), rfl, rfl⟩) (oT 1 rfl) (by decide) rfl rfl gs d30_35 rfl ?_
  intro h29 W30
  have f32 := f19.wr W30 (Or.inl (oT 0 rfl))
  have f34 := Fld.same W30 f21
  have f35 := Fld.other W30 f22 (Or.inr (slot_ne (Or.inr (K.hw _ (oT 27 rfl))) (Or.inr (K.hw _ (oT 29 rfl))) (by decide) (t := .byte) (t' := (.array .byte)) (by decide) (by decide)))
  have f43 := A17.other W30 (ne_exa E16 f20 (by decide))
  refine Rn.goto K (q := 97) d30_38 (by decide) (by decide) ?_
  exact Rn.retV K rfl d30_97 (by decide) (by decide) ⟨rfl, f32, _, _, f34, f35, f43⟩
theorem m_isB32 (l : Launch) (Z : State) (a0 : Array Value) (hw : oH Z a0) (n0 : Nat) (h0 : Heap) (s : Addr) (b u : Addr) (ku : ClassId) (z0 z1 z2 z3 z4 z5 z6 z7 z8 z9 z10 z11 z12 z13 z14 z15 z16 z17 z18 z19 z20 z21 z22 z23 z24 z25 z26 z27 z28 z29 z30 z31 : Int32) (cst : Int32) (X0 : Old Z n0 h0) (SC : oSC Z cst) (hcs : ¬ cst = 0) (Es : Exa Z h0 s "java/lang/String") (gs : n0 ≤ s) (Fv : Fld Z h0 s "java/lang/String" "value" "[B" .null) (Fc : Fld Z h0 s "java/lang/String" "coder" "B" (.int (0 : Int32))) (Eb : Exa Z h0 b "java/lang/StringBuilder") (gb : n0 ≤ b) (Bv : Fld Z h0 b "java/lang/AbstractStringBuilder" "value" "[B" (.ref u)) (Bc : Fld Z h0 b "java/lang/AbstractStringBuilder" "coder" "B" (.int (0 : Int32))) (Bn : Fld Z h0 b "java/lang/AbstractStringBuilder" "count" "I" (.int (32 : Int32))) (Eu : Exa Z h0 u "[B") (gu : n0 ≤ u) (Au : Arv Z h0 u ku .byte (34 : Int32) [(.int z0), (.int z1), (.int z2), (.int z3), (.int z4), (.int z5), (.int z6), (.int z7), (.int z8), (.int z9), (.int z10), (.int z11), (.int z12), (.int z13), (.int z14), (.int z15), (.int z16), (.int z17), (.int z18), (.int z19), (.int z20), (.int z21), (.int z22), (.int z23), (.int z24), (.int z25), (.int z26), (.int z27), (.int z28), (.int z29), (.int z30), (.int z31), oZ, oZ] oZ) :
    Met l Z oM32 oC32 2 none (oR 4 1 32 116) n0 [] #[(.ref s), (.ref b)] h0 (fun r h => r = none ∧ Keep h0 h [s] ∧ ∃ v k, Fld Z h s "java/lang/String" "value" "[B" (.ref v) ∧ Fld Z h s "java/lang/String" "coder" "B" (.int (0 : Int32)) ∧ Arv Z h v k .byte (32 : Int32) [(.int z0), (.int z1), (.int z2), (.int z3), (.int z4), (.int z5), (.int z6), (.int z7), (.int z8), (.int z9), (.int z10), (.int z11), (.int z12), (.int z13), (.int z14), (.int z15), (.int z16), (.int z17), (.int z18), (.int z19), (.int z20), (.int z21), (.int z22), (.int z23), (.int z24), (.int z25), (.int z26), (.int z27), (.int z28), (.int z29), (.int z30), (.int z31)] oZ) := by
  refine Met.intro (Ls := #[.val (.ref s), .val (.ref b)]) (plainFor_of_name pn_m_coder) hw (fun _ => rfl) ?_
  intro w K0
  have K : oK32 w Z a0 := K0
  refine Rn.aloadN K (q := 1) d29_0 rfl rfl rfl ?_
  refine Rn.aloadN K (q := 2) d29_1 rfl rfl rfl ?_
  refine Rn.aconst_null K (q := 3) d29_2 rfl ?_
  refine Rn.spec K (q := 6) (W := 0) (y := oM31) (b := s) (argsL := [(.ref b), .null]) (rest := []) rfl (oT 168 rfl) (oT 169 rfl) (oT 170 rfl) (oT 2 rfl) (by decide) (m_isb32 l Z a0 hw n0 h0 s b u ku z0 z1 z2 z3 z4 z5 z6 z7 z8 z9 z10 z11 z12 z13 z14 z15 z16 z17 z18 z19 z20 z21 z22 z23 z24 z25 z26 z27 z28 z29 z30 z31 cst X0 SC hcs Es gs Fv Fc Eb gb Bv Bc Bn Eu gu Au) (by decide) (by decide) rfl (lenOf pd_19 rfl) rfl (oL rfl) d29_3 rfl (by decide) (by decide) ?_
  rintro _ h1 ⟨rfl, Q2⟩
  show Rn w l _ n0 _ 6 _ [] h1 1 32
  exact Rn.retV K rfl d29_6 (by decide) (by decide) ⟨rfl, Q2⟩
theorem m_tos32 (l : Launch) (Z : State) (a0 : Array Value) (hw : oH Z a0) (n0 : Nat) (h0 : Heap) (b u : Addr) (ku : ClassId) (z0 z1 z2 z3 z4 z5 z6 z7 z8 z9 z10 z11 z12 z13 z14 z15 z16 z17 z18 z19 z20 z21 z22 z23 z24 z25 z26 z27 z28 z29 z30 z31 : Int32) (cst : Int32) (X0 : Old Z n0 h0) (SC : oSC Z cst) (hcs : ¬ cst = 0) (Eb : Exa Z h0 b "java/lang/StringBuilder") (gb : n0 ≤ b) (Bv : Fld Z h0 b "java/lang/AbstractStringBuilder" "value" "[B" (.ref u)) (Bc : Fld Z h0 b "java/lang/AbstractStringBuilder" "coder" "B" (.int (0 : Int32))) (Bn : Fld Z h0 b "java/lang/AbstractStringBuilder" "count" "I" (.int (32 : Int32))) (Eu : Exa Z h0 u "[B") (gu : n0 ≤ u) (Au : Arv Z h0 u ku .byte (34 : Int32) [(.int z0), (.int z1), (.int z2), (.int z3), (.int z4), (.int z5), (.int z6), (.int z7), (.int z8), (.int z9), (.int z10), (.int z11), (.int z12), (.int z13), (.int z14), (.int z15), (.int z16), (.int z17), (.int z18), (.int z19), (.int z20), (.int z21), (.int z22), (.int z23), (.int z24), (.int z25), (.int z26), (.int z27), (.int z28), (.int z29), (.int z30), (.int z31), oZ, oZ] oZ) :
    Met l Z oM33 oC33 1 (some (.object "java/lang/String")) (oR 5 2 36 132) n0 [] #[(.ref b)] h0 (fun r h => ∃ s v k, r = some (.ref s) ∧ h0.size ≤ s ∧ Keep h0 h [] ∧ Exa Z h s "java/lang/String" ∧ Fld Z h s "java/lang/String" "coder" "B" (.int (0 : Int32)) ∧ Fld Z h s "java/lang/String" "value" "[B" (.ref v) ∧ Arv Z h v k .byte (32 : Int32) [(.int z0), (.int z1), (.int z2), (.int z3), (.int z4), (.int z5), (.int z6), (.int z7), (.int z8), (.int z9), (.int z10), (.int z11), (.int z12), (.int z13), (.int z14), (.int z15), (.int z16), (.int z17), (.int z18), (.int z19), (.int z20), (.int z21), (.int z22), (.int z23), (.int z24), (.int z25), (.int z26), (.int z27), (.int z28), (.int z29), (.int z30), (.int z31)] oZ) := by
  refine Met.intro (Ls := #[.val (.ref b)]) (plainFor_of_name pn_m_sbi) hw (fun _ => rfl) ?_
  intro w K0
  have K : oK33 w Z a0 := K0
  have K1 := Keep.refl h0 []
  refine Rn.newO K (q := 3) (oT 164 rfl) (oT 1 rfl) (oT 2 rfl) (by decide) (by decide) d28_0 rfl ?_
  intro b1 h2 gb1_ X3 A_b1 D4
  have ne_u_b1 : u ≠ b1 := fun e => absurd Eu.lt (by rw [e, gb1_]; exact Nat.lt_irrefl _)
  have ne_u_b1 : u ≠ b1 := fun e => absurd Eu.lt (by rw [e, gb1_]; exact Nat.lt_irrefl _)
  have g_b1 : n0 ≤ b1 := by rw [gb1_]; exact X0.1 ▸ X0.2.1
  have sz_b1 : h0.size ≤ b1 := by rw [gb1_]; exact K1.1
  have f5 := X0.ext X3
  have f6 := K1.ext X3
  have f7 := Eb.ext X3
  have f8 := Bv.ext X3
  have f9 := Bc.ext X3
  have f10 := Bn.ext X3
  have f11 := Eu.ext X3
  have f12 := Au.ext X3
  have f13 : Fld Z h2 b1 "java/lang/String" "coder" "B" (.int (0 : Int32)) := D4 (Or.inr (K.hw _ (oT 27 rfl))) (ty := .byte) (by decide)
  have f14 : Fld Z h2 b1 "java/lang/String" "value" "[B" .null := D4 (Or.inr (K.hw _ (oT 29 rfl))) (ty := (.array .byte)) (by decide)
  show Rn w l _ n0 _ 3 _ [(.ref b1)] h2 1 4
  refine Rn.dup K (q := 4) d28_3 rfl rfl ?_
  refine Rn.aloadN K (q := 5) d28_4 rfl rfl rfl ?_
  refine Rn.spec K (q := 8) (W := 1) (y := oM32) (b := b1) (argsL := [(.ref b)]) (rest := [(.ref b1)]) rfl (oT 165 rfl) (oT 166 rfl) (oT 167 rfl) (oT 2 rfl) (by decide) (m_isB32 l Z a0 hw n0 h2 b1 b u ku z0 z1 z2 z3 z4 z5 z6 z7 z8 z9 z10 z11 z12 z13 z14 z15 z16 z17 z18 z19 z20 z21 z22 z23 z24 z25 z26 z27 z28 z29 z30 z31 cst f5 SC hcs A_b1 g_b1 f14 f13 f7 gb f8 f9 f10 f11 gu f12) (by decide) (by decide) rfl (lenOf pd_20 rfl) rfl (oL rfl) d28_5 rfl (by decide) (by decide) ?_
  rintro _ h15 ⟨rfl, K16, v, k, F17, F18, A19⟩
  have f21 := f6.trans K16 (allS (Or.inr sz_b1) all0)
  have f28 := A_b1.keep K16
  show Rn w l _ n0 _ 8 _ [(.ref b1)] h15 2 36
  exact Rn.retA K (.object "java/lang/String") rfl rfl rfl d28_8 (by decide) (by decide) ⟨_, _, _, rfl, sz_b1, f21, f28, F18, F17, A19⟩
theorem m_leq32 (l : Launch) (Z : State) (a0 : Array Value) (hw : oH Z a0) (n0 : Nat) (h0 : Heap) (v w_ : Addr) (k kw : ClassId) (x0 x1 x2 x3 x4 x5 x6 x7 x8 x9 x10 x11 x12 x13 x14 x15 x16 x17 x18 x19 x20 x21 x22 x23 x24 x25 x26 x27 x28 x29 x30 x31 : Int32) (X0 : Old Z n0 h0) (Av : Arv Z h0 v k .byte (32 : Int32) [(.int x0), (.int x1), (.int x2), (.int x3), (.int x4), (.int x5), (.int x6), (.int x7), (.int x8), (.int x9), (.int x10), (.int x11), (.int x12), (.int x13), (.int x14), (.int x15), (.int x16), (.int x17), (.int x18), (.int x19), (.int x20), (.int x21), (.int x22), (.int x23), (.int x24), (.int x25), (.int x26), (.int x27), (.int x28), (.int x29), (.int x30), (.int x31)] oZ) (Aw : Arv Z h0 w_ kw .byte (32 : Int32) [(.int x0), (.int x1), (.int x2), (.int x3), (.int x4), (.int x5), (.int x6), (.int x7), (.int x8), (.int x9), (.int x10), (.int x11), (.int x12), (.int x13), (.int x14), (.int x15), (.int x16), (.int x17), (.int x18), (.int x19), (.int x20), (.int x21), (.int x22), (.int x23), (.int x24), (.int x25), (.int x26), (.int x27), (.int x28), (.int x29), (.int x30), (.int x31)] oZ) :
    Met l Z oM34 oC34 3 (some .boolean) (oR 0 0 0 0) n0 [] #[(.ref v), (.ref w_)] h0 (fun v h => v = some (.int (1 : Int32)) ∧ h0 = h) := by
  refine Met.intro (Ls := #[.val (.ref v), .val (.ref w_), .unset]) (plainFor_of_name pn_m_leq23) hw (fun _ => rfl) ?_
  intro w K0
  have K : oK34 w Z a0 := K0
  refine Rn.aloadN K (q := 1) d39_0 rfl rfl rfl ?_
  refine Rn.arraylength K (q := 2) Av d39_1 rfl ?_
  refine Rn.aloadN K (q := 3) d39_2 rfl rfl rfl ?_
  refine Rn.arraylength K (q := 4) Aw d39_3 rfl ?_
  refine Rn.icN K (q := 7) d39_4 (XT.ii_ne_f rfl) rfl ?_
  refine Rn.iconst K (q := 8) (0 : Int32) d39_7 rfl rfl ?_
  refine Rn.istoreN K (q := 9) (Ls' := #[.val (.ref v), .val (.ref w_), .val oZ]) d39_8 rfl rfl ?_
  refine Rn.iloadN K (q := 10) d39_9 rfl rfl ?_
  refine Rn.aloadN K (q := 11) d39_10 rfl rfl rfl ?_
  refine Rn.arraylength K (q := 12) Av d39_11 rfl ?_
  refine Rn.icN K (q := 15) d39_12 (XT.ii_ge_f (by decide)) rfl ?_
  refine Rn.aloadN K (q := 16) d39_15 rfl rfl rfl ?_
  refine Rn.iloadN K (q := 17) d39_16 rfl rfl ?_
  refine Rn.baloadB K (q := 18) (v := (.int x0)) Av (by decide) rfl d39_17 rfl ?_
  refine Rn.aloadN K (q := 19) d39_18 rfl rfl rfl ?_
  refine Rn.iloadN K (q := 20) d39_19 rfl rfl ?_
  refine Rn.baloadB K (q := 21) (v := (.int x0)) Aw (by decide) rfl d39_20 rfl ?_
  refine Rn.icY K (q := 26) d39_21 (XT.ii_eq_t rfl) (by decide) (by decide) ?_
  refine Rn.iinc K (q := 29) (Ls' := #[.val (.ref v), .val (.ref w_), .val (.int (1 : Int32))]) (1 : Int32) d39_26 rfl rfl rfl rfl ?_
  refine Rn.goto K (q := 9) d39_29 (by decide) (by decide) ?_
  refine Rn.iloadN K (q := 10) d39_9 rfl rfl ?_
  refine Rn.aloadN K (q := 11) d39_10 rfl rfl rfl ?_
  refine Rn.arraylength K (q := 12) Av d39_11 rfl ?_
  refine Rn.icN K (q := 15) d39_12 (XT.ii_ge_f (by decide)) rfl ?_
  refine Rn.aloadN K (q := 16) d39_15 rfl rfl rfl ?_
  refine Rn.iloadN K (q := 17) d39_16 rfl rfl ?_
  refine Rn.baloadB K (q := 18) (v := (.int x1)) Av (by decide) rfl d39_17 rfl ?_
  refine Rn.aloadN K (q := 19) d39_18 rfl rfl rfl ?_
  refine Rn.iloadN K (q := 20) d39_19 rfl rfl ?_
  refine Rn.baloadB K (q := 21) (v := (.int x1)) Aw (by decide) rfl d39_20 rfl ?_
  refine Rn.icY K (q := 26) d39_21 (XT.ii_eq_t rfl) (by decide) (by decide) ?_
  refine Rn.iinc K (q := 29) (Ls' := #[.val (.ref v), .val (.ref w_), .val (.int (2 : Int32))]) (1 : Int32) d39_26 rfl rfl rfl rfl ?_
  refine Rn.goto K (q := 9) d39_29 (by decide) (by decide) ?_
  refine Rn.iloadN K (q := 10) d39_9 rfl rfl ?_
  refine Rn.aloadN K (q := 11) d39_10 rfl rfl rfl ?_
  refine Rn.arraylength K (q := 12) Av d39_11 rfl ?_
  refine Rn.icN K (q := 15) d39_12 (XT.ii_ge_f (by decide)) rfl ?_
  refine Rn.aloadN K (q := 16) d39_15 rfl rfl rfl ?_
  refine Rn.iloadN K (q := 17) d39_16 rfl rfl ?_
  refine Rn.baloadB K (q := 18) (v := (.int x2)) Av (by decide) rfl d39_17 rfl ?_
  refine Rn.aloadN K (q := 19) d39_18 rfl rfl rfl ?_
  refine Rn.iloadN K (q := 20) d39_19 rfl rfl ?_
  refine Rn.baloadB K (q := 21) (v := (.int x2)) Aw (by decide) rfl d39_20 rfl ?_
  refine Rn.icY K (q := 26) d39_21 (XT.ii_eq_t rfl) (by decide) (by decide) ?_
  refine Rn.iinc K (q := 29) (Ls' := #[.val (.ref v), .val (.ref w_), .val (.int (3 : Int32))]) (1 : Int32) d39_26 rfl rfl rfl rfl ?_
  refine Rn.goto K (q := 9) d39_29 (by decide) (by decide) ?_
  refine Rn.iloadN K (q := 10) d39_9 rfl rfl ?_
  refine Rn.aloadN K (q := 11) d39_10 rfl rfl rfl ?_
  refine Rn.arraylength K (q := 12) Av d39_11 rfl ?_
  refine Rn.icN K (q := 15) d39_12 (XT.ii_ge_f (by decide)) rfl ?_
  refine Rn.aloadN K (q := 16) d39_15 rfl rfl rfl ?_
  refine Rn.iloadN K (q := 17) d39_16 rfl rfl ?_
  refine Rn.baloadB K (q := 18) (v := (.int x3)) Av (by decide) rfl d39_17 rfl ?_
  refine Rn.aloadN K (q := 19) d39_18 rfl rfl rfl ?_
  refine Rn.iloadN K (q := 20) d39_19 rfl rfl ?_
  refine Rn.baloadB K (q := 21) (v := (.int x3)) Aw (by decide) rfl d39_20 rfl ?_
  refine Rn.icY K (q := 26) d39_21 (XT.ii_eq_t rfl) (by decide) (by decide) ?_
  refine Rn.iinc K (q := 29) (Ls' := #[.val (.ref v), .val (.ref w_), .val (.int (4 : Int32))]) (1 : Int32) d39_26 rfl rfl rfl rfl ?_
  refine Rn.goto K (q := 9) d39_29 (by decide) (by decide) ?_
  refine Rn.iloadN K (q := 10) d39_9 rfl rfl ?_
  refine Rn.aloadN K (q := 11) d39_10 rfl rfl rfl ?_
  refine Rn.arraylength K (q := 12) Av d39_11 rfl ?_
  refine Rn.icN K (q := 15) d39_12 (XT.ii_ge_f (by decide)) rfl ?_
  refine Rn.aloadN K (q := 16) d39_15 rfl rfl rfl ?_
  refine Rn.iloadN K (q := 17) d39_16 rfl rfl ?_
  refine Rn.baloadB K (q := 18) (v := (.int x4)) Av (by decide) rfl d39_17 rfl ?_
  refine Rn.aloadN K (q := 19) d39_18 rfl rfl rfl ?_
  refine Rn.iloadN K (q := 20) d39_19 rfl rfl ?_
  refine Rn.baloadB K (q := 21) (v := (.int x4)) Aw (by decide) rfl d39_20 rfl ?_
  refine Rn.icY K (q := 26) d39_21 (XT.ii_eq_t rfl) (by decide) (by decide) ?_
  refine Rn.iinc K (q := 29) (Ls' := #[.val (.ref v), .val (.ref w_), .val (.int (5 : Int32))]) (1 : Int32) d39_26 rfl rfl rfl rfl ?_
  refine Rn.goto K (q := 9) d39_29 (by decide) (by decide) ?_
  refine Rn.iloadN K (q := 10) d39_9 rfl rfl ?_
  refine Rn.aloadN K (q := 11) d39_10 rfl rfl rfl ?_
  refine Rn.arraylength K (q := 12) Av d39_11 rfl ?_
  refine Rn.icN K (q := 15) d39_12 (XT.ii_ge_f (by decide)) rfl ?_
  refine Rn.aloadN K (q := 16) d39_15 rfl rfl rfl ?_
  refine Rn.iloadN K (q := 17) d39_16 rfl rfl ?_
  refine Rn.baloadB K (q := 18) (v := (.int x5)) Av (by decide) rfl d39_17 rfl ?_
  refine Rn.aloadN K (q := 19) d39_18 rfl rfl rfl ?_
  refine Rn.iloadN K (q := 20) d39_19 rfl rfl ?_
  refine Rn.baloadB K (q := 21) (v := (.int x5)) Aw (by decide) rfl d39_20 rfl ?_
  refine Rn.icY K (q := 26) d39_21 (XT.ii_eq_t rfl) (by decide) (by decide) ?_
  refine Rn.iinc K (q := 29) (Ls' := #[.val (.ref v), .val (.ref w_), .val (.int (6 : Int32))]) (1 : Int32) d39_26 rfl rfl rfl rfl ?_
  refine Rn.goto K (q := 9) d39_29 (by decide) (by decide) ?_
  refine Rn.iloadN K (q := 10) d39_9 rfl rfl ?_
  refine Rn.aloadN K (q := 11) d39_10 rfl rfl rfl ?_
  refine Rn.arraylength K (q := 12) Av d39_11 rfl ?_
  refine Rn.icN K (q := 15) d39_12 (XT.ii_ge_f (by decide)) rfl ?_
  refine Rn.aloadN K (q := 16) d39_15 rfl rfl rfl ?_
  refine Rn.iloadN K (q := 17) d39_16 rfl rfl ?_
  refine Rn.baloadB K (q := 18) (v := (.int x6)) Av (by decide) rfl d39_17 rfl ?_
  refine Rn.aloadN K (q := 19) d39_18 rfl rfl rfl ?_
  refine Rn.iloadN K (q := 20) d39_19 rfl rfl ?_
  refine Rn.baloadB K (q := 21) (v := (.int x6)) Aw (by decide) rfl d39_20 rfl ?_
  refine Rn.icY K (q := 26) d39_21 (XT.ii_eq_t rfl) (by decide) (by decide) ?_
  refine Rn.iinc K (q := 29) (Ls' := #[.val (.ref v), .val (.ref w_), .val (.int (7 : Int32))]) (1 : Int32) d39_26 rfl rfl rfl rfl ?_
  refine Rn.goto K (q := 9) d39_29 (by decide) (by decide) ?_
  refine Rn.iloadN K (q := 10) d39_9 rfl rfl ?_
  refine Rn.aloadN K (q := 11) d39_10 rfl rfl rfl ?_
  refine Rn.arraylength K (q := 12) Av d39_11 rfl ?_
  refine Rn.icN K (q := 15) d39_12 (XT.ii_ge_f (by decide)) rfl ?_
  refine Rn.aloadN K (q := 16) d39_15 rfl rfl rfl ?_
  refine Rn.iloadN K (q := 17) d39_16 rfl rfl ?_
  refine Rn.baloadB K (q := 18) (v := (.int x7)) Av (by decide) rfl d39_17 rfl ?_
  refine Rn.aloadN K (q := 19) d39_18 rfl rfl rfl ?_
  refine Rn.iloadN K (q := 20) d39_19 rfl rfl ?_
  refine Rn.baloadB K (q := 21) (v := (.int x7)) Aw (by decide) rfl d39_20 rfl ?_
  refine Rn.icY K (q := 26) d39_21 (XT.ii_eq_t rfl) (by decide) (by decide) ?_
  refine Rn.iinc K (q := 29) (Ls' := #[.val (.ref v), .val (.ref w_), .val (.int (8 : Int32))]) (1 : Int32) d39_26 rfl rfl rfl rfl ?_
  refine Rn.goto K (q := 9) d39_29 (by decide) (by decide) ?_
  refine Rn.iloadN K (q := 10) d39_9 rfl rfl ?_
  refine Rn.aloadN K (q := 11) d39_10 rfl rfl rfl ?_
  refine Rn.arraylength K (q := 12) Av d39_11 rfl ?_
  refine Rn.icN K (q := 15) d39_12 (XT.ii_ge_f (by decide)) rfl ?_
  refine Rn.aloadN K (q := 16) d39_15 rfl rfl rfl ?_
  refine Rn.iloadN K (q := 17) d39_16 rfl rfl ?_
  refine Rn.baloadB K (q := 18) (v := (.int x8)) Av (by decide) rfl d39_17 rfl ?_
  refine Rn.aloadN K (q := 19) d39_18 rfl rfl rfl ?_
  refine Rn.iloadN K (q := 20) d39_19 rfl rfl ?_
  refine Rn.baloadB K (q := 21) (v := (.int x8)) Aw (by decide) rfl d39_20 rfl ?_
  refine Rn.icY K (q := 26) d39_21 (XT.ii_eq_t rfl) (by decide) (by decide) ?_
  refine Rn.iinc K (q := 29) (Ls' := #[.val (.ref v), .val (.ref w_), .val (.int (9 : Int32))]) (1 : Int32) d39_26 rfl rfl rfl rfl ?_
  refine Rn.goto K (q := 9) d39_29 (by decide) (by decide) ?_
  refine Rn.iloadN K (q := 10) d39_9 rfl rfl ?_
  refine Rn.aloadN K (q := 11) d39_10 rfl rfl rfl ?_
  refine Rn.arraylength K (q := 12) Av d39_11 rfl ?_
  refine Rn.icN K (q := 15) d39_12 (XT.ii_ge_f (by decide)) rfl ?_
  refine Rn.aloadN K (q := 16) d39_15 rfl rfl rfl ?_
  refine Rn.iloadN K (q := 17) d39_16 rfl rfl ?_
  refine Rn.baloadB K (q := 18) (v := (.int x9)) Av (by decide) rfl d39_17 rfl ?_
  refine Rn.aloadN K (q := 19) d39_18 rfl rfl rfl ?_
  refine Rn.iloadN K (q := 20) d39_19 rfl rfl ?_
  refine Rn.baloadB K (q := 21) (v := (.int x9)) Aw (by decide) rfl d39_20 rfl ?_
  refine Rn.icY K (q := 26) d39_21 (XT.ii_eq_t rfl) (by decide) (by decide) ?_
  refine Rn.iinc K (q := 29) (Ls' := #[.val (.ref v), .val (.ref w_), .val (.int (10 : Int32))]) (1 : Int32) d39_26 rfl rfl rfl rfl ?_
  refine Rn.goto K (q := 9) d39_29 (by decide) (by decide) ?_
  refine Rn.iloadN K (q := 10) d39_9 rfl rfl ?_
  refine Rn.aloadN K (q := 11) d39_10 rfl rfl rfl ?_
  refine Rn.arraylength K (q := 12) Av d39_11 rfl ?_
  refine Rn.icN K (q := 15) d39_12 (XT.ii_ge_f (by decide)) rfl ?_
  refine Rn.aloadN K (q := 16) d39_15 rfl rfl rfl ?_
  refine Rn.iloadN K (q := 17) d39_16 rfl rfl ?_
  refine Rn.baloadB K (q := 18) (v := (.int x10)) Av (by decide) rfl d39_17 rfl ?_
  refine Rn.aloadN K (q := 19) d39_18 rfl rfl rfl ?_
  refine Rn.iloadN K (q := 20) d39_19 rfl rfl ?_
  refine Rn.baloadB K (q := 21) (v := (.int x10)) Aw (by decide) rfl d39_20 rfl ?_
  refine Rn.icY K (q := 26) d39_21 (XT.ii_eq_t rfl) (by decide) (by decide) ?_
  refine Rn.iinc K (q := 29) (Ls' := #[.val (.ref v), .val (.ref w_), .val (.int (11 : Int32))]) (1 : Int32) d39_26 rfl rfl rfl rfl ?_
  refine Rn.goto K (q := 9) d39_29 (by decide) (by decide) ?_
  refine Rn.iloadN K (q := 10) d39_9 rfl rfl ?_
  refine Rn.aloadN K (q := 11) d39_10 rfl rfl rfl ?_
  refine Rn.arraylength K (q := 12) Av d39_11 rfl ?_
  refine Rn.icN K (q := 15) d39_12 (XT.ii_ge_f (by decide)) rfl ?_
  refine Rn.aloadN K (q := 16) d39_15 rfl rfl rfl ?_
  refine Rn.iloadN K (q := 17) d39_16 rfl rfl ?_
  refine Rn.baloadB K (q := 18) (v := (.int x11)) Av (by decide) rfl d39_17 rfl ?_
  refine Rn.aloadN K (q := 19) d39_18 rfl rfl rfl ?_
  refine Rn.iloadN K (q := 20) d39_19 rfl rfl ?_
  refine Rn.baloadB K (q := 21) (v := (.int x11)) Aw (by decide) rfl d39_20 rfl ?_
  refine Rn.icY K (q := 26) d39_21 (XT.ii_eq_t rfl) (by decide) (by decide) ?_
  refine Rn.iinc K (q := 29) (Ls' := #[.val (.ref v), .val (.ref w_), .val (.int (12 : Int32))]) (1 : Int32) d39_26 rfl rfl rfl rfl ?_
  refine Rn.goto K (q := 9) d39_29 (by decide) (by decide) ?_
  refine Rn.iloadN K (q := 10) d39_9 rfl rfl ?_
  refine Rn.aloadN K (q := 11) d39_10 rfl rfl rfl ?_
  refine Rn.arraylength K (q := 12) Av d39_11 rfl ?_
  refine Rn.icN K (q := 15) d39_12 (XT.ii_ge_f (by decide)) rfl ?_
  refine Rn.aloadN K (q := 16) d39_15 rfl rfl rfl ?_
  refine Rn.iloadN K (q := 17) d39_16 rfl rfl ?_
  refine Rn.baloadB K (q := 18) (v := (.int x12)) Av (by decide) rfl d39_17 rfl ?_
  refine Rn.aloadN K (q := 19) d39_18 rfl rfl rfl ?_
  refine Rn.iloadN K (q := 20) d39_19 rfl rfl ?_
  refine Rn.baloadB K (q := 21) (v := (.int x12)) Aw (by decide) rfl d39_20 rfl ?_
  refine Rn.icY K (q := 26) d39_21 (XT.ii_eq_t rfl) (by decide) (by decide) ?_
  refine Rn.iinc K (q := 29) (Ls' := #[.val (.ref v), .val (.ref w_), .val (.int (13 : Int32))]) (1 : Int32) d39_26 rfl rfl rfl rfl ?_
  refine Rn.goto K (q := 9) d39_29 (by decide) (by decide) ?_
  refine Rn.iloadN K (q := 10) d39_9 rfl rfl ?_
  refine Rn.aloadN K (q := 11) d39_10 rfl rfl rfl ?_
  refine Rn.arraylength K (q := 12) Av d39_11 rfl ?_
  refine Rn.icN K (q := 15) d39_12 (XT.ii_ge_f (by decide)) rfl ?_
  refine Rn.aloadN K (q := 16) d39_15 rfl rfl rfl ?_
  refine Rn.iloadN K (q := 17) d39_16 rfl rfl ?_
  refine Rn.baloadB K (q := 18) (v := (.int x13)) Av (by decide) rfl d39_17 rfl ?_
  refine Rn.aloadN K (q := 19) d39_18 rfl rfl rfl ?_
  refine Rn.iloadN K (q := 20) d39_19 rfl rfl ?_
  refine Rn.baloadB K (q := 21) (v := (.int x13)) Aw (by decide) rfl d39_20 rfl ?_
  refine Rn.icY K (q := 26) d39_21 (XT.ii_eq_t rfl) (by decide) (by decide) ?_
  refine Rn.iinc K (q := 29) (Ls' := #[.val (.ref v), .val (.ref w_), .val (.int (14 : Int32))]) (1 : Int32) d39_26 rfl rfl rfl rfl ?_
  refine Rn.goto K (q := 9) d39_29 (by decide) (by decide) ?_
  refine Rn.iloadN K (q := 10) d39_9 rfl rfl ?_
  refine Rn.aloadN K (q := 11) d39_10 rfl rfl rfl ?_
  refine Rn.arraylength K (q := 12) Av d39_11 rfl ?_
  refine Rn.icN K (q := 15) d39_12 (XT.ii_ge_f (by decide)) rfl ?_
  refine Rn.aloadN K (q := 16) d39_15 rfl rfl rfl ?_
  refine Rn.iloadN K (q := 17) d39_16 rfl rfl ?_
  refine Rn.baloadB K (q := 18) (v := (.int x14)) Av (by decide) rfl d39_17 rfl ?_
  refine Rn.aloadN K (q := 19) d39_18 rfl rfl rfl ?_
  refine Rn.iloadN K (q := 20) d39_19 rfl rfl ?_
  refine Rn.baloadB K (q := 21) (v := (.int x14)) Aw (by decide) rfl d39_20 rfl ?_
  refine Rn.icY K (q := 26) d39_21 (XT.ii_eq_t rfl) (by decide) (by decide) ?_
  refine Rn.iinc K (q := 29) (Ls' := #[.val (.ref v), .val (.ref w_), .val (.int (15 : Int32))]) (1 : Int32) d39_26 rfl rfl rfl rfl ?_
  refine Rn.goto K (q := 9) d39_29 (by decide) (by decide) ?_
  refine Rn.iloadN K (q := 10) d39_9 rfl rfl ?_
  refine Rn.aloadN K (q := 11) d39_10 rfl rfl rfl ?_
  refine Rn.arraylength K (q := 12) Av d39_11 rfl ?_
  refine Rn.icN K (q := 15) d39_12 (XT.ii_ge_f (by decide)) rfl ?_
  refine Rn.aloadN K (q := 16) d39_15 rfl rfl rfl ?_
  refine Rn.iloadN K (q := 17) d39_16 rfl rfl ?_
  refine Rn.baloadB K (q := 18) (v := (.int x15)) Av (by decide) rfl d39_17 rfl ?_
  refine Rn.aloadN K (q := 19) d39_18 rfl rfl rfl ?_
  refine Rn.iloadN K (q := 20) d39_19 rfl rfl ?_
  refine Rn.baloadB K (q := 21) (v := (.int x15)) Aw (by decide) rfl d39_20 rfl ?_
  refine Rn.icY K (q := 26) d39_21 (XT.ii_eq_t rfl) (by decide) (by decide) ?_
  refine Rn.iinc K (q := 29) (Ls' := #[.val (.ref v), .val (.ref w_), .val (.int (16 : Int32))]) (1 : Int32) d39_26 rfl rfl rfl rfl ?_
  refine Rn.goto K (q := 9) d39_29 (by decide) (by decide) ?_
  refine Rn.iloadN K (q := 10) d39_9 rfl rfl ?_
  refine Rn.aloadN K (q := 11) d39_10 rfl rfl rfl ?_
  refine Rn.arraylength K (q := 12) Av d39_11 rfl ?_
  refine Rn.icN K (q := 15) d39_12 (XT.ii_ge_f (by decide)) rfl ?_
  refine Rn.aloadN K (q := 16) d39_15 rfl rfl rfl ?_
  refine Rn.iloadN K (q := 17) d39_16 rfl rfl ?_
  refine Rn.baloadB K (q := 18) (v := (.int x16)) Av (by decide) rfl d39_17 rfl ?_
  refine Rn.aloadN K (q := 19) d39_18 rfl rfl rfl ?_
  refine Rn.iloadN K (q := 20) d39_19 rfl rfl ?_
  refine Rn.baloadB K (q := 21) (v := (.int x16)) Aw (by decide) rfl d39_20 rfl ?_
  refine Rn.icY K (q := 26) d39_21 (XT.ii_eq_t rfl) (by decide) (by decide) ?_
  refine Rn.iinc K (q := 29) (Ls' := #[.val (.ref v), .val (.ref w_), .val (.int (17 : Int32))]) (1 : Int32) d39_26 rfl rfl rfl rfl ?_
  refine Rn.goto K (q := 9) d39_29 (by decide) (by decide) ?_
  refine Rn.iloadN K (q := 10) d39_9 rfl rfl ?_
  refine Rn.aloadN K (q := 11) d39_10 rfl rfl rfl ?_
  refine Rn.arraylength K (q := 12) Av d39_11 rfl ?_
  refine Rn.icN K (q := 15) d39_12 (XT.ii_ge_f (by decide)) rfl ?_
  refine Rn.aloadN K (q := 16) d39_15 rfl rfl rfl ?_
  refine Rn.iloadN K (q := 17) d39_16 rfl rfl ?_
  refine Rn.baloadB K (q := 18) (v := (.int x17)) Av (by decide) rfl d39_17 rfl ?_
  refine Rn.aloadN K (q := 19) d39_18 rfl rfl rfl ?_
  refine Rn.iloadN K (q := 20) d39_19 rfl rfl ?_
  refine Rn.baloadB K (q := 21) (v := (.int x17)) Aw (by decide) rfl d39_20 rfl ?_
  refine Rn.icY K (q := 26) d39_21 (XT.ii_eq_t rfl) (by decide) (by decide) ?_
  refine Rn.iinc K (q := 29) (Ls' := #[.val (.ref v), .val (.ref w_), .val (.int (18 : Int32))]) (1 : Int32) d39_26 rfl rfl rfl rfl ?_
  refine Rn.goto K (q := 9) d39_29 (by decide) (by decide) ?_
  refine Rn.iloadN K (q := 10) d39_9 rfl rfl ?_
  refine Rn.aloadN K (q := 11) d39_10 rfl rfl rfl ?_
  refine Rn.arraylength K (q := 12) Av d39_11 rfl ?_
  refine Rn.icN K (q := 15) d39_12 (XT.ii_ge_f (by decide)) rfl ?_
  refine Rn.aloadN K (q := 16) d39_15 rfl rfl rfl ?_
  refine Rn.iloadN K (q := 17) d39_16 rfl rfl ?_
  refine Rn.baloadB K (q := 18) (v := (.int x18)) Av (by decide) rfl d39_17 rfl ?_
  refine Rn.aloadN K (q := 19) d39_18 rfl rfl rfl ?_
  refine Rn.iloadN K (q := 20) d39_19 rfl rfl ?_
  refine Rn.baloadB K (q := 21) (v := (.int x18)) Aw (by decide) rfl d39_20 rfl ?_
  refine Rn.icY K (q := 26) d39_21 (XT.ii_eq_t rfl) (by decide) (by decide) ?_
  refine Rn.iinc K (q := 29) (Ls' := #[.val (.ref v), .val (.ref w_), .val (.int (19 : Int32))]) (1 : Int32) d39_26 rfl rfl rfl rfl ?_
  refine Rn.goto K (q := 9) d39_29 (by decide) (by decide) ?_
  refine Rn.iloadN K (q := 10) d39_9 rfl rfl ?_
  refine Rn.aloadN K (q := 11) d39_10 rfl rfl rfl ?_
  refine Rn.arraylength K (q := 12) Av d39_11 rfl ?_
  refine Rn.icN K (q := 15) d39_12 (XT.ii_ge_f (by decide)) rfl ?_
  refine Rn.aloadN K (q := 16) d39_15 rfl rfl rfl ?_
  refine Rn.iloadN K (q := 17) d39_16 rfl rfl ?_
  refine Rn.baloadB K (q := 18) (v := (.int x19)) Av (by decide) rfl d39_17 rfl ?_
  refine Rn.aloadN K (q := 19) d39_18 rfl rfl rfl ?_
  refine Rn.iloadN K (q := 20) d39_19 rfl rfl ?_
  refine Rn.baloadB K (q := 21) (v := (.int x19)) Aw (by decide) rfl d39_20 rfl ?_
  refine Rn.icY K (q := 26) d39_21 (XT.ii_eq_t rfl) (by decide) (by decide) ?_
  refine Rn.iinc K (q := 29) (Ls' := #[.val (.ref v), .val (.ref w_), .val (.int (20 : Int32))]) (1 : Int32) d39_26 rfl rfl rfl rfl ?_
  refine Rn.goto K (q := 9) d39_29 (by decide) (by decide) ?_
  refine Rn.iloadN K (q := 10) d39_9 rfl rfl ?_
  refine Rn.aloadN K (q := 11) d39_10 rfl rfl rfl ?_
  refine Rn.arraylength K (q := 12) Av d39_11 rfl ?_
  refine Rn.icN K (q := 15) d39_12 (XT.ii_ge_f (by decide)) rfl ?_
  refine Rn.aloadN K (q := 16) d39_15 rfl rfl rfl ?_
  refine Rn.iloadN K (q := 17) d39_16 rfl rfl ?_
  refine Rn.baloadB K (q := 18) (v := (.int x20)) Av (by decide) rfl d39_17 rfl ?_
  refine Rn.aloadN K (q := 19) d39_18 rfl rfl rfl ?_
  refine Rn.iloadN K (q := 20) d39_19 rfl rfl ?_
  refine Rn.baloadB K (q := 21) (v := (.int x20)) Aw (by decide) rfl d39_20 rfl ?_
  refine Rn.icY K (q := 26) d39_21 (XT.ii_eq_t rfl) (by decide) (by decide) ?_
  refine Rn.iinc K (q := 29) (Ls' := #[.val (.ref v), .val (.ref w_), .val (.int (21 : Int32))]) (1 : Int32) d39_26 rfl rfl rfl rfl ?_
  refine Rn.goto K (q := 9) d39_29 (by decide) (by decide) ?_
  refine Rn.iloadN K (q := 10) d39_9 rfl rfl ?_
  refine Rn.aloadN K (q := 11) d39_10 rfl rfl rfl ?_
  refine Rn.arraylength K (q := 12) Av d39_11 rfl ?_
  refine Rn.icN K (q := 15) d39_12 (XT.ii_ge_f (by decide)) rfl ?_
  refine Rn.aloadN K (q := 16) d39_15 rfl rfl rfl ?_
  refine Rn.iloadN K (q := 17) d39_16 rfl rfl ?_
  refine Rn.baloadB K (q := 18) (v := (.int x21)) Av (by decide) rfl d39_17 rfl ?_
  refine Rn.aloadN K (q := 19) d39_18 rfl rfl rfl ?_
  refine Rn.iloadN K (q := 20) d39_19 rfl rfl ?_
  refine Rn.baloadB K (q := 21) (v := (.int x21)) Aw (by decide) rfl d39_20 rfl ?_
  refine Rn.icY K (q := 26) d39_21 (XT.ii_eq_t rfl) (by decide) (by decide) ?_
  refine Rn.iinc K (q := 29) (Ls' := #[.val (.ref v), .val (.ref w_), .val (.int (22 : Int32))]) (1 : Int32) d39_26 rfl rfl rfl rfl ?_
  refine Rn.goto K (q := 9) d39_29 (by decide) (by decide) ?_
  refine Rn.iloadN K (q := 10) d39_9 rfl rfl ?_
  refine Rn.aloadN K (q := 11) d39_10 rfl rfl rfl ?_
  refine Rn.arraylength K (q := 12) Av d39_11 rfl ?_
  refine Rn.icN K (q := 15) d39_12 (XT.ii_ge_f (by decide)) rfl ?_
  refine Rn.aloadN K (q := 16) d39_15 rfl rfl rfl ?_
  refine Rn.iloadN K (q := 17) d39_16 rfl rfl ?_
  refine Rn.baloadB K (q := 18) (v := (.int x22)) Av (by decide) rfl d39_17 rfl ?_
  refine Rn.aloadN K (q := 19) d39_18 rfl rfl rfl ?_
  refine Rn.iloadN K (q := 20) d39_19 rfl rfl ?_
  refine Rn.baloadB K (q := 21) (v := (.int x22)) Aw (by decide) rfl d39_20 rfl ?_
  refine Rn.icY K (q := 26) d39_21 (XT.ii_eq_t rfl) (by decide) (by decide) ?_
  refine Rn.iinc K (q := 29) (Ls' := #[.val (.ref v), .val (.ref w_), .val (.int (23 : Int32))]) (1 : Int32) d39_26 rfl rfl rfl rfl ?_
  refine Rn.goto K (q := 9) d39_29 (by decide) (by decide) ?_
  refine Rn.iloadN K (q := 10) d39_9 rfl rfl ?_
  refine Rn.aloadN K (q := 11) d39_10 rfl rfl rfl ?_
  refine Rn.arraylength K (q := 12) Av d39_11 rfl ?_
  refine Rn.icN K (q := 15) d39_12 (XT.ii_ge_f (by decide)) rfl ?_
  refine Rn.aloadN K (q := 16) d39_15 rfl rfl rfl ?_
  refine Rn.iloadN K (q := 17) d39_16 rfl rfl ?_
  refine Rn.baloadB K (q := 18) (v := (.int x23)) Av (by decide) rfl d39_17 rfl ?_
  refine Rn.aloadN K (q := 19) d39_18 rfl rfl rfl ?_
  refine Rn.iloadN K (q := 20) d39_19 rfl rfl ?_
  refine Rn.baloadB K (q := 21) (v := (.int x23)) Aw (by decide) rfl d39_20 rfl ?_
  refine Rn.icY K (q := 26) d39_21 (XT.ii_eq_t rfl) (by decide) (by decide) ?_
  refine Rn.iinc K (q := 29) (Ls' := #[.val (.ref v), .val (.ref w_), .val (.int (24 : Int32))]) (1 : Int32) d39_26 rfl rfl rfl rfl ?_
  refine Rn.goto K (q := 9) d39_29 (by decide) (by decide) ?_
  refine Rn.iloadN K (q := 10) d39_9 rfl rfl ?_
  refine Rn.aloadN K (q := 11) d39_10 rfl rfl rfl ?_
  refine Rn.arraylength K (q := 12) Av d39_11 rfl ?_
  refine Rn.icN K (q := 15) d39_12 (XT.ii_ge_f (by decide)) rfl ?_
  refine Rn.aloadN K (q := 16) d39_15 rfl rfl rfl ?_
  refine Rn.iloadN K (q := 17) d39_16 rfl rfl ?_
  refine Rn.baloadB K (q := 18) (v := (.int x24)) Av (by decide) rfl d39_17 rfl ?_
  refine Rn.aloadN K (q := 19) d39_18 rfl rfl rfl ?_
  refine Rn.iloadN K (q := 20) d39_19 rfl rfl ?_
  refine Rn.baloadB K (q := 21) (v := (.int x24)) Aw (by decide) rfl d39_20 rfl ?_
  refine Rn.icY K (q := 26) d39_21 (XT.ii_eq_t rfl) (by decide) (by decide) ?_
  refine Rn.iinc K (q := 29) (Ls' := #[.val (.ref v), .val (.ref w_), .val (.int (25 : Int32))]) (1 : Int32) d39_26 rfl rfl rfl rfl ?_
  refine Rn.goto K (q := 9) d39_29 (by decide) (by decide) ?_
  refine Rn.iloadN K (q := 10) d39_9 rfl rfl ?_
  refine Rn.aloadN K (q := 11) d39_10 rfl rfl rfl ?_
  refine Rn.arraylength K (q := 12) Av d39_11 rfl ?_
  refine Rn.icN K (q := 15) d39_12 (XT.ii_ge_f (by decide)) rfl ?_
  refine Rn.aloadN K (q := 16) d39_15 rfl rfl rfl ?_
  refine Rn.iloadN K (q := 17) d39_16 rfl rfl ?_
  refine Rn.baloadB K (q := 18) (v := (.int x25)) Av (by decide) rfl d39_17 rfl ?_
  refine Rn.aloadN K (q := 19) d39_18 rfl rfl rfl ?_
  refine Rn.iloadN K (q := 20) d39_19 rfl rfl ?_
  refine Rn.baloadB K (q := 21) (v := (.int x25)) Aw (by decide) rfl d39_20 rfl ?_
  refine Rn.icY K (q := 26) d39_21 (XT.ii_eq_t rfl) (by decide) (by decide) ?_
  refine Rn.iinc K (q := 29) (Ls' := #[.val (.ref v), .val (.ref w_), .val (.int (26 : Int32))]) (1 : Int32) d39_26 rfl rfl rfl rfl ?_
  refine Rn.goto K (q := 9) d39_29 (by decide) (by decide) ?_
  refine Rn.iloadN K (q := 10) d39_9 rfl rfl ?_
  refine Rn.aloadN K (q := 11) d39_10 rfl rfl rfl ?_
  refine Rn.arraylength K (q := 12) Av d39_11 rfl ?_
  refine Rn.icN K (q := 15) d39_12 (XT.ii_ge_f (by decide)) rfl ?_
  refine Rn.aloadN K (q := 16) d39_15 rfl rfl rfl ?_
  refine Rn.iloadN K (q := 17) d39_16 rfl rfl ?_
  refine Rn.baloadB K (q := 18) (v := (.int x26)) Av (by decide) rfl d39_17 rfl ?_
  refine Rn.aloadN K (q := 19) d39_18 rfl rfl rfl ?_
  refine Rn.iloadN K (q := 20) d39_19 rfl rfl ?_
  refine Rn.baloadB K (q := 21) (v := (.int x26)) Aw (by decide) rfl d39_20 rfl ?_
  refine Rn.icY K (q := 26) d39_21 (XT.ii_eq_t rfl) (by decide) (by decide) ?_
  refine Rn.iinc K (q := 29) (Ls' := #[.val (.ref v), .val (.ref w_), .val (.int (27 : Int32))]) (1 : Int32) d39_26 rfl rfl rfl rfl ?_
  refine Rn.goto K (q := 9) d39_29 (by decide) (by decide) ?_
  refine Rn.iloadN K (q := 10) d39_9 rfl rfl ?_
  refine Rn.aloadN K (q := 11) d39_10 rfl rfl rfl ?_
  refine Rn.arraylength K (q := 12) Av d39_11 rfl ?_
  refine Rn.icN K (q := 15) d39_12 (XT.ii_ge_f (by decide)) rfl ?_
  refine Rn.aloadN K (q := 16) d39_15 rfl rfl rfl ?_
  refine Rn.iloadN K (q := 17) d39_16 rfl rfl ?_
  refine Rn.baloadB K (q := 18) (v := (.int x27)) Av (by decide) rfl d39_17 rfl ?_
  refine Rn.aloadN K (q := 19) d39_18 rfl rfl rfl ?_
  refine Rn.iloadN K (q := 20) d39_19 rfl rfl ?_
  refine Rn.baloadB K (q := 21) (v := (.int x27)) Aw (by decide) rfl d39_20 rfl ?_
  refine Rn.icY K (q := 26) d39_21 (XT.ii_eq_t rfl) (by decide) (by decide) ?_
  refine Rn.iinc K (q := 29) (Ls' := #[.val (.ref v), .val (.ref w_), .val (.int (28 : Int32))]) (1 : Int32) d39_26 rfl rfl rfl rfl ?_
  refine Rn.goto K (q := 9) d39_29 (by decide) (by decide) ?_
  refine Rn.iloadN K (q := 10) d39_9 rfl rfl ?_
  refine Rn.aloadN K (q := 11) d39_10 rfl rfl rfl ?_
  refine Rn.arraylength K (q := 12) Av d39_11 rfl ?_
  refine Rn.icN K (q := 15) d39_12 (XT.ii_ge_f (by decide)) rfl ?_
  refine Rn.aloadN K (q := 16) d39_15 rfl rfl rfl ?_
  refine Rn.iloadN K (q := 17) d39_16 rfl rfl ?_
  refine Rn.baloadB K (q := 18) (v := (.int x28)) Av (by decide) rfl d39_17 rfl ?_
  refine Rn.aloadN K (q := 19) d39_18 rfl rfl rfl ?_
  refine Rn.iloadN K (q := 20) d39_19 rfl rfl ?_
  refine Rn.baloadB K (q := 21) (v := (.int x28)) Aw (by decide) rfl d39_20 rfl ?_
  refine Rn.icY K (q := 26) d39_21 (XT.ii_eq_t rfl) (by decide) (by decide) ?_
  refine Rn.iinc K (q := 29) (Ls' := #[.val (.ref v), .val (.ref w_), .val (.int (29 : Int32))]) (1 : Int32) d39_26 rfl rfl rfl rfl ?_
  refine Rn.goto K (q := 9) d39_29 (by decide) (by decide) ?_
  refine Rn.iloadN K (q := 10) d39_9 rfl rfl ?_
  refine Rn.aloadN K (q := 11) d39_10 rfl rfl rfl ?_
  refine Rn.arraylength K (q := 12) Av d39_11 rfl ?_
  refine Rn.icN K (q := 15) d39_12 (XT.ii_ge_f (by decide)) rfl ?_
  refine Rn.aloadN K (q := 16) d39_15 rfl rfl rfl ?_
  refine Rn.iloadN K (q := 17) d39_16 rfl rfl ?_
  refine Rn.baloadB K (q := 18) (v := (.int x29)) Av (by decide) rfl d39_17 rfl ?_
  refine Rn.aloadN K (q := 19) d39_18 rfl rfl rfl ?_
  refine Rn.iloadN K (q := 20) d39_19 rfl rfl ?_
  refine Rn.baloadB K (q := 21) (v := (.int x29)) Aw (by decide) rfl d39_20 rfl ?_
  refine Rn.icY K (q := 26) d39_21 (XT.ii_eq_t rfl) (by decide) (by decide) ?_
  refine Rn.iinc K (q := 29) (Ls' := #[.val (.ref v), .val (.ref w_), .val (.int (30 : Int32))]) (1 : Int32) d39_26 rfl rfl rfl rfl ?_
  refine Rn.goto K (q := 9) d39_29 (by decide) (by decide) ?_
  refine Rn.iloadN K (q := 10) d39_9 rfl rfl ?_
  refine Rn.aloadN K (q := 11) d39_10 rfl rfl rfl ?_
  refine Rn.arraylength K (q := 12) Av d39_11 rfl ?_
  refine Rn.icN K (q := 15) d39_12 (XT.ii_ge_f (by decide)) rfl ?_
  refine Rn.aloadN K (q := 16) d39_15 rfl rfl rfl ?_
  refine Rn.iloadN K (q := 17) d39_16 rfl rfl ?_
  refine Rn.baloadB K (q := 18) (v := (.int x30)) Av (by decide) rfl d39_17 rfl ?_
  refine Rn.aloadN K (q := 19) d39_18 rfl rfl rfl ?_
  refine Rn.iloadN K (q := 20) d39_19 rfl rfl ?_
  refine Rn.baloadB K (q := 21) (v := (.int x30)) Aw (by decide) rfl d39_20 rfl ?_
  refine Rn.icY K (q := 26) d39_21 (XT.ii_eq_t rfl) (by decide) (by decide) ?_
  refine Rn.iinc K (q := 29) (Ls' := #[.val (.ref v), .val (.ref w_), .val (.int (31 : Int32))]) (1 : Int32) d39_26 rfl rfl rfl rfl ?_
  refine Rn.goto K (q := 9) d39_29 (by decide) (by decide) ?_
  refine Rn.iloadN K (q := 10) d39_9 rfl rfl ?_
  refine Rn.aloadN K (q := 11) d39_10 rfl rfl rfl ?_
  refine Rn.arraylength K (q := 12) Av d39_11 rfl ?_
  refine Rn.icN K (q := 15) d39_12 (XT.ii_ge_f (by decide)) rfl ?_
  refine Rn.aloadN K (q := 16) d39_15 rfl rfl rfl ?_
  refine Rn.iloadN K (q := 17) d39_16 rfl rfl ?_
  refine Rn.baloadB K (q := 18) (v := (.int x31)) Av (by decide) rfl d39_17 rfl ?_
  refine Rn.aloadN K (q := 19) d39_18 rfl rfl rfl ?_
  refine Rn.iloadN K (q := 20) d39_19 rfl rfl ?_
  refine Rn.baloadB K (q := 21) (v := (.int x31)) Aw (by decide) rfl d39_20 rfl ?_
  refine Rn.icY K (q := 26) d39_21 (XT.ii_eq_t rfl) (by decide) (by decide) ?_
  refine Rn.iinc K (q := 29) (Ls' := #[.val (.ref v), .val (.ref w_), .val (.int (32 : Int32))]) (1 : Int32) d39_26 rfl rfl rfl rfl ?_
  refine Rn.goto K (q := 9) d39_29 (by decide) (by decide) ?_
  refine Rn.iloadN K (q := 10) d39_9 rfl rfl ?_
  refine Rn.aloadN K (q := 11) d39_10 rfl rfl rfl ?_
  refine Rn.arraylength K (q := 12) Av d39_11 rfl ?_
  refine Rn.icY K (q := 32) d39_12 (XT.ii_ge_t (by decide)) (by decide) (by decide) ?_
  refine Rn.iconst K (q := 33) (1 : Int32) d39_32 rfl rfl ?_
  exact Rn.retN K .boolean rfl (by simp) d39_33 (by decide) (by decide) ⟨rfl, rfl⟩
theorem m_seq32 (l : Launch) (Z : State) (a0 : Array Value) (hw : oH Z a0) (n0 : Nat) (h0 : Heap) (s v t w_ : Addr) (k kw : ClassId) (cst : Int32) (x0 x1 x2 x3 x4 x5 x6 x7 x8 x9 x10 x11 x12 x13 x14 x15 x16 x17 x18 x19 x20 x21 x22 x23 x24 x25 x26 x27 x28 x29 x30 x31 : Int32) (X0 : Old Z n0 h0) (SC : oSC Z cst) (hcs : ¬ cst = 0) (Es : Exa Z h0 s "java/lang/String") (Fc : Fld Z h0 s "java/lang/String" "coder" "B" (.int (0 : Int32))) (Fv : Fld Z h0 s "java/lang/String" "value" "[B" (.ref v)) (Av : Arv Z h0 v k .byte (32 : Int32) [(.int x0), (.int x1), (.int x2), (.int x3), (.int x4), (.int x5), (.int x6), (.int x7), (.int x8), (.int x9), (.int x10), (.int x11), (.int x12), (.int x13), (.int x14), (.int x15), (.int x16), (.int x17), (.int x18), (.int x19), (.int x20), (.int x21), (.int x22), (.int x23), (.int x24), (.int x25), (.int x26), (.int x27), (.int x28), (.int x29), (.int x30), (.int x31)] oZ) (Est : Exa Z h0 t "java/lang/String") (Fct : Fld Z h0 t "java/lang/String" "coder" "B" (.int (0 : Int32))) (Fvt : Fld Z h0 t "java/lang/String" "value" "[B" (.ref w_)) (Aw : Arv Z h0 w_ kw .byte (32 : Int32) [(.int x0), (.int x1), (.int x2), (.int x3), (.int x4), (.int x5), (.int x6), (.int x7), (.int x8), (.int x9), (.int x10), (.int x11), (.int x12), (.int x13), (.int x14), (.int x15), (.int x16), (.int x17), (.int x18), (.int x19), (.int x20), (.int x21), (.int x22), (.int x23), (.int x24), (.int x25), (.int x26), (.int x27), (.int x28), (.int x29), (.int x30), (.int x31)] oZ) (hst : s ≠ t) :
    Met l Z oM35 oC35 3 (some .boolean) (oR 1 0 0 16) n0 [] #[(.ref s), (.ref t)] h0 (fun v h => v = some (.int (1 : Int32)) ∧ h0 = h) := by
  refine Met.intro (Ls := #[.val (.ref s), .val (.ref t), .unset]) (plainFor_of_name pn_m_coder) hw (fun _ => rfl) ?_
  intro w K0
  have K : oK35 w Z a0 := K0
  refine Rn.aloadN K (q := 1) d38_0 rfl rfl rfl ?_
  refine Rn.aloadN K (q := 2) d38_1 rfl rfl rfl ?_
  refine Rn.acY K (q := 7) d38_2 rfl rfl (XT.aa_ne_t (fun e => hst (Value.ref.inj e))) (by decide) (by decide) ?_
  refine Rn.aloadN K (q := 8) d38_7 rfl rfl rfl ?_
  refine Rn.instY K (q := 11) (oT 203 rfl) (Ins.of_exa Est (K.hw _ (oT 9 rfl))) d38_8 rfl ?_
  refine Rn.ifN K (q := 14) d38_11 (XT.i0_eq_f (by decide)) rfl ?_
  refine Rn.aloadN K (q := 15) d38_14 rfl rfl rfl ?_
  refine Rn.castY K (q := 18) (oT 203 rfl) (Ins.of_exa Est (K.hw _ (oT 9 rfl))) d38_15 rfl ?_
  refine Rn.astoreN K (q := 19) (Ls' := #[.val (.ref s), .val (.ref t), .val (.ref t)]) d38_18 rfl rfl rfl ?_
  refine Rn.getS K (q := 22) (oT 14 rfl) (SC.ext X0.2) d38_19 rfl ?_
  refine Rn.ifN K (q := 25) d38_22 (XT.i0_eq_f hcs) rfl ?_
  refine Rn.aloadN K (q := 26) d38_25 rfl rfl rfl ?_
  refine Rn.getF K (q := 29) (oT 26 rfl) Via.refl Fc d38_26 rfl ?_
  refine Rn.aloadN K (q := 30) d38_29 rfl rfl rfl ?_
  refine Rn.getF K (q := 33) (oT 26 rfl) Via.refl Fct d38_30 rfl ?_
  refine Rn.icN K (q := 36) d38_33 (XT.ii_ne_f rfl) rfl ?_
  refine Rn.aloadN K (q := 37) d38_36 rfl rfl rfl ?_
  refine Rn.getF K (q := 40) (oT 28 rfl) Via.refl Fv d38_37 rfl ?_
  refine Rn.aloadN K (q := 41) d38_40 rfl rfl rfl ?_
  refine Rn.getF K (q := 44) (oT 28 rfl) Via.refl Fvt d38_41 rfl ?_
  refine Rn.stat K (q := 47) (W := 0) (y := oM34) (argsL := [(.ref v), (.ref w_)]) (rest := []) (oT 204 rfl) (oT 205 rfl) (oT 207 rfl) (oT 206 rfl) (by decide) (m_leq32 l Z a0 hw n0 h0 v w_ k kw x0 x1 x2 x3 x4 x5 x6 x7 x8 x9 x10 x11 x12 x13 x14 x15 x16 x17 x18 x19 x20 x21 x22 x23 x24 x25 x26 x27 x28 x29 x30 x31 X0 Av Aw) (by decide) (by decide) rfl (lenOf pd_21 rfl) rfl (oL rfl) d38_44 rfl (by decide) (by decide) ?_
  rintro _ _ ⟨rfl, rfl⟩
  show Rn w l _ n0 _ 47 _ [(.int (1 : Int32))] h0 0 0
  refine Rn.ifN K (q := 50) d38_47 (XT.i0_eq_f (by decide)) rfl ?_
  refine Rn.iconst K (q := 51) (1 : Int32) d38_50 rfl rfl ?_
  refine Rn.goto K (q := 55) d38_51 (by decide) (by decide) ?_
  exact Rn.retN K .boolean rfl (by simp) d38_55 (by decide) (by decide) ⟨rfl, rfl⟩
abbrev EL1 : List (String × Nat) := [("com/example/fuseline/fuseline/model/Account", 7), ("com/example/fuseline/fuseline/model/Account", 15), ("com/example/fuseline/fuseline/model/Account", 43), ("com/example/fuseline/fuseline/model/Account", 49), ("com/example/fuseline/fuseline/model/Account", 55), ("com/example/fuseline/fuseline/model/Account", 57), ("com/example/fuseline/fuseline/model/AccountDescribePinLaw", 12)]
theorem own_EW {Z : State} {a0 : Array Value} (hw : ∀ d ∈ tables_1, d.before a0 Z = true) : EW Z a0 EL1 := (EW.cons (hw _ (oT 42 rfl)) (by decide) (EW.cons (hw _ (oT 49 rfl)) (by decide) (EW.cons (hw _ (oT 209 rfl)) (by decide) (EW.cons (hw _ (oT 210 rfl)) (by decide) (EW.cons (hw _ (oT 87 rfl)) (by decide) (EW.cons (hw _ (oT 135 rfl)) (by decide) (EW.cons (hw _ (oT 208 rfl)) (by decide) EW.nil)))))))
theorem own_wS {Z : State} {a0 : Array Value} (hw : ∀ d ∈ tables_1, d.before a0 Z = true) : ∀ d ∈ Bundle.stringAtoms, d.before a0 Z = true := fun d hd => hw d ((by decide +kernel : ∀ d ∈ Bundle.stringAtoms, d ∈ tables_1) d hd)

theorem d7_0 : decode oC36 0 = .ok (.aload_n 0, 1) := by decide +kernel
theorem d7_1 : decode oC36 1 = .ok (.invokespecial 1, 3) := by decide +kernel
theorem d7_4 : decode oC36 4 = .ok (.aload_n 1, 1) := by decide +kernel
theorem d7_5 : decode oC36 5 = .ok (.ldc 7, 2) := by decide +kernel
theorem d7_7 : decode oC36 7 = .ok (.invokestatic 9, 3) := by decide +kernel
theorem d7_10 : decode oC36 10 = .ok (.pop, 1) := by decide +kernel
theorem d7_11 : decode oC36 11 = .ok (.aload_n 2, 1) := by decide +kernel
theorem d7_12 : decode oC36 12 = .ok (.ldc 15, 2) := by decide +kernel
theorem d7_14 : decode oC36 14 = .ok (.invokestatic 9, 3) := by decide +kernel
theorem d7_17 : decode oC36 17 = .ok (.pop, 1) := by decide +kernel
theorem d7_18 : decode oC36 18 = .ok (.aload_n 1, 1) := by decide +kernel
theorem d7_19 : decode oC36 19 = .ok (.invokevirtual 17, 3) := by decide +kernel
theorem d7_22 : decode oC36 22 = .ok (.ifCond .eq 13, 3) := by decide +kernel
theorem d7_35 : decode oC36 35 = .ok (.aload_n 0, 1) := by decide +kernel
theorem d7_36 : decode oC36 36 = .ok (.aload_n 1, 1) := by decide +kernel
theorem d7_37 : decode oC36 37 = .ok (.putfield 30, 3) := by decide +kernel
theorem d7_40 : decode oC36 40 = .ok (.aload_n 0, 1) := by decide +kernel
theorem d7_41 : decode oC36 41 = .ok (.aload_n 2, 1) := by decide +kernel
theorem d7_42 : decode oC36 42 = .ok (.putfield 35, 3) := by decide +kernel
theorem d7_45 : decode oC36 45 = .ok (.return_, 1) := by decide +kernel
theorem m_acc (l : Launch) (Z : State) (a0 : Array Value) (hw : oH Z a0) (n0 : Nat) (h0 : Heap) (o t : Addr) (s v : Addr) (k : ClassId) (cst : Int32) (x0 x1 : Int32) (X0 : Old Z n0 h0) (SC : oSC Z cst) (hcs : ¬ cst = 0) (Eo : Exa Z h0 o "com/example/fuseline/fuseline/model/Account") (go : n0 ≤ o) (Fm : Fld Z h0 o "com/example/fuseline/fuseline/model/Account" "member" "Ljava/lang/String;" .null) (Fl : Fld Z h0 o "com/example/fuseline/fuseline/model/Account" "client" "Ljava/lang/String;" .null) (Es : Exa Z h0 s "java/lang/String") (Fc : Fld Z h0 s "java/lang/String" "coder" "B" (.int (0 : Int32))) (Fv : Fld Z h0 s "java/lang/String" "value" "[B" (.ref v)) (Av : Arv Z h0 v k .byte (2 : Int32) [(.int x0), (.int x1)] oZ) (Ev : Exa Z h0 v "[B") :
    MetS l Z EL1 oM36 oC36 3 none (oR 2 4 56 26) n0 [] [o] #[(.ref o), (.ref s), (.ref t)] h0 (fun r h => r = none ∧ Keep h0 h [o] ∧ Fld Z h o "com/example/fuseline/fuseline/model/Account" "member" "Ljava/lang/String;" (.ref s) ∧ Fld Z h o "com/example/fuseline/fuseline/model/Account" "client" "Ljava/lang/String;" (.ref t)) := by
  refine MetS.intro (Ls := #[.val (.ref o), .val (.ref s), .val (.ref t)]) (plainFor_of_name pn_m_own0) hw (fun _ => rfl) ?_
  intro w K0
  have hEL := own_EW hw
  have wS := own_wS hw
  have K : oK36 w Z a0 := K0
  have K1 := Keep.refl h0 [o]
  refine RnS.lift (fun vm0 hs r => have K := K.on hs; Rn.aloadN K (q := 1) d7_0 rfl rfl rfl r) ?_
  refine RnS.liftC (fun vm0 hs r => have K := K.on hs; Rn.spec K (q := 4) (W := 0) (y := oM9) (b := o) (argsL := []) (rest := []) rfl (oT 36 rfl) (oT 37 rfl) (oT 40 rfl) (oT 39 rfl) (by decide) (m_rec l Z a0 hw n0 h0 o X0) (by decide) (by decide) rfl (lenOf pd_22 rfl) rfl (oL rfl) d7_1 rfl (by decide) (by decide) r) (by rintro _ _ ⟨rfl, rfl⟩; exact own_kp0) ?_
  rintro _ _ ⟨rfl, rfl⟩
  show RnS w l _ n0 _ Z EL1 [o] 4 _ [] h0 0 0
  refine RnS.lift (fun vm0 hs r => have K := K.on hs; Rn.aloadN K (q := 5) d7_4 rfl rfl rfl r) ?_
  refine RnS.ldcS K (q := 7) (n := 24) (vs := [(.int (109 : Int32)), (.int (101 : Int32)), (.int (109 : Int32)), (.int (98 : Int32)), (.int (101 : Int32)), (.int (114 : Int32))]) (z := (6 : Int32)) (oT 42 rfl) wS hEL (oT 0 rfl) (by decide) (by decide) rfl (by decide) (by decide) (by decide) (by decide) d7_5 rfl ?_
  intro la1 lb2 k3 h4 X5 q6 q7 q8 q9 q10
  have f11 := X0.ext X5
  have f12 := K1.ext X5
  have f13 := Es.ext X5
  have f14 := Fc.ext X5
  have f15 := Fv.ext X5
  have f16 := Av.ext X5
  have f18 := Eo.ext X5
  have f19 := Fm.ext X5
  have f20 := Fl.ext X5
  show RnS w l _ n0 _ Z EL1 [o] 7 _ [(.ref la1), (.ref s)] h4 2 28
  refine RnS.liftC (fun vm0 hs r => have K := K.on hs; Rn.stat K (q := 10) (W := 0) (y := oM10) (argsL := [(.ref s), (.ref la1)]) (rest := []) (oT 45 rfl) (oT 46 rfl) (oT 48 rfl) (oT 47 rfl) (by decide) (m_rnn l Z a0 hw n0 h4 s la1 f11) (by decide) (by decide) rfl (lenOf pd_23 rfl) rfl (oL rfl) d7_7 rfl (by decide) (by decide) r) (by rintro _ _ ⟨rfl, rfl⟩; exact own_kp0) ?_
  rintro _ _ ⟨rfl, rfl⟩
  show RnS w l _ n0 _ Z EL1 [o] 10 _ [(.ref s)] h4 2 28
  refine RnS.lift (fun vm0 hs r => have K := K.on hs; Rn.pop K (q := 11) d7_10 rfl rfl r) ?_
  refine RnS.lift (fun vm0 hs r => have K := K.on hs; Rn.aloadN K (q := 12) d7_11 rfl rfl rfl r) ?_
  refine RnS.ldcS K (q := 14) (n := 24) (vs := [(.int (99 : Int32)), (.int (108 : Int32)), (.int (105 : Int32)), (.int (101 : Int32)), (.int (110 : Int32)), (.int (116 : Int32))]) (z := (6 : Int32)) (oT 49 rfl) wS hEL (oT 1 rfl) (by decide) (by decide) rfl (by decide) (by decide) (by decide) (by decide) d7_12 rfl ?_
  intro la21 lb22 k23 h24 X25 q26 q27 q28 q29 q30
  have f31 := f11.ext X25
  have f32 := f12.ext X25
  have f33 := f13.ext X25
  have f34 := f14.ext X25
  have f35 := f15.ext X25
  have f36 := f16.ext X25
  have f38 := f18.ext X25
  have f39 := f19.ext X25
  have f40 := f20.ext X25
  show RnS w l _ n0 _ Z EL1 [o] 14 _ [(.ref la21), (.ref t)] h24 4 56
  refine RnS.liftC (fun vm0 hs r => have K := K.on hs; Rn.stat K (q := 17) (W := 0) (y := oM10) (argsL := [(.ref t), (.ref la21)]) (rest := []) (oT 45 rfl) (oT 46 rfl) (oT 48 rfl) (oT 47 rfl) (by decide) (m_rnn l Z a0 hw n0 h24 t la21 f31) (by decide) (by decide) rfl (lenOf pd_23 rfl) rfl (oL rfl) d7_14 rfl (by decide) (by decide) r) (by rintro _ _ ⟨rfl, rfl⟩; exact own_kp0) ?_
  rintro _ _ ⟨rfl, rfl⟩
  show RnS w l _ n0 _ Z EL1 [o] 17 _ [(.ref t)] h24 4 56
  refine RnS.lift (fun vm0 hs r => have K := K.on hs; Rn.pop K (q := 18) d7_17 rfl rfl r) ?_
  refine RnS.lift (fun vm0 hs r => have K := K.on hs; Rn.aloadN K (q := 19) d7_18 rfl rfl rfl r) ?_
  refine RnS.liftC (fun vm0 hs r => have K := K.on hs; Rn.virt K (q := 22) (W := 0) (y := oM1) (z := oM1) (b := s) (argsL := []) (rest := []) (oT 50 rfl) (oT 51 rfl) (nfs K (oT 53 rfl)) (oT 53 rfl) (oT 52 rfl) (oT 54 rfl) (oT 2 rfl) (by decide) (m_emp2 l Z a0 hw n0 h24 s v k cst x0 x1 f31 SC hcs f33 f34 f35 f36) f33 (by decide) (by decide) rfl (lenOf pd_0 rfl) rfl (oL rfl) d7_19 rfl (by decide) (by decide) r) (by rintro _ _ ⟨rfl, rfl⟩; exact own_kp0) ?_
  rintro _ _ ⟨rfl, rfl⟩
  show RnS w l _ n0 _ Z EL1 [o] 22 _ [oZ] h24 4 56
  refine RnS.lift (fun vm0 hs r => have K := K.on hs; Rn.ifY K (q := 35) d7_22 (XT.i0_eq_t rfl) (by decide) (by decide) r) ?_
  refine RnS.lift (fun vm0 hs r => have K := K.on hs; Rn.aloadN K (q := 36) d7_35 rfl rfl rfl r) ?_
  refine RnS.lift (fun vm0 hs r => have K := K.on hs; Rn.aloadN K (q := 37) d7_36 rfl rfl rfl r) ?_
  refine RnS.liftW (Or.inl (oT 0 rfl)) (fun vm0 hs r => have K := K.on hs; Rn.putF K (q := 40) (ty := (.object "java/lang/String")) (oT 55 rfl) Via.refl f39 f38 (Or.inr ⟨(oT 56 rfl), rfl, rfl⟩) (oT 31 rfl) (by decide) rfl rfl go d7_37 rfl r) ?_
  intro h45 W46
  have f48 := f32.wr W46 (Or.inl (oT 0 rfl))
  have f54 := f38.wr W46
  have f55 := Fld.same W46 f39
  have f56 := Fld.other W46 f40 (Or.inr (slot_ne (Or.inr (K.hw _ (oT 58 rfl))) (Or.inr (K.hw _ (oT 56 rfl))) (by decide) (t := (.object "java/lang/String")) (t' := (.object "java/lang/String")) (by decide) (by decide)))
  refine RnS.lift (fun vm0 hs r => have K := K.on hs; Rn.aloadN K (q := 41) d7_40 rfl rfl rfl r) ?_
  refine RnS.lift (fun vm0 hs r => have K := K.on hs; Rn.aloadN K (q := 42) d7_41 rfl rfl rfl r) ?_
  refine RnS.liftW (Or.inl (oT 0 rfl)) (fun vm0 hs r => have K := K.on hs; Rn.putF K (q := 45) (ty := (.object "java/lang/String")) (oT 57 rfl) Via.refl f56 f54 (Or.inr ⟨(oT 58 rfl), rfl, rfl⟩) (oT 31 rfl) (by decide) rfl rfl go d7_42 rfl r) ?_
  intro h65 W66
  have f68 := f48.wr W66 (Or.inl (oT 0 rfl))
  have f75 := Fld.other W66 f55 (Or.inr (slot_ne (Or.inr (K.hw _ (oT 56 rfl))) (Or.inr (K.hw _ (oT 58 rfl))) (by decide) (t := (.object "java/lang/String")) (t' := (.object "java/lang/String")) (by decide) (by decide)))
  have f76 := Fld.same W66 f56
  exact RnS.retV K hEL rfl d7_45 (by decide) (by decide) ⟨rfl, f68, f75, f76⟩
theorem d11_0 : decode oC37 0 = .ok (.aload_n 0, 1) := by decide +kernel
theorem d11_1 : decode oC37 1 = .ok (.invokevirtual 37, 3) := by decide +kernel
theorem d11_4 : decode oC37 4 = .ok (.ifCond .eq 33, 3) := by decide +kernel
theorem d11_7 : decode oC37 7 = .ok (.new 40, 3) := by decide +kernel
theorem d11_10 : decode oC37 10 = .ok (.dup, 1) := by decide +kernel
theorem d11_11 : decode oC37 11 = .ok (.invokespecial 42, 3) := by decide +kernel
theorem d11_14 : decode oC37 14 = .ok (.ldc 43, 2) := by decide +kernel
theorem d11_16 : decode oC37 16 = .ok (.invokevirtual 45, 3) := by decide +kernel
theorem d11_19 : decode oC37 19 = .ok (.aload_n 0, 1) := by decide +kernel
theorem d11_20 : decode oC37 20 = .ok (.getfield 30, 3) := by decide +kernel
theorem d11_23 : decode oC37 23 = .ok (.invokevirtual 45, 3) := by decide +kernel
theorem d11_26 : decode oC37 26 = .ok (.ldc 49, 2) := by decide +kernel
theorem d11_28 : decode oC37 28 = .ok (.invokevirtual 45, 3) := by decide +kernel
theorem d11_31 : decode oC37 31 = .ok (.invokevirtual 51, 3) := by decide +kernel
theorem d11_34 : decode oC37 34 = .ok (.goto 37, 3) := by decide +kernel
theorem d11_71 : decode oC37 71 = .ok (.areturn, 1) := by decide +kernel
theorem m_des0 (l : Launch) (Z : State) (a0 : Array Value) (hw : oH Z a0) (n0 : Nat) (h0 : Heap) (o s v t w_ : Addr) (k kw : ClassId) (x0 x1 : Int32) (cst : Int32) (X0 : Old Z n0 h0) (SC : oSC Z cst) (hcs : ¬ cst = 0) (Eo : Exa Z h0 o "com/example/fuseline/fuseline/model/Account") (Fm : Fld Z h0 o "com/example/fuseline/fuseline/model/Account" "member" "Ljava/lang/String;" (.ref s)) (Fl : Fld Z h0 o "com/example/fuseline/fuseline/model/Account" "client" "Ljava/lang/String;" (.ref t)) (Es : Exa Z h0 s "java/lang/String") (Fc : Fld Z h0 s "java/lang/String" "coder" "B" (.int (0 : Int32))) (Fv : Fld Z h0 s "java/lang/String" "value" "[B" (.ref v)) (Av : Arv Z h0 v k .byte (2 : Int32) [(.int x0), (.int x1)] oZ) (Est : Exa Z h0 t "java/lang/String") (Fct : Fld Z h0 t "java/lang/String" "coder" "B" (.int (0 : Int32))) (Fvt : Fld Z h0 t "java/lang/String" "value" "[B" (.ref w_)) (Avt : Arv Z h0 w_ kw .byte (0 : Int32) [] oZ) :
    MetS l Z EL1 oM37 oC37 1 (some (.object "java/lang/String")) (oR 6 9 210 150) n0 [] [] #[(.ref o)] h0 (fun r h => ∃ s v k, r = some (.ref s) ∧ h0.size ≤ s ∧ Keep h0 h [] ∧ Exa Z h s "java/lang/String" ∧ Fld Z h s "java/lang/String" "coder" "B" (.int (0 : Int32)) ∧ Fld Z h s "java/lang/String" "value" "[B" (.ref v) ∧ Arv Z h v k .byte (23 : Int32) [(.int (109 : Int32)), (.int (101 : Int32)), (.int (109 : Int32)), (.int (98 : Int32)), (.int (101 : Int32)), (.int (114 : Int32)), (.int (32 : Int32)), (.int x0), (.int x1), (.int (39 : Int32)), (.int (115 : Int32)), (.int (32 : Int32)), (.int (111 : Int32)), (.int (119 : Int32)), (.int (110 : Int32)), (.int (32 : Int32)), (.int (97 : Int32)), (.int (99 : Int32)), (.int (99 : Int32)), (.int (111 : Int32)), (.int (117 : Int32)), (.int (110 : Int32)), (.int (116 : Int32))] oZ) := by
  refine MetS.intro (Ls := #[.val (.ref o)]) (plainFor_of_name pn_m_own0) hw (fun _ => rfl) ?_
  intro w K0
  have hEL := own_EW hw
  have wS := own_wS hw
  have K : oK37 w Z a0 := K0
  have K1 := Keep.refl h0 []
  refine RnS.lift (fun vm0 hs r => have K := K.on hs; Rn.aloadN K (q := 1) d11_0 rfl rfl rfl r) ?_
  refine RnS.liftC (fun vm0 hs r => have K := K.on hs; Rn.virt K (q := 4) (W := 0) (y := oM2) (z := oM2) (b := o) (argsL := []) (rest := []) (oT 64 rfl) (oT 65 rfl) (nfs K (oT 67 rfl)) (oT 67 rfl) (oT 66 rfl) (oT 68 rfl) (oT 32 rfl) (by decide) (m_own0 l Z a0 hw n0 h0 o t w_ kw cst  X0 SC hcs Fl Est Fct Fvt Avt) Eo (by decide) (by decide) rfl (lenOf pd_0 rfl) rfl (oL rfl) d11_1 rfl (by decide) (by decide) r) (by rintro _ _ ⟨rfl, rfl⟩; exact own_kp0) ?_
  rintro _ _ ⟨rfl, rfl⟩
  show RnS w l _ n0 _ Z EL1 [] 4 _ [(.int (1 : Int32))] h0 0 0
  refine RnS.lift (fun vm0 hs r => have K := K.on hs; Rn.ifN K (q := 7) d11_4 (XT.i0_eq_f (by decide)) rfl r) ?_
  refine RnS.newO K (q := 10) (oT 69 rfl) (oT 70 rfl) (oT 71 rfl) (by decide) (by decide) d11_7 rfl ?_
  intro b1 h2 gb1_ X3 A_b1 D4
  have ne_s_b1 : s ≠ b1 := fun e => absurd Es.lt (by rw [e, gb1_]; exact Nat.lt_irrefl _)
  have ne_v_b1 : v ≠ b1 := fun e => absurd Av.lt (by rw [e, gb1_]; exact Nat.lt_irrefl _)
  have ne_w__b1 : w_ ≠ b1 := fun e => absurd Avt.lt (by rw [e, gb1_]; exact Nat.lt_irrefl _)
  have ne_o_b1 : o ≠ b1 := fun e => absurd Eo.lt (by rw [e, gb1_]; exact Nat.lt_irrefl _)
  have g_b1 : n0 ≤ b1 := by rw [gb1_]; exact X0.1 ▸ X0.2.1
  have sz_b1 : h0.size ≤ b1 := by rw [gb1_]; exact K1.1
  have f5 := X0.ext X3
  have f6 := K1.ext X3
  have f7 := Es.ext X3
  have f8 := Fc.ext X3
  have f9 := Fv.ext X3
  have f10 := Av.ext X3
  have f11 := Est.ext X3
  have f14 := Avt.ext X3
  have f15 := Eo.ext X3
  have f16 := Fm.ext X3
  have f18 : Fld Z h2 b1 "java/lang/AbstractStringBuilder" "value" "[B" .null := D4 (Or.inl (K.hw _ (oT 84 rfl))) (ty := (.array .byte)) (by decide)
  have f19 : Fld Z h2 b1 "java/lang/AbstractStringBuilder" "coder" "B" (.int (0 : Int32)) := D4 (Or.inl (K.hw _ (oT 86 rfl))) (ty := .byte) (by decide)
  have f20 : Fld Z h2 b1 "java/lang/AbstractStringBuilder" "count" "I" (.int (0 : Int32)) := D4 (Or.inl (K.hw _ (oT 109 rfl))) (ty := .int) (by decide)
  show RnS w l _ n0 _ Z EL1 [b1] 10 _ [(.ref b1)] h2 1 4
  refine RnS.lift (fun vm0 hs r => have K := K.on hs; Rn.dup K (q := 11) d11_10 rfl rfl r) ?_
  refine RnS.liftCN (fun vm0 hs r => have K := K.on hs; Rn.spec K (q := 14) (W := 1) (y := oM15) (b := b1) (argsL := []) (rest := [(.ref b1)]) rfl (oT 72 rfl) (oT 73 rfl) (oT 74 rfl) (oT 71 rfl) (by decide) (m_sbi l Z a0 hw n0 h2 b1 cst f5 SC hcs A_b1 g_b1 f18 f19 f20) (by decide) (by decide) rfl (lenOf pd_22 rfl) rfl (oL rfl) d11_11 rfl (by decide) (by decide) r) (by rintro _ _ ⟨rfl, Kp, -⟩; exact own_kpL Kp (by simp)) ?_
  rintro _ h21 ⟨rfl, K22, u23, ku24, su25, gu26, F27, F28, F29, E30, A31⟩
  refine ⟨[u23], (fun x hx => by rw [List.mem_singleton.mp hx]; exact ⟨su25, E30.lt⟩), ?_⟩
  have ne32 : s ≠ u23 := fun e => absurd f7.lt (by rw [e]; exact Nat.not_lt.mpr su25)
  have ne33 : v ≠ u23 := fun e => absurd f10.lt (by rw [e]; exact Nat.not_lt.mpr su25)
  have ne34 : t ≠ u23 := fun e => absurd f11.lt (by rw [e]; exact Nat.not_lt.mpr su25)
  have ne35 : w_ ≠ u23 := fun e => absurd f14.lt (by rw [e]; exact Nat.not_lt.mpr su25)
  have ne36 : o ≠ u23 := fun e => absurd f15.lt (by rw [e]; exact Nat.not_lt.mpr su25)
  have ne37 : b1 ≠ u23 := fun e => absurd A_b1.lt (by rw [e]; exact Nat.not_lt.mpr su25)
  have sz38 : h0.size ≤ u23 := Nat.le_trans f6.1 su25
  have f39 := f5.keep K22 (allS g_b1 all0)
  have f40 := f6.trans K22 (allS (Or.inr sz_b1) all0)
  have f41 := f7.keep K22
  have f42 := f8.keep K22 (ninS ne_s_b1 nin0)
  have f43 := f9.keep K22 (ninS ne_s_b1 nin0)
  have f44 := f10.keep K22 (ninS ne_v_b1 nin0)
  have f45 := f11.keep K22
  have f48 := f14.keep K22 (ninS ne_w__b1 nin0)
  have f49 := f15.keep K22
  have f50 := f16.keep K22 (ninS ne_o_b1 nin0)
  have f52 := A_b1.keep K22
  show RnS w l _ n0 _ Z EL1 [u23, b1] 14 _ [(.ref b1)] h21 2 20
  refine RnS.ldcS K (q := 16) (n := 28) (vs := [(.int (109 : Int32)), (.int (101 : Int32)), (.int (109 : Int32)), (.int (98 : Int32)), (.int (101 : Int32)), (.int (114 : Int32)), (.int (32 : Int32))]) (z := (7 : Int32)) (oT 209 rfl) wS hEL (oT 2 rfl) (by decide) (by decide) rfl (by decide) (by decide) (by decide) (by decide) d11_14 rfl ?_
  intro la53 lb54 k55 h56 X57 q58 q59 q60 q61 q62
  have f63 := f39.ext X57
  have f64 := f40.ext X57
  have f65 := f41.ext X57
  have f66 := f42.ext X57
  have f67 := f43.ext X57
  have f68 := f44.ext X57
  have f69 := f45.ext X57
  have f72 := f48.ext X57
  have f73 := f49.ext X57
  have f74 := f50.ext X57
  have f76 := f52.ext X57
  have f77 := F27.ext X57
  have f78 := F28.ext X57
  have f79 := F29.ext X57
  have f80 := E30.ext X57
  have f81 := A31.ext X57
  show RnS w l _ n0 _ Z EL1 [u23, b1] 16 _ [(.ref la53), (.ref b1)] h56 4 52
  refine RnS.liftC (fun vm0 hs r => have K := K.on hs; Rn.virt K (q := 19) (W := 0) (y := oM23) (z := oM23) (b := b1) (argsL := [(.ref la53)]) (rest := []) (oT 88 rfl) (oT 89 rfl) (nfs K (oT 91 rfl)) (oT 91 rfl) (oT 90 rfl) (oT 92 rfl) (oT 71 rfl) (by decide) (m_app16_0_7 l Z a0 hw n0 h56 b1 u23 ku24  la53 lb54 k55 (109 : Int32) (101 : Int32) (109 : Int32) (98 : Int32) (101 : Int32) (114 : Int32) (32 : Int32) cst f63 SC hcs f76 g_b1 f77 f78 f79 f80 gu26 f81 q58 q59 q60 q61 (Ne.symm (q62 u23 (oT 0 rfl)).2) (Ne.symm (q62 b1 (oT 1 rfl)).2)) f76 (by decide) (by decide) rfl (lenOf pd_24 rfl) rfl (oL rfl) d11_16 rfl (by decide) (by decide) r) (by rintro _ _ ⟨rfl, Kp, -⟩; exact own_kpL Kp (by simp)) ?_
  rintro _ h82 ⟨rfl, K83, F84, F85, F86, A87⟩
  have f88 := f63.keep K83 (allS g_b1 (allS gu26 all0))
  have f89 := f64.trans K83 (allS (Or.inr sz_b1) (allS (Or.inr sz38) all0))
  have f90 := f65.keep K83
  have f91 := f66.keep K83 (ninS ne_s_b1 (ninS ne32 nin0))
  have f92 := f67.keep K83 (ninS ne_s_b1 (ninS ne32 nin0))
  have f93 := f68.keep K83 (ninS ne_v_b1 (ninS ne33 nin0))
  have f94 := f69.keep K83
  have f97 := f72.keep K83 (ninS ne_w__b1 (ninS ne35 nin0))
  have f98 := f73.keep K83
  have f99 := f74.keep K83 (ninS ne_o_b1 (ninS ne36 nin0))
  have f101 := f76.keep K83
  have f102 := f80.keep K83
  have f103 := q58.keep K83
  have f106 := q61.keep K83 (ninS (Ne.symm (q62 b1 (oT 1 rfl)).2) (ninS (Ne.symm (q62 u23 (oT 0 rfl)).2) nin0))
  show RnS w l _ n0 _ Z EL1 [u23, b1] 19 _ [(.ref b1)] h82 4 52
  refine RnS.lift (fun vm0 hs r => have K := K.on hs; Rn.aloadN K (q := 20) d11_19 rfl rfl rfl r) ?_
  refine RnS.lift (fun vm0 hs r => have K := K.on hs; Rn.getF K (q := 23) (oT 55 rfl) Via.refl f99 d11_20 rfl r) ?_
  refine RnS.liftC (fun vm0 hs r => have K := K.on hs; Rn.virt K (q := 26) (W := 0) (y := oM23) (z := oM23) (b := b1) (argsL := [(.ref s)]) (rest := []) (oT 88 rfl) (oT 89 rfl) (nfs K (oT 91 rfl)) (oT 91 rfl) (oT 90 rfl) (oT 92 rfl) (oT 71 rfl) (by decide) (m_app16_7_2 l Z a0 hw n0 h82 b1 u23 ku24 (109 : Int32) (101 : Int32) (109 : Int32) (98 : Int32) (101 : Int32) (114 : Int32) (32 : Int32) s v k x0 x1 cst f88 SC hcs f101 g_b1 F84 F85 F86 f102 gu26 A87 f90 f91 f92 f93 ne33 ne_v_b1) f101 (by decide) (by decide) rfl (lenOf pd_24 rfl) rfl (oL rfl) d11_23 rfl (by decide) (by decide) r) (by rintro _ _ ⟨rfl, Kp, -⟩; exact own_kpL Kp (by simp)) ?_
  rintro _ h107 ⟨rfl, K108, F109, F110, F111, A112⟩
  have f113 := f88.keep K108 (allS g_b1 (allS gu26 all0))
  have f114 := f89.trans K108 (allS (Or.inr sz_b1) (allS (Or.inr sz38) all0))
  have f115 := f90.keep K108
  have f118 := f93.keep K108 (ninS ne_v_b1 (ninS ne33 nin0))
  have f119 := f94.keep K108
  have f122 := f97.keep K108 (ninS ne_w__b1 (ninS ne35 nin0))
  have f123 := f98.keep K108
  have f126 := f101.keep K108
  have f127 := f102.keep K108
  have f128 := f103.keep K108
  have f131 := f106.keep K108 (ninS (Ne.symm (q62 b1 (oT 1 rfl)).2) (ninS (Ne.symm (q62 u23 (oT 0 rfl)).2) nin0))
  show RnS w l _ n0 _ Z EL1 [u23, b1] 26 _ [(.ref b1)] h107 4 52
  refine RnS.ldcS K (q := 28) (n := 56) (vs := [(.int (39 : Int32)), (.int (115 : Int32)), (.int (32 : Int32)), (.int (111 : Int32)), (.int (119 : Int32)), (.int (110 : Int32)), (.int (32 : Int32)), (.int (97 : Int32)), (.int (99 : Int32)), (.int (99 : Int32)), (.int (111 : Int32)), (.int (117 : Int32)), (.int (110 : Int32)), (.int (116 : Int32))]) (z := (14 : Int32)) (oT 210 rfl) wS hEL (oT 3 rfl) (by decide) (by decide) rfl (by decide) (by decide) (by decide) (by decide) d11_26 rfl ?_
  intro la132 lb133 k134 h135 X136 q137 q138 q139 q140 q141
  have f142 := f113.ext X136
  have f143 := f114.ext X136
  have f144 := f115.ext X136
  have f147 := f118.ext X136
  have f148 := f119.ext X136
  have f151 := f122.ext X136
  have f152 := f123.ext X136
  have f155 := f126.ext X136
  have f156 := f127.ext X136
  have f157 := f128.ext X136
  have f160 := f131.ext X136
  have f161 := F109.ext X136
  have f162 := F110.ext X136
  have f163 := F111.ext X136
  have f164 := A112.ext X136
  show RnS w l _ n0 _ Z EL1 [u23, b1] 28 _ [(.ref la132), (.ref b1)] h135 6 112
  refine RnS.liftCN (fun vm0 hs r => have K := K.on hs; Rn.virt K (q := 31) (W := 0) (y := oM23) (z := oM23) (b := b1) (argsL := [(.ref la132)]) (rest := []) (oT 88 rfl) (oT 89 rfl) (nfs K (oT 91 rfl)) (oT 91 rfl) (oT 90 rfl) (oT 92 rfl) (oT 71 rfl) (by decide) (m_appG34_9_14 l Z a0 hw n0 h135 b1 u23 ku24 (109 : Int32) (101 : Int32) (109 : Int32) (98 : Int32) (101 : Int32) (114 : Int32) (32 : Int32) x0 x1 la132 lb133 k134 (39 : Int32) (115 : Int32) (32 : Int32) (111 : Int32) (119 : Int32) (110 : Int32) (32 : Int32) (97 : Int32) (99 : Int32) (99 : Int32) (111 : Int32) (117 : Int32) (110 : Int32) (116 : Int32) cst f142 SC hcs f155 g_b1 f161 f162 f163 f156 gu26 f164 q137 q138 q139 q140 (Ne.symm (q141 u23 (oT 0 rfl)).2) (Ne.symm (q141 b1 (oT 1 rfl)).2)) f155 (by decide) (by decide) rfl (lenOf pd_24 rfl) rfl (oL rfl) d11_28 rfl (by decide) (by decide) r) (by rintro _ _ ⟨rfl, Kp, -⟩; exact own_kpL Kp (by simp)) ?_
  rintro _ h165 ⟨rfl, K166, u167, ku168, su169, gu170, F171, F172, F173, E174, A175⟩
  refine ⟨[u167], (fun x hx => by rw [List.mem_singleton.mp hx]; exact ⟨su169, E174.lt⟩), ?_⟩
  have ne176 : s ≠ u167 := fun e => absurd f144.lt (by rw [e]; exact Nat.not_lt.mpr su169)
  have ne177 : v ≠ u167 := fun e => absurd f147.lt (by rw [e]; exact Nat.not_lt.mpr su169)
  have ne178 : t ≠ u167 := fun e => absurd f148.lt (by rw [e]; exact Nat.not_lt.mpr su169)
  have ne179 : w_ ≠ u167 := fun e => absurd f151.lt (by rw [e]; exact Nat.not_lt.mpr su169)
  have ne180 : o ≠ u167 := fun e => absurd f152.lt (by rw [e]; exact Nat.not_lt.mpr su169)
  have ne181 : b1 ≠ u167 := fun e => absurd f155.lt (by rw [e]; exact Nat.not_lt.mpr su169)
  have ne182 : u23 ≠ u167 := fun e => absurd f156.lt (by rw [e]; exact Nat.not_lt.mpr su169)
  have ne183 : la53 ≠ u167 := fun e => absurd f157.lt (by rw [e]; exact Nat.not_lt.mpr su169)
  have ne184 : lb54 ≠ u167 := fun e => absurd f160.lt (by rw [e]; exact Nat.not_lt.mpr su169)
  have ne185 : la132 ≠ u167 := fun e => absurd q137.lt (by rw [e]; exact Nat.not_lt.mpr su169)
  have ne186 : lb133 ≠ u167 := fun e => absurd q140.lt (by rw [e]; exact Nat.not_lt.mpr su169)
  have sz187 : h0.size ≤ u167 := Nat.le_trans f143.1 su169
  have f188 := f142.keep K166 (allS g_b1 all0)
  have f189 := f143.trans K166 (allS (Or.inr sz_b1) all0)
  have f201 := f155.keep K166
  show RnS w l _ n0 _ Z EL1 [u167, u23, b1] 31 _ [(.ref b1)] h165 7 146
  refine RnS.liftC (fun vm0 hs r => have K := K.on hs; Rn.virt K (q := 34) (W := 0) (y := oM33) (z := oM33) (b := b1) (argsL := []) (rest := []) (oT 159 rfl) (oT 160 rfl) (nfs K (oT 162 rfl)) (oT 162 rfl) (oT 161 rfl) (oT 163 rfl) (oT 71 rfl) (by decide) (m_tos23 l Z a0 hw n0 h165 b1 u167 ku168 (109 : Int32) (101 : Int32) (109 : Int32) (98 : Int32) (101 : Int32) (114 : Int32) (32 : Int32) x0 x1 (39 : Int32) (115 : Int32) (32 : Int32) (111 : Int32) (119 : Int32) (110 : Int32) (32 : Int32) (97 : Int32) (99 : Int32) (99 : Int32) (111 : Int32) (117 : Int32) (110 : Int32) (116 : Int32) cst f188 SC hcs f201 g_b1 F171 F172 F173 E174 gu170 A175) f201 (by decide) (by decide) rfl (lenOf pd_25 rfl) rfl (oL rfl) d11_31 rfl (by decide) (by decide) r) (by rintro _ _ ⟨s, v, k, rfl, -, Kp, -⟩; exact own_kp1 Kp) ?_
  rintro _ h212 ⟨rs, rv, rk, rfl, srs, K213, E214, F215, F216, A217⟩
  have szr : h0.size ≤ rs := Nat.le_trans f189.1 srs
  have f219 := f189.trans K213 all0
  show RnS w l _ n0 _ Z EL1 [u167, u23, b1] 34 _ [(.ref rs)] h212 9 173
  refine RnS.lift (fun vm0 hs r => have K := K.on hs; Rn.goto K (q := 71) d11_34 (by decide) (by decide) r) ?_
  exact RnS.retA K hEL (.object "java/lang/String") rfl rfl rfl d11_71 (by decide) (by decide) ⟨_, _, _, rfl, szr, f219, E214, F215, F216, A217⟩
theorem d11_37 : decode oC37 37 = .ok (.new 40, 3) := by decide +kernel
theorem d11_40 : decode oC37 40 = .ok (.dup, 1) := by decide +kernel
theorem d11_41 : decode oC37 41 = .ok (.invokespecial 42, 3) := by decide +kernel
theorem d11_44 : decode oC37 44 = .ok (.ldc 55, 2) := by decide +kernel
theorem d11_46 : decode oC37 46 = .ok (.invokevirtual 45, 3) := by decide +kernel
theorem d11_49 : decode oC37 49 = .ok (.aload_n 0, 1) := by decide +kernel
theorem d11_50 : decode oC37 50 = .ok (.getfield 35, 3) := by decide +kernel
theorem d11_53 : decode oC37 53 = .ok (.invokevirtual 45, 3) := by decide +kernel
theorem d11_56 : decode oC37 56 = .ok (.ldc 57, 2) := by decide +kernel
theorem d11_58 : decode oC37 58 = .ok (.invokevirtual 45, 3) := by decide +kernel
theorem d11_61 : decode oC37 61 = .ok (.aload_n 0, 1) := by decide +kernel
theorem d11_62 : decode oC37 62 = .ok (.getfield 30, 3) := by decide +kernel
theorem d11_65 : decode oC37 65 = .ok (.invokevirtual 45, 3) := by decide +kernel
theorem d11_68 : decode oC37 68 = .ok (.invokevirtual 51, 3) := by decide +kernel
theorem m_des2 (l : Launch) (Z : State) (a0 : Array Value) (hw : oH Z a0) (n0 : Nat) (h0 : Heap) (o s v t w_ : Addr) (k kw : ClassId) (x0 x1 y0 y1 : Int32) (cst : Int32) (X0 : Old Z n0 h0) (SC : oSC Z cst) (hcs : ¬ cst = 0) (Eo : Exa Z h0 o "com/example/fuseline/fuseline/model/Account") (Fm : Fld Z h0 o "com/example/fuseline/fuseline/model/Account" "member" "Ljava/lang/String;" (.ref s)) (Fl : Fld Z h0 o "com/example/fuseline/fuseline/model/Account" "client" "Ljava/lang/String;" (.ref t)) (Es : Exa Z h0 s "java/lang/String") (Fc : Fld Z h0 s "java/lang/String" "coder" "B" (.int (0 : Int32))) (Fv : Fld Z h0 s "java/lang/String" "value" "[B" (.ref v)) (Av : Arv Z h0 v k .byte (2 : Int32) [(.int x0), (.int x1)] oZ) (Est : Exa Z h0 t "java/lang/String") (Fct : Fld Z h0 t "java/lang/String" "coder" "B" (.int (0 : Int32))) (Fvt : Fld Z h0 t "java/lang/String" "value" "[B" (.ref w_)) (Avt : Arv Z h0 w_ kw .byte (2 : Int32) [(.int y0), (.int y1)] oZ) :
    MetS l Z EL1 oM37 oC37 1 (some (.object "java/lang/String")) (oR 6 9 210 150) n0 [] [] #[(.ref o)] h0 (fun r h => ∃ s v k, r = some (.ref s) ∧ h0.size ≤ s ∧ Keep h0 h [] ∧ Exa Z h s "java/lang/String" ∧ Fld Z h s "java/lang/String" "coder" "B" (.int (0 : Int32)) ∧ Fld Z h s "java/lang/String" "value" "[B" (.ref v) ∧ Arv Z h v k .byte (32 : Int32) [(.int (99 : Int32)), (.int (108 : Int32)), (.int (105 : Int32)), (.int (101 : Int32)), (.int (110 : Int32)), (.int (116 : Int32)), (.int (32 : Int32)), (.int y0), (.int y1), (.int (39 : Int32)), (.int (115 : Int32)), (.int (32 : Int32)), (.int (97 : Int32)), (.int (99 : Int32)), (.int (99 : Int32)), (.int (111 : Int32)), (.int (117 : Int32)), (.int (110 : Int32)), (.int (116 : Int32)), (.int (32 : Int32)), (.int (97 : Int32)), (.int (116 : Int32)), (.int (32 : Int32)), (.int (109 : Int32)), (.int (101 : Int32)), (.int (109 : Int32)), (.int (98 : Int32)), (.int (101 : Int32)), (.int (114 : Int32)), (.int (32 : Int32)), (.int x0), (.int x1)] oZ) := by
  refine MetS.intro (Ls := #[.val (.ref o)]) (plainFor_of_name pn_m_own0) hw (fun _ => rfl) ?_
  intro w K0
  have hEL := own_EW hw
  have wS := own_wS hw
  have K : oK37 w Z a0 := K0
  have K1 := Keep.refl h0 []
  refine RnS.lift (fun vm0 hs r => have K := K.on hs; Rn.aloadN K (q := 1) d11_0 rfl rfl rfl r) ?_
  refine RnS.liftC (fun vm0 hs r => have K := K.on hs; Rn.virt K (q := 4) (W := 0) (y := oM2) (z := oM2) (b := o) (argsL := []) (rest := []) (oT 64 rfl) (oT 65 rfl) (nfs K (oT 67 rfl)) (oT 67 rfl) (oT 66 rfl) (oT 68 rfl) (oT 32 rfl) (by decide) (m_own2 l Z a0 hw n0 h0 o t w_ kw cst y0 y1 X0 SC hcs Fl Est Fct Fvt Avt) Eo (by decide) (by decide) rfl (lenOf pd_0 rfl) rfl (oL rfl) d11_1 rfl (by decide) (by decide) r) (by rintro _ _ ⟨rfl, rfl⟩; exact own_kp0) ?_
  rintro _ _ ⟨rfl, rfl⟩
  show RnS w l _ n0 _ Z EL1 [] 4 _ [oZ] h0 0 0
  refine RnS.lift (fun vm0 hs r => have K := K.on hs; Rn.ifY K (q := 37) d11_4 (XT.i0_eq_t rfl) (by decide) (by decide) r) ?_
  refine RnS.newO K (q := 40) (oT 69 rfl) (oT 70 rfl) (oT 71 rfl) (by decide) (by decide) d11_37 rfl ?_
  intro b1 h2 gb1_ X3 A_b1 D4
  have ne_s_b1 : s ≠ b1 := fun e => absurd Es.lt (by rw [e, gb1_]; exact Nat.lt_irrefl _)
  have ne_v_b1 : v ≠ b1 := fun e => absurd Av.lt (by rw [e, gb1_]; exact Nat.lt_irrefl _)
  have ne_t_b1 : t ≠ b1 := fun e => absurd Est.lt (by rw [e, gb1_]; exact Nat.lt_irrefl _)
  have ne_w__b1 : w_ ≠ b1 := fun e => absurd Avt.lt (by rw [e, gb1_]; exact Nat.lt_irrefl _)
  have ne_o_b1 : o ≠ b1 := fun e => absurd Eo.lt (by rw [e, gb1_]; exact Nat.lt_irrefl _)
  have g_b1 : n0 ≤ b1 := by rw [gb1_]; exact X0.1 ▸ X0.2.1
  have sz_b1 : h0.size ≤ b1 := by rw [gb1_]; exact K1.1
  have f5 := X0.ext X3
  have f6 := K1.ext X3
  have f7 := Es.ext X3
  have f8 := Fc.ext X3
  have f9 := Fv.ext X3
  have f10 := Av.ext X3
  have f11 := Est.ext X3
  have f12 := Fct.ext X3
  have f13 := Fvt.ext X3
  have f14 := Avt.ext X3
  have f15 := Eo.ext X3
  have f16 := Fm.ext X3
  have f17 := Fl.ext X3
  have f18 : Fld Z h2 b1 "java/lang/AbstractStringBuilder" "value" "[B" .null := D4 (Or.inl (K.hw _ (oT 84 rfl))) (ty := (.array .byte)) (by decide)
  have f19 : Fld Z h2 b1 "java/lang/AbstractStringBuilder" "coder" "B" (.int (0 : Int32)) := D4 (Or.inl (K.hw _ (oT 86 rfl))) (ty := .byte) (by decide)
  have f20 : Fld Z h2 b1 "java/lang/AbstractStringBuilder" "count" "I" (.int (0 : Int32)) := D4 (Or.inl (K.hw _ (oT 109 rfl))) (ty := .int) (by decide)
  show RnS w l _ n0 _ Z EL1 [b1] 40 _ [(.ref b1)] h2 1 4
  refine RnS.lift (fun vm0 hs r => have K := K.on hs; Rn.dup K (q := 41) d11_40 rfl rfl r) ?_
  refine RnS.liftCN (fun vm0 hs r => have K := K.on hs; Rn.spec K (q := 44) (W := 1) (y := oM15) (b := b1) (argsL := []) (rest := [(.ref b1)]) rfl (oT 72 rfl) (oT 73 rfl) (oT 74 rfl) (oT 71 rfl) (by decide) (m_sbi l Z a0 hw n0 h2 b1 cst f5 SC hcs A_b1 g_b1 f18 f19 f20) (by decide) (by decide) rfl (lenOf pd_22 rfl) rfl (oL rfl) d11_41 rfl (by decide) (by decide) r) (by rintro _ _ ⟨rfl, Kp, -⟩; exact own_kpL Kp (by simp)) ?_
  rintro _ h21 ⟨rfl, K22, u23, ku24, su25, gu26, F27, F28, F29, E30, A31⟩
  refine ⟨[u23], (fun x hx => by rw [List.mem_singleton.mp hx]; exact ⟨su25, E30.lt⟩), ?_⟩
  have ne32 : s ≠ u23 := fun e => absurd f7.lt (by rw [e]; exact Nat.not_lt.mpr su25)
  have ne33 : v ≠ u23 := fun e => absurd f10.lt (by rw [e]; exact Nat.not_lt.mpr su25)
  have ne34 : t ≠ u23 := fun e => absurd f11.lt (by rw [e]; exact Nat.not_lt.mpr su25)
  have ne35 : w_ ≠ u23 := fun e => absurd f14.lt (by rw [e]; exact Nat.not_lt.mpr su25)
  have ne36 : o ≠ u23 := fun e => absurd f15.lt (by rw [e]; exact Nat.not_lt.mpr su25)
  have ne37 : b1 ≠ u23 := fun e => absurd A_b1.lt (by rw [e]; exact Nat.not_lt.mpr su25)
  have sz38 : h0.size ≤ u23 := Nat.le_trans f6.1 su25
  have f39 := f5.keep K22 (allS g_b1 all0)
  have f40 := f6.trans K22 (allS (Or.inr sz_b1) all0)
  have f41 := f7.keep K22
  have f42 := f8.keep K22 (ninS ne_s_b1 nin0)
  have f43 := f9.keep K22 (ninS ne_s_b1 nin0)
  have f44 := f10.keep K22 (ninS ne_v_b1 nin0)
  have f45 := f11.keep K22
  have f46 := f12.keep K22 (ninS ne_t_b1 nin0)
  have f47 := f13.keep K22 (ninS ne_t_b1 nin0)
  have f48 := f14.keep K22 (ninS ne_w__b1 nin0)
  have f49 := f15.keep K22
  have f50 := f16.keep K22 (ninS ne_o_b1 nin0)
  have f51 := f17.keep K22 (ninS ne_o_b1 nin0)
  have f52 := A_b1.keep K22
  show RnS w l _ n0 _ Z EL1 [u23, b1] 44 _ [(.ref b1)] h21 2 20
  refine RnS.ldcS K (q := 46) (n := 28) (vs := [(.int (99 : Int32)), (.int (108 : Int32)), (.int (105 : Int32)), (.int (101 : Int32)), (.int (110 : Int32)), (.int (116 : Int32)), (.int (32 : Int32))]) (z := (7 : Int32)) (oT 87 rfl) wS hEL (oT 4 rfl) (by decide) (by decide) rfl (by decide) (by decide) (by decide) (by decide) d11_44 rfl ?_
  intro la53 lb54 k55 h56 X57 q58 q59 q60 q61 q62
  have f63 := f39.ext X57
  have f64 := f40.ext X57
  have f65 := f41.ext X57
  have f66 := f42.ext X57
  have f67 := f43.ext X57
  have f68 := f44.ext X57
  have f69 := f45.ext X57
  have f70 := f46.ext X57
  have f71 := f47.ext X57
  have f72 := f48.ext X57
  have f73 := f49.ext X57
  have f74 := f50.ext X57
  have f75 := f51.ext X57
  have f76 := f52.ext X57
  have f77 := F27.ext X57
  have f78 := F28.ext X57
  have f79 := F29.ext X57
  have f80 := E30.ext X57
  have f81 := A31.ext X57
  show RnS w l _ n0 _ Z EL1 [u23, b1] 46 _ [(.ref la53), (.ref b1)] h56 4 52
  refine RnS.liftC (fun vm0 hs r => have K := K.on hs; Rn.virt K (q := 49) (W := 0) (y := oM23) (z := oM23) (b := b1) (argsL := [(.ref la53)]) (rest := []) (oT 88 rfl) (oT 89 rfl) (nfs K (oT 91 rfl)) (oT 91 rfl) (oT 90 rfl) (oT 92 rfl) (oT 71 rfl) (by decide) (m_app16_0_7 l Z a0 hw n0 h56 b1 u23 ku24  la53 lb54 k55 (99 : Int32) (108 : Int32) (105 : Int32) (101 : Int32) (110 : Int32) (116 : Int32) (32 : Int32) cst f63 SC hcs f76 g_b1 f77 f78 f79 f80 gu26 f81 q58 q59 q60 q61 (Ne.symm (q62 u23 (oT 0 rfl)).2) (Ne.symm (q62 b1 (oT 1 rfl)).2)) f76 (by decide) (by decide) rfl (lenOf pd_24 rfl) rfl (oL rfl) d11_46 rfl (by decide) (by decide) r) (by rintro _ _ ⟨rfl, Kp, -⟩; exact own_kpL Kp (by simp)) ?_
  rintro _ h82 ⟨rfl, K83, F84, F85, F86, A87⟩
  have f88 := f63.keep K83 (allS g_b1 (allS gu26 all0))
  have f89 := f64.trans K83 (allS (Or.inr sz_b1) (allS (Or.inr sz38) all0))
  have f90 := f65.keep K83
  have f91 := f66.keep K83 (ninS ne_s_b1 (ninS ne32 nin0))
  have f92 := f67.keep K83 (ninS ne_s_b1 (ninS ne32 nin0))
  have f93 := f68.keep K83 (ninS ne_v_b1 (ninS ne33 nin0))
  have f94 := f69.keep K83
  have f95 := f70.keep K83 (ninS ne_t_b1 (ninS ne34 nin0))
  have f96 := f71.keep K83 (ninS ne_t_b1 (ninS ne34 nin0))
  have f97 := f72.keep K83 (ninS ne_w__b1 (ninS ne35 nin0))
  have f98 := f73.keep K83
  have f99 := f74.keep K83 (ninS ne_o_b1 (ninS ne36 nin0))
  have f100 := f75.keep K83 (ninS ne_o_b1 (ninS ne36 nin0))
  have f101 := f76.keep K83
  have f102 := f80.keep K83
  have f103 := q58.keep K83
  have f106 := q61.keep K83 (ninS (Ne.symm (q62 b1 (oT 1 rfl)).2) (ninS (Ne.symm (q62 u23 (oT 0 rfl)).2) nin0))
  show RnS w l _ n0 _ Z EL1 [u23, b1] 49 _ [(.ref b1)] h82 4 52
  refine RnS.lift (fun vm0 hs r => have K := K.on hs; Rn.aloadN K (q := 50) d11_49 rfl rfl rfl r) ?_
  refine RnS.lift (fun vm0 hs r => have K := K.on hs; Rn.getF K (q := 53) (oT 57 rfl) Via.refl f100 d11_50 rfl r) ?_
  refine RnS.liftC (fun vm0 hs r => have K := K.on hs; Rn.virt K (q := 56) (W := 0) (y := oM23) (z := oM23) (b := b1) (argsL := [(.ref t)]) (rest := []) (oT 88 rfl) (oT 89 rfl) (nfs K (oT 91 rfl)) (oT 91 rfl) (oT 90 rfl) (oT 92 rfl) (oT 71 rfl) (by decide) (m_app16_7_2 l Z a0 hw n0 h82 b1 u23 ku24 (99 : Int32) (108 : Int32) (105 : Int32) (101 : Int32) (110 : Int32) (116 : Int32) (32 : Int32) t w_ kw y0 y1 cst f88 SC hcs f101 g_b1 F84 F85 F86 f102 gu26 A87 f94 f95 f96 f97 ne35 ne_w__b1) f101 (by decide) (by decide) rfl (lenOf pd_24 rfl) rfl (oL rfl) d11_53 rfl (by decide) (by decide) r) (by rintro _ _ ⟨rfl, Kp, -⟩; exact own_kpL Kp (by simp)) ?_
  rintro _ h107 ⟨rfl, K108, F109, F110, F111, A112⟩
  have f113 := f88.keep K108 (allS g_b1 (allS gu26 all0))
  have f114 := f89.trans K108 (allS (Or.inr sz_b1) (allS (Or.inr sz38) all0))
  have f115 := f90.keep K108
  have f116 := f91.keep K108 (ninS ne_s_b1 (ninS ne32 nin0))
  have f117 := f92.keep K108 (ninS ne_s_b1 (ninS ne32 nin0))
  have f118 := f93.keep K108 (ninS ne_v_b1 (ninS ne33 nin0))
  have f119 := f94.keep K108
  have f122 := f97.keep K108 (ninS ne_w__b1 (ninS ne35 nin0))
  have f123 := f98.keep K108
  have f124 := f99.keep K108 (ninS ne_o_b1 (ninS ne36 nin0))
  have f126 := f101.keep K108
  have f127 := f102.keep K108
  have f128 := f103.keep K108
  have f131 := f106.keep K108 (ninS (Ne.symm (q62 b1 (oT 1 rfl)).2) (ninS (Ne.symm (q62 u23 (oT 0 rfl)).2) nin0))
  show RnS w l _ n0 _ Z EL1 [u23, b1] 56 _ [(.ref b1)] h107 4 52
  refine RnS.ldcS K (q := 58) (n := 84) (vs := [(.int (39 : Int32)), (.int (115 : Int32)), (.int (32 : Int32)), (.int (97 : Int32)), (.int (99 : Int32)), (.int (99 : Int32)), (.int (111 : Int32)), (.int (117 : Int32)), (.int (110 : Int32)), (.int (116 : Int32)), (.int (32 : Int32)), (.int (97 : Int32)), (.int (116 : Int32)), (.int (32 : Int32)), (.int (109 : Int32)), (.int (101 : Int32)), (.int (109 : Int32)), (.int (98 : Int32)), (.int (101 : Int32)), (.int (114 : Int32)), (.int (32 : Int32))]) (z := (21 : Int32)) (oT 135 rfl) wS hEL (oT 5 rfl) (by decide) (by decide) rfl (by decide) (by decide) (by decide) (by decide) d11_56 rfl ?_
  intro la132 lb133 k134 h135 X136 q137 q138 q139 q140 q141
  have f142 := f113.ext X136
  have f143 := f114.ext X136
  have f144 := f115.ext X136
  have f145 := f116.ext X136
  have f146 := f117.ext X136
  have f147 := f118.ext X136
  have f148 := f119.ext X136
  have f151 := f122.ext X136
  have f152 := f123.ext X136
  have f153 := f124.ext X136
  have f155 := f126.ext X136
  have f156 := f127.ext X136
  have f157 := f128.ext X136
  have f160 := f131.ext X136
  have f161 := F109.ext X136
  have f162 := F110.ext X136
  have f163 := F111.ext X136
  have f164 := A112.ext X136
  show RnS w l _ n0 _ Z EL1 [u23, b1] 58 _ [(.ref la132), (.ref b1)] h135 6 140
  refine RnS.liftCN (fun vm0 hs r => have K := K.on hs; Rn.virt K (q := 61) (W := 0) (y := oM23) (z := oM23) (b := b1) (argsL := [(.ref la132)]) (rest := []) (oT 88 rfl) (oT 89 rfl) (nfs K (oT 91 rfl)) (oT 91 rfl) (oT 90 rfl) (oT 92 rfl) (oT 71 rfl) (by decide) (m_appG34_9_21 l Z a0 hw n0 h135 b1 u23 ku24 (99 : Int32) (108 : Int32) (105 : Int32) (101 : Int32) (110 : Int32) (116 : Int32) (32 : Int32) y0 y1 la132 lb133 k134 (39 : Int32) (115 : Int32) (32 : Int32) (97 : Int32) (99 : Int32) (99 : Int32) (111 : Int32) (117 : Int32) (110 : Int32) (116 : Int32) (32 : Int32) (97 : Int32) (116 : Int32) (32 : Int32) (109 : Int32) (101 : Int32) (109 : Int32) (98 : Int32) (101 : Int32) (114 : Int32) (32 : Int32) cst f142 SC hcs f155 g_b1 f161 f162 f163 f156 gu26 f164 q137 q138 q139 q140 (Ne.symm (q141 u23 (oT 0 rfl)).2) (Ne.symm (q141 b1 (oT 1 rfl)).2)) f155 (by decide) (by decide) rfl (lenOf pd_24 rfl) rfl (oL rfl) d11_58 rfl (by decide) (by decide) r) (by rintro _ _ ⟨rfl, Kp, -⟩; exact own_kpL Kp (by simp)) ?_
  rintro _ h165 ⟨rfl, K166, u167, ku168, su169, gu170, F171, F172, F173, E174, A175⟩
  refine ⟨[u167], (fun x hx => by rw [List.mem_singleton.mp hx]; exact ⟨su169, E174.lt⟩), ?_⟩
  have ne176 : s ≠ u167 := fun e => absurd f144.lt (by rw [e]; exact Nat.not_lt.mpr su169)
  have ne177 : v ≠ u167 := fun e => absurd f147.lt (by rw [e]; exact Nat.not_lt.mpr su169)
  have ne178 : t ≠ u167 := fun e => absurd f148.lt (by rw [e]; exact Nat.not_lt.mpr su169)
  have ne179 : w_ ≠ u167 := fun e => absurd f151.lt (by rw [e]; exact Nat.not_lt.mpr su169)
  have ne180 : o ≠ u167 := fun e => absurd f152.lt (by rw [e]; exact Nat.not_lt.mpr su169)
  have ne181 : b1 ≠ u167 := fun e => absurd f155.lt (by rw [e]; exact Nat.not_lt.mpr su169)
  have ne182 : u23 ≠ u167 := fun e => absurd f156.lt (by rw [e]; exact Nat.not_lt.mpr su169)
  have ne183 : la53 ≠ u167 := fun e => absurd f157.lt (by rw [e]; exact Nat.not_lt.mpr su169)
  have ne184 : lb54 ≠ u167 := fun e => absurd f160.lt (by rw [e]; exact Nat.not_lt.mpr su169)
  have ne185 : la132 ≠ u167 := fun e => absurd q137.lt (by rw [e]; exact Nat.not_lt.mpr su169)
  have ne186 : lb133 ≠ u167 := fun e => absurd q140.lt (by rw [e]; exact Nat.not_lt.mpr su169)
  have sz187 : h0.size ≤ u167 := Nat.le_trans f143.1 su169
  have f188 := f142.keep K166 (allS g_b1 all0)
  have f189 := f143.trans K166 (allS (Or.inr sz_b1) all0)
  have f190 := f144.keep K166
  have f191 := f145.keep K166 (ninS ne_s_b1 nin0)
  have f192 := f146.keep K166 (ninS ne_s_b1 nin0)
  have f193 := f147.keep K166 (ninS ne_v_b1 nin0)
  have f199 := f153.keep K166 (ninS ne_o_b1 nin0)
  have f201 := f155.keep K166
  show RnS w l _ n0 _ Z EL1 [u167, u23, b1] 61 _ [(.ref b1)] h165 7 174
  refine RnS.lift (fun vm0 hs r => have K := K.on hs; Rn.aloadN K (q := 62) d11_61 rfl rfl rfl r) ?_
  refine RnS.lift (fun vm0 hs r => have K := K.on hs; Rn.getF K (q := 65) (oT 55 rfl) Via.refl f199 d11_62 rfl r) ?_
  refine RnS.liftC (fun vm0 hs r => have K := K.on hs; Rn.virt K (q := 68) (W := 0) (y := oM23) (z := oM23) (b := b1) (argsL := [(.ref s)]) (rest := []) (oT 88 rfl) (oT 89 rfl) (nfs K (oT 91 rfl)) (oT 91 rfl) (oT 90 rfl) (oT 92 rfl) (oT 71 rfl) (by decide) (m_app34_30_2 l Z a0 hw n0 h165 b1 u167 ku168 (99 : Int32) (108 : Int32) (105 : Int32) (101 : Int32) (110 : Int32) (116 : Int32) (32 : Int32) y0 y1 (39 : Int32) (115 : Int32) (32 : Int32) (97 : Int32) (99 : Int32) (99 : Int32) (111 : Int32) (117 : Int32) (110 : Int32) (116 : Int32) (32 : Int32) (97 : Int32) (116 : Int32) (32 : Int32) (109 : Int32) (101 : Int32) (109 : Int32) (98 : Int32) (101 : Int32) (114 : Int32) (32 : Int32) s v k x0 x1 cst f188 SC hcs f201 g_b1 F171 F172 F173 E174 gu170 A175 f190 f191 f192 f193 ne177 ne_v_b1) f201 (by decide) (by decide) rfl (lenOf pd_24 rfl) rfl (oL rfl) d11_65 rfl (by decide) (by decide) r) (by rintro _ _ ⟨rfl, Kp, -⟩; exact own_kpL Kp (by simp)) ?_
  rintro _ h212 ⟨rfl, K213, F214, F215, F216, A217⟩
  have f218 := f188.keep K213 (allS g_b1 (allS gu170 all0))
  have f219 := f189.trans K213 (allS (Or.inr sz_b1) (allS (Or.inr sz187) all0))
  have f231 := f201.keep K213
  have f242 := E174.keep K213
  show RnS w l _ n0 _ Z EL1 [u167, u23, b1] 68 _ [(.ref b1)] h212 7 174
  refine RnS.liftC (fun vm0 hs r => have K := K.on hs; Rn.virt K (q := 71) (W := 0) (y := oM33) (z := oM33) (b := b1) (argsL := []) (rest := []) (oT 159 rfl) (oT 160 rfl) (nfs K (oT 162 rfl)) (oT 162 rfl) (oT 161 rfl) (oT 163 rfl) (oT 71 rfl) (by decide) (m_tos32 l Z a0 hw n0 h212 b1 u167 ku168 (99 : Int32) (108 : Int32) (105 : Int32) (101 : Int32) (110 : Int32) (116 : Int32) (32 : Int32) y0 y1 (39 : Int32) (115 : Int32) (32 : Int32) (97 : Int32) (99 : Int32) (99 : Int32) (111 : Int32) (117 : Int32) (110 : Int32) (116 : Int32) (32 : Int32) (97 : Int32) (116 : Int32) (32 : Int32) (109 : Int32) (101 : Int32) (109 : Int32) (98 : Int32) (101 : Int32) (114 : Int32) (32 : Int32) x0 x1 cst f218 SC hcs f231 g_b1 F214 F215 F216 f242 gu170 A217) f231 (by decide) (by decide) rfl (lenOf pd_25 rfl) rfl (oL rfl) d11_68 rfl (by decide) (by decide) r) (by rintro _ _ ⟨s, v, k, rfl, -, Kp, -⟩; exact own_kp1 Kp) ?_
  rintro _ h243 ⟨rs, rv, rk, rfl, srs, K244, E245, F246, F247, A248⟩
  have szr : h0.size ≤ rs := Nat.le_trans f219.1 srs
  have f250 := f219.trans K244 all0
  show RnS w l _ n0 _ Z EL1 [u167, u23, b1] 71 _ [(.ref rs)] h243 9 210
  exact RnS.retA K hEL (.object "java/lang/String") rfl rfl rfl d11_71 (by decide) (by decide) ⟨_, _, _, rfl, szr, f250, E245, F246, F247, A248⟩
theorem pn_m_law : plainName "com/example/fuseline/fuseline/model/AccountDescribePinLaw" = true := by first | (simp [plainName, overriddenIn]; done) | decide +kernel
theorem m_law (l : Launch) (Z : State) (a0 : Array Value) (hw : oH Z a0) (n0 : Nat) (h0 : Heap) (p1 p2 p3 p4 p5 : Int32) (cst : Int32) (X0 : Old Z n0 h0) (SC : oSC Z cst) (hcs : ¬ cst = 0) :
    MetS l Z EL1 x code maxLocals ret room_1 n0 tables_1 [] #[(.int p1), (.int p2), (.int p3), (.int p4), (.int p5)] h0 (fun v _ => v = some (.int (1 : Int32))) := by
  refine MetS.intro (Ls := #[.val (.int p1), .val (.int p2), .val (.int p3), .val (.int p4), .val (.int p5), .unset, .unset, .unset, .unset, .unset, .unset, .unset, .unset, .unset, .unset]) (plainFor_of_name pn_m_law) hw (fun m => by first | rfl | (simp [entryFrame, mkF, argsToLocals, Value.category, maxLocals]; done)) ?_
  intro w K0
  have hEL := own_EW hw
  have wS := own_wS hw
  have K : oK38 w Z a0 := K0
  refine RnS.lift (fun vm0 hs r => have K := K.on hs; Rn.iloadN K (q := 1) at_0 rfl rfl r) ?_
  refine RnS.lift (fun vm0 hs r => have K := K.on hs; Rn.sipush K (q := 4) (255 : Int32) at_1 rfl rfl r) ?_
  refine RnS.lift (fun vm0 hs r => have K := K.on hs; Rn.iand K (q := 5) at_4 rfl r) ?_
  refine RnS.lift (fun vm0 hs r => have K := K.on hs; Rn.i2c K (q := 6) at_5 rfl r) ?_
  refine RnS.lift (fun vm0 hs r => have K := K.on hs; Rn.istore K (q := 8) (Ls' := #[.val (.int p1), .val (.int p2), .val (.int p3), .val (.int p4), .val (.int p5), .val (.int (p1 &&& (255 : Int32)).toUInt32.toUInt16.toUInt32.toInt32), .unset, .unset, .unset, .unset, .unset, .unset, .unset, .unset, .unset]) at_6 rfl rfl r) ?_
  refine RnS.lift (fun vm0 hs r => have K := K.on hs; Rn.iloadN K (q := 9) at_8 rfl rfl r) ?_
  refine RnS.lift (fun vm0 hs r => have K := K.on hs; Rn.sipush K (q := 12) (255 : Int32) at_9 rfl rfl r) ?_
  refine RnS.lift (fun vm0 hs r => have K := K.on hs; Rn.iand K (q := 13) at_12 rfl r) ?_
  refine RnS.lift (fun vm0 hs r => have K := K.on hs; Rn.i2c K (q := 14) at_13 rfl r) ?_
  refine RnS.lift (fun vm0 hs r => have K := K.on hs; Rn.istore K (q := 16) (Ls' := #[.val (.int p1), .val (.int p2), .val (.int p3), .val (.int p4), .val (.int p5), .val (.int (p1 &&& (255 : Int32)).toUInt32.toUInt16.toUInt32.toInt32), .val (.int (p2 &&& (255 : Int32)).toUInt32.toUInt16.toUInt32.toInt32), .unset, .unset, .unset, .unset, .unset, .unset, .unset, .unset]) at_14 rfl rfl r) ?_
  refine RnS.lift (fun vm0 hs r => have K := K.on hs; Rn.iloadN K (q := 17) at_16 rfl rfl r) ?_
  refine RnS.lift (fun vm0 hs r => have K := K.on hs; Rn.sipush K (q := 20) (255 : Int32) at_17 rfl rfl r) ?_
  refine RnS.lift (fun vm0 hs r => have K := K.on hs; Rn.iand K (q := 21) at_20 rfl r) ?_
  refine RnS.lift (fun vm0 hs r => have K := K.on hs; Rn.i2c K (q := 22) at_21 rfl r) ?_
  refine RnS.lift (fun vm0 hs r => have K := K.on hs; Rn.istore K (q := 24) (Ls' := #[.val (.int p1), .val (.int p2), .val (.int p3), .val (.int p4), .val (.int p5), .val (.int (p1 &&& (255 : Int32)).toUInt32.toUInt16.toUInt32.toInt32), .val (.int (p2 &&& (255 : Int32)).toUInt32.toUInt16.toUInt32.toInt32), .val (.int (p3 &&& (255 : Int32)).toUInt32.toUInt16.toUInt32.toInt32), .unset, .unset, .unset, .unset, .unset, .unset, .unset]) at_22 rfl rfl r) ?_
  refine RnS.lift (fun vm0 hs r => have K := K.on hs; Rn.iloadN K (q := 25) at_24 rfl rfl r) ?_
  refine RnS.lift (fun vm0 hs r => have K := K.on hs; Rn.sipush K (q := 28) (255 : Int32) at_25 rfl rfl r) ?_
  refine RnS.lift (fun vm0 hs r => have K := K.on hs; Rn.iand K (q := 29) at_28 rfl r) ?_
  refine RnS.lift (fun vm0 hs r => have K := K.on hs; Rn.i2c K (q := 30) at_29 rfl r) ?_
  refine RnS.lift (fun vm0 hs r => have K := K.on hs; Rn.istore K (q := 32) (Ls' := #[.val (.int p1), .val (.int p2), .val (.int p3), .val (.int p4), .val (.int p5), .val (.int (p1 &&& (255 : Int32)).toUInt32.toUInt16.toUInt32.toInt32), .val (.int (p2 &&& (255 : Int32)).toUInt32.toUInt16.toUInt32.toInt32), .val (.int (p3 &&& (255 : Int32)).toUInt32.toUInt16.toUInt32.toInt32), .val (.int (p4 &&& (255 : Int32)).toUInt32.toUInt16.toUInt32.toInt32), .unset, .unset, .unset, .unset, .unset, .unset]) at_30 rfl rfl r) ?_
  refine RnS.lift (fun vm0 hs r => have K := K.on hs; Rn.iload K (q := 34) at_32 rfl rfl r) ?_
  refine RnS.lift (fun vm0 hs r => have K := K.on hs; Rn.iconst K (q := 35) (1 : Int32) at_34 rfl rfl r) ?_
  refine RnS.lift (fun vm0 hs r => have K := K.on hs; Rn.iand K (q := 36) at_35 rfl r) ?_
  by_cases hc36 : (p5 &&& (1 : Int32)) = (0 : Int32)
  · refine RnS.lift (fun vm0 hs r => have K := K.on hs; Rn.ifY K (q := 43) at_36 (XT.i0_eq_t hc36) (by decide) (by decide) r) ?_
    refine RnS.lift (fun vm0 hs r => have K := K.on hs; Rn.iconst K (q := 44) (0 : Int32) at_43 rfl rfl r) ?_
    refine RnS.lift (fun vm0 hs r => have K := K.on hs; Rn.istore K (q := 46) (Ls' := #[.val (.int p1), .val (.int p2), .val (.int p3), .val (.int p4), .val (.int p5), .val (.int (p1 &&& (255 : Int32)).toUInt32.toUInt16.toUInt32.toInt32), .val (.int (p2 &&& (255 : Int32)).toUInt32.toUInt16.toUInt32.toInt32), .val (.int (p3 &&& (255 : Int32)).toUInt32.toUInt16.toUInt32.toInt32), .val (.int (p4 &&& (255 : Int32)).toUInt32.toUInt16.toUInt32.toInt32), .val oZ, .unset, .unset, .unset, .unset, .unset]) at_44 rfl rfl r) ?_
    refine RnS.newO K (q := 49) (oT 0 rfl) (oT 1 rfl) (oT 2 rfl) (by decide) (by decide) at_46 rfl ?_
    intro b1 h2 gb1_ X3 A_b1 D4
    have g_b1 : n0 ≤ b1 := by rw [gb1_]; exact X0.1 ▸ X0.2.1
    have f5 := X0.ext X3
    have f6 : Fld Z h2 b1 "java/lang/String" "coder" "B" (.int (0 : Int32)) := D4 (Or.inr (K.hw _ (oT 27 rfl))) (ty := .byte) (by decide)
    have f7 : Fld Z h2 b1 "java/lang/String" "value" "[B" .null := D4 (Or.inr (K.hw _ (oT 29 rfl))) (ty := (.array .byte)) (by decide)
    show RnS w l _ n0 _ Z EL1 [b1] 49 _ [(.ref b1)] h2 1 4
    refine RnS.lift (fun vm0 hs r => have K := K.on hs; Rn.dup K (q := 50) at_49 rfl rfl r) ?_
    refine RnS.lift (fun vm0 hs r => have K := K.on hs; Rn.iconst K (q := 51) (2 : Int32) at_50 rfl rfl r) ?_
    refine RnS.newP K (q := 53) (cap := 2) (oT 3 rfl) (by decide) (by decide) (by decide) (by decide) (by decide) (ad := "[C") (by decide) at_51 rfl ?_
    intro b8 h9 k11 gb8_ X10 A_b8 EA_b8
    have ne_b1_b8 : b1 ≠ b8 := fun e => absurd A_b1.lt (by rw [e, gb8_]; exact Nat.lt_irrefl _)
    have g_b8 : n0 ≤ b8 := by rw [gb8_]; exact f5.1 ▸ f5.2.1
    have f12 := f5.ext X10
    have f13 := A_b1.ext X10
    have f14 := f6.ext X10
    have f15 := f7.ext X10
    replace A_b8 : Arv Z h9 b8 k11 .char (2 : Int32) [oZ, oZ] oZ := A_b8.pad (pad_rep [] oZ 2)
    show RnS w l _ n0 _ Z EL1 [b8, b1] 53 _ [(.ref b8), (.ref b1), (.ref b1)] h9 2 6
    refine RnS.lift (fun vm0 hs r => have K := K.on hs; Rn.dup K (q := 54) at_53 rfl rfl r) ?_
    refine RnS.lift (fun vm0 hs r => have K := K.on hs; Rn.iconst K (q := 55) (0 : Int32) at_54 rfl rfl r) ?_
    refine RnS.lift (fun vm0 hs r => have K := K.on hs; Rn.iload K (q := 57) at_55 rfl rfl r) ?_
    refine RnS.liftWP (Or.inl (oT 0 rfl)) (fun vm0 hs r => have K := K.on hs; Rn.castore K (q := 58) (i := 0) A_b8 (by decide) rfl (oL rfl) g_b8 at_57 rfl r) ?_
    intro h16 W17 A18
    have f19 := f12.wr W17 g_b8
    have f20 := f13.wr W17
    have f21 := Fld.other W17 f14 (Or.inl ne_b1_b8)
    have f22 := Fld.other W17 f15 (Or.inl ne_b1_b8)
    have f23 := EA_b8.wr W17
    replace A18 : Arv Z h16 b8 k11 .char (2 : Int32) [(.int (nar .char (p1 &&& (255 : Int32)).toUInt32.toUInt16.toUInt32.toInt32)), oZ] oZ := A18
    refine RnS.lift (fun vm0 hs r => have K := K.on hs; Rn.dup K (q := 59) at_58 rfl rfl r) ?_
    refine RnS.lift (fun vm0 hs r => have K := K.on hs; Rn.iconst K (q := 60) (1 : Int32) at_59 rfl rfl r) ?_
    refine RnS.lift (fun vm0 hs r => have K := K.on hs; Rn.iload K (q := 62) at_60 rfl rfl r) ?_
    refine RnS.liftWP (Or.inl (oT 0 rfl)) (fun vm0 hs r => have K := K.on hs; Rn.castore K (q := 63) (i := 1) A18 (by decide) rfl (oL rfl) g_b8 at_62 rfl r) ?_
    intro h24 W25 A26
    have f27 := f19.wr W25 g_b8
    have f28 := f20.wr W25
    have f29 := Fld.other W25 f21 (Or.inl ne_b1_b8)
    have f30 := Fld.other W25 f22 (Or.inl ne_b1_b8)
    have f31 := f23.wr W25
    replace A26 : Arv Z h24 b8 k11 .char (2 : Int32) [(.int (nar .char (p1 &&& (255 : Int32)).toUInt32.toUInt16.toUInt32.toInt32)), (.int (nar .char (p2 &&& (255 : Int32)).toUInt32.toUInt16.toUInt32.toInt32))] oZ := A26
    refine RnS.liftC (fun vm0 hs r => have K := K.on hs; Rn.spec K (q := 66) (W := 1) (y := oM8) (b := b1) (argsL := [(.ref b8)]) (rest := [(.ref b1)]) rfl (oT 4 rfl) (oT 5 rfl) (oT 6 rfl) (oT 2 rfl) (by decide) (m_ic2 l Z a0 hw n0 h24 b1 b8 k11 (nar .char (p1 &&& (255 : Int32)).toUInt32.toUInt16.toUInt32.toInt32) (nar .char (p2 &&& (255 : Int32)).toUInt32.toUInt16.toUInt32.toInt32) cst f27 SC hcs f28 g_b1 f30 f29 f31 A26 (own_ch2 p1) (own_ch2 p2)) (by decide) (by decide) rfl (lenOf pd_26 rfl) rfl (oL rfl) at_63 rfl (by decide) (by decide) r) (by rintro _ _ ⟨rfl, Kp, -⟩; exact own_kpL Kp (by simp)) ?_
    rintro _ h32 ⟨rfl, K33, v34, k35, F36, F37, E38, A39⟩
    have f40 := f27.keep K33 (allS g_b1 all0)
    have f41 := f28.keep K33
    replace A39 : Arv Z h32 v34 k35 .byte (2 : Int32) [(.int (nar .byte (nar .char (p1 &&& (255 : Int32)).toUInt32.toUInt16.toUInt32.toInt32).toInt8.toInt32)), (.int (nar .byte (nar .char (p2 &&& (255 : Int32)).toUInt32.toUInt16.toUInt32.toInt32).toInt8.toInt32))] oZ := A39
    show RnS w l _ n0 _ Z EL1 [b8, b1] 66 _ [(.ref b1)] h32 3 8
    refine RnS.lift (fun vm0 hs r => have K := K.on hs; Rn.astore K (q := 68) (Ls' := #[.val (.int p1), .val (.int p2), .val (.int p3), .val (.int p4), .val (.int p5), .val (.int (p1 &&& (255 : Int32)).toUInt32.toUInt16.toUInt32.toInt32), .val (.int (p2 &&& (255 : Int32)).toUInt32.toUInt16.toUInt32.toInt32), .val (.int (p3 &&& (255 : Int32)).toUInt32.toUInt16.toUInt32.toInt32), .val (.int (p4 &&& (255 : Int32)).toUInt32.toUInt16.toUInt32.toInt32), .val oZ, .val (.ref b1), .unset, .unset, .unset, .unset]) at_66 rfl rfl rfl r) ?_
    refine RnS.lift (fun vm0 hs r => have K := K.on hs; Rn.iload K (q := 70) at_68 rfl rfl r) ?_
    refine RnS.lift (fun vm0 hs r => have K := K.on hs; Rn.ifY K (q := 78) at_70 (XT.i0_eq_t rfl) (by decide) (by decide) r) ?_
    refine RnS.newO K (q := 81) (oT 0 rfl) (oT 1 rfl) (oT 2 rfl) (by decide) (by decide) at_78 rfl ?_
    intro b44 h45 gb44_ X46 A_b44 D47
    have ne_b1_b44 : b1 ≠ b44 := fun e => absurd f41.lt (by rw [e, gb44_]; exact Nat.lt_irrefl _)
    have ne_v34_b44 : v34 ≠ b44 := fun e => absurd E38.lt (by rw [e, gb44_]; exact Nat.lt_irrefl _)
    have ne_v34_b44 : v34 ≠ b44 := fun e => absurd E38.lt (by rw [e, gb44_]; exact Nat.lt_irrefl _)
    have g_b44 : n0 ≤ b44 := by rw [gb44_]; exact f40.1 ▸ f40.2.1
    have f48 := f40.ext X46
    have f49 := f41.ext X46
    have f50 := F36.ext X46
    have f51 := F37.ext X46
    have f52 := E38.ext X46
    have f53 := A39.ext X46
    have f54 : Fld Z h45 b44 "java/lang/String" "coder" "B" (.int (0 : Int32)) := D47 (Or.inr (K.hw _ (oT 27 rfl))) (ty := .byte) (by decide)
    have f55 : Fld Z h45 b44 "java/lang/String" "value" "[B" .null := D47 (Or.inr (K.hw _ (oT 29 rfl))) (ty := (.array .byte)) (by decide)
    show RnS w l _ n0 _ Z EL1 [b44, b8, b1] 81 _ [(.ref b44)] h45 4 12
    refine RnS.lift (fun vm0 hs r => have K := K.on hs; Rn.dup K (q := 82) at_81 rfl rfl r) ?_
    refine RnS.lift (fun vm0 hs r => have K := K.on hs; Rn.iconst K (q := 83) (2 : Int32) at_82 rfl rfl r) ?_
    refine RnS.newP K (q := 85) (cap := 2) (oT 3 rfl) (by decide) (by decide) (by decide) (by decide) (by decide) (ad := "[C") (by decide) at_83 rfl ?_
    intro b56 h57 k59 gb56_ X58 A_b56 EA_b56
    have ne_b1_b56 : b1 ≠ b56 := fun e => absurd f49.lt (by rw [e, gb56_]; exact Nat.lt_irrefl _)
    have ne_v34_b56 : v34 ≠ b56 := fun e => absurd f52.lt (by rw [e, gb56_]; exact Nat.lt_irrefl _)
    have ne_v34_b56 : v34 ≠ b56 := fun e => absurd f52.lt (by rw [e, gb56_]; exact Nat.lt_irrefl _)
    have ne_b44_b56 : b44 ≠ b56 := fun e => absurd A_b44.lt (by rw [e, gb56_]; exact Nat.lt_irrefl _)
    have g_b56 : n0 ≤ b56 := by rw [gb56_]; exact f48.1 ▸ f48.2.1
    have f60 := f48.ext X58
    have f61 := f49.ext X58
    have f62 := f50.ext X58
    have f63 := f51.ext X58
    have f64 := f52.ext X58
    have f65 := f53.ext X58
    have f66 := A_b44.ext X58
    have f67 := f54.ext X58
    have f68 := f55.ext X58
    replace A_b56 : Arv Z h57 b56 k59 .char (2 : Int32) [oZ, oZ] oZ := A_b56.pad (pad_rep [] oZ 2)
    show RnS w l _ n0 _ Z EL1 [b56, b44, b8, b1] 85 _ [(.ref b56), (.ref b44), (.ref b44)] h57 5 14
    refine RnS.lift (fun vm0 hs r => have K := K.on hs; Rn.dup K (q := 86) at_85 rfl rfl r) ?_
    refine RnS.lift (fun vm0 hs r => have K := K.on hs; Rn.iconst K (q := 87) (0 : Int32) at_86 rfl rfl r) ?_
    refine RnS.lift (fun vm0 hs r => have K := K.on hs; Rn.iload K (q := 89) at_87 rfl rfl r) ?_
    refine RnS.liftWP (Or.inl (oT 0 rfl)) (fun vm0 hs r => have K := K.on hs; Rn.castore K (q := 90) (i := 0) A_b56 (by decide) rfl (oL rfl) g_b56 at_89 rfl r) ?_
    intro h69 W70 A71
    have f72 := f60.wr W70 g_b56
    have f73 := f61.wr W70
    have f74 := Fld.other W70 f62 (Or.inl ne_b1_b56)
    have f75 := Fld.other W70 f63 (Or.inl ne_b1_b56)
    have f76 := f64.wr W70
    have f77 := f65.other W70 ne_v34_b56
    have f78 := f66.wr W70
    have f79 := Fld.other W70 f67 (Or.inl ne_b44_b56)
    have f80 := Fld.other W70 f68 (Or.inl ne_b44_b56)
    have f81 := EA_b56.wr W70
    replace A71 : Arv Z h69 b56 k59 .char (2 : Int32) [(.int (nar .char (p3 &&& (255 : Int32)).toUInt32.toUInt16.toUInt32.toInt32)), oZ] oZ := A71
    refine RnS.lift (fun vm0 hs r => have K := K.on hs; Rn.dup K (q := 91) at_90 rfl rfl r) ?_
    refine RnS.lift (fun vm0 hs r => have K := K.on hs; Rn.iconst K (q := 92) (1 : Int32) at_91 rfl rfl r) ?_
    refine RnS.lift (fun vm0 hs r => have K := K.on hs; Rn.iload K (q := 94) at_92 rfl rfl r) ?_
    refine RnS.liftWP (Or.inl (oT 0 rfl)) (fun vm0 hs r => have K := K.on hs; Rn.castore K (q := 95) (i := 1) A71 (by decide) rfl (oL rfl) g_b56 at_94 rfl r) ?_
    intro h82 W83 A84
    have f85 := f72.wr W83 g_b56
    have f86 := f73.wr W83
    have f87 := Fld.other W83 f74 (Or.inl ne_b1_b56)
    have f88 := Fld.other W83 f75 (Or.inl ne_b1_b56)
    have f89 := f76.wr W83
    have f90 := f77.other W83 ne_v34_b56
    have f91 := f78.wr W83
    have f92 := Fld.other W83 f79 (Or.inl ne_b44_b56)
    have f93 := Fld.other W83 f80 (Or.inl ne_b44_b56)
    have f94 := f81.wr W83
    replace A84 : Arv Z h82 b56 k59 .char (2 : Int32) [(.int (nar .char (p3 &&& (255 : Int32)).toUInt32.toUInt16.toUInt32.toInt32)), (.int (nar .char (p4 &&& (255 : Int32)).toUInt32.toUInt16.toUInt32.toInt32))] oZ := A84
    refine RnS.liftC (fun vm0 hs r => have K := K.on hs; Rn.spec K (q := 98) (W := 1) (y := oM8) (b := b44) (argsL := [(.ref b56)]) (rest := [(.ref b44)]) rfl (oT 4 rfl) (oT 5 rfl) (oT 6 rfl) (oT 2 rfl) (by decide) (m_ic2 l Z a0 hw n0 h82 b44 b56 k59 (nar .char (p3 &&& (255 : Int32)).toUInt32.toUInt16.toUInt32.toInt32) (nar .char (p4 &&& (255 : Int32)).toUInt32.toUInt16.toUInt32.toInt32) cst f85 SC hcs f91 g_b44 f93 f92 f94 A84 (own_ch2 p3) (own_ch2 p4)) (by decide) (by decide) rfl (lenOf pd_26 rfl) rfl (oL rfl) at_95 rfl (by decide) (by decide) r) (by rintro _ _ ⟨rfl, Kp, -⟩; exact own_kpL Kp (by simp)) ?_
    rintro _ h95 ⟨rfl, K96, v97, k98, F99, F100, E101, A102⟩
    have f103 := f85.keep K96 (allS g_b44 all0)
    have f104 := f86.keep K96
    have f105 := f87.keep K96 (ninS ne_b1_b44 nin0)
    have f106 := f88.keep K96 (ninS ne_b1_b44 nin0)
    have f107 := f89.keep K96
    have f108 := f90.keep K96 (ninS ne_v34_b44 nin0)
    have f109 := f91.keep K96
    replace A102 : Arv Z h95 v97 k98 .byte (2 : Int32) [(.int (nar .byte (nar .char (p3 &&& (255 : Int32)).toUInt32.toUInt16.toUInt32.toInt32).toInt8.toInt32)), (.int (nar .byte (nar .char (p4 &&& (255 : Int32)).toUInt32.toUInt16.toUInt32.toInt32).toInt8.toInt32))] oZ := A102
    show RnS w l _ n0 _ Z EL1 [b56, b44, b8, b1] 98 _ [(.ref b44)] h95 6 16
    refine RnS.lift (fun vm0 hs r => have K := K.on hs; Rn.astore K (q := 100) (Ls' := #[.val (.int p1), .val (.int p2), .val (.int p3), .val (.int p4), .val (.int p5), .val (.int (p1 &&& (255 : Int32)).toUInt32.toUInt16.toUInt32.toInt32), .val (.int (p2 &&& (255 : Int32)).toUInt32.toUInt16.toUInt32.toInt32), .val (.int (p3 &&& (255 : Int32)).toUInt32.toUInt16.toUInt32.toInt32), .val (.int (p4 &&& (255 : Int32)).toUInt32.toUInt16.toUInt32.toInt32), .val oZ, .val (.ref b1), .val (.ref b44), .unset, .unset, .unset]) at_98 rfl rfl rfl r) ?_
    refine RnS.lift (fun vm0 hs r => have K := K.on hs; Rn.iload K (q := 102) at_100 rfl rfl r) ?_
    refine RnS.lift (fun vm0 hs r => have K := K.on hs; Rn.ifY K (q := 253) at_102 (XT.i0_eq_t rfl) (by decide) (by decide) r) ?_
    refine RnS.newO K (q := 256) (oT 0 rfl) (oT 1 rfl) (oT 2 rfl) (by decide) (by decide) at_253 rfl ?_
    intro b112 h113 gb112_ X114 A_b112 D115
    have ne_b1_b112 : b1 ≠ b112 := fun e => absurd f104.lt (by rw [e, gb112_]; exact Nat.lt_irrefl _)
    have ne_v34_b112 : v34 ≠ b112 := fun e => absurd f107.lt (by rw [e, gb112_]; exact Nat.lt_irrefl _)
    have ne_v34_b112 : v34 ≠ b112 := fun e => absurd f107.lt (by rw [e, gb112_]; exact Nat.lt_irrefl _)
    have ne_b44_b112 : b44 ≠ b112 := fun e => absurd f109.lt (by rw [e, gb112_]; exact Nat.lt_irrefl _)
    have ne_v97_b112 : v97 ≠ b112 := fun e => absurd E101.lt (by rw [e, gb112_]; exact Nat.lt_irrefl _)
    have ne_v97_b112 : v97 ≠ b112 := fun e => absurd E101.lt (by rw [e, gb112_]; exact Nat.lt_irrefl _)
    have g_b112 : n0 ≤ b112 := by rw [gb112_]; exact f103.1 ▸ f103.2.1
    have f116 := f103.ext X114
    have f117 := f104.ext X114
    have f118 := f105.ext X114
    have f119 := f106.ext X114
    have f120 := f107.ext X114
    have f121 := f108.ext X114
    have f122 := f109.ext X114
    have f123 := F99.ext X114
    have f124 := F100.ext X114
    have f125 := E101.ext X114
    have f126 := A102.ext X114
    have f127 : Fld Z h113 b112 "java/lang/String" "coder" "B" (.int (0 : Int32)) := D115 (Or.inr (K.hw _ (oT 27 rfl))) (ty := .byte) (by decide)
    have f128 : Fld Z h113 b112 "java/lang/String" "value" "[B" .null := D115 (Or.inr (K.hw _ (oT 29 rfl))) (ty := (.array .byte)) (by decide)
    show RnS w l _ n0 _ Z EL1 [b112, b56, b44, b8, b1] 256 _ [(.ref b112)] h113 7 20
    refine RnS.lift (fun vm0 hs r => have K := K.on hs; Rn.dup K (q := 257) at_256 rfl rfl r) ?_
    refine RnS.lift (fun vm0 hs r => have K := K.on hs; Rn.bipush K (q := 259) (32 : Int32) at_257 rfl rfl r) ?_
    refine RnS.newP K (q := 261) (cap := 32) (oT 3 rfl) (by decide) (by decide) (by decide) (by decide) (by decide) (ad := "[C") (by decide) at_259 rfl ?_
    intro b129 h130 k132 gb129_ X131 A_b129 EA_b129
    have ne_b1_b129 : b1 ≠ b129 := fun e => absurd f117.lt (by rw [e, gb129_]; exact Nat.lt_irrefl _)
    have ne_v34_b129 : v34 ≠ b129 := fun e => absurd f120.lt (by rw [e, gb129_]; exact Nat.lt_irrefl _)
    have ne_v34_b129 : v34 ≠ b129 := fun e => absurd f120.lt (by rw [e, gb129_]; exact Nat.lt_irrefl _)
    have ne_b44_b129 : b44 ≠ b129 := fun e => absurd f122.lt (by rw [e, gb129_]; exact Nat.lt_irrefl _)
    have ne_v97_b129 : v97 ≠ b129 := fun e => absurd f125.lt (by rw [e, gb129_]; exact Nat.lt_irrefl _)
    have ne_v97_b129 : v97 ≠ b129 := fun e => absurd f125.lt (by rw [e, gb129_]; exact Nat.lt_irrefl _)
    have ne_b112_b129 : b112 ≠ b129 := fun e => absurd A_b112.lt (by rw [e, gb129_]; exact Nat.lt_irrefl _)
    have g_b129 : n0 ≤ b129 := by rw [gb129_]; exact f116.1 ▸ f116.2.1
    have f133 := f116.ext X131
    have f134 := f117.ext X131
    have f135 := f118.ext X131
    have f136 := f119.ext X131
    have f137 := f120.ext X131
    have f138 := f121.ext X131
    have f139 := f122.ext X131
    have f140 := f123.ext X131
    have f141 := f124.ext X131
    have f142 := f125.ext X131
    have f143 := f126.ext X131
    have f144 := A_b112.ext X131
    have f145 := f127.ext X131
    have f146 := f128.ext X131
    replace A_b129 : Arv Z h130 b129 k132 .char (32 : Int32) [oZ, oZ, oZ, oZ, oZ, oZ, oZ, oZ, oZ, oZ, oZ, oZ, oZ, oZ, oZ, oZ, oZ, oZ, oZ, oZ, oZ, oZ, oZ, oZ, oZ, oZ, oZ, oZ, oZ, oZ, oZ, oZ] oZ := A_b129.pad (pad_rep [] oZ 32)
    show RnS w l _ n0 _ Z EL1 [b129, b112, b56, b44, b8, b1] 261 _ [(.ref b129), (.ref b112), (.ref b112)] h130 8 52
    refine RnS.lift (fun vm0 hs r => have K := K.on hs; Rn.dup K (q := 262) at_261 rfl rfl r) ?_
    refine RnS.lift (fun vm0 hs r => have K := K.on hs; Rn.iconst K (q := 263) (0 : Int32) at_262 rfl rfl r) ?_
    refine RnS.lift (fun vm0 hs r => have K := K.on hs; Rn.bipush K (q := 265) (99 : Int32) at_263 rfl rfl r) ?_
    refine RnS.liftWP (Or.inl (oT 0 rfl)) (fun vm0 hs r => have K := K.on hs; Rn.castore K (q := 266) (i := 0) A_b129 (by decide) rfl (oL rfl) g_b129 at_265 rfl r) ?_
    intro h147 W148 A149
    have f150 := f133.wr W148 g_b129
    have f151 := f134.wr W148
    have f152 := Fld.other W148 f135 (Or.inl ne_b1_b129)
    have f153 := Fld.other W148 f136 (Or.inl ne_b1_b129)
    have f154 := f137.wr W148
    have f155 := f138.other W148 ne_v34_b129
    have f156 := f139.wr W148
    have f157 := Fld.other W148 f140 (Or.inl ne_b44_b129)
    have f158 := Fld.other W148 f141 (Or.inl ne_b44_b129)
    have f159 := f142.wr W148
    have f160 := f143.other W148 ne_v97_b129
    have f161 := f144.wr W148
    have f162 := Fld.other W148 f145 (Or.inl ne_b112_b129)
    have f163 := Fld.other W148 f146 (Or.inl ne_b112_b129)
    have f164 := EA_b129.wr W148
    replace A149 : Arv Z h147 b129 k132 .char (32 : Int32) [(.int (99 : Int32)), oZ, oZ, oZ, oZ, oZ, oZ, oZ, oZ, oZ, oZ, oZ, oZ, oZ, oZ, oZ, oZ, oZ, oZ, oZ, oZ, oZ, oZ, oZ, oZ, oZ, oZ, oZ, oZ, oZ, oZ, oZ] oZ := A149
    refine RnS.lift (fun vm0 hs r => have K := K.on hs; Rn.dup K (q := 267) at_266 rfl rfl r) ?_
    refine RnS.lift (fun vm0 hs r => have K := K.on hs; Rn.iconst K (q := 268) (1 : Int32) at_267 rfl rfl r) ?_
    refine RnS.lift (fun vm0 hs r => have K := K.on hs; Rn.bipush K (q := 270) (108 : Int32) at_268 rfl rfl r) ?_
    refine RnS.liftWP (Or.inl (oT 0 rfl)) (fun vm0 hs r => have K := K.on hs; Rn.castore K (q := 271) (i := 1) A149 (by decide) rfl (oL rfl) g_b129 at_270 rfl r) ?_
    intro h165 W166 A167
    have f168 := f150.wr W166 g_b129
    have f169 := f151.wr W166
    have f170 := Fld.other W166 f152 (Or.inl ne_b1_b129)
    have f171 := Fld.other W166 f153 (Or.inl ne_b1_b129)
    have f172 := f154.wr W166
    have f173 := f155.other W166 ne_v34_b129
    have f174 := f156.wr W166
    have f175 := Fld.other W166 f157 (Or.inl ne_b44_b129)
    have f176 := Fld.other W166 f158 (Or.inl ne_b44_b129)
    have f177 := f159.wr W166
    have f178 := f160.other W166 ne_v97_b129
    have f179 := f161.wr W166
    have f180 := Fld.other W166 f162 (Or.inl ne_b112_b129)
    have f181 := Fld.other W166 f163 (Or.inl ne_b112_b129)
    have f182 := f164.wr W166
    replace A167 : Arv Z h165 b129 k132 .char (32 : Int32) [(.int (99 : Int32)), (.int (108 : Int32)), oZ, oZ, oZ, oZ, oZ, oZ, oZ, oZ, oZ, oZ, oZ, oZ, oZ, oZ, oZ, oZ, oZ, oZ, oZ, oZ, oZ, oZ, oZ, oZ, oZ, oZ, oZ, oZ, oZ, oZ] oZ := A167
    refine RnS.lift (fun vm0 hs r => have K := K.on hs; Rn.dup K (q := 272) at_271 rfl rfl r) ?_
    refine RnS.lift (fun vm0 hs r => have K := K.on hs; Rn.iconst K (q := 273) (2 : Int32) at_272 rfl rfl r) ?_
    refine RnS.lift (fun vm0 hs r => have K := K.on hs; Rn.bipush K (q := 275) (105 : Int32) at_273 rfl rfl r) ?_
    refine RnS.liftWP (Or.inl (oT 0 rfl)) (fun vm0 hs r => have K := K.on hs; Rn.castore K (q := 276) (i := 2) A167 (by decide) rfl (oL rfl) g_b129 at_275 rfl r) ?_
    intro h183 W184 A185
    have f186 := f168.wr W184 g_b129
    have f187 := f169.wr W184
    have f188 := Fld.other W184 f170 (Or.inl ne_b1_b129)
    have f189 := Fld.other W184 f171 (Or.inl ne_b1_b129)
    have f190 := f172.wr W184
    have f191 := f173.other W184 ne_v34_b129
    have f192 := f174.wr W184
    have f193 := Fld.other W184 f175 (Or.inl ne_b44_b129)
    have f194 := Fld.other W184 f176 (Or.inl ne_b44_b129)
    have f195 := f177.wr W184
    have f196 := f178.other W184 ne_v97_b129
    have f197 := f179.wr W184
    have f198 := Fld.other W184 f180 (Or.inl ne_b112_b129)
    have f199 := Fld.other W184 f181 (Or.inl ne_b112_b129)
    have f200 := f182.wr W184
    replace A185 : Arv Z h183 b129 k132 .char (32 : Int32) [(.int (99 : Int32)), (.int (108 : Int32)), (.int (105 : Int32)), oZ, oZ, oZ, oZ, oZ, oZ, oZ, oZ, oZ, oZ, oZ, oZ, oZ, oZ, oZ, oZ, oZ, oZ, oZ, oZ, oZ, oZ, oZ, oZ, oZ, oZ, oZ, oZ, oZ] oZ := A185
    refine RnS.lift (fun vm0 hs r => have K := K.on hs; Rn.dup K (q := 277) at_276 rfl rfl r) ?_
    refine RnS.lift (fun vm0 hs r => have K := K.on hs; Rn.iconst K (q := 278) (3 : Int32) at_277 rfl rfl r) ?_
    refine RnS.lift (fun vm0 hs r => have K := K.on hs; Rn.bipush K (q := 280) (101 : Int32) at_278 rfl rfl r) ?_
    refine RnS.liftWP (Or.inl (oT 0 rfl)) (fun vm0 hs r => have K := K.on hs; Rn.castore K (q := 281) (i := 3) A185 (by decide) rfl (oL rfl) g_b129 at_280 rfl r) ?_
    intro h201 W202 A203
    have f204 := f186.wr W202 g_b129
    have f205 := f187.wr W202
    have f206 := Fld.other W202 f188 (Or.inl ne_b1_b129)
    have f207 := Fld.other W202 f189 (Or.inl ne_b1_b129)
    have f208 := f190.wr W202
    have f209 := f191.other W202 ne_v34_b129
    have f210 := f192.wr W202
    have f211 := Fld.other W202 f193 (Or.inl ne_b44_b129)
    have f212 := Fld.other W202 f194 (Or.inl ne_b44_b129)
    have f213 := f195.wr W202
    have f214 := f196.other W202 ne_v97_b129
    have f215 := f197.wr W202
    have f216 := Fld.other W202 f198 (Or.inl ne_b112_b129)
    have f217 := Fld.other W202 f199 (Or.inl ne_b112_b129)
    have f218 := f200.wr W202
    replace A203 : Arv Z h201 b129 k132 .char (32 : Int32) [(.int (99 : Int32)), (.int (108 : Int32)), (.int (105 : Int32)), (.int (101 : Int32)), oZ, oZ, oZ, oZ, oZ, oZ, oZ, oZ, oZ, oZ, oZ, oZ, oZ, oZ, oZ, oZ, oZ, oZ, oZ, oZ, oZ, oZ, oZ, oZ, oZ, oZ, oZ, oZ] oZ := A203
    refine RnS.lift (fun vm0 hs r => have K := K.on hs; Rn.dup K (q := 282) at_281 rfl rfl r) ?_
    refine RnS.lift (fun vm0 hs r => have K := K.on hs; Rn.iconst K (q := 283) (4 : Int32) at_282 rfl rfl r) ?_
    refine RnS.lift (fun vm0 hs r => have K := K.on hs; Rn.bipush K (q := 285) (110 : Int32) at_283 rfl rfl r) ?_
    refine RnS.liftWP (Or.inl (oT 0 rfl)) (fun vm0 hs r => have K := K.on hs; Rn.castore K (q := 286) (i := 4) A203 (by decide) rfl (oL rfl) g_b129 at_285 rfl r) ?_
    intro h219 W220 A221
    have f222 := f204.wr W220 g_b129
    have f223 := f205.wr W220
    have f224 := Fld.other W220 f206 (Or.inl ne_b1_b129)
    have f225 := Fld.other W220 f207 (Or.inl ne_b1_b129)
    have f226 := f208.wr W220
    have f227 := f209.other W220 ne_v34_b129
    have f228 := f210.wr W220
    have f229 := Fld.other W220 f211 (Or.inl ne_b44_b129)
    have f230 := Fld.other W220 f212 (Or.inl ne_b44_b129)
    have f231 := f213.wr W220
    have f232 := f214.other W220 ne_v97_b129
    have f233 := f215.wr W220
    have f234 := Fld.other W220 f216 (Or.inl ne_b112_b129)
    have f235 := Fld.other W220 f217 (Or.inl ne_b112_b129)
    have f236 := f218.wr W220
    replace A221 : Arv Z h219 b129 k132 .char (32 : Int32) [(.int (99 : Int32)), (.int (108 : Int32)), (.int (105 : Int32)), (.int (101 : Int32)), (.int (110 : Int32)), oZ, oZ, oZ, oZ, oZ, oZ, oZ, oZ, oZ, oZ, oZ, oZ, oZ, oZ, oZ, oZ, oZ, oZ, oZ, oZ, oZ, oZ, oZ, oZ, oZ, oZ, oZ] oZ := A221
    refine RnS.lift (fun vm0 hs r => have K := K.on hs; Rn.dup K (q := 287) at_286 rfl rfl r) ?_
    refine RnS.lift (fun vm0 hs r => have K := K.on hs; Rn.iconst K (q := 288) (5 : Int32) at_287 rfl rfl r) ?_
    refine RnS.lift (fun vm0 hs r => have K := K.on hs; Rn.bipush K (q := 290) (116 : Int32) at_288 rfl rfl r) ?_
    refine RnS.liftWP (Or.inl (oT 0 rfl)) (fun vm0 hs r => have K := K.on hs; Rn.castore K (q := 291) (i := 5) A221 (by decide) rfl (oL rfl) g_b129 at_290 rfl r) ?_
    intro h237 W238 A239
    have f240 := f222.wr W238 g_b129
    have f241 := f223.wr W238
    have f242 := Fld.other W238 f224 (Or.inl ne_b1_b129)
    have f243 := Fld.other W238 f225 (Or.inl ne_b1_b129)
    have f244 := f226.wr W238
    have f245 := f227.other W238 ne_v34_b129
    have f246 := f228.wr W238
    have f247 := Fld.other W238 f229 (Or.inl ne_b44_b129)
    have f248 := Fld.other W238 f230 (Or.inl ne_b44_b129)
    have f249 := f231.wr W238
    have f250 := f232.other W238 ne_v97_b129
    have f251 := f233.wr W238
    have f252 := Fld.other W238 f234 (Or.inl ne_b112_b129)
    have f253 := Fld.other W238 f235 (Or.inl ne_b112_b129)
    have f254 := f236.wr W238
    replace A239 : Arv Z h237 b129 k132 .char (32 : Int32) [(.int (99 : Int32)), (.int (108 : Int32)), (.int (105 : Int32)), (.int (101 : Int32)), (.int (110 : Int32)), (.int (116 : Int32)), oZ, oZ, oZ, oZ, oZ, oZ, oZ, oZ, oZ, oZ, oZ, oZ, oZ, oZ, oZ, oZ, oZ, oZ, oZ, oZ, oZ, oZ, oZ, oZ, oZ, oZ] oZ := A239
    refine RnS.lift (fun vm0 hs r => have K := K.on hs; Rn.dup K (q := 292) at_291 rfl rfl r) ?_
    refine RnS.lift (fun vm0 hs r => have K := K.on hs; Rn.bipush K (q := 294) (6 : Int32) at_292 rfl rfl r) ?_
    refine RnS.lift (fun vm0 hs r => have K := K.on hs; Rn.bipush K (q := 296) (32 : Int32) at_294 rfl rfl r) ?_
    refine RnS.liftWP (Or.inl (oT 0 rfl)) (fun vm0 hs r => have K := K.on hs; Rn.castore K (q := 297) (i := 6) A239 (by decide) rfl (oL rfl) g_b129 at_296 rfl r) ?_
    intro h255 W256 A257
    have f258 := f240.wr W256 g_b129
    have f259 := f241.wr W256
    have f260 := Fld.other W256 f242 (Or.inl ne_b1_b129)
    have f261 := Fld.other W256 f243 (Or.inl ne_b1_b129)
    have f262 := f244.wr W256
    have f263 := f245.other W256 ne_v34_b129
    have f264 := f246.wr W256
    have f265 := Fld.other W256 f247 (Or.inl ne_b44_b129)
    have f266 := Fld.other W256 f248 (Or.inl ne_b44_b129)
    have f267 := f249.wr W256
    have f268 := f250.other W256 ne_v97_b129
    have f269 := f251.wr W256
    have f270 := Fld.other W256 f252 (Or.inl ne_b112_b129)
    have f271 := Fld.other W256 f253 (Or.inl ne_b112_b129)
    have f272 := f254.wr W256
    replace A257 : Arv Z h255 b129 k132 .char (32 : Int32) [(.int (99 : Int32)), (.int (108 : Int32)), (.int (105 : Int32)), (.int (101 : Int32)), (.int (110 : Int32)), (.int (116 : Int32)), (.int (32 : Int32)), oZ, oZ, oZ, oZ, oZ, oZ, oZ, oZ, oZ, oZ, oZ, oZ, oZ, oZ, oZ, oZ, oZ, oZ, oZ, oZ, oZ, oZ, oZ, oZ, oZ] oZ := A257
    refine RnS.lift (fun vm0 hs r => have K := K.on hs; Rn.dup K (q := 298) at_297 rfl rfl r) ?_
    refine RnS.lift (fun vm0 hs r => have K := K.on hs; Rn.bipush K (q := 300) (7 : Int32) at_298 rfl rfl r) ?_
    refine RnS.lift (fun vm0 hs r => have K := K.on hs; Rn.iload K (q := 302) at_300 rfl rfl r) ?_
    refine RnS.liftWP (Or.inl (oT 0 rfl)) (fun vm0 hs r => have K := K.on hs; Rn.castore K (q := 303) (i := 7) A257 (by decide) rfl (oL rfl) g_b129 at_302 rfl r) ?_
    intro h273 W274 A275
    have f276 := f258.wr W274 g_b129
    have f277 := f259.wr W274
    have f278 := Fld.other W274 f260 (Or.inl ne_b1_b129)
    have f279 := Fld.other W274 f261 (Or.inl ne_b1_b129)
    have f280 := f262.wr W274
    have f281 := f263.other W274 ne_v34_b129
    have f282 := f264.wr W274
    have f283 := Fld.other W274 f265 (Or.inl ne_b44_b129)
    have f284 := Fld.other W274 f266 (Or.inl ne_b44_b129)
    have f285 := f267.wr W274
    have f286 := f268.other W274 ne_v97_b129
    have f287 := f269.wr W274
    have f288 := Fld.other W274 f270 (Or.inl ne_b112_b129)
    have f289 := Fld.other W274 f271 (Or.inl ne_b112_b129)
    have f290 := f272.wr W274
    replace A275 : Arv Z h273 b129 k132 .char (32 : Int32) [(.int (99 : Int32)), (.int (108 : Int32)), (.int (105 : Int32)), (.int (101 : Int32)), (.int (110 : Int32)), (.int (116 : Int32)), (.int (32 : Int32)), (.int (nar .char (p3 &&& (255 : Int32)).toUInt32.toUInt16.toUInt32.toInt32)), oZ, oZ, oZ, oZ, oZ, oZ, oZ, oZ, oZ, oZ, oZ, oZ, oZ, oZ, oZ, oZ, oZ, oZ, oZ, oZ, oZ, oZ, oZ, oZ] oZ := A275
    refine RnS.lift (fun vm0 hs r => have K := K.on hs; Rn.dup K (q := 304) at_303 rfl rfl r) ?_
    refine RnS.lift (fun vm0 hs r => have K := K.on hs; Rn.bipush K (q := 306) (8 : Int32) at_304 rfl rfl r) ?_
    refine RnS.lift (fun vm0 hs r => have K := K.on hs; Rn.iload K (q := 308) at_306 rfl rfl r) ?_
    refine RnS.liftWP (Or.inl (oT 0 rfl)) (fun vm0 hs r => have K := K.on hs; Rn.castore K (q := 309) (i := 8) A275 (by decide) rfl (oL rfl) g_b129 at_308 rfl r) ?_
    intro h291 W292 A293
    have f294 := f276.wr W292 g_b129
    have f295 := f277.wr W292
    have f296 := Fld.other W292 f278 (Or.inl ne_b1_b129)
    have f297 := Fld.other W292 f279 (Or.inl ne_b1_b129)
    have f298 := f280.wr W292
    have f299 := f281.other W292 ne_v34_b129
    have f300 := f282.wr W292
    have f301 := Fld.other W292 f283 (Or.inl ne_b44_b129)
    have f302 := Fld.other W292 f284 (Or.inl ne_b44_b129)
    have f303 := f285.wr W292
    have f304 := f286.other W292 ne_v97_b129
    have f305 := f287.wr W292
    have f306 := Fld.other W292 f288 (Or.inl ne_b112_b129)
    have f307 := Fld.other W292 f289 (Or.inl ne_b112_b129)
    have f308 := f290.wr W292
    replace A293 : Arv Z h291 b129 k132 .char (32 : Int32) [(.int (99 : Int32)), (.int (108 : Int32)), (.int (105 : Int32)), (.int (101 : Int32)), (.int (110 : Int32)), (.int (116 : Int32)), (.int (32 : Int32)), (.int (nar .char (p3 &&& (255 : Int32)).toUInt32.toUInt16.toUInt32.toInt32)), (.int (nar .char (p4 &&& (255 : Int32)).toUInt32.toUInt16.toUInt32.toInt32)), oZ, oZ, oZ, oZ, oZ, oZ, oZ, oZ, oZ, oZ, oZ, oZ, oZ, oZ, oZ, oZ, oZ, oZ, oZ, oZ, oZ, oZ, oZ] oZ := A293
    refine RnS.lift (fun vm0 hs r => have K := K.on hs; Rn.dup K (q := 310) at_309 rfl rfl r) ?_
    refine RnS.lift (fun vm0 hs r => have K := K.on hs; Rn.bipush K (q := 312) (9 : Int32) at_310 rfl rfl r) ?_
    refine RnS.lift (fun vm0 hs r => have K := K.on hs; Rn.bipush K (q := 314) (39 : Int32) at_312 rfl rfl r) ?_
    refine RnS.liftWP (Or.inl (oT 0 rfl)) (fun vm0 hs r => have K := K.on hs; Rn.castore K (q := 315) (i := 9) A293 (by decide) rfl (oL rfl) g_b129 at_314 rfl r) ?_
    intro h309 W310 A311
    have f312 := f294.wr W310 g_b129
    have f313 := f295.wr W310
    have f314 := Fld.other W310 f296 (Or.inl ne_b1_b129)
    have f315 := Fld.other W310 f297 (Or.inl ne_b1_b129)
    have f316 := f298.wr W310
    have f317 := f299.other W310 ne_v34_b129
    have f318 := f300.wr W310
    have f319 := Fld.other W310 f301 (Or.inl ne_b44_b129)
    have f320 := Fld.other W310 f302 (Or.inl ne_b44_b129)
    have f321 := f303.wr W310
    have f322 := f304.other W310 ne_v97_b129
    have f323 := f305.wr W310
    have f324 := Fld.other W310 f306 (Or.inl ne_b112_b129)
    have f325 := Fld.other W310 f307 (Or.inl ne_b112_b129)
    have f326 := f308.wr W310
    replace A311 : Arv Z h309 b129 k132 .char (32 : Int32) [(.int (99 : Int32)), (.int (108 : Int32)), (.int (105 : Int32)), (.int (101 : Int32)), (.int (110 : Int32)), (.int (116 : Int32)), (.int (32 : Int32)), (.int (nar .char (p3 &&& (255 : Int32)).toUInt32.toUInt16.toUInt32.toInt32)), (.int (nar .char (p4 &&& (255 : Int32)).toUInt32.toUInt16.toUInt32.toInt32)), (.int (39 : Int32)), oZ, oZ, oZ, oZ, oZ, oZ, oZ, oZ, oZ, oZ, oZ, oZ, oZ, oZ, oZ, oZ, oZ, oZ, oZ, oZ, oZ, oZ] oZ := A311
    refine RnS.lift (fun vm0 hs r => have K := K.on hs; Rn.dup K (q := 316) at_315 rfl rfl r) ?_
    refine RnS.lift (fun vm0 hs r => have K := K.on hs; Rn.bipush K (q := 318) (10 : Int32) at_316 rfl rfl r) ?_
    refine RnS.lift (fun vm0 hs r => have K := K.on hs; Rn.bipush K (q := 320) (115 : Int32) at_318 rfl rfl r) ?_
    refine RnS.liftWP (Or.inl (oT 0 rfl)) (fun vm0 hs r => have K := K.on hs; Rn.castore K (q := 321) (i := 10) A311 (by decide) rfl (oL rfl) g_b129 at_320 rfl r) ?_
    intro h327 W328 A329
    have f330 := f312.wr W328 g_b129
    have f331 := f313.wr W328
    have f332 := Fld.other W328 f314 (Or.inl ne_b1_b129)
    have f333 := Fld.other W328 f315 (Or.inl ne_b1_b129)
    have f334 := f316.wr W328
    have f335 := f317.other W328 ne_v34_b129
    have f336 := f318.wr W328
    have f337 := Fld.other W328 f319 (Or.inl ne_b44_b129)
    have f338 := Fld.other W328 f320 (Or.inl ne_b44_b129)
    have f339 := f321.wr W328
    have f340 := f322.other W328 ne_v97_b129
    have f341 := f323.wr W328
    have f342 := Fld.other W328 f324 (Or.inl ne_b112_b129)
    have f343 := Fld.other W328 f325 (Or.inl ne_b112_b129)
    have f344 := f326.wr W328
    replace A329 : Arv Z h327 b129 k132 .char (32 : Int32) [(.int (99 : Int32)), (.int (108 : Int32)), (.int (105 : Int32)), (.int (101 : Int32)), (.int (110 : Int32)), (.int (116 : Int32)), (.int (32 : Int32)), (.int (nar .char (p3 &&& (255 : Int32)).toUInt32.toUInt16.toUInt32.toInt32)), (.int (nar .char (p4 &&& (255 : Int32)).toUInt32.toUInt16.toUInt32.toInt32)), (.int (39 : Int32)), (.int (115 : Int32)), oZ, oZ, oZ, oZ, oZ, oZ, oZ, oZ, oZ, oZ, oZ, oZ, oZ, oZ, oZ, oZ, oZ, oZ, oZ, oZ, oZ] oZ := A329
    refine RnS.lift (fun vm0 hs r => have K := K.on hs; Rn.dup K (q := 322) at_321 rfl rfl r) ?_
    refine RnS.lift (fun vm0 hs r => have K := K.on hs; Rn.bipush K (q := 324) (11 : Int32) at_322 rfl rfl r) ?_
    refine RnS.lift (fun vm0 hs r => have K := K.on hs; Rn.bipush K (q := 326) (32 : Int32) at_324 rfl rfl r) ?_
    refine RnS.liftWP (Or.inl (oT 0 rfl)) (fun vm0 hs r => have K := K.on hs; Rn.castore K (q := 327) (i := 11) A329 (by decide) rfl (oL rfl) g_b129 at_326 rfl r) ?_
    intro h345 W346 A347
    have f348 := f330.wr W346 g_b129
    have f349 := f331.wr W346
    have f350 := Fld.other W346 f332 (Or.inl ne_b1_b129)
    have f351 := Fld.other W346 f333 (Or.inl ne_b1_b129)
    have f352 := f334.wr W346
    have f353 := f335.other W346 ne_v34_b129
    have f354 := f336.wr W346
    have f355 := Fld.other W346 f337 (Or.inl ne_b44_b129)
    have f356 := Fld.other W346 f338 (Or.inl ne_b44_b129)
    have f357 := f339.wr W346
    have f358 := f340.other W346 ne_v97_b129
    have f359 := f341.wr W346
    have f360 := Fld.other W346 f342 (Or.inl ne_b112_b129)
    have f361 := Fld.other W346 f343 (Or.inl ne_b112_b129)
    have f362 := f344.wr W346
    replace A347 : Arv Z h345 b129 k132 .char (32 : Int32) [(.int (99 : Int32)), (.int (108 : Int32)), (.int (105 : Int32)), (.int (101 : Int32)), (.int (110 : Int32)), (.int (116 : Int32)), (.int (32 : Int32)), (.int (nar .char (p3 &&& (255 : Int32)).toUInt32.toUInt16.toUInt32.toInt32)), (.int (nar .char (p4 &&& (255 : Int32)).toUInt32.toUInt16.toUInt32.toInt32)), (.int (39 : Int32)), (.int (115 : Int32)), (.int (32 : Int32)), oZ, oZ, oZ, oZ, oZ, oZ, oZ, oZ, oZ, oZ, oZ, oZ, oZ, oZ, oZ, oZ, oZ, oZ, oZ, oZ] oZ := A347
    refine RnS.lift (fun vm0 hs r => have K := K.on hs; Rn.dup K (q := 328) at_327 rfl rfl r) ?_
    refine RnS.lift (fun vm0 hs r => have K := K.on hs; Rn.bipush K (q := 330) (12 : Int32) at_328 rfl rfl r) ?_
    refine RnS.lift (fun vm0 hs r => have K := K.on hs; Rn.bipush K (q := 332) (97 : Int32) at_330 rfl rfl r) ?_
    refine RnS.liftWP (Or.inl (oT 0 rfl)) (fun vm0 hs r => have K := K.on hs; Rn.castore K (q := 333) (i := 12) A347 (by decide) rfl (oL rfl) g_b129 at_332 rfl r) ?_
    intro h363 W364 A365
    have f366 := f348.wr W364 g_b129
    have f367 := f349.wr W364
    have f368 := Fld.other W364 f350 (Or.inl ne_b1_b129)
    have f369 := Fld.other W364 f351 (Or.inl ne_b1_b129)
    have f370 := f352.wr W364
    have f371 := f353.other W364 ne_v34_b129
    have f372 := f354.wr W364
    have f373 := Fld.other W364 f355 (Or.inl ne_b44_b129)
    have f374 := Fld.other W364 f356 (Or.inl ne_b44_b129)
    have f375 := f357.wr W364
    have f376 := f358.other W364 ne_v97_b129
    have f377 := f359.wr W364
    have f378 := Fld.other W364 f360 (Or.inl ne_b112_b129)
    have f379 := Fld.other W364 f361 (Or.inl ne_b112_b129)
    have f380 := f362.wr W364
    replace A365 : Arv Z h363 b129 k132 .char (32 : Int32) [(.int (99 : Int32)), (.int (108 : Int32)), (.int (105 : Int32)), (.int (101 : Int32)), (.int (110 : Int32)), (.int (116 : Int32)), (.int (32 : Int32)), (.int (nar .char (p3 &&& (255 : Int32)).toUInt32.toUInt16.toUInt32.toInt32)), (.int (nar .char (p4 &&& (255 : Int32)).toUInt32.toUInt16.toUInt32.toInt32)), (.int (39 : Int32)), (.int (115 : Int32)), (.int (32 : Int32)), (.int (97 : Int32)), oZ, oZ, oZ, oZ, oZ, oZ, oZ, oZ, oZ, oZ, oZ, oZ, oZ, oZ, oZ, oZ, oZ, oZ, oZ] oZ := A365
    refine RnS.lift (fun vm0 hs r => have K := K.on hs; Rn.dup K (q := 334) at_333 rfl rfl r) ?_
    refine RnS.lift (fun vm0 hs r => have K := K.on hs; Rn.bipush K (q := 336) (13 : Int32) at_334 rfl rfl r) ?_
    refine RnS.lift (fun vm0 hs r => have K := K.on hs; Rn.bipush K (q := 338) (99 : Int32) at_336 rfl rfl r) ?_
    refine RnS.liftWP (Or.inl (oT 0 rfl)) (fun vm0 hs r => have K := K.on hs; Rn.castore K (q := 339) (i := 13) A365 (by decide) rfl (oL rfl) g_b129 at_338 rfl r) ?_
    intro h381 W382 A383
    have f384 := f366.wr W382 g_b129
    have f385 := f367.wr W382
    have f386 := Fld.other W382 f368 (Or.inl ne_b1_b129)
    have f387 := Fld.other W382 f369 (Or.inl ne_b1_b129)
    have f388 := f370.wr W382
    have f389 := f371.other W382 ne_v34_b129
    have f390 := f372.wr W382
    have f391 := Fld.other W382 f373 (Or.inl ne_b44_b129)
    have f392 := Fld.other W382 f374 (Or.inl ne_b44_b129)
    have f393 := f375.wr W382
    have f394 := f376.other W382 ne_v97_b129
    have f395 := f377.wr W382
    have f396 := Fld.other W382 f378 (Or.inl ne_b112_b129)
    have f397 := Fld.other W382 f379 (Or.inl ne_b112_b129)
    have f398 := f380.wr W382
    replace A383 : Arv Z h381 b129 k132 .char (32 : Int32) [(.int (99 : Int32)), (.int (108 : Int32)), (.int (105 : Int32)), (.int (101 : Int32)), (.int (110 : Int32)), (.int (116 : Int32)), (.int (32 : Int32)), (.int (nar .char (p3 &&& (255 : Int32)).toUInt32.toUInt16.toUInt32.toInt32)), (.int (nar .char (p4 &&& (255 : Int32)).toUInt32.toUInt16.toUInt32.toInt32)), (.int (39 : Int32)), (.int (115 : Int32)), (.int (32 : Int32)), (.int (97 : Int32)), (.int (99 : Int32)), oZ, oZ, oZ, oZ, oZ, oZ, oZ, oZ, oZ, oZ, oZ, oZ, oZ, oZ, oZ, oZ, oZ, oZ] oZ := A383
    refine RnS.lift (fun vm0 hs r => have K := K.on hs; Rn.dup K (q := 340) at_339 rfl rfl r) ?_
    refine RnS.lift (fun vm0 hs r => have K := K.on hs; Rn.bipush K (q := 342) (14 : Int32) at_340 rfl rfl r) ?_
    refine RnS.lift (fun vm0 hs r => have K := K.on hs; Rn.bipush K (q := 344) (99 : Int32) at_342 rfl rfl r) ?_
    refine RnS.liftWP (Or.inl (oT 0 rfl)) (fun vm0 hs r => have K := K.on hs; Rn.castore K (q := 345) (i := 14) A383 (by decide) rfl (oL rfl) g_b129 at_344 rfl r) ?_
    intro h399 W400 A401
    have f402 := f384.wr W400 g_b129
    have f403 := f385.wr W400
    have f404 := Fld.other W400 f386 (Or.inl ne_b1_b129)
    have f405 := Fld.other W400 f387 (Or.inl ne_b1_b129)
    have f406 := f388.wr W400
    have f407 := f389.other W400 ne_v34_b129
    have f408 := f390.wr W400
    have f409 := Fld.other W400 f391 (Or.inl ne_b44_b129)
    have f410 := Fld.other W400 f392 (Or.inl ne_b44_b129)
    have f411 := f393.wr W400
    have f412 := f394.other W400 ne_v97_b129
    have f413 := f395.wr W400
    have f414 := Fld.other W400 f396 (Or.inl ne_b112_b129)
    have f415 := Fld.other W400 f397 (Or.inl ne_b112_b129)
    have f416 := f398.wr W400
    replace A401 : Arv Z h399 b129 k132 .char (32 : Int32) [(.int (99 : Int32)), (.int (108 : Int32)), (.int (105 : Int32)), (.int (101 : Int32)), (.int (110 : Int32)), (.int (116 : Int32)), (.int (32 : Int32)), (.int (nar .char (p3 &&& (255 : Int32)).toUInt32.toUInt16.toUInt32.toInt32)), (.int (nar .char (p4 &&& (255 : Int32)).toUInt32.toUInt16.toUInt32.toInt32)), (.int (39 : Int32)), (.int (115 : Int32)), (.int (32 : Int32)), (.int (97 : Int32)), (.int (99 : Int32)), (.int (99 : Int32)), oZ, oZ, oZ, oZ, oZ, oZ, oZ, oZ, oZ, oZ, oZ, oZ, oZ, oZ, oZ, oZ, oZ] oZ := A401
    refine RnS.lift (fun vm0 hs r => have K := K.on hs; Rn.dup K (q := 346) at_345 rfl rfl r) ?_
    refine RnS.lift (fun vm0 hs r => have K := K.on hs; Rn.bipush K (q := 348) (15 : Int32) at_346 rfl rfl r) ?_
    refine RnS.lift (fun vm0 hs r => have K := K.on hs; Rn.bipush K (q := 350) (111 : Int32) at_348 rfl rfl r) ?_
    refine RnS.liftWP (Or.inl (oT 0 rfl)) (fun vm0 hs r => have K := K.on hs; Rn.castore K (q := 351) (i := 15) A401 (by decide) rfl (oL rfl) g_b129 at_350 rfl r) ?_
    intro h417 W418 A419
    have f420 := f402.wr W418 g_b129
    have f421 := f403.wr W418
    have f422 := Fld.other W418 f404 (Or.inl ne_b1_b129)
    have f423 := Fld.other W418 f405 (Or.inl ne_b1_b129)
    have f424 := f406.wr W418
    have f425 := f407.other W418 ne_v34_b129
    have f426 := f408.wr W418
    have f427 := Fld.other W418 f409 (Or.inl ne_b44_b129)
    have f428 := Fld.other W418 f410 (Or.inl ne_b44_b129)
    have f429 := f411.wr W418
    have f430 := f412.other W418 ne_v97_b129
    have f431 := f413.wr W418
    have f432 := Fld.other W418 f414 (Or.inl ne_b112_b129)
    have f433 := Fld.other W418 f415 (Or.inl ne_b112_b129)
    have f434 := f416.wr W418
    replace A419 : Arv Z h417 b129 k132 .char (32 : Int32) [(.int (99 : Int32)), (.int (108 : Int32)), (.int (105 : Int32)), (.int (101 : Int32)), (.int (110 : Int32)), (.int (116 : Int32)), (.int (32 : Int32)), (.int (nar .char (p3 &&& (255 : Int32)).toUInt32.toUInt16.toUInt32.toInt32)), (.int (nar .char (p4 &&& (255 : Int32)).toUInt32.toUInt16.toUInt32.toInt32)), (.int (39 : Int32)), (.int (115 : Int32)), (.int (32 : Int32)), (.int (97 : Int32)), (.int (99 : Int32)), (.int (99 : Int32)), (.int (111 : Int32)), oZ, oZ, oZ, oZ, oZ, oZ, oZ, oZ, oZ, oZ, oZ, oZ, oZ, oZ, oZ, oZ] oZ := A419
    refine RnS.lift (fun vm0 hs r => have K := K.on hs; Rn.dup K (q := 352) at_351 rfl rfl r) ?_
    refine RnS.lift (fun vm0 hs r => have K := K.on hs; Rn.bipush K (q := 354) (16 : Int32) at_352 rfl rfl r) ?_
    refine RnS.lift (fun vm0 hs r => have K := K.on hs; Rn.bipush K (q := 356) (117 : Int32) at_354 rfl rfl r) ?_
    refine RnS.liftWP (Or.inl (oT 0 rfl)) (fun vm0 hs r => have K := K.on hs; Rn.castore K (q := 357) (i := 16) A419 (by decide) rfl (oL rfl) g_b129 at_356 rfl r) ?_
    intro h435 W436 A437
    have f438 := f420.wr W436 g_b129
    have f439 := f421.wr W436
    have f440 := Fld.other W436 f422 (Or.inl ne_b1_b129)
    have f441 := Fld.other W436 f423 (Or.inl ne_b1_b129)
    have f442 := f424.wr W436
    have f443 := f425.other W436 ne_v34_b129
    have f444 := f426.wr W436
    have f445 := Fld.other W436 f427 (Or.inl ne_b44_b129)
    have f446 := Fld.other W436 f428 (Or.inl ne_b44_b129)
    have f447 := f429.wr W436
    have f448 := f430.other W436 ne_v97_b129
    have f449 := f431.wr W436
    have f450 := Fld.other W436 f432 (Or.inl ne_b112_b129)
    have f451 := Fld.other W436 f433 (Or.inl ne_b112_b129)
    have f452 := f434.wr W436
    replace A437 : Arv Z h435 b129 k132 .char (32 : Int32) [(.int (99 : Int32)), (.int (108 : Int32)), (.int (105 : Int32)), (.int (101 : Int32)), (.int (110 : Int32)), (.int (116 : Int32)), (.int (32 : Int32)), (.int (nar .char (p3 &&& (255 : Int32)).toUInt32.toUInt16.toUInt32.toInt32)), (.int (nar .char (p4 &&& (255 : Int32)).toUInt32.toUInt16.toUInt32.toInt32)), (.int (39 : Int32)), (.int (115 : Int32)), (.int (32 : Int32)), (.int (97 : Int32)), (.int (99 : Int32)), (.int (99 : Int32)), (.int (111 : Int32)), (.int (117 : Int32)), oZ, oZ, oZ, oZ, oZ, oZ, oZ, oZ, oZ, oZ, oZ, oZ, oZ, oZ, oZ] oZ := A437
    refine RnS.lift (fun vm0 hs r => have K := K.on hs; Rn.dup K (q := 358) at_357 rfl rfl r) ?_
    refine RnS.lift (fun vm0 hs r => have K := K.on hs; Rn.bipush K (q := 360) (17 : Int32) at_358 rfl rfl r) ?_
    refine RnS.lift (fun vm0 hs r => have K := K.on hs; Rn.bipush K (q := 362) (110 : Int32) at_360 rfl rfl r) ?_
    refine RnS.liftWP (Or.inl (oT 0 rfl)) (fun vm0 hs r => have K := K.on hs; Rn.castore K (q := 363) (i := 17) A437 (by decide) rfl (oL rfl) g_b129 at_362 rfl r) ?_
    intro h453 W454 A455
    have f456 := f438.wr W454 g_b129
    have f457 := f439.wr W454
    have f458 := Fld.other W454 f440 (Or.inl ne_b1_b129)
    have f459 := Fld.other W454 f441 (Or.inl ne_b1_b129)
    have f460 := f442.wr W454
    have f461 := f443.other W454 ne_v34_b129
    have f462 := f444.wr W454
    have f463 := Fld.other W454 f445 (Or.inl ne_b44_b129)
    have f464 := Fld.other W454 f446 (Or.inl ne_b44_b129)
    have f465 := f447.wr W454
    have f466 := f448.other W454 ne_v97_b129
    have f467 := f449.wr W454
    have f468 := Fld.other W454 f450 (Or.inl ne_b112_b129)
    have f469 := Fld.other W454 f451 (Or.inl ne_b112_b129)
    have f470 := f452.wr W454
    replace A455 : Arv Z h453 b129 k132 .char (32 : Int32) [(.int (99 : Int32)), (.int (108 : Int32)), (.int (105 : Int32)), (.int (101 : Int32)), (.int (110 : Int32)), (.int (116 : Int32)), (.int (32 : Int32)), (.int (nar .char (p3 &&& (255 : Int32)).toUInt32.toUInt16.toUInt32.toInt32)), (.int (nar .char (p4 &&& (255 : Int32)).toUInt32.toUInt16.toUInt32.toInt32)), (.int (39 : Int32)), (.int (115 : Int32)), (.int (32 : Int32)), (.int (97 : Int32)), (.int (99 : Int32)), (.int (99 : Int32)), (.int (111 : Int32)), (.int (117 : Int32)), (.int (110 : Int32)), oZ, oZ, oZ, oZ, oZ, oZ, oZ, oZ, oZ, oZ, oZ, oZ, oZ, oZ] oZ := A455
    refine RnS.lift (fun vm0 hs r => have K := K.on hs; Rn.dup K (q := 364) at_363 rfl rfl r) ?_
    refine RnS.lift (fun vm0 hs r => have K := K.on hs; Rn.bipush K (q := 366) (18 : Int32) at_364 rfl rfl r) ?_
    refine RnS.lift (fun vm0 hs r => have K := K.on hs; Rn.bipush K (q := 368) (116 : Int32) at_366 rfl rfl r) ?_
    refine RnS.liftWP (Or.inl (oT 0 rfl)) (fun vm0 hs r => have K := K.on hs; Rn.castore K (q := 369) (i := 18) A455 (by decide) rfl (oL rfl) g_b129 at_368 rfl r) ?_
    intro h471 W472 A473
    have f474 := f456.wr W472 g_b129
    have f475 := f457.wr W472
    have f476 := Fld.other W472 f458 (Or.inl ne_b1_b129)
    have f477 := Fld.other W472 f459 (Or.inl ne_b1_b129)
    have f478 := f460.wr W472
    have f479 := f461.other W472 ne_v34_b129
    have f480 := f462.wr W472
    have f481 := Fld.other W472 f463 (Or.inl ne_b44_b129)
    have f482 := Fld.other W472 f464 (Or.inl ne_b44_b129)
    have f483 := f465.wr W472
    have f484 := f466.other W472 ne_v97_b129
    have f485 := f467.wr W472
    have f486 := Fld.other W472 f468 (Or.inl ne_b112_b129)
    have f487 := Fld.other W472 f469 (Or.inl ne_b112_b129)
    have f488 := f470.wr W472
    replace A473 : Arv Z h471 b129 k132 .char (32 : Int32) [(.int (99 : Int32)), (.int (108 : Int32)), (.int (105 : Int32)), (.int (101 : Int32)), (.int (110 : Int32)), (.int (116 : Int32)), (.int (32 : Int32)), (.int (nar .char (p3 &&& (255 : Int32)).toUInt32.toUInt16.toUInt32.toInt32)), (.int (nar .char (p4 &&& (255 : Int32)).toUInt32.toUInt16.toUInt32.toInt32)), (.int (39 : Int32)), (.int (115 : Int32)), (.int (32 : Int32)), (.int (97 : Int32)), (.int (99 : Int32)), (.int (99 : Int32)), (.int (111 : Int32)), (.int (117 : Int32)), (.int (110 : Int32)), (.int (116 : Int32)), oZ, oZ, oZ, oZ, oZ, oZ, oZ, oZ, oZ, oZ, oZ, oZ, oZ] oZ := A473
    refine RnS.lift (fun vm0 hs r => have K := K.on hs; Rn.dup K (q := 370) at_369 rfl rfl r) ?_
    refine RnS.lift (fun vm0 hs r => have K := K.on hs; Rn.bipush K (q := 372) (19 : Int32) at_370 rfl rfl r) ?_
    refine RnS.lift (fun vm0 hs r => have K := K.on hs; Rn.bipush K (q := 374) (32 : Int32) at_372 rfl rfl r) ?_
    refine RnS.liftWP (Or.inl (oT 0 rfl)) (fun vm0 hs r => have K := K.on hs; Rn.castore K (q := 375) (i := 19) A473 (by decide) rfl (oL rfl) g_b129 at_374 rfl r) ?_
    intro h489 W490 A491
    have f492 := f474.wr W490 g_b129
    have f493 := f475.wr W490
    have f494 := Fld.other W490 f476 (Or.inl ne_b1_b129)
    have f495 := Fld.other W490 f477 (Or.inl ne_b1_b129)
    have f496 := f478.wr W490
    have f497 := f479.other W490 ne_v34_b129
    have f498 := f480.wr W490
    have f499 := Fld.other W490 f481 (Or.inl ne_b44_b129)
    have f500 := Fld.other W490 f482 (Or.inl ne_b44_b129)
    have f501 := f483.wr W490
    have f502 := f484.other W490 ne_v97_b129
    have f503 := f485.wr W490
    have f504 := Fld.other W490 f486 (Or.inl ne_b112_b129)
    have f505 := Fld.other W490 f487 (Or.inl ne_b112_b129)
    have f506 := f488.wr W490
    replace A491 : Arv Z h489 b129 k132 .char (32 : Int32) [(.int (99 : Int32)), (.int (108 : Int32)), (.int (105 : Int32)), (.int (101 : Int32)), (.int (110 : Int32)), (.int (116 : Int32)), (.int (32 : Int32)), (.int (nar .char (p3 &&& (255 : Int32)).toUInt32.toUInt16.toUInt32.toInt32)), (.int (nar .char (p4 &&& (255 : Int32)).toUInt32.toUInt16.toUInt32.toInt32)), (.int (39 : Int32)), (.int (115 : Int32)), (.int (32 : Int32)), (.int (97 : Int32)), (.int (99 : Int32)), (.int (99 : Int32)), (.int (111 : Int32)), (.int (117 : Int32)), (.int (110 : Int32)), (.int (116 : Int32)), (.int (32 : Int32)), oZ, oZ, oZ, oZ, oZ, oZ, oZ, oZ, oZ, oZ, oZ, oZ] oZ := A491
    refine RnS.lift (fun vm0 hs r => have K := K.on hs; Rn.dup K (q := 376) at_375 rfl rfl r) ?_
    refine RnS.lift (fun vm0 hs r => have K := K.on hs; Rn.bipush K (q := 378) (20 : Int32) at_376 rfl rfl r) ?_
    refine RnS.lift (fun vm0 hs r => have K := K.on hs; Rn.bipush K (q := 380) (97 : Int32) at_378 rfl rfl r) ?_
    refine RnS.liftWP (Or.inl (oT 0 rfl)) (fun vm0 hs r => have K := K.on hs; Rn.castore K (q := 381) (i := 20) A491 (by decide) rfl (oL rfl) g_b129 at_380 rfl r) ?_
    intro h507 W508 A509
    have f510 := f492.wr W508 g_b129
    have f511 := f493.wr W508
    have f512 := Fld.other W508 f494 (Or.inl ne_b1_b129)
    have f513 := Fld.other W508 f495 (Or.inl ne_b1_b129)
    have f514 := f496.wr W508
    have f515 := f497.other W508 ne_v34_b129
    have f516 := f498.wr W508
    have f517 := Fld.other W508 f499 (Or.inl ne_b44_b129)
    have f518 := Fld.other W508 f500 (Or.inl ne_b44_b129)
    have f519 := f501.wr W508
    have f520 := f502.other W508 ne_v97_b129
    have f521 := f503.wr W508
    have f522 := Fld.other W508 f504 (Or.inl ne_b112_b129)
    have f523 := Fld.other W508 f505 (Or.inl ne_b112_b129)
    have f524 := f506.wr W508
    replace A509 : Arv Z h507 b129 k132 .char (32 : Int32) [(.int (99 : Int32)), (.int (108 : Int32)), (.int (105 : Int32)), (.int (101 : Int32)), (.int (110 : Int32)), (.int (116 : Int32)), (.int (32 : Int32)), (.int (nar .char (p3 &&& (255 : Int32)).toUInt32.toUInt16.toUInt32.toInt32)), (.int (nar .char (p4 &&& (255 : Int32)).toUInt32.toUInt16.toUInt32.toInt32)), (.int (39 : Int32)), (.int (115 : Int32)), (.int (32 : Int32)), (.int (97 : Int32)), (.int (99 : Int32)), (.int (99 : Int32)), (.int (111 : Int32)), (.int (117 : Int32)), (.int (110 : Int32)), (.int (116 : Int32)), (.int (32 : Int32)), (.int (97 : Int32)), oZ, oZ, oZ, oZ, oZ, oZ, oZ, oZ, oZ, oZ, oZ] oZ := A509
    refine RnS.lift (fun vm0 hs r => have K := K.on hs; Rn.dup K (q := 382) at_381 rfl rfl r) ?_
    refine RnS.lift (fun vm0 hs r => have K := K.on hs; Rn.bipush K (q := 384) (21 : Int32) at_382 rfl rfl r) ?_
    refine RnS.lift (fun vm0 hs r => have K := K.on hs; Rn.bipush K (q := 386) (116 : Int32) at_384 rfl rfl r) ?_
    refine RnS.liftWP (Or.inl (oT 0 rfl)) (fun vm0 hs r => have K := K.on hs; Rn.castore K (q := 387) (i := 21) A509 (by decide) rfl (oL rfl) g_b129 at_386 rfl r) ?_
    intro h525 W526 A527
    have f528 := f510.wr W526 g_b129
    have f529 := f511.wr W526
    have f530 := Fld.other W526 f512 (Or.inl ne_b1_b129)
    have f531 := Fld.other W526 f513 (Or.inl ne_b1_b129)
    have f532 := f514.wr W526
    have f533 := f515.other W526 ne_v34_b129
    have f534 := f516.wr W526
    have f535 := Fld.other W526 f517 (Or.inl ne_b44_b129)
    have f536 := Fld.other W526 f518 (Or.inl ne_b44_b129)
    have f537 := f519.wr W526
    have f538 := f520.other W526 ne_v97_b129
    have f539 := f521.wr W526
    have f540 := Fld.other W526 f522 (Or.inl ne_b112_b129)
    have f541 := Fld.other W526 f523 (Or.inl ne_b112_b129)
    have f542 := f524.wr W526
    replace A527 : Arv Z h525 b129 k132 .char (32 : Int32) [(.int (99 : Int32)), (.int (108 : Int32)), (.int (105 : Int32)), (.int (101 : Int32)), (.int (110 : Int32)), (.int (116 : Int32)), (.int (32 : Int32)), (.int (nar .char (p3 &&& (255 : Int32)).toUInt32.toUInt16.toUInt32.toInt32)), (.int (nar .char (p4 &&& (255 : Int32)).toUInt32.toUInt16.toUInt32.toInt32)), (.int (39 : Int32)), (.int (115 : Int32)), (.int (32 : Int32)), (.int (97 : Int32)), (.int (99 : Int32)), (.int (99 : Int32)), (.int (111 : Int32)), (.int (117 : Int32)), (.int (110 : Int32)), (.int (116 : Int32)), (.int (32 : Int32)), (.int (97 : Int32)), (.int (116 : Int32)), oZ, oZ, oZ, oZ, oZ, oZ, oZ, oZ, oZ, oZ] oZ := A527
    refine RnS.lift (fun vm0 hs r => have K := K.on hs; Rn.dup K (q := 388) at_387 rfl rfl r) ?_
    refine RnS.lift (fun vm0 hs r => have K := K.on hs; Rn.bipush K (q := 390) (22 : Int32) at_388 rfl rfl r) ?_
    refine RnS.lift (fun vm0 hs r => have K := K.on hs; Rn.bipush K (q := 392) (32 : Int32) at_390 rfl rfl r) ?_
    refine RnS.liftWP (Or.inl (oT 0 rfl)) (fun vm0 hs r => have K := K.on hs; Rn.castore K (q := 393) (i := 22) A527 (by decide) rfl (oL rfl) g_b129 at_392 rfl r) ?_
    intro h543 W544 A545
    have f546 := f528.wr W544 g_b129
    have f547 := f529.wr W544
    have f548 := Fld.other W544 f530 (Or.inl ne_b1_b129)
    have f549 := Fld.other W544 f531 (Or.inl ne_b1_b129)
    have f550 := f532.wr W544
    have f551 := f533.other W544 ne_v34_b129
    have f552 := f534.wr W544
    have f553 := Fld.other W544 f535 (Or.inl ne_b44_b129)
    have f554 := Fld.other W544 f536 (Or.inl ne_b44_b129)
    have f555 := f537.wr W544
    have f556 := f538.other W544 ne_v97_b129
    have f557 := f539.wr W544
    have f558 := Fld.other W544 f540 (Or.inl ne_b112_b129)
    have f559 := Fld.other W544 f541 (Or.inl ne_b112_b129)
    have f560 := f542.wr W544
    replace A545 : Arv Z h543 b129 k132 .char (32 : Int32) [(.int (99 : Int32)), (.int (108 : Int32)), (.int (105 : Int32)), (.int (101 : Int32)), (.int (110 : Int32)), (.int (116 : Int32)), (.int (32 : Int32)), (.int (nar .char (p3 &&& (255 : Int32)).toUInt32.toUInt16.toUInt32.toInt32)), (.int (nar .char (p4 &&& (255 : Int32)).toUInt32.toUInt16.toUInt32.toInt32)), (.int (39 : Int32)), (.int (115 : Int32)), (.int (32 : Int32)), (.int (97 : Int32)), (.int (99 : Int32)), (.int (99 : Int32)), (.int (111 : Int32)), (.int (117 : Int32)), (.int (110 : Int32)), (.int (116 : Int32)), (.int (32 : Int32)), (.int (97 : Int32)), (.int (116 : Int32)), (.int (32 : Int32)), oZ, oZ, oZ, oZ, oZ, oZ, oZ, oZ, oZ] oZ := A545
    refine RnS.lift (fun vm0 hs r => have K := K.on hs; Rn.dup K (q := 394) at_393 rfl rfl r) ?_
    refine RnS.lift (fun vm0 hs r => have K := K.on hs; Rn.bipush K (q := 396) (23 : Int32) at_394 rfl rfl r) ?_
    refine RnS.lift (fun vm0 hs r => have K := K.on hs; Rn.bipush K (q := 398) (109 : Int32) at_396 rfl rfl r) ?_
    refine RnS.liftWP (Or.inl (oT 0 rfl)) (fun vm0 hs r => have K := K.on hs; Rn.castore K (q := 399) (i := 23) A545 (by decide) rfl (oL rfl) g_b129 at_398 rfl r) ?_
    intro h561 W562 A563
    have f564 := f546.wr W562 g_b129
    have f565 := f547.wr W562
    have f566 := Fld.other W562 f548 (Or.inl ne_b1_b129)
    have f567 := Fld.other W562 f549 (Or.inl ne_b1_b129)
    have f568 := f550.wr W562
    have f569 := f551.other W562 ne_v34_b129
    have f570 := f552.wr W562
    have f571 := Fld.other W562 f553 (Or.inl ne_b44_b129)
    have f572 := Fld.other W562 f554 (Or.inl ne_b44_b129)
    have f573 := f555.wr W562
    have f574 := f556.other W562 ne_v97_b129
    have f575 := f557.wr W562
    have f576 := Fld.other W562 f558 (Or.inl ne_b112_b129)
    have f577 := Fld.other W562 f559 (Or.inl ne_b112_b129)
    have f578 := f560.wr W562
    replace A563 : Arv Z h561 b129 k132 .char (32 : Int32) [(.int (99 : Int32)), (.int (108 : Int32)), (.int (105 : Int32)), (.int (101 : Int32)), (.int (110 : Int32)), (.int (116 : Int32)), (.int (32 : Int32)), (.int (nar .char (p3 &&& (255 : Int32)).toUInt32.toUInt16.toUInt32.toInt32)), (.int (nar .char (p4 &&& (255 : Int32)).toUInt32.toUInt16.toUInt32.toInt32)), (.int (39 : Int32)), (.int (115 : Int32)), (.int (32 : Int32)), (.int (97 : Int32)), (.int (99 : Int32)), (.int (99 : Int32)), (.int (111 : Int32)), (.int (117 : Int32)), (.int (110 : Int32)), (.int (116 : Int32)), (.int (32 : Int32)), (.int (97 : Int32)), (.int (116 : Int32)), (.int (32 : Int32)), (.int (109 : Int32)), oZ, oZ, oZ, oZ, oZ, oZ, oZ, oZ] oZ := A563
    refine RnS.lift (fun vm0 hs r => have K := K.on hs; Rn.dup K (q := 400) at_399 rfl rfl r) ?_
    refine RnS.lift (fun vm0 hs r => have K := K.on hs; Rn.bipush K (q := 402) (24 : Int32) at_400 rfl rfl r) ?_
    refine RnS.lift (fun vm0 hs r => have K := K.on hs; Rn.bipush K (q := 404) (101 : Int32) at_402 rfl rfl r) ?_
    refine RnS.liftWP (Or.inl (oT 0 rfl)) (fun vm0 hs r => have K := K.on hs; Rn.castore K (q := 405) (i := 24) A563 (by decide) rfl (oL rfl) g_b129 at_404 rfl r) ?_
    intro h579 W580 A581
    have f582 := f564.wr W580 g_b129
    have f583 := f565.wr W580
    have f584 := Fld.other W580 f566 (Or.inl ne_b1_b129)
    have f585 := Fld.other W580 f567 (Or.inl ne_b1_b129)
    have f586 := f568.wr W580
    have f587 := f569.other W580 ne_v34_b129
    have f588 := f570.wr W580
    have f589 := Fld.other W580 f571 (Or.inl ne_b44_b129)
    have f590 := Fld.other W580 f572 (Or.inl ne_b44_b129)
    have f591 := f573.wr W580
    have f592 := f574.other W580 ne_v97_b129
    have f593 := f575.wr W580
    have f594 := Fld.other W580 f576 (Or.inl ne_b112_b129)
    have f595 := Fld.other W580 f577 (Or.inl ne_b112_b129)
    have f596 := f578.wr W580
    replace A581 : Arv Z h579 b129 k132 .char (32 : Int32) [(.int (99 : Int32)), (.int (108 : Int32)), (.int (105 : Int32)), (.int (101 : Int32)), (.int (110 : Int32)), (.int (116 : Int32)), (.int (32 : Int32)), (.int (nar .char (p3 &&& (255 : Int32)).toUInt32.toUInt16.toUInt32.toInt32)), (.int (nar .char (p4 &&& (255 : Int32)).toUInt32.toUInt16.toUInt32.toInt32)), (.int (39 : Int32)), (.int (115 : Int32)), (.int (32 : Int32)), (.int (97 : Int32)), (.int (99 : Int32)), (.int (99 : Int32)), (.int (111 : Int32)), (.int (117 : Int32)), (.int (110 : Int32)), (.int (116 : Int32)), (.int (32 : Int32)), (.int (97 : Int32)), (.int (116 : Int32)), (.int (32 : Int32)), (.int (109 : Int32)), (.int (101 : Int32)), oZ, oZ, oZ, oZ, oZ, oZ, oZ] oZ := A581
    refine RnS.lift (fun vm0 hs r => have K := K.on hs; Rn.dup K (q := 406) at_405 rfl rfl r) ?_
    refine RnS.lift (fun vm0 hs r => have K := K.on hs; Rn.bipush K (q := 408) (25 : Int32) at_406 rfl rfl r) ?_
    refine RnS.lift (fun vm0 hs r => have K := K.on hs; Rn.bipush K (q := 410) (109 : Int32) at_408 rfl rfl r) ?_
    refine RnS.liftWP (Or.inl (oT 0 rfl)) (fun vm0 hs r => have K := K.on hs; Rn.castore K (q := 411) (i := 25) A581 (by decide) rfl (oL rfl) g_b129 at_410 rfl r) ?_
    intro h597 W598 A599
    have f600 := f582.wr W598 g_b129
    have f601 := f583.wr W598
    have f602 := Fld.other W598 f584 (Or.inl ne_b1_b129)
    have f603 := Fld.other W598 f585 (Or.inl ne_b1_b129)
    have f604 := f586.wr W598
    have f605 := f587.other W598 ne_v34_b129
    have f606 := f588.wr W598
    have f607 := Fld.other W598 f589 (Or.inl ne_b44_b129)
    have f608 := Fld.other W598 f590 (Or.inl ne_b44_b129)
    have f609 := f591.wr W598
    have f610 := f592.other W598 ne_v97_b129
    have f611 := f593.wr W598
    have f612 := Fld.other W598 f594 (Or.inl ne_b112_b129)
    have f613 := Fld.other W598 f595 (Or.inl ne_b112_b129)
    have f614 := f596.wr W598
    replace A599 : Arv Z h597 b129 k132 .char (32 : Int32) [(.int (99 : Int32)), (.int (108 : Int32)), (.int (105 : Int32)), (.int (101 : Int32)), (.int (110 : Int32)), (.int (116 : Int32)), (.int (32 : Int32)), (.int (nar .char (p3 &&& (255 : Int32)).toUInt32.toUInt16.toUInt32.toInt32)), (.int (nar .char (p4 &&& (255 : Int32)).toUInt32.toUInt16.toUInt32.toInt32)), (.int (39 : Int32)), (.int (115 : Int32)), (.int (32 : Int32)), (.int (97 : Int32)), (.int (99 : Int32)), (.int (99 : Int32)), (.int (111 : Int32)), (.int (117 : Int32)), (.int (110 : Int32)), (.int (116 : Int32)), (.int (32 : Int32)), (.int (97 : Int32)), (.int (116 : Int32)), (.int (32 : Int32)), (.int (109 : Int32)), (.int (101 : Int32)), (.int (109 : Int32)), oZ, oZ, oZ, oZ, oZ, oZ] oZ := A599
    refine RnS.lift (fun vm0 hs r => have K := K.on hs; Rn.dup K (q := 412) at_411 rfl rfl r) ?_
    refine RnS.lift (fun vm0 hs r => have K := K.on hs; Rn.bipush K (q := 414) (26 : Int32) at_412 rfl rfl r) ?_
    refine RnS.lift (fun vm0 hs r => have K := K.on hs; Rn.bipush K (q := 416) (98 : Int32) at_414 rfl rfl r) ?_
    refine RnS.liftWP (Or.inl (oT 0 rfl)) (fun vm0 hs r => have K := K.on hs; Rn.castore K (q := 417) (i := 26) A599 (by decide) rfl (oL rfl) g_b129 at_416 rfl r) ?_
    intro h615 W616 A617
    have f618 := f600.wr W616 g_b129
    have f619 := f601.wr W616
    have f620 := Fld.other W616 f602 (Or.inl ne_b1_b129)
    have f621 := Fld.other W616 f603 (Or.inl ne_b1_b129)
    have f622 := f604.wr W616
    have f623 := f605.other W616 ne_v34_b129
    have f624 := f606.wr W616
    have f625 := Fld.other W616 f607 (Or.inl ne_b44_b129)
    have f626 := Fld.other W616 f608 (Or.inl ne_b44_b129)
    have f627 := f609.wr W616
    have f628 := f610.other W616 ne_v97_b129
    have f629 := f611.wr W616
    have f630 := Fld.other W616 f612 (Or.inl ne_b112_b129)
    have f631 := Fld.other W616 f613 (Or.inl ne_b112_b129)
    have f632 := f614.wr W616
    replace A617 : Arv Z h615 b129 k132 .char (32 : Int32) [(.int (99 : Int32)), (.int (108 : Int32)), (.int (105 : Int32)), (.int (101 : Int32)), (.int (110 : Int32)), (.int (116 : Int32)), (.int (32 : Int32)), (.int (nar .char (p3 &&& (255 : Int32)).toUInt32.toUInt16.toUInt32.toInt32)), (.int (nar .char (p4 &&& (255 : Int32)).toUInt32.toUInt16.toUInt32.toInt32)), (.int (39 : Int32)), (.int (115 : Int32)), (.int (32 : Int32)), (.int (97 : Int32)), (.int (99 : Int32)), (.int (99 : Int32)), (.int (111 : Int32)), (.int (117 : Int32)), (.int (110 : Int32)), (.int (116 : Int32)), (.int (32 : Int32)), (.int (97 : Int32)), (.int (116 : Int32)), (.int (32 : Int32)), (.int (109 : Int32)), (.int (101 : Int32)), (.int (109 : Int32)), (.int (98 : Int32)), oZ, oZ, oZ, oZ, oZ] oZ := A617
    refine RnS.lift (fun vm0 hs r => have K := K.on hs; Rn.dup K (q := 418) at_417 rfl rfl r) ?_
    refine RnS.lift (fun vm0 hs r => have K := K.on hs; Rn.bipush K (q := 420) (27 : Int32) at_418 rfl rfl r) ?_
    refine RnS.lift (fun vm0 hs r => have K := K.on hs; Rn.bipush K (q := 422) (101 : Int32) at_420 rfl rfl r) ?_
    refine RnS.liftWP (Or.inl (oT 0 rfl)) (fun vm0 hs r => have K := K.on hs; Rn.castore K (q := 423) (i := 27) A617 (by decide) rfl (oL rfl) g_b129 at_422 rfl r) ?_
    intro h633 W634 A635
    have f636 := f618.wr W634 g_b129
    have f637 := f619.wr W634
    have f638 := Fld.other W634 f620 (Or.inl ne_b1_b129)
    have f639 := Fld.other W634 f621 (Or.inl ne_b1_b129)
    have f640 := f622.wr W634
    have f641 := f623.other W634 ne_v34_b129
    have f642 := f624.wr W634
    have f643 := Fld.other W634 f625 (Or.inl ne_b44_b129)
    have f644 := Fld.other W634 f626 (Or.inl ne_b44_b129)
    have f645 := f627.wr W634
    have f646 := f628.other W634 ne_v97_b129
    have f647 := f629.wr W634
    have f648 := Fld.other W634 f630 (Or.inl ne_b112_b129)
    have f649 := Fld.other W634 f631 (Or.inl ne_b112_b129)
    have f650 := f632.wr W634
    replace A635 : Arv Z h633 b129 k132 .char (32 : Int32) [(.int (99 : Int32)), (.int (108 : Int32)), (.int (105 : Int32)), (.int (101 : Int32)), (.int (110 : Int32)), (.int (116 : Int32)), (.int (32 : Int32)), (.int (nar .char (p3 &&& (255 : Int32)).toUInt32.toUInt16.toUInt32.toInt32)), (.int (nar .char (p4 &&& (255 : Int32)).toUInt32.toUInt16.toUInt32.toInt32)), (.int (39 : Int32)), (.int (115 : Int32)), (.int (32 : Int32)), (.int (97 : Int32)), (.int (99 : Int32)), (.int (99 : Int32)), (.int (111 : Int32)), (.int (117 : Int32)), (.int (110 : Int32)), (.int (116 : Int32)), (.int (32 : Int32)), (.int (97 : Int32)), (.int (116 : Int32)), (.int (32 : Int32)), (.int (109 : Int32)), (.int (101 : Int32)), (.int (109 : Int32)), (.int (98 : Int32)), (.int (101 : Int32)), oZ, oZ, oZ, oZ] oZ := A635
    refine RnS.lift (fun vm0 hs r => have K := K.on hs; Rn.dup K (q := 424) at_423 rfl rfl r) ?_
    refine RnS.lift (fun vm0 hs r => have K := K.on hs; Rn.bipush K (q := 426) (28 : Int32) at_424 rfl rfl r) ?_
    refine RnS.lift (fun vm0 hs r => have K := K.on hs; Rn.bipush K (q := 428) (114 : Int32) at_426 rfl rfl r) ?_
    refine RnS.liftWP (Or.inl (oT 0 rfl)) (fun vm0 hs r => have K := K.on hs; Rn.castore K (q := 429) (i := 28) A635 (by decide) rfl (oL rfl) g_b129 at_428 rfl r) ?_
    intro h651 W652 A653
    have f654 := f636.wr W652 g_b129
    have f655 := f637.wr W652
    have f656 := Fld.other W652 f638 (Or.inl ne_b1_b129)
    have f657 := Fld.other W652 f639 (Or.inl ne_b1_b129)
    have f658 := f640.wr W652
    have f659 := f641.other W652 ne_v34_b129
    have f660 := f642.wr W652
    have f661 := Fld.other W652 f643 (Or.inl ne_b44_b129)
    have f662 := Fld.other W652 f644 (Or.inl ne_b44_b129)
    have f663 := f645.wr W652
    have f664 := f646.other W652 ne_v97_b129
    have f665 := f647.wr W652
    have f666 := Fld.other W652 f648 (Or.inl ne_b112_b129)
    have f667 := Fld.other W652 f649 (Or.inl ne_b112_b129)
    have f668 := f650.wr W652
    replace A653 : Arv Z h651 b129 k132 .char (32 : Int32) [(.int (99 : Int32)), (.int (108 : Int32)), (.int (105 : Int32)), (.int (101 : Int32)), (.int (110 : Int32)), (.int (116 : Int32)), (.int (32 : Int32)), (.int (nar .char (p3 &&& (255 : Int32)).toUInt32.toUInt16.toUInt32.toInt32)), (.int (nar .char (p4 &&& (255 : Int32)).toUInt32.toUInt16.toUInt32.toInt32)), (.int (39 : Int32)), (.int (115 : Int32)), (.int (32 : Int32)), (.int (97 : Int32)), (.int (99 : Int32)), (.int (99 : Int32)), (.int (111 : Int32)), (.int (117 : Int32)), (.int (110 : Int32)), (.int (116 : Int32)), (.int (32 : Int32)), (.int (97 : Int32)), (.int (116 : Int32)), (.int (32 : Int32)), (.int (109 : Int32)), (.int (101 : Int32)), (.int (109 : Int32)), (.int (98 : Int32)), (.int (101 : Int32)), (.int (114 : Int32)), oZ, oZ, oZ] oZ := A653
    refine RnS.lift (fun vm0 hs r => have K := K.on hs; Rn.dup K (q := 430) at_429 rfl rfl r) ?_
    refine RnS.lift (fun vm0 hs r => have K := K.on hs; Rn.bipush K (q := 432) (29 : Int32) at_430 rfl rfl r) ?_
    refine RnS.lift (fun vm0 hs r => have K := K.on hs; Rn.bipush K (q := 434) (32 : Int32) at_432 rfl rfl r) ?_
    refine RnS.liftWP (Or.inl (oT 0 rfl)) (fun vm0 hs r => have K := K.on hs; Rn.castore K (q := 435) (i := 29) A653 (by decide) rfl (oL rfl) g_b129 at_434 rfl r) ?_
    intro h669 W670 A671
    have f672 := f654.wr W670 g_b129
    have f673 := f655.wr W670
    have f674 := Fld.other W670 f656 (Or.inl ne_b1_b129)
    have f675 := Fld.other W670 f657 (Or.inl ne_b1_b129)
    have f676 := f658.wr W670
    have f677 := f659.other W670 ne_v34_b129
    have f678 := f660.wr W670
    have f679 := Fld.other W670 f661 (Or.inl ne_b44_b129)
    have f680 := Fld.other W670 f662 (Or.inl ne_b44_b129)
    have f681 := f663.wr W670
    have f682 := f664.other W670 ne_v97_b129
    have f683 := f665.wr W670
    have f684 := Fld.other W670 f666 (Or.inl ne_b112_b129)
    have f685 := Fld.other W670 f667 (Or.inl ne_b112_b129)
    have f686 := f668.wr W670
    replace A671 : Arv Z h669 b129 k132 .char (32 : Int32) [(.int (99 : Int32)), (.int (108 : Int32)), (.int (105 : Int32)), (.int (101 : Int32)), (.int (110 : Int32)), (.int (116 : Int32)), (.int (32 : Int32)), (.int (nar .char (p3 &&& (255 : Int32)).toUInt32.toUInt16.toUInt32.toInt32)), (.int (nar .char (p4 &&& (255 : Int32)).toUInt32.toUInt16.toUInt32.toInt32)), (.int (39 : Int32)), (.int (115 : Int32)), (.int (32 : Int32)), (.int (97 : Int32)), (.int (99 : Int32)), (.int (99 : Int32)), (.int (111 : Int32)), (.int (117 : Int32)), (.int (110 : Int32)), (.int (116 : Int32)), (.int (32 : Int32)), (.int (97 : Int32)), (.int (116 : Int32)), (.int (32 : Int32)), (.int (109 : Int32)), (.int (101 : Int32)), (.int (109 : Int32)), (.int (98 : Int32)), (.int (101 : Int32)), (.int (114 : Int32)), (.int (32 : Int32)), oZ, oZ] oZ := A671
    refine RnS.lift (fun vm0 hs r => have K := K.on hs; Rn.dup K (q := 436) at_435 rfl rfl r) ?_
    refine RnS.lift (fun vm0 hs r => have K := K.on hs; Rn.bipush K (q := 438) (30 : Int32) at_436 rfl rfl r) ?_
    refine RnS.lift (fun vm0 hs r => have K := K.on hs; Rn.iload K (q := 440) at_438 rfl rfl r) ?_
    refine RnS.liftWP (Or.inl (oT 0 rfl)) (fun vm0 hs r => have K := K.on hs; Rn.castore K (q := 441) (i := 30) A671 (by decide) rfl (oL rfl) g_b129 at_440 rfl r) ?_
    intro h687 W688 A689
    have f690 := f672.wr W688 g_b129
    have f691 := f673.wr W688
    have f692 := Fld.other W688 f674 (Or.inl ne_b1_b129)
    have f693 := Fld.other W688 f675 (Or.inl ne_b1_b129)
    have f694 := f676.wr W688
    have f695 := f677.other W688 ne_v34_b129
    have f696 := f678.wr W688
    have f697 := Fld.other W688 f679 (Or.inl ne_b44_b129)
    have f698 := Fld.other W688 f680 (Or.inl ne_b44_b129)
    have f699 := f681.wr W688
    have f700 := f682.other W688 ne_v97_b129
    have f701 := f683.wr W688
    have f702 := Fld.other W688 f684 (Or.inl ne_b112_b129)
    have f703 := Fld.other W688 f685 (Or.inl ne_b112_b129)
    have f704 := f686.wr W688
    replace A689 : Arv Z h687 b129 k132 .char (32 : Int32) [(.int (99 : Int32)), (.int (108 : Int32)), (.int (105 : Int32)), (.int (101 : Int32)), (.int (110 : Int32)), (.int (116 : Int32)), (.int (32 : Int32)), (.int (nar .char (p3 &&& (255 : Int32)).toUInt32.toUInt16.toUInt32.toInt32)), (.int (nar .char (p4 &&& (255 : Int32)).toUInt32.toUInt16.toUInt32.toInt32)), (.int (39 : Int32)), (.int (115 : Int32)), (.int (32 : Int32)), (.int (97 : Int32)), (.int (99 : Int32)), (.int (99 : Int32)), (.int (111 : Int32)), (.int (117 : Int32)), (.int (110 : Int32)), (.int (116 : Int32)), (.int (32 : Int32)), (.int (97 : Int32)), (.int (116 : Int32)), (.int (32 : Int32)), (.int (109 : Int32)), (.int (101 : Int32)), (.int (109 : Int32)), (.int (98 : Int32)), (.int (101 : Int32)), (.int (114 : Int32)), (.int (32 : Int32)), (.int (nar .char (p1 &&& (255 : Int32)).toUInt32.toUInt16.toUInt32.toInt32)), oZ] oZ := A689
    refine RnS.lift (fun vm0 hs r => have K := K.on hs; Rn.dup K (q := 442) at_441 rfl rfl r) ?_
    refine RnS.lift (fun vm0 hs r => have K := K.on hs; Rn.bipush K (q := 444) (31 : Int32) at_442 rfl rfl r) ?_
    refine RnS.lift (fun vm0 hs r => have K := K.on hs; Rn.iload K (q := 446) at_444 rfl rfl r) ?_
    refine RnS.liftWP (Or.inl (oT 0 rfl)) (fun vm0 hs r => have K := K.on hs; Rn.castore K (q := 447) (i := 31) A689 (by decide) rfl (oL rfl) g_b129 at_446 rfl r) ?_
    intro h705 W706 A707
    have f708 := f690.wr W706 g_b129
    have f709 := f691.wr W706
    have f710 := Fld.other W706 f692 (Or.inl ne_b1_b129)
    have f711 := Fld.other W706 f693 (Or.inl ne_b1_b129)
    have f712 := f694.wr W706
    have f713 := f695.other W706 ne_v34_b129
    have f714 := f696.wr W706
    have f715 := Fld.other W706 f697 (Or.inl ne_b44_b129)
    have f716 := Fld.other W706 f698 (Or.inl ne_b44_b129)
    have f717 := f699.wr W706
    have f718 := f700.other W706 ne_v97_b129
    have f719 := f701.wr W706
    have f720 := Fld.other W706 f702 (Or.inl ne_b112_b129)
    have f721 := Fld.other W706 f703 (Or.inl ne_b112_b129)
    have f722 := f704.wr W706
    replace A707 : Arv Z h705 b129 k132 .char (32 : Int32) [(.int (99 : Int32)), (.int (108 : Int32)), (.int (105 : Int32)), (.int (101 : Int32)), (.int (110 : Int32)), (.int (116 : Int32)), (.int (32 : Int32)), (.int (nar .char (p3 &&& (255 : Int32)).toUInt32.toUInt16.toUInt32.toInt32)), (.int (nar .char (p4 &&& (255 : Int32)).toUInt32.toUInt16.toUInt32.toInt32)), (.int (39 : Int32)), (.int (115 : Int32)), (.int (32 : Int32)), (.int (97 : Int32)), (.int (99 : Int32)), (.int (99 : Int32)), (.int (111 : Int32)), (.int (117 : Int32)), (.int (110 : Int32)), (.int (116 : Int32)), (.int (32 : Int32)), (.int (97 : Int32)), (.int (116 : Int32)), (.int (32 : Int32)), (.int (109 : Int32)), (.int (101 : Int32)), (.int (109 : Int32)), (.int (98 : Int32)), (.int (101 : Int32)), (.int (114 : Int32)), (.int (32 : Int32)), (.int (nar .char (p1 &&& (255 : Int32)).toUInt32.toUInt16.toUInt32.toInt32)), (.int (nar .char (p2 &&& (255 : Int32)).toUInt32.toUInt16.toUInt32.toInt32))] oZ := A707
    refine RnS.liftC (fun vm0 hs r => have K := K.on hs; Rn.spec K (q := 450) (W := 1) (y := oM8) (b := b112) (argsL := [(.ref b129)]) (rest := [(.ref b112)]) rfl (oT 4 rfl) (oT 5 rfl) (oT 6 rfl) (oT 2 rfl) (by decide) (m_ic32 l Z a0 hw n0 h705 b112 b129 k132 (99 : Int32) (108 : Int32) (105 : Int32) (101 : Int32) (110 : Int32) (116 : Int32) (32 : Int32) (nar .char (p3 &&& (255 : Int32)).toUInt32.toUInt16.toUInt32.toInt32) (nar .char (p4 &&& (255 : Int32)).toUInt32.toUInt16.toUInt32.toInt32) (39 : Int32) (115 : Int32) (32 : Int32) (97 : Int32) (99 : Int32) (99 : Int32) (111 : Int32) (117 : Int32) (110 : Int32) (116 : Int32) (32 : Int32) (97 : Int32) (116 : Int32) (32 : Int32) (109 : Int32) (101 : Int32) (109 : Int32) (98 : Int32) (101 : Int32) (114 : Int32) (32 : Int32) (nar .char (p1 &&& (255 : Int32)).toUInt32.toUInt16.toUInt32.toInt32) (nar .char (p2 &&& (255 : Int32)).toUInt32.toUInt16.toUInt32.toInt32) cst f708 SC hcs f719 g_b112 f721 f720 f722 A707 (by decide) (by decide) (by decide) (by decide) (by decide) (by decide) (by decide) (own_ch2 p3) (own_ch2 p4) (by decide) (by decide) (by decide) (by decide) (by decide) (by decide) (by decide) (by decide) (by decide) (by decide) (by decide) (by decide) (by decide) (by decide) (by decide) (by decide) (by decide) (by decide) (by decide) (by decide) (by decide) (own_ch2 p1) (own_ch2 p2)) (by decide) (by decide) rfl (lenOf pd_26 rfl) rfl (oL rfl) at_447 rfl (by decide) (by decide) r) (by rintro _ _ ⟨rfl, Kp, -⟩; exact own_kpL Kp (by simp)) ?_
    rintro _ h723 ⟨rfl, K724, v725, k726, F727, F728, E729, A730⟩
    have f731 := f708.keep K724 (allS g_b112 all0)
    have f732 := f709.keep K724
    have f733 := f710.keep K724 (ninS ne_b1_b112 nin0)
    have f734 := f711.keep K724 (ninS ne_b1_b112 nin0)
    have f735 := f712.keep K724
    have f736 := f713.keep K724 (ninS ne_v34_b112 nin0)
    have f737 := f714.keep K724
    have f738 := f715.keep K724 (ninS ne_b44_b112 nin0)
    have f739 := f716.keep K724 (ninS ne_b44_b112 nin0)
    have f740 := f717.keep K724
    have f741 := f718.keep K724 (ninS ne_v97_b112 nin0)
    have f742 := f719.keep K724
    replace A730 : Arv Z h723 v725 k726 .byte (32 : Int32) [(.int (99 : Int32)), (.int (108 : Int32)), (.int (105 : Int32)), (.int (101 : Int32)), (.int (110 : Int32)), (.int (116 : Int32)), (.int (32 : Int32)), (.int (nar .byte (nar .char (p3 &&& (255 : Int32)).toUInt32.toUInt16.toUInt32.toInt32).toInt8.toInt32)), (.int (nar .byte (nar .char (p4 &&& (255 : Int32)).toUInt32.toUInt16.toUInt32.toInt32).toInt8.toInt32)), (.int (39 : Int32)), (.int (115 : Int32)), (.int (32 : Int32)), (.int (97 : Int32)), (.int (99 : Int32)), (.int (99 : Int32)), (.int (111 : Int32)), (.int (117 : Int32)), (.int (110 : Int32)), (.int (116 : Int32)), (.int (32 : Int32)), (.int (97 : Int32)), (.int (116 : Int32)), (.int (32 : Int32)), (.int (109 : Int32)), (.int (101 : Int32)), (.int (109 : Int32)), (.int (98 : Int32)), (.int (101 : Int32)), (.int (114 : Int32)), (.int (32 : Int32)), (.int (nar .byte (nar .char (p1 &&& (255 : Int32)).toUInt32.toUInt16.toUInt32.toInt32).toInt8.toInt32)), (.int (nar .byte (nar .char (p2 &&& (255 : Int32)).toUInt32.toUInt16.toUInt32.toInt32).toInt8.toInt32))] oZ := A730
    show RnS w l _ n0 _ Z EL1 [b129, b112, b56, b44, b8, b1] 450 _ [(.ref b112)] h723 9 84
    refine RnS.lift (fun vm0 hs r => have K := K.on hs; Rn.astore K (q := 452) (Ls' := #[.val (.int p1), .val (.int p2), .val (.int p3), .val (.int p4), .val (.int p5), .val (.int (p1 &&& (255 : Int32)).toUInt32.toUInt16.toUInt32.toInt32), .val (.int (p2 &&& (255 : Int32)).toUInt32.toUInt16.toUInt32.toInt32), .val (.int (p3 &&& (255 : Int32)).toUInt32.toUInt16.toUInt32.toInt32), .val (.int (p4 &&& (255 : Int32)).toUInt32.toUInt16.toUInt32.toInt32), .val oZ, .val (.ref b1), .val (.ref b44), .val (.ref b112), .unset, .unset]) at_450 rfl rfl rfl r) ?_
    refine RnS.newO K (q := 455) (oT 30 rfl) (oT 31 rfl) (oT 32 rfl) (by decide) (by decide) at_452 rfl ?_
    intro b745 h746 gb745_ X747 A_b745 D748
    have ne_b1_b745 : b1 ≠ b745 := fun e => absurd f732.lt (by rw [e, gb745_]; exact Nat.lt_irrefl _)
    have ne_v34_b745 : v34 ≠ b745 := fun e => absurd f735.lt (by rw [e, gb745_]; exact Nat.lt_irrefl _)
    have ne_v34_b745 : v34 ≠ b745 := fun e => absurd f735.lt (by rw [e, gb745_]; exact Nat.lt_irrefl _)
    have ne_b44_b745 : b44 ≠ b745 := fun e => absurd f737.lt (by rw [e, gb745_]; exact Nat.lt_irrefl _)
    have ne_v97_b745 : v97 ≠ b745 := fun e => absurd f740.lt (by rw [e, gb745_]; exact Nat.lt_irrefl _)
    have ne_v97_b745 : v97 ≠ b745 := fun e => absurd f740.lt (by rw [e, gb745_]; exact Nat.lt_irrefl _)
    have ne_b112_b745 : b112 ≠ b745 := fun e => absurd f742.lt (by rw [e, gb745_]; exact Nat.lt_irrefl _)
    have ne_v725_b745 : v725 ≠ b745 := fun e => absurd E729.lt (by rw [e, gb745_]; exact Nat.lt_irrefl _)
    have ne_v725_b745 : v725 ≠ b745 := fun e => absurd E729.lt (by rw [e, gb745_]; exact Nat.lt_irrefl _)
    have g_b745 : n0 ≤ b745 := by rw [gb745_]; exact f731.1 ▸ f731.2.1
    have f749 := f731.ext X747
    have f750 := f732.ext X747
    have f751 := f733.ext X747
    have f752 := f734.ext X747
    have f753 := f735.ext X747
    have f754 := f736.ext X747
    have f755 := f737.ext X747
    have f756 := f738.ext X747
    have f757 := f739.ext X747
    have f759 := f741.ext X747
    have f760 := f742.ext X747
    have f761 := F727.ext X747
    have f762 := F728.ext X747
    have f764 := A730.ext X747
    have f765 : Fld Z h746 b745 "com/example/fuseline/fuseline/model/Account" "member" "Ljava/lang/String;" .null := D748 (Or.inr (K.hw _ (oT 56 rfl))) (ty := (.object "java/lang/String")) (by decide)
    have f766 : Fld Z h746 b745 "com/example/fuseline/fuseline/model/Account" "client" "Ljava/lang/String;" .null := D748 (Or.inr (K.hw _ (oT 58 rfl))) (ty := (.object "java/lang/String")) (by decide)
    show RnS w l _ n0 _ Z EL1 [b745, b129, b112, b56, b44, b8, b1] 455 _ [(.ref b745)] h746 10 86
    refine RnS.lift (fun vm0 hs r => have K := K.on hs; Rn.dup K (q := 456) at_455 rfl rfl r) ?_
    refine RnS.lift (fun vm0 hs r => have K := K.on hs; Rn.aload K (q := 458) at_456 rfl rfl rfl r) ?_
    refine RnS.lift (fun vm0 hs r => have K := K.on hs; Rn.aload K (q := 460) at_458 rfl rfl rfl r) ?_
    refine RnS.specS K hEL (q := 463) (W := 1) (y := oM36) (b := b745) (argsL := [(.ref b1), (.ref b44)]) (rest := [(.ref b745)]) rfl (oT 33 rfl) (oT 34 rfl) (oT 35 rfl) (oT 32 rfl) (by decide) (by simp) (m_acc l Z a0 hw n0 h746 b745 b44 b1 v34 k35 cst (nar .byte (nar .char (p1 &&& (255 : Int32)).toUInt32.toUInt16.toUInt32.toInt32).toInt8.toInt32) (nar .byte (nar .char (p2 &&& (255 : Int32)).toUInt32.toUInt16.toUInt32.toInt32).toInt8.toInt32) f749 SC hcs A_b745 g_b745 f765 f766 f750 f752 f751 f754 f753) (by decide) (by decide) rfl (lenOf pd_27 rfl) rfl (oL rfl) at_460 rfl (by decide) (by decide) ?_
    rintro _ h767 ⟨rfl, K768, F769, F770⟩
    have f771 := f749.keep K768 (allS g_b745 all0)
    have f772 := f750.keep K768
    have f773 := f751.keep K768 (ninS ne_b1_b745 nin0)
    have f774 := f752.keep K768 (ninS ne_b1_b745 nin0)
    have f776 := f754.keep K768 (ninS ne_v34_b745 nin0)
    have f777 := f755.keep K768
    have f778 := f756.keep K768 (ninS ne_b44_b745 nin0)
    have f779 := f757.keep K768 (ninS ne_b44_b745 nin0)
    have f781 := f759.keep K768 (ninS ne_v97_b745 nin0)
    have f782 := f760.keep K768
    have f783 := f761.keep K768 (ninS ne_b112_b745 nin0)
    have f784 := f762.keep K768 (ninS ne_b112_b745 nin0)
    have f786 := f764.keep K768 (ninS ne_v725_b745 nin0)
    have f787 := A_b745.keep K768
    show RnS w l _ n0 _ Z EL1 [b745, b129, b112, b56, b44, b8, b1] 463 _ [(.ref b745)] h767 14 142
    refine RnS.lift (fun vm0 hs r => have K := K.on hs; Rn.astore K (q := 465) (Ls' := #[.val (.int p1), .val (.int p2), .val (.int p3), .val (.int p4), .val (.int p5), .val (.int (p1 &&& (255 : Int32)).toUInt32.toUInt16.toUInt32.toInt32), .val (.int (p2 &&& (255 : Int32)).toUInt32.toUInt16.toUInt32.toInt32), .val (.int (p3 &&& (255 : Int32)).toUInt32.toUInt16.toUInt32.toInt32), .val (.int (p4 &&& (255 : Int32)).toUInt32.toUInt16.toUInt32.toInt32), .val oZ, .val (.ref b1), .val (.ref b44), .val (.ref b112), .val (.ref b745), .unset]) at_463 rfl rfl rfl r) ?_
    refine RnS.lift (fun vm0 hs r => have K := K.on hs; Rn.aload K (q := 467) at_465 rfl rfl rfl r) ?_
    have lte := f782.lt
    refine RnS.virtS K hEL (q := 470) (W := 0) (y := oM37) (z := oM37) (b := b745) (argsL := []) (rest := []) (oT 59 rfl) (oT 60 rfl) (nfsS K (oT 62 rfl)) (oT 62 rfl) (oT 61 rfl) (oT 63 rfl) (oT 32 rfl) (by decide) (by simp) (m_des2 l Z a0 hw n0 h767 b745 b1 v34 b44 v97 k35 k98 (nar .byte (nar .char (p1 &&& (255 : Int32)).toUInt32.toUInt16.toUInt32.toInt32).toInt8.toInt32) (nar .byte (nar .char (p2 &&& (255 : Int32)).toUInt32.toUInt16.toUInt32.toInt32).toInt8.toInt32) (nar .byte (nar .char (p3 &&& (255 : Int32)).toUInt32.toUInt16.toUInt32.toInt32).toInt8.toInt32) (nar .byte (nar .char (p4 &&& (255 : Int32)).toUInt32.toUInt16.toUInt32.toInt32).toInt8.toInt32) cst f771 SC hcs f787 F769 F770 f772 f774 f773 f776 f777 f779 f778 f781) f787 (by decide) (by decide) rfl (lenOf pd_25 rfl) rfl (oL rfl) at_467 rfl (by decide) (by decide) ?_
    rintro _ h788 ⟨rs, rv, rk, rfl, srs, K789, E790, F791, F792, A793⟩
    have hst : rs ≠ b112 := fun e => absurd lte (by rw [← e]; exact Nat.not_lt.mpr srs)
    have f794 := f771.keep K789 all0
    have f805 := f782.keep K789
    have f806 := f783.keep K789 nin0
    have f807 := f784.keep K789 nin0
    have f809 := f786.keep K789 nin0
    show RnS w l _ n0 _ Z EL1 [b745, b129, b112, b56, b44, b8, b1] 470 _ [(.ref rs)] h788 23 352
    refine RnS.lift (fun vm0 hs r => have K := K.on hs; Rn.astore K (q := 472) (Ls' := #[.val (.int p1), .val (.int p2), .val (.int p3), .val (.int p4), .val (.int p5), .val (.int (p1 &&& (255 : Int32)).toUInt32.toUInt16.toUInt32.toInt32), .val (.int (p2 &&& (255 : Int32)).toUInt32.toUInt16.toUInt32.toInt32), .val (.int (p3 &&& (255 : Int32)).toUInt32.toUInt16.toUInt32.toInt32), .val (.int (p4 &&& (255 : Int32)).toUInt32.toUInt16.toUInt32.toInt32), .val oZ, .val (.ref b1), .val (.ref b44), .val (.ref b112), .val (.ref b745), .val (.ref rs)]) at_470 rfl rfl rfl r) ?_
    refine RnS.lift (fun vm0 hs r => have K := K.on hs; Rn.aload K (q := 474) at_472 rfl rfl rfl r) ?_
    refine RnS.lift (fun vm0 hs r => have K := K.on hs; Rn.aload K (q := 476) at_474 rfl rfl rfl r) ?_
    refine RnS.liftC (fun vm0 hs r => have K := K.on hs; Rn.virt K (q := 479) (W := 0) (y := oM35) (z := oM35) (b := rs) (argsL := [(.ref b112)]) (rest := []) (oT 198 rfl) (oT 199 rfl) (nfs K (oT 201 rfl)) (oT 201 rfl) (oT 200 rfl) (oT 202 rfl) (oT 2 rfl) (by decide) (m_seq32 l Z a0 hw n0 h788 rs rv b112 v725 rk k726 cst (99 : Int32) (108 : Int32) (105 : Int32) (101 : Int32) (110 : Int32) (116 : Int32) (32 : Int32) (nar .byte (nar .char (p3 &&& (255 : Int32)).toUInt32.toUInt16.toUInt32.toInt32).toInt8.toInt32) (nar .byte (nar .char (p4 &&& (255 : Int32)).toUInt32.toUInt16.toUInt32.toInt32).toInt8.toInt32) (39 : Int32) (115 : Int32) (32 : Int32) (97 : Int32) (99 : Int32) (99 : Int32) (111 : Int32) (117 : Int32) (110 : Int32) (116 : Int32) (32 : Int32) (97 : Int32) (116 : Int32) (32 : Int32) (109 : Int32) (101 : Int32) (109 : Int32) (98 : Int32) (101 : Int32) (114 : Int32) (32 : Int32) (nar .byte (nar .char (p1 &&& (255 : Int32)).toUInt32.toUInt16.toUInt32.toInt32).toInt8.toInt32) (nar .byte (nar .char (p2 &&& (255 : Int32)).toUInt32.toUInt16.toUInt32.toInt32).toInt8.toInt32) f794 SC hcs E790 F791 F792 A793 f805 f807 f806 f809 hst) E790 (by decide) (by decide) rfl (lenOf pd_28 rfl) rfl (oL rfl) at_476 rfl (by decide) (by decide) r) (by rintro _ _ ⟨rfl, rfl⟩; exact own_kp0) ?_
    rintro _ _ ⟨rfl, rfl⟩
    show RnS w l _ n0 _ Z EL1 [b745, b129, b112, b56, b44, b8, b1] 479 _ [(.int (1 : Int32))] h788 23 352
    exact RnS.retN K hEL .boolean rfl (by simp) at_479 (by decide) (by decide) rfl
  · refine RnS.lift (fun vm0 hs r => have K := K.on hs; Rn.ifN K (q := 39) at_36 (XT.i0_eq_f hc36) rfl r) ?_
    refine RnS.lift (fun vm0 hs r => have K := K.on hs; Rn.iconst K (q := 40) (1 : Int32) at_39 rfl rfl r) ?_
    refine RnS.lift (fun vm0 hs r => have K := K.on hs; Rn.goto K (q := 44) at_40 (by decide) (by decide) r) ?_
    refine RnS.lift (fun vm0 hs r => have K := K.on hs; Rn.istore K (q := 46) (Ls' := #[.val (.int p1), .val (.int p2), .val (.int p3), .val (.int p4), .val (.int p5), .val (.int (p1 &&& (255 : Int32)).toUInt32.toUInt16.toUInt32.toInt32), .val (.int (p2 &&& (255 : Int32)).toUInt32.toUInt16.toUInt32.toInt32), .val (.int (p3 &&& (255 : Int32)).toUInt32.toUInt16.toUInt32.toInt32), .val (.int (p4 &&& (255 : Int32)).toUInt32.toUInt16.toUInt32.toInt32), .val (.int (1 : Int32)), .unset, .unset, .unset, .unset, .unset]) at_44 rfl rfl r) ?_
    refine RnS.newO K (q := 49) (oT 0 rfl) (oT 1 rfl) (oT 2 rfl) (by decide) (by decide) at_46 rfl ?_
    intro b813 h814 gb813_ X815 A_b813 D816
    have g_b813 : n0 ≤ b813 := by rw [gb813_]; exact X0.1 ▸ X0.2.1
    have f817 := X0.ext X815
    have f818 : Fld Z h814 b813 "java/lang/String" "coder" "B" (.int (0 : Int32)) := D816 (Or.inr (K.hw _ (oT 27 rfl))) (ty := .byte) (by decide)
    have f819 : Fld Z h814 b813 "java/lang/String" "value" "[B" .null := D816 (Or.inr (K.hw _ (oT 29 rfl))) (ty := (.array .byte)) (by decide)
    show RnS w l _ n0 _ Z EL1 [b813] 49 _ [(.ref b813)] h814 1 4
    refine RnS.lift (fun vm0 hs r => have K := K.on hs; Rn.dup K (q := 50) at_49 rfl rfl r) ?_
    refine RnS.lift (fun vm0 hs r => have K := K.on hs; Rn.iconst K (q := 51) (2 : Int32) at_50 rfl rfl r) ?_
    refine RnS.newP K (q := 53) (cap := 2) (oT 3 rfl) (by decide) (by decide) (by decide) (by decide) (by decide) (ad := "[C") (by decide) at_51 rfl ?_
    intro b820 h821 k823 gb820_ X822 A_b820 EA_b820
    have ne_b813_b820 : b813 ≠ b820 := fun e => absurd A_b813.lt (by rw [e, gb820_]; exact Nat.lt_irrefl _)
    have g_b820 : n0 ≤ b820 := by rw [gb820_]; exact f817.1 ▸ f817.2.1
    have f824 := f817.ext X822
    have f825 := A_b813.ext X822
    have f826 := f818.ext X822
    have f827 := f819.ext X822
    replace A_b820 : Arv Z h821 b820 k823 .char (2 : Int32) [oZ, oZ] oZ := A_b820.pad (pad_rep [] oZ 2)
    show RnS w l _ n0 _ Z EL1 [b820, b813] 53 _ [(.ref b820), (.ref b813), (.ref b813)] h821 2 6
    refine RnS.lift (fun vm0 hs r => have K := K.on hs; Rn.dup K (q := 54) at_53 rfl rfl r) ?_
    refine RnS.lift (fun vm0 hs r => have K := K.on hs; Rn.iconst K (q := 55) (0 : Int32) at_54 rfl rfl r) ?_
    refine RnS.lift (fun vm0 hs r => have K := K.on hs; Rn.iload K (q := 57) at_55 rfl rfl r) ?_
    refine RnS.liftWP (Or.inl (oT 0 rfl)) (fun vm0 hs r => have K := K.on hs; Rn.castore K (q := 58) (i := 0) A_b820 (by decide) rfl (oL rfl) g_b820 at_57 rfl r) ?_
    intro h828 W829 A830
    have f831 := f824.wr W829 g_b820
    have f832 := f825.wr W829
    have f833 := Fld.other W829 f826 (Or.inl ne_b813_b820)
    have f834 := Fld.other W829 f827 (Or.inl ne_b813_b820)
    have f835 := EA_b820.wr W829
    replace A830 : Arv Z h828 b820 k823 .char (2 : Int32) [(.int (nar .char (p1 &&& (255 : Int32)).toUInt32.toUInt16.toUInt32.toInt32)), oZ] oZ := A830
    refine RnS.lift (fun vm0 hs r => have K := K.on hs; Rn.dup K (q := 59) at_58 rfl rfl r) ?_
    refine RnS.lift (fun vm0 hs r => have K := K.on hs; Rn.iconst K (q := 60) (1 : Int32) at_59 rfl rfl r) ?_
    refine RnS.lift (fun vm0 hs r => have K := K.on hs; Rn.iload K (q := 62) at_60 rfl rfl r) ?_
    refine RnS.liftWP (Or.inl (oT 0 rfl)) (fun vm0 hs r => have K := K.on hs; Rn.castore K (q := 63) (i := 1) A830 (by decide) rfl (oL rfl) g_b820 at_62 rfl r) ?_
    intro h836 W837 A838
    have f839 := f831.wr W837 g_b820
    have f840 := f832.wr W837
    have f841 := Fld.other W837 f833 (Or.inl ne_b813_b820)
    have f842 := Fld.other W837 f834 (Or.inl ne_b813_b820)
    have f843 := f835.wr W837
    replace A838 : Arv Z h836 b820 k823 .char (2 : Int32) [(.int (nar .char (p1 &&& (255 : Int32)).toUInt32.toUInt16.toUInt32.toInt32)), (.int (nar .char (p2 &&& (255 : Int32)).toUInt32.toUInt16.toUInt32.toInt32))] oZ := A838
    refine RnS.liftC (fun vm0 hs r => have K := K.on hs; Rn.spec K (q := 66) (W := 1) (y := oM8) (b := b813) (argsL := [(.ref b820)]) (rest := [(.ref b813)]) rfl (oT 4 rfl) (oT 5 rfl) (oT 6 rfl) (oT 2 rfl) (by decide) (m_ic2 l Z a0 hw n0 h836 b813 b820 k823 (nar .char (p1 &&& (255 : Int32)).toUInt32.toUInt16.toUInt32.toInt32) (nar .char (p2 &&& (255 : Int32)).toUInt32.toUInt16.toUInt32.toInt32) cst f839 SC hcs f840 g_b813 f842 f841 f843 A838 (own_ch2 p1) (own_ch2 p2)) (by decide) (by decide) rfl (lenOf pd_26 rfl) rfl (oL rfl) at_63 rfl (by decide) (by decide) r) (by rintro _ _ ⟨rfl, Kp, -⟩; exact own_kpL Kp (by simp)) ?_
    rintro _ h844 ⟨rfl, K845, v846, k847, F848, F849, E850, A851⟩
    have f852 := f839.keep K845 (allS g_b813 all0)
    have f853 := f840.keep K845
    replace A851 : Arv Z h844 v846 k847 .byte (2 : Int32) [(.int (nar .byte (nar .char (p1 &&& (255 : Int32)).toUInt32.toUInt16.toUInt32.toInt32).toInt8.toInt32)), (.int (nar .byte (nar .char (p2 &&& (255 : Int32)).toUInt32.toUInt16.toUInt32.toInt32).toInt8.toInt32))] oZ := A851
    show RnS w l _ n0 _ Z EL1 [b820, b813] 66 _ [(.ref b813)] h844 3 8
    refine RnS.lift (fun vm0 hs r => have K := K.on hs; Rn.astore K (q := 68) (Ls' := #[.val (.int p1), .val (.int p2), .val (.int p3), .val (.int p4), .val (.int p5), .val (.int (p1 &&& (255 : Int32)).toUInt32.toUInt16.toUInt32.toInt32), .val (.int (p2 &&& (255 : Int32)).toUInt32.toUInt16.toUInt32.toInt32), .val (.int (p3 &&& (255 : Int32)).toUInt32.toUInt16.toUInt32.toInt32), .val (.int (p4 &&& (255 : Int32)).toUInt32.toUInt16.toUInt32.toInt32), .val (.int (1 : Int32)), .val (.ref b813), .unset, .unset, .unset, .unset]) at_66 rfl rfl rfl r) ?_
    refine RnS.lift (fun vm0 hs r => have K := K.on hs; Rn.iload K (q := 70) at_68 rfl rfl r) ?_
    refine RnS.lift (fun vm0 hs r => have K := K.on hs; Rn.ifN K (q := 73) at_70 (XT.i0_eq_f (by decide)) rfl r) ?_
    refine RnS.ldcS K (q := 75) (n := 0) (vs := []) (z := (0 : Int32)) (oT 208 rfl) wS hEL (oT 6 rfl) (by decide) (by decide) rfl (by decide) (by decide) (by decide) (by decide) at_73 rfl ?_
    intro la856 lb857 k858 h859 X860 q861 q862 q863 q864 q865
    have f866 := f852.ext X860
    have f867 := f853.ext X860
    have f868 := F848.ext X860
    have f869 := F849.ext X860
    have f870 := E850.ext X860
    have f871 := A851.ext X860
    show RnS w l _ n0 _ Z EL1 [b820, b813] 75 _ [(.ref la856)] h859 5 12
    refine RnS.lift (fun vm0 hs r => have K := K.on hs; Rn.goto K (q := 98) at_75 (by decide) (by decide) r) ?_
    refine RnS.lift (fun vm0 hs r => have K := K.on hs; Rn.astore K (q := 100) (Ls' := #[.val (.int p1), .val (.int p2), .val (.int p3), .val (.int p4), .val (.int p5), .val (.int (p1 &&& (255 : Int32)).toUInt32.toUInt16.toUInt32.toInt32), .val (.int (p2 &&& (255 : Int32)).toUInt32.toUInt16.toUInt32.toInt32), .val (.int (p3 &&& (255 : Int32)).toUInt32.toUInt16.toUInt32.toInt32), .val (.int (p4 &&& (255 : Int32)).toUInt32.toUInt16.toUInt32.toInt32), .val (.int (1 : Int32)), .val (.ref b813), .val (.ref la856), .unset, .unset, .unset]) at_98 rfl rfl rfl r) ?_
    refine RnS.lift (fun vm0 hs r => have K := K.on hs; Rn.iload K (q := 102) at_100 rfl rfl r) ?_
    refine RnS.lift (fun vm0 hs r => have K := K.on hs; Rn.ifN K (q := 105) at_102 (XT.i0_eq_f (by decide)) rfl r) ?_
    refine RnS.newO K (q := 108) (oT 0 rfl) (oT 1 rfl) (oT 2 rfl) (by decide) (by decide) at_105 rfl ?_
    intro b872 h873 gb872_ X874 A_b872 D875
    have ne_b813_b872 : b813 ≠ b872 := fun e => absurd f867.lt (by rw [e, gb872_]; exact Nat.lt_irrefl _)
    have ne_v846_b872 : v846 ≠ b872 := fun e => absurd f870.lt (by rw [e, gb872_]; exact Nat.lt_irrefl _)
    have ne_v846_b872 : v846 ≠ b872 := fun e => absurd f870.lt (by rw [e, gb872_]; exact Nat.lt_irrefl _)
    have ne_la856_b872 : la856 ≠ b872 := fun e => absurd q861.lt (by rw [e, gb872_]; exact Nat.lt_irrefl _)
    have ne_lb857_b872 : lb857 ≠ b872 := fun e => absurd q864.lt (by rw [e, gb872_]; exact Nat.lt_irrefl _)
    have g_b872 : n0 ≤ b872 := by rw [gb872_]; exact f866.1 ▸ f866.2.1
    have f876 := f866.ext X874
    have f877 := f867.ext X874
    have f878 := f868.ext X874
    have f879 := f869.ext X874
    have f880 := f870.ext X874
    have f881 := f871.ext X874
    have f882 := q861.ext X874
    have f883 := q862.ext X874
    have f884 := q863.ext X874
    have f885 := q864.ext X874
    have f886 : Fld Z h873 b872 "java/lang/String" "coder" "B" (.int (0 : Int32)) := D875 (Or.inr (K.hw _ (oT 27 rfl))) (ty := .byte) (by decide)
    have f887 : Fld Z h873 b872 "java/lang/String" "value" "[B" .null := D875 (Or.inr (K.hw _ (oT 29 rfl))) (ty := (.array .byte)) (by decide)
    show RnS w l _ n0 _ Z EL1 [b872, b820, b813] 108 _ [(.ref b872)] h873 6 16
    refine RnS.lift (fun vm0 hs r => have K := K.on hs; Rn.dup K (q := 109) at_108 rfl rfl r) ?_
    refine RnS.lift (fun vm0 hs r => have K := K.on hs; Rn.bipush K (q := 111) (23 : Int32) at_109 rfl rfl r) ?_
    refine RnS.newP K (q := 113) (cap := 23) (oT 3 rfl) (by decide) (by decide) (by decide) (by decide) (by decide) (ad := "[C") (by decide) at_111 rfl ?_
    intro b888 h889 k891 gb888_ X890 A_b888 EA_b888
    have ne_b813_b888 : b813 ≠ b888 := fun e => absurd f877.lt (by rw [e, gb888_]; exact Nat.lt_irrefl _)
    have ne_v846_b888 : v846 ≠ b888 := fun e => absurd f880.lt (by rw [e, gb888_]; exact Nat.lt_irrefl _)
    have ne_v846_b888 : v846 ≠ b888 := fun e => absurd f880.lt (by rw [e, gb888_]; exact Nat.lt_irrefl _)
    have ne_la856_b888 : la856 ≠ b888 := fun e => absurd f882.lt (by rw [e, gb888_]; exact Nat.lt_irrefl _)
    have ne_lb857_b888 : lb857 ≠ b888 := fun e => absurd f885.lt (by rw [e, gb888_]; exact Nat.lt_irrefl _)
    have ne_b872_b888 : b872 ≠ b888 := fun e => absurd A_b872.lt (by rw [e, gb888_]; exact Nat.lt_irrefl _)
    have g_b888 : n0 ≤ b888 := by rw [gb888_]; exact f876.1 ▸ f876.2.1
    have f892 := f876.ext X890
    have f893 := f877.ext X890
    have f894 := f878.ext X890
    have f895 := f879.ext X890
    have f896 := f880.ext X890
    have f897 := f881.ext X890
    have f898 := f882.ext X890
    have f899 := f883.ext X890
    have f900 := f884.ext X890
    have f901 := f885.ext X890
    have f902 := A_b872.ext X890
    have f903 := f886.ext X890
    have f904 := f887.ext X890
    replace A_b888 : Arv Z h889 b888 k891 .char (23 : Int32) [oZ, oZ, oZ, oZ, oZ, oZ, oZ, oZ, oZ, oZ, oZ, oZ, oZ, oZ, oZ, oZ, oZ, oZ, oZ, oZ, oZ, oZ, oZ] oZ := A_b888.pad (pad_rep [] oZ 23)
    show RnS w l _ n0 _ Z EL1 [b888, b872, b820, b813] 113 _ [(.ref b888), (.ref b872), (.ref b872)] h889 7 39
    refine RnS.lift (fun vm0 hs r => have K := K.on hs; Rn.dup K (q := 114) at_113 rfl rfl r) ?_
    refine RnS.lift (fun vm0 hs r => have K := K.on hs; Rn.iconst K (q := 115) (0 : Int32) at_114 rfl rfl r) ?_
    refine RnS.lift (fun vm0 hs r => have K := K.on hs; Rn.bipush K (q := 117) (109 : Int32) at_115 rfl rfl r) ?_
    refine RnS.liftWP (Or.inl (oT 0 rfl)) (fun vm0 hs r => have K := K.on hs; Rn.castore K (q := 118) (i := 0) A_b888 (by decide) rfl (oL rfl) g_b888 at_117 rfl r) ?_
    intro h905 W906 A907
    have f908 := f892.wr W906 g_b888
    have f909 := f893.wr W906
    have f910 := Fld.other W906 f894 (Or.inl ne_b813_b888)
    have f911 := Fld.other W906 f895 (Or.inl ne_b813_b888)
    have f912 := f896.wr W906
    have f913 := f897.other W906 ne_v846_b888
    have f914 := f898.wr W906
    have f915 := Fld.other W906 f899 (Or.inl ne_la856_b888)
    have f916 := Fld.other W906 f900 (Or.inl ne_la856_b888)
    have f917 := f901.other W906 ne_lb857_b888
    have f918 := f902.wr W906
    have f919 := Fld.other W906 f903 (Or.inl ne_b872_b888)
    have f920 := Fld.other W906 f904 (Or.inl ne_b872_b888)
    have f921 := EA_b888.wr W906
    replace A907 : Arv Z h905 b888 k891 .char (23 : Int32) [(.int (109 : Int32)), oZ, oZ, oZ, oZ, oZ, oZ, oZ, oZ, oZ, oZ, oZ, oZ, oZ, oZ, oZ, oZ, oZ, oZ, oZ, oZ, oZ, oZ] oZ := A907
    refine RnS.lift (fun vm0 hs r => have K := K.on hs; Rn.dup K (q := 119) at_118 rfl rfl r) ?_
    refine RnS.lift (fun vm0 hs r => have K := K.on hs; Rn.iconst K (q := 120) (1 : Int32) at_119 rfl rfl r) ?_
    refine RnS.lift (fun vm0 hs r => have K := K.on hs; Rn.bipush K (q := 122) (101 : Int32) at_120 rfl rfl r) ?_
    refine RnS.liftWP (Or.inl (oT 0 rfl)) (fun vm0 hs r => have K := K.on hs; Rn.castore K (q := 123) (i := 1) A907 (by decide) rfl (oL rfl) g_b888 at_122 rfl r) ?_
    intro h922 W923 A924
    have f925 := f908.wr W923 g_b888
    have f926 := f909.wr W923
    have f927 := Fld.other W923 f910 (Or.inl ne_b813_b888)
    have f928 := Fld.other W923 f911 (Or.inl ne_b813_b888)
    have f929 := f912.wr W923
    have f930 := f913.other W923 ne_v846_b888
    have f931 := f914.wr W923
    have f932 := Fld.other W923 f915 (Or.inl ne_la856_b888)
    have f933 := Fld.other W923 f916 (Or.inl ne_la856_b888)
    have f934 := f917.other W923 ne_lb857_b888
    have f935 := f918.wr W923
    have f936 := Fld.other W923 f919 (Or.inl ne_b872_b888)
    have f937 := Fld.other W923 f920 (Or.inl ne_b872_b888)
    have f938 := f921.wr W923
    replace A924 : Arv Z h922 b888 k891 .char (23 : Int32) [(.int (109 : Int32)), (.int (101 : Int32)), oZ, oZ, oZ, oZ, oZ, oZ, oZ, oZ, oZ, oZ, oZ, oZ, oZ, oZ, oZ, oZ, oZ, oZ, oZ, oZ, oZ] oZ := A924
    refine RnS.lift (fun vm0 hs r => have K := K.on hs; Rn.dup K (q := 124) at_123 rfl rfl r) ?_
    refine RnS.lift (fun vm0 hs r => have K := K.on hs; Rn.iconst K (q := 125) (2 : Int32) at_124 rfl rfl r) ?_
    refine RnS.lift (fun vm0 hs r => have K := K.on hs; Rn.bipush K (q := 127) (109 : Int32) at_125 rfl rfl r) ?_
    refine RnS.liftWP (Or.inl (oT 0 rfl)) (fun vm0 hs r => have K := K.on hs; Rn.castore K (q := 128) (i := 2) A924 (by decide) rfl (oL rfl) g_b888 at_127 rfl r) ?_
    intro h939 W940 A941
    have f942 := f925.wr W940 g_b888
    have f943 := f926.wr W940
    have f944 := Fld.other W940 f927 (Or.inl ne_b813_b888)
    have f945 := Fld.other W940 f928 (Or.inl ne_b813_b888)
    have f946 := f929.wr W940
    have f947 := f930.other W940 ne_v846_b888
    have f948 := f931.wr W940
    have f949 := Fld.other W940 f932 (Or.inl ne_la856_b888)
    have f950 := Fld.other W940 f933 (Or.inl ne_la856_b888)
    have f951 := f934.other W940 ne_lb857_b888
    have f952 := f935.wr W940
    have f953 := Fld.other W940 f936 (Or.inl ne_b872_b888)
    have f954 := Fld.other W940 f937 (Or.inl ne_b872_b888)
    have f955 := f938.wr W940
    replace A941 : Arv Z h939 b888 k891 .char (23 : Int32) [(.int (109 : Int32)), (.int (101 : Int32)), (.int (109 : Int32)), oZ, oZ, oZ, oZ, oZ, oZ, oZ, oZ, oZ, oZ, oZ, oZ, oZ, oZ, oZ, oZ, oZ, oZ, oZ, oZ] oZ := A941
    refine RnS.lift (fun vm0 hs r => have K := K.on hs; Rn.dup K (q := 129) at_128 rfl rfl r) ?_
    refine RnS.lift (fun vm0 hs r => have K := K.on hs; Rn.iconst K (q := 130) (3 : Int32) at_129 rfl rfl r) ?_
    refine RnS.lift (fun vm0 hs r => have K := K.on hs; Rn.bipush K (q := 132) (98 : Int32) at_130 rfl rfl r) ?_
    refine RnS.liftWP (Or.inl (oT 0 rfl)) (fun vm0 hs r => have K := K.on hs; Rn.castore K (q := 133) (i := 3) A941 (by decide) rfl (oL rfl) g_b888 at_132 rfl r) ?_
    intro h956 W957 A958
    have f959 := f942.wr W957 g_b888
    have f960 := f943.wr W957
    have f961 := Fld.other W957 f944 (Or.inl ne_b813_b888)
    have f962 := Fld.other W957 f945 (Or.inl ne_b813_b888)
    have f963 := f946.wr W957
    have f964 := f947.other W957 ne_v846_b888
    have f965 := f948.wr W957
    have f966 := Fld.other W957 f949 (Or.inl ne_la856_b888)
    have f967 := Fld.other W957 f950 (Or.inl ne_la856_b888)
    have f968 := f951.other W957 ne_lb857_b888
    have f969 := f952.wr W957
    have f970 := Fld.other W957 f953 (Or.inl ne_b872_b888)
    have f971 := Fld.other W957 f954 (Or.inl ne_b872_b888)
    have f972 := f955.wr W957
    replace A958 : Arv Z h956 b888 k891 .char (23 : Int32) [(.int (109 : Int32)), (.int (101 : Int32)), (.int (109 : Int32)), (.int (98 : Int32)), oZ, oZ, oZ, oZ, oZ, oZ, oZ, oZ, oZ, oZ, oZ, oZ, oZ, oZ, oZ, oZ, oZ, oZ, oZ] oZ := A958
    refine RnS.lift (fun vm0 hs r => have K := K.on hs; Rn.dup K (q := 134) at_133 rfl rfl r) ?_
    refine RnS.lift (fun vm0 hs r => have K := K.on hs; Rn.iconst K (q := 135) (4 : Int32) at_134 rfl rfl r) ?_
    refine RnS.lift (fun vm0 hs r => have K := K.on hs; Rn.bipush K (q := 137) (101 : Int32) at_135 rfl rfl r) ?_
    refine RnS.liftWP (Or.inl (oT 0 rfl)) (fun vm0 hs r => have K := K.on hs; Rn.castore K (q := 138) (i := 4) A958 (by decide) rfl (oL rfl) g_b888 at_137 rfl r) ?_
    intro h973 W974 A975
    have f976 := f959.wr W974 g_b888
    have f977 := f960.wr W974
    have f978 := Fld.other W974 f961 (Or.inl ne_b813_b888)
    have f979 := Fld.other W974 f962 (Or.inl ne_b813_b888)
    have f980 := f963.wr W974
    have f981 := f964.other W974 ne_v846_b888
    have f982 := f965.wr W974
    have f983 := Fld.other W974 f966 (Or.inl ne_la856_b888)
    have f984 := Fld.other W974 f967 (Or.inl ne_la856_b888)
    have f985 := f968.other W974 ne_lb857_b888
    have f986 := f969.wr W974
    have f987 := Fld.other W974 f970 (Or.inl ne_b872_b888)
    have f988 := Fld.other W974 f971 (Or.inl ne_b872_b888)
    have f989 := f972.wr W974
    replace A975 : Arv Z h973 b888 k891 .char (23 : Int32) [(.int (109 : Int32)), (.int (101 : Int32)), (.int (109 : Int32)), (.int (98 : Int32)), (.int (101 : Int32)), oZ, oZ, oZ, oZ, oZ, oZ, oZ, oZ, oZ, oZ, oZ, oZ, oZ, oZ, oZ, oZ, oZ, oZ] oZ := A975
    refine RnS.lift (fun vm0 hs r => have K := K.on hs; Rn.dup K (q := 139) at_138 rfl rfl r) ?_
    refine RnS.lift (fun vm0 hs r => have K := K.on hs; Rn.iconst K (q := 140) (5 : Int32) at_139 rfl rfl r) ?_
    refine RnS.lift (fun vm0 hs r => have K := K.on hs; Rn.bipush K (q := 142) (114 : Int32) at_140 rfl rfl r) ?_
    refine RnS.liftWP (Or.inl (oT 0 rfl)) (fun vm0 hs r => have K := K.on hs; Rn.castore K (q := 143) (i := 5) A975 (by decide) rfl (oL rfl) g_b888 at_142 rfl r) ?_
    intro h990 W991 A992
    have f993 := f976.wr W991 g_b888
    have f994 := f977.wr W991
    have f995 := Fld.other W991 f978 (Or.inl ne_b813_b888)
    have f996 := Fld.other W991 f979 (Or.inl ne_b813_b888)
    have f997 := f980.wr W991
    have f998 := f981.other W991 ne_v846_b888
    have f999 := f982.wr W991
    have f1000 := Fld.other W991 f983 (Or.inl ne_la856_b888)
    have f1001 := Fld.other W991 f984 (Or.inl ne_la856_b888)
    have f1002 := f985.other W991 ne_lb857_b888
    have f1003 := f986.wr W991
    have f1004 := Fld.other W991 f987 (Or.inl ne_b872_b888)
    have f1005 := Fld.other W991 f988 (Or.inl ne_b872_b888)
    have f1006 := f989.wr W991
    replace A992 : Arv Z h990 b888 k891 .char (23 : Int32) [(.int (109 : Int32)), (.int (101 : Int32)), (.int (109 : Int32)), (.int (98 : Int32)), (.int (101 : Int32)), (.int (114 : Int32)), oZ, oZ, oZ, oZ, oZ, oZ, oZ, oZ, oZ, oZ, oZ, oZ, oZ, oZ, oZ, oZ, oZ] oZ := A992
    refine RnS.lift (fun vm0 hs r => have K := K.on hs; Rn.dup K (q := 144) at_143 rfl rfl r) ?_
    refine RnS.lift (fun vm0 hs r => have K := K.on hs; Rn.bipush K (q := 146) (6 : Int32) at_144 rfl rfl r) ?_
    refine RnS.lift (fun vm0 hs r => have K := K.on hs; Rn.bipush K (q := 148) (32 : Int32) at_146 rfl rfl r) ?_
    refine RnS.liftWP (Or.inl (oT 0 rfl)) (fun vm0 hs r => have K := K.on hs; Rn.castore K (q := 149) (i := 6) A992 (by decide) rfl (oL rfl) g_b888 at_148 rfl r) ?_
    intro h1007 W1008 A1009
    have f1010 := f993.wr W1008 g_b888
    have f1011 := f994.wr W1008
    have f1012 := Fld.other W1008 f995 (Or.inl ne_b813_b888)
    have f1013 := Fld.other W1008 f996 (Or.inl ne_b813_b888)
    have f1014 := f997.wr W1008
    have f1015 := f998.other W1008 ne_v846_b888
    have f1016 := f999.wr W1008
    have f1017 := Fld.other W1008 f1000 (Or.inl ne_la856_b888)
    have f1018 := Fld.other W1008 f1001 (Or.inl ne_la856_b888)
    have f1019 := f1002.other W1008 ne_lb857_b888
    have f1020 := f1003.wr W1008
    have f1021 := Fld.other W1008 f1004 (Or.inl ne_b872_b888)
    have f1022 := Fld.other W1008 f1005 (Or.inl ne_b872_b888)
    have f1023 := f1006.wr W1008
    replace A1009 : Arv Z h1007 b888 k891 .char (23 : Int32) [(.int (109 : Int32)), (.int (101 : Int32)), (.int (109 : Int32)), (.int (98 : Int32)), (.int (101 : Int32)), (.int (114 : Int32)), (.int (32 : Int32)), oZ, oZ, oZ, oZ, oZ, oZ, oZ, oZ, oZ, oZ, oZ, oZ, oZ, oZ, oZ, oZ] oZ := A1009
    refine RnS.lift (fun vm0 hs r => have K := K.on hs; Rn.dup K (q := 150) at_149 rfl rfl r) ?_
    refine RnS.lift (fun vm0 hs r => have K := K.on hs; Rn.bipush K (q := 152) (7 : Int32) at_150 rfl rfl r) ?_
    refine RnS.lift (fun vm0 hs r => have K := K.on hs; Rn.iload K (q := 154) at_152 rfl rfl r) ?_
    refine RnS.liftWP (Or.inl (oT 0 rfl)) (fun vm0 hs r => have K := K.on hs; Rn.castore K (q := 155) (i := 7) A1009 (by decide) rfl (oL rfl) g_b888 at_154 rfl r) ?_
    intro h1024 W1025 A1026
    have f1027 := f1010.wr W1025 g_b888
    have f1028 := f1011.wr W1025
    have f1029 := Fld.other W1025 f1012 (Or.inl ne_b813_b888)
    have f1030 := Fld.other W1025 f1013 (Or.inl ne_b813_b888)
    have f1031 := f1014.wr W1025
    have f1032 := f1015.other W1025 ne_v846_b888
    have f1033 := f1016.wr W1025
    have f1034 := Fld.other W1025 f1017 (Or.inl ne_la856_b888)
    have f1035 := Fld.other W1025 f1018 (Or.inl ne_la856_b888)
    have f1036 := f1019.other W1025 ne_lb857_b888
    have f1037 := f1020.wr W1025
    have f1038 := Fld.other W1025 f1021 (Or.inl ne_b872_b888)
    have f1039 := Fld.other W1025 f1022 (Or.inl ne_b872_b888)
    have f1040 := f1023.wr W1025
    replace A1026 : Arv Z h1024 b888 k891 .char (23 : Int32) [(.int (109 : Int32)), (.int (101 : Int32)), (.int (109 : Int32)), (.int (98 : Int32)), (.int (101 : Int32)), (.int (114 : Int32)), (.int (32 : Int32)), (.int (nar .char (p1 &&& (255 : Int32)).toUInt32.toUInt16.toUInt32.toInt32)), oZ, oZ, oZ, oZ, oZ, oZ, oZ, oZ, oZ, oZ, oZ, oZ, oZ, oZ, oZ] oZ := A1026
    refine RnS.lift (fun vm0 hs r => have K := K.on hs; Rn.dup K (q := 156) at_155 rfl rfl r) ?_
    refine RnS.lift (fun vm0 hs r => have K := K.on hs; Rn.bipush K (q := 158) (8 : Int32) at_156 rfl rfl r) ?_
    refine RnS.lift (fun vm0 hs r => have K := K.on hs; Rn.iload K (q := 160) at_158 rfl rfl r) ?_
    refine RnS.liftWP (Or.inl (oT 0 rfl)) (fun vm0 hs r => have K := K.on hs; Rn.castore K (q := 161) (i := 8) A1026 (by decide) rfl (oL rfl) g_b888 at_160 rfl r) ?_
    intro h1041 W1042 A1043
    have f1044 := f1027.wr W1042 g_b888
    have f1045 := f1028.wr W1042
    have f1046 := Fld.other W1042 f1029 (Or.inl ne_b813_b888)
    have f1047 := Fld.other W1042 f1030 (Or.inl ne_b813_b888)
    have f1048 := f1031.wr W1042
    have f1049 := f1032.other W1042 ne_v846_b888
    have f1050 := f1033.wr W1042
    have f1051 := Fld.other W1042 f1034 (Or.inl ne_la856_b888)
    have f1052 := Fld.other W1042 f1035 (Or.inl ne_la856_b888)
    have f1053 := f1036.other W1042 ne_lb857_b888
    have f1054 := f1037.wr W1042
    have f1055 := Fld.other W1042 f1038 (Or.inl ne_b872_b888)
    have f1056 := Fld.other W1042 f1039 (Or.inl ne_b872_b888)
    have f1057 := f1040.wr W1042
    replace A1043 : Arv Z h1041 b888 k891 .char (23 : Int32) [(.int (109 : Int32)), (.int (101 : Int32)), (.int (109 : Int32)), (.int (98 : Int32)), (.int (101 : Int32)), (.int (114 : Int32)), (.int (32 : Int32)), (.int (nar .char (p1 &&& (255 : Int32)).toUInt32.toUInt16.toUInt32.toInt32)), (.int (nar .char (p2 &&& (255 : Int32)).toUInt32.toUInt16.toUInt32.toInt32)), oZ, oZ, oZ, oZ, oZ, oZ, oZ, oZ, oZ, oZ, oZ, oZ, oZ, oZ] oZ := A1043
    refine RnS.lift (fun vm0 hs r => have K := K.on hs; Rn.dup K (q := 162) at_161 rfl rfl r) ?_
    refine RnS.lift (fun vm0 hs r => have K := K.on hs; Rn.bipush K (q := 164) (9 : Int32) at_162 rfl rfl r) ?_
    refine RnS.lift (fun vm0 hs r => have K := K.on hs; Rn.bipush K (q := 166) (39 : Int32) at_164 rfl rfl r) ?_
    refine RnS.liftWP (Or.inl (oT 0 rfl)) (fun vm0 hs r => have K := K.on hs; Rn.castore K (q := 167) (i := 9) A1043 (by decide) rfl (oL rfl) g_b888 at_166 rfl r) ?_
    intro h1058 W1059 A1060
    have f1061 := f1044.wr W1059 g_b888
    have f1062 := f1045.wr W1059
    have f1063 := Fld.other W1059 f1046 (Or.inl ne_b813_b888)
    have f1064 := Fld.other W1059 f1047 (Or.inl ne_b813_b888)
    have f1065 := f1048.wr W1059
    have f1066 := f1049.other W1059 ne_v846_b888
    have f1067 := f1050.wr W1059
    have f1068 := Fld.other W1059 f1051 (Or.inl ne_la856_b888)
    have f1069 := Fld.other W1059 f1052 (Or.inl ne_la856_b888)
    have f1070 := f1053.other W1059 ne_lb857_b888
    have f1071 := f1054.wr W1059
    have f1072 := Fld.other W1059 f1055 (Or.inl ne_b872_b888)
    have f1073 := Fld.other W1059 f1056 (Or.inl ne_b872_b888)
    have f1074 := f1057.wr W1059
    replace A1060 : Arv Z h1058 b888 k891 .char (23 : Int32) [(.int (109 : Int32)), (.int (101 : Int32)), (.int (109 : Int32)), (.int (98 : Int32)), (.int (101 : Int32)), (.int (114 : Int32)), (.int (32 : Int32)), (.int (nar .char (p1 &&& (255 : Int32)).toUInt32.toUInt16.toUInt32.toInt32)), (.int (nar .char (p2 &&& (255 : Int32)).toUInt32.toUInt16.toUInt32.toInt32)), (.int (39 : Int32)), oZ, oZ, oZ, oZ, oZ, oZ, oZ, oZ, oZ, oZ, oZ, oZ, oZ] oZ := A1060
    refine RnS.lift (fun vm0 hs r => have K := K.on hs; Rn.dup K (q := 168) at_167 rfl rfl r) ?_
    refine RnS.lift (fun vm0 hs r => have K := K.on hs; Rn.bipush K (q := 170) (10 : Int32) at_168 rfl rfl r) ?_
    refine RnS.lift (fun vm0 hs r => have K := K.on hs; Rn.bipush K (q := 172) (115 : Int32) at_170 rfl rfl r) ?_
    refine RnS.liftWP (Or.inl (oT 0 rfl)) (fun vm0 hs r => have K := K.on hs; Rn.castore K (q := 173) (i := 10) A1060 (by decide) rfl (oL rfl) g_b888 at_172 rfl r) ?_
    intro h1075 W1076 A1077
    have f1078 := f1061.wr W1076 g_b888
    have f1079 := f1062.wr W1076
    have f1080 := Fld.other W1076 f1063 (Or.inl ne_b813_b888)
    have f1081 := Fld.other W1076 f1064 (Or.inl ne_b813_b888)
    have f1082 := f1065.wr W1076
    have f1083 := f1066.other W1076 ne_v846_b888
    have f1084 := f1067.wr W1076
    have f1085 := Fld.other W1076 f1068 (Or.inl ne_la856_b888)
    have f1086 := Fld.other W1076 f1069 (Or.inl ne_la856_b888)
    have f1087 := f1070.other W1076 ne_lb857_b888
    have f1088 := f1071.wr W1076
    have f1089 := Fld.other W1076 f1072 (Or.inl ne_b872_b888)
    have f1090 := Fld.other W1076 f1073 (Or.inl ne_b872_b888)
    have f1091 := f1074.wr W1076
    replace A1077 : Arv Z h1075 b888 k891 .char (23 : Int32) [(.int (109 : Int32)), (.int (101 : Int32)), (.int (109 : Int32)), (.int (98 : Int32)), (.int (101 : Int32)), (.int (114 : Int32)), (.int (32 : Int32)), (.int (nar .char (p1 &&& (255 : Int32)).toUInt32.toUInt16.toUInt32.toInt32)), (.int (nar .char (p2 &&& (255 : Int32)).toUInt32.toUInt16.toUInt32.toInt32)), (.int (39 : Int32)), (.int (115 : Int32)), oZ, oZ, oZ, oZ, oZ, oZ, oZ, oZ, oZ, oZ, oZ, oZ] oZ := A1077
    refine RnS.lift (fun vm0 hs r => have K := K.on hs; Rn.dup K (q := 174) at_173 rfl rfl r) ?_
    refine RnS.lift (fun vm0 hs r => have K := K.on hs; Rn.bipush K (q := 176) (11 : Int32) at_174 rfl rfl r) ?_
    refine RnS.lift (fun vm0 hs r => have K := K.on hs; Rn.bipush K (q := 178) (32 : Int32) at_176 rfl rfl r) ?_
    refine RnS.liftWP (Or.inl (oT 0 rfl)) (fun vm0 hs r => have K := K.on hs; Rn.castore K (q := 179) (i := 11) A1077 (by decide) rfl (oL rfl) g_b888 at_178 rfl r) ?_
    intro h1092 W1093 A1094
    have f1095 := f1078.wr W1093 g_b888
    have f1096 := f1079.wr W1093
    have f1097 := Fld.other W1093 f1080 (Or.inl ne_b813_b888)
    have f1098 := Fld.other W1093 f1081 (Or.inl ne_b813_b888)
    have f1099 := f1082.wr W1093
    have f1100 := f1083.other W1093 ne_v846_b888
    have f1101 := f1084.wr W1093
    have f1102 := Fld.other W1093 f1085 (Or.inl ne_la856_b888)
    have f1103 := Fld.other W1093 f1086 (Or.inl ne_la856_b888)
    have f1104 := f1087.other W1093 ne_lb857_b888
    have f1105 := f1088.wr W1093
    have f1106 := Fld.other W1093 f1089 (Or.inl ne_b872_b888)
    have f1107 := Fld.other W1093 f1090 (Or.inl ne_b872_b888)
    have f1108 := f1091.wr W1093
    replace A1094 : Arv Z h1092 b888 k891 .char (23 : Int32) [(.int (109 : Int32)), (.int (101 : Int32)), (.int (109 : Int32)), (.int (98 : Int32)), (.int (101 : Int32)), (.int (114 : Int32)), (.int (32 : Int32)), (.int (nar .char (p1 &&& (255 : Int32)).toUInt32.toUInt16.toUInt32.toInt32)), (.int (nar .char (p2 &&& (255 : Int32)).toUInt32.toUInt16.toUInt32.toInt32)), (.int (39 : Int32)), (.int (115 : Int32)), (.int (32 : Int32)), oZ, oZ, oZ, oZ, oZ, oZ, oZ, oZ, oZ, oZ, oZ] oZ := A1094
    refine RnS.lift (fun vm0 hs r => have K := K.on hs; Rn.dup K (q := 180) at_179 rfl rfl r) ?_
    refine RnS.lift (fun vm0 hs r => have K := K.on hs; Rn.bipush K (q := 182) (12 : Int32) at_180 rfl rfl r) ?_
    refine RnS.lift (fun vm0 hs r => have K := K.on hs; Rn.bipush K (q := 184) (111 : Int32) at_182 rfl rfl r) ?_
    refine RnS.liftWP (Or.inl (oT 0 rfl)) (fun vm0 hs r => have K := K.on hs; Rn.castore K (q := 185) (i := 12) A1094 (by decide) rfl (oL rfl) g_b888 at_184 rfl r) ?_
    intro h1109 W1110 A1111
    have f1112 := f1095.wr W1110 g_b888
    have f1113 := f1096.wr W1110
    have f1114 := Fld.other W1110 f1097 (Or.inl ne_b813_b888)
    have f1115 := Fld.other W1110 f1098 (Or.inl ne_b813_b888)
    have f1116 := f1099.wr W1110
    have f1117 := f1100.other W1110 ne_v846_b888
    have f1118 := f1101.wr W1110
    have f1119 := Fld.other W1110 f1102 (Or.inl ne_la856_b888)
    have f1120 := Fld.other W1110 f1103 (Or.inl ne_la856_b888)
    have f1121 := f1104.other W1110 ne_lb857_b888
    have f1122 := f1105.wr W1110
    have f1123 := Fld.other W1110 f1106 (Or.inl ne_b872_b888)
    have f1124 := Fld.other W1110 f1107 (Or.inl ne_b872_b888)
    have f1125 := f1108.wr W1110
    replace A1111 : Arv Z h1109 b888 k891 .char (23 : Int32) [(.int (109 : Int32)), (.int (101 : Int32)), (.int (109 : Int32)), (.int (98 : Int32)), (.int (101 : Int32)), (.int (114 : Int32)), (.int (32 : Int32)), (.int (nar .char (p1 &&& (255 : Int32)).toUInt32.toUInt16.toUInt32.toInt32)), (.int (nar .char (p2 &&& (255 : Int32)).toUInt32.toUInt16.toUInt32.toInt32)), (.int (39 : Int32)), (.int (115 : Int32)), (.int (32 : Int32)), (.int (111 : Int32)), oZ, oZ, oZ, oZ, oZ, oZ, oZ, oZ, oZ, oZ] oZ := A1111
    refine RnS.lift (fun vm0 hs r => have K := K.on hs; Rn.dup K (q := 186) at_185 rfl rfl r) ?_
    refine RnS.lift (fun vm0 hs r => have K := K.on hs; Rn.bipush K (q := 188) (13 : Int32) at_186 rfl rfl r) ?_
    refine RnS.lift (fun vm0 hs r => have K := K.on hs; Rn.bipush K (q := 190) (119 : Int32) at_188 rfl rfl r) ?_
    refine RnS.liftWP (Or.inl (oT 0 rfl)) (fun vm0 hs r => have K := K.on hs; Rn.castore K (q := 191) (i := 13) A1111 (by decide) rfl (oL rfl) g_b888 at_190 rfl r) ?_
    intro h1126 W1127 A1128
    have f1129 := f1112.wr W1127 g_b888
    have f1130 := f1113.wr W1127
    have f1131 := Fld.other W1127 f1114 (Or.inl ne_b813_b888)
    have f1132 := Fld.other W1127 f1115 (Or.inl ne_b813_b888)
    have f1133 := f1116.wr W1127
    have f1134 := f1117.other W1127 ne_v846_b888
    have f1135 := f1118.wr W1127
    have f1136 := Fld.other W1127 f1119 (Or.inl ne_la856_b888)
    have f1137 := Fld.other W1127 f1120 (Or.inl ne_la856_b888)
    have f1138 := f1121.other W1127 ne_lb857_b888
    have f1139 := f1122.wr W1127
    have f1140 := Fld.other W1127 f1123 (Or.inl ne_b872_b888)
    have f1141 := Fld.other W1127 f1124 (Or.inl ne_b872_b888)
    have f1142 := f1125.wr W1127
    replace A1128 : Arv Z h1126 b888 k891 .char (23 : Int32) [(.int (109 : Int32)), (.int (101 : Int32)), (.int (109 : Int32)), (.int (98 : Int32)), (.int (101 : Int32)), (.int (114 : Int32)), (.int (32 : Int32)), (.int (nar .char (p1 &&& (255 : Int32)).toUInt32.toUInt16.toUInt32.toInt32)), (.int (nar .char (p2 &&& (255 : Int32)).toUInt32.toUInt16.toUInt32.toInt32)), (.int (39 : Int32)), (.int (115 : Int32)), (.int (32 : Int32)), (.int (111 : Int32)), (.int (119 : Int32)), oZ, oZ, oZ, oZ, oZ, oZ, oZ, oZ, oZ] oZ := A1128
    refine RnS.lift (fun vm0 hs r => have K := K.on hs; Rn.dup K (q := 192) at_191 rfl rfl r) ?_
    refine RnS.lift (fun vm0 hs r => have K := K.on hs; Rn.bipush K (q := 194) (14 : Int32) at_192 rfl rfl r) ?_
    refine RnS.lift (fun vm0 hs r => have K := K.on hs; Rn.bipush K (q := 196) (110 : Int32) at_194 rfl rfl r) ?_
    refine RnS.liftWP (Or.inl (oT 0 rfl)) (fun vm0 hs r => have K := K.on hs; Rn.castore K (q := 197) (i := 14) A1128 (by decide) rfl (oL rfl) g_b888 at_196 rfl r) ?_
    intro h1143 W1144 A1145
    have f1146 := f1129.wr W1144 g_b888
    have f1147 := f1130.wr W1144
    have f1148 := Fld.other W1144 f1131 (Or.inl ne_b813_b888)
    have f1149 := Fld.other W1144 f1132 (Or.inl ne_b813_b888)
    have f1150 := f1133.wr W1144
    have f1151 := f1134.other W1144 ne_v846_b888
    have f1152 := f1135.wr W1144
    have f1153 := Fld.other W1144 f1136 (Or.inl ne_la856_b888)
    have f1154 := Fld.other W1144 f1137 (Or.inl ne_la856_b888)
    have f1155 := f1138.other W1144 ne_lb857_b888
    have f1156 := f1139.wr W1144
    have f1157 := Fld.other W1144 f1140 (Or.inl ne_b872_b888)
    have f1158 := Fld.other W1144 f1141 (Or.inl ne_b872_b888)
    have f1159 := f1142.wr W1144
    replace A1145 : Arv Z h1143 b888 k891 .char (23 : Int32) [(.int (109 : Int32)), (.int (101 : Int32)), (.int (109 : Int32)), (.int (98 : Int32)), (.int (101 : Int32)), (.int (114 : Int32)), (.int (32 : Int32)), (.int (nar .char (p1 &&& (255 : Int32)).toUInt32.toUInt16.toUInt32.toInt32)), (.int (nar .char (p2 &&& (255 : Int32)).toUInt32.toUInt16.toUInt32.toInt32)), (.int (39 : Int32)), (.int (115 : Int32)), (.int (32 : Int32)), (.int (111 : Int32)), (.int (119 : Int32)), (.int (110 : Int32)), oZ, oZ, oZ, oZ, oZ, oZ, oZ, oZ] oZ := A1145
    refine RnS.lift (fun vm0 hs r => have K := K.on hs; Rn.dup K (q := 198) at_197 rfl rfl r) ?_
    refine RnS.lift (fun vm0 hs r => have K := K.on hs; Rn.bipush K (q := 200) (15 : Int32) at_198 rfl rfl r) ?_
    refine RnS.lift (fun vm0 hs r => have K := K.on hs; Rn.bipush K (q := 202) (32 : Int32) at_200 rfl rfl r) ?_
    refine RnS.liftWP (Or.inl (oT 0 rfl)) (fun vm0 hs r => have K := K.on hs; Rn.castore K (q := 203) (i := 15) A1145 (by decide) rfl (oL rfl) g_b888 at_202 rfl r) ?_
    intro h1160 W1161 A1162
    have f1163 := f1146.wr W1161 g_b888
    have f1164 := f1147.wr W1161
    have f1165 := Fld.other W1161 f1148 (Or.inl ne_b813_b888)
    have f1166 := Fld.other W1161 f1149 (Or.inl ne_b813_b888)
    have f1167 := f1150.wr W1161
    have f1168 := f1151.other W1161 ne_v846_b888
    have f1169 := f1152.wr W1161
    have f1170 := Fld.other W1161 f1153 (Or.inl ne_la856_b888)
    have f1171 := Fld.other W1161 f1154 (Or.inl ne_la856_b888)
    have f1172 := f1155.other W1161 ne_lb857_b888
    have f1173 := f1156.wr W1161
    have f1174 := Fld.other W1161 f1157 (Or.inl ne_b872_b888)
    have f1175 := Fld.other W1161 f1158 (Or.inl ne_b872_b888)
    have f1176 := f1159.wr W1161
    replace A1162 : Arv Z h1160 b888 k891 .char (23 : Int32) [(.int (109 : Int32)), (.int (101 : Int32)), (.int (109 : Int32)), (.int (98 : Int32)), (.int (101 : Int32)), (.int (114 : Int32)), (.int (32 : Int32)), (.int (nar .char (p1 &&& (255 : Int32)).toUInt32.toUInt16.toUInt32.toInt32)), (.int (nar .char (p2 &&& (255 : Int32)).toUInt32.toUInt16.toUInt32.toInt32)), (.int (39 : Int32)), (.int (115 : Int32)), (.int (32 : Int32)), (.int (111 : Int32)), (.int (119 : Int32)), (.int (110 : Int32)), (.int (32 : Int32)), oZ, oZ, oZ, oZ, oZ, oZ, oZ] oZ := A1162
    refine RnS.lift (fun vm0 hs r => have K := K.on hs; Rn.dup K (q := 204) at_203 rfl rfl r) ?_
    refine RnS.lift (fun vm0 hs r => have K := K.on hs; Rn.bipush K (q := 206) (16 : Int32) at_204 rfl rfl r) ?_
    refine RnS.lift (fun vm0 hs r => have K := K.on hs; Rn.bipush K (q := 208) (97 : Int32) at_206 rfl rfl r) ?_
    refine RnS.liftWP (Or.inl (oT 0 rfl)) (fun vm0 hs r => have K := K.on hs; Rn.castore K (q := 209) (i := 16) A1162 (by decide) rfl (oL rfl) g_b888 at_208 rfl r) ?_
    intro h1177 W1178 A1179
    have f1180 := f1163.wr W1178 g_b888
    have f1181 := f1164.wr W1178
    have f1182 := Fld.other W1178 f1165 (Or.inl ne_b813_b888)
    have f1183 := Fld.other W1178 f1166 (Or.inl ne_b813_b888)
    have f1184 := f1167.wr W1178
    have f1185 := f1168.other W1178 ne_v846_b888
    have f1186 := f1169.wr W1178
    have f1187 := Fld.other W1178 f1170 (Or.inl ne_la856_b888)
    have f1188 := Fld.other W1178 f1171 (Or.inl ne_la856_b888)
    have f1189 := f1172.other W1178 ne_lb857_b888
    have f1190 := f1173.wr W1178
    have f1191 := Fld.other W1178 f1174 (Or.inl ne_b872_b888)
    have f1192 := Fld.other W1178 f1175 (Or.inl ne_b872_b888)
    have f1193 := f1176.wr W1178
    replace A1179 : Arv Z h1177 b888 k891 .char (23 : Int32) [(.int (109 : Int32)), (.int (101 : Int32)), (.int (109 : Int32)), (.int (98 : Int32)), (.int (101 : Int32)), (.int (114 : Int32)), (.int (32 : Int32)), (.int (nar .char (p1 &&& (255 : Int32)).toUInt32.toUInt16.toUInt32.toInt32)), (.int (nar .char (p2 &&& (255 : Int32)).toUInt32.toUInt16.toUInt32.toInt32)), (.int (39 : Int32)), (.int (115 : Int32)), (.int (32 : Int32)), (.int (111 : Int32)), (.int (119 : Int32)), (.int (110 : Int32)), (.int (32 : Int32)), (.int (97 : Int32)), oZ, oZ, oZ, oZ, oZ, oZ] oZ := A1179
    refine RnS.lift (fun vm0 hs r => have K := K.on hs; Rn.dup K (q := 210) at_209 rfl rfl r) ?_
    refine RnS.lift (fun vm0 hs r => have K := K.on hs; Rn.bipush K (q := 212) (17 : Int32) at_210 rfl rfl r) ?_
    refine RnS.lift (fun vm0 hs r => have K := K.on hs; Rn.bipush K (q := 214) (99 : Int32) at_212 rfl rfl r) ?_
    refine RnS.liftWP (Or.inl (oT 0 rfl)) (fun vm0 hs r => have K := K.on hs; Rn.castore K (q := 215) (i := 17) A1179 (by decide) rfl (oL rfl) g_b888 at_214 rfl r) ?_
    intro h1194 W1195 A1196
    have f1197 := f1180.wr W1195 g_b888
    have f1198 := f1181.wr W1195
    have f1199 := Fld.other W1195 f1182 (Or.inl ne_b813_b888)
    have f1200 := Fld.other W1195 f1183 (Or.inl ne_b813_b888)
    have f1201 := f1184.wr W1195
    have f1202 := f1185.other W1195 ne_v846_b888
    have f1203 := f1186.wr W1195
    have f1204 := Fld.other W1195 f1187 (Or.inl ne_la856_b888)
    have f1205 := Fld.other W1195 f1188 (Or.inl ne_la856_b888)
    have f1206 := f1189.other W1195 ne_lb857_b888
    have f1207 := f1190.wr W1195
    have f1208 := Fld.other W1195 f1191 (Or.inl ne_b872_b888)
    have f1209 := Fld.other W1195 f1192 (Or.inl ne_b872_b888)
    have f1210 := f1193.wr W1195
    replace A1196 : Arv Z h1194 b888 k891 .char (23 : Int32) [(.int (109 : Int32)), (.int (101 : Int32)), (.int (109 : Int32)), (.int (98 : Int32)), (.int (101 : Int32)), (.int (114 : Int32)), (.int (32 : Int32)), (.int (nar .char (p1 &&& (255 : Int32)).toUInt32.toUInt16.toUInt32.toInt32)), (.int (nar .char (p2 &&& (255 : Int32)).toUInt32.toUInt16.toUInt32.toInt32)), (.int (39 : Int32)), (.int (115 : Int32)), (.int (32 : Int32)), (.int (111 : Int32)), (.int (119 : Int32)), (.int (110 : Int32)), (.int (32 : Int32)), (.int (97 : Int32)), (.int (99 : Int32)), oZ, oZ, oZ, oZ, oZ] oZ := A1196
    refine RnS.lift (fun vm0 hs r => have K := K.on hs; Rn.dup K (q := 216) at_215 rfl rfl r) ?_
    refine RnS.lift (fun vm0 hs r => have K := K.on hs; Rn.bipush K (q := 218) (18 : Int32) at_216 rfl rfl r) ?_
    refine RnS.lift (fun vm0 hs r => have K := K.on hs; Rn.bipush K (q := 220) (99 : Int32) at_218 rfl rfl r) ?_
    refine RnS.liftWP (Or.inl (oT 0 rfl)) (fun vm0 hs r => have K := K.on hs; Rn.castore K (q := 221) (i := 18) A1196 (by decide) rfl (oL rfl) g_b888 at_220 rfl r) ?_
    intro h1211 W1212 A1213
    have f1214 := f1197.wr W1212 g_b888
    have f1215 := f1198.wr W1212
    have f1216 := Fld.other W1212 f1199 (Or.inl ne_b813_b888)
    have f1217 := Fld.other W1212 f1200 (Or.inl ne_b813_b888)
    have f1218 := f1201.wr W1212
    have f1219 := f1202.other W1212 ne_v846_b888
    have f1220 := f1203.wr W1212
    have f1221 := Fld.other W1212 f1204 (Or.inl ne_la856_b888)
    have f1222 := Fld.other W1212 f1205 (Or.inl ne_la856_b888)
    have f1223 := f1206.other W1212 ne_lb857_b888
    have f1224 := f1207.wr W1212
    have f1225 := Fld.other W1212 f1208 (Or.inl ne_b872_b888)
    have f1226 := Fld.other W1212 f1209 (Or.inl ne_b872_b888)
    have f1227 := f1210.wr W1212
    replace A1213 : Arv Z h1211 b888 k891 .char (23 : Int32) [(.int (109 : Int32)), (.int (101 : Int32)), (.int (109 : Int32)), (.int (98 : Int32)), (.int (101 : Int32)), (.int (114 : Int32)), (.int (32 : Int32)), (.int (nar .char (p1 &&& (255 : Int32)).toUInt32.toUInt16.toUInt32.toInt32)), (.int (nar .char (p2 &&& (255 : Int32)).toUInt32.toUInt16.toUInt32.toInt32)), (.int (39 : Int32)), (.int (115 : Int32)), (.int (32 : Int32)), (.int (111 : Int32)), (.int (119 : Int32)), (.int (110 : Int32)), (.int (32 : Int32)), (.int (97 : Int32)), (.int (99 : Int32)), (.int (99 : Int32)), oZ, oZ, oZ, oZ] oZ := A1213
    refine RnS.lift (fun vm0 hs r => have K := K.on hs; Rn.dup K (q := 222) at_221 rfl rfl r) ?_
    refine RnS.lift (fun vm0 hs r => have K := K.on hs; Rn.bipush K (q := 224) (19 : Int32) at_222 rfl rfl r) ?_
    refine RnS.lift (fun vm0 hs r => have K := K.on hs; Rn.bipush K (q := 226) (111 : Int32) at_224 rfl rfl r) ?_
    refine RnS.liftWP (Or.inl (oT 0 rfl)) (fun vm0 hs r => have K := K.on hs; Rn.castore K (q := 227) (i := 19) A1213 (by decide) rfl (oL rfl) g_b888 at_226 rfl r) ?_
    intro h1228 W1229 A1230
    have f1231 := f1214.wr W1229 g_b888
    have f1232 := f1215.wr W1229
    have f1233 := Fld.other W1229 f1216 (Or.inl ne_b813_b888)
    have f1234 := Fld.other W1229 f1217 (Or.inl ne_b813_b888)
    have f1235 := f1218.wr W1229
    have f1236 := f1219.other W1229 ne_v846_b888
    have f1237 := f1220.wr W1229
    have f1238 := Fld.other W1229 f1221 (Or.inl ne_la856_b888)
    have f1239 := Fld.other W1229 f1222 (Or.inl ne_la856_b888)
    have f1240 := f1223.other W1229 ne_lb857_b888
    have f1241 := f1224.wr W1229
    have f1242 := Fld.other W1229 f1225 (Or.inl ne_b872_b888)
    have f1243 := Fld.other W1229 f1226 (Or.inl ne_b872_b888)
    have f1244 := f1227.wr W1229
    replace A1230 : Arv Z h1228 b888 k891 .char (23 : Int32) [(.int (109 : Int32)), (.int (101 : Int32)), (.int (109 : Int32)), (.int (98 : Int32)), (.int (101 : Int32)), (.int (114 : Int32)), (.int (32 : Int32)), (.int (nar .char (p1 &&& (255 : Int32)).toUInt32.toUInt16.toUInt32.toInt32)), (.int (nar .char (p2 &&& (255 : Int32)).toUInt32.toUInt16.toUInt32.toInt32)), (.int (39 : Int32)), (.int (115 : Int32)), (.int (32 : Int32)), (.int (111 : Int32)), (.int (119 : Int32)), (.int (110 : Int32)), (.int (32 : Int32)), (.int (97 : Int32)), (.int (99 : Int32)), (.int (99 : Int32)), (.int (111 : Int32)), oZ, oZ, oZ] oZ := A1230
    refine RnS.lift (fun vm0 hs r => have K := K.on hs; Rn.dup K (q := 228) at_227 rfl rfl r) ?_
    refine RnS.lift (fun vm0 hs r => have K := K.on hs; Rn.bipush K (q := 230) (20 : Int32) at_228 rfl rfl r) ?_
    refine RnS.lift (fun vm0 hs r => have K := K.on hs; Rn.bipush K (q := 232) (117 : Int32) at_230 rfl rfl r) ?_
    refine RnS.liftWP (Or.inl (oT 0 rfl)) (fun vm0 hs r => have K := K.on hs; Rn.castore K (q := 233) (i := 20) A1230 (by decide) rfl (oL rfl) g_b888 at_232 rfl r) ?_
    intro h1245 W1246 A1247
    have f1248 := f1231.wr W1246 g_b888
    have f1249 := f1232.wr W1246
    have f1250 := Fld.other W1246 f1233 (Or.inl ne_b813_b888)
    have f1251 := Fld.other W1246 f1234 (Or.inl ne_b813_b888)
    have f1252 := f1235.wr W1246
    have f1253 := f1236.other W1246 ne_v846_b888
    have f1254 := f1237.wr W1246
    have f1255 := Fld.other W1246 f1238 (Or.inl ne_la856_b888)
    have f1256 := Fld.other W1246 f1239 (Or.inl ne_la856_b888)
    have f1257 := f1240.other W1246 ne_lb857_b888
    have f1258 := f1241.wr W1246
    have f1259 := Fld.other W1246 f1242 (Or.inl ne_b872_b888)
    have f1260 := Fld.other W1246 f1243 (Or.inl ne_b872_b888)
    have f1261 := f1244.wr W1246
    replace A1247 : Arv Z h1245 b888 k891 .char (23 : Int32) [(.int (109 : Int32)), (.int (101 : Int32)), (.int (109 : Int32)), (.int (98 : Int32)), (.int (101 : Int32)), (.int (114 : Int32)), (.int (32 : Int32)), (.int (nar .char (p1 &&& (255 : Int32)).toUInt32.toUInt16.toUInt32.toInt32)), (.int (nar .char (p2 &&& (255 : Int32)).toUInt32.toUInt16.toUInt32.toInt32)), (.int (39 : Int32)), (.int (115 : Int32)), (.int (32 : Int32)), (.int (111 : Int32)), (.int (119 : Int32)), (.int (110 : Int32)), (.int (32 : Int32)), (.int (97 : Int32)), (.int (99 : Int32)), (.int (99 : Int32)), (.int (111 : Int32)), (.int (117 : Int32)), oZ, oZ] oZ := A1247
    refine RnS.lift (fun vm0 hs r => have K := K.on hs; Rn.dup K (q := 234) at_233 rfl rfl r) ?_
    refine RnS.lift (fun vm0 hs r => have K := K.on hs; Rn.bipush K (q := 236) (21 : Int32) at_234 rfl rfl r) ?_
    refine RnS.lift (fun vm0 hs r => have K := K.on hs; Rn.bipush K (q := 238) (110 : Int32) at_236 rfl rfl r) ?_
    refine RnS.liftWP (Or.inl (oT 0 rfl)) (fun vm0 hs r => have K := K.on hs; Rn.castore K (q := 239) (i := 21) A1247 (by decide) rfl (oL rfl) g_b888 at_238 rfl r) ?_
    intro h1262 W1263 A1264
    have f1265 := f1248.wr W1263 g_b888
    have f1266 := f1249.wr W1263
    have f1267 := Fld.other W1263 f1250 (Or.inl ne_b813_b888)
    have f1268 := Fld.other W1263 f1251 (Or.inl ne_b813_b888)
    have f1269 := f1252.wr W1263
    have f1270 := f1253.other W1263 ne_v846_b888
    have f1271 := f1254.wr W1263
    have f1272 := Fld.other W1263 f1255 (Or.inl ne_la856_b888)
    have f1273 := Fld.other W1263 f1256 (Or.inl ne_la856_b888)
    have f1274 := f1257.other W1263 ne_lb857_b888
    have f1275 := f1258.wr W1263
    have f1276 := Fld.other W1263 f1259 (Or.inl ne_b872_b888)
    have f1277 := Fld.other W1263 f1260 (Or.inl ne_b872_b888)
    have f1278 := f1261.wr W1263
    replace A1264 : Arv Z h1262 b888 k891 .char (23 : Int32) [(.int (109 : Int32)), (.int (101 : Int32)), (.int (109 : Int32)), (.int (98 : Int32)), (.int (101 : Int32)), (.int (114 : Int32)), (.int (32 : Int32)), (.int (nar .char (p1 &&& (255 : Int32)).toUInt32.toUInt16.toUInt32.toInt32)), (.int (nar .char (p2 &&& (255 : Int32)).toUInt32.toUInt16.toUInt32.toInt32)), (.int (39 : Int32)), (.int (115 : Int32)), (.int (32 : Int32)), (.int (111 : Int32)), (.int (119 : Int32)), (.int (110 : Int32)), (.int (32 : Int32)), (.int (97 : Int32)), (.int (99 : Int32)), (.int (99 : Int32)), (.int (111 : Int32)), (.int (117 : Int32)), (.int (110 : Int32)), oZ] oZ := A1264
    refine RnS.lift (fun vm0 hs r => have K := K.on hs; Rn.dup K (q := 240) at_239 rfl rfl r) ?_
    refine RnS.lift (fun vm0 hs r => have K := K.on hs; Rn.bipush K (q := 242) (22 : Int32) at_240 rfl rfl r) ?_
    refine RnS.lift (fun vm0 hs r => have K := K.on hs; Rn.bipush K (q := 244) (116 : Int32) at_242 rfl rfl r) ?_
    refine RnS.liftWP (Or.inl (oT 0 rfl)) (fun vm0 hs r => have K := K.on hs; Rn.castore K (q := 245) (i := 22) A1264 (by decide) rfl (oL rfl) g_b888 at_244 rfl r) ?_
    intro h1279 W1280 A1281
    have f1282 := f1265.wr W1280 g_b888
    have f1283 := f1266.wr W1280
    have f1284 := Fld.other W1280 f1267 (Or.inl ne_b813_b888)
    have f1285 := Fld.other W1280 f1268 (Or.inl ne_b813_b888)
    have f1286 := f1269.wr W1280
    have f1287 := f1270.other W1280 ne_v846_b888
    have f1288 := f1271.wr W1280
    have f1289 := Fld.other W1280 f1272 (Or.inl ne_la856_b888)
    have f1290 := Fld.other W1280 f1273 (Or.inl ne_la856_b888)
    have f1291 := f1274.other W1280 ne_lb857_b888
    have f1292 := f1275.wr W1280
    have f1293 := Fld.other W1280 f1276 (Or.inl ne_b872_b888)
    have f1294 := Fld.other W1280 f1277 (Or.inl ne_b872_b888)
    have f1295 := f1278.wr W1280
    replace A1281 : Arv Z h1279 b888 k891 .char (23 : Int32) [(.int (109 : Int32)), (.int (101 : Int32)), (.int (109 : Int32)), (.int (98 : Int32)), (.int (101 : Int32)), (.int (114 : Int32)), (.int (32 : Int32)), (.int (nar .char (p1 &&& (255 : Int32)).toUInt32.toUInt16.toUInt32.toInt32)), (.int (nar .char (p2 &&& (255 : Int32)).toUInt32.toUInt16.toUInt32.toInt32)), (.int (39 : Int32)), (.int (115 : Int32)), (.int (32 : Int32)), (.int (111 : Int32)), (.int (119 : Int32)), (.int (110 : Int32)), (.int (32 : Int32)), (.int (97 : Int32)), (.int (99 : Int32)), (.int (99 : Int32)), (.int (111 : Int32)), (.int (117 : Int32)), (.int (110 : Int32)), (.int (116 : Int32))] oZ := A1281
    refine RnS.liftC (fun vm0 hs r => have K := K.on hs; Rn.spec K (q := 248) (W := 1) (y := oM8) (b := b872) (argsL := [(.ref b888)]) (rest := [(.ref b872)]) rfl (oT 4 rfl) (oT 5 rfl) (oT 6 rfl) (oT 2 rfl) (by decide) (m_ic23 l Z a0 hw n0 h1279 b872 b888 k891 (109 : Int32) (101 : Int32) (109 : Int32) (98 : Int32) (101 : Int32) (114 : Int32) (32 : Int32) (nar .char (p1 &&& (255 : Int32)).toUInt32.toUInt16.toUInt32.toInt32) (nar .char (p2 &&& (255 : Int32)).toUInt32.toUInt16.toUInt32.toInt32) (39 : Int32) (115 : Int32) (32 : Int32) (111 : Int32) (119 : Int32) (110 : Int32) (32 : Int32) (97 : Int32) (99 : Int32) (99 : Int32) (111 : Int32) (117 : Int32) (110 : Int32) (116 : Int32) cst f1282 SC hcs f1292 g_b872 f1294 f1293 f1295 A1281 (by decide) (by decide) (by decide) (by decide) (by decide) (by decide) (by decide) (own_ch2 p1) (own_ch2 p2) (by decide) (by decide) (by decide) (by decide) (by decide) (by decide) (by decide) (by decide) (by decide) (by decide) (by decide) (by decide) (by decide) (by decide)) (by decide) (by decide) rfl (lenOf pd_26 rfl) rfl (oL rfl) at_245 rfl (by decide) (by decide) r) (by rintro _ _ ⟨rfl, Kp, -⟩; exact own_kpL Kp (by simp)) ?_
    rintro _ h1296 ⟨rfl, K1297, v1298, k1299, F1300, F1301, E1302, A1303⟩
    have f1304 := f1282.keep K1297 (allS g_b872 all0)
    have f1305 := f1283.keep K1297
    have f1306 := f1284.keep K1297 (ninS ne_b813_b872 nin0)
    have f1307 := f1285.keep K1297 (ninS ne_b813_b872 nin0)
    have f1308 := f1286.keep K1297
    have f1309 := f1287.keep K1297 (ninS ne_v846_b872 nin0)
    have f1310 := f1288.keep K1297
    have f1311 := f1289.keep K1297 (ninS ne_la856_b872 nin0)
    have f1312 := f1290.keep K1297 (ninS ne_la856_b872 nin0)
    have f1313 := f1291.keep K1297 (ninS ne_lb857_b872 nin0)
    have f1314 := f1292.keep K1297
    replace A1303 : Arv Z h1296 v1298 k1299 .byte (23 : Int32) [(.int (109 : Int32)), (.int (101 : Int32)), (.int (109 : Int32)), (.int (98 : Int32)), (.int (101 : Int32)), (.int (114 : Int32)), (.int (32 : Int32)), (.int (nar .byte (nar .char (p1 &&& (255 : Int32)).toUInt32.toUInt16.toUInt32.toInt32).toInt8.toInt32)), (.int (nar .byte (nar .char (p2 &&& (255 : Int32)).toUInt32.toUInt16.toUInt32.toInt32).toInt8.toInt32)), (.int (39 : Int32)), (.int (115 : Int32)), (.int (32 : Int32)), (.int (111 : Int32)), (.int (119 : Int32)), (.int (110 : Int32)), (.int (32 : Int32)), (.int (97 : Int32)), (.int (99 : Int32)), (.int (99 : Int32)), (.int (111 : Int32)), (.int (117 : Int32)), (.int (110 : Int32)), (.int (116 : Int32))] oZ := A1303
    show RnS w l _ n0 _ Z EL1 [b888, b872, b820, b813] 248 _ [(.ref b872)] h1296 8 62
    refine RnS.lift (fun vm0 hs r => have K := K.on hs; Rn.astore K (q := 250) (Ls' := #[.val (.int p1), .val (.int p2), .val (.int p3), .val (.int p4), .val (.int p5), .val (.int (p1 &&& (255 : Int32)).toUInt32.toUInt16.toUInt32.toInt32), .val (.int (p2 &&& (255 : Int32)).toUInt32.toUInt16.toUInt32.toInt32), .val (.int (p3 &&& (255 : Int32)).toUInt32.toUInt16.toUInt32.toInt32), .val (.int (p4 &&& (255 : Int32)).toUInt32.toUInt16.toUInt32.toInt32), .val (.int (1 : Int32)), .val (.ref b813), .val (.ref la856), .val (.ref b872), .unset, .unset]) at_248 rfl rfl rfl r) ?_
    refine RnS.lift (fun vm0 hs r => have K := K.on hs; Rn.goto K (q := 452) at_250 (by decide) (by decide) r) ?_
    refine RnS.newO K (q := 455) (oT 30 rfl) (oT 31 rfl) (oT 32 rfl) (by decide) (by decide) at_452 rfl ?_
    intro b1317 h1318 gb1317_ X1319 A_b1317 D1320
    have ne_b813_b1317 : b813 ≠ b1317 := fun e => absurd f1305.lt (by rw [e, gb1317_]; exact Nat.lt_irrefl _)
    have ne_v846_b1317 : v846 ≠ b1317 := fun e => absurd f1308.lt (by rw [e, gb1317_]; exact Nat.lt_irrefl _)
    have ne_v846_b1317 : v846 ≠ b1317 := fun e => absurd f1308.lt (by rw [e, gb1317_]; exact Nat.lt_irrefl _)
    have ne_la856_b1317 : la856 ≠ b1317 := fun e => absurd f1310.lt (by rw [e, gb1317_]; exact Nat.lt_irrefl _)
    have ne_lb857_b1317 : lb857 ≠ b1317 := fun e => absurd f1313.lt (by rw [e, gb1317_]; exact Nat.lt_irrefl _)
    have ne_b872_b1317 : b872 ≠ b1317 := fun e => absurd f1314.lt (by rw [e, gb1317_]; exact Nat.lt_irrefl _)
    have ne_v1298_b1317 : v1298 ≠ b1317 := fun e => absurd E1302.lt (by rw [e, gb1317_]; exact Nat.lt_irrefl _)
    have ne_v1298_b1317 : v1298 ≠ b1317 := fun e => absurd E1302.lt (by rw [e, gb1317_]; exact Nat.lt_irrefl _)
    have g_b1317 : n0 ≤ b1317 := by rw [gb1317_]; exact f1304.1 ▸ f1304.2.1
    have f1321 := f1304.ext X1319
    have f1322 := f1305.ext X1319
    have f1323 := f1306.ext X1319
    have f1324 := f1307.ext X1319
    have f1325 := f1308.ext X1319
    have f1326 := f1309.ext X1319
    have f1327 := f1310.ext X1319
    have f1328 := f1311.ext X1319
    have f1329 := f1312.ext X1319
    have f1330 := f1313.ext X1319
    have f1331 := f1314.ext X1319
    have f1332 := F1300.ext X1319
    have f1333 := F1301.ext X1319
    have f1335 := A1303.ext X1319
    have f1336 : Fld Z h1318 b1317 "com/example/fuseline/fuseline/model/Account" "member" "Ljava/lang/String;" .null := D1320 (Or.inr (K.hw _ (oT 56 rfl))) (ty := (.object "java/lang/String")) (by decide)
    have f1337 : Fld Z h1318 b1317 "com/example/fuseline/fuseline/model/Account" "client" "Ljava/lang/String;" .null := D1320 (Or.inr (K.hw _ (oT 58 rfl))) (ty := (.object "java/lang/String")) (by decide)
    show RnS w l _ n0 _ Z EL1 [b1317, b888, b872, b820, b813] 455 _ [(.ref b1317)] h1318 9 64
    refine RnS.lift (fun vm0 hs r => have K := K.on hs; Rn.dup K (q := 456) at_455 rfl rfl r) ?_
    refine RnS.lift (fun vm0 hs r => have K := K.on hs; Rn.aload K (q := 458) at_456 rfl rfl rfl r) ?_
    refine RnS.lift (fun vm0 hs r => have K := K.on hs; Rn.aload K (q := 460) at_458 rfl rfl rfl r) ?_
    refine RnS.specS K hEL (q := 463) (W := 1) (y := oM36) (b := b1317) (argsL := [(.ref b813), (.ref la856)]) (rest := [(.ref b1317)]) rfl (oT 33 rfl) (oT 34 rfl) (oT 35 rfl) (oT 32 rfl) (by decide) (by simp) (m_acc l Z a0 hw n0 h1318 b1317 la856 b813 v846 k847 cst (nar .byte (nar .char (p1 &&& (255 : Int32)).toUInt32.toUInt16.toUInt32.toInt32).toInt8.toInt32) (nar .byte (nar .char (p2 &&& (255 : Int32)).toUInt32.toUInt16.toUInt32.toInt32).toInt8.toInt32) f1321 SC hcs A_b1317 g_b1317 f1336 f1337 f1322 f1324 f1323 f1326 f1325) (by decide) (by decide) rfl (lenOf pd_27 rfl) rfl (oL rfl) at_460 rfl (by decide) (by decide) ?_
    rintro _ h1338 ⟨rfl, K1339, F1340, F1341⟩
    have f1342 := f1321.keep K1339 (allS g_b1317 all0)
    have f1343 := f1322.keep K1339
    have f1344 := f1323.keep K1339 (ninS ne_b813_b1317 nin0)
    have f1345 := f1324.keep K1339 (ninS ne_b813_b1317 nin0)
    have f1347 := f1326.keep K1339 (ninS ne_v846_b1317 nin0)
    have f1348 := f1327.keep K1339
    have f1349 := f1328.keep K1339 (ninS ne_la856_b1317 nin0)
    have f1350 := f1329.keep K1339 (ninS ne_la856_b1317 nin0)
    have f1351 := f1330.keep K1339 (ninS ne_lb857_b1317 nin0)
    have f1352 := f1331.keep K1339
    have f1353 := f1332.keep K1339 (ninS ne_b872_b1317 nin0)
    have f1354 := f1333.keep K1339 (ninS ne_b872_b1317 nin0)
    have f1356 := f1335.keep K1339 (ninS ne_v1298_b1317 nin0)
    have f1357 := A_b1317.keep K1339
    show RnS w l _ n0 _ Z EL1 [b1317, b888, b872, b820, b813] 463 _ [(.ref b1317)] h1338 13 120
    refine RnS.lift (fun vm0 hs r => have K := K.on hs; Rn.astore K (q := 465) (Ls' := #[.val (.int p1), .val (.int p2), .val (.int p3), .val (.int p4), .val (.int p5), .val (.int (p1 &&& (255 : Int32)).toUInt32.toUInt16.toUInt32.toInt32), .val (.int (p2 &&& (255 : Int32)).toUInt32.toUInt16.toUInt32.toInt32), .val (.int (p3 &&& (255 : Int32)).toUInt32.toUInt16.toUInt32.toInt32), .val (.int (p4 &&& (255 : Int32)).toUInt32.toUInt16.toUInt32.toInt32), .val (.int (1 : Int32)), .val (.ref b813), .val (.ref la856), .val (.ref b872), .val (.ref b1317), .unset]) at_463 rfl rfl rfl r) ?_
    refine RnS.lift (fun vm0 hs r => have K := K.on hs; Rn.aload K (q := 467) at_465 rfl rfl rfl r) ?_
    have lte := f1352.lt
    refine RnS.virtS K hEL (q := 470) (W := 0) (y := oM37) (z := oM37) (b := b1317) (argsL := []) (rest := []) (oT 59 rfl) (oT 60 rfl) (nfsS K (oT 62 rfl)) (oT 62 rfl) (oT 61 rfl) (oT 63 rfl) (oT 32 rfl) (by decide) (by simp) (m_des0 l Z a0 hw n0 h1338 b1317 b813 v846 la856 lb857 k847 k858 (nar .byte (nar .char (p1 &&& (255 : Int32)).toUInt32.toUInt16.toUInt32.toInt32).toInt8.toInt32) (nar .byte (nar .char (p2 &&& (255 : Int32)).toUInt32.toUInt16.toUInt32.toInt32).toInt8.toInt32)  cst f1342 SC hcs f1357 F1340 F1341 f1343 f1345 f1344 f1347 f1348 f1349 f1350 f1351) f1357 (by decide) (by decide) rfl (lenOf pd_25 rfl) rfl (oL rfl) at_467 rfl (by decide) (by decide) ?_
    rintro _ h1358 ⟨rs, rv, rk, rfl, srs, K1359, E1360, F1361, F1362, A1363⟩
    have hst : rs ≠ b872 := fun e => absurd lte (by rw [← e]; exact Nat.not_lt.mpr srs)
    have f1364 := f1342.keep K1359 all0
    have f1374 := f1352.keep K1359
    have f1375 := f1353.keep K1359 nin0
    have f1376 := f1354.keep K1359 nin0
    have f1378 := f1356.keep K1359 nin0
    show RnS w l _ n0 _ Z EL1 [b1317, b888, b872, b820, b813] 470 _ [(.ref rs)] h1358 22 330
    refine RnS.lift (fun vm0 hs r => have K := K.on hs; Rn.astore K (q := 472) (Ls' := #[.val (.int p1), .val (.int p2), .val (.int p3), .val (.int p4), .val (.int p5), .val (.int (p1 &&& (255 : Int32)).toUInt32.toUInt16.toUInt32.toInt32), .val (.int (p2 &&& (255 : Int32)).toUInt32.toUInt16.toUInt32.toInt32), .val (.int (p3 &&& (255 : Int32)).toUInt32.toUInt16.toUInt32.toInt32), .val (.int (p4 &&& (255 : Int32)).toUInt32.toUInt16.toUInt32.toInt32), .val (.int (1 : Int32)), .val (.ref b813), .val (.ref la856), .val (.ref b872), .val (.ref b1317), .val (.ref rs)]) at_470 rfl rfl rfl r) ?_
    refine RnS.lift (fun vm0 hs r => have K := K.on hs; Rn.aload K (q := 474) at_472 rfl rfl rfl r) ?_
    refine RnS.lift (fun vm0 hs r => have K := K.on hs; Rn.aload K (q := 476) at_474 rfl rfl rfl r) ?_
    refine RnS.liftC (fun vm0 hs r => have K := K.on hs; Rn.virt K (q := 479) (W := 0) (y := oM35) (z := oM35) (b := rs) (argsL := [(.ref b872)]) (rest := []) (oT 198 rfl) (oT 199 rfl) (nfs K (oT 201 rfl)) (oT 201 rfl) (oT 200 rfl) (oT 202 rfl) (oT 2 rfl) (by decide) (m_seq23 l Z a0 hw n0 h1358 rs rv b872 v1298 rk k1299 cst (109 : Int32) (101 : Int32) (109 : Int32) (98 : Int32) (101 : Int32) (114 : Int32) (32 : Int32) (nar .byte (nar .char (p1 &&& (255 : Int32)).toUInt32.toUInt16.toUInt32.toInt32).toInt8.toInt32) (nar .byte (nar .char (p2 &&& (255 : Int32)).toUInt32.toUInt16.toUInt32.toInt32).toInt8.toInt32) (39 : Int32) (115 : Int32) (32 : Int32) (111 : Int32) (119 : Int32) (110 : Int32) (32 : Int32) (97 : Int32) (99 : Int32) (99 : Int32) (111 : Int32) (117 : Int32) (110 : Int32) (116 : Int32) f1364 SC hcs E1360 F1361 F1362 A1363 f1374 f1376 f1375 f1378 hst) E1360 (by decide) (by decide) rfl (lenOf pd_28 rfl) rfl (oL rfl) at_476 rfl (by decide) (by decide) r) (by rintro _ _ ⟨rfl, rfl⟩; exact own_kp0) ?_
    rintro _ _ ⟨rfl, rfl⟩
    show RnS w l _ n0 _ Z EL1 [b1317, b888, b872, b820, b813] 479 _ [(.int (1 : Int32))] h1358 22 330
    exact RnS.retN K hEL .boolean rfl (by simp) at_479 (by decide) (by decide) rfl
end OwnWalks
set_option maxRecDepth 65536 in
set_option maxHeartbeats 40000000 in
theorem comes_1 {Post : Tables → Env → Array Value → State → Outcome → State → Prop} (hpost : ∀ tb e args s v u, (limb_1_1.after args s (.returned v) u = true ∧ limb_1_2.after args s (.returned v) u = true ∧ True) → ReturnedEndW s (.returned v) u (Jvm.fieldLocs frame_1_writes args s ++ Jvm.arrayLocs frame_1_arrays args s ++ Jvm.staticLocs frame_1_statics s) 56 7616 → Post tb e args s (.returned v) u) :
    ArmFor flags0 classFile x code maxLocals ret World_1 tables_1 room_1 Calls_1 rest_1 Pre_1 Post := by
  intro l hfl _ _ p e ha hc hk s m args below hf hA hF happ hP
  obtain ⟨hcalls, hrest, hpre⟩ := hP
  obtain ⟨-, -, -, hnamed, -, -, -, hat⟩ := (Spec.applies_iff hf).mp happ
  obtain ⟨hg, hn⟩ := and_e (Cond.before_iff.mp (show (Jvm.Cond.and given_1 narrow_1).before args s = true from hpre))
  obtain ⟨hcnt, hgs0⟩ := and_e hg
  obtain ⟨ga0, hgs1⟩ := and_e hgs0
  obtain ⟨ga1, hgs2⟩ := and_e hgs1
  obtain ⟨ga2, hgs3⟩ := and_e hgs2
  obtain ⟨ga3, hgs4⟩ := and_e hgs3
  obtain ⟨w0, w1, w2, w3, w4, rfl⟩ : ∃ w0 w1 w2 w3 w4 : Value, args = #[w0, w1, w2, w3, w4] := by
    have hs : args.size = 5 := by simpa [Cond.value, given_1] using hcnt
    obtain ⟨L⟩ := args
    match L, hs with
    | [w0, w1, w2, w3, w4], _ => exact ⟨w0, w1, w2, w3, w4, rfl⟩
  have hw := fun d (hd : d ∈ tables_1) => atoms_spec (ws := Jvm.Cond.code x code maxLocals ret :: tables_1) hat d (List.mem_cons_of_mem _ hd)
  have hfit : Fit s := fun {y c} hc i hi => by
    obtain ⟨ha, rfl⟩ := Array.getElem?_eq_some_iff.mp hc
    have q := List.all_eq_true.mp ((Array.all_eq_true_iff_forall_mem.mp hF) _ (Array.getElem_mem ha)) i (List.mem_range.mpr hi)
    simpa [Array.getElem?_eq_getElem hi] using q
  obtain ⟨hsets, hown0⟩ := atoms_of _ (rest_1_c_eq ▸ (show rest_1_c.before _ s = true from hrest))
  have hr0 := Cond.before_iff.mp hown0
  obtain ⟨i0, ei0⟩ := is_v ga0
  obtain rfl : w0 = (.int i0) := Option.some.inj ei0
  obtain ⟨i1, ei1⟩ := is_v ga1
  obtain rfl : w1 = (.int i1) := Option.some.inj ei1
  obtain ⟨i2, ei2⟩ := is_v ga2
  obtain rfl : w2 = (.int i2) := Option.some.inj ei2
  obtain ⟨i3, ei3⟩ := is_v ga3
  obtain rfl : w3 = (.int i3) := Option.some.inj ei3
  obtain ⟨i4, ei4⟩ := is_v hgs4
  obtain rfl : w4 = (.int i4) := Option.some.inj ei4
  obtain ⟨cst, vC⟩ := is_v (Cond.before_iff.mp (hsets _ (List.mem_of_getElem? (i := 1) rfl)))
  have SC := Sta.start vC (Or.inl (hsets _ (List.mem_of_getElem? (i := 0) rfl)))
  have hcs : ¬ cst = 0 := own_ne0 vC (Cond.before_iff.mp (hsets _ (List.mem_of_getElem? (i := 2) rfl)))
  obtain ⟨n, o, h1, h2, h3, _, L, rfl, ⟨N, rfl⟩, -, hq⟩ := m_law l s _ hw s.heap.size s.heap i0 i1 i2 i3 i4 cst (Old.start s) SC hcs p e ha hc hk s m _ below hf ((Spec.applies_iff_loose hf).mp happ).1 ⟨rfl, State.Warmed39.refl s, rfl, CHv.start (own_EW hw) hcalls.1 (Cond.before_iff.mpr (Cond.before_iff.mp (hsets _ (List.mem_of_getElem? (i := 2) rfl)))) (hw _ (List.mem_of_getElem? (i := 19) rfl)) (hw _ (List.mem_of_getElem? (i := 1) rfl)), fun _ hx => by cases hx⟩ trivial
  refine ⟨n, _, h1, h2, h3, hpost _ _ _ _ _ _ ⟨Cond.after_iff.mpr rfl, Cond.after_iff.mpr (eq_i res_at (Term.int_eval (1)) rfl), trivial⟩ ⟨hq.1, hq.2.1, hq.2.2.1, (hq.2.2.2.sift fun y hy => Or.inr (N y hy)).mono (by decide) (by decide)⟩⟩
theorem main_1_1 : Claimed_1_1 := comes_1 fun _ _ _ _ _ _ h hF => ⟨h.1, hF⟩
theorem main_1_2 : Claimed_1_2 := comes_1 fun _ _ _ _ _ _ h hF => ⟨h.2.1, hF⟩
end Jvm.Pilot.@@N@@
namespace Jvm.Pilot.@@N@@
open Jvm Jvm.ClassFile Sem Op Lib Jvm.Free Jvm.Stand Jvm.Pilot.@@N@@.Jvm.D
/-! MADE BY PROGRAM (witnessworld.py) out of the Statement's table words and the real class files: 28 classes; the members and pool entries that the words name. The judged class is class 1, her method 1. -/
namespace start1
open Jvm.ClassFile
def u (s : String) : CpInfo := .utf8 (stringToUtf16 s)
/-- a pool by its gaps: so many unusable entries, then the entry; so many at the end -/
def gap : Nat → List CpInfo → List CpInfo
  | 0, r => r
  | n + 1, r => .unusable :: gap n r
def poolList (es : List (Nat × CpInfo)) (last : Nat) : List CpInfo := es.foldr (fun e r => gap e.1 (e.2 :: r)) (gap last [])
def pool (es : List (Nat × CpInfo)) (last : Nat) : Array CpInfo := ⟨poolList es last⟩
def fileOf (pool : Array CpInfo) (this : Nat) (attrs : Array Attribute := #[]) (ms : Array MethodInfo := #[]) (fl : Nat := 33) (sup : Nat := 0) (ifs : Array Nat := #[]) (fds : Array FieldInfo := #[]) : ClassFile where
  minorVersion := 0
  majorVersion := 65
  constantPool := pool
  accessFlags := fl
  thisClass := this
  superClass := sup
  interfaces := ifs
  fields := fds
  methods := ms
  attributes := attrs
def plain (name : String) (sup : Option ClassId) : Class where
  name := name
  kind := .ordinary
  loader := none
  accessFlags := 33
  super := sup
  interfaces := #[]
  cf := none
  fields := #[]
  methods := #[]
  instanceTypes := #[]
  staticTypes := #[]
  resolved := #[]
  callSites := []
  init := .initialized
  statics := none
  mirror := none

def pool0 : Array CpInfo := pool [(5, u "<init>"), (0, u "()V"), (1, .class_ 10), (1, u "java/lang/Object")] 113

def k0c0 : Code := { maxStack := 0, maxLocals := 1, code := object_method_1_code, exceptionTable := #[], attributes := #[] }
def k0m0 : Method := { name := "<init>", desc := "()V", sig := { parameters := [], returnType := none }, accessFlags := 1, code := some k0c0 }
/-- java/lang/Object -/
def k0 : Class := { plain "java/lang/Object" none with
  accessFlags := 33
  interfaces := #[]
  cf := some (fileOf pool0 8 #[] #[{ accessFlags := 1, nameIndex := 5, descriptorIndex := 6, attributes := #[] }] 33 0 #[] #[])
  fields := #[]
  methods := #[k0m0]
  instanceTypes := #[]
  staticTypes := #[]
  resolved := Array.replicate 124 none
  statics := none }

def pool1 : Array CpInfo := pool [(2, .class_ 4), (1, u "java/lang/Object"), (0, u "<init>"), (0, u "()V"), (0, .class_ 8), (0, u "java/lang/String"), (0, .methodref 7 10), (0, .nameAndType 5 11), (0, u "([C)V"), (0, .string 13), (0, u ""), (0, .class_ 15), (0, u "com/example/fuseline/fuseline/model/Account"), (0, .methodref 14 17), (0, .nameAndType 5 18), (0, u "(Ljava/lang/String;Ljava/lang/String;)V"), (0, .methodref 14 20), (0, .nameAndType 21 22), (0, u "describe"), (0, u "()Ljava/lang/String;"), (0, .methodref 7 24), (0, .nameAndType 25 26), (0, u "equals"), (0, u "(Ljava/lang/Object;)Z"), (0, .class_ 28), (0, u "com/example/fuseline/fuseline/model/AccountDescribePinLaw"), (2, u "law"), (0, u "(IIIII)Z")] 3

def k1m0 : Method := { name := "<init>", desc := "()V", sig := { parameters := [], returnType := none }, accessFlags := 1, code := none }
def k1c1 : Code := { maxStack := 6, maxLocals := 15, code := code, exceptionTable := #[], attributes := #[] }
def k1m1 : Method := { name := "law", desc := "(IIIII)Z", sig := { parameters := [.int, .int, .int, .int, .int], returnType := some .boolean }, accessFlags := 9, code := some k1c1 }
/-- com/example/fuseline/fuseline/model/AccountDescribePinLaw -/
def k1 : Class := { plain "com/example/fuseline/fuseline/model/AccountDescribePinLaw" (some 0) with
  accessFlags := 49
  interfaces := #[]
  cf := some (fileOf pool1 27 #[] #[{ accessFlags := 1, nameIndex := 5, descriptorIndex := 6, attributes := #[] }, { accessFlags := 9, nameIndex := 31, descriptorIndex := 32, attributes := #[] }] 49 2 #[] #[])
  fields := #[]
  methods := #[k1m0, k1m1]
  instanceTypes := #[]
  staticTypes := #[]
  resolved := Array.replicate 36 none
  statics := none }

def pool2 : Array CpInfo := pool [(1, .class_ 2), (0, u "java/io/Serializable"), (0, .class_ 4), (0, u "java/lang/Object")] 2

/-- java/io/Serializable -/
def k2 : Class := { plain "java/io/Serializable" (some 0) with
  accessFlags := 1537
  interfaces := #[]
  cf := some (fileOf pool2 1 #[] #[] 1537 3 #[] #[])
  fields := #[]
  methods := #[]
  instanceTypes := #[]
  staticTypes := #[]
  resolved := Array.replicate 7 none
  statics := none }

def pool3 : Array CpInfo := pool [(1, .class_ 2), (0, u "java/lang/Comparable"), (0, .class_ 4), (0, u "java/lang/Object")] 7

/-- java/lang/Comparable -/
def k3 : Class := { plain "java/lang/Comparable" (some 0) with
  accessFlags := 1537
  interfaces := #[]
  cf := some (fileOf pool3 1 #[] #[] 1537 3 #[] #[])
  fields := #[]
  methods := #[]
  instanceTypes := #[]
  staticTypes := #[]
  resolved := Array.replicate 12 none
  statics := none }

def pool4 : Array CpInfo := pool [(2, .class_ 4), (1, u "java/lang/CharSequence"), (42, .class_ 48), (0, u "java/lang/CharSequence$1CodePointIterator"), (10, .class_ 60), (0, u "java/lang/CharSequence$1CharIterator"), (5, .class_ 67), (0, u "java/lang/Object")] 63

/-- java/lang/CharSequence -/
def k4 : Class := { plain "java/lang/CharSequence" (some 0) with
  accessFlags := 1537
  interfaces := #[]
  cf := some (fileOf pool4 2 #[.nestMembers #[47, 59]] #[] 1537 66 #[] #[])
  fields := #[]
  methods := #[]
  instanceTypes := #[]
  staticTypes := #[]
  resolved := Array.replicate 131 none
  statics := none }

def pool5 : Array CpInfo := pool [(1, .class_ 2), (0, u "java/lang/constant/Constable"), (0, .class_ 4), (0, u "java/lang/Object")] 6

/-- java/lang/constant/Constable -/
def k5 : Class := { plain "java/lang/constant/Constable" (some 0) with
  accessFlags := 1537
  interfaces := #[]
  cf := some (fileOf pool5 1 #[] #[] 1537 3 #[] #[])
  fields := #[]
  methods := #[]
  instanceTypes := #[]
  staticTypes := #[]
  resolved := Array.replicate 11 none
  statics := none }

def pool6 : Array CpInfo := pool [(1, .class_ 2), (0, u "java/lang/constant/ConstantDesc"), (0, .class_ 4), (0, u "java/lang/Object")] 32

/-- java/lang/constant/ConstantDesc -/
def k6 : Class := { plain "java/lang/constant/ConstantDesc" (some 0) with
  accessFlags := 1537
  interfaces := #[]
  cf := some (fileOf pool6 1 #[] #[] 1537 3 #[] #[])
  fields := #[]
  methods := #[]
  instanceTypes := #[]
  staticTypes := #[]
  resolved := Array.replicate 37 none
  statics := none }

def pool7 : Array CpInfo := pool [(1, .methodref 2 3), (0, .class_ 4), (0, .nameAndType 5 6), (0, u "java/lang/Object"), (0, u "<init>"), (0, u "()V"), (2, .fieldref 10 11), (0, .class_ 12), (0, .nameAndType 13 14), (0, u "java/lang/String"), (0, u "value"), (0, u "[B"), (0, .fieldref 10 16), (0, .nameAndType 17 18), (0, u "coder"), (0, u "B"), (2, u "hash"), (0, u "I"), (2, u "hashIsZero"), (0, u "Z"), (0, .methodref 10 28), (0, .nameAndType 5 29), (0, u "([CIILjava/lang/Void;)V"), (8, .fieldref 10 39), (0, .nameAndType 40 26), (0, u "COMPACT_STRINGS"), (1, .class_ 44), (1, u "java/lang/StringUTF16"), (0, u "compress"), (1, .methodref 42 48), (0, .nameAndType 49 50), (0, u "coderFromArrayLen"), (0, u "([BI)B"), (3, .methodref 55 56), (0, .class_ 57), (0, .nameAndType 58 59), (0, u "java/util/Arrays"), (0, u "copyOfRange"), (0, u "([BII)[B"), (47, .class_ 109), (1, u "java/lang/StringLatin1"), (32, u "()Z"), (34, .methodref 42 178), (0, .nameAndType 45 179), (0, u "([CII)[B"), (13, .class_ 195), (1, u "java/lang/System"), (16, .methodref 193 213), (0, .nameAndType 214 215), (0, u "arraycopy"), (0, u "(Ljava/lang/Object;ILjava/lang/Object;II)V"), (118, u "()I"), (0, .methodref 10 336), (0, .nameAndType 17 337), (0, u "()B"), (2, u "()[B"), (148, .methodref 10 490), (0, .nameAndType 5 491), (0, u "(Ljava/lang/AbstractStringBuilder;Ljava/lang/Void;)V"), (1, .nameAndType 494 142), (0, u "isLatin1"), (11, .nameAndType 507 334), (0, u "length"), (24, u "getBytes"), (8, .methodref 107 542), (0, .nameAndType 543 544), (0, u "equals"), (0, u "([B[B)Z"), (4, .methodref 550 506), (0, .class_ 551), (0, u "java/lang/AbstractStringBuilder"), (0, .methodref 550 553), (0, .nameAndType 554 340), (0, u "getValue"), (18, u "(Ljava/lang/Object;)Z"), (1, .class_ 576), (0, u "java/lang/CharSequence"), (22, u "CASE_INSENSITIVE_ORDER"), (0, u "Ljava/util/Comparator;"), (91, u "isEmpty"), (128, u "([BIB)V"), (188, u "([C)V"), (36, .methodref 550 493), (53, u "serialPersistentFields"), (0, u "[Ljava/io/ObjectStreamField;"), (0, .class_ 1104), (0, u "java/lang/String$CaseInsensitiveComparator"), (1, .class_ 1107), (0, u "java/io/Serializable"), (0, .class_ 1109), (0, u "java/lang/Comparable"), (0, .class_ 1111), (0, u "java/lang/constant/Constable"), (0, .class_ 1113), (0, u "java/lang/constant/ConstantDesc"), (2, u "serialVersionUID"), (0, u "J"), (3, u "REPL"), (0, u "C"), (2, u "LATIN1"), (1, u "UTF16"), (105, u "(Ljava/lang/StringBuilder;)V")] 217

def k7m0 : Method := { name := "<init>", desc := "()V", sig := { parameters := [], returnType := none }, accessFlags := 1, code := none }
def k7c1 : Code := { maxStack := 5, maxLocals := 2, code := jdk_42_method_3_code, exceptionTable := #[], attributes := #[] }
def k7m1 : Method := { name := "<init>", desc := "([C)V", sig := { parameters := [(.array .char)], returnType := none }, accessFlags := 1, code := some k7c1 }
def k7c2 : Code := { maxStack := 3, maxLocals := 2, code := jdk_42_method_53_code, exceptionTable := #[], attributes := #[] }
def k7m2 : Method := { name := "<init>", desc := "(Ljava/lang/StringBuilder;)V", sig := { parameters := [(.object "java/lang/StringBuilder")], returnType := none }, accessFlags := 1, code := some k7c2 }
def k7c3 : Code := { maxStack := 2, maxLocals := 1, code := jdk_42_method_54_code, exceptionTable := #[], attributes := #[] }
def k7m3 : Method := { name := "length", desc := "()I", sig := { parameters := [], returnType := some .int }, accessFlags := 1, code := some k7c3 }
def k7c4 : Code := { maxStack := 1, maxLocals := 1, code := jdk_42_method_55_code, exceptionTable := #[], attributes := #[] }
def k7m4 : Method := { name := "isEmpty", desc := "()Z", sig := { parameters := [], returnType := some .boolean }, accessFlags := 1, code := some k7c4 }
def k7c5 : Code := { maxStack := 2, maxLocals := 3, code := jdk_42_method_66_code, exceptionTable := #[], attributes := #[] }
def k7m5 : Method := { name := "equals", desc := "(Ljava/lang/Object;)Z", sig := { parameters := [(.object "java/lang/Object")], returnType := some .boolean }, accessFlags := 1, code := some k7c5 }
def k7c6 : Code := { maxStack := 5, maxLocals := 4, code := jdk_42_method_147_code, exceptionTable := #[], attributes := #[] }
def k7m6 : Method := { name := "getBytes", desc := "([BIB)V", sig := { parameters := [(.array .byte), .int, .byte], returnType := none }, accessFlags := 0, code := some k7c6 }
def k7c7 : Code := { maxStack := 4, maxLocals := 6, code := jdk_42_method_149_code, exceptionTable := #[], attributes := #[] }
def k7m7 : Method := { name := "<init>", desc := "([CIILjava/lang/Void;)V", sig := { parameters := [(.array .char), .int, .int, (.object "java/lang/Void")], returnType := none }, accessFlags := 2, code := some k7c7 }
def k7c8 : Code := { maxStack := 5, maxLocals := 5, code := jdk_42_method_150_code, exceptionTable := #[], attributes := #[] }
def k7m8 : Method := { name := "<init>", desc := "(Ljava/lang/AbstractStringBuilder;Ljava/lang/Void;)V", sig := { parameters := [(.object "java/lang/AbstractStringBuilder"), (.object "java/lang/Void")], returnType := none }, accessFlags := 0, code := some k7c8 }
def k7c9 : Code := { maxStack := 1, maxLocals := 1, code := jdk_42_method_152_code, exceptionTable := #[], attributes := #[] }
def k7m9 : Method := { name := "coder", desc := "()B", sig := { parameters := [], returnType := some .byte }, accessFlags := 0, code := some k7c9 }
/-- java/lang/String -/
def k7 : Class := { plain "java/lang/String" (some 0) with
  accessFlags := 49
  interfaces := #[2, 3, 4, 5, 6]
  cf := some (fileOf pool7 10 #[.nestMembers #[1103]] #[{ accessFlags := 1, nameIndex := 5, descriptorIndex := 6, attributes := #[] }, { accessFlags := 1, nameIndex := 5, descriptorIndex := 1010, attributes := #[] }, { accessFlags := 1, nameIndex := 5, descriptorIndex := 1233, attributes := #[] }, { accessFlags := 1, nameIndex := 507, descriptorIndex := 334, attributes := #[] }, { accessFlags := 1, nameIndex := 692, descriptorIndex := 142, attributes := #[] }, { accessFlags := 1, nameIndex := 543, descriptorIndex := 573, attributes := #[] }, { accessFlags := 0, nameIndex := 532, descriptorIndex := 821, attributes := #[] }, { accessFlags := 2, nameIndex := 5, descriptorIndex := 29, attributes := #[] }, { accessFlags := 0, nameIndex := 5, descriptorIndex := 491, attributes := #[] }, { accessFlags := 0, nameIndex := 17, descriptorIndex := 337, attributes := #[] }] 49 2 #[1106, 1108, 575, 1110, 1112] #[{ accessFlags := 18, nameIndex := 13, descriptorIndex := 14, attributes := #[] }, { accessFlags := 18, nameIndex := 17, descriptorIndex := 18, attributes := #[] }, { accessFlags := 2, nameIndex := 21, descriptorIndex := 22, attributes := #[] }, { accessFlags := 2, nameIndex := 25, descriptorIndex := 26, attributes := #[] }, { accessFlags := 26, nameIndex := 1116, descriptorIndex := 1117, attributes := #[] }, { accessFlags := 24, nameIndex := 40, descriptorIndex := 26, attributes := #[] }, { accessFlags := 26, nameIndex := 1101, descriptorIndex := 1102, attributes := #[] }, { accessFlags := 26, nameIndex := 1121, descriptorIndex := 1122, attributes := #[] }, { accessFlags := 25, nameIndex := 599, descriptorIndex := 600, attributes := #[] }, { accessFlags := 24, nameIndex := 1125, descriptorIndex := 18, attributes := #[] }, { accessFlags := 24, nameIndex := 1127, descriptorIndex := 18, attributes := #[] }])
  fields := #[{ name := "value", type := (.array .byte), accessFlags := 18, slot := 0, constantValue := 0 }, { name := "coder", type := .byte, accessFlags := 18, slot := 1, constantValue := 0 }, { name := "hash", type := .int, accessFlags := 2, slot := 2, constantValue := 0 }, { name := "hashIsZero", type := .boolean, accessFlags := 2, slot := 3, constantValue := 0 }, { name := "serialVersionUID", type := .long, accessFlags := 26, slot := 0, constantValue := 0 }, { name := "COMPACT_STRINGS", type := .boolean, accessFlags := 24, slot := 1, constantValue := 0 }, { name := "serialPersistentFields", type := (.array (.object "java/io/ObjectStreamField")), accessFlags := 26, slot := 2, constantValue := 0 }, { name := "REPL", type := .char, accessFlags := 26, slot := 3, constantValue := 0 }, { name := "CASE_INSENSITIVE_ORDER", type := (.object "java/util/Comparator"), accessFlags := 25, slot := 4, constantValue := 0 }, { name := "LATIN1", type := .byte, accessFlags := 24, slot := 5, constantValue := 0 }, { name := "UTF16", type := .byte, accessFlags := 24, slot := 6, constantValue := 0 }]
  methods := #[k7m0, k7m1, k7m2, k7m3, k7m4, k7m5, k7m6, k7m7, k7m8, k7m9]
  instanceTypes := #[(.array .byte), .byte, .int, .boolean]
  staticTypes := #[.long, .boolean, (.array (.object "java/io/ObjectStreamField")), .char, (.object "java/util/Comparator"), .byte, .byte]
  resolved := Array.replicate 1451 none
  statics := some 0 }

def pool8 : Array CpInfo := pool [(6, .class_ 8), (1, u "java/lang/Object"), (0, u "<init>"), (0, u "()V"), (1, .class_ 14), (1, u "java/lang/StringUTF16"), (31, u "$assertionsDisabled"), (0, u "Z"), (13, u "HI_BYTE_SHIFT"), (0, u "I"), (2, u "LO_BYTE_SHIFT"), (49, .methodref 12 116), (0, .nameAndType 117 118), (0, u "compress"), (0, u "([CI[BII)I"), (3, u "([CII)[B"), (138, u "coderFromArrayLen"), (0, u "([BI)B"), (106, .class_ 371), (1, u "java/lang/StringUTF16$LinesSpliterator"), (58, u "MAX_LENGTH"), (196, .class_ 628), (0, u "java/lang/StringUTF16$CodePointsSpliterator"), (0, .class_ 630), (0, u "java/lang/StringUTF16$CharsSpliterator")] 4

def k8m0 : Method := { name := "<init>", desc := "()V", sig := { parameters := [], returnType := none }, accessFlags := 0, code := none }
def k8c1 : Code := { maxStack := 2, maxLocals := 2, code := jdk_52_method_15_code, exceptionTable := #[], attributes := #[] }
def k8m1 : Method := { name := "coderFromArrayLen", desc := "([BI)B", sig := { parameters := [(.array .byte), .int], returnType := some .byte }, accessFlags := 8, code := some k8c1 }
def k8c2 : Code := { maxStack := 5, maxLocals := 6, code := jdk_52_method_16_code, exceptionTable := #[], attributes := #[] }
def k8m2 : Method := { name := "compress", desc := "([CII)[B", sig := { parameters := [(.array .char), .int, .int], returnType := some (.array .byte) }, accessFlags := 9, code := some k8c2 }
def k8c3 : Code := { maxStack := 3, maxLocals := 7, code := jdk_52_method_21_code, exceptionTable := #[], attributes := #[] }
def k8m3 : Method := { name := "compress", desc := "([CI[BII)I", sig := { parameters := [(.array .char), .int, (.array .byte), .int, .int], returnType := some .int }, accessFlags := 9, code := some k8c3 }
/-- java/lang/StringUTF16 -/
def k8 : Class := { plain "java/lang/StringUTF16" (some 0) with
  accessFlags := 48
  interfaces := #[]
  cf := some (fileOf pool8 12 #[.nestMembers #[627, 629, 369]] #[{ accessFlags := 0, nameIndex := 9, descriptorIndex := 10, attributes := #[] }, { accessFlags := 8, nameIndex := 261, descriptorIndex := 262, attributes := #[] }, { accessFlags := 9, nameIndex := 117, descriptorIndex := 122, attributes := #[] }, { accessFlags := 9, nameIndex := 117, descriptorIndex := 118, attributes := #[] }] 48 6 #[] #[{ accessFlags := 26, nameIndex := 61, descriptorIndex := 62, attributes := #[] }, { accessFlags := 26, nameIndex := 65, descriptorIndex := 62, attributes := #[] }, { accessFlags := 24, nameIndex := 430, descriptorIndex := 62, attributes := #[] }, { accessFlags := 4120, nameIndex := 46, descriptorIndex := 47, attributes := #[] }])
  fields := #[{ name := "HI_BYTE_SHIFT", type := .int, accessFlags := 26, slot := 0, constantValue := 0 }, { name := "LO_BYTE_SHIFT", type := .int, accessFlags := 26, slot := 1, constantValue := 0 }, { name := "MAX_LENGTH", type := .int, accessFlags := 24, slot := 2, constantValue := 0 }, { name := "$assertionsDisabled", type := .boolean, accessFlags := 4120, slot := 3, constantValue := 0 }]
  methods := #[k8m0, k8m1, k8m2, k8m3]
  instanceTypes := #[]
  staticTypes := #[.int, .int, .int, .boolean]
  resolved := Array.replicate 635 none
  statics := none }

def pool9 : Array CpInfo := pool [(1, .methodref 2 3), (0, .class_ 4), (0, .nameAndType 5 6), (0, u "java/lang/Object"), (0, u "<init>"), (0, u "()V"), (0, .class_ 8), (0, u "java/lang/Record")] 13

def k9c0 : Code := { maxStack := 1, maxLocals := 1, code := jdk_30_method_1_code, exceptionTable := #[], attributes := #[] }
def k9m0 : Method := { name := "<init>", desc := "()V", sig := { parameters := [], returnType := none }, accessFlags := 4, code := some k9c0 }
/-- java/lang/Record -/
def k9 : Class := { plain "java/lang/Record" (some 0) with
  accessFlags := 1057
  interfaces := #[]
  cf := some (fileOf pool9 7 #[] #[{ accessFlags := 4, nameIndex := 5, descriptorIndex := 6, attributes := #[] }] 1057 2 #[] #[])
  fields := #[]
  methods := #[k9m0]
  instanceTypes := #[]
  staticTypes := #[]
  resolved := Array.replicate 22 none
  statics := none }

def pool10 : Array CpInfo := pool [(1, .methodref 2 3), (0, .class_ 4), (0, .nameAndType 5 6), (0, u "java/lang/Record"), (0, u "<init>"), (0, u "()V"), (0, .string 8), (0, u "member"), (0, .methodref 10 11), (0, .class_ 12), (0, .nameAndType 13 14), (0, u "java/util/Objects"), (0, u "requireNonNull"), (0, u "(Ljava/lang/Object;Ljava/lang/String;)Ljava/lang/Object;"), (0, .string 16), (0, u "client"), (0, .methodref 18 19), (0, .class_ 20), (0, .nameAndType 21 22), (0, u "java/lang/String"), (0, u "isEmpty"), (0, u "()Z"), (7, .fieldref 31 32), (0, .class_ 33), (0, .nameAndType 8 34), (0, u "com/example/fuseline/fuseline/model/Account"), (0, u "Ljava/lang/String;"), (0, .fieldref 31 36), (0, .nameAndType 16 34), (0, .methodref 31 38), (0, .nameAndType 39 22), (0, u "ownAccount"), (0, .class_ 41), (0, u "java/lang/StringBuilder"), (0, .methodref 40 3), (0, .string 44), (0, u "member "), (0, .methodref 40 46), (0, .nameAndType 47 48), (0, u "append"), (0, u "(Ljava/lang/String;)Ljava/lang/StringBuilder;"), (0, .string 50), (0, u "'s own account"), (0, .methodref 40 52), (0, .nameAndType 53 54), (0, u "toString"), (0, u "()Ljava/lang/String;"), (0, .string 56), (0, u "client "), (0, .string 58), (0, u "'s account at member "), (11, u "(Ljava/lang/String;Ljava/lang/String;)V"), (4, u "describe")] 23

def k10c0 : Code := { maxStack := 3, maxLocals := 3, code := prog_24_method_1_code, exceptionTable := #[], attributes := #[] }
def k10m0 : Method := { name := "<init>", desc := "(Ljava/lang/String;Ljava/lang/String;)V", sig := { parameters := [(.object "java/lang/String"), (.object "java/lang/String")], returnType := none }, accessFlags := 1, code := some k10c0 }
def k10c1 : Code := { maxStack := 1, maxLocals := 1, code := prog_24_method_2_code, exceptionTable := #[], attributes := #[] }
def k10m1 : Method := { name := "ownAccount", desc := "()Z", sig := { parameters := [], returnType := some .boolean }, accessFlags := 1, code := some k10c1 }
def k10c2 : Code := { maxStack := 2, maxLocals := 1, code := prog_24_method_3_code, exceptionTable := #[], attributes := #[] }
def k10m2 : Method := { name := "describe", desc := "()Ljava/lang/String;", sig := { parameters := [], returnType := some (.object "java/lang/String") }, accessFlags := 1, code := some k10c2 }
/-- com/example/fuseline/fuseline/model/Account -/
def k10 : Class := { plain "com/example/fuseline/fuseline/model/Account" (some 9) with
  accessFlags := 49
  interfaces := #[]
  cf := some (fileOf pool10 31 #[] #[{ accessFlags := 1, nameIndex := 5, descriptorIndex := 70, attributes := #[] }, { accessFlags := 1, nameIndex := 39, descriptorIndex := 22, attributes := #[] }, { accessFlags := 1, nameIndex := 75, descriptorIndex := 54, attributes := #[] }] 49 2 #[] #[{ accessFlags := 18, nameIndex := 8, descriptorIndex := 34, attributes := #[] }, { accessFlags := 18, nameIndex := 16, descriptorIndex := 34, attributes := #[] }])
  fields := #[{ name := "member", type := (.object "java/lang/String"), accessFlags := 18, slot := 0, constantValue := 0 }, { name := "client", type := (.object "java/lang/String"), accessFlags := 18, slot := 1, constantValue := 0 }]
  methods := #[k10m0, k10m1, k10m2]
  instanceTypes := #[(.object "java/lang/String"), (.object "java/lang/String")]
  staticTypes := #[]
  resolved := Array.replicate 99 none
  statics := none }

def pool11 : Array CpInfo := pool [(2, .class_ 4), (1, u "java/lang/Object"), (0, u "<init>"), (0, u "()V"), (35, .class_ 44), (1, u "java/util/Objects"), (0, u "requireNonNull"), (48, u "(Ljava/lang/Object;Ljava/lang/String;)Ljava/lang/Object;")] 89

def k11m0 : Method := { name := "<init>", desc := "()V", sig := { parameters := [], returnType := none }, accessFlags := 2, code := none }
def k11c1 : Code := { maxStack := 3, maxLocals := 2, code := jdk_31_method_11_code, exceptionTable := #[], attributes := #[] }
def k11m1 : Method := { name := "requireNonNull", desc := "(Ljava/lang/Object;Ljava/lang/String;)Ljava/lang/Object;", sig := { parameters := [(.object "java/lang/Object"), (.object "java/lang/String")], returnType := some (.object "java/lang/Object") }, accessFlags := 9, code := some k11c1 }
/-- java/util/Objects -/
def k11 : Class := { plain "java/util/Objects" (some 0) with
  accessFlags := 49
  interfaces := #[]
  cf := some (fileOf pool11 42 #[] #[{ accessFlags := 2, nameIndex := 5, descriptorIndex := 6, attributes := #[] }, { accessFlags := 9, nameIndex := 45, descriptorIndex := 94, attributes := #[] }] 49 2 #[] #[])
  fields := #[]
  methods := #[k11m0, k11m1]
  instanceTypes := #[]
  staticTypes := #[]
  resolved := Array.replicate 184 none
  statics := none }

def pool12 : Array CpInfo := pool [(1, .class_ 2), (0, u "java/lang/Appendable"), (0, .class_ 4), (0, u "java/lang/Object")] 9

/-- java/lang/Appendable -/
def k12 : Class := { plain "java/lang/Appendable" (some 0) with
  accessFlags := 1537
  interfaces := #[]
  cf := some (fileOf pool12 1 #[] #[] 1537 3 #[] #[])
  fields := #[]
  methods := #[]
  instanceTypes := #[]
  staticTypes := #[]
  resolved := Array.replicate 14 none
  statics := none }

def pool13 : Array CpInfo := pool [(1, .class_ 2), (0, u "java/lang/String"), (0, .methodref 4 5), (0, .class_ 6), (0, .nameAndType 7 8), (0, u "java/lang/Object"), (0, u "<init>"), (0, u "()V"), (1, .class_ 12), (1, u "java/lang/AbstractStringBuilder"), (0, u "EMPTYVALUE"), (0, u "[B"), (0, .fieldref 10 16), (0, .nameAndType 17 14), (0, u "value"), (0, .fieldref 1 19), (0, .nameAndType 20 21), (0, u "COMPACT_STRINGS"), (0, u "Z"), (0, .fieldref 10 23), (0, .nameAndType 24 25), (0, u "coder"), (0, u "B"), (6, .methodref 1 33), (0, .nameAndType 34 35), (0, u "length"), (0, u "()I"), (3, .integer 2147483647), (0, .methodref 1 41), (0, .nameAndType 24 42), (0, u "()B"), (2, u "append"), (0, u "(Ljava/lang/String;)Ljava/lang/AbstractStringBuilder;"), (1, .class_ 49), (0, u "java/lang/CharSequence"), (19, u "(Ljava/lang/String;)V"), (5, u "maybeLatin1"), (3, .fieldref 10 80), (0, .nameAndType 81 82), (0, u "count"), (0, u "I"), (2, u "isLatin1"), (0, u "()Z"), (13, .methodref 10 101), (0, .nameAndType 102 103), (0, u "ensureCapacityInternal"), (0, u "(I)V"), (0, .methodref 10 105), (0, .nameAndType 106 107), (0, u "newCapacity"), (0, u "(I)I"), (0, .methodref 109 110), (0, .class_ 111), (0, .nameAndType 112 113), (0, u "java/util/Arrays"), (0, u "copyOf"), (0, u "([BI)[B"), (0, .methodref 115 116), (0, .class_ 117), (0, .nameAndType 118 119), (0, u "jdk/internal/util/ArraysSupport"), (0, u "newLength"), (0, u "(III)I"), (88, .methodref 10 209), (0, .nameAndType 210 211), (0, u "putStringAt"), (0, u "(ILjava/lang/String;)V"), (5, u "inflateIfNeededFor"), (2, .nameAndType 221 222), (0, u "getBytes"), (0, u "([BIB)V"), (174, .methodref 10 398), (0, .nameAndType 217 69), (0, .methodref 1 220), (3, u "()[B"), (40, .class_ 445), (0, u "java/lang/Appendable"), (106, u "getValue")] 56

def k13m0 : Method := { name := "<init>", desc := "()V", sig := { parameters := [], returnType := none }, accessFlags := 0, code := none }
def k13c1 : Code := { maxStack := 2, maxLocals := 2, code := jdk_68_method_2_code, exceptionTable := #[], attributes := #[] }
def k13m1 : Method := { name := "<init>", desc := "(I)V", sig := { parameters := [.int], returnType := none }, accessFlags := 0, code := some k13c1 }
def k13c2 : Code := { maxStack := 1, maxLocals := 1, code := jdk_68_method_6_code, exceptionTable := #[], attributes := #[] }
def k13m2 : Method := { name := "length", desc := "()I", sig := { parameters := [], returnType := some .int }, accessFlags := 1, code := some k13c2 }
def k13c3 : Code := { maxStack := 4, maxLocals := 3, code := jdk_68_method_9_code, exceptionTable := #[], attributes := #[] }
def k13m3 : Method := { name := "ensureCapacityInternal", desc := "(I)V", sig := { parameters := [.int], returnType := none }, accessFlags := 2, code := some k13c3 }
def k13c4 : Code := { maxStack := 5, maxLocals := 6, code := jdk_68_method_10_code, exceptionTable := #[], attributes := #[] }
def k13m4 : Method := { name := "newCapacity", desc := "(I)I", sig := { parameters := [.int], returnType := some .int }, accessFlags := 2, code := some k13c4 }
def k13c5 : Code := { maxStack := 3, maxLocals := 3, code := jdk_68_method_22_code, exceptionTable := #[], attributes := #[] }
def k13m5 : Method := { name := "append", desc := "(Ljava/lang/String;)Ljava/lang/AbstractStringBuilder;", sig := { parameters := [(.object "java/lang/String")], returnType := some (.object "java/lang/AbstractStringBuilder") }, accessFlags := 1, code := some k13c5 }
def k13c6 : Code := { maxStack := 1, maxLocals := 1, code := jdk_68_method_64_code, exceptionTable := #[], attributes := #[] }
def k13m6 : Method := { name := "getValue", desc := "()[B", sig := { parameters := [], returnType := some (.array .byte) }, accessFlags := 16, code := some k13c6 }
def k13c7 : Code := { maxStack := 1, maxLocals := 1, code := jdk_68_method_68_code, exceptionTable := #[], attributes := #[] }
def k13m7 : Method := { name := "isLatin1", desc := "()Z", sig := { parameters := [], returnType := some .boolean }, accessFlags := 16, code := some k13c7 }
def k13c8 : Code := { maxStack := 2, maxLocals := 2, code := jdk_68_method_71_code, exceptionTable := #[], attributes := #[] }
def k13m8 : Method := { name := "inflateIfNeededFor", desc := "(Ljava/lang/String;)V", sig := { parameters := [(.object "java/lang/String")], returnType := none }, accessFlags := 2, code := some k13c8 }
def k13c9 : Code := { maxStack := 4, maxLocals := 3, code := jdk_68_method_73_code, exceptionTable := #[], attributes := #[] }
def k13m9 : Method := { name := "putStringAt", desc := "(ILjava/lang/String;)V", sig := { parameters := [.int, (.object "java/lang/String")], returnType := none }, accessFlags := 2, code := some k13c9 }
/-- java/lang/AbstractStringBuilder -/
def k13 : Class := { plain "java/lang/AbstractStringBuilder" (some 0) with
  accessFlags := 1056
  interfaces := #[12, 4]
  cf := some (fileOf pool13 10 #[] #[{ accessFlags := 0, nameIndex := 7, descriptorIndex := 8, attributes := #[] }, { accessFlags := 0, nameIndex := 7, descriptorIndex := 103, attributes := #[] }, { accessFlags := 1, nameIndex := 34, descriptorIndex := 35, attributes := #[] }, { accessFlags := 2, nameIndex := 102, descriptorIndex := 103, attributes := #[] }, { accessFlags := 2, nameIndex := 106, descriptorIndex := 107, attributes := #[] }, { accessFlags := 1, nameIndex := 45, descriptorIndex := 46, attributes := #[] }, { accessFlags := 16, nameIndex := 552, descriptorIndex := 403, attributes := #[] }, { accessFlags := 16, nameIndex := 85, descriptorIndex := 86, attributes := #[] }, { accessFlags := 2, nameIndex := 217, descriptorIndex := 69, attributes := #[] }, { accessFlags := 2, nameIndex := 210, descriptorIndex := 211, attributes := #[] }] 1056 4 #[444, 48] #[{ accessFlags := 0, nameIndex := 17, descriptorIndex := 14, attributes := #[] }, { accessFlags := 0, nameIndex := 24, descriptorIndex := 25, attributes := #[] }, { accessFlags := 0, nameIndex := 75, descriptorIndex := 21, attributes := #[] }, { accessFlags := 0, nameIndex := 81, descriptorIndex := 82, attributes := #[] }, { accessFlags := 26, nameIndex := 13, descriptorIndex := 14, attributes := #[] }])
  fields := #[{ name := "value", type := (.array .byte), accessFlags := 0, slot := 0, constantValue := 0 }, { name := "coder", type := .byte, accessFlags := 0, slot := 1, constantValue := 0 }, { name := "maybeLatin1", type := .boolean, accessFlags := 0, slot := 2, constantValue := 0 }, { name := "count", type := .int, accessFlags := 0, slot := 3, constantValue := 0 }, { name := "EMPTYVALUE", type := (.array .byte), accessFlags := 26, slot := 0, constantValue := 0 }]
  methods := #[k13m0, k13m1, k13m2, k13m3, k13m4, k13m5, k13m6, k13m7, k13m8, k13m9]
  instanceTypes := #[(.array .byte), .byte, .boolean, .int]
  staticTypes := #[(.array .byte)]
  resolved := Array.replicate 609 none
  statics := none }

def pool14 : Array CpInfo := pool [(1, .methodref 2 3), (0, .class_ 4), (0, .nameAndType 5 6), (0, u "java/lang/AbstractStringBuilder"), (0, u "<init>"), (0, u "(I)V"), (11, .class_ 20), (1, u "java/lang/String"), (3, .class_ 26), (1, u "java/lang/StringBuilder"), (0, u "append"), (0, u "(Ljava/lang/String;)Ljava/lang/StringBuilder;"), (0, .methodref 2 30), (0, .nameAndType 27 31), (0, u "(Ljava/lang/String;)Ljava/lang/AbstractStringBuilder;"), (105, .methodref 18 138), (0, .nameAndType 5 139), (0, u "(Ljava/lang/StringBuilder;)V"), (5, u "()V"), (10, u "()I"), (186, .methodref 2 344), (0, .nameAndType 345 156), (0, u "length"), (3, .class_ 350), (0, u "java/lang/Appendable"), (0, .class_ 352), (0, u "java/io/Serializable"), (0, .class_ 354), (0, u "java/lang/Comparable"), (0, .class_ 356), (0, u "java/lang/CharSequence"), (0, u "serialVersionUID"), (0, u "J"), (40, u "toString"), (0, u "()Ljava/lang/String;")] 21

def k14c0 : Code := { maxStack := 2, maxLocals := 1, code := jdk_67_method_1_code, exceptionTable := #[], attributes := #[] }
def k14m0 : Method := { name := "<init>", desc := "()V", sig := { parameters := [], returnType := none }, accessFlags := 1, code := some k14c0 }
def k14c1 : Code := { maxStack := 2, maxLocals := 2, code := jdk_67_method_7_code, exceptionTable := #[], attributes := #[] }
def k14m1 : Method := { name := "append", desc := "(Ljava/lang/String;)Ljava/lang/StringBuilder;", sig := { parameters := [(.object "java/lang/String")], returnType := some (.object "java/lang/StringBuilder") }, accessFlags := 1, code := some k14c1 }
def k14c2 : Code := { maxStack := 3, maxLocals := 1, code := jdk_67_method_42_code, exceptionTable := #[], attributes := #[] }
def k14m2 : Method := { name := "toString", desc := "()Ljava/lang/String;", sig := { parameters := [], returnType := some (.object "java/lang/String") }, accessFlags := 1, code := some k14c2 }
def k14c3 : Code := { maxStack := 1, maxLocals := 1, code := jdk_67_method_93_code, exceptionTable := #[], attributes := #[] }
def k14m3 : Method := { name := "length", desc := "()I", sig := { parameters := [], returnType := some .int }, accessFlags := 4161, code := some k14c3 }
/-- java/lang/StringBuilder -/
def k14 : Class := { plain "java/lang/StringBuilder" (some 13) with
  accessFlags := 49
  interfaces := #[12, 2, 3, 4]
  cf := some (fileOf pool14 24 #[] #[{ accessFlags := 1, nameIndex := 5, descriptorIndex := 145, attributes := #[] }, { accessFlags := 1, nameIndex := 27, descriptorIndex := 28, attributes := #[] }, { accessFlags := 1, nameIndex := 399, descriptorIndex := 400, attributes := #[] }, { accessFlags := 4161, nameIndex := 345, descriptorIndex := 156, attributes := #[] }] 49 2 #[349, 351, 353, 355] #[{ accessFlags := 24, nameIndex := 357, descriptorIndex := 358, attributes := #[] }])
  fields := #[{ name := "serialVersionUID", type := .long, accessFlags := 24, slot := 0, constantValue := 0 }]
  methods := #[k14m0, k14m1, k14m2, k14m3]
  instanceTypes := #[(.array .byte), .byte, .boolean, .int]
  staticTypes := #[.long]
  resolved := Array.replicate 422 none
  statics := none }

def pool15 : Array CpInfo := pool [(2, .class_ 4), (1, u "java/lang/Object"), (0, u "<init>"), (0, u "()V"), (1, .class_ 10), (1, u "java/lang/System"), (0, u "allowSecurityManager"), (0, u "I"), (16, u "cons"), (0, u "Ljava/io/Console;"), (77, .class_ 110), (1, u "java/lang/System$CallersHolder"), (43, u "initialErrStream"), (0, u "Ljava/io/PrintStream;"), (19, u "security"), (0, u "Ljava/lang/SecurityManager;"), (31, .class_ 209), (0, u "java/lang/System$1"), (7, u "props"), (0, u "Ljava/util/Properties;"), (2, u "lineSeparator"), (0, u "Ljava/lang/String;"), (96, .class_ 321), (1, u "java/lang/System$LoggerFinder"), (5, .class_ 328), (0, u "java/lang/System$Logger"), (67, u "err"), (2, u "out"), (91, u "notSupportedJnuEncoding"), (15, u "in"), (17, u "initialIn"), (0, u "Ljava/io/InputStream;"), (35, u "bootLayer"), (0, u "Ljava/lang/ModuleLayer;"), (99, .class_ 664), (0, u "java/lang/System$2"), (9, u "NEVER"), (2, u "MAYBE"), (49, u "arraycopy"), (0, u "(Ljava/lang/Object;ILjava/lang/Object;II)V"), (72, .class_ 802), (0, u "java/lang/System$Logger$Level")] 31

def k15m0 : Method := { name := "<init>", desc := "()V", sig := { parameters := [], returnType := none }, accessFlags := 2, code := none }
def k15m1 : Method := { name := "arraycopy", desc := "(Ljava/lang/Object;ILjava/lang/Object;II)V", sig := { parameters := [(.object "java/lang/Object"), .int, (.object "java/lang/Object"), .int, .int], returnType := none }, accessFlags := 265, code := none }
/-- java/lang/System -/
def k15 : Class := { plain "java/lang/System" (some 0) with
  accessFlags := 49
  interfaces := #[]
  cf := some (fileOf pool15 8 #[.nestMembers #[319, 327, 801, 108, 663, 208]] #[{ accessFlags := 2, nameIndex := 5, descriptorIndex := 6, attributes := #[] }, { accessFlags := 265, nameIndex := 727, descriptorIndex := 728, attributes := #[] }] 49 2 #[] #[{ accessFlags := 25, nameIndex := 507, descriptorIndex := 526, attributes := #[] }, { accessFlags := 25, nameIndex := 399, descriptorIndex := 155, attributes := #[] }, { accessFlags := 25, nameIndex := 396, descriptorIndex := 155, attributes := #[] }, { accessFlags := 10, nameIndex := 525, descriptorIndex := 526, attributes := #[] }, { accessFlags := 26, nameIndex := 674, descriptorIndex := 12, attributes := #[] }, { accessFlags := 26, nameIndex := 677, descriptorIndex := 12, attributes := #[] }, { accessFlags := 10, nameIndex := 11, descriptorIndex := 12, attributes := #[] }, { accessFlags := 74, nameIndex := 175, descriptorIndex := 176, attributes := #[] }, { accessFlags := 10, nameIndex := 491, descriptorIndex := 222, attributes := #[] }, { accessFlags := 74, nameIndex := 29, descriptorIndex := 30, attributes := #[] }, { accessFlags := 74, nameIndex := 154, descriptorIndex := 155, attributes := #[] }, { accessFlags := 10, nameIndex := 217, descriptorIndex := 218, attributes := #[] }, { accessFlags := 10, nameIndex := 221, descriptorIndex := 222, attributes := #[] }, { accessFlags := 8, nameIndex := 562, descriptorIndex := 563, attributes := #[] }])
  fields := #[{ name := "in", type := (.object "java/io/InputStream"), accessFlags := 25, slot := 0, constantValue := 0 }, { name := "out", type := (.object "java/io/PrintStream"), accessFlags := 25, slot := 1, constantValue := 0 }, { name := "err", type := (.object "java/io/PrintStream"), accessFlags := 25, slot := 2, constantValue := 0 }, { name := "initialIn", type := (.object "java/io/InputStream"), accessFlags := 10, slot := 3, constantValue := 0 }, { name := "NEVER", type := .int, accessFlags := 26, slot := 4, constantValue := 0 }, { name := "MAYBE", type := .int, accessFlags := 26, slot := 5, constantValue := 0 }, { name := "allowSecurityManager", type := .int, accessFlags := 10, slot := 6, constantValue := 0 }, { name := "security", type := (.object "java/lang/SecurityManager"), accessFlags := 74, slot := 7, constantValue := 0 }, { name := "notSupportedJnuEncoding", type := (.object "java/lang/String"), accessFlags := 10, slot := 8, constantValue := 0 }, { name := "cons", type := (.object "java/io/Console"), accessFlags := 74, slot := 9, constantValue := 0 }, { name := "initialErrStream", type := (.object "java/io/PrintStream"), accessFlags := 74, slot := 10, constantValue := 0 }, { name := "props", type := (.object "java/util/Properties"), accessFlags := 10, slot := 11, constantValue := 0 }, { name := "lineSeparator", type := (.object "java/lang/String"), accessFlags := 10, slot := 12, constantValue := 0 }, { name := "bootLayer", type := (.object "java/lang/ModuleLayer"), accessFlags := 8, slot := 13, constantValue := 0 }]
  methods := #[k15m0, k15m1]
  instanceTypes := #[]
  staticTypes := #[(.object "java/io/InputStream"), (.object "java/io/PrintStream"), (.object "java/io/PrintStream"), (.object "java/io/InputStream"), .int, .int, .int, (.object "java/lang/SecurityManager"), (.object "java/lang/String"), (.object "java/io/Console"), (.object "java/io/PrintStream"), (.object "java/util/Properties"), (.object "java/lang/String"), (.object "java/lang/ModuleLayer")]
  resolved := Array.replicate 834 none
  statics := none }

def pool16 : Array CpInfo := pool [(9, u "<init>"), (6, .class_ 18), (1, u "java/lang/Object"), (0, u "()V"), (1, .class_ 23), (1, u "jdk/internal/util/ArraysSupport"), (0, u "LOG2_ARRAY_LONG_INDEX_SCALE"), (0, u "I"), (2, u "U"), (0, u "Ljdk/internal/misc/Unsafe;"), (8, u "BIG_ENDIAN"), (0, u "Z"), (8, u "LOG2_BYTE_BIT_SIZE"), (4, u "LOG2_ARRAY_INT_INDEX_SCALE"), (54, u "JLA"), (0, u "Ljdk/internal/access/JavaLangAccess;"), (11, u "LOG2_ARRAY_BOOLEAN_INDEX_SCALE"), (9, u "LOG2_ARRAY_BYTE_INDEX_SCALE"), (5, u "LOG2_ARRAY_CHAR_INDEX_SCALE"), (5, u "LOG2_ARRAY_SHORT_INDEX_SCALE"), (18, u "LOG2_ARRAY_FLOAT_INDEX_SCALE"), (24, u "LOG2_ARRAY_DOUBLE_INDEX_SCALE"), (6, .methodref 195 196), (0, .class_ 197), (0, .nameAndType 198 199), (0, u "java/lang/Math"), (0, u "max"), (0, u "(II)I"), (0, .integer 2147483639), (76, u "T_BOOLEAN"), (2, u "T_CHAR"), (1, u "T_FLOAT"), (1, u "T_DOUBLE"), (1, u "T_BYTE"), (1, u "T_SHORT"), (1, u "T_INT"), (1, u "T_LONG"), (1, u "SOFT_MAX_ARRAY_LENGTH"), (56, u "newLength"), (0, u "(III)I")] 25

def k16m0 : Method := { name := "<init>", desc := "()V", sig := { parameters := [], returnType := none }, accessFlags := 2, code := none }
def k16c1 : Code := { maxStack := 3, maxLocals := 4, code := jdk_48_method_27_code, exceptionTable := #[], attributes := #[] }
def k16m1 : Method := { name := "newLength", desc := "(III)I", sig := { parameters := [.int, .int, .int], returnType := some .int }, accessFlags := 9, code := some k16c1 }
/-- jdk/internal/util/ArraysSupport -/
def k16 : Class := { plain "jdk/internal/util/ArraysSupport" (some 0) with
  accessFlags := 33
  interfaces := #[]
  cf := some (fileOf pool16 21 #[] #[{ accessFlags := 2, nameIndex := 9, descriptorIndex := 19, attributes := #[] }, { accessFlags := 9, nameIndex := 351, descriptorIndex := 352, attributes := #[] }] 33 16 #[] #[{ accessFlags := 24, nameIndex := 28, descriptorIndex := 29, attributes := #[] }, { accessFlags := 26, nameIndex := 38, descriptorIndex := 39, attributes := #[] }, { accessFlags := 25, nameIndex := 121, descriptorIndex := 25, attributes := #[] }, { accessFlags := 25, nameIndex := 131, descriptorIndex := 25, attributes := #[] }, { accessFlags := 25, nameIndex := 137, descriptorIndex := 25, attributes := #[] }, { accessFlags := 25, nameIndex := 143, descriptorIndex := 25, attributes := #[] }, { accessFlags := 25, nameIndex := 53, descriptorIndex := 25, attributes := #[] }, { accessFlags := 25, nameIndex := 24, descriptorIndex := 25, attributes := #[] }, { accessFlags := 25, nameIndex := 162, descriptorIndex := 25, attributes := #[] }, { accessFlags := 25, nameIndex := 187, descriptorIndex := 25, attributes := #[] }, { accessFlags := 26, nameIndex := 48, descriptorIndex := 25, attributes := #[] }, { accessFlags := 25, nameIndex := 277, descriptorIndex := 25, attributes := #[] }, { accessFlags := 25, nameIndex := 280, descriptorIndex := 25, attributes := #[] }, { accessFlags := 25, nameIndex := 282, descriptorIndex := 25, attributes := #[] }, { accessFlags := 25, nameIndex := 284, descriptorIndex := 25, attributes := #[] }, { accessFlags := 25, nameIndex := 286, descriptorIndex := 25, attributes := #[] }, { accessFlags := 25, nameIndex := 288, descriptorIndex := 25, attributes := #[] }, { accessFlags := 25, nameIndex := 290, descriptorIndex := 25, attributes := #[] }, { accessFlags := 25, nameIndex := 292, descriptorIndex := 25, attributes := #[] }, { accessFlags := 26, nameIndex := 108, descriptorIndex := 109, attributes := #[] }, { accessFlags := 25, nameIndex := 294, descriptorIndex := 25, attributes := #[] }])
  fields := #[{ name := "U", type := (.object "jdk/internal/misc/Unsafe"), accessFlags := 24, slot := 0, constantValue := 0 }, { name := "BIG_ENDIAN", type := .boolean, accessFlags := 26, slot := 1, constantValue := 0 }, { name := "LOG2_ARRAY_BOOLEAN_INDEX_SCALE", type := .int, accessFlags := 25, slot := 2, constantValue := 0 }, { name := "LOG2_ARRAY_BYTE_INDEX_SCALE", type := .int, accessFlags := 25, slot := 3, constantValue := 0 }, { name := "LOG2_ARRAY_CHAR_INDEX_SCALE", type := .int, accessFlags := 25, slot := 4, constantValue := 0 }, { name := "LOG2_ARRAY_SHORT_INDEX_SCALE", type := .int, accessFlags := 25, slot := 5, constantValue := 0 }, { name := "LOG2_ARRAY_INT_INDEX_SCALE", type := .int, accessFlags := 25, slot := 6, constantValue := 0 }, { name := "LOG2_ARRAY_LONG_INDEX_SCALE", type := .int, accessFlags := 25, slot := 7, constantValue := 0 }, { name := "LOG2_ARRAY_FLOAT_INDEX_SCALE", type := .int, accessFlags := 25, slot := 8, constantValue := 0 }, { name := "LOG2_ARRAY_DOUBLE_INDEX_SCALE", type := .int, accessFlags := 25, slot := 9, constantValue := 0 }, { name := "LOG2_BYTE_BIT_SIZE", type := .int, accessFlags := 26, slot := 10, constantValue := 0 }, { name := "T_BOOLEAN", type := .int, accessFlags := 25, slot := 11, constantValue := 0 }, { name := "T_CHAR", type := .int, accessFlags := 25, slot := 12, constantValue := 0 }, { name := "T_FLOAT", type := .int, accessFlags := 25, slot := 13, constantValue := 0 }, { name := "T_DOUBLE", type := .int, accessFlags := 25, slot := 14, constantValue := 0 }, { name := "T_BYTE", type := .int, accessFlags := 25, slot := 15, constantValue := 0 }, { name := "T_SHORT", type := .int, accessFlags := 25, slot := 16, constantValue := 0 }, { name := "T_INT", type := .int, accessFlags := 25, slot := 17, constantValue := 0 }, { name := "T_LONG", type := .int, accessFlags := 25, slot := 18, constantValue := 0 }, { name := "JLA", type := (.object "jdk/internal/access/JavaLangAccess"), accessFlags := 26, slot := 19, constantValue := 0 }, { name := "SOFT_MAX_ARRAY_LENGTH", type := .int, accessFlags := 25, slot := 20, constantValue := 0 }]
  methods := #[k16m0, k16m1]
  instanceTypes := #[]
  staticTypes := #[(.object "jdk/internal/misc/Unsafe"), .boolean, .int, .int, .int, .int, .int, .int, .int, .int, .int, .int, .int, .int, .int, .int, .int, .int, .int, (.object "jdk/internal/access/JavaLangAccess"), .int]
  resolved := Array.replicate 378 none
  statics := none }

def pool17 : Array CpInfo := pool [(1, .class_ 2), (0, u "java/lang/Math"), (1, .class_ 6), (1, u "java/lang/Object"), (0, u "<init>"), (0, u "()V"), (89, .class_ 100), (1, u "java/lang/Math$RandomNumberGeneratorHolder"), (71, u "negativeZeroFloatBits"), (0, u "J"), (2, u "negativeZeroDoubleBits"), (21, u "max"), (2, u "min"), (43, u "$assertionsDisabled"), (0, u "Z"), (88, u "(II)I"), (2, u "twoToTheDoubleScaleDown"), (0, u "D"), (4, u "twoToTheDoubleScaleUp"), (9, u "E"), (3, u "PI"), (2, u "TAU"), (2, u "DEGREES_TO_RADIANS"), (0, u "RADIANS_TO_DEGREES")] 94

def k17m0 : Method := { name := "<init>", desc := "()V", sig := { parameters := [], returnType := none }, accessFlags := 2, code := none }
def k17c1 : Code := { maxStack := 2, maxLocals := 2, code := jdk_29_method_65_code, exceptionTable := #[], attributes := #[] }
def k17m1 : Method := { name := "max", desc := "(II)I", sig := { parameters := [.int, .int], returnType := some .int }, accessFlags := 9, code := some k17c1 }
def k17c2 : Code := { maxStack := 2, maxLocals := 2, code := jdk_29_method_69_code, exceptionTable := #[], attributes := #[] }
def k17m2 : Method := { name := "min", desc := "(II)I", sig := { parameters := [.int, .int], returnType := some .int }, accessFlags := 9, code := some k17c2 }
/-- java/lang/Math -/
def k17 : Class := { plain "java/lang/Math" (some 0) with
  accessFlags := 49
  interfaces := #[]
  cf := some (fileOf pool17 1 #[.nestMembers #[98]] #[{ accessFlags := 2, nameIndex := 7, descriptorIndex := 8, attributes := #[] }, { accessFlags := 9, nameIndex := 198, descriptorIndex := 335, attributes := #[] }, { accessFlags := 9, nameIndex := 201, descriptorIndex := 335, attributes := #[] }] 49 4 #[] #[{ accessFlags := 25, nameIndex := 354, descriptorIndex := 339, attributes := #[] }, { accessFlags := 25, nameIndex := 358, descriptorIndex := 339, attributes := #[] }, { accessFlags := 25, nameIndex := 361, descriptorIndex := 339, attributes := #[] }, { accessFlags := 26, nameIndex := 364, descriptorIndex := 339, attributes := #[] }, { accessFlags := 26, nameIndex := 365, descriptorIndex := 339, attributes := #[] }, { accessFlags := 26, nameIndex := 172, descriptorIndex := 173, attributes := #[] }, { accessFlags := 26, nameIndex := 176, descriptorIndex := 173, attributes := #[] }, { accessFlags := 8, nameIndex := 344, descriptorIndex := 339, attributes := #[] }, { accessFlags := 8, nameIndex := 338, descriptorIndex := 339, attributes := #[] }, { accessFlags := 4120, nameIndex := 245, descriptorIndex := 246, attributes := #[] }])
  fields := #[{ name := "E", type := .double, accessFlags := 25, slot := 0, constantValue := 0 }, { name := "PI", type := .double, accessFlags := 25, slot := 1, constantValue := 0 }, { name := "TAU", type := .double, accessFlags := 25, slot := 2, constantValue := 0 }, { name := "DEGREES_TO_RADIANS", type := .double, accessFlags := 26, slot := 3, constantValue := 0 }, { name := "RADIANS_TO_DEGREES", type := .double, accessFlags := 26, slot := 4, constantValue := 0 }, { name := "negativeZeroFloatBits", type := .long, accessFlags := 26, slot := 5, constantValue := 0 }, { name := "negativeZeroDoubleBits", type := .long, accessFlags := 26, slot := 6, constantValue := 0 }, { name := "twoToTheDoubleScaleUp", type := .double, accessFlags := 8, slot := 7, constantValue := 0 }, { name := "twoToTheDoubleScaleDown", type := .double, accessFlags := 8, slot := 8, constantValue := 0 }, { name := "$assertionsDisabled", type := .boolean, accessFlags := 4120, slot := 9, constantValue := 0 }]
  methods := #[k17m0, k17m1, k17m2]
  instanceTypes := #[]
  staticTypes := #[.double, .double, .double, .double, .double, .long, .long, .double, .double, .boolean]
  resolved := Array.replicate 460 none
  statics := none }

def pool18 : Array CpInfo := pool [(2, .class_ 4), (1, u "java/lang/Object"), (0, u "<init>"), (0, u "()V"), (7, .class_ 16), (1, u "java/util/Arrays"), (57, .class_ 76), (1, u "java/util/Arrays$NaturalOrder"), (36, .class_ 115), (1, u "java/util/Arrays$LegacyMergeSort"), (1, u "Z"), (21, u "copyOfRange"), (10, .methodref 151 152), (0, .class_ 153), (0, .nameAndType 154 155), (0, u "java/lang/System"), (0, u "arraycopy"), (0, u "(Ljava/lang/Object;ILjava/lang/Object;II)V"), (146, u "copyOf"), (1, .methodref 305 306), (0, .class_ 307), (0, .nameAndType 308 309), (0, u "java/lang/Math"), (0, u "min"), (0, u "(II)I"), (29, .methodref 14 340), (0, .nameAndType 341 342), (0, u "copyOfRangeByte"), (0, u "([BII)[B"), (0, .methodref 14 344), (0, .nameAndType 345 346), (0, u "checkLength"), (0, u "(II)V"), (28, .class_ 376), (0, u "java/util/Arrays$ArrayList"), (68, u "$assertionsDisabled"), (269, u "MIN_ARRAY_SORT_GRAN"), (0, u "I"), (2, u "INSERTIONSORT_THRESHOLD"), (149, u "([BI)[B"), (105, .class_ 976), (0, u "java/util/Arrays$ArrayItr")] 52

def k18m0 : Method := { name := "<init>", desc := "()V", sig := { parameters := [], returnType := none }, accessFlags := 2, code := none }
def k18c1 : Code := { maxStack := 6, maxLocals := 3, code := jdk_65_method_121_code, exceptionTable := #[], attributes := #[] }
def k18m1 : Method := { name := "copyOf", desc := "([BI)[B", sig := { parameters := [(.array .byte), .int], returnType := some (.array .byte) }, accessFlags := 9, code := some k18c1 }
def k18c2 : Code := { maxStack := 4, maxLocals := 2, code := jdk_65_method_131_code, exceptionTable := #[], attributes := #[] }
def k18m2 : Method := { name := "checkLength", desc := "(II)V", sig := { parameters := [.int, .int], returnType := none }, accessFlags := 10, code := some k18c2 }
def k18c3 : Code := { maxStack := 3, maxLocals := 3, code := jdk_65_method_132_code, exceptionTable := #[], attributes := #[] }
def k18m3 : Method := { name := "copyOfRange", desc := "([BII)[B", sig := { parameters := [(.array .byte), .int, .int], returnType := some (.array .byte) }, accessFlags := 9, code := some k18c3 }
def k18c4 : Code := { maxStack := 6, maxLocals := 5, code := jdk_65_method_133_code, exceptionTable := #[], attributes := #[] }
def k18m4 : Method := { name := "copyOfRangeByte", desc := "([BII)[B", sig := { parameters := [(.array .byte), .int, .int], returnType := some (.array .byte) }, accessFlags := 10, code := some k18c4 }
/-- java/util/Arrays -/
def k18 : Class := { plain "java/util/Arrays" (some 0) with
  accessFlags := 49
  interfaces := #[]
  cf := some (fileOf pool18 14 #[.nestMembers #[975, 375, 113, 74]] #[{ accessFlags := 2, nameIndex := 5, descriptorIndex := 6, attributes := #[] }, { accessFlags := 9, nameIndex := 302, descriptorIndex := 869, attributes := #[] }, { accessFlags := 10, nameIndex := 345, descriptorIndex := 346, attributes := #[] }, { accessFlags := 9, nameIndex := 139, descriptorIndex := 342, attributes := #[] }, { accessFlags := 10, nameIndex := 341, descriptorIndex := 342, attributes := #[] }] 49 2 #[] #[{ accessFlags := 26, nameIndex := 715, descriptorIndex := 716, attributes := #[] }, { accessFlags := 26, nameIndex := 719, descriptorIndex := 716, attributes := #[] }, { accessFlags := 4120, nameIndex := 445, descriptorIndex := 117, attributes := #[] }])
  fields := #[{ name := "MIN_ARRAY_SORT_GRAN", type := .int, accessFlags := 26, slot := 0, constantValue := 0 }, { name := "INSERTIONSORT_THRESHOLD", type := .int, accessFlags := 26, slot := 1, constantValue := 0 }, { name := "$assertionsDisabled", type := .boolean, accessFlags := 4120, slot := 2, constantValue := 0 }]
  methods := #[k18m0, k18m1, k18m2, k18m3, k18m4]
  instanceTypes := #[]
  staticTypes := #[.int, .int, .boolean]
  resolved := Array.replicate 1029 none
  statics := none }

def pool19 : Array CpInfo := pool [(4, .class_ 6), (1, u "java/lang/Object"), (0, u "<init>"), (0, u "()V"), (5, .class_ 16), (1, u "java/lang/StringLatin1"), (104, u "$assertionsDisabled"), (0, u "Z"), (98, .class_ 223), (1, u "java/lang/StringLatin1$LinesSpliterator"), (57, u "equals"), (0, u "([B[B)Z"), (107, .class_ 391), (0, u "java/lang/StringLatin1$CharsSpliterator")] 3

def k19m0 : Method := { name := "<init>", desc := "()V", sig := { parameters := [], returnType := none }, accessFlags := 0, code := none }
def k19c1 : Code := { maxStack := 3, maxLocals := 3, code := jdk_43_method_13_code, exceptionTable := #[], attributes := #[] }
def k19m1 : Method := { name := "equals", desc := "([B[B)Z", sig := { parameters := [(.array .byte), (.array .byte)], returnType := some .boolean }, accessFlags := 9, code := some k19c1 }
/-- java/lang/StringLatin1 -/
def k19 : Class := { plain "java/lang/StringLatin1" (some 0) with
  accessFlags := 48
  interfaces := #[]
  cf := some (fileOf pool19 14 #[.nestMembers #[390, 221]] #[{ accessFlags := 0, nameIndex := 7, descriptorIndex := 8, attributes := #[] }, { accessFlags := 9, nameIndex := 281, descriptorIndex := 282, attributes := #[] }] 48 4 #[] #[{ accessFlags := 4120, nameIndex := 121, descriptorIndex := 122, attributes := #[] }])
  fields := #[{ name := "$assertionsDisabled", type := .boolean, accessFlags := 4120, slot := 0, constantValue := 0 }]
  methods := #[k19m0, k19m1]
  instanceTypes := #[]
  staticTypes := #[.boolean]
  resolved := Array.replicate 395 none
  statics := none }

def pool20 : Array CpInfo := pool [(2, .class_ 4), (1, u "java/lang/Object"), (0, u "<init>"), (0, u "()V"), (17, .class_ 26), (1, u "jdk/internal/util/Preconditions"), (28, .class_ 56), (0, u "jdk/internal/util/Preconditions$4"), (57, .class_ 115), (0, u "jdk/internal/util/Preconditions$1"), (7, u "SIOOBE_FORMATTER"), (0, u "Ljava/util/function/BiFunction;"), (0, .class_ 126), (0, u "jdk/internal/util/Preconditions$2"), (3, u "AIOOBE_FORMATTER"), (0, .class_ 132), (0, u "jdk/internal/util/Preconditions$3"), (3, u "IOOBE_FORMATTER")] 57

def k20m0 : Method := { name := "<init>", desc := "()V", sig := { parameters := [], returnType := none }, accessFlags := 1, code := none }
/-- jdk/internal/util/Preconditions -/
def k20 : Class := { plain "jdk/internal/util/Preconditions" (some 0) with
  accessFlags := 33
  interfaces := #[]
  cf := some (fileOf pool20 24 #[.nestMembers #[55, 131, 125, 114]] #[{ accessFlags := 1, nameIndex := 5, descriptorIndex := 6, attributes := #[] }] 33 2 #[] #[{ accessFlags := 25, nameIndex := 123, descriptorIndex := 124, attributes := #[] }, { accessFlags := 25, nameIndex := 130, descriptorIndex := 124, attributes := #[] }, { accessFlags := 25, nameIndex := 136, descriptorIndex := 124, attributes := #[] }])
  fields := #[{ name := "SIOOBE_FORMATTER", type := (.object "java/util/function/BiFunction"), accessFlags := 25, slot := 0, constantValue := 0 }, { name := "AIOOBE_FORMATTER", type := (.object "java/util/function/BiFunction"), accessFlags := 25, slot := 1, constantValue := 0 }, { name := "IOOBE_FORMATTER", type := (.object "java/util/function/BiFunction"), accessFlags := 25, slot := 2, constantValue := 0 }]
  methods := #[k20m0]
  instanceTypes := #[]
  staticTypes := #[(.object "java/util/function/BiFunction"), (.object "java/util/function/BiFunction"), (.object "java/util/function/BiFunction")]
  resolved := Array.replicate 194 none
  statics := some 1 }

def pool21 : Array CpInfo := pool [(1, u "java/lang/Cloneable"), (0, .class_ 1), (0, u "java/lang/Object"), (0, .class_ 3)] 3

/-- java/lang/Cloneable -/
def k21 : Class := { plain "java/lang/Cloneable" (some 0) with
  accessFlags := 1537
  interfaces := #[]
  cf := some (fileOf pool21 2 #[] #[] 1537 4 #[] #[])
  fields := #[]
  methods := #[]
  instanceTypes := #[]
  staticTypes := #[]
  resolved := Array.replicate 8 none
  statics := none }

/-- the primitive byte -/
def k22 : Class := { plain "byte" none with kind := .primitive 'B', accessFlags := 0x411 }
/-- [B -/
def k23 : Class := { plain "[B" (some 0) with kind := .array 22 .byte, interfaces := #[21, 2], accessFlags := 1041 }

/-- the primitive char -/
def k24 : Class := { plain "char" none with kind := .primitive 'C', accessFlags := 0x411 }
/-- [C -/
def k25 : Class := { plain "[C" (some 0) with kind := .array 24 .char, interfaces := #[21, 2], accessFlags := 1041 }

/-- the primitive int -/
def k26 : Class := { plain "int" none with kind := .primitive 'I', accessFlags := 0x411 }
/-- [I -/
def k27 : Class := { plain "[I" (some 0) with kind := .array 26 .int, interfaces := #[21, 2], accessFlags := 1041 }

def heap : Heap := #[{ cls := 7, slots := #[.long 0, .int 1, .null, .int 0, .null, .int 0, .int 0], vm := .statics 7 },
  { cls := 20, slots := #[.null, .null, .null], vm := .statics 20 }]
def classes : Array Class := #[k0, k1, k2, k3, k4, k5, k6, k7, k8, k9, k10, k11, k12, k13, k14, k15, k16, k17, k18, k19, k20, k21, k22, k23, k24, k25, k26, k27]
def interned : List (Array UInt16 × Addr) := []
def slotsUsed : Nat := 10
def theMethod : MethodId := ⟨1, 1⟩
def args0 : Array Value := #[.int 65, .int 66, .int 67, .int 68, .int 0]
def aboutOver (below : List Frame) : State where
  vm := { classes := classes, interned := interned.toArray }
  heap := heap
  slotsUsed := slotsUsed
  threads := #[{ frames := .invoking theMethod args0 :: below }]
def below0 : List Frame := [.native { method := ⟨0, 0⟩, args := #[] }]
def about1 : State := aboutOver below0
def p0 : Program := .bare "" "" ""
def e0 : Env := launch0.env 0 0 0
theorem w_frames : about1.frames = Frame.invoking theMethod args0 :: below0 := rfl
set_option maxRecDepth 65536 in
theorem w_args : argsFit about1.vm theMethod args0 = true := by decide +kernel
set_option maxRecDepth 65536 in
theorem w_heap : heapFits about1 = true := by decide +kernel
set_option maxRecDepth 65536 in
theorem w_runnable : about1.curStatus? = some .runnable := by decide +kernel
set_option maxRecDepth 65536 in
theorem w_alone : about1.alone = true := by decide +kernel
set_option maxRecDepth 65536 in
theorem w_named : about1.methodNamed? x = some theMethod := by decide +kernel
set_option maxRecDepth 65536 in
theorem w_hears : about1.hears theMethod below0 = true := by decide +kernel
set_option maxRecDepth 65536 in
theorem w_ripe : about1.ripe theMethod args0 below0 = true := by decide +kernel
theorem w_running : about1.status = .running := rfl
set_option maxRecDepth 65536 in
theorem w_room : about1.hasRoom e0.platform room_1 = true :=
  launch0.hasRoom_least _ room_1 (by decide +kernel) (by decide +kernel) (by decide +kernel) (by decide +kernel) (by decide +kernel) (by decide +kernel)
theorem allAtoms_all (ts : List Jvm.Cond) (a : Array Jvm.Value) (st : Jvm.State) : (allAtoms ts).before a st = ts.all (fun c => c.before a st) := by
  induction ts with
  | nil => rfl
  | cons c t ih =>
    show (Jvm.Cond.and c (allAtoms t)).before a st = _
    rw [Jvm.Cond.before_and, ih, List.all_cons]
def words1 : List Jvm.Cond := Jvm.Cond.code x code maxLocals ret :: tables_1
/-- a 'code' word, met by the world's own term for the bytes: nothing is compared byte by byte -/
theorem code_word {y : MethodName} {bytes : ByteArray} {mx : Nat} {rt : Option FieldType} {a : Array Value} {s : State} {m : MethodId} {meth : Method} {c : Code} (h1 : s.methodNamed? y = some m) (h2 : s.vm.method? m = some meth) (h3 : meth.code = some c) (h4 : c.code = bytes)
    (h5 : (c.maxLocals == mx && c.exceptionTable.isEmpty && decide (c.maxStack ≤ mostOperands) && decide (meth.sig.returnType = rt) && !meth.locks && decide (parseMethodDescriptor y.desc = some meth.sig)) = true) : (Jvm.Cond.code y bytes mx rt).before a s = true := by
  simp only [Bool.and_eq_true, beq_iff_eq, Bool.not_eq_true', decide_eq_true_eq] at h5
  obtain ⟨⟨⟨⟨⟨g1, g2⟩, g3⟩, g4⟩, g5⟩, g6⟩ := h5
  simp [Cond.before, Cond.holds, Cond.value, h1, h2, h3, h4, g1, g2, g3, g4, g5, g6]
def isCode : Jvm.Cond → Bool
  | .code _ _ _ _ => true
  | _ => false
theorem all_split {L : List Jvm.Cond} {P : Jvm.Cond → Bool} (h1 : L.all (fun c => isCode c || P c) = true) (h2 : ∀ c ∈ L.filter isCode, P c = true) : L.all P = true := by
  refine List.all_eq_true.mpr fun c hc => ?_
  have h := List.all_eq_true.mp h1 c hc
  rcases Bool.eq_false_or_eq_true (isCode c) with hi | hi
  · exact h2 c (List.mem_filter.mpr ⟨hc, hi⟩)
  · simpa [hi] using h
set_option maxRecDepth 65536 in
theorem w_c0 : (Jvm.Cond.code x code maxLocals ret).before args0 about1 = true := code_word (m := ⟨1, 1⟩) (meth := k1m1) (c := k1c1) (by decide +kernel) rfl rfl rfl (by decide +kernel)
set_option maxRecDepth 65536 in
theorem w_c1 : (Jvm.Cond.code ({ cls := "java/lang/String", name := "<init>", desc := "([C)V" } : Jvm.MethodName) jdk_42_method_3_code (2 : Nat) (Option.none : Option Jvm.ClassFile.FieldType)).before args0 about1 = true := code_word (m := ⟨7, 1⟩) (meth := k7m1) (c := k7c1) (by decide +kernel) rfl rfl rfl (by decide +kernel)
set_option maxRecDepth 65536 in
theorem w_c2 : (Jvm.Cond.code ({ cls := "java/lang/String", name := "<init>", desc := "([CIILjava/lang/Void;)V" } : Jvm.MethodName) jdk_42_method_149_code (6 : Nat) (Option.none : Option Jvm.ClassFile.FieldType)).before args0 about1 = true := code_word (m := ⟨7, 7⟩) (meth := k7m7) (c := k7c7) (by decide +kernel) rfl rfl rfl (by decide +kernel)
set_option maxRecDepth 65536 in
theorem w_c3 : (Jvm.Cond.code ({ cls := "java/lang/Object", name := "<init>", desc := "()V" } : Jvm.MethodName) object_method_1_code (1 : Nat) (Option.none : Option Jvm.ClassFile.FieldType)).before args0 about1 = true := code_word (m := ⟨0, 0⟩) (meth := k0m0) (c := k0c0) (by decide +kernel) rfl rfl rfl (by decide +kernel)
set_option maxRecDepth 65536 in
theorem w_c4 : (Jvm.Cond.code ({ cls := "java/lang/StringUTF16", name := "compress", desc := "([CII)[B" } : Jvm.MethodName) jdk_52_method_16_code (6 : Nat) (Option.some (Jvm.ClassFile.FieldType.array Jvm.ClassFile.FieldType.byte))).before args0 about1 = true := code_word (m := ⟨8, 2⟩) (meth := k8m2) (c := k8c2) (by decide +kernel) rfl rfl rfl (by decide +kernel)
set_option maxRecDepth 65536 in
theorem w_c5 : (Jvm.Cond.code ({ cls := "java/lang/StringUTF16", name := "compress", desc := "([CI[BII)I" } : Jvm.MethodName) jdk_52_method_21_code (7 : Nat) (Option.some Jvm.ClassFile.FieldType.int)).before args0 about1 = true := code_word (m := ⟨8, 3⟩) (meth := k8m3) (c := k8c3) (by decide +kernel) rfl rfl rfl (by decide +kernel)
set_option maxRecDepth 65536 in
theorem w_c6 : (Jvm.Cond.code ({ cls := "java/lang/StringUTF16", name := "coderFromArrayLen", desc := "([BI)B" } : Jvm.MethodName) jdk_52_method_15_code (2 : Nat) (Option.some Jvm.ClassFile.FieldType.byte)).before args0 about1 = true := code_word (m := ⟨8, 1⟩) (meth := k8m1) (c := k8c1) (by decide +kernel) rfl rfl rfl (by decide +kernel)
set_option maxRecDepth 65536 in
theorem w_c7 : (Jvm.Cond.code ({ cls := "com/example/fuseline/fuseline/model/Account", name := "<init>", desc := "(Ljava/lang/String;Ljava/lang/String;)V" } : Jvm.MethodName) prog_24_method_1_code (3 : Nat) (Option.none : Option Jvm.ClassFile.FieldType)).before args0 about1 = true := code_word (m := ⟨10, 0⟩) (meth := k10m0) (c := k10c0) (by decide +kernel) rfl rfl rfl (by decide +kernel)
set_option maxRecDepth 65536 in
theorem w_c8 : (Jvm.Cond.code ({ cls := "java/lang/Record", name := "<init>", desc := "()V" } : Jvm.MethodName) jdk_30_method_1_code (1 : Nat) (Option.none : Option Jvm.ClassFile.FieldType)).before args0 about1 = true := code_word (m := ⟨9, 0⟩) (meth := k9m0) (c := k9c0) (by decide +kernel) rfl rfl rfl (by decide +kernel)
set_option maxRecDepth 65536 in
theorem w_c9 : (Jvm.Cond.code ({ cls := "java/util/Objects", name := "requireNonNull", desc := "(Ljava/lang/Object;Ljava/lang/String;)Ljava/lang/Object;" } : Jvm.MethodName) jdk_31_method_11_code (2 : Nat) (Option.some (Jvm.ClassFile.FieldType.object "java/lang/Object"))).before args0 about1 = true := code_word (m := ⟨11, 1⟩) (meth := k11m1) (c := k11c1) (by decide +kernel) rfl rfl rfl (by decide +kernel)
set_option maxRecDepth 65536 in
theorem w_c10 : (Jvm.Cond.code ({ cls := "java/lang/String", name := "isEmpty", desc := "()Z" } : Jvm.MethodName) jdk_42_method_55_code (1 : Nat) (Option.some Jvm.ClassFile.FieldType.boolean)).before args0 about1 = true := code_word (m := ⟨7, 4⟩) (meth := k7m4) (c := k7c4) (by decide +kernel) rfl rfl rfl (by decide +kernel)
set_option maxRecDepth 65536 in
theorem w_c11 : (Jvm.Cond.code ({ cls := "com/example/fuseline/fuseline/model/Account", name := "describe", desc := "()Ljava/lang/String;" } : Jvm.MethodName) prog_24_method_3_code (1 : Nat) (Option.some (Jvm.ClassFile.FieldType.object "java/lang/String"))).before args0 about1 = true := code_word (m := ⟨10, 2⟩) (meth := k10m2) (c := k10c2) (by decide +kernel) rfl rfl rfl (by decide +kernel)
set_option maxRecDepth 65536 in
theorem w_c12 : (Jvm.Cond.code ({ cls := "com/example/fuseline/fuseline/model/Account", name := "ownAccount", desc := "()Z" } : Jvm.MethodName) prog_24_method_2_code (1 : Nat) (Option.some Jvm.ClassFile.FieldType.boolean)).before args0 about1 = true := code_word (m := ⟨10, 1⟩) (meth := k10m1) (c := k10c1) (by decide +kernel) rfl rfl rfl (by decide +kernel)
set_option maxRecDepth 65536 in
theorem w_c13 : (Jvm.Cond.code ({ cls := "java/lang/StringBuilder", name := "<init>", desc := "()V" } : Jvm.MethodName) jdk_67_method_1_code (1 : Nat) (Option.none : Option Jvm.ClassFile.FieldType)).before args0 about1 = true := code_word (m := ⟨14, 0⟩) (meth := k14m0) (c := k14c0) (by decide +kernel) rfl rfl rfl (by decide +kernel)
set_option maxRecDepth 65536 in
theorem w_c14 : (Jvm.Cond.code ({ cls := "java/lang/AbstractStringBuilder", name := "<init>", desc := "(I)V" } : Jvm.MethodName) jdk_68_method_2_code (2 : Nat) (Option.none : Option Jvm.ClassFile.FieldType)).before args0 about1 = true := code_word (m := ⟨13, 1⟩) (meth := k13m1) (c := k13c1) (by decide +kernel) rfl rfl rfl (by decide +kernel)
set_option maxRecDepth 65536 in
theorem w_c15 : (Jvm.Cond.code ({ cls := "java/lang/StringBuilder", name := "append", desc := "(Ljava/lang/String;)Ljava/lang/StringBuilder;" } : Jvm.MethodName) jdk_67_method_7_code (2 : Nat) (Option.some (Jvm.ClassFile.FieldType.object "java/lang/StringBuilder"))).before args0 about1 = true := code_word (m := ⟨14, 1⟩) (meth := k14m1) (c := k14c1) (by decide +kernel) rfl rfl rfl (by decide +kernel)
set_option maxRecDepth 65536 in
theorem w_c16 : (Jvm.Cond.code ({ cls := "java/lang/AbstractStringBuilder", name := "append", desc := "(Ljava/lang/String;)Ljava/lang/AbstractStringBuilder;" } : Jvm.MethodName) jdk_68_method_22_code (3 : Nat) (Option.some (Jvm.ClassFile.FieldType.object "java/lang/AbstractStringBuilder"))).before args0 about1 = true := code_word (m := ⟨13, 5⟩) (meth := k13m5) (c := k13c5) (by decide +kernel) rfl rfl rfl (by decide +kernel)
set_option maxRecDepth 65536 in
theorem w_c17 : (Jvm.Cond.code ({ cls := "java/lang/String", name := "length", desc := "()I" } : Jvm.MethodName) jdk_42_method_54_code (1 : Nat) (Option.some Jvm.ClassFile.FieldType.int)).before args0 about1 = true := code_word (m := ⟨7, 3⟩) (meth := k7m3) (c := k7c3) (by decide +kernel) rfl rfl rfl (by decide +kernel)
set_option maxRecDepth 65536 in
theorem w_c18 : (Jvm.Cond.code ({ cls := "java/lang/String", name := "coder", desc := "()B" } : Jvm.MethodName) jdk_42_method_152_code (1 : Nat) (Option.some Jvm.ClassFile.FieldType.byte)).before args0 about1 = true := code_word (m := ⟨7, 9⟩) (meth := k7m9) (c := k7c9) (by decide +kernel) rfl rfl rfl (by decide +kernel)
set_option maxRecDepth 65536 in
theorem w_c19 : (Jvm.Cond.code ({ cls := "java/lang/AbstractStringBuilder", name := "ensureCapacityInternal", desc := "(I)V" } : Jvm.MethodName) jdk_68_method_9_code (3 : Nat) (Option.none : Option Jvm.ClassFile.FieldType)).before args0 about1 = true := code_word (m := ⟨13, 3⟩) (meth := k13m3) (c := k13c3) (by decide +kernel) rfl rfl rfl (by decide +kernel)
set_option maxRecDepth 65536 in
theorem w_c20 : (Jvm.Cond.code ({ cls := "java/lang/AbstractStringBuilder", name := "putStringAt", desc := "(ILjava/lang/String;)V" } : Jvm.MethodName) jdk_68_method_73_code (3 : Nat) (Option.none : Option Jvm.ClassFile.FieldType)).before args0 about1 = true := code_word (m := ⟨13, 9⟩) (meth := k13m9) (c := k13c9) (by decide +kernel) rfl rfl rfl (by decide +kernel)
set_option maxRecDepth 65536 in
theorem w_c21 : (Jvm.Cond.code ({ cls := "java/lang/AbstractStringBuilder", name := "inflateIfNeededFor", desc := "(Ljava/lang/String;)V" } : Jvm.MethodName) jdk_68_method_71_code (2 : Nat) (Option.none : Option Jvm.ClassFile.FieldType)).before args0 about1 = true := code_word (m := ⟨13, 8⟩) (meth := k13m8) (c := k13c8) (by decide +kernel) rfl rfl rfl (by decide +kernel)
set_option maxRecDepth 65536 in
theorem w_c22 : (Jvm.Cond.code ({ cls := "java/lang/String", name := "getBytes", desc := "([BIB)V" } : Jvm.MethodName) jdk_42_method_147_code (4 : Nat) (Option.none : Option Jvm.ClassFile.FieldType)).before args0 about1 = true := code_word (m := ⟨7, 6⟩) (meth := k7m6) (c := k7c6) (by decide +kernel) rfl rfl rfl (by decide +kernel)
set_option maxRecDepth 65536 in
theorem w_c23 : (Jvm.Cond.code ({ cls := "java/lang/AbstractStringBuilder", name := "newCapacity", desc := "(I)I" } : Jvm.MethodName) jdk_68_method_10_code (6 : Nat) (Option.some Jvm.ClassFile.FieldType.int)).before args0 about1 = true := code_word (m := ⟨13, 4⟩) (meth := k13m4) (c := k13c4) (by decide +kernel) rfl rfl rfl (by decide +kernel)
set_option maxRecDepth 65536 in
theorem w_c24 : (Jvm.Cond.code ({ cls := "jdk/internal/util/ArraysSupport", name := "newLength", desc := "(III)I" } : Jvm.MethodName) jdk_48_method_27_code (4 : Nat) (Option.some Jvm.ClassFile.FieldType.int)).before args0 about1 = true := code_word (m := ⟨16, 1⟩) (meth := k16m1) (c := k16c1) (by decide +kernel) rfl rfl rfl (by decide +kernel)
set_option maxRecDepth 65536 in
theorem w_c25 : (Jvm.Cond.code ({ cls := "java/lang/Math", name := "max", desc := "(II)I" } : Jvm.MethodName) jdk_29_method_65_code (2 : Nat) (Option.some Jvm.ClassFile.FieldType.int)).before args0 about1 = true := code_word (m := ⟨17, 1⟩) (meth := k17m1) (c := k17c1) (by decide +kernel) rfl rfl rfl (by decide +kernel)
set_option maxRecDepth 65536 in
theorem w_c26 : (Jvm.Cond.code ({ cls := "java/util/Arrays", name := "copyOf", desc := "([BI)[B" } : Jvm.MethodName) jdk_65_method_121_code (3 : Nat) (Option.some (Jvm.ClassFile.FieldType.array Jvm.ClassFile.FieldType.byte))).before args0 about1 = true := code_word (m := ⟨18, 1⟩) (meth := k18m1) (c := k18c1) (by decide +kernel) rfl rfl rfl (by decide +kernel)
set_option maxRecDepth 65536 in
theorem w_c27 : (Jvm.Cond.code ({ cls := "java/lang/Math", name := "min", desc := "(II)I" } : Jvm.MethodName) jdk_29_method_69_code (2 : Nat) (Option.some Jvm.ClassFile.FieldType.int)).before args0 about1 = true := code_word (m := ⟨17, 2⟩) (meth := k17m2) (c := k17c2) (by decide +kernel) rfl rfl rfl (by decide +kernel)
set_option maxRecDepth 65536 in
theorem w_c28 : (Jvm.Cond.code ({ cls := "java/lang/StringBuilder", name := "toString", desc := "()Ljava/lang/String;" } : Jvm.MethodName) jdk_67_method_42_code (1 : Nat) (Option.some (Jvm.ClassFile.FieldType.object "java/lang/String"))).before args0 about1 = true := code_word (m := ⟨14, 2⟩) (meth := k14m2) (c := k14c2) (by decide +kernel) rfl rfl rfl (by decide +kernel)
set_option maxRecDepth 65536 in
theorem w_c29 : (Jvm.Cond.code ({ cls := "java/lang/String", name := "<init>", desc := "(Ljava/lang/StringBuilder;)V" } : Jvm.MethodName) jdk_42_method_53_code (2 : Nat) (Option.none : Option Jvm.ClassFile.FieldType)).before args0 about1 = true := code_word (m := ⟨7, 2⟩) (meth := k7m2) (c := k7c2) (by decide +kernel) rfl rfl rfl (by decide +kernel)
set_option maxRecDepth 65536 in
theorem w_c30 : (Jvm.Cond.code ({ cls := "java/lang/String", name := "<init>", desc := "(Ljava/lang/AbstractStringBuilder;Ljava/lang/Void;)V" } : Jvm.MethodName) jdk_42_method_150_code (5 : Nat) (Option.none : Option Jvm.ClassFile.FieldType)).before args0 about1 = true := code_word (m := ⟨7, 8⟩) (meth := k7m8) (c := k7c8) (by decide +kernel) rfl rfl rfl (by decide +kernel)
set_option maxRecDepth 65536 in
theorem w_c31 : (Jvm.Cond.code ({ cls := "java/lang/AbstractStringBuilder", name := "getValue", desc := "()[B" } : Jvm.MethodName) jdk_68_method_64_code (1 : Nat) (Option.some (Jvm.ClassFile.FieldType.array Jvm.ClassFile.FieldType.byte))).before args0 about1 = true := code_word (m := ⟨13, 6⟩) (meth := k13m6) (c := k13c6) (by decide +kernel) rfl rfl rfl (by decide +kernel)
set_option maxRecDepth 65536 in
theorem w_c32 : (Jvm.Cond.code ({ cls := "java/lang/StringBuilder", name := "length", desc := "()I" } : Jvm.MethodName) jdk_67_method_93_code (1 : Nat) (Option.some Jvm.ClassFile.FieldType.int)).before args0 about1 = true := code_word (m := ⟨14, 3⟩) (meth := k14m3) (c := k14c3) (by decide +kernel) rfl rfl rfl (by decide +kernel)
set_option maxRecDepth 65536 in
theorem w_c33 : (Jvm.Cond.code ({ cls := "java/lang/AbstractStringBuilder", name := "length", desc := "()I" } : Jvm.MethodName) jdk_68_method_6_code (1 : Nat) (Option.some Jvm.ClassFile.FieldType.int)).before args0 about1 = true := code_word (m := ⟨13, 2⟩) (meth := k13m2) (c := k13c2) (by decide +kernel) rfl rfl rfl (by decide +kernel)
set_option maxRecDepth 65536 in
theorem w_c34 : (Jvm.Cond.code ({ cls := "java/lang/AbstractStringBuilder", name := "isLatin1", desc := "()Z" } : Jvm.MethodName) jdk_68_method_68_code (1 : Nat) (Option.some Jvm.ClassFile.FieldType.boolean)).before args0 about1 = true := code_word (m := ⟨13, 7⟩) (meth := k13m7) (c := k13c7) (by decide +kernel) rfl rfl rfl (by decide +kernel)
set_option maxRecDepth 65536 in
theorem w_c35 : (Jvm.Cond.code ({ cls := "java/util/Arrays", name := "copyOfRange", desc := "([BII)[B" } : Jvm.MethodName) jdk_65_method_132_code (3 : Nat) (Option.some (Jvm.ClassFile.FieldType.array Jvm.ClassFile.FieldType.byte))).before args0 about1 = true := code_word (m := ⟨18, 3⟩) (meth := k18m3) (c := k18c3) (by decide +kernel) rfl rfl rfl (by decide +kernel)
set_option maxRecDepth 65536 in
theorem w_c36 : (Jvm.Cond.code ({ cls := "java/util/Arrays", name := "copyOfRangeByte", desc := "([BII)[B" } : Jvm.MethodName) jdk_65_method_133_code (5 : Nat) (Option.some (Jvm.ClassFile.FieldType.array Jvm.ClassFile.FieldType.byte))).before args0 about1 = true := code_word (m := ⟨18, 4⟩) (meth := k18m4) (c := k18c4) (by decide +kernel) rfl rfl rfl (by decide +kernel)
set_option maxRecDepth 65536 in
theorem w_c37 : (Jvm.Cond.code ({ cls := "java/util/Arrays", name := "checkLength", desc := "(II)V" } : Jvm.MethodName) jdk_65_method_131_code (2 : Nat) (Option.none : Option Jvm.ClassFile.FieldType)).before args0 about1 = true := code_word (m := ⟨18, 2⟩) (meth := k18m2) (c := k18c2) (by decide +kernel) rfl rfl rfl (by decide +kernel)
set_option maxRecDepth 65536 in
theorem w_c38 : (Jvm.Cond.code ({ cls := "java/lang/String", name := "equals", desc := "(Ljava/lang/Object;)Z" } : Jvm.MethodName) jdk_42_method_66_code (3 : Nat) (Option.some Jvm.ClassFile.FieldType.boolean)).before args0 about1 = true := code_word (m := ⟨7, 5⟩) (meth := k7m5) (c := k7c5) (by decide +kernel) rfl rfl rfl (by decide +kernel)
set_option maxRecDepth 65536 in
theorem w_c39 : (Jvm.Cond.code ({ cls := "java/lang/StringLatin1", name := "equals", desc := "([B[B)Z" } : Jvm.MethodName) jdk_43_method_13_code (3 : Nat) (Option.some Jvm.ClassFile.FieldType.boolean)).before args0 about1 = true := code_word (m := ⟨19, 1⟩) (meth := k19m1) (c := k19c1) (by decide +kernel) rfl rfl rfl (by decide +kernel)
def codes1 : List Jvm.Cond := [Jvm.Cond.code x code maxLocals ret, Jvm.Cond.code ({ cls := "java/lang/String", name := "<init>", desc := "([C)V" } : Jvm.MethodName) jdk_42_method_3_code (2 : Nat) (Option.none : Option Jvm.ClassFile.FieldType), Jvm.Cond.code ({ cls := "java/lang/String", name := "<init>", desc := "([CIILjava/lang/Void;)V" } : Jvm.MethodName) jdk_42_method_149_code (6 : Nat) (Option.none : Option Jvm.ClassFile.FieldType), Jvm.Cond.code ({ cls := "java/lang/Object", name := "<init>", desc := "()V" } : Jvm.MethodName) object_method_1_code (1 : Nat) (Option.none : Option Jvm.ClassFile.FieldType), Jvm.Cond.code ({ cls := "java/lang/StringUTF16", name := "compress", desc := "([CII)[B" } : Jvm.MethodName) jdk_52_method_16_code (6 : Nat) (Option.some (Jvm.ClassFile.FieldType.array Jvm.ClassFile.FieldType.byte)), Jvm.Cond.code ({ cls := "java/lang/StringUTF16", name := "compress", desc := "([CI[BII)I" } : Jvm.MethodName) jdk_52_method_21_code (7 : Nat) (Option.some Jvm.ClassFile.FieldType.int), Jvm.Cond.code ({ cls := "java/lang/StringUTF16", name := "coderFromArrayLen", desc := "([BI)B" } : Jvm.MethodName) jdk_52_method_15_code (2 : Nat) (Option.some Jvm.ClassFile.FieldType.byte), Jvm.Cond.code ({ cls := "com/example/fuseline/fuseline/model/Account", name := "<init>", desc := "(Ljava/lang/String;Ljava/lang/String;)V" } : Jvm.MethodName) prog_24_method_1_code (3 : Nat) (Option.none : Option Jvm.ClassFile.FieldType), Jvm.Cond.code ({ cls := "java/lang/Record", name := "<init>", desc := "()V" } : Jvm.MethodName) jdk_30_method_1_code (1 : Nat) (Option.none : Option Jvm.ClassFile.FieldType), Jvm.Cond.code ({ cls := "java/util/Objects", name := "requireNonNull", desc := "(Ljava/lang/Object;Ljava/lang/String;)Ljava/lang/Object;" } : Jvm.MethodName) jdk_31_method_11_code (2 : Nat) (Option.some (Jvm.ClassFile.FieldType.object "java/lang/Object")), Jvm.Cond.code ({ cls := "java/lang/String", name := "isEmpty", desc := "()Z" } : Jvm.MethodName) jdk_42_method_55_code (1 : Nat) (Option.some Jvm.ClassFile.FieldType.boolean), Jvm.Cond.code ({ cls := "com/example/fuseline/fuseline/model/Account", name := "describe", desc := "()Ljava/lang/String;" } : Jvm.MethodName) prog_24_method_3_code (1 : Nat) (Option.some (Jvm.ClassFile.FieldType.object "java/lang/String")), Jvm.Cond.code ({ cls := "com/example/fuseline/fuseline/model/Account", name := "ownAccount", desc := "()Z" } : Jvm.MethodName) prog_24_method_2_code (1 : Nat) (Option.some Jvm.ClassFile.FieldType.boolean), Jvm.Cond.code ({ cls := "java/lang/StringBuilder", name := "<init>", desc := "()V" } : Jvm.MethodName) jdk_67_method_1_code (1 : Nat) (Option.none : Option Jvm.ClassFile.FieldType), Jvm.Cond.code ({ cls := "java/lang/AbstractStringBuilder", name := "<init>", desc := "(I)V" } : Jvm.MethodName) jdk_68_method_2_code (2 : Nat) (Option.none : Option Jvm.ClassFile.FieldType), Jvm.Cond.code ({ cls := "java/lang/StringBuilder", name := "append", desc := "(Ljava/lang/String;)Ljava/lang/StringBuilder;" } : Jvm.MethodName) jdk_67_method_7_code (2 : Nat) (Option.some (Jvm.ClassFile.FieldType.object "java/lang/StringBuilder")), Jvm.Cond.code ({ cls := "java/lang/AbstractStringBuilder", name := "append", desc := "(Ljava/lang/String;)Ljava/lang/AbstractStringBuilder;" } : Jvm.MethodName) jdk_68_method_22_code (3 : Nat) (Option.some (Jvm.ClassFile.FieldType.object "java/lang/AbstractStringBuilder")), Jvm.Cond.code ({ cls := "java/lang/String", name := "length", desc := "()I" } : Jvm.MethodName) jdk_42_method_54_code (1 : Nat) (Option.some Jvm.ClassFile.FieldType.int), Jvm.Cond.code ({ cls := "java/lang/String", name := "coder", desc := "()B" } : Jvm.MethodName) jdk_42_method_152_code (1 : Nat) (Option.some Jvm.ClassFile.FieldType.byte), Jvm.Cond.code ({ cls := "java/lang/AbstractStringBuilder", name := "ensureCapacityInternal", desc := "(I)V" } : Jvm.MethodName) jdk_68_method_9_code (3 : Nat) (Option.none : Option Jvm.ClassFile.FieldType), Jvm.Cond.code ({ cls := "java/lang/AbstractStringBuilder", name := "putStringAt", desc := "(ILjava/lang/String;)V" } : Jvm.MethodName) jdk_68_method_73_code (3 : Nat) (Option.none : Option Jvm.ClassFile.FieldType), Jvm.Cond.code ({ cls := "java/lang/AbstractStringBuilder", name := "inflateIfNeededFor", desc := "(Ljava/lang/String;)V" } : Jvm.MethodName) jdk_68_method_71_code (2 : Nat) (Option.none : Option Jvm.ClassFile.FieldType), Jvm.Cond.code ({ cls := "java/lang/String", name := "getBytes", desc := "([BIB)V" } : Jvm.MethodName) jdk_42_method_147_code (4 : Nat) (Option.none : Option Jvm.ClassFile.FieldType), Jvm.Cond.code ({ cls := "java/lang/AbstractStringBuilder", name := "newCapacity", desc := "(I)I" } : Jvm.MethodName) jdk_68_method_10_code (6 : Nat) (Option.some Jvm.ClassFile.FieldType.int), Jvm.Cond.code ({ cls := "jdk/internal/util/ArraysSupport", name := "newLength", desc := "(III)I" } : Jvm.MethodName) jdk_48_method_27_code (4 : Nat) (Option.some Jvm.ClassFile.FieldType.int), Jvm.Cond.code ({ cls := "java/lang/Math", name := "max", desc := "(II)I" } : Jvm.MethodName) jdk_29_method_65_code (2 : Nat) (Option.some Jvm.ClassFile.FieldType.int), Jvm.Cond.code ({ cls := "java/util/Arrays", name := "copyOf", desc := "([BI)[B" } : Jvm.MethodName) jdk_65_method_121_code (3 : Nat) (Option.some (Jvm.ClassFile.FieldType.array Jvm.ClassFile.FieldType.byte)), Jvm.Cond.code ({ cls := "java/lang/Math", name := "min", desc := "(II)I" } : Jvm.MethodName) jdk_29_method_69_code (2 : Nat) (Option.some Jvm.ClassFile.FieldType.int), Jvm.Cond.code ({ cls := "java/lang/StringBuilder", name := "toString", desc := "()Ljava/lang/String;" } : Jvm.MethodName) jdk_67_method_42_code (1 : Nat) (Option.some (Jvm.ClassFile.FieldType.object "java/lang/String")), Jvm.Cond.code ({ cls := "java/lang/String", name := "<init>", desc := "(Ljava/lang/StringBuilder;)V" } : Jvm.MethodName) jdk_42_method_53_code (2 : Nat) (Option.none : Option Jvm.ClassFile.FieldType), Jvm.Cond.code ({ cls := "java/lang/String", name := "<init>", desc := "(Ljava/lang/AbstractStringBuilder;Ljava/lang/Void;)V" } : Jvm.MethodName) jdk_42_method_150_code (5 : Nat) (Option.none : Option Jvm.ClassFile.FieldType), Jvm.Cond.code ({ cls := "java/lang/AbstractStringBuilder", name := "getValue", desc := "()[B" } : Jvm.MethodName) jdk_68_method_64_code (1 : Nat) (Option.some (Jvm.ClassFile.FieldType.array Jvm.ClassFile.FieldType.byte)), Jvm.Cond.code ({ cls := "java/lang/StringBuilder", name := "length", desc := "()I" } : Jvm.MethodName) jdk_67_method_93_code (1 : Nat) (Option.some Jvm.ClassFile.FieldType.int), Jvm.Cond.code ({ cls := "java/lang/AbstractStringBuilder", name := "length", desc := "()I" } : Jvm.MethodName) jdk_68_method_6_code (1 : Nat) (Option.some Jvm.ClassFile.FieldType.int), Jvm.Cond.code ({ cls := "java/lang/AbstractStringBuilder", name := "isLatin1", desc := "()Z" } : Jvm.MethodName) jdk_68_method_68_code (1 : Nat) (Option.some Jvm.ClassFile.FieldType.boolean), Jvm.Cond.code ({ cls := "java/util/Arrays", name := "copyOfRange", desc := "([BII)[B" } : Jvm.MethodName) jdk_65_method_132_code (3 : Nat) (Option.some (Jvm.ClassFile.FieldType.array Jvm.ClassFile.FieldType.byte)), Jvm.Cond.code ({ cls := "java/util/Arrays", name := "copyOfRangeByte", desc := "([BII)[B" } : Jvm.MethodName) jdk_65_method_133_code (5 : Nat) (Option.some (Jvm.ClassFile.FieldType.array Jvm.ClassFile.FieldType.byte)), Jvm.Cond.code ({ cls := "java/util/Arrays", name := "checkLength", desc := "(II)V" } : Jvm.MethodName) jdk_65_method_131_code (2 : Nat) (Option.none : Option Jvm.ClassFile.FieldType), Jvm.Cond.code ({ cls := "java/lang/String", name := "equals", desc := "(Ljava/lang/Object;)Z" } : Jvm.MethodName) jdk_42_method_66_code (3 : Nat) (Option.some Jvm.ClassFile.FieldType.boolean), Jvm.Cond.code ({ cls := "java/lang/StringLatin1", name := "equals", desc := "([B[B)Z" } : Jvm.MethodName) jdk_43_method_13_code (3 : Nat) (Option.some Jvm.ClassFile.FieldType.boolean)]
set_option maxRecDepth 65536 in
theorem codes_eq : words1.filter isCode = codes1 := rfl
theorem w_codes : ∀ c ∈ words1.filter isCode, c.before args0 about1 = true := by
  rw [codes_eq]
  intro c hc
  simp only [codes1, List.mem_cons, List.not_mem_nil, or_false] at hc
  rcases hc with rfl | rfl | rfl | rfl | rfl | rfl | rfl | rfl | rfl | rfl | rfl | rfl | rfl | rfl | rfl | rfl | rfl | rfl | rfl | rfl | rfl | rfl | rfl | rfl | rfl | rfl | rfl | rfl | rfl | rfl | rfl | rfl | rfl | rfl | rfl | rfl | rfl | rfl | rfl | rfl
  · exact w_c0
  · exact w_c1
  · exact w_c2
  · exact w_c3
  · exact w_c4
  · exact w_c5
  · exact w_c6
  · exact w_c7
  · exact w_c8
  · exact w_c9
  · exact w_c10
  · exact w_c11
  · exact w_c12
  · exact w_c13
  · exact w_c14
  · exact w_c15
  · exact w_c16
  · exact w_c17
  · exact w_c18
  · exact w_c19
  · exact w_c20
  · exact w_c21
  · exact w_c22
  · exact w_c23
  · exact w_c24
  · exact w_c25
  · exact w_c26
  · exact w_c27
  · exact w_c28
  · exact w_c29
  · exact w_c30
  · exact w_c31
  · exact w_c32
  · exact w_c33
  · exact w_c34
  · exact w_c35
  · exact w_c36
  · exact w_c37
  · exact w_c38
  · exact w_c39
set_option maxRecDepth 65536 in
theorem w_t1 : (words1.take 24).all (fun c => isCode c || c.before args0 about1) = true := by decide +kernel
set_option maxRecDepth 65536 in
theorem w_t2 : ((words1.drop 24).take 24).all (fun c => isCode c || c.before args0 about1) = true := by decide +kernel
set_option maxRecDepth 65536 in
theorem w_t3 : (((words1.drop 24).drop 24).take 24).all (fun c => isCode c || c.before args0 about1) = true := by decide +kernel
set_option maxRecDepth 65536 in
theorem w_t4 : ((((words1.drop 24).drop 24).drop 24).take 24).all (fun c => isCode c || c.before args0 about1) = true := by decide +kernel
set_option maxRecDepth 65536 in
theorem w_t5 : (((((words1.drop 24).drop 24).drop 24).drop 24).take 24).all (fun c => isCode c || c.before args0 about1) = true := by decide +kernel
set_option maxRecDepth 65536 in
theorem w_t6 : ((((((words1.drop 24).drop 24).drop 24).drop 24).drop 24).take 24).all (fun c => isCode c || c.before args0 about1) = true := by decide +kernel
set_option maxRecDepth 65536 in
theorem w_t7 : (((((((words1.drop 24).drop 24).drop 24).drop 24).drop 24).drop 24).take 24).all (fun c => isCode c || c.before args0 about1) = true := by decide +kernel
set_option maxRecDepth 65536 in
theorem w_t8 : ((((((((words1.drop 24).drop 24).drop 24).drop 24).drop 24).drop 24).drop 24).take 24).all (fun c => isCode c || c.before args0 about1) = true := by decide +kernel
set_option maxRecDepth 65536 in
theorem w_t9 : ((((((((words1.drop 24).drop 24).drop 24).drop 24).drop 24).drop 24).drop 24).drop 24).all (fun c => isCode c || c.before args0 about1) = true := by decide +kernel
theorem w_tables : (allAtoms (Jvm.Cond.code x code maxLocals ret :: tables_1)).before args0 about1 = true := by
  rw [allAtoms_all]
  show words1.all (fun c => c.before args0 about1) = true
  refine all_split ?_ w_codes
  rw [← List.take_append_drop 24 words1, List.all_append, w_t1, ← List.take_append_drop 24 (words1.drop 24), List.all_append, w_t2, ← List.take_append_drop 24 ((words1.drop 24).drop 24), List.all_append, w_t3, ← List.take_append_drop 24 (((words1.drop 24).drop 24).drop 24), List.all_append, w_t4, ← List.take_append_drop 24 ((((words1.drop 24).drop 24).drop 24).drop 24), List.all_append, w_t5, ← List.take_append_drop 24 (((((words1.drop 24).drop 24).drop 24).drop 24).drop 24), List.all_append, w_t6, ← List.take_append_drop 24 ((((((words1.drop 24).drop 24).drop 24).drop 24).drop 24).drop 24), List.all_append, w_t7, ← List.take_append_drop 24 (((((((words1.drop 24).drop 24).drop 24).drop 24).drop 24).drop 24).drop 24), List.all_append, w_t8, w_t9]
  rfl
set_option maxRecDepth 65536 in
theorem w_rest : rest_1_c.before args0 about1 = true := by decide +kernel
set_option maxRecDepth 65536 in
theorem w_case : (Jvm.Cond.and given_1 narrow_1).before args0 about1 = true := by decide +kernel
set_option maxRecDepth 65536 in
theorem w_consts : constsHeld consts_1 about1 := Jvm.Lit.constsHeldB_iff.mp (by decide +kernel)
theorem w_applies : (headSpec (Jvm.Cond.code x code maxLocals ret :: tables_1) room_1).applies x e0.platform about1 = true :=
  (Spec.applies_iff w_frames).mpr ⟨w_running, w_runnable, w_alone, w_named, w_hears, w_ripe, w_room, w_tables⟩
theorem atStart : AtStart classFile x code maxLocals ret World_1 tables_1 room_1 Calls_1 rest_1 Pre_1 launch0 p0 e0 about1 theMethod args0 below0 :=
  ⟨lists_1, trivial, launch0.admits_env _ _ _, launch0.least_env, fairChoices_fair.cas, fairChoices_fair.clock, w_frames, w_args, w_heap, w_applies, ⟨w_consts, trivial⟩, w_rest, w_case⟩
end start1
theorem witness_1 : WitnessClaimed_1 := ⟨start1.p0, start1.e0, start1.about1, start1.theMethod, start1.args0, start1.below0, start1.atStart⟩
end Jvm.Pilot.@@N@@
