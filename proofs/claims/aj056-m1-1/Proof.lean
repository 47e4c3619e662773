import JvmDerived
import JvmDerived.Pilot.@@N@@Statement
import JvmDerived.Pilot.@@N@@Code
set_option linter.unusedVariables false
set_option linter.unusedSimpArgs false
namespace Jvm.Pilot.@@N@@
open Jvm Jvm.ClassFile Sem Op Lib Jvm.Free Jvm.Stand Jvm.LawKit Jvm.RoadKit Bundle Jvm.Pilot.@@N@@.Jvm.D
section Kit
variable {p : Program} {l : Launch} {e : Env} {R : Room} {s : State} {m : MethodId} {args : Array Value} {below : List Frame} {meth : Method} {c : Code} {T : State} {locs : List Loc} {cells slots : Nat} {Z : State} {a0 : Array Value} {h : Heap} {own nm : String} {bytes : ByteArray} {maxL : Nat} {rt : Option FieldType} {Q : Option Value → Heap → Prop} {ce sl : Nat} {En : Option Value → State → Prop} {pc : Nat} {Ls : Array Slot} {st : List Value}
/-- where a walk stands: the state T, its heap h; all that lay in the heap at the start Z is there unchanged, and all that was written is new -/
def Cx (p : Program) (l : Launch) (e : Env) (R : Room) (s : State) (m : MethodId) (args : Array Value) (below : List Frame) (meth : Method) (c : Code) (Z : State) (own nm : String) (bytes : ByteArray) (maxL : Nat) (rt : Option FieldType) (T : State) (locs : List Loc) (cells slots : Nat) (h : Heap) : Prop :=
  Stand p l e R s m args below meth c T locs cells slots ∧ p.tables.exec = Jvm.exec ∧ Z.Warmed39 s.vm ∧ s.vm.findClass own = some m.cls ∧ c.code = bytes ∧ c.maxLocals = maxL ∧ meth.sig.returnType = rt ∧ meth.name = nm ∧ meth.locks = false ∧ T.heap = h ∧ Fr Z.heap.size locs ∧ Ext Z.heap h
/-- from this frame the body comes to its end, and En holds of what it returns and of the state there -/
def Go (p : Program) (e : Env) (below : List Frame) (En : Option Value → State → Prop) (T : State) (m : MethodId) (pc : Nat) (Ls : Array Slot) (st : List Value) : Prop :=
  ∃ s₂ v, Steps p.tables e below (T.setTop (mkF m pc Ls st)) s₂ ∧ s₂.status = .running ∧ Ended s₂ below (.returned v) ∧ En v s₂
/-- a return of v from here: where it leads, and that En holds there -/
def Lv (e : Env) (below : List Frame) (En : Option Value → State → Prop) (T : State) (m : MethodId) (v : Option Value) : Prop :=
  ∃ fs, (∀ (f : JFrame) (acts : List Action), f.method = m → f.locked = none → f.entered = [] → (doReturn e (T.setTop f) acts v).1 = T.setFrames fs) ∧ (T.setFrames fs).status = .running ∧ Ended (T.setFrames fs) below (.returned v) ∧ En v (T.setFrames fs)
/-- the end of a body that interns nothing -/
def FinN (s Z : State) (Q : Option Value → Heap → Prop) (ce sl : Nat) : Option Value → State → Prop := fun v t => ∃ L, (Fr Z.heap.size L ∧ Ext Z.heap t.heap ∧ Q v t.heap) ∧ FrameEnd s (.returned v) t L ce sl
/-- the contract of a method called with the arguments as' over the heap h -/
def Ct (l : Launch) (Z : State) (ws : List Jvm.Cond) (y : MethodName) (bytes : ByteArray) (maxL : Nat) (rt : Option FieldType) (rm : Room) (as' : Array Value) (h : Heap) (Q : Option Value → Heap → Prop) : Prop :=
  Ext Z.heap h → MetFree l y (head1 (Jvm.Cond.code y bytes maxL rt :: ws) rm) (fun a U => a = as' ∧ Z.Warmed39 U.vm ∧ U.heap = h) (fun _ _ _ _ _ => True) (fun _ U o U' => ∃ v L, o = .returned v ∧ (Fr Z.heap.size L ∧ Ext Z.heap U'.heap ∧ Q v U'.heap) ∧ FrameEnd U o U' L rm.cells rm.slots)
/-- it returns v and leaves the heap as it was -/
def Pu (h : Heap) (v : Value) : Option Value → Heap → Prop := fun w h' => w = some v ∧ h' = h
theorem Ext.rf (h : Heap) : Ext h h := ⟨Nat.le_refl _, fun _ _ q => q⟩
theorem Ext.tr {h1 h2 h3 : Heap} (E : Ext h1 h2) (F : Ext h2 h3) : Ext h1 h3 := ⟨Nat.le_trans E.1 F.1, fun a c q => F.2 a c (E.2 a c q)⟩
theorem Ext.kp {h1 h2 h3 : Heap} {ws : List Addr} (E : Ext h1 h2) (K : Keep h2 h3 ws) (q : ∀ x ∈ ws, h1.size ≤ x) : Ext h1 h3 := ⟨Nat.le_trans E.1 K.1, fun a c r => K.2.1 a c (E.2 a c r) fun z => absurd (Array.getElem?_eq_some_iff.mp r).1 (Nat.not_lt.mpr (q a z))⟩
theorem Ext.wr {h1 h2 h3 : Heap} {a : Addr} {k : Nat} {v : Value} (E : Ext h1 h2) (W : Wr h2 h3 a k v) (q : h1.size ≤ a) : Ext h1 h3 := Ext.kp E (Keep.of_wr W) (allS q all0)
theorem Ext.keep {h1 h2 : Heap} (E : Ext h1 h2) (ws : List Addr) : Keep h1 h2 ws := (Keep.refl _ _).ext E
theorem Cx.sd (X : Cx p l e R s m args below meth c Z own nm bytes maxL rt T locs cells slots h) : Stand p l e R s m args below meth c T locs cells slots := X.1
theorem Cx.here (X : Cx p l e R s m args below meth c Z own nm bytes maxL rt T locs cells slots h) : At T m c below := X.1.here
theorem Cx.hx (X : Cx p l e R s m args below meth c Z own nm bytes maxL rt T locs cells slots h) : p.tables.exec = Jvm.exec := X.2.1
theorem Cx.hZ (X : Cx p l e R s m args below meth c Z own nm bytes maxL rt T locs cells slots h) : Z.Warmed39 s.vm := X.2.2.1
theorem Cx.hown (X : Cx p l e R s m args below meth c Z own nm bytes maxL rt T locs cells slots h) : s.vm.findClass own = some m.cls := X.2.2.2.1
theorem Cx.hby (X : Cx p l e R s m args below meth c Z own nm bytes maxL rt T locs cells slots h) : c.code = bytes := X.2.2.2.2.1
theorem Cx.hml (X : Cx p l e R s m args below meth c Z own nm bytes maxL rt T locs cells slots h) : c.maxLocals = maxL := X.2.2.2.2.2.1
theorem Cx.hrt (X : Cx p l e R s m args below meth c Z own nm bytes maxL rt T locs cells slots h) : meth.sig.returnType = rt := X.2.2.2.2.2.2.1
theorem Cx.hnm (X : Cx p l e R s m args below meth c Z own nm bytes maxL rt T locs cells slots h) : meth.name = nm := X.2.2.2.2.2.2.2.1
theorem Cx.hlk (X : Cx p l e R s m args below meth c Z own nm bytes maxL rt T locs cells slots h) : meth.locks = false := X.2.2.2.2.2.2.2.2.1
theorem Cx.eq (X : Cx p l e R s m args below meth c Z own nm bytes maxL rt T locs cells slots h) : T.heap = h := X.2.2.2.2.2.2.2.2.2.1
theorem Cx.fr (X : Cx p l e R s m args below meth c Z own nm bytes maxL rt T locs cells slots h) : Fr Z.heap.size locs := X.2.2.2.2.2.2.2.2.2.2.1
theorem Cx.old (X : Cx p l e R s m args below meth c Z own nm bytes maxL rt T locs cells slots h) : Ext Z.heap h := X.2.2.2.2.2.2.2.2.2.2.2
theorem Cx.le (X : Cx p l e R s m args below meth c Z own nm bytes maxL rt T locs cells slots h) : Z.heap.size ≤ h.size := X.old.1
theorem Cx.mk' {T' : State} {locs' : List Loc} {cells' slots' : Nat} {h' : Heap} (X : Cx p l e R s m args below meth c Z own nm bytes maxL rt T locs cells slots h) (Y : Stand p l e R s m args below meth c T' locs' cells' slots') (q : T'.heap = h') (f : Fr Z.heap.size locs') (o : Ext Z.heap h') : Cx p l e R s m args below meth c Z own nm bytes maxL rt T' locs' cells' slots' h' := ⟨Y, X.hx, X.hZ, X.hown, X.hby, X.hml, X.hrt, X.hnm, X.hlk, q, f, o⟩
theorem Go.step {T' : State} {pc' : Nat} {Ls' : Array Slot} {st' : List Value} (f : ∀ t, Steps p.tables e below (T'.setTop (mkF m pc' Ls' st')) t → Steps p.tables e below (T.setTop (mkF m pc Ls st)) t) (k : Go p e below En T' m pc' Ls' st') : Go p e below En T m pc Ls st := by
  obtain ⟨s₂, v, k1, k2⟩ := k
  exact ⟨s₂, v, f _ k1, k2⟩
theorem Ct.ofF {y : MethodName} {ws : List Jvm.Cond} {rm : Room} {as' : Array Value} {Ls0 : Array Slot} (pn : plainFor y = true) (ef : ∀ m, entryFrame m as' maxL = mkF m 0 Ls0 [])
    (body : ∀ p e s m below meth c s₁, Cx p l e rm s m as' below meth c Z y.cls y.name bytes maxL rt s₁ [] 0 0 h → Go p e below (FinN s Z Q rm.cells rm.slots) s₁ m 0 Ls0 []) : Ct l Z ws y bytes maxL rt rm as' h Q := by
  intro hE
  refine MetFree.of_bodySF pn hisR ?_
  intro p e s m args below meth c s₁ Bd hml0 hP hK
  obtain ⟨rfl, hZ, hh⟩ := hP
  have hown : s.vm.findClass y.cls = some m.cls := findClass_of_methodNamed Bd.named
  have hnm := (name_of_methodNamed Bd.named Bd.method).1
  have X0 : Stand p l e rm s m args below meth c s₁ [] 0 0 := Stand.of_body Bd
  have e0 : s₁.heap = h := by rw [← hh, Bd.state]; rfl
  obtain ⟨s₂, v, k1, k2, k3, L, k5, k6⟩ := body p e s m below meth c s₁ ⟨X0, Bd.exec, hZ, hown, Bd.bytes, hml0, Bd.returns, hnm, Bd.notSynchronized, e0, Fr.nil _, hE⟩
  exact ⟨s₂, _, castTop (ef m) k1, k2, k3, v, L, rfl, k5, k6⟩
theorem Ct.of {y : MethodName} {ws : List Jvm.Cond} {rm : Room} {as' : Array Value} {Ls0 : Array Slot} (pn : plainName y.cls = true) (ef : ∀ m, entryFrame m as' maxL = mkF m 0 Ls0 [])
    (body : ∀ p e s m below meth c s₁, Cx p l e rm s m as' below meth c Z y.cls y.name bytes maxL rt s₁ [] 0 0 h → Go p e below (FinN s Z Q rm.cells rm.slots) s₁ m 0 Ls0 []) : Ct l Z ws y bytes maxL rt rm as' h Q := Ct.ofF (plainFor_of_name pn) ef body
theorem Cx.fin (X : Cx p l e R s m args below meth c Z own nm bytes maxL rt T locs cells slots h) {v : Option Value} (hQ : Q v h) (hc : cells ≤ ce) (hs : slots ≤ sl) (hv : rt = none → v = none := by (intro q; first | rfl | (cases q; done))) : Lv e below (FinN s Z Q ce sl) T m v := by
  have hlk := X.hlk
  obtain ⟨fs, hr, hrun, hended, hW, hsame⟩ := X.sd.leave (v := v) (fun q => hv (X.hrt ▸ q)) hlk
  have q : (T.setFrames fs).heap = h := X.eq
  exact ⟨fs, hr, hrun, hended, locs, ⟨X.fr, by rw [q]; exact X.old, by rw [q]; exact hQ⟩, ⟨_, rfl⟩, hW, hsame.mono hc hs⟩
theorem Go.ret0 (X : Cx p l e R s m args below meth c Z own nm bytes maxL rt T locs cells slots h) {v : Option Value}
    (f : ∀ fs, (∀ (f : JFrame) (acts : List Action), f.method = m → f.locked = none → f.entered = [] → (doReturn e (T.setTop f) acts v).1 = T.setFrames fs) → Steps p.tables e below (T.setTop (mkF m pc Ls st)) (T.setFrames fs)) (hF : Lv e below En T m v) : Go p e below En T m pc Ls st := by
  obtain ⟨fs, hr, hrun, hended, hq⟩ := hF
  exact ⟨_, _, f fs hr, hrun, hended, hq⟩
theorem Go.ret (X : Cx p l e R s m args below meth c Z own nm bytes maxL rt T locs cells slots h) {t : FieldType} {i : Instr} {w : Value} {rest : List Value} (hret : rt = some t) (hn : narrow t w = w)
    (hi : (i = .ireturn ∧ (t = .int ∨ t = .boolean ∨ t = .byte ∨ t = .char ∨ t = .short) ∧ ∃ z, w = .int z) ∨ (i = .lreturn ∧ t = .long ∧ ∃ z, w = .long z) ∨ (i = .dreturn ∧ t = .double ∧ ∃ z, w = .double z) ∨ (i = .freturn ∧ t = .float ∧ ∃ z, w = .float z) ∨ (i = .areturn ∧ t.isReference = true ∧ w.isRef = true))
    (hd : decode bytes pc = .ok (i, 1)) (hF : Lv e below En T m (some w)) : Go p e below En T m pc Ls (w :: rest) :=
  Go.ret0 X (fun fs hr => retOut X.sd X.hx (X.hrt.trans hret) hn hi (hb X.hby hd) hr) hF
theorem Go.retI (X : Cx p l e R s m args below meth c Z own nm bytes maxL rt T locs cells slots h) {t : FieldType} {z : Int32} {rest : List Value} (hret : rt = some t) (ht : t = .int ∨ t = .boolean ∨ t = .byte ∨ t = .char ∨ t = .short) (hn : narrow t (.int z) = .int z) (hd : decode bytes pc = .ok (.ireturn, 1)) (hF : Lv e below En T m (some (.int z))) : Go p e below En T m pc Ls (.int z :: rest) :=
  Go.ret X hret hn (Or.inl ⟨rfl, ht, z, rfl⟩) hd hF
theorem Go.retJ (X : Cx p l e R s m args below meth c Z own nm bytes maxL rt T locs cells slots h) {z : Int64} {rest : List Value} (hret : rt = some .long) (hd : decode bytes pc = .ok (.lreturn, 1)) (hF : Lv e below En T m (some (.long z))) : Go p e below En T m pc Ls (.long z :: rest) :=
  Go.ret X hret rfl (Or.inr (Or.inl ⟨rfl, rfl, z, rfl⟩)) hd hF
theorem Go.retA (X : Cx p l e R s m args below meth c Z own nm bytes maxL rt T locs cells slots h) {t : FieldType} {w : Value} {rest : List Value} (hret : rt = some t) (ht : t.isReference = true) (hw : w.isRef = true) (hd : decode bytes pc = .ok (.areturn, 1)) (hF : Lv e below En T m (some w)) : Go p e below En T m pc Ls (w :: rest) :=
  Go.ret X hret (by cases t <;> first | rfl | (cases ht; done)) (Or.inr (Or.inr (Or.inr (Or.inr ⟨rfl, ht, hw⟩)))) hd hF
theorem Go.retV (X : Cx p l e R s m args below meth c Z own nm bytes maxL rt T locs cells slots h) (hret : rt = none) (hd : decode bytes pc = .ok (.return_, 1)) (hF : Lv e below En T m none) : Go p e below En T m pc Ls [] :=
  Go.ret0 X (fun fs hr => X.sd.returnOut X.hx (X.hrt.trans hret) (hb X.hby hd) hr) hF
theorem Go.aloadN (X : Cx p l e R s m args below meth c Z own nm bytes maxL rt T locs cells slots h) (pc' : Nat) {i : Fin 4} {v : Value} (hd : decode bytes pc = .ok (.aload_n i, 1)) (hl : Ls[i.val]? = some (.val v)) (hv : v.isRef = true) (k : Go p e below En T m pc' Ls (v :: st)) (hp : pc + 1 = pc' := by rfl) : Go p e below En T m pc Ls st := by
  subst hp
  exact Go.step (fun _ hr => XS.aloadN X.here X.hx rfl (hb X.hby hd) hl hv hr) k
theorem Go.aload (X : Cx p l e R s m args below meth c Z own nm bytes maxL rt T locs cells slots h) (pc' : Nat) {i : Nat} {v : Value} (hd : decode bytes pc = .ok (.aload i, 2)) (hl : Ls[i]? = some (.val v)) (hv : v.isRef = true) (k : Go p e below En T m pc' Ls (v :: st)) (hp : pc + 2 = pc' := by rfl) : Go p e below En T m pc Ls st := by
  subst hp
  exact Go.step (fun _ hr => XS.aload X.here X.hx rfl (hb X.hby hd) hl hv hr) k
theorem Go.iloadN (X : Cx p l e R s m args below meth c Z own nm bytes maxL rt T locs cells slots h) (pc' : Nat) {i : Fin 4} {v : Int32} (hd : decode bytes pc = .ok (.iload_n i, 1)) (hl : Ls[i.val]? = some (.val (.int v))) (k : Go p e below En T m pc' Ls (.int v :: st)) (hp : pc + 1 = pc' := by rfl) : Go p e below En T m pc Ls st := by
  subst hp
  exact Go.step (fun _ hr => XS.iloadN X.here X.hx rfl (hb X.hby hd) hl hr) k
theorem Go.iload (X : Cx p l e R s m args below meth c Z own nm bytes maxL rt T locs cells slots h) (pc' : Nat) {i : Nat} {v : Int32} (hd : decode bytes pc = .ok (.iload i, 2)) (hl : Ls[i]? = some (.val (.int v))) (k : Go p e below En T m pc' Ls (.int v :: st)) (hp : pc + 2 = pc' := by rfl) : Go p e below En T m pc Ls st := by
  subst hp
  exact Go.step (fun _ hr => XS.iload X.here X.hx rfl (hb X.hby hd) hl hr) k
theorem Go.lloadN (X : Cx p l e R s m args below meth c Z own nm bytes maxL rt T locs cells slots h) (pc' : Nat) {i : Fin 4} {v : Int64} (hd : decode bytes pc = .ok (.lload_n i, 1)) (hl : Ls[i.val]? = some (.val (.long v))) (k : Go p e below En T m pc' Ls (.long v :: st)) (hp : pc + 1 = pc' := by rfl) : Go p e below En T m pc Ls st := by
  subst hp
  exact Go.step (fun _ hr => XT.lloadN X.here X.hx rfl (hb X.hby hd) hl hr) k
theorem Go.lload (X : Cx p l e R s m args below meth c Z own nm bytes maxL rt T locs cells slots h) (pc' : Nat) {i : Nat} {v : Int64} (hd : decode bytes pc = .ok (.lload i, 2)) (hl : Ls[i]? = some (.val (.long v))) (k : Go p e below En T m pc' Ls (.long v :: st)) (hp : pc + 2 = pc' := by rfl) : Go p e below En T m pc Ls st := by
  subst hp
  exact Go.step (fun _ hr => XT.lload X.here X.hx rfl (hb X.hby hd) hl hr) k
theorem Go.iconst (X : Cx p l e R s m args below meth c Z own nm bytes maxL rt T locs cells slots h) (pc' : Nat) {i : Int} (z : Int32) (hd : decode bytes pc = .ok (.iconst i, 1)) (k : Go p e below En T m pc' Ls (.int z :: st)) (hp : pc + 1 = pc' := by rfl) (hv : Int32.ofInt i = z := by rfl) : Go p e below En T m pc Ls st := by
  subst hp
  exact Go.step (fun _ hr => XT.iconstV X.here X.hx rfl z (hb X.hby hd) hv hr) k
theorem Go.bipush (X : Cx p l e R s m args below meth c Z own nm bytes maxL rt T locs cells slots h) (pc' : Nat) {i : Int} (z : Int32) (hd : decode bytes pc = .ok (.bipush i, 2)) (k : Go p e below En T m pc' Ls (.int z :: st)) (hp : pc + 2 = pc' := by rfl) (hv : (Int8.ofInt i).toInt32 = z := by rfl) : Go p e below En T m pc Ls st := by
  subst hp
  exact Go.step (fun _ hr => XT.bipushV X.here X.hx rfl z (hb X.hby hd) hv hr) k
theorem Go.sipush (X : Cx p l e R s m args below meth c Z own nm bytes maxL rt T locs cells slots h) (pc' : Nat) {i : Int} (z : Int32) (hd : decode bytes pc = .ok (.sipush i, 3)) (k : Go p e below En T m pc' Ls (.int z :: st)) (hp : pc + 3 = pc' := by rfl) (hv : (Int16.ofInt i).toInt32 = z := by rfl) : Go p e below En T m pc Ls st := by
  subst hp
  exact Go.step (fun _ hr => XT.sipushV X.here X.hx rfl z (hb X.hby hd) hv hr) k
theorem Go.lconst (X : Cx p l e R s m args below meth c Z own nm bytes maxL rt T locs cells slots h) (pc' : Nat) {i : Fin 2} (z : Int64) (hd : decode bytes pc = .ok (.lconst i, 1)) (k : Go p e below En T m pc' Ls (.long z :: st)) (hp : pc + 1 = pc' := by rfl) (hv : Int64.ofNat i = z := by rfl) : Go p e below En T m pc Ls st := by
  subst hp
  exact Go.step (fun _ hr => XT.lconstV X.here X.hx rfl z (hb X.hby hd) hv hr) k
theorem Go.aconst_null (X : Cx p l e R s m args below meth c Z own nm bytes maxL rt T locs cells slots h) (pc' : Nat)  (hd : decode bytes pc = .ok (.aconst_null, 1))  (k : Go p e below En T m pc' Ls (.null :: st)) (hp : pc + 1 = pc' := by rfl) : Go p e below En T m pc Ls st := by
  subst hp
  exact Go.step (fun _ hr => XS.aconstNull X.here X.hx rfl (hb X.hby hd)  hr) k
theorem Go.iadd (X : Cx p l e R s m args below meth c Z own nm bytes maxL rt T locs cells slots h) (pc' : Nat) {x y : Int32} (hd : decode bytes pc = .ok (.iadd, 1))  (k : Go p e below En T m pc' Ls (.int (x + y) :: st)) (hp : pc + 1 = pc' := by rfl) : Go p e below En T m pc Ls (.int y :: .int x :: st) := by
  subst hp
  exact Go.step (fun _ hr => XS.iadd X.here X.hx rfl (hb X.hby hd) rfl hr) k
theorem Go.isub (X : Cx p l e R s m args below meth c Z own nm bytes maxL rt T locs cells slots h) (pc' : Nat) {x y : Int32} (hd : decode bytes pc = .ok (.isub, 1))  (k : Go p e below En T m pc' Ls (.int (x - y) :: st)) (hp : pc + 1 = pc' := by rfl) : Go p e below En T m pc Ls (.int y :: .int x :: st) := by
  subst hp
  exact Go.step (fun _ hr => XS.isub X.here X.hx rfl (hb X.hby hd) rfl hr) k
theorem Go.imul (X : Cx p l e R s m args below meth c Z own nm bytes maxL rt T locs cells slots h) (pc' : Nat) {x y : Int32} (hd : decode bytes pc = .ok (.imul, 1))  (k : Go p e below En T m pc' Ls (.int (x * y) :: st)) (hp : pc + 1 = pc' := by rfl) : Go p e below En T m pc Ls (.int y :: .int x :: st) := by
  subst hp
  exact Go.step (fun _ hr => XS.imul X.here X.hx rfl (hb X.hby hd) rfl hr) k
theorem Go.iand (X : Cx p l e R s m args below meth c Z own nm bytes maxL rt T locs cells slots h) (pc' : Nat) {x y : Int32} (hd : decode bytes pc = .ok (.iand, 1))  (k : Go p e below En T m pc' Ls (.int (x &&& y) :: st)) (hp : pc + 1 = pc' := by rfl) : Go p e below En T m pc Ls (.int y :: .int x :: st) := by
  subst hp
  exact Go.step (fun _ hr => XS.iand X.here X.hx rfl (hb X.hby hd) rfl hr) k
theorem Go.ior (X : Cx p l e R s m args below meth c Z own nm bytes maxL rt T locs cells slots h) (pc' : Nat) {x y : Int32} (hd : decode bytes pc = .ok (.ior, 1))  (k : Go p e below En T m pc' Ls (.int (x ||| y) :: st)) (hp : pc + 1 = pc' := by rfl) : Go p e below En T m pc Ls (.int y :: .int x :: st) := by
  subst hp
  exact Go.step (fun _ hr => XT.ior X.here X.hx rfl (hb X.hby hd) rfl hr) k
theorem Go.ixor (X : Cx p l e R s m args below meth c Z own nm bytes maxL rt T locs cells slots h) (pc' : Nat) {x y : Int32} (hd : decode bytes pc = .ok (.ixor, 1))  (k : Go p e below En T m pc' Ls (.int (x ^^^ y) :: st)) (hp : pc + 1 = pc' := by rfl) : Go p e below En T m pc Ls (.int y :: .int x :: st) := by
  subst hp
  exact Go.step (fun _ hr => XT.ixor X.here X.hx rfl (hb X.hby hd) rfl hr) k
theorem Go.idiv (X : Cx p l e R s m args below meth c Z own nm bytes maxL rt T locs cells slots h) (pc' : Nat) {x y : Int32} (hd : decode bytes pc = .ok (.idiv, 1)) (hy : y ≠ 0) (k : Go p e below En T m pc' Ls (.int (x / y) :: st)) (hp : pc + 1 = pc' := by rfl) : Go p e below En T m pc Ls (.int y :: .int x :: st) := by
  subst hp
  exact Go.step (fun _ hr => XS.idiv X.here X.hx rfl (hb X.hby hd) rfl hy hr) k
theorem Go.irem (X : Cx p l e R s m args below meth c Z own nm bytes maxL rt T locs cells slots h) (pc' : Nat) {x y : Int32} (hd : decode bytes pc = .ok (.irem, 1)) (hy : y ≠ 0) (k : Go p e below En T m pc' Ls (.int (x % y) :: st)) (hp : pc + 1 = pc' := by rfl) : Go p e below En T m pc Ls (.int y :: .int x :: st) := by
  subst hp
  exact Go.step (fun _ hr => iremM X.sd X.hx rfl (hb X.hby hd) rfl hy hr) k
theorem Go.ishl (X : Cx p l e R s m args below meth c Z own nm bytes maxL rt T locs cells slots h) (pc' : Nat) {x y : Int32} (hd : decode bytes pc = .ok (.ishl, 1))  (k : Go p e below En T m pc' Ls (.int (x <<< (y &&& 31)) :: st)) (hp : pc + 1 = pc' := by rfl) : Go p e below En T m pc Ls (.int y :: .int x :: st) := by
  subst hp
  exact Go.step (fun _ hr => XT.ishl X.here X.hx rfl (hb X.hby hd) rfl hr) k
theorem Go.ishr (X : Cx p l e R s m args below meth c Z own nm bytes maxL rt T locs cells slots h) (pc' : Nat) {x y : Int32} (hd : decode bytes pc = .ok (.ishr, 1))  (k : Go p e below En T m pc' Ls (.int (x >>> (y &&& 31)) :: st)) (hp : pc + 1 = pc' := by rfl) : Go p e below En T m pc Ls (.int y :: .int x :: st) := by
  subst hp
  exact Go.step (fun _ hr => XT.ishr X.here X.hx rfl (hb X.hby hd) rfl hr) k
theorem Go.iushr (X : Cx p l e R s m args below meth c Z own nm bytes maxL rt T locs cells slots h) (pc' : Nat) {x y : Int32} (hd : decode bytes pc = .ok (.iushr, 1))  (k : Go p e below En T m pc' Ls (.int (XT.ushr x y) :: st)) (hp : pc + 1 = pc' := by rfl) : Go p e below En T m pc Ls (.int y :: .int x :: st) := by
  subst hp
  exact Go.step (fun _ hr => XT.iushr X.here X.hx rfl (hb X.hby hd) rfl hr) k
theorem Go.ladd (X : Cx p l e R s m args below meth c Z own nm bytes maxL rt T locs cells slots h) (pc' : Nat) {x y : Int64} (hd : decode bytes pc = .ok (.ladd, 1))  (k : Go p e below En T m pc' Ls (.long (x + y) :: st)) (hp : pc + 1 = pc' := by rfl) : Go p e below En T m pc Ls (.long y :: .long x :: st) := by
  subst hp
  exact Go.step (fun _ hr => XT.ladd X.here X.hx rfl (hb X.hby hd) rfl hr) k
theorem Go.lsub (X : Cx p l e R s m args below meth c Z own nm bytes maxL rt T locs cells slots h) (pc' : Nat) {x y : Int64} (hd : decode bytes pc = .ok (.lsub, 1))  (k : Go p e below En T m pc' Ls (.long (x - y) :: st)) (hp : pc + 1 = pc' := by rfl) : Go p e below En T m pc Ls (.long y :: .long x :: st) := by
  subst hp
  exact Go.step (fun _ hr => XT.lsub X.here X.hx rfl (hb X.hby hd) rfl hr) k
theorem Go.lmul (X : Cx p l e R s m args below meth c Z own nm bytes maxL rt T locs cells slots h) (pc' : Nat) {x y : Int64} (hd : decode bytes pc = .ok (.lmul, 1))  (k : Go p e below En T m pc' Ls (.long (x * y) :: st)) (hp : pc + 1 = pc' := by rfl) : Go p e below En T m pc Ls (.long y :: .long x :: st) := by
  subst hp
  exact Go.step (fun _ hr => XT.lmul X.here X.hx rfl (hb X.hby hd) rfl hr) k
theorem Go.land (X : Cx p l e R s m args below meth c Z own nm bytes maxL rt T locs cells slots h) (pc' : Nat) {x y : Int64} (hd : decode bytes pc = .ok (.land, 1))  (k : Go p e below En T m pc' Ls (.long (x &&& y) :: st)) (hp : pc + 1 = pc' := by rfl) : Go p e below En T m pc Ls (.long y :: .long x :: st) := by
  subst hp
  exact Go.step (fun _ hr => XT.land X.here X.hx rfl (hb X.hby hd) rfl hr) k
theorem Go.lor (X : Cx p l e R s m args below meth c Z own nm bytes maxL rt T locs cells slots h) (pc' : Nat) {x y : Int64} (hd : decode bytes pc = .ok (.lor, 1))  (k : Go p e below En T m pc' Ls (.long (x ||| y) :: st)) (hp : pc + 1 = pc' := by rfl) : Go p e below En T m pc Ls (.long y :: .long x :: st) := by
  subst hp
  exact Go.step (fun _ hr => XT.lor X.here X.hx rfl (hb X.hby hd) rfl hr) k
theorem Go.lxor (X : Cx p l e R s m args below meth c Z own nm bytes maxL rt T locs cells slots h) (pc' : Nat) {x y : Int64} (hd : decode bytes pc = .ok (.lxor, 1))  (k : Go p e below En T m pc' Ls (.long (x ^^^ y) :: st)) (hp : pc + 1 = pc' := by rfl) : Go p e below En T m pc Ls (.long y :: .long x :: st) := by
  subst hp
  exact Go.step (fun _ hr => XT.lxor X.here X.hx rfl (hb X.hby hd) rfl hr) k
theorem Go.lcmp (X : Cx p l e R s m args below meth c Z own nm bytes maxL rt T locs cells slots h) (pc' : Nat) {x y : Int64} (hd : decode bytes pc = .ok (.lcmp, 1))  (k : Go p e below En T m pc' Ls (.int (XT.cmpL x y) :: st)) (hp : pc + 1 = pc' := by rfl) : Go p e below En T m pc Ls (.long y :: .long x :: st) := by
  subst hp
  exact Go.step (fun _ hr => XT.lcmp X.here X.hx rfl (hb X.hby hd) rfl hr) k
theorem Go.ldiv (X : Cx p l e R s m args below meth c Z own nm bytes maxL rt T locs cells slots h) (pc' : Nat) {x y : Int64} (hd : decode bytes pc = .ok (.ldiv, 1)) (hy : y ≠ 0) (k : Go p e below En T m pc' Ls (.long (x / y) :: st)) (hp : pc + 1 = pc' := by rfl) : Go p e below En T m pc Ls (.long y :: .long x :: st) := by
  subst hp
  exact Go.step (fun _ hr => XT.ldiv X.here X.hx rfl (hb X.hby hd) rfl hy hr) k
theorem Go.lrem (X : Cx p l e R s m args below meth c Z own nm bytes maxL rt T locs cells slots h) (pc' : Nat) {x y : Int64} (hd : decode bytes pc = .ok (.lrem, 1)) (hy : y ≠ 0) (k : Go p e below En T m pc' Ls (.long (x - (x / y) * y) :: st)) (hp : pc + 1 = pc' := by rfl) : Go p e below En T m pc Ls (.long y :: .long x :: st) := by
  subst hp
  exact Go.step (fun _ hr => XT.lrem X.here X.hx rfl (hb X.hby hd) rfl hy hr) k
theorem Go.lshl (X : Cx p l e R s m args below meth c Z own nm bytes maxL rt T locs cells slots h) (pc' : Nat) {x : Int64} {y : Int32} (hd : decode bytes pc = .ok (.lshl, 1))  (k : Go p e below En T m pc' Ls (.long (x <<< (y.toInt64 &&& 63)) :: st)) (hp : pc + 1 = pc' := by rfl) : Go p e below En T m pc Ls (.int y :: .long x :: st) := by
  subst hp
  exact Go.step (fun _ hr => XT.lshl X.here X.hx rfl (hb X.hby hd) rfl hr) k
theorem Go.lshr (X : Cx p l e R s m args below meth c Z own nm bytes maxL rt T locs cells slots h) (pc' : Nat) {x : Int64} {y : Int32} (hd : decode bytes pc = .ok (.lshr, 1))  (k : Go p e below En T m pc' Ls (.long (x >>> (y.toInt64 &&& 63)) :: st)) (hp : pc + 1 = pc' := by rfl) : Go p e below En T m pc Ls (.int y :: .long x :: st) := by
  subst hp
  exact Go.step (fun _ hr => XT.lshr X.here X.hx rfl (hb X.hby hd) rfl hr) k
theorem Go.lushr (X : Cx p l e R s m args below meth c Z own nm bytes maxL rt T locs cells slots h) (pc' : Nat) {x : Int64} {y : Int32} (hd : decode bytes pc = .ok (.lushr, 1))  (k : Go p e below En T m pc' Ls (.long (XT.ushrL x y) :: st)) (hp : pc + 1 = pc' := by rfl) : Go p e below En T m pc Ls (.int y :: .long x :: st) := by
  subst hp
  exact Go.step (fun _ hr => XT.lushr X.here X.hx rfl (hb X.hby hd) rfl hr) k
theorem Go.i2l (X : Cx p l e R s m args below meth c Z own nm bytes maxL rt T locs cells slots h) (pc' : Nat) {x : Int32} (hd : decode bytes pc = .ok (.i2l, 1))  (k : Go p e below En T m pc' Ls (.long (x.toInt64) :: st)) (hp : pc + 1 = pc' := by rfl) : Go p e below En T m pc Ls (.int x :: st) := by
  subst hp
  exact Go.step (fun _ hr => XT.i2l X.here X.hx rfl (hb X.hby hd) rfl hr) k
theorem Go.i2b (X : Cx p l e R s m args below meth c Z own nm bytes maxL rt T locs cells slots h) (pc' : Nat) {x : Int32} (hd : decode bytes pc = .ok (.i2b, 1))  (k : Go p e below En T m pc' Ls (.int (x.toInt8.toInt32) :: st)) (hp : pc + 1 = pc' := by rfl) : Go p e below En T m pc Ls (.int x :: st) := by
  subst hp
  exact Go.step (fun _ hr => XT.i2b X.here X.hx rfl (hb X.hby hd) rfl hr) k
theorem Go.i2c (X : Cx p l e R s m args below meth c Z own nm bytes maxL rt T locs cells slots h) (pc' : Nat) {x : Int32} (hd : decode bytes pc = .ok (.i2c, 1))  (k : Go p e below En T m pc' Ls (.int (x.toUInt32.toUInt16.toUInt32.toInt32) :: st)) (hp : pc + 1 = pc' := by rfl) : Go p e below En T m pc Ls (.int x :: st) := by
  subst hp
  exact Go.step (fun _ hr => XT.i2c X.here X.hx rfl (hb X.hby hd) rfl hr) k
theorem Go.i2s (X : Cx p l e R s m args below meth c Z own nm bytes maxL rt T locs cells slots h) (pc' : Nat) {x : Int32} (hd : decode bytes pc = .ok (.i2s, 1))  (k : Go p e below En T m pc' Ls (.int (x.toInt16.toInt32) :: st)) (hp : pc + 1 = pc' := by rfl) : Go p e below En T m pc Ls (.int x :: st) := by
  subst hp
  exact Go.step (fun _ hr => XT.i2s X.here X.hx rfl (hb X.hby hd) rfl hr) k
theorem Go.l2i (X : Cx p l e R s m args below meth c Z own nm bytes maxL rt T locs cells slots h) (pc' : Nat) {x : Int64} (hd : decode bytes pc = .ok (.l2i, 1))  (k : Go p e below En T m pc' Ls (.int (x.toInt32) :: st)) (hp : pc + 1 = pc' := by rfl) : Go p e below En T m pc Ls (.long x :: st) := by
  subst hp
  exact Go.step (fun _ hr => XT.l2i X.here X.hx rfl (hb X.hby hd) rfl hr) k
theorem Go.dup (X : Cx p l e R s m args below meth c Z own nm bytes maxL rt T locs cells slots h) (pc' : Nat) {v : Value} (hd : decode bytes pc = .ok (.dup, 1)) (hc : v.category = 1) (k : Go p e below En T m pc' Ls (v :: v :: st)) (hp : pc + 1 = pc' := by rfl) : Go p e below En T m pc Ls (v :: st) := by
  subst hp
  exact Go.step (fun _ hr => XS.dup X.here X.hx rfl (hb X.hby hd) rfl hc hr) k
theorem Go.pop (X : Cx p l e R s m args below meth c Z own nm bytes maxL rt T locs cells slots h) (pc' : Nat) {v : Value} (hd : decode bytes pc = .ok (.pop, 1)) (hc : v.category = 1) (k : Go p e below En T m pc' Ls st) (hp : pc + 1 = pc' := by rfl) : Go p e below En T m pc Ls (v :: st) := by
  subst hp
  exact Go.step (fun _ hr => XT.pop X.here X.hx rfl (hb X.hby hd) rfl hc hr) k
theorem Go.dup_x1 (X : Cx p l e R s m args below meth c Z own nm bytes maxL rt T locs cells slots h) (pc' : Nat) {v w : Value} (hd : decode bytes pc = .ok (.dup_x1, 1)) (hc : v.category = 1) (hc' : w.category = 1) (k : Go p e below En T m pc' Ls (v :: w :: v :: st)) (hp : pc + 1 = pc' := by rfl) : Go p e below En T m pc Ls (v :: w :: st) := by
  subst hp
  exact Go.step (fun _ hr => XT.dupX1 X.here X.hx rfl (hb X.hby hd) rfl hc hc' hr) k
theorem Go.dup2 (X : Cx p l e R s m args below meth c Z own nm bytes maxL rt T locs cells slots h) (pc' : Nat) {v w : Value} (hd : decode bytes pc = .ok (.dup2, 1)) (hc : v.category = 1) (hc' : w.category = 1) (k : Go p e below En T m pc' Ls (v :: w :: v :: w :: st)) (hp : pc + 1 = pc' := by rfl) : Go p e below En T m pc Ls (v :: w :: st) := by
  subst hp
  exact Go.step (fun _ hr => XT.dup2 X.here X.hx rfl (hb X.hby hd) rfl hc hc' hr) k
theorem Go.istoreN (X : Cx p l e R s m args below meth c Z own nm bytes maxL rt T locs cells slots h) (pc' : Nat) {i : Fin 4} {z : Int32} (Ls' : Array Slot) (hd : decode bytes pc = .ok (.istore_n i, 1))  (hl : storeLocals Ls i.val (.int z) = some Ls') (k : Go p e below En T m pc' Ls' st) (hp : pc + 1 = pc' := by rfl) : Go p e below En T m pc Ls (.int z :: st) := by
  subst hp
  exact Go.step (fun _ hr => XS.istoreN X.here X.hx rfl (hb X.hby hd) rfl  hl hr) k
theorem Go.istore (X : Cx p l e R s m args below meth c Z own nm bytes maxL rt T locs cells slots h) (pc' : Nat) {i : Nat} {z : Int32} (Ls' : Array Slot) (hd : decode bytes pc = .ok (.istore i, 2))  (hl : storeLocals Ls i (.int z) = some Ls') (k : Go p e below En T m pc' Ls' st) (hp : pc + 2 = pc' := by rfl) : Go p e below En T m pc Ls (.int z :: st) := by
  subst hp
  exact Go.step (fun _ hr => XS.istore X.here X.hx rfl (hb X.hby hd) rfl  hl hr) k
theorem Go.lstoreN (X : Cx p l e R s m args below meth c Z own nm bytes maxL rt T locs cells slots h) (pc' : Nat) {i : Fin 4} {z : Int64} (Ls' : Array Slot) (hd : decode bytes pc = .ok (.lstore_n i, 1))  (hl : storeLocals Ls i.val (.long z) = some Ls') (k : Go p e below En T m pc' Ls' st) (hp : pc + 1 = pc' := by rfl) : Go p e below En T m pc Ls (.long z :: st) := by
  subst hp
  exact Go.step (fun _ hr => XT.lstoreN X.here X.hx rfl (hb X.hby hd) rfl  hl hr) k
theorem Go.lstore (X : Cx p l e R s m args below meth c Z own nm bytes maxL rt T locs cells slots h) (pc' : Nat) {i : Nat} {z : Int64} (Ls' : Array Slot) (hd : decode bytes pc = .ok (.lstore i, 2))  (hl : storeLocals Ls i (.long z) = some Ls') (k : Go p e below En T m pc' Ls' st) (hp : pc + 2 = pc' := by rfl) : Go p e below En T m pc Ls (.long z :: st) := by
  subst hp
  exact Go.step (fun _ hr => XT.lstore X.here X.hx rfl (hb X.hby hd) rfl  hl hr) k
theorem Go.astoreN (X : Cx p l e R s m args below meth c Z own nm bytes maxL rt T locs cells slots h) (pc' : Nat) {i : Fin 4} {v : Value} (Ls' : Array Slot) (hd : decode bytes pc = .ok (.astore_n i, 1)) (hv : v.isRef = true) (hl : storeLocals Ls i.val (v) = some Ls') (k : Go p e below En T m pc' Ls' st) (hp : pc + 1 = pc' := by rfl) : Go p e below En T m pc Ls (v :: st) := by
  subst hp
  exact Go.step (fun _ hr => XS.astoreN X.here X.hx rfl (hb X.hby hd) rfl hv hl hr) k
theorem Go.astore (X : Cx p l e R s m args below meth c Z own nm bytes maxL rt T locs cells slots h) (pc' : Nat) {i : Nat} {v : Value} (Ls' : Array Slot) (hd : decode bytes pc = .ok (.astore i, 2)) (hv : v.isRef = true) (hl : storeLocals Ls i (v) = some Ls') (k : Go p e below En T m pc' Ls' st) (hp : pc + 2 = pc' := by rfl) : Go p e below En T m pc Ls (v :: st) := by
  subst hp
  exact Go.step (fun _ hr => XS.astore X.here X.hx rfl (hb X.hby hd) rfl hv hl hr) k
theorem Go.iinc (X : Cx p l e R s m args below meth c Z own nm bytes maxL rt T locs cells slots h) (pc' : Nat) {i : Nat} {x : Int32} {cst : Int} (z : Int32) (Ls' : Array Slot) (hd : decode bytes pc = .ok (.iinc i cst, 3)) (hl0 : Ls[i]? = some (.val (.int x))) (hl : storeLocals Ls i (.int (x + z)) = some Ls') (k : Go p e below En T m pc' Ls' st) (hp : pc + 3 = pc' := by rfl) (hv : Int32.ofInt cst = z := by rfl) : Go p e below En T m pc Ls st := by
  subst hp
  exact Go.step (fun _ hr => XT.iincV X.here X.hx rfl z (hb X.hby hd) hv hl0 hl hr) k
theorem Go.goto (X : Cx p l e R s m args below meth c Z own nm bytes maxL rt T locs cells slots h) (pc' : Nat) {o : Int} (hd : decode bytes pc = .ok (.goto o, 3)) (k : Go p e below En T m pc' Ls st) (ho : 0 ≤ (pc : Int) + o := by decide) (hp : ((pc : Int) + o).toNat = pc' := by decide) : Go p e below En T m pc Ls st :=
  Go.step (fun _ hr => XS.goto X.here X.hx rfl rfl (hb X.hby hd) ho hp hr) k
theorem Go.if0Y (X : Cx p l e R s m args below meth c Z own nm bytes maxL rt T locs cells slots h) (pc' : Nat) {cd : ClassFile.Cond} {x : Int32} {o : Int} (hd : decode bytes pc = .ok (.ifCond cd o, 3)) (hc : ifCond.holds cd x = true) (k : Go p e below En T m pc' Ls st) (ho : 0 ≤ (pc : Int) + o := by decide) (hp : ((pc : Int) + o).toNat = pc' := by decide) : Go p e below En T m pc Ls (.int x :: st) :=
  Go.step (fun _ hr => XS.ifYes X.here X.hx rfl rfl (hb X.hby hd) rfl hc ho hp hr) k
theorem Go.if0N (X : Cx p l e R s m args below meth c Z own nm bytes maxL rt T locs cells slots h) (pc' : Nat) {cd : ClassFile.Cond} {x : Int32} {o : Int} (hd : decode bytes pc = .ok (.ifCond cd o, 3)) (hc : ifCond.holds cd x = false) (k : Go p e below En T m pc' Ls st) (hp : pc + 3 = pc' := by rfl) : Go p e below En T m pc Ls (.int x :: st) := by
  subst hp
  exact Go.step (fun _ hr => XS.ifNo X.here X.hx rfl (hb X.hby hd) rfl hc hr) k
theorem Go.icmpY (X : Cx p l e R s m args below meth c Z own nm bytes maxL rt T locs cells slots h) (pc' : Nat) {cd : ClassFile.Cond} {x y : Int32} {o : Int} (hd : decode bytes pc = .ok (.if_icmp cd o, 3)) (hc : if_icmp.holds cd x y = true) (k : Go p e below En T m pc' Ls st) (ho : 0 ≤ (pc : Int) + o := by decide) (hp : ((pc : Int) + o).toNat = pc' := by decide) : Go p e below En T m pc Ls (.int y :: .int x :: st) :=
  Go.step (fun _ hr => XS.icmpYes X.here X.hx rfl rfl (hb X.hby hd) rfl hc ho hp hr) k
theorem Go.icmpN (X : Cx p l e R s m args below meth c Z own nm bytes maxL rt T locs cells slots h) (pc' : Nat) {cd : ClassFile.Cond} {x y : Int32} {o : Int} (hd : decode bytes pc = .ok (.if_icmp cd o, 3)) (hc : if_icmp.holds cd x y = false) (k : Go p e below En T m pc' Ls st) (hp : pc + 3 = pc' := by rfl) : Go p e below En T m pc Ls (.int y :: .int x :: st) := by
  subst hp
  exact Go.step (fun _ hr => XS.icmpNo X.here X.hx rfl (hb X.hby hd) rfl hc hr) k
theorem Go.acmpY (X : Cx p l e R s m args below meth c Z own nm bytes maxL rt T locs cells slots h) (pc' : Nat) {cd : ClassFile.ACond} {x y : Value} {o : Int} (hd : decode bytes pc = .ok (.if_acmp cd o, 3)) (hx' : x.isRef = true) (hy' : y.isRef = true) (hc : XT.acmp cd x y = true) (k : Go p e below En T m pc' Ls st) (ho : 0 ≤ (pc : Int) + o := by decide) (hp : ((pc : Int) + o).toNat = pc' := by decide) : Go p e below En T m pc Ls (y :: x :: st) :=
  Go.step (fun _ hr => XT.acmpYes X.here X.hx rfl rfl (hb X.hby hd) rfl hx' hy' hc ho hp hr) k
theorem Go.acmpN (X : Cx p l e R s m args below meth c Z own nm bytes maxL rt T locs cells slots h) (pc' : Nat) {cd : ClassFile.ACond} {x y : Value} {o : Int} (hd : decode bytes pc = .ok (.if_acmp cd o, 3)) (hx' : x.isRef = true) (hy' : y.isRef = true) (hc : XT.acmp cd x y = false) (k : Go p e below En T m pc' Ls st) (hp : pc + 3 = pc' := by rfl) : Go p e below En T m pc Ls (y :: x :: st) := by
  subst hp
  exact Go.step (fun _ hr => XT.acmpNo X.here X.hx rfl (hb X.hby hd) rfl hx' hy' hc hr) k
theorem Go.ifnullY (X : Cx p l e R s m args below meth c Z own nm bytes maxL rt T locs cells slots h) (pc' : Nat) {o : Int} (hd : decode bytes pc = .ok (.ifnull o, 3)) (k : Go p e below En T m pc' Ls st) (ho : 0 ≤ (pc : Int) + o := by decide) (hp : ((pc : Int) + o).toNat = pc' := by decide) : Go p e below En T m pc Ls (.null :: st) :=
  Go.step (fun _ hr => XS.ifnullYes X.here X.hx rfl rfl (hb X.hby hd) rfl ho hp hr) k
theorem Go.ifnullN (X : Cx p l e R s m args below meth c Z own nm bytes maxL rt T locs cells slots h) (pc' : Nat) {a : Addr} {o : Int} (hd : decode bytes pc = .ok (.ifnull o, 3)) (k : Go p e below En T m pc' Ls st) (hp : pc + 3 = pc' := by rfl) : Go p e below En T m pc Ls (.ref a :: st) := by
  subst hp
  exact Go.step (fun _ hr => XS.ifnullNo X.here X.hx rfl (hb X.hby hd) rfl hr) k
theorem Go.ifnonnullY (X : Cx p l e R s m args below meth c Z own nm bytes maxL rt T locs cells slots h) (pc' : Nat) {a : Addr} {o : Int} (hd : decode bytes pc = .ok (.ifnonnull o, 3)) (k : Go p e below En T m pc' Ls st) (ho : 0 ≤ (pc : Int) + o := by decide) (hp : ((pc : Int) + o).toNat = pc' := by decide) : Go p e below En T m pc Ls (.ref a :: st) :=
  Go.step (fun _ hr => XT.ifnonnullYes X.here X.hx rfl rfl (hb X.hby hd) rfl ho hp hr) k
theorem Go.ifnonnullN (X : Cx p l e R s m args below meth c Z own nm bytes maxL rt T locs cells slots h) (pc' : Nat) {o : Int} (hd : decode bytes pc = .ok (.ifnonnull o, 3)) (k : Go p e below En T m pc' Ls st) (hp : pc + 3 = pc' := by rfl) : Go p e below En T m pc Ls (.null :: st) := by
  subst hp
  exact Go.step (fun _ hr => XT.ifnonnullNo X.here X.hx rfl (hb X.hby hd) rfl hr) k
theorem Go.tsw (X : Cx p l e R s m args below meth c Z own nm bytes maxL rt T locs cells slots h) (pc' : Nat) {dflt low high o : Int} {offs : Array Int} {len : Nat} {i : Int32} (hd : decode bytes pc = .ok (.tableswitch dflt low high offs, len)) (hin : ¬ (i.toInt < low ∨ i.toInt > high)) (hoff : offs[(i.toInt - low).toNat]? = some o) (k : Go p e below En T m pc' Ls st) (ho : 0 ≤ (pc : Int) + o := by decide) (hp : ((pc : Int) + o).toNat = pc' := by decide) : Go p e below En T m pc Ls (.int i :: st) :=
  Go.step (fun _ hr => XS.tswIn X.here X.hx rfl rfl (hb X.hby hd) rfl hin hoff ho hp hr) k
theorem Go.ldcI (X : Cx p l e R s m args below meth c Z own nm bytes maxL rt T locs cells slots h) (pc' : Nat) {idx : Nat} {v : Int32} (w : (Jvm.Cond.constant own idx v).before a0 Z = true) (hd : decode bytes pc = .ok (.ldc idx, 2)) (k : Go p e below En T m pc' Ls (.int v :: st)) (hp : pc + 2 = pc' := by rfl) : Go p e below En T m pc Ls st := by
  subst hp
  exact Go.step (fun _ hr => X.sd.ldcI X.hx X.hown (mvT X.hZ w) rfl (hb X.hby hd) hr) k
theorem Go.ldcJ (X : Cx p l e R s m args below meth c Z own nm bytes maxL rt T locs cells slots h) (pc' : Nat) {idx : Nat} {v : Int64} (w : (Jvm.Cond.constantLong own idx v).before a0 Z = true) (hd : decode bytes pc = .ok (.ldc2_w idx, 3)) (k : Go p e below En T m pc' Ls (.long v :: st)) (hp : pc + 3 = pc' := by rfl) : Go p e below En T m pc Ls st := by
  subst hp
  exact Go.step (fun _ hr => X.sd.ldc2J X.hx X.hown (mvT X.hZ w) rfl (hb X.hby hd) hr) k
theorem Go.getS (X : Cx p l e R s m args below meth c Z own nm bytes maxL rt T locs cells slots h) (pc' : Nat) {O n d : String} {idx : Nat} {v : Value} (w : (Jvm.Cond.fieldLink own idx O n d).before a0 Z = true) (F : Sta Z Z.heap O n d v) (hd : decode bytes pc = .ok (.getstatic idx, 3)) (k : ∀ T', Cx p l e R s m args below meth c Z own nm bytes maxL rt T' locs cells slots h → Go p e below En T' m pc' Ls (v :: st)) (hp : pc + 3 = pc' := by rfl) : Go p e below En T m pc Ls st := by
  subst hp
  obtain ⟨T', X', e', st'⟩ := RoadKit.getS (host := "") X.sd X.hx X.hZ X.hown w Via.refl X.eq (F.ext X.old) (g := mkF m pc Ls st) rfl (hb X.hby hd)
  exact Go.step st' (k T' (X.mk' X' e' X.fr X.old))
theorem Go.getF (X : Cx p l e R s m args below meth c Z own nm bytes maxL rt T locs cells slots h) (pc' : Nat) {O n d : String} {idx : Nat} {a : Addr} {v : Value} (w : (Jvm.Cond.fieldLink own idx O n d).before a0 Z = true) (F : Fld Z h a O n d v) (hd : decode bytes pc = .ok (.getfield idx, 3)) (k : ∀ T', Cx p l e R s m args below meth c Z own nm bytes maxL rt T' locs cells slots h → Go p e below En T' m pc' Ls (v :: st)) (hp : pc + 3 = pc' := by rfl) : Go p e below En T m pc Ls (.ref a :: st) := by
  subst hp
  obtain ⟨T', X', e', st'⟩ := RoadKit.getF (host := "") X.sd X.hx X.hZ X.hown (Or.inl w) Via.refl X.eq F (g := mkF m pc Ls (.ref a :: st)) rfl rfl (hb X.hby hd)
  exact Go.step st' (k T' (X.mk' X' e' X.fr X.old))
theorem Go.getFN (X : Cx p l e R s m args below meth c Z own nm bytes maxL rt T locs cells slots h) (pc' : Nat) {O n d host : String} {idx : Nat} {a : Addr} {v : Value} (w : (Jvm.Cond.fieldLinkNest own idx O n d host).before a0 Z = true) (F : Fld Z h a O n d v) (hd : decode bytes pc = .ok (.getfield idx, 3)) (k : ∀ T', Cx p l e R s m args below meth c Z own nm bytes maxL rt T' locs cells slots h → Go p e below En T' m pc' Ls (v :: st)) (hp : pc + 3 = pc' := by rfl) : Go p e below En T m pc Ls (.ref a :: st) := by
  subst hp
  obtain ⟨T', X', e', st'⟩ := RoadKit.getF X.sd X.hx X.hZ X.hown (Or.inr w) Via.refl X.eq F (g := mkF m pc Ls (.ref a :: st)) rfl rfl (hb X.hby hd)
  exact Go.step st' (k T' (X.mk' X' e' X.fr X.old))
theorem Go.putF (X : Cx p l e R s m args below meth c Z own nm bytes maxL rt T locs cells slots h) (pc' : Nat) {O n d C : String} {idx kk : Nat} {ty : FieldType} {a : Addr} {v old : Value} (w : (Jvm.Cond.fieldLink own idx O n d).before a0 Z = true) (F : Fld Z h a O n d old) (E : Exa Z h a C) (L : (Jvm.Cond.lays C O n d).before a0 Z = true ∨ ((Jvm.Cond.laysFinal C O n d).before a0 Z = true ∧ own = O ∧ nm = "<init>")) (wi : (Jvm.Cond.instantiable C kk).before a0 Z = true) (hty : parseFieldDescriptor d = some ty) (hn : narrow ty v = v) (hf : fits ty v = true) (ha : Z.heap.size ≤ a) (hd : decode bytes pc = .ok (.putfield idx, 3))
    (k : ∀ T' h', Cx p l e R s m args below meth c Z own nm bytes maxL rt T' (locs ++ [⟨a, RoadKit.slotOf Z O n d⟩]) cells slots h' → Wr h h' a (RoadKit.slotOf Z O n d) v → Go p e below En T' m pc' Ls st) (hp : pc + 3 = pc' := by rfl) : Go p e below En T m pc Ls (v :: .ref a :: st) := by
  subst hp
  obtain ⟨T', h', X', e', W, st'⟩ := RoadKit.putF (host := "") X.sd X.hx X.hZ X.hown (Or.inl w) Via.refl X.eq F E (L.imp id fun q => ⟨q.1, q.2.1, X.hnm.trans q.2.2⟩) wi hty hn hf (g := mkF m pc Ls (v :: .ref a :: st)) rfl rfl (hb X.hby hd)
  exact Go.step st' (k T' h' (X.mk' X' e' (Fr.snoc X' X.fr ha) (Ext.wr X.old W ha)) W)
theorem Go.newO (X : Cx p l e R s m args below meth c Z own nm bytes maxL rt T locs cells slots h) (pc' : Nat) {C : String} {idx n : Nat} (w : (Jvm.Cond.classLink own idx C).before a0 Z = true) (wi : (Jvm.Cond.instantiable C n).before a0 Z = true) (wz : (Jvm.Cond.initialized C).before a0 Z = true) (hd : decode bytes pc = .ok (.new idx, 3)) (hc : cells + 1 ≤ R.cells) (hl : slots + n ≤ R.slots)
    (k : ∀ T' h' a, Cx p l e R s m args below meth c Z own nm bytes maxL rt T' locs (cells + 1) (slots + n) h' → Ext h h' → h.size = a → Exa Z h' a C → (∀ {O nm d : String} {ty : FieldType}, Laid Z a0 C O nm d → parseFieldDescriptor d = some ty → Fld Z h' a O nm d (defaultValue ty)) → Go p e below En T' m pc' Ls (.ref a :: st)) (hp : pc + 3 = pc' := by rfl) : Go p e below En T m pc Ls st := by
  subst hp
  obtain ⟨T', h', X', e', E, A, D, -, st'⟩ := RoadKit.newO X.sd X.hx X.hZ X.hown w wi wz X.eq (g := mkF m pc Ls st) rfl (hb X.hby hd) hc hl
  exact Go.step st' (k T' h' _ (X.mk' X' e' X.fr (Ext.tr X.old E)) E rfl A D)
theorem Go.initO (X : Cx p l e R s m args below meth c Z own nm bytes maxL rt T locs cells slots h) (pc' : Nat) {idx : Nat} {a : Addr} (w1 : (Jvm.Cond.methodLink own idx Lib.objectInit).before a0 Z = true) (w2 : (Jvm.Cond.instanceMethod Lib.objectInit).before a0 Z = true) (w3 : (Jvm.Cond.code Lib.objectInit ⟨#[0xb1]⟩ 1 none).before a0 Z = true) (W : Nat) (hd : decode bytes pc = .ok (.invokespecial idx, 3)) (hsz : Ls.size = maxL) (hf : 1 ≤ R.frames) (hW : (st.map fun v => v.category).sum ≤ W) (hl : W + 12 ≤ R.locals)
    (k : ∀ T', Cx p l e R s m args below meth c Z own nm bytes maxL rt T' locs cells slots h → Go p e below En T' m pc' Ls st) (hp : pc + 3 = pc' := by rfl) : Go p e below En T m pc Ls (.ref a :: st) := by
  subst hp
  obtain ⟨T', X', e', st'⟩ := RoadKit.initO X.sd X.hx X.hZ X.hown w1 w2 w3 X.eq (g := mkF m pc Ls (.ref a :: st)) rfl (hsz.trans X.hml.symm) rfl (hb X.hby hd) hf (W := W) (by simpa using hW) hl
  exact Go.step st' (k T' (X.mk' X' e' X.fr X.old))
theorem Go.newP (X : Cx p l e R s m args below meth c Z own nm bytes maxL rt T locs cells slots h) (pc' : Nat) {aty : ArrayType} {n : Int32} (w : (Jvm.Cond.arrayClass (newarray.typeOf aty)).before a0 Z = true) (hd : decode bytes pc = .ok (.newarray aty, 2)) (cap : Nat) (hn : ¬ n < 0) (hcap : n.toNatClampNeg ≤ cap) (hb' : cap * 8 ≤ 536870912) (hc : cells + 1 ≤ R.cells) (hl : slots + cap ≤ R.slots)
    (k : ∀ T' h' a kA, Cx p l e R s m args below meth c Z own nm bytes maxL rt T' locs (cells + 1) (slots + cap) h' → Ext h h' → h.size = a → Arv Z h' a kA (newarray.typeOf aty) n [] (defaultValue (newarray.typeOf aty)) → Go p e below En T' m pc' Ls (.ref a :: st)) (hp : pc + 2 = pc' := by rfl) : Go p e below En T m pc Ls (.int n :: st) := by
  subst hp
  obtain ⟨T', h', kA, X', e', E, A, st'⟩ := RoadKit.newP X.sd X.hx X.hZ w X.eq (g := mkF m pc Ls (.int n :: st)) rfl (hb X.hby hd) rfl hn hcap hb' hc hl
  exact Go.step st' (k T' h' _ kA (X.mk' X' e' X.fr (Ext.tr X.old E)) E rfl (Arv.new A hn))
theorem Go.newR (X : Cx p l e R s m args below meth c Z own nm bytes maxL rt T locs cells slots h) (pc' : Nat) {D : String} {idx : Nat} {n : Int32} (w1 : (Jvm.Cond.classLink own idx D).before a0 Z = true) (w2 : (Jvm.Cond.arrayOver (.object D)).before a0 Z = true) (hd : decode bytes pc = .ok (.anewarray idx, 3)) (cap : Nat) (hn : ¬ n < 0) (hcap : n.toNatClampNeg ≤ cap) (hb' : cap * 8 ≤ 536870912) (hc : cells + 1 ≤ R.cells) (hl : slots + cap ≤ R.slots)
    (k : ∀ T' h' a kA, Cx p l e R s m args below meth c Z own nm bytes maxL rt T' locs (cells + 1) (slots + cap) h' → Ext h h' → h.size = a → Ovr Z kA D → Arv Z h' a kA (.object D) n [] .null → Go p e below En T' m pc' Ls (.ref a :: st)) (hp : pc + 3 = pc' := by rfl) : Go p e below En T m pc Ls (.int n :: st) := by
  subst hp
  obtain ⟨T', h', kA, X', e', E, A, O, st'⟩ := RoadKit.newR X.sd X.hx X.hZ X.hown w1 w2 X.eq (g := mkF m pc Ls (.int n :: st)) rfl (hb X.hby hd) rfl hn hcap hb' hc hl
  exact Go.step st' (k T' h' _ kA (X.mk' X' e' X.fr (Ext.tr X.old E)) E rfl O (Arv.new A hn))
theorem Go.stC (X : Cx p l e R s m args below meth c Z own nm bytes maxL rt T locs cells slots h) (pc' : Nat) {a : Addr} {kA : ClassId} {n j x : Int32} {vs : List Value} {d : Value} (V : Arv Z h a kA .char n vs d) (hd : decode bytes pc = .ok (.castore, 1)) (hj : ¬ j < 0 ∧ j < n) (i : Nat) (hi : j.toNatClampNeg = i) (hlt : i < vs.length) (ha : Z.heap.size ≤ a)
    (k : ∀ T' h', Cx p l e R s m args below meth c Z own nm bytes maxL rt T' (locs ++ [⟨a, j.toNatClampNeg⟩]) cells slots h' → Wr h h' a j.toNatClampNeg (.int (nar .char x)) → Arv Z h' a kA .char n (vs.set i (.int (nar .char x))) d → Go p e below En T' m pc' Ls st) (hp : pc + 1 = pc' := by rfl) : Go p e below En T m pc Ls (.int x :: .int j :: .ref a :: st) := by
  subst hp
  obtain ⟨cl, A, q1, S, q3, H, G⟩ := V
  obtain ⟨T', h', X', e', W, st'⟩ := RoadKit.stC X.sd X.hx X.hZ X.eq A (inb_of S hj) (g := mkF m pc Ls (.int x :: .int j :: .ref a :: st)) rfl rfl (hb X.hby hd)
  exact Go.step st' (k T' h' (X.mk' X' e' (Fr.snoc X' X.fr ha) (Ext.wr X.old W ha)) W (Arv.set A q1 S q3 H G (fits_nar_char x) W i hi hlt))
theorem Go.stB (X : Cx p l e R s m args below meth c Z own nm bytes maxL rt T locs cells slots h) (pc' : Nat) {a : Addr} {kA : ClassId} {n j x : Int32} {vs : List Value} {d : Value} (V : Arv Z h a kA .byte n vs d) (hd : decode bytes pc = .ok (.bastore, 1)) (hj : ¬ j < 0 ∧ j < n) (i : Nat) (hi : j.toNatClampNeg = i) (hlt : i < vs.length) (ha : Z.heap.size ≤ a)
    (k : ∀ T' h', Cx p l e R s m args below meth c Z own nm bytes maxL rt T' (locs ++ [⟨a, j.toNatClampNeg⟩]) cells slots h' → Wr h h' a j.toNatClampNeg (.int (nar .byte x)) → Arv Z h' a kA .byte n (vs.set i (.int (nar .byte x))) d → Go p e below En T' m pc' Ls st) (hp : pc + 1 = pc' := by rfl) : Go p e below En T m pc Ls (.int x :: .int j :: .ref a :: st) := by
  subst hp
  obtain ⟨cl, A, q1, S, q3, H, G⟩ := V
  obtain ⟨T', h', X', e', W, st'⟩ := RoadKit.stB X.sd X.hx X.hZ X.eq A (inb_of S hj) (g := mkF m pc Ls (.int x :: .int j :: .ref a :: st)) rfl rfl (hb X.hby hd)
  exact Go.step st' (k T' h' (X.mk' X' e' (Fr.snoc X' X.fr ha) (Ext.wr X.old W ha)) W (Arv.set A q1 S q3 H G (fits_nar_byte x) W i hi hlt))
theorem Go.stR (X : Cx p l e R s m args below meth c Z own nm bytes maxL rt T locs cells slots h) (pc' : Nat) {a y : Addr} {kA : ClassId} {D : String} {n j : Int32} {vs : List Value} {d : Value} (V : Arv Z h a kA (.object D) n vs d) (O : Ovr Z kA D) (I : Ins Z h y D true) (hd : decode bytes pc = .ok (.aastore, 1)) (hj : ¬ j < 0 ∧ j < n) (i : Nat) (hi : j.toNatClampNeg = i) (hlt : i < vs.length) (ha : Z.heap.size ≤ a)
    (k : ∀ T' h', Cx p l e R s m args below meth c Z own nm bytes maxL rt T' (locs ++ [⟨a, j.toNatClampNeg⟩]) cells slots h' → Wr h h' a j.toNatClampNeg (.ref y) → Arv Z h' a kA (.object D) n (vs.set i (.ref y)) d → Go p e below En T' m pc' Ls st) (hp : pc + 1 = pc' := by rfl) : Go p e below En T m pc Ls (.ref y :: .int j :: .ref a :: st) := by
  subst hp
  obtain ⟨cl, A, q1, S, q3, H, G⟩ := V
  obtain ⟨T', h', X', e', W, st'⟩ := RoadKit.stR X.sd X.hx X.hZ X.eq A (inb_of S hj) rfl (Sto.ofV A q1 O I) (g := mkF m pc Ls (.ref y :: .int j :: .ref a :: st)) rfl rfl (hb X.hby hd)
  exact Go.step st' (k T' h' (X.mk' X' e' (Fr.snoc X' X.fr ha) (Ext.wr X.old W ha)) W (Arv.set A q1 S q3 H G rfl W i hi hlt))
theorem Go.alen (X : Cx p l e R s m args below meth c Z own nm bytes maxL rt T locs cells slots h) (pc' : Nat) {a : Addr} {kA : ClassId} {ty : FieldType} {n : Int32} {vs : List Value} {d : Value} (V : Arv Z h a kA ty n vs d) (hd : decode bytes pc = .ok (.arraylength, 1)) (k : Go p e below En T m pc' Ls (.int n :: st)) (hp : pc + 1 = pc' := by rfl) : Go p e below En T m pc Ls (.ref a :: st) := by
  subst hp
  obtain ⟨cl, A, q1, S, q3, H, G⟩ := V
  refine Go.step (fun _ hr => X.sd.arraylength X.hx (by rw [X.eq]; exact A.1) (State.isArrayOf_alike X.hZ.alike A.2.1) (g := mkF m pc Ls (.ref a :: st)) rfl rfl (hb X.hby hd) _ hr) ?_
  rw [len_of S q3]; exact k
theorem Go.caload (X : Cx p l e R s m args below meth c Z own nm bytes maxL rt T locs cells slots h) (pc' : Nat) {a : Addr} {kA : ClassId} {n j : Int32} {vs : List Value} {d v : Value} (V : Arv Z h a kA .char n vs d) (hd : decode bytes pc = .ok (.caload, 1)) (hj : ¬ j < 0 ∧ j < n) (u : vs.getD j.toNatClampNeg d = v) (k : Go p e below En T m pc' Ls (v :: st)) (hp : pc + 1 = pc' := by rfl) : Go p e below En T m pc Ls (.int j :: .ref a :: st) := by
  subst hp
  obtain ⟨cl, A, q1, S, q3, H, G⟩ := V
  exact Go.step (fun _ hr => X.sd.caload X.hx (by rw [X.eq]; exact A.1) (State.isArrayOf_alike X.hZ.alike A.2.1) A.2.2 (inb_of S hj) (H.at (inb_of S hj) u) (g := mkF m pc Ls (.int j :: .ref a :: st)) rfl rfl (hb X.hby hd) _ hr) k
theorem Go.baload (X : Cx p l e R s m args below meth c Z own nm bytes maxL rt T locs cells slots h) (pc' : Nat) {a : Addr} {kA : ClassId} {n j : Int32} {vs : List Value} {d v : Value} (V : Arv Z h a kA .byte n vs d) (hd : decode bytes pc = .ok (.baload, 1)) (hj : ¬ j < 0 ∧ j < n) (u : vs.getD j.toNatClampNeg d = v) (k : Go p e below En T m pc' Ls (v :: st)) (hp : pc + 1 = pc' := by rfl) : Go p e below En T m pc Ls (.int j :: .ref a :: st) := by
  subst hp
  obtain ⟨cl, A, q1, S, q3, H, G⟩ := V
  exact Go.step (fun _ hr => X.sd.baloadBytes X.hx (by rw [X.eq]; exact A.1) (State.isArrayOf_alike X.hZ.alike A.2.1) A.2.2 (inb_of S hj) (H.at (inb_of S hj) u) (g := mkF m pc Ls (.int j :: .ref a :: st)) rfl rfl (hb X.hby hd) _ hr) k
theorem Go.aaload (X : Cx p l e R s m args below meth c Z own nm bytes maxL rt T locs cells slots h) (pc' : Nat) {a : Addr} {kA : ClassId} {ty : FieldType} {n j : Int32} {vs : List Value} {d v : Value} (V : Arv Z h a kA ty n vs d) (hty : ty.isReference = true) (hd : decode bytes pc = .ok (.aaload, 1)) (hj : ¬ j < 0 ∧ j < n) (u : vs.getD j.toNatClampNeg d = v) (k : Go p e below En T m pc' Ls (v :: st)) (hp : pc + 1 = pc' := by rfl) : Go p e below En T m pc Ls (.int j :: .ref a :: st) := by
  subst hp
  obtain ⟨cl, A, q1, S, q3, H, G⟩ := V
  exact Go.step (fun _ hr => X.sd.aaload X.hx (by rw [X.eq]; exact A.1) (State.isArrayOf_alike X.hZ.alike A.2.1) hty A.2.2 (inb_of S hj) (H.at (inb_of S hj) u) (g := mkF m pc Ls (.int j :: .ref a :: st)) rfl rfl (hb X.hby hd) _ hr) k
theorem Go.castY (X : Cx p l e R s m args below meth c Z own nm bytes maxL rt T locs cells slots h) (pc' : Nat) {K : String} {idx : Nat} {a : Addr} (w : (Jvm.Cond.classLink own idx K).before a0 Z = true) (F : Ins Z h a K true) (hd : decode bytes pc = .ok (.checkcast idx, 3)) (k : ∀ T', Cx p l e R s m args below meth c Z own nm bytes maxL rt T' locs cells slots h → Go p e below En T' m pc' Ls (.ref a :: st)) (hp : pc + 3 = pc' := by rfl) : Go p e below En T m pc Ls (.ref a :: st) := by
  subst hp
  obtain ⟨T', X', e', st'⟩ := RoadKit.castY X.sd X.hx X.hZ X.hown w X.eq F (g := mkF m pc Ls (.ref a :: st)) rfl rfl (hb X.hby hd)
  exact Go.step st' (k T' (X.mk' X' e' X.fr X.old))
theorem Go.instY (X : Cx p l e R s m args below meth c Z own nm bytes maxL rt T locs cells slots h) (pc' : Nat) {K : String} {idx : Nat} {a : Addr} (w : (Jvm.Cond.classLink own idx K).before a0 Z = true) (F : Ins Z h a K true) (hd : decode bytes pc = .ok (.instanceof idx, 3)) (k : ∀ T', Cx p l e R s m args below meth c Z own nm bytes maxL rt T' locs cells slots h → Go p e below En T' m pc' Ls (.int 1 :: st)) (hp : pc + 3 = pc' := by rfl) : Go p e below En T m pc Ls (.ref a :: st) := by
  subst hp
  obtain ⟨T', X', e', st'⟩ := RoadKit.instY X.sd X.hx X.hZ X.hown w X.eq F (g := mkF m pc Ls (.ref a :: st)) rfl rfl (hb X.hby hd)
  exact Go.step st' (k T' (X.mk' X' e' X.fr X.old))
theorem Go.instNo (X : Cx p l e R s m args below meth c Z own nm bytes maxL rt T locs cells slots h) (pc' : Nat) {K D : String} {idx : Nat} {a : Addr} (w : (Jvm.Cond.classLink own idx K).before a0 Z = true) (E : Exa Z h a D) (F : ∃ c t, Z.vm.findClass D = some c ∧ Z.vm.findClass K = some t ∧ Z.vm.assignable c t = false) (hd : decode bytes pc = .ok (.instanceof idx, 3)) (k : ∀ T', Cx p l e R s m args below meth c Z own nm bytes maxL rt T' locs cells slots h → Go p e below En T' m pc' Ls (.int 0 :: st)) (hp : pc + 3 = pc' := by rfl) : Go p e below En T m pc Ls (.ref a :: st) := by
  subst hp
  obtain ⟨T', X', e', st'⟩ := RoadKit.instNo X.sd X.hx X.hZ X.hown w X.eq E F (g := mkF m pc Ls (.ref a :: st)) rfl rfl (hb X.hby hd)
  exact Go.step st' (k T' (X.mk' X' e' X.fr X.old))
theorem Go.instNull (X : Cx p l e R s m args below meth c Z own nm bytes maxL rt T locs cells slots h) (pc' : Nat) {idx : Nat} (hd : decode bytes pc = .ok (.instanceof idx, 3)) (k : Go p e below En T m pc' Ls (.int 0 :: st)) (hp : pc + 3 = pc' := by rfl) : Go p e below En T m pc Ls (.null :: st) := by
  subst hp
  exact Go.step (Jvm.Stand.instanceofNull X.sd X.hx (g := mkF m pc Ls (.null :: st)) rfl rfl (hb X.hby hd)) k
theorem own_noSub {C S K : String} {n : Nat} (w : (Jvm.Cond.superclass C S).before a0 Z = true) (wk : (Jvm.Cond.instantiable K n).before a0 Z = true) (wr : (Jvm.Cond.noSuperclass S).before a0 Z = true) (h1 : C ≠ K) (h2 : S ≠ K) : ∃ c t, Z.vm.findClass C = some c ∧ Z.vm.findClass K = some t ∧ Z.vm.assignable c t = false := by
  obtain ⟨t, kt, g1, g2, g3, g4, -⟩ := Cond.instantiable_spec wk
  have hi : kt.isInterface = false := by rw [Bool.or_eq_false_iff] at g4; exact g4.1
  have nr : NS Z S K := by
    obtain ⟨c, k, r1, r2, r3, -, -⟩ := Cond.noSuperclass_spec wr
    refine ⟨c, t, r1, g1, fun fuel => ?_⟩
    have ne := ids_ne r1 g1 h2
    cases fuel with
    | zero => rfl
    | succ f => simp [Vm.isSubclassAux, ne, r2, r3]
  obtain ⟨c, t', h0, g0, n3⟩ := NS.step w nr h1
  cases g1.symm.trans g0
  obtain ⟨p, k, kp, -, k2, -, -, k5, -, -⟩ := Cond.superclass_spec h0 w
  have ne := ids_ne h0 g1 h1
  refine ⟨c, t, h0, g1, ?_⟩
  show Z.vm.assignableAux (255 + 1) c t = false
  simp [Vm.assignableAux, ne, k2, g2, k5, g3, hi, Vm.isSubclass, n3]
theorem Go.mono {En' : Option Value → State → Prop} (f : ∀ v t, En' v t → En v t) (k : Go p e below En' T m pc Ls st) : Go p e below En T m pc Ls st := by
  obtain ⟨s₂, v, k1, k2, k3, k4⟩ := k
  exact ⟨s₂, v, k1, k2, k3, f _ _ k4⟩
theorem Cx.back (X : Cx p l e R s m args below meth c Z own nm bytes maxL rt T locs cells slots h) {y : MethodName} {by' : ByteArray} {ml' : Nat} {rt' : Option FieldType} {rm : Room} {as' : Array Value} {Q' : Option Value → Heap → Prop} {len W : Nat} (ct : Ct l Z [] y by' ml' rt' rm as' h Q') (wc : (Jvm.Cond.code y by' ml' rt').before a0 Z = true) (wz : (Jvm.Cond.initialized y.cls).before a0 Z = true) (hf : rm.frames + 1 ≤ R.frames) (hl : W + (ml' + 11) + rm.locals ≤ R.locals) :
    Back l R p e below s args y len W (fun A a => a = as' ∧ A.U.heap = h ∧ A.cells + rm.cells ≤ R.cells ∧ A.slots + rm.slots ≤ R.slots) (fun A _ v B => ∃ L, (Fr Z.heap.size L ∧ Ext Z.heap B.U.heap ∧ Q' v B.U.heap) ∧ B.locs = A.locs ++ L ∧ B.cells = A.cells + rm.cells ∧ B.slots = A.slots + rm.slots) :=
  backOf (Q := fun v hh L => Fr Z.heap.size L ∧ Ext Z.heap hh ∧ Q' v hh) (ct X.old) X.hZ wc wz hf hl
theorem Go.callS (X : Cx p l e R s m args below meth c Z own nm bytes maxL rt T locs cells slots h) (pc' : Nat) {idx : Nat} {y : MethodName} {by' : ByteArray} {ml' : Nat} {rt' : Option FieldType} {rm : Room} {ps : List FieldType} {rr : Option FieldType} {Q' : Option Value → Heap → Prop} (argsL rest : List Value) (W : Nat) (wl : (Jvm.Cond.methodLink own idx y).before a0 Z = true) (ws : (Jvm.Cond.static y).before a0 Z = true) (wz : (Jvm.Cond.initialized y.cls).before a0 Z = true) (hy : y.cls ≠ "java/lang/invoke/MethodHandle" ∧ y.cls ≠ "java/lang/invoke/VarHandle") (wc : (Jvm.Cond.code y by' ml' rt').before a0 Z = true) (pd : parseMethodDescriptor y.desc = some ⟨ps, rr⟩) (hd : decode bytes pc = .ok (.invokestatic idx, 3)) (ct : Ct l Z [] y by' ml' rt' rm (argsL.toArray) h Q') (hlen : argsL.length = ps.length) (hst : st = argsL.reverse ++ rest) (hsz : Ls.size = maxL) (hW : (rest.map fun v => v.category).sum ≤ W) (hf : rm.frames + 1 ≤ R.frames) (hl : W + (ml' + 11) + rm.locals ≤ R.locals) (hce : cells + rm.cells ≤ R.cells) (hsl : slots + rm.slots ≤ R.slots)
    (k : ∀ T' v L, Cx p l e R s m args below meth c Z own nm bytes maxL rt T' (locs ++ L) (cells + rm.cells) (slots + rm.slots) T'.heap → Q' v T'.heap → Go p e below En T' m pc' Ls (v.toList ++ rest)) (hp : pc + 3 = pc' := by rfl) : Go p e below En T m pc Ls st := by
  subst hp
  obtain ⟨v, _, ⟨T', L', k', n'⟩, -, X', ⟨L, hq, e1, e2, e3⟩, st'⟩ := Jvm.LawKit.callS X.sd X.hx (y := y) X.hown (mvT X.hZ wl) (mvT X.hZ ws) (mvT X.hZ wz) (mvT X.hZ wc) hy (X.back (W := W) ct wc wz hf hl) (g := mkF m pc Ls st) rfl (hsz.trans X.hml.symm) (argsL := argsL) (rest := rest) (lenOf pd hlen) hst (by simpa using hW) (hb X.hby hd) (fun _ _ => ⟨rfl, X.eq, hce, hsl⟩)
  dsimp only [Pt.U, Pt.locs, Pt.cells, Pt.slots] at X' e1 e2 e3 st' hq
  subst e1 e2 e3
  exact Go.step st' (k T' v L (X.mk' X' rfl (X.fr.app hq.1) hq.2.1) hq.2.2)
theorem Go.callSP (X : Cx p l e R s m args below meth c Z own nm bytes maxL rt T locs cells slots h) (pc' : Nat) {idx : Nat} {y : MethodName} {by' : ByteArray} {ml' : Nat} {rt' : Option FieldType} {rm : Room} {ps : List FieldType} {rr : Option FieldType} {v : Value} (argsL rest : List Value) (W : Nat) (wl : (Jvm.Cond.methodLink own idx y).before a0 Z = true) (ws : (Jvm.Cond.static y).before a0 Z = true) (wz : (Jvm.Cond.initialized y.cls).before a0 Z = true) (hy : y.cls ≠ "java/lang/invoke/MethodHandle" ∧ y.cls ≠ "java/lang/invoke/VarHandle") (wc : (Jvm.Cond.code y by' ml' rt').before a0 Z = true) (pd : parseMethodDescriptor y.desc = some ⟨ps, rr⟩) (hd : decode bytes pc = .ok (.invokestatic idx, 3)) (ct : Ct l Z [] y by' ml' rt' rm (argsL.toArray) h (Pu h v)) (hlen : argsL.length = ps.length) (hst : st = argsL.reverse ++ rest) (hsz : Ls.size = maxL) (hW : (rest.map fun v => v.category).sum ≤ W) (hf : rm.frames + 1 ≤ R.frames) (hl : W + (ml' + 11) + rm.locals ≤ R.locals) (hce : cells + rm.cells ≤ R.cells) (hsl : slots + rm.slots ≤ R.slots)
    (k : ∀ T' L, Cx p l e R s m args below meth c Z own nm bytes maxL rt T' (locs ++ L) (cells + rm.cells) (slots + rm.slots) h → Go p e below En T' m pc' Ls (v :: rest)) (hp : pc + 3 = pc' := by rfl) : Go p e below En T m pc Ls st :=
  Go.callS X pc' argsL rest W wl ws wz hy wc pd hd ct hlen hst hsz hW hf hl hce hsl (fun T' v' L X' q => by
    obtain ⟨rfl, q2⟩ := q
    rw [q2] at X'
    exact k T' L X') hp
theorem Go.callI (X : Cx p l e R s m args below meth c Z own nm bytes maxL rt T locs cells slots h) (pc' : Nat) {idx : Nat} {y : MethodName} {by' : ByteArray} {ml' : Nat} {rt' : Option FieldType} {rm : Room} {ps : List FieldType} {rr : Option FieldType} {a : Addr} {Q' : Option Value → Heap → Prop} (argsL rest : List Value) (W : Nat) (hy1 : y.name = "<init>") (wl : (Jvm.Cond.methodLink own idx y).before a0 Z = true) (wm : (Jvm.Cond.instanceMethod y).before a0 Z = true) (wz : (Jvm.Cond.initialized y.cls).before a0 Z = true) (hy : y.cls ≠ "java/lang/invoke/MethodHandle" ∧ y.cls ≠ "java/lang/invoke/VarHandle") (hrn : rt' = none) (wc : (Jvm.Cond.code y by' ml' rt').before a0 Z = true) (pd : parseMethodDescriptor y.desc = some ⟨ps, rr⟩) (hd : decode bytes pc = .ok (.invokespecial idx, 3)) (ct : Ct l Z [] y by' ml' rt' rm ((Value.ref a :: argsL).toArray) h Q') (hlen : argsL.length = ps.length) (hst : st = argsL.reverse ++ .ref a :: rest) (hsz : Ls.size = maxL) (hW : (rest.map fun v => v.category).sum ≤ W) (hf : rm.frames + 1 ≤ R.frames) (hl : W + (ml' + 11) + rm.locals ≤ R.locals) (hce : cells + rm.cells ≤ R.cells) (hsl : slots + rm.slots ≤ R.slots)
    (k : ∀ T' v L, Cx p l e R s m args below meth c Z own nm bytes maxL rt T' (locs ++ L) (cells + rm.cells) (slots + rm.slots) T'.heap → Q' v T'.heap → Go p e below En T' m pc' Ls (v.toList ++ rest)) (hp : pc + 3 = pc' := by rfl) : Go p e below En T m pc Ls st := by
  subst hp
  subst hrn
  obtain ⟨v, _, ⟨T', L', k', n'⟩, -, X', ⟨L, hq, e1, e2, e3⟩, st'⟩ := X.sd.specialBack X.hx (y := y) hy1 X.hown (mvT X.hZ wl) (mvT X.hZ wm) (mvT X.hZ wc) hy (X.back (W := W) ct wc wz hf hl) (g := mkF m pc Ls st) rfl (hsz.trans X.hml.symm) (Steps.refl _) (a := a) (argsL := argsL) (rest := rest) (lenOf pd hlen) hst (by simpa using hW) (hb X.hby hd) (fun _ _ => ⟨rfl, X.eq, hce, hsl⟩)
  dsimp only [Pt.U, Pt.locs, Pt.cells, Pt.slots] at X' e1 e2 e3 st' hq
  subst e1 e2 e3
  exact Go.step (fun _ hr => Steps.trans st' hr) (k T' v L (X.mk' X' rfl (X.fr.app hq.1) hq.2.1) hq.2.2)
theorem Go.callIP (X : Cx p l e R s m args below meth c Z own nm bytes maxL rt T locs cells slots h) (pc' : Nat) {idx : Nat} {y : MethodName} {by' : ByteArray} {ml' : Nat} {rt' : Option FieldType} {rm : Room} {ps : List FieldType} {rr : Option FieldType} {a : Addr} {v : Value} (argsL rest : List Value) (W : Nat) (hy1 : y.name = "<init>") (wl : (Jvm.Cond.methodLink own idx y).before a0 Z = true) (wm : (Jvm.Cond.instanceMethod y).before a0 Z = true) (wz : (Jvm.Cond.initialized y.cls).before a0 Z = true) (hy : y.cls ≠ "java/lang/invoke/MethodHandle" ∧ y.cls ≠ "java/lang/invoke/VarHandle") (hrn : rt' = none) (wc : (Jvm.Cond.code y by' ml' rt').before a0 Z = true) (pd : parseMethodDescriptor y.desc = some ⟨ps, rr⟩) (hd : decode bytes pc = .ok (.invokespecial idx, 3)) (ct : Ct l Z [] y by' ml' rt' rm ((Value.ref a :: argsL).toArray) h (Pu h v)) (hlen : argsL.length = ps.length) (hst : st = argsL.reverse ++ .ref a :: rest) (hsz : Ls.size = maxL) (hW : (rest.map fun v => v.category).sum ≤ W) (hf : rm.frames + 1 ≤ R.frames) (hl : W + (ml' + 11) + rm.locals ≤ R.locals) (hce : cells + rm.cells ≤ R.cells) (hsl : slots + rm.slots ≤ R.slots)
    (k : ∀ T' L, Cx p l e R s m args below meth c Z own nm bytes maxL rt T' (locs ++ L) (cells + rm.cells) (slots + rm.slots) h → Go p e below En T' m pc' Ls (v :: rest)) (hp : pc + 3 = pc' := by rfl) : Go p e below En T m pc Ls st :=
  Go.callI X pc' argsL rest W hy1 wl wm wz hy hrn wc pd hd ct hlen hst hsz hW hf hl hce hsl (fun T' v' L X' q => by
    obtain ⟨rfl, q2⟩ := q
    rw [q2] at X'
    exact k T' L X') hp
theorem Go.callV (X : Cx p l e R s m args below meth c Z own nm bytes maxL rt T locs cells slots h) (pc' : Nat) {idx : Nat} {y z : MethodName} {C : String} {by' : ByteArray} {ml' : Nat} {rt' : Option FieldType} {rm : Room} {ps : List FieldType} {rr : Option FieldType} {a : Addr} {Q' : Option Value → Heap → Prop} (argsL rest : List Value) (W : Nat) (wl : (Jvm.Cond.methodLink own idx y).before a0 Z = true) (wd : (Jvm.Cond.declares y).before a0 Z = true) (wf : (Jvm.Cond.selects C y z).before a0 Z = true) (nf : NotFace s y) (wm : (Jvm.Cond.instanceMethod z).before a0 Z = true) (wz : (Jvm.Cond.initialized z.cls).before a0 Z = true) (hy : y.cls ≠ "java/lang/invoke/MethodHandle" ∧ y.cls ≠ "java/lang/invoke/VarHandle") (E : Exa Z h a C) (wc : (Jvm.Cond.code z by' ml' rt').before a0 Z = true) (pd : parseMethodDescriptor y.desc = some ⟨ps, rr⟩) (hd : decode bytes pc = .ok (.invokevirtual idx, 3)) (ct : Ct l Z [] z by' ml' rt' rm ((Value.ref a :: argsL).toArray) h Q') (hlen : argsL.length = ps.length) (hst : st = argsL.reverse ++ .ref a :: rest) (hsz : Ls.size = maxL) (hW : (rest.map fun v => v.category).sum ≤ W) (hf : rm.frames + 1 ≤ R.frames) (hl : W + (ml' + 11) + rm.locals ≤ R.locals) (hce : cells + rm.cells ≤ R.cells) (hsl : slots + rm.slots ≤ R.slots)
    (k : ∀ T' v L, Cx p l e R s m args below meth c Z own nm bytes maxL rt T' (locs ++ L) (cells + rm.cells) (slots + rm.slots) T'.heap → Q' v T'.heap → Go p e below En T' m pc' Ls (v.toList ++ rest)) (hp : pc + 3 = pc' := by rfl) : Go p e below En T m pc Ls st := by
  subst hp
  obtain ⟨cq, kq, qa, qb, qc⟩ := isOf X.hZ X.eq E
  obtain ⟨v, _, ⟨T', L', k', n'⟩, -, X', ⟨L, hq, e1, e2, e3⟩, st'⟩ := X.sd.virtualBack X.hx (y := y) (z := z) X.hown (mvT X.hZ wl) (mvT X.hZ wd) nf (mvT X.hZ wf) (mvT X.hZ wm) hy (X.back (W := W) ct wc wz hf hl) qa qc (g := mkF m pc Ls st) rfl (hsz.trans X.hml.symm) (Steps.refl _) (argsL := argsL) (rest := rest) (lenOf pd hlen) hst (by simpa using hW) (hb X.hby hd) (fun _ _ => ⟨rfl, X.eq, hce, hsl⟩)
  dsimp only [Pt.U, Pt.locs, Pt.cells, Pt.slots] at X' e1 e2 e3 st' hq
  subst e1 e2 e3
  exact Go.step (fun _ hr => Steps.trans st' hr) (k T' v L (X.mk' X' rfl (X.fr.app hq.1) hq.2.1) hq.2.2)
theorem Go.callVP (X : Cx p l e R s m args below meth c Z own nm bytes maxL rt T locs cells slots h) (pc' : Nat) {idx : Nat} {y z : MethodName} {C : String} {by' : ByteArray} {ml' : Nat} {rt' : Option FieldType} {rm : Room} {ps : List FieldType} {rr : Option FieldType} {a : Addr} {v : Value} (argsL rest : List Value) (W : Nat) (wl : (Jvm.Cond.methodLink own idx y).before a0 Z = true) (wd : (Jvm.Cond.declares y).before a0 Z = true) (wf : (Jvm.Cond.selects C y z).before a0 Z = true) (nf : NotFace s y) (wm : (Jvm.Cond.instanceMethod z).before a0 Z = true) (wz : (Jvm.Cond.initialized z.cls).before a0 Z = true) (hy : y.cls ≠ "java/lang/invoke/MethodHandle" ∧ y.cls ≠ "java/lang/invoke/VarHandle") (E : Exa Z h a C) (wc : (Jvm.Cond.code z by' ml' rt').before a0 Z = true) (pd : parseMethodDescriptor y.desc = some ⟨ps, rr⟩) (hd : decode bytes pc = .ok (.invokevirtual idx, 3)) (ct : Ct l Z [] z by' ml' rt' rm ((Value.ref a :: argsL).toArray) h (Pu h v)) (hlen : argsL.length = ps.length) (hst : st = argsL.reverse ++ .ref a :: rest) (hsz : Ls.size = maxL) (hW : (rest.map fun v => v.category).sum ≤ W) (hf : rm.frames + 1 ≤ R.frames) (hl : W + (ml' + 11) + rm.locals ≤ R.locals) (hce : cells + rm.cells ≤ R.cells) (hsl : slots + rm.slots ≤ R.slots)
    (k : ∀ T' L, Cx p l e R s m args below meth c Z own nm bytes maxL rt T' (locs ++ L) (cells + rm.cells) (slots + rm.slots) h → Go p e below En T' m pc' Ls (v :: rest)) (hp : pc + 3 = pc' := by rfl) : Go p e below En T m pc Ls st :=
  Go.callV X pc' argsL rest W wl wd wf nf wm wz hy E wc pd hd ct hlen hst hsz hW hf hl hce hsl (fun T' v' L X' q => by
    obtain ⟨rfl, q2⟩ := q
    rw [q2] at X'
    exact k T' L X') hp
theorem Go.callU (X : Cx p l e R s m args below meth c Z own nm bytes maxL rt T locs cells slots h) (pc' : Nat) {idx : Nat} {y z : MethodName} {C owner : String} {by' : ByteArray} {ml' : Nat} {rt' : Option FieldType} {rm : Room} {ps : List FieldType} {rr : Option FieldType} {a : Addr} {Q' : Option Value → Heap → Prop} (argsL rest : List Value) (W : Nat) (wl : (Jvm.Cond.methodLink own idx y).before a0 Z = true) (wsm : (Jvm.Cond.sameMethod y.cls owner y.name y.desc).before a0 Z = true) (wd : (Jvm.Cond.declares ⟨owner, y.name, y.desc⟩).before a0 Z = true) (wf : (Jvm.Cond.selects C y z).before a0 Z = true) (wm : (Jvm.Cond.instanceMethod z).before a0 Z = true) (wz : (Jvm.Cond.initialized z.cls).before a0 Z = true) (hy : owner ≠ "java/lang/invoke/MethodHandle" ∧ owner ≠ "java/lang/invoke/VarHandle") (E : Exa Z h a C) (wc : (Jvm.Cond.code z by' ml' rt').before a0 Z = true) (pd : parseMethodDescriptor y.desc = some ⟨ps, rr⟩) (hd : decode bytes pc = .ok (.invokevirtual idx, 3)) (ct : Ct l Z [] z by' ml' rt' rm ((Value.ref a :: argsL).toArray) h Q') (hlen : argsL.length = ps.length) (hst : st = argsL.reverse ++ .ref a :: rest) (hsz : Ls.size = maxL) (hW : (rest.map fun v => v.category).sum ≤ W) (hf : rm.frames + 1 ≤ R.frames) (hl : W + (ml' + 11) + rm.locals ≤ R.locals) (hce : cells + rm.cells ≤ R.cells) (hsl : slots + rm.slots ≤ R.slots)
    (k : ∀ T' v L, Cx p l e R s m args below meth c Z own nm bytes maxL rt T' (locs ++ L) (cells + rm.cells) (slots + rm.slots) T'.heap → Q' v T'.heap → Go p e below En T' m pc' Ls (v.toList ++ rest)) (hp : pc + 3 = pc' := by rfl) : Go p e below En T m pc Ls st := by
  subst hp
  obtain ⟨cq, kq, qa, qb, qc⟩ := isOf X.hZ X.eq E
  obtain ⟨v, _, ⟨T', L', k', n'⟩, -, X', ⟨L, hq, e1, e2, e3⟩, st'⟩ := X.sd.virtualBackUp X.hx (x := y) (y := z) X.hown (mvT X.hZ wl) (mvT X.hZ wsm) (mvT X.hZ wd) hy (mvT X.hZ wf) (mvT X.hZ wm) (X.back (W := W) ct wc wz hf hl) qa qc (g := mkF m pc Ls st) rfl (hsz.trans X.hml.symm) (Steps.refl _) (argsL := argsL) (rest := rest) (lenOf pd hlen) hst (by simpa using hW) (hb X.hby hd) (fun _ _ => ⟨rfl, X.eq, hce, hsl⟩)
  dsimp only [Pt.U, Pt.locs, Pt.cells, Pt.slots] at X' e1 e2 e3 st' hq
  subst e1 e2 e3
  exact Go.step (fun _ hr => Steps.trans st' hr) (k T' v L (X.mk' X' rfl (X.fr.app hq.1) hq.2.1) hq.2.2)
theorem Go.callUP (X : Cx p l e R s m args below meth c Z own nm bytes maxL rt T locs cells slots h) (pc' : Nat) {idx : Nat} {y z : MethodName} {C owner : String} {by' : ByteArray} {ml' : Nat} {rt' : Option FieldType} {rm : Room} {ps : List FieldType} {rr : Option FieldType} {a : Addr} {v : Value} (argsL rest : List Value) (W : Nat) (wl : (Jvm.Cond.methodLink own idx y).before a0 Z = true) (wsm : (Jvm.Cond.sameMethod y.cls owner y.name y.desc).before a0 Z = true) (wd : (Jvm.Cond.declares ⟨owner, y.name, y.desc⟩).before a0 Z = true) (wf : (Jvm.Cond.selects C y z).before a0 Z = true) (wm : (Jvm.Cond.instanceMethod z).before a0 Z = true) (wz : (Jvm.Cond.initialized z.cls).before a0 Z = true) (hy : owner ≠ "java/lang/invoke/MethodHandle" ∧ owner ≠ "java/lang/invoke/VarHandle") (E : Exa Z h a C) (wc : (Jvm.Cond.code z by' ml' rt').before a0 Z = true) (pd : parseMethodDescriptor y.desc = some ⟨ps, rr⟩) (hd : decode bytes pc = .ok (.invokevirtual idx, 3)) (ct : Ct l Z [] z by' ml' rt' rm ((Value.ref a :: argsL).toArray) h (Pu h v)) (hlen : argsL.length = ps.length) (hst : st = argsL.reverse ++ .ref a :: rest) (hsz : Ls.size = maxL) (hW : (rest.map fun v => v.category).sum ≤ W) (hf : rm.frames + 1 ≤ R.frames) (hl : W + (ml' + 11) + rm.locals ≤ R.locals) (hce : cells + rm.cells ≤ R.cells) (hsl : slots + rm.slots ≤ R.slots)
    (k : ∀ T' L, Cx p l e R s m args below meth c Z own nm bytes maxL rt T' (locs ++ L) (cells + rm.cells) (slots + rm.slots) h → Go p e below En T' m pc' Ls (v :: rest)) (hp : pc + 3 = pc' := by rfl) : Go p e below En T m pc Ls st :=
  Go.callU X pc' argsL rest W wl wsm wd wf wm wz hy E wc pd hd ct hlen hst hsz hW hf hl hce hsl (fun T' v' L X' q => by
    obtain ⟨rfl, q2⟩ := q
    rw [q2] at X'
    exact k T' L X') hp
theorem Cx.more {cells' slots' : Nat} (X : Cx p l e R s m args below meth c Z own nm bytes maxL rt T locs cells slots h) (q : cells ≤ cells' := by decide) (r : slots ≤ slots' := by decide) : Cx p l e R s m args below meth c Z own nm bytes maxL rt T locs cells' slots' h := X.mk' (X.sd.more q r) X.eq X.fr X.old
theorem Go.join (X : Cx p l e R s m args below meth c Z own nm bytes maxL rt T locs cells slots h) {α : Type} (P : α → Heap → Prop) (pc1 : Nat) (Ls1 : α → Array Slot) (st1 : α → List Value) (c1 s1 : Nat)
    (tail : ∀ T' locs' h' a, Cx p l e R s m args below meth c Z own nm bytes maxL rt T' locs' c1 s1 h' → P a h' → Go p e below En T' m pc1 (Ls1 a) (st1 a))
    (heads : (∀ T' locs' h' a, Cx p l e R s m args below meth c Z own nm bytes maxL rt T' locs' c1 s1 h' → P a h' → Go p e below En T' m pc1 (Ls1 a) (st1 a)) → Go p e below En T m pc Ls st) : Go p e below En T m pc Ls st := heads tail
end Kit

section Ankit
variable {p : Program} {l : Launch} {e : Env} {R : Room} {s : State} {m : MethodId} {args : Array Value} {below : List Frame} {meth : Method} {c : Code} {T : State} {locs : List Loc} {cells slots : Nat} {Z : State} {a0 : Array Value} {h h' : Heap} {own nm : String} {bytes : ByteArray} {maxL : Nat} {rt : Option FieldType} {En : Option Value → State → Prop} {pc : Nat} {Ls : Array Slot} {st : List Value}
theorem n_int {n : Nat} (hn : n < 2147483648) : (Int32.ofNat n).toInt = n := len_toInt hn
theorem n_succ (i : Nat) : Int32.ofNat i + 1 = Int32.ofNat (i + 1) := by rw [Int32.ofNat_add]; rfl
theorem n_lt {i n : Nat} (hi : i < n) (hn : n < 2147483648) : Int32.ofNat i < Int32.ofNat n := by rw [Int32.lt_iff_toInt_lt, n_int hn, n_int (by omega)]; omega
theorem n_nlt {i n : Nat} (hi : n ≤ i) (hn : i < 2147483648) : ¬ Int32.ofNat i < Int32.ofNat n := by rw [Int32.lt_iff_toInt_lt, n_int hn, n_int (by omega)]; omega
theorem n_nn {n : Nat} (hn : n < 2147483648) : ¬ Int32.ofNat n < 0 := by rw [Int32.lt_iff_toInt_lt, n_int hn]; simp
theorem n_cl {n : Nat} (hn : n < 2147483648) : (Int32.ofNat n).toNatClampNeg = n := by simp [Int32.toNatClampNeg, n_int hn]
theorem n_inj {i n : Nat} (hi : i < 2147483648) (hn : n < 2147483648) (q : Int32.ofNat i = Int32.ofNat n) : i = n := by
  have := congrArg Int32.toInt q
  rw [n_int hi, n_int hn] at this
  omega
theorem n_b (x : Int32) : x.toInt8.toInt32.toInt8.toInt32 = x.toInt8.toInt32 := by simp
/-- an array of n ints (bytes, chars ..) that holds f 0, f 1, .. -/
def An (Z : State) (h : Heap) (a : Addr) (ty : FieldType) (n : Nat) (f : Nat → Int32) : Prop := n < 2147483648 ∧ ∃ k vs d, Arv Z h a k ty (Int32.ofNat n) vs d ∧ vs.length = n ∧ ∀ j, j < n → vs.getD j d = Value.int (f j)
def upd (f : Nat → Int32) (i : Nat) (x : Int32) : Nat → Int32 := fun j => if j = i then x else f j
variable {a b : Addr} {ty : FieldType} {n : Nat} {f g : Nat → Int32}
theorem An.len (A : An Z h a ty n f) : n < 2147483648 := A.1
theorem An.lt (A : An Z h a ty n f) : a < h.size := by obtain ⟨-, k, vs, d, V, -⟩ := A; exact V.lt
theorem An.ext (A : An Z h a ty n f) (E : Ext h h') : An Z h' a ty n f := by obtain ⟨q, k, vs, d, V, r⟩ := A; exact ⟨q, k, vs, d, V.ext E, r⟩
theorem An.other {i : Nat} {x : Value} (A : An Z h b ty n f) (W : Wr h h' a i x) (q : b ≠ a) : An Z h' b ty n f := by obtain ⟨q0, k, vs, d, V, r⟩ := A; exact ⟨q0, k, vs, d, V.other W q, r⟩
theorem An.keep {ws : List Addr} (A : An Z h a ty n f) (K : Keep h h' ws) (q : a ∉ ws) : An Z h' a ty n f := by obtain ⟨q0, k, vs, d, V, r⟩ := A; exact ⟨q0, k, vs, d, V.keep K q, r⟩
theorem An.congr (A : An Z h a ty n f) (q : ∀ j, j < n → f j = g j) : An Z h a ty n g := by obtain ⟨q0, k, vs, d, V, r1, r2⟩ := A; exact ⟨q0, k, vs, d, V, r1, fun j hj => by rw [r2 j hj, q j hj]⟩
theorem An.new {k : ClassId} (V : Arv Z h a k ty (Int32.ofNat n) [] (.int 0)) (hn : n < 2147483648) : An Z h a ty n (fun _ => 0) := by
  refine ⟨hn, k, List.replicate n (.int 0), .int 0, V.pad (pad_rep [] (.int 0) n), by simp, fun j hj => ?_⟩
  rw [List.getD_eq_getElem?_getD, List.getElem?_replicate]
  simp [hj]
theorem An.inb (A : An Z h a ty n f) {i : Nat} (hi : i < n) : ¬ Int32.ofNat i < 0 ∧ Int32.ofNat i < Int32.ofNat n := ⟨n_nn (Nat.lt_trans hi A.1), n_lt hi A.1⟩
theorem An.sets {k : ClassId} {vs : List Value} {d : Value} {i : Nat} {x : Int32} (V : Arv Z h a k ty (Int32.ofNat n) (vs.set i (.int x)) d) (hn : n < 2147483648) (hl : vs.length = n) (hi : i < n) (r : ∀ j, j < n → vs.getD j d = Value.int (f j)) : An Z h a ty n (upd f i x) := by
  refine ⟨hn, k, vs.set i (.int x), d, V, by simp [hl], fun j hj => ?_⟩
  unfold upd
  rw [List.getD_eq_getElem?_getD]
  by_cases q : j = i
  · subst q
    rw [List.getElem?_set_self (by omega), if_pos rfl]; rfl
  · rw [List.getElem?_set_ne (Ne.symm q), if_neg q, ← List.getD_eq_getElem?_getD]; exact r j hj
theorem Go.alenN (X : Cx p l e R s m args below meth c Z own nm bytes maxL rt T locs cells slots h) (pc' : Nat) (A : An Z h a ty n f) (hd : decode bytes pc = .ok (.arraylength, 1)) (k : Go p e below En T m pc' Ls (.int (Int32.ofNat n) :: st)) (hp : pc + 1 = pc' := by rfl) : Go p e below En T m pc Ls (.ref a :: st) := by
  obtain ⟨q, kA, vs, d, V, r1, r2⟩ := A
  exact Go.alen X pc' V hd k hp
theorem Go.caN (X : Cx p l e R s m args below meth c Z own nm bytes maxL rt T locs cells slots h) (pc' : Nat) (A : An Z h a .char n f) (i : Nat) (hi : i < n) (hd : decode bytes pc = .ok (.caload, 1)) (k : Go p e below En T m pc' Ls (.int (f i) :: st)) (hp : pc + 1 = pc' := by rfl) : Go p e below En T m pc Ls (.int (Int32.ofNat i) :: .ref a :: st) := by
  have hj := A.inb hi
  obtain ⟨q, kA, vs, d, V, r1, r2⟩ := A
  exact Go.caload X pc' V hd hj (by rw [n_cl (Nat.lt_trans hi q)]; exact r2 i hi) k hp
theorem Go.baN (X : Cx p l e R s m args below meth c Z own nm bytes maxL rt T locs cells slots h) (pc' : Nat) (A : An Z h a .byte n f) (i : Nat) (hi : i < n) (hd : decode bytes pc = .ok (.baload, 1)) (k : Go p e below En T m pc' Ls (.int (f i) :: st)) (hp : pc + 1 = pc' := by rfl) : Go p e below En T m pc Ls (.int (Int32.ofNat i) :: .ref a :: st) := by
  have hj := A.inb hi
  obtain ⟨q, kA, vs, d, V, r1, r2⟩ := A
  exact Go.baload X pc' V hd hj (by rw [n_cl (Nat.lt_trans hi q)]; exact r2 i hi) k hp
theorem Go.stCN (X : Cx p l e R s m args below meth c Z own nm bytes maxL rt T locs cells slots h) (pc' : Nat) {x : Int32} (A : An Z h a .char n f) (i : Nat) (hi : i < n) (hd : decode bytes pc = .ok (.castore, 1)) (ha : Z.heap.size ≤ a)
    (k : ∀ T' h' w, Cx p l e R s m args below meth c Z own nm bytes maxL rt T' (locs ++ [⟨a, w⟩]) cells slots h' → Wr h h' a w (.int (nar .char x)) → An Z h' a .char n (upd f i (nar .char x)) → Go p e below En T' m pc' Ls st) (hp : pc + 1 = pc' := by rfl) : Go p e below En T m pc Ls (.int x :: .int (Int32.ofNat i) :: .ref a :: st) := by
  have hj := A.inb hi
  obtain ⟨q, kA, vs, d, V, r1, r2⟩ := A
  exact Go.stC X pc' V hd hj i (n_cl (Nat.lt_trans hi q)) (by omega) ha (fun T' h' X' W V' => k T' h' _ X' W (An.sets V' q r1 hi r2)) hp
theorem Go.stBN (X : Cx p l e R s m args below meth c Z own nm bytes maxL rt T locs cells slots h) (pc' : Nat) {x : Int32} (A : An Z h a .byte n f) (i : Nat) (hi : i < n) (hd : decode bytes pc = .ok (.bastore, 1)) (ha : Z.heap.size ≤ a)
    (k : ∀ T' h' w, Cx p l e R s m args below meth c Z own nm bytes maxL rt T' (locs ++ [⟨a, w⟩]) cells slots h' → Wr h h' a w (.int (nar .byte x)) → An Z h' a .byte n (upd f i (nar .byte x)) → Go p e below En T' m pc' Ls st) (hp : pc + 1 = pc' := by rfl) : Go p e below En T m pc Ls (.int x :: .int (Int32.ofNat i) :: .ref a :: st) := by
  have hj := A.inb hi
  obtain ⟨q, kA, vs, d, V, r1, r2⟩ := A
  exact Go.stB X pc' V hd hj i (n_cl (Nat.lt_trans hi q)) (by omega) ha (fun T' h' X' W V' => k T' h' _ X' W (An.sets V' q r1 hi r2)) hp
theorem Go.newC (X : Cx p l e R s m args below meth c Z own nm bytes maxL rt T locs cells slots h) (pc' : Nat) (w : (Jvm.Cond.arrayClass .char).before a0 Z = true) (hd : decode bytes pc = .ok (.newarray .char, 2)) (cap : Nat) (hcap : n ≤ cap) (hcp : cap ≤ 67108864) (hc : cells + 1 ≤ R.cells) (hl : slots + cap ≤ R.slots)
    (k : ∀ T' h' a, Cx p l e R s m args below meth c Z own nm bytes maxL rt T' locs (cells + 1) (slots + cap) h' → Ext h h' → h.size = a → An Z h' a .char n (fun _ => 0) → Go p e below En T' m pc' Ls (.ref a :: st)) (hp : pc + 2 = pc' := by rfl) : Go p e below En T m pc Ls (.int (Int32.ofNat n) :: st) := by
  have hn : n < 2147483648 := by omega
  exact Go.newP X pc' (aty := .char) w hd cap (n_nn hn) (by rw [n_cl hn]; exact hcap) (by omega) hc hl (fun T' h' a kA X' E q V => k T' h' a X' E q (An.new V hn)) hp
theorem Go.newB (X : Cx p l e R s m args below meth c Z own nm bytes maxL rt T locs cells slots h) (pc' : Nat) (w : (Jvm.Cond.arrayClass .byte).before a0 Z = true) (hd : decode bytes pc = .ok (.newarray .byte, 2)) (cap : Nat) (hcap : n ≤ cap) (hcp : cap ≤ 67108864) (hc : cells + 1 ≤ R.cells) (hl : slots + cap ≤ R.slots)
    (k : ∀ T' h' a, Cx p l e R s m args below meth c Z own nm bytes maxL rt T' locs (cells + 1) (slots + cap) h' → Ext h h' → h.size = a → An Z h' a .byte n (fun _ => 0) → Go p e below En T' m pc' Ls (.ref a :: st)) (hp : pc + 2 = pc' := by rfl) : Go p e below En T m pc Ls (.int (Int32.ofNat n) :: st) := by
  have hn : n < 2147483648 := by omega
  exact Go.newP X pc' (aty := .byte) w hd cap (n_nn hn) (by rw [n_cl hn]; exact hcap) (by omega) hc hl (fun T' h' a kA X' E q V => k T' h' a X' E q (An.new V hn)) hp
end Ankit
theorem pd_0 : parseMethodDescriptor "([CI[BII)I" = some ⟨[(.array .char), .int, (.array .byte), .int, .int], some .int⟩ := by decide +kernel
theorem pd_1 : parseMethodDescriptor "([CII)[B" = some ⟨[(.array .char), .int, .int], some (.array .byte)⟩ := by decide +kernel
theorem pd_2 : parseMethodDescriptor "([BI)B" = some ⟨[(.array .byte), .int], some .byte⟩ := by decide +kernel
theorem pd_3 : parseMethodDescriptor "([CIILjava/lang/Void;)V" = some ⟨[(.array .char), .int, .int, (.object "java/lang/Void")], none⟩ := by decide +kernel
theorem pd_4 : parseMethodDescriptor "()B" = some ⟨[], some .byte⟩ := by decide +kernel
theorem pd_5 : parseMethodDescriptor "(I)Z" = some ⟨[.int], some .boolean⟩ := by decide +kernel
theorem pd_6 : parseMethodDescriptor "(II)I" = some ⟨[.int, .int], some .int⟩ := by decide +kernel
theorem pd_7 : parseMethodDescriptor "([BIII)I" = some ⟨[(.array .byte), .int, .int, .int], some .int⟩ := by decide +kernel
theorem pd_8 : parseMethodDescriptor "()Z" = some ⟨[], some .boolean⟩ := by decide +kernel
theorem pd_9 : parseMethodDescriptor "()I" = some ⟨[], some .int⟩ := by decide +kernel
theorem pd_10 : parseMethodDescriptor "(I)C" = some ⟨[.int], some .char⟩ := by decide +kernel
theorem pd_11 : parseMethodDescriptor "(I)I" = some ⟨[.int], some .int⟩ := by decide +kernel
theorem pd_12 : parseMethodDescriptor "([C)V" = some ⟨[(.array .char)], none⟩ := by decide +kernel
theorem pd_13 : parseMethodDescriptor "(Ljava/lang/String;)Z" = some ⟨[(.object "java/lang/String")], some .boolean⟩ := by decide +kernel
def lo8 (x : Int32) : Int32 := (x >>> ((0 : Int32) &&& 31)).toInt8.toInt32
def hi8 (x : Int32) : Int32 := (x >>> ((8 : Int32) &&& 31)).toInt8.toInt32
/-- the String at a, its bytes at t, spells the n chars f 0, f 1, .. -/
def Str (Z : State) (h : Heap) (a t : Addr) (n : Nat) (f : Nat → Int32) : Prop :=
  Exa Z h a "java/lang/String" ∧ Fld Z h a "java/lang/String" "value" "[B" (.ref t) ∧ n < 1073741823 ∧ (∀ j, j < n → 0 ≤ (f j).toInt ∧ (f j).toInt < 65536) ∧
  ((Fld Z h a "java/lang/String" "coder" "B" (.int 0) ∧ ∃ g, An Z h t .byte n g ∧ ∀ j, j < n → ¬ 255 < f j ∧ g j = (f j).toInt8.toInt32) ∨
   (Fld Z h a "java/lang/String" "coder" "B" (.int 1) ∧ (∃ j, j < n ∧ 255 < f j) ∧ ∃ g, An Z h t .byte (2 * n) g ∧ ∀ j, j < n → g (2 * j) = lo8 (f j) ∧ g (2 * j + 1) = hi8 (f j)))
section Strings
variable {Z : State} {h h' : Heap} {a t b : Addr} {n : Nat} {f g : Nat → Int32}
theorem Str.exa (S : Str Z h a t n f) : Exa Z h a "java/lang/String" := S.1
theorem Str.lt (S : Str Z h a t n f) : a < h.size := S.1.lt
theorem Str.ltT (S : Str Z h a t n f) : t < h.size := by
  obtain ⟨-, -, -, -, ⟨-, g, A, -⟩ | ⟨-, -, g, A, -⟩⟩ := S
  · exact A.lt
  · exact A.lt
theorem Str.map (S : Str Z h a t n f) (p1 : ∀ {C}, Exa Z h a C → Exa Z h' a C) (p2 : ∀ {C m d v}, Fld Z h a C m d v → Fld Z h' a C m d v) (p3 : ∀ {k g}, An Z h t .byte k g → An Z h' t .byte k g) : Str Z h' a t n f := by
  obtain ⟨S1, S2, S3, S4, ⟨S5, g, A, G⟩ | ⟨S5, S6, g, A, G⟩⟩ := S
  · exact ⟨p1 S1, p2 S2, S3, S4, Or.inl ⟨p2 S5, g, p3 A, G⟩⟩
  · exact ⟨p1 S1, p2 S2, S3, S4, Or.inr ⟨p2 S5, S6, g, p3 A, G⟩⟩
theorem Str.ext (S : Str Z h a t n f) (E : Ext h h') : Str Z h' a t n f := S.map (fun F => F.ext E) (fun F => F.ext E) (fun F => F.ext E)
theorem Str.other {i : Nat} {v : Value} (S : Str Z h a t n f) (W : Wr h h' b i v) (q : a ≠ b) (r : t ≠ b) : Str Z h' a t n f := S.map (fun F => F.wr W) (fun F => F.other W (Or.inl q)) (fun F => F.other W r)
theorem Str.keep {ws : List Addr} (S : Str Z h a t n f) (K : Keep h h' ws) (q : a ∉ ws) (r : t ∉ ws) : Str Z h' a t n f := S.map (fun F => F.keep K) (fun F => F.keep K q) (fun F => F.keep K r)
theorem Str.lat (S : Str Z h a t n f) (hl : ∀ j, j < n → ¬ 255 < f j) : Fld Z h a "java/lang/String" "coder" "B" (.int 0) ∧ ∃ g, An Z h t .byte n g ∧ ∀ j, j < n → ¬ 255 < f j ∧ g j = (f j).toInt8.toInt32 := by
  obtain ⟨-, -, -, -, r | ⟨-, ⟨j, j1, j2⟩, -⟩⟩ := S
  · exact r
  · exact absurd j2 (hl j j1)
theorem Str.congr (S : Str Z h a t n f) (q : ∀ j, j < n → f j = g j) : Str Z h a t n g := by
  obtain ⟨S1, S2, S3, S4, ⟨S5, k, A, G⟩ | ⟨S5, ⟨j, j1, j2⟩, k, A, G⟩⟩ := S
  · exact ⟨S1, S2, S3, fun j hj => q j hj ▸ S4 j hj, Or.inl ⟨S5, k, A, fun j hj => q j hj ▸ G j hj⟩⟩
  · exact ⟨S1, S2, S3, fun j hj => q j hj ▸ S4 j hj, Or.inr ⟨S5, ⟨j, j1, q j j1 ▸ j2⟩, k, A, fun j hj => q j hj ▸ G j hj⟩⟩
theorem n_ge {x : Int32} (h : ¬ x < 0) : 0 ≤ x.toInt := by
  rw [Int32.lt_iff_toInt_lt] at h
  have e0 : (0 : Int32).toInt = 0 := by decide
  omega
/-- a char read back from its low byte -/
theorem n_low {x : Int32} (h0 : 0 ≤ x.toInt) (h1 : ¬ 255 < x) : (x.toInt8.toInt32 &&& 255) = x := by
  apply Int32.toInt_inj.mp
  have e := c_mask x.toInt8.toInt32 255 8 (by decide) (by decide)
  have b := c_i2b x
  rw [Int32.lt_iff_toInt_lt] at h1
  have e2 : (255 : Int32).toInt = 255 := by decide
  rw [e2] at h1
  rw [e]
  have : ((2 ^ 8 : Nat) : Int) = 256 := by decide
  rw [this]
  omega
theorem n_chr {x : Int32} (h0 : 0 ≤ x.toInt) (h1 : x.toInt < 65536) : x.toUInt32.toUInt16.toUInt32.toInt32 = x := by
  apply Int32.toInt_inj.mp
  have := c_i2c x
  omega
theorem n_le {x : Int32} (h : ¬ 255 < x) : x.toInt < 65536 := by
  rw [Int32.lt_iff_toInt_lt] at h
  have e : (255 : Int32).toInt = 255 := by decide
  omega
theorem n_nar {x : Int32} (h0 : 0 ≤ x.toInt) (h1 : x.toInt < 65536) : narrow .char (.int x) = .int x := by
  have := XT.narrow_c x
  rw [n_chr h0 h1] at this
  exact this
theorem n_ne0 {n : Nat} (h : 0 < n) (hn : n < 2147483648) : ¬ Int32.ofNat n = 0 := fun q => by
  have := n_inj hn (by decide) (show Int32.ofNat n = Int32.ofNat 0 from q)
  omega
theorem n_eqb {x y : Int32} (hx : 0 ≤ x.toInt) (hx' : ¬ 255 < x) (hy : 0 ≤ y.toInt) (hy' : ¬ 255 < y) (q : x.toInt8.toInt32 = y.toInt8.toInt32) : x = y := by
  rw [← n_low hx hx', q, n_low hy hy']
end Strings
theorem pn_java_lang_StringUTF16 : plainName "java/lang/StringUTF16" = true := by first | (simp [plainName, overriddenIn]; done) | decide +kernel
theorem dcmp5_0 : decode jdk_52_method_21_code 0 = .ok (.iconst 0, 1) := by decide +kernel
theorem dcmp5_1 : decode jdk_52_method_21_code 1 = .ok (.istore 5, 2) := by decide +kernel
theorem dcmp5_3 : decode jdk_52_method_21_code 3 = .ok (.iload 5, 2) := by decide +kernel
theorem dcmp5_5 : decode jdk_52_method_21_code 5 = .ok (.iload 4, 2) := by decide +kernel
theorem dcmp5_7 : decode jdk_52_method_21_code 7 = .ok (.if_icmp .ge 37, 3) := by decide +kernel
theorem dcmp5_10 : decode jdk_52_method_21_code 10 = .ok (.aload_n 0, 1) := by decide +kernel
theorem dcmp5_11 : decode jdk_52_method_21_code 11 = .ok (.iload_n 1, 1) := by decide +kernel
theorem dcmp5_12 : decode jdk_52_method_21_code 12 = .ok (.caload, 1) := by decide +kernel
theorem dcmp5_13 : decode jdk_52_method_21_code 13 = .ok (.istore 6, 2) := by decide +kernel
theorem dcmp5_15 : decode jdk_52_method_21_code 15 = .ok (.iload 6, 2) := by decide +kernel
theorem dcmp5_17 : decode jdk_52_method_21_code 17 = .ok (.sipush 255, 3) := by decide +kernel
theorem dcmp5_20 : decode jdk_52_method_21_code 20 = .ok (.if_icmp .le 6, 3) := by decide +kernel
theorem dcmp5_23 : decode jdk_52_method_21_code 23 = .ok (.iload 5, 2) := by decide +kernel
theorem dcmp5_25 : decode jdk_52_method_21_code 25 = .ok (.ireturn, 1) := by decide +kernel
theorem dcmp5_26 : decode jdk_52_method_21_code 26 = .ok (.aload_n 2, 1) := by decide +kernel
theorem dcmp5_27 : decode jdk_52_method_21_code 27 = .ok (.iload_n 3, 1) := by decide +kernel
theorem dcmp5_28 : decode jdk_52_method_21_code 28 = .ok (.iload 6, 2) := by decide +kernel
theorem dcmp5_30 : decode jdk_52_method_21_code 30 = .ok (.i2b, 1) := by decide +kernel
theorem dcmp5_31 : decode jdk_52_method_21_code 31 = .ok (.bastore, 1) := by decide +kernel
theorem dcmp5_32 : decode jdk_52_method_21_code 32 = .ok (.iinc 1 1, 3) := by decide +kernel
theorem dcmp5_35 : decode jdk_52_method_21_code 35 = .ok (.iinc 3 1, 3) := by decide +kernel
theorem dcmp5_38 : decode jdk_52_method_21_code 38 = .ok (.iinc 5 1, 3) := by decide +kernel
theorem dcmp5_41 : decode jdk_52_method_21_code 41 = .ok (.goto (-38), 3) := by decide +kernel
theorem dcmp5_44 : decode jdk_52_method_21_code 44 = .ok (.iload 4, 2) := by decide +kernel
theorem dcmp5_46 : decode jdk_52_method_21_code 46 = .ok (.ireturn, 1) := by decide +kernel
def QC (Z : State) (h0 : Heap) (dst : Addr) (n : Nat) (f : Nat → Int32) : Option Value → Heap → Prop := fun v h' => ∃ r g, v = some (.int (Int32.ofNat r)) ∧ r ≤ n ∧ Keep h0 h' [dst] ∧ An Z h' dst .byte n g ∧ (∀ j, j < r → ¬ 255 < f j ∧ g j = (f j).toInt8.toInt32) ∧ (r = n ∨ (r < n ∧ 255 < f r))
set_option maxRecDepth 65536 in
set_option maxHeartbeats 40000000 in
theorem lp_cmp {p : Program} {l : Launch} {e : Env} {R : Room} {s : State} {m : MethodId} {args : Array Value} {below : List Frame} {meth : Method} {c : Code} {Z : State} {nm : String} {ce sl cells slots : Nat} (hce : cells ≤ ce) (hsl : slots ≤ sl) (h0 : Heap) (src dst : Addr) (n : Nat) (f : Nat → Int32) (hne : src ≠ dst) (nd : Z.heap.size ≤ dst) :
    ∀ (k i : Nat), i + k = n → ∀ (T : State) (locs : List Loc) (h : Heap) (g : Nat → Int32) (o6 : Slot), One o6 → Cx p l e R s m args below meth c Z "java/lang/StringUTF16" nm jdk_52_method_21_code 7 (some .int) T locs cells slots h → An Z h src .char n f → An Z h dst .byte n g → (∀ j, j < i → ¬ 255 < f j ∧ g j = (f j).toInt8.toInt32) → Keep h0 h [dst] →
      Go p e below (FinN s Z (QC Z h0 dst n f) ce sl) T m 3 #[.val (.ref src), .val (.int (Int32.ofNat i)), .val (.ref dst), .val (.int (Int32.ofNat i)), .val (.int (Int32.ofNat n)), .val (.int (Int32.ofNat i)), o6] [] := by
  intro k
  induction k with
  | zero =>
    intro i hi T locs h g o6 ho X0 A B hg K
    have hin : i = n := by omega
    subst hin
    refine Go.iload X0 5 dcmp5_3 rfl ?_
    refine Go.iload X0 7 dcmp5_5 rfl ?_
    refine Go.icmpY X0 44 dcmp5_7 (XT.ii_ge_t (n_nlt (Nat.le_refl _) A.1)) ?_
    refine Go.iload X0 46 dcmp5_44 rfl ?_
    exact Go.retI X0 rfl (by simp) rfl dcmp5_46 (X0.fin ⟨_, g, rfl, Nat.le_refl _, K, B, hg, Or.inl rfl⟩ hce hsl)
  | succ k ih =>
    intro i hi T locs h g o6 ho X0 A B hg K
    have hin : i < n := by omega
    refine Go.iload X0 5 dcmp5_3 rfl ?_
    refine Go.iload X0 7 dcmp5_5 rfl ?_
    refine Go.icmpN X0 10 dcmp5_7 (XT.ii_ge_f (n_lt hin A.1)) ?_
    refine Go.aloadN X0 11 dcmp5_10 rfl rfl ?_
    refine Go.iloadN X0 12 dcmp5_11 rfl ?_
    refine Go.caN X0 13 A i hin dcmp5_12 ?_
    refine Go.istore X0 15 #[.val (.ref src), .val (.int (Int32.ofNat i)), .val (.ref dst), .val (.int (Int32.ofNat i)), .val (.int (Int32.ofNat n)), .val (.int (Int32.ofNat i)), .val (.int (f i))] dcmp5_13 (XS.store1 rfl ho rfl) ?_
    refine Go.iload X0 17 dcmp5_15 rfl ?_
    refine Go.sipush X0 20 (255 : Int32) dcmp5_17 ?_
    by_cases c21 : (255 : Int32) < (f i)
    · skip
      refine Go.icmpN X0 23 dcmp5_20 (XT.ii_le_f c21) ?_
      refine Go.iload X0 25 dcmp5_23 rfl ?_
      exact Go.retI X0 rfl (by simp) rfl dcmp5_25 (X0.fin ⟨i, g, rfl, Nat.le_of_lt hin, K, B, hg, Or.inr ⟨hin, c21⟩⟩ hce hsl)
    · skip
      refine Go.icmpY X0 26 dcmp5_20 (XT.ii_le_t c21) ?_
      refine Go.aloadN X0 27 dcmp5_26 rfl rfl ?_
      refine Go.iloadN X0 28 dcmp5_27 rfl ?_
      refine Go.iload X0 30 dcmp5_28 rfl ?_
      refine Go.i2b X0 31 dcmp5_30 ?_
      refine Go.stBN X0 32 B i hin dcmp5_31 nd ?_
      intro T22 h22 w22 X22 W22 V22
      have F23 : An Z h22 src .char n f := A.other W22 hne
      have F24 : An Z h22 dst .byte n (upd g i (nar .byte ((f i).toInt8.toInt32))) := V22
      refine Go.iinc X22 35 (1 : Int32) #[.val (.ref src), .val (.int ((Int32.ofNat i) + (1 : Int32))), .val (.ref dst), .val (.int (Int32.ofNat i)), .val (.int (Int32.ofNat n)), .val (.int (Int32.ofNat i)), .val (.int (f i))] dcmp5_32 rfl rfl ?_
      refine Go.iinc X22 38 (1 : Int32) #[.val (.ref src), .val (.int ((Int32.ofNat i) + (1 : Int32))), .val (.ref dst), .val (.int ((Int32.ofNat i) + (1 : Int32))), .val (.int (Int32.ofNat n)), .val (.int (Int32.ofNat i)), .val (.int (f i))] dcmp5_35 rfl rfl ?_
      refine Go.iinc X22 41 (1 : Int32) #[.val (.ref src), .val (.int ((Int32.ofNat i) + (1 : Int32))), .val (.ref dst), .val (.int ((Int32.ofNat i) + (1 : Int32))), .val (.int (Int32.ofNat n)), .val (.int ((Int32.ofNat i) + (1 : Int32))), .val (.int (f i))] dcmp5_38 rfl rfl ?_
      refine Go.goto X22 3 dcmp5_41 ?_
      rw [n_succ]
      refine ih (i + 1) (by omega) _ _ _ _ _ (One.val rfl) X22 F23 F24 (fun j hj => ?_) (K.wr W22 (Or.inl (List.mem_of_getElem? (i := 0) rfl)))
      by_cases q : j = i
      · subst q
        exact ⟨c21, by simp only [upd, if_pos rfl]; exact n_b _⟩
      · obtain ⟨q1, q2⟩ := hg j (by omega)
        exact ⟨q1, by simp only [upd, if_neg q]; exact q2⟩
theorem ef_cmp5 (m : MethodId) (src : Addr) (z0 : Int32) (dst : Addr) (z1 : Int32) (z2 : Int32) : entryFrame m #[(.ref src), (.int z0), (.ref dst), (.int z1), (.int z2)] 7 = mkF m 0 #[.val (.ref src), .val (.int z0), .val (.ref dst), .val (.int z1), .val (.int z2), .unset, .unset] [] := by first | (simp [entryFrame, mkF, argsToLocals, Value.category]; done) | rfl
set_option maxRecDepth 65536 in
set_option maxHeartbeats 40000000 in
theorem rm_cmp5 (l : Launch) (Z : State) (a0 : Array Value) (hw : ∀ d ∈ tables_1, d.before a0 Z = true) (h0 : Heap) (src dst : Addr) (n : Nat) (f g : Nat → Int32) (hne : src ≠ dst) (nd : Z.heap.size ≤ dst) (A : An Z h0 src .char n f) (B : An Z h0 dst .byte n g) :
    Ct l Z [] (⟨"java/lang/StringUTF16", "compress", "([CI[BII)I"⟩ : MethodName) jdk_52_method_21_code 7 (some .int) (⟨0, 0, 0, 0⟩ : Room) #[(.ref src), (.int (0 : Int32)), (.ref dst), (.int (0 : Int32)), (.int (Int32.ofNat n))] h0 (QC Z h0 dst n f) := by
  refine Ct.of pn_java_lang_StringUTF16 (fun m => ef_cmp5 m src 0 dst 0 (Int32.ofNat n)) ?_
  intro p e s m below meth c s₁ X0
  refine Go.iconst X0 1 (0 : Int32) dcmp5_0 ?_
  refine Go.istore X0 3 #[.val (.ref src), .val (.int (0 : Int32)), .val (.ref dst), .val (.int (0 : Int32)), .val (.int (Int32.ofNat n)), .val (.int (0 : Int32)), .unset] dcmp5_1 rfl ?_
  exact lp_cmp (Nat.le_refl _) (Nat.le_refl _) h0 src dst n f hne nd n 0 (by omega) _ _ _ g _ One.u X0 A B (fun j hj => absurd hj (Nat.not_lt_zero j)) (Keep.refl _ _)
theorem n_cf0 (n : Nat) : (XT.ushr (Int32.ofNat n - Int32.ofNat n) (31 : Int32)).toInt8.toInt32 = 0 := by rw [Int32.sub_self]; decide
theorem n_cf1 {n : Nat} (h0 : 0 < n) (h1 : n < 1073741823) : (XT.ushr (Int32.ofNat n - Int32.ofNat (2 * n)) (31 : Int32)).toInt8.toInt32 = 1 := by
  have e := c_iushr (Int32.ofNat n - Int32.ofNat (2 * n)) 31 31 (by decide) (by decide)
  have d := c_isub (Int32.ofNat n) (Int32.ofNat (2 * n))
  have r := rng32 (Int32.ofNat n - Int32.ofNat (2 * n))
  rw [n_int (by omega), n_int (by omega)] at d
  have p : ((2 ^ 31 : Nat) : Int) = 2147483648 := by decide
  rw [p] at e
  have : XT.ushr (Int32.ofNat n - Int32.ofNat (2 * n)) (31 : Int32) = 1 := by
    apply Int32.toInt_inj.mp
    show ((Int32.ofNat n - Int32.ofNat (2 * n)).toUInt32 >>> ((31 : Int32) &&& 31).toUInt32).toInt32.toInt = (1 : Int32).toInt
    rw [e]
    have : (1 : Int32).toInt = 1 := by decide
    omega
  rw [this]
  decide
theorem dcfal_0 : decode jdk_52_method_15_code 0 = .ok (.iload_n 1, 1) := by decide +kernel
theorem dcfal_1 : decode jdk_52_method_15_code 1 = .ok (.aload_n 0, 1) := by decide +kernel
theorem dcfal_2 : decode jdk_52_method_15_code 2 = .ok (.arraylength, 1) := by decide +kernel
theorem dcfal_3 : decode jdk_52_method_15_code 3 = .ok (.isub, 1) := by decide +kernel
theorem dcfal_4 : decode jdk_52_method_15_code 4 = .ok (.bipush 31, 2) := by decide +kernel
theorem dcfal_6 : decode jdk_52_method_15_code 6 = .ok (.iushr, 1) := by decide +kernel
theorem dcfal_7 : decode jdk_52_method_15_code 7 = .ok (.i2b, 1) := by decide +kernel
theorem dcfal_8 : decode jdk_52_method_15_code 8 = .ok (.ireturn, 1) := by decide +kernel
theorem ef_cfal (m : MethodId) (t : Addr) (z : Int32) : entryFrame m #[(.ref t), (.int z)] 2 = mkF m 0 #[.val (.ref t), .val (.int z)] [] := by first | (simp [entryFrame, mkF, argsToLocals, Value.category]; done) | rfl
set_option maxRecDepth 65536 in
set_option maxHeartbeats 40000000 in
theorem rm_cfal (l : Launch) (Z : State) (a0 : Array Value) (hw : ∀ d ∈ tables_1, d.before a0 Z = true) (h0 : Heap) (t : Addr) (z : Int32) (n k : Nat) (g : Nat → Int32) (r : Int32) (hz : z = Int32.ofNat n) (A : An Z h0 t .byte k g) (hr : (k = n ∧ r = 0) ∨ (k = 2 * n ∧ 0 < n ∧ n < 1073741823 ∧ r = 1)) :
    Ct l Z [] (⟨"java/lang/StringUTF16", "coderFromArrayLen", "([BI)B"⟩ : MethodName) jdk_52_method_15_code 2 (some .byte) (⟨0, 0, 0, 0⟩ : Room) #[(.ref t), (.int z)] h0 (Pu h0 (.int r)) := by
  refine Ct.of pn_java_lang_StringUTF16 (fun m => ef_cfal m t z) ?_
  intro p e s m below meth c s₁ X0
  subst hz
  refine Go.iloadN X0 1 dcfal_0 rfl ?_
  refine Go.aloadN X0 2 dcfal_1 rfl rfl ?_
  refine Go.alenN X0 3 A dcfal_2 ?_
  refine Go.isub X0 4 dcfal_3 ?_
  refine Go.bipush X0 6 (31 : Int32) dcfal_4 ?_
  refine Go.iushr X0 7 dcfal_6 ?_
  refine Go.i2b X0 8 dcfal_7 ?_
  rcases hr with ⟨rfl, rfl⟩ | ⟨rfl, q1, q2, rfl⟩
  · rw [n_cf0]
    exact Go.retI X0 rfl (by simp) rfl dcfal_8 (X0.fin ⟨rfl, rfl⟩ (by decide) (by decide))
  · rw [n_cf1 q1 q2]
    exact Go.retI X0 rfl (by simp) rfl dcfal_8 (X0.fin ⟨rfl, rfl⟩ (by decide) (by decide))
theorem dcmp3_0 : decode jdk_52_method_16_code 0 = .ok (.iload_n 2, 1) := by decide +kernel
theorem dcmp3_1 : decode jdk_52_method_16_code 1 = .ok (.newarray .byte, 2) := by decide +kernel
theorem dcmp3_3 : decode jdk_52_method_16_code 3 = .ok (.astore_n 3, 1) := by decide +kernel
theorem dcmp3_4 : decode jdk_52_method_16_code 4 = .ok (.aload_n 0, 1) := by decide +kernel
theorem dcmp3_5 : decode jdk_52_method_16_code 5 = .ok (.iload_n 1, 1) := by decide +kernel
theorem dcmp3_6 : decode jdk_52_method_16_code 6 = .ok (.aload_n 3, 1) := by decide +kernel
theorem dcmp3_7 : decode jdk_52_method_16_code 7 = .ok (.iconst 0, 1) := by decide +kernel
theorem dcmp3_8 : decode jdk_52_method_16_code 8 = .ok (.iload_n 2, 1) := by decide +kernel
theorem dcmp3_9 : decode jdk_52_method_16_code 9 = .ok (.invokestatic 115, 3) := by decide +kernel
theorem dcmp3_12 : decode jdk_52_method_16_code 12 = .ok (.istore 4, 2) := by decide +kernel
theorem dcmp3_14 : decode jdk_52_method_16_code 14 = .ok (.iload 4, 2) := by decide +kernel
theorem dcmp3_16 : decode jdk_52_method_16_code 16 = .ok (.iload_n 2, 1) := by decide +kernel
theorem dcmp3_17 : decode jdk_52_method_16_code 17 = .ok (.if_icmp .eq 40, 3) := by decide +kernel
theorem dcmp3_20 : decode jdk_52_method_16_code 20 = .ok (.aload_n 0, 1) := by decide +kernel
theorem dcmp3_21 : decode jdk_52_method_16_code 21 = .ok (.iload_n 1, 1) := by decide +kernel
theorem dcmp3_22 : decode jdk_52_method_16_code 22 = .ok (.iload_n 2, 1) := by decide +kernel
theorem dcmp3_23 : decode jdk_52_method_16_code 23 = .ok (.invokestatic 119, 3) := by decide +kernel
theorem dcmp3_26 : decode jdk_52_method_16_code 26 = .ok (.astore 5, 2) := by decide +kernel
theorem dcmp3_28 : decode jdk_52_method_16_code 28 = .ok (.aload 5, 2) := by decide +kernel
theorem dcmp3_30 : decode jdk_52_method_16_code 30 = .ok (.iload 4, 2) := by decide +kernel
theorem dcmp3_32 : decode jdk_52_method_16_code 32 = .ok (.invokestatic 71, 3) := by decide +kernel
theorem dcmp3_35 : decode jdk_52_method_16_code 35 = .ok (.sipush 255, 3) := by decide +kernel
theorem dcmp3_38 : decode jdk_52_method_16_code 38 = .ok (.if_icmp .gt 16, 3) := by decide +kernel
theorem dcmp3_41 : decode jdk_52_method_16_code 41 = .ok (.aload 5, 2) := by decide +kernel
theorem dcmp3_43 : decode jdk_52_method_16_code 43 = .ok (.iconst 0, 1) := by decide +kernel
theorem dcmp3_44 : decode jdk_52_method_16_code 44 = .ok (.aload_n 3, 1) := by decide +kernel
theorem dcmp3_45 : decode jdk_52_method_16_code 45 = .ok (.iconst 0, 1) := by decide +kernel
theorem dcmp3_46 : decode jdk_52_method_16_code 46 = .ok (.iload_n 2, 1) := by decide +kernel
theorem dcmp3_47 : decode jdk_52_method_16_code 47 = .ok (.invokestatic 123, 3) := by decide +kernel
theorem dcmp3_50 : decode jdk_52_method_16_code 50 = .ok (.iload_n 2, 1) := by decide +kernel
theorem dcmp3_51 : decode jdk_52_method_16_code 51 = .ok (.if_icmp .eq 6, 3) := by decide +kernel
theorem dcmp3_54 : decode jdk_52_method_16_code 54 = .ok (.aload 5, 2) := by decide +kernel
theorem dcmp3_56 : decode jdk_52_method_16_code 56 = .ok (.areturn, 1) := by decide +kernel
theorem dcmp3_57 : decode jdk_52_method_16_code 57 = .ok (.aload_n 3, 1) := by decide +kernel
theorem dcmp3_58 : decode jdk_52_method_16_code 58 = .ok (.areturn, 1) := by decide +kernel
theorem ef_cmp3 (m : MethodId) (src : Addr) (z0 : Int32) (z1 : Int32) : entryFrame m #[(.ref src), (.int z0), (.int z1)] 6 = mkF m 0 #[.val (.ref src), .val (.int z0), .val (.int z1), .unset, .unset, .unset] [] := by first | (simp [entryFrame, mkF, argsToLocals, Value.category]; done) | rfl
set_option maxRecDepth 65536 in
set_option maxHeartbeats 40000000 in
theorem rm_cmp3 (l : Launch) (Z : State) (a0 : Array Value) (hw : ∀ d ∈ tables_1, d.before a0 Z = true) (h0 : Heap) (src : Addr) (z0 z1 : Int32) (n : Nat) (f : Nat → Int32) (hz0 : z0 = 0) (hz1 : z1 = Int32.ofNat n) (hcap : n ≤ 15) (A : An Z h0 src .char n f) (hl : ∀ j, j < n → ¬ 255 < f j) :
    Ct l Z [] (⟨"java/lang/StringUTF16", "compress", "([CII)[B"⟩ : MethodName) jdk_52_method_16_code 6 (some (.array .byte)) (⟨1, 1, 15, 18⟩ : Room) #[(.ref src), (.int z0), (.int z1)] h0 (fun v h' => ∃ t g, v = some (.ref t) ∧ Keep h0 h' [] ∧ h0.size ≤ t ∧ An Z h' t .byte n g ∧ ∀ j, j < n → ¬ 255 < f j ∧ g j = (f j).toInt8.toInt32) := by
  refine Ct.of pn_java_lang_StringUTF16 (fun m => ef_cmp3 m src z0 z1) ?_
  intro p e s m below meth c s₁ X0
  subst hz0 hz1
  have K1 : Keep h0 h0 [] := Keep.refl _ _
  refine Go.iloadN X0 1 dcmp3_0 rfl ?_
  refine Go.newB X0 3 (n := n) (hw _ (List.mem_of_getElem? (i := 27) rfl)) dcmp3_1 15 hcap (by decide) (by decide) (by decide) ?_
  intro T2 h2 a2 X2 E2 g2 V2
  have nw_a2 : Z.heap.size ≤ a2 := by rw [← g2]; exact X0.le
  have si_a2 : h0.size ≤ a2 := by rw [← g2]; exact K1.1
  have ne_src_a2 : src ≠ a2 := by rw [← g2]; exact Nat.ne_of_lt A.lt
  have K3 : Keep h0 h2 [] := K1.ext E2
  have F4 : An Z h2 src .char n f := A.ext E2
  refine Go.astoreN X2 4 #[.val (.ref src), .val (.int (0 : Int32)), .val (.int (Int32.ofNat n)), .val (.ref a2), .unset, .unset] dcmp3_3 rfl rfl ?_
  refine Go.aloadN X2 5 dcmp3_4 rfl rfl ?_
  refine Go.iloadN X2 6 dcmp3_5 rfl ?_
  refine Go.aloadN X2 7 dcmp3_6 rfl rfl ?_
  refine Go.iconst X2 8 (0 : Int32) dcmp3_7 ?_
  refine Go.iloadN X2 9 dcmp3_8 rfl ?_
  refine Go.callS X2 12 [(.ref src), (.int (0 : Int32)), (.ref a2), (.int (0 : Int32)), (.int (Int32.ofNat n))] [] 0 (hw _ (List.mem_of_getElem? (i := 28) rfl)) (hw _ (List.mem_of_getElem? (i := 29) rfl)) (hw _ (List.mem_of_getElem? (i := 25) rfl)) (by decide) (hw _ (List.mem_of_getElem? (i := 30) rfl)) pd_0 dcmp3_9 (rm_cmp5 l Z a0 hw h2 src a2 n f _ ne_src_a2 nw_a2 F4 V2) rfl rfl rfl (Nat.le_of_eq rfl) (by decide) (by decide) (by decide) (by decide) ?_
  rintro T5 v5 L5 X5 ⟨r, g, rfl, hr, K, B, hg, hx⟩
  show Go p e below _ T5 m 12 #[.val (.ref src), .val (.int (0 : Int32)), .val (.int (Int32.ofNat n)), .val (.ref a2), .unset, .unset] [(.int (Int32.ofNat r))]
  have K6 : Keep h0 T5.heap [] := K3.trans K (allS (Or.inr si_a2) all0)
  have F7 : An Z T5.heap src .char n f := F4.keep K (ninS ne_src_a2 nin0)
  have hrn : r = n := hx.elim id (fun q => absurd q.2 (hl r q.1))
  subst hrn
  refine Go.istore X5 14 #[.val (.ref src), .val (.int (0 : Int32)), .val (.int (Int32.ofNat r)), .val (.ref a2), .val (.int (Int32.ofNat r)), .unset] dcmp3_12 rfl ?_
  refine Go.iload X5 16 dcmp3_14 rfl ?_
  refine Go.iloadN X5 17 dcmp3_16 rfl ?_
  refine Go.icmpY X5 57 dcmp3_17 (XT.ii_eq_t rfl) ?_
  refine Go.aloadN X5 58 dcmp3_57 rfl rfl ?_
  exact Go.retA X5 rfl rfl rfl dcmp3_58 (X5.fin ⟨_, g, rfl, K6, si_a2, B, hg⟩ (by decide) (by decide))
theorem pn_java_lang_String : plainName "java/lang/String" = true := by first | (simp [plainName, overriddenIn]; done) | decide +kernel
theorem di4_0 : decode jdk_42_method_149_code 0 = .ok (.aload_n 0, 1) := by decide +kernel
theorem di4_1 : decode jdk_42_method_149_code 1 = .ok (.invokespecial 1, 3) := by decide +kernel
theorem di4_4 : decode jdk_42_method_149_code 4 = .ok (.iload_n 3, 1) := by decide +kernel
theorem di4_5 : decode jdk_42_method_149_code 5 = .ok (.ifCond .ne 22, 3) := by decide +kernel
theorem di4_8 : decode jdk_42_method_149_code 8 = .ok (.aload_n 0, 1) := by decide +kernel
theorem di4_9 : decode jdk_42_method_149_code 9 = .ok (.ldc 7, 2) := by decide +kernel
theorem di4_11 : decode jdk_42_method_149_code 11 = .ok (.getfield 9, 3) := by decide +kernel
theorem di4_14 : decode jdk_42_method_149_code 14 = .ok (.putfield 9, 3) := by decide +kernel
theorem di4_17 : decode jdk_42_method_149_code 17 = .ok (.aload_n 0, 1) := by decide +kernel
theorem di4_18 : decode jdk_42_method_149_code 18 = .ok (.ldc 7, 2) := by decide +kernel
theorem di4_20 : decode jdk_42_method_149_code 20 = .ok (.getfield 15, 3) := by decide +kernel
theorem di4_23 : decode jdk_42_method_149_code 23 = .ok (.putfield 15, 3) := by decide +kernel
theorem di4_26 : decode jdk_42_method_149_code 26 = .ok (.return_, 1) := by decide +kernel
theorem di4_27 : decode jdk_42_method_149_code 27 = .ok (.getstatic 38, 3) := by decide +kernel
theorem di4_30 : decode jdk_42_method_149_code 30 = .ok (.ifCond .eq 28, 3) := by decide +kernel
theorem di4_33 : decode jdk_42_method_149_code 33 = .ok (.aload_n 1, 1) := by decide +kernel
theorem di4_34 : decode jdk_42_method_149_code 34 = .ok (.iload_n 2, 1) := by decide +kernel
theorem di4_35 : decode jdk_42_method_149_code 35 = .ok (.iload_n 3, 1) := by decide +kernel
theorem di4_36 : decode jdk_42_method_149_code 36 = .ok (.invokestatic 177, 3) := by decide +kernel
theorem di4_39 : decode jdk_42_method_149_code 39 = .ok (.astore 5, 2) := by decide +kernel
theorem di4_41 : decode jdk_42_method_149_code 41 = .ok (.aload_n 0, 1) := by decide +kernel
theorem di4_42 : decode jdk_42_method_149_code 42 = .ok (.aload 5, 2) := by decide +kernel
theorem di4_44 : decode jdk_42_method_149_code 44 = .ok (.iload_n 3, 1) := by decide +kernel
theorem di4_45 : decode jdk_42_method_149_code 45 = .ok (.invokestatic 47, 3) := by decide +kernel
theorem di4_48 : decode jdk_42_method_149_code 48 = .ok (.putfield 15, 3) := by decide +kernel
theorem di4_51 : decode jdk_42_method_149_code 51 = .ok (.aload_n 0, 1) := by decide +kernel
theorem di4_52 : decode jdk_42_method_149_code 52 = .ok (.aload 5, 2) := by decide +kernel
theorem di4_54 : decode jdk_42_method_149_code 54 = .ok (.putfield 9, 3) := by decide +kernel
theorem di4_57 : decode jdk_42_method_149_code 57 = .ok (.return_, 1) := by decide +kernel
theorem di4_58 : decode jdk_42_method_149_code 58 = .ok (.aload_n 0, 1) := by decide +kernel
theorem di4_59 : decode jdk_42_method_149_code 59 = .ok (.iconst 1, 1) := by decide +kernel
theorem di4_60 : decode jdk_42_method_149_code 60 = .ok (.putfield 15, 3) := by decide +kernel
theorem di4_63 : decode jdk_42_method_149_code 63 = .ok (.aload_n 0, 1) := by decide +kernel
theorem di4_64 : decode jdk_42_method_149_code 64 = .ok (.aload_n 1, 1) := by decide +kernel
theorem di4_65 : decode jdk_42_method_149_code 65 = .ok (.iload_n 2, 1) := by decide +kernel
theorem di4_66 : decode jdk_42_method_149_code 66 = .ok (.iload_n 3, 1) := by decide +kernel
theorem di4_67 : decode jdk_42_method_149_code 67 = .ok (.invokestatic 180, 3) := by decide +kernel
theorem di4_70 : decode jdk_42_method_149_code 70 = .ok (.putfield 9, 3) := by decide +kernel
theorem di4_73 : decode jdk_42_method_149_code 73 = .ok (.return_, 1) := by decide +kernel
theorem ef_i4 (m : MethodId) (a : Addr) (src : Addr) (z0 : Int32) (z1 : Int32) : entryFrame m #[(.ref a), (.ref src), (.int z0), (.int z1), .null] 6 = mkF m 0 #[.val (.ref a), .val (.ref src), .val (.int z0), .val (.int z1), .val .null, .unset] [] := by first | (simp [entryFrame, mkF, argsToLocals, Value.category]; done) | rfl
set_option maxRecDepth 65536 in
set_option maxHeartbeats 40000000 in
theorem rm_i4 (l : Launch) (Z : State) (a0 : Array Value) (hw : ∀ d ∈ tables_1, d.before a0 Z = true) (h0 : Heap) (cz : Int32) (SC : Sta Z Z.heap "java/lang/String" "COMPACT_STRINGS" "Z" (.int cz)) (hcz : ¬ cz = 0) (a src : Addr) (n : Nat) (f : Nat → Int32) (hn : 0 < n) (hcap : n ≤ 15) (E : Exa Z h0 a "java/lang/String") (FV : Fld Z h0 a "java/lang/String" "value" "[B" .null) (FC : Fld Z h0 a "java/lang/String" "coder" "B" (.int 0)) (na : Z.heap.size ≤ a) (hne : src ≠ a) (A : An Z h0 src .char n f) (hf : ∀ j, j < n → 0 ≤ (f j).toInt ∧ (f j).toInt < 65536) (hl : ∀ j, j < n → ¬ 255 < f j) (z0 z1 : Int32) (hz0 : z0 = 0) (hz1 : z1 = Int32.ofNat n) :
    Ct l Z [] (⟨"java/lang/String", "<init>", "([CIILjava/lang/Void;)V"⟩ : MethodName) jdk_42_method_149_code 6 none (⟨2, 1, 15, 35⟩ : Room) #[(.ref a), (.ref src), (.int z0), (.int z1), .null] h0 (fun v h' => v = none ∧ ∃ t, Keep h0 h' [a] ∧ h0.size ≤ t ∧ Str Z h' a t n f) := by
  refine Ct.of pn_java_lang_String (fun m => ef_i4 m a src z0 z1) ?_
  intro p e s m below meth c s₁ X0
  subst hz0 hz1
  have K1 : Keep h0 h0 [a] := Keep.refl _ _
  refine Go.aloadN X0 1 di4_0 rfl rfl ?_
  refine Go.initO X0 4 (hw _ (List.mem_of_getElem? (i := 19) rfl)) (hw _ (List.mem_of_getElem? (i := 20) rfl)) (hw _ (List.mem_of_getElem? (i := 21) rfl)) 0 di4_1 rfl (by decide) (by decide) (by decide) ?_
  intro T2 X2
  refine Go.iloadN X2 5 di4_4 rfl ?_
  refine Go.if0Y X2 27 di4_5 (XT.i0_ne_t (n_ne0 hn (by omega))) ?_
  refine Go.getS X2 30 (hw _ (List.mem_of_getElem? (i := 22) rfl)) SC di4_27 ?_
  intro T3 X3
  refine Go.if0N X3 33 di4_30 (XT.i0_eq_f hcz) ?_
  refine Go.aloadN X3 34 di4_33 rfl rfl ?_
  refine Go.iloadN X3 35 di4_34 rfl ?_
  refine Go.iloadN X3 36 di4_35 rfl ?_
  refine Go.callS X3 39 [(.ref src), (.int (0 : Int32)), (.int (Int32.ofNat n))] [] 0 (hw _ (List.mem_of_getElem? (i := 23) rfl)) (hw _ (List.mem_of_getElem? (i := 24) rfl)) (hw _ (List.mem_of_getElem? (i := 25) rfl)) (by decide) (hw _ (List.mem_of_getElem? (i := 26) rfl)) pd_1 di4_36 (rm_cmp3 l Z a0 hw h0 src 0 (Int32.ofNat n) n f rfl rfl hcap A hl) rfl rfl rfl (Nat.le_of_eq rfl) (by decide) (by decide) (by decide) (by decide) ?_
  rintro T4 v4 L4 X4 ⟨t, g, rfl, K3, gt, B, hg⟩
  show Go p e below _ T4 m 39 #[.val (.ref a), .val (.ref src), .val (.int (0 : Int32)), .val (.int (Int32.ofNat n)), .val .null, .unset] [(.ref t)]
  have nw_t : Z.heap.size ≤ t := Nat.le_trans X3.le gt
  have ne_a_t : a ≠ t := Nat.ne_of_lt (Nat.lt_of_lt_of_le E.lt gt)
  have ne_src_t : src ≠ t := Nat.ne_of_lt (Nat.lt_of_lt_of_le A.lt gt)
  have si_t : h0.size ≤ t := Nat.le_trans K1.1 gt
  have K5 : Keep h0 T4.heap [a] := K1.trans K3 all0
  have F6 : Exa Z T4.heap a "java/lang/String" := E.keep K3
  have F7 : Fld Z T4.heap a "java/lang/String" "value" "[B" .null := FV.keep K3 nin0
  have F8 : Fld Z T4.heap a "java/lang/String" "coder" "B" (.int (0 : Int32)) := FC.keep K3 nin0
  have F9 : An Z T4.heap src .char n f := A.keep K3 nin0
  refine Go.astore X4 41 #[.val (.ref a), .val (.ref src), .val (.int (0 : Int32)), .val (.int (Int32.ofNat n)), .val .null, .val (.ref t)] di4_39 rfl rfl ?_
  refine Go.aloadN X4 42 di4_41 rfl rfl ?_
  refine Go.aload X4 44 di4_42 rfl rfl ?_
  refine Go.iloadN X4 45 di4_44 rfl ?_
  refine Go.callSP X4 48 [(.ref t), (.int (Int32.ofNat n))] [(.ref a)] 1 (hw _ (List.mem_of_getElem? (i := 31) rfl)) (hw _ (List.mem_of_getElem? (i := 32) rfl)) (hw _ (List.mem_of_getElem? (i := 25) rfl)) (by decide) (hw _ (List.mem_of_getElem? (i := 33) rfl)) pd_2 di4_45 (rm_cfal l Z a0 hw T4.heap t (Int32.ofNat n) n n g 0 rfl B (Or.inl ⟨rfl, rfl⟩)) rfl rfl rfl (Nat.le_of_eq rfl) (by decide) (by decide) (by decide) (by decide) ?_
  intro T10 L10 X10
  refine Go.putF X10 51 (hw _ (List.mem_of_getElem? (i := 34) rfl)) F8 F6 (Or.inr ⟨(hw _ (List.mem_of_getElem? (i := 35) rfl)), rfl, rfl⟩) (hw _ (List.mem_of_getElem? (i := 6) rfl)) (ty := .byte) (by decide) rfl rfl na di4_48 ?_
  intro T11 h11 X11 W11
  have K12 : Keep h0 h11 [a] := K5.wr W11 (Or.inl (List.mem_of_getElem? (i := 0) rfl))
  have F13 : Exa Z h11 a "java/lang/String" := F6.wr W11
  have F14 : Fld Z h11 a "java/lang/String" "value" "[B" .null := F7.other W11 (Or.inr (slot_ne (Or.inr (hw _ (List.mem_of_getElem? (i := 37) rfl))) (Or.inr (hw _ (List.mem_of_getElem? (i := 35) rfl))) (by decide) (t := (.array .byte)) (t' := .byte) (by decide) (by decide)))
  have F15 : Fld Z h11 a "java/lang/String" "coder" "B" (.int (0 : Int32)) := F8.same W11
  have F16 : An Z h11 src .char n f := F9.other W11 hne
  have F17 : An Z h11 t .byte n g := B.other W11 (Ne.symm ne_a_t)
  refine Go.aloadN X11 52 di4_51 rfl rfl ?_
  refine Go.aload X11 54 di4_52 rfl rfl ?_
  refine Go.putF X11 57 (hw _ (List.mem_of_getElem? (i := 36) rfl)) F14 F13 (Or.inr ⟨(hw _ (List.mem_of_getElem? (i := 37) rfl)), rfl, rfl⟩) (hw _ (List.mem_of_getElem? (i := 6) rfl)) (ty := (.array .byte)) (by decide) rfl rfl na di4_54 ?_
  intro T18 h18 X18 W18
  have K19 : Keep h0 h18 [a] := K12.wr W18 (Or.inl (List.mem_of_getElem? (i := 0) rfl))
  have F20 : Exa Z h18 a "java/lang/String" := F13.wr W18
  have F21 : Fld Z h18 a "java/lang/String" "value" "[B" (.ref t) := F14.same W18
  have F22 : Fld Z h18 a "java/lang/String" "coder" "B" (.int (0 : Int32)) := F15.other W18 (Or.inr (slot_ne (Or.inr (hw _ (List.mem_of_getElem? (i := 35) rfl))) (Or.inr (hw _ (List.mem_of_getElem? (i := 37) rfl))) (by decide) (t := .byte) (t' := (.array .byte)) (by decide) (by decide)))
  have F23 : An Z h18 src .char n f := F16.other W18 hne
  have F24 : An Z h18 t .byte n g := F17.other W18 (Ne.symm ne_a_t)
  exact Go.retV X18 rfl di4_57 (X18.fin ⟨rfl, t, K19, si_t, F20, F21, by omega, hf, Or.inl ⟨F22, g, F24, hg⟩⟩ (by decide) (by decide))
theorem di1_0 : decode jdk_42_method_3_code 0 = .ok (.aload_n 0, 1) := by decide +kernel
theorem di1_1 : decode jdk_42_method_3_code 1 = .ok (.aload_n 1, 1) := by decide +kernel
theorem di1_2 : decode jdk_42_method_3_code 2 = .ok (.iconst 0, 1) := by decide +kernel
theorem di1_3 : decode jdk_42_method_3_code 3 = .ok (.aload_n 1, 1) := by decide +kernel
theorem di1_4 : decode jdk_42_method_3_code 4 = .ok (.arraylength, 1) := by decide +kernel
theorem di1_5 : decode jdk_42_method_3_code 5 = .ok (.aconst_null, 1) := by decide +kernel
theorem di1_6 : decode jdk_42_method_3_code 6 = .ok (.invokespecial 27, 3) := by decide +kernel
theorem di1_9 : decode jdk_42_method_3_code 9 = .ok (.return_, 1) := by decide +kernel
theorem ef_i1 (m : MethodId) (a : Addr) (src : Addr) : entryFrame m #[(.ref a), (.ref src)] 2 = mkF m 0 #[.val (.ref a), .val (.ref src)] [] := by first | (simp [entryFrame, mkF, argsToLocals, Value.category]; done) | rfl
set_option maxRecDepth 65536 in
set_option maxHeartbeats 40000000 in
theorem rm_i1 (l : Launch) (Z : State) (a0 : Array Value) (hw : ∀ d ∈ tables_1, d.before a0 Z = true) (h0 : Heap) (cz : Int32) (SC : Sta Z Z.heap "java/lang/String" "COMPACT_STRINGS" "Z" (.int cz)) (hcz : ¬ cz = 0) (a src : Addr) (n : Nat) (f : Nat → Int32) (hn : 0 < n) (hcap : n ≤ 15) (E : Exa Z h0 a "java/lang/String") (FV : Fld Z h0 a "java/lang/String" "value" "[B" .null) (FC : Fld Z h0 a "java/lang/String" "coder" "B" (.int 0)) (na : Z.heap.size ≤ a) (hne : src ≠ a) (A : An Z h0 src .char n f) (hf : ∀ j, j < n → 0 ≤ (f j).toInt ∧ (f j).toInt < 65536) (hl : ∀ j, j < n → ¬ 255 < f j) :
    Ct l Z [] (⟨"java/lang/String", "<init>", "([C)V"⟩ : MethodName) jdk_42_method_3_code 2 none (⟨3, 1, 15, 52⟩ : Room) #[(.ref a), (.ref src)] h0 (fun v h' => v = none ∧ ∃ t, Keep h0 h' [a] ∧ h0.size ≤ t ∧ Str Z h' a t n f) := by
  refine Ct.of pn_java_lang_String (fun m => ef_i1 m a src) ?_
  intro p e s m below meth c s₁ X0
  refine Go.aloadN X0 1 di1_0 rfl rfl ?_
  refine Go.aloadN X0 2 di1_1 rfl rfl ?_
  refine Go.iconst X0 3 (0 : Int32) di1_2 ?_
  refine Go.aloadN X0 4 di1_3 rfl rfl ?_
  refine Go.alenN X0 5 A di1_4 ?_
  refine Go.aconst_null X0 6 di1_5 ?_
  refine Go.callI X0 9 [(.ref src), (.int (0 : Int32)), (.int (Int32.ofNat n)), .null] [] 0 rfl (hw _ (List.mem_of_getElem? (i := 15) rfl)) (hw _ (List.mem_of_getElem? (i := 16) rfl)) (hw _ (List.mem_of_getElem? (i := 7) rfl)) (by decide) rfl (hw _ (List.mem_of_getElem? (i := 18) rfl)) pd_3 di1_6 (rm_i4 l Z a0 hw h0 cz SC hcz a src n f hn hcap E FV FC na hne A hf hl 0 (Int32.ofNat n) rfl rfl) rfl rfl rfl (Nat.le_of_eq rfl) (by decide) (by decide) (by decide) (by decide) ?_
  rintro T1 v1 L1 X1 ⟨rfl, hq⟩
  show Go p e below _ T1 m 9 #[.val (.ref a), .val (.ref src)] []
  exact Go.retV X1 rfl di1_9 (X1.fin ⟨rfl, hq⟩ (by decide) (by decide))
theorem dcoder_0 : decode jdk_42_method_152_code 0 = .ok (.getstatic 38, 3) := by decide +kernel
theorem dcoder_3 : decode jdk_42_method_152_code 3 = .ok (.ifCond .eq 10, 3) := by decide +kernel
theorem dcoder_6 : decode jdk_42_method_152_code 6 = .ok (.aload_n 0, 1) := by decide +kernel
theorem dcoder_7 : decode jdk_42_method_152_code 7 = .ok (.getfield 15, 3) := by decide +kernel
theorem dcoder_10 : decode jdk_42_method_152_code 10 = .ok (.goto 4, 3) := by decide +kernel
theorem dcoder_13 : decode jdk_42_method_152_code 13 = .ok (.iconst 1, 1) := by decide +kernel
theorem dcoder_14 : decode jdk_42_method_152_code 14 = .ok (.ireturn, 1) := by decide +kernel
theorem ef_coder (m : MethodId) (a : Addr) : entryFrame m #[(.ref a)] 1 = mkF m 0 #[.val (.ref a)] [] := by first | (simp [entryFrame, mkF, argsToLocals, Value.category]; done) | rfl
set_option maxRecDepth 65536 in
set_option maxHeartbeats 40000000 in
theorem rm_coder (l : Launch) (Z : State) (a0 : Array Value) (hw : ∀ d ∈ tables_1, d.before a0 Z = true) (h0 : Heap) (cz : Int32) (SC : Sta Z Z.heap "java/lang/String" "COMPACT_STRINGS" "Z" (.int cz)) (hcz : ¬ cz = 0) (a : Addr) (z : Int32) (hz : z = 0 ∨ z = 1) (F : Fld Z h0 a "java/lang/String" "coder" "B" (.int z)) :
    Ct l Z [] (⟨"java/lang/String", "coder", "()B"⟩ : MethodName) jdk_42_method_152_code 1 (some .byte) (⟨0, 0, 0, 0⟩ : Room) #[(.ref a)] h0 (Pu h0 (.int z)) := by
  refine Ct.of pn_java_lang_String (fun m => ef_coder m a) ?_
  intro p e s m below meth c s₁ X0
  refine Go.getS X0 3 (hw _ (List.mem_of_getElem? (i := 22) rfl)) SC dcoder_0 ?_
  intro T1 X1
  refine Go.if0N X1 6 dcoder_3 (XT.i0_eq_f hcz) ?_
  refine Go.aloadN X1 7 dcoder_6 rfl rfl ?_
  refine Go.getF X1 10 (hw _ (List.mem_of_getElem? (i := 34) rfl)) F dcoder_7 ?_
  intro T2 X2
  refine Go.goto X2 14 dcoder_10 ?_
  exact Go.retI X2 rfl (by simp) (by rcases hz with rfl | rfl <;> rfl) dcoder_14 (X2.fin ⟨rfl, rfl⟩ (by decide) (by decide))
theorem dlat_0 : decode jdk_42_method_154_code 0 = .ok (.getstatic 38, 3) := by decide +kernel
theorem dlat_3 : decode jdk_42_method_154_code 3 = .ok (.ifCond .eq 14, 3) := by decide +kernel
theorem dlat_6 : decode jdk_42_method_154_code 6 = .ok (.aload_n 0, 1) := by decide +kernel
theorem dlat_7 : decode jdk_42_method_154_code 7 = .ok (.getfield 15, 3) := by decide +kernel
theorem dlat_10 : decode jdk_42_method_154_code 10 = .ok (.ifCond .ne 7, 3) := by decide +kernel
theorem dlat_13 : decode jdk_42_method_154_code 13 = .ok (.iconst 1, 1) := by decide +kernel
theorem dlat_14 : decode jdk_42_method_154_code 14 = .ok (.goto 4, 3) := by decide +kernel
theorem dlat_17 : decode jdk_42_method_154_code 17 = .ok (.iconst 0, 1) := by decide +kernel
theorem dlat_18 : decode jdk_42_method_154_code 18 = .ok (.ireturn, 1) := by decide +kernel
theorem ef_lat (m : MethodId) (a : Addr) : entryFrame m #[(.ref a)] 1 = mkF m 0 #[.val (.ref a)] [] := by first | (simp [entryFrame, mkF, argsToLocals, Value.category]; done) | rfl
set_option maxRecDepth 65536 in
set_option maxHeartbeats 40000000 in
theorem rm_lat (l : Launch) (Z : State) (a0 : Array Value) (hw : ∀ d ∈ tables_1, d.before a0 Z = true) (h0 : Heap) (cz : Int32) (SC : Sta Z Z.heap "java/lang/String" "COMPACT_STRINGS" "Z" (.int cz)) (hcz : ¬ cz = 0) (a : Addr) (z r : Int32) (F : Fld Z h0 a "java/lang/String" "coder" "B" (.int z)) (hz : (z = 0 ∧ r = 1) ∨ (z = 1 ∧ r = 0)) :
    Ct l Z [] (⟨"java/lang/String", "isLatin1", "()Z"⟩ : MethodName) jdk_42_method_154_code 1 (some .boolean) (⟨0, 0, 0, 0⟩ : Room) #[(.ref a)] h0 (Pu h0 (.int r)) := by
  refine Ct.of pn_java_lang_String (fun m => ef_lat m a) ?_
  intro p e s m below meth c s₁ X0
  rcases hz with ⟨rfl, rfl⟩ | ⟨rfl, rfl⟩
  · skip
    refine Go.getS X0 3 (hw _ (List.mem_of_getElem? (i := 22) rfl)) SC dlat_0 ?_
    intro T1 X1
    refine Go.if0N X1 6 dlat_3 (XT.i0_eq_f hcz) ?_
    refine Go.aloadN X1 7 dlat_6 rfl rfl ?_
    refine Go.getF X1 10 (hw _ (List.mem_of_getElem? (i := 34) rfl)) F dlat_7 ?_
    intro T2 X2
    refine Go.if0N X2 13 dlat_10 (XT.i0_ne_f (by decide)) ?_
    refine Go.iconst X2 14 (1 : Int32) dlat_13 ?_
    refine Go.goto X2 18 dlat_14 ?_
    exact Go.retI X2 rfl (by simp) rfl dlat_18 (X2.fin ⟨rfl, rfl⟩ (by decide) (by decide))
  · skip
    refine Go.getS X0 3 (hw _ (List.mem_of_getElem? (i := 22) rfl)) SC dlat_0 ?_
    intro T3 X3
    refine Go.if0N X3 6 dlat_3 (XT.i0_eq_f hcz) ?_
    refine Go.aloadN X3 7 dlat_6 rfl rfl ?_
    refine Go.getF X3 10 (hw _ (List.mem_of_getElem? (i := 34) rfl)) F dlat_7 ?_
    intro T4 X4
    refine Go.if0Y X4 17 dlat_10 (XT.i0_ne_t (by decide)) ?_
    refine Go.iconst X4 18 (0 : Int32) dlat_17 ?_
    exact Go.retI X4 rfl (by simp) rfl dlat_18 (X4.fin ⟨rfl, rfl⟩ (by decide) (by decide))
theorem n_sh0 (x : Int32) : x >>> ((0 : Int32) &&& 31) = x := by
  apply Int32.toInt_inj.mp
  rw [c_ishr x 0 0 (by decide)]
  simp
theorem n_sh1 {n : Nat} (h : n < 1073741823) : Int32.ofNat (2 * n) >>> ((1 : Int32) &&& 31) = Int32.ofNat n := by
  apply Int32.toInt_inj.mp
  rw [c_ishr _ 1 1 (by decide), n_int (by omega), n_int (by omega)]
  have : ((2 ^ 1 : Nat) : Int) = 2 := by decide
  rw [this]
  omega
theorem dlen_0 : decode jdk_42_method_54_code 0 = .ok (.aload_n 0, 1) := by decide +kernel
theorem dlen_1 : decode jdk_42_method_54_code 1 = .ok (.getfield 9, 3) := by decide +kernel
theorem dlen_4 : decode jdk_42_method_54_code 4 = .ok (.arraylength, 1) := by decide +kernel
theorem dlen_5 : decode jdk_42_method_54_code 5 = .ok (.aload_n 0, 1) := by decide +kernel
theorem dlen_6 : decode jdk_42_method_54_code 6 = .ok (.invokevirtual 335, 3) := by decide +kernel
theorem dlen_9 : decode jdk_42_method_54_code 9 = .ok (.ishr, 1) := by decide +kernel
theorem dlen_10 : decode jdk_42_method_54_code 10 = .ok (.ireturn, 1) := by decide +kernel
theorem ef_len (m : MethodId) (a : Addr) : entryFrame m #[(.ref a)] 1 = mkF m 0 #[.val (.ref a)] [] := by first | (simp [entryFrame, mkF, argsToLocals, Value.category]; done) | rfl
set_option maxRecDepth 65536 in
set_option maxHeartbeats 40000000 in
theorem rm_len (l : Launch) (Z : State) (a0 : Array Value) (hw : ∀ d ∈ tables_1, d.before a0 Z = true) (h0 : Heap) (cz : Int32) (SC : Sta Z Z.heap "java/lang/String" "COMPACT_STRINGS" "Z" (.int cz)) (hcz : ¬ cz = 0) (a t : Addr) (n : Nat) (f : Nat → Int32) (S : Str Z h0 a t n f) :
    Ct l Z [] (⟨"java/lang/String", "length", "()I"⟩ : MethodName) jdk_42_method_54_code 1 (some .int) (⟨1, 0, 0, 13⟩ : Room) #[(.ref a)] h0 (Pu h0 (.int (Int32.ofNat n))) := by
  refine Ct.of pn_java_lang_String (fun m => ef_len m a) ?_
  intro p e s m below meth c s₁ X0
  obtain ⟨S1, S2, S3, S4, ⟨S5, g, A, G⟩ | ⟨S5, S6, g, A, G⟩⟩ := S
  · skip
    refine Go.aloadN X0 1 dlen_0 rfl rfl ?_
    refine Go.getF X0 4 (hw _ (List.mem_of_getElem? (i := 36) rfl)) S2 dlen_1 ?_
    intro T1 X1
    refine Go.alenN X1 5 A dlen_4 ?_
    refine Go.aloadN X1 6 dlen_5 rfl rfl ?_
    refine Go.callVP X1 9 [] [(.int (Int32.ofNat n))] 1 (hw _ (List.mem_of_getElem? (i := 62) rfl)) (hw _ (List.mem_of_getElem? (i := 63) rfl)) (hw _ (List.mem_of_getElem? (i := 65) rfl)) (notFace_of_selects (args := #[]) (mvT X1.hZ (hw _ (List.mem_of_getElem? (i := 65) rfl)))) (hw _ (List.mem_of_getElem? (i := 64) rfl)) (hw _ (List.mem_of_getElem? (i := 7) rfl)) (by decide) S1 (hw _ (List.mem_of_getElem? (i := 66) rfl)) pd_4 dlen_6 (rm_coder l Z a0 hw h0 cz SC hcz a 0 (Or.inl rfl) S5) rfl rfl rfl (Nat.le_of_eq rfl) (by decide) (by decide) (by decide) (by decide) ?_
    intro T2 L2 X2
    refine Go.ishr X2 10 dlen_9 ?_
    rw [n_sh0]
    exact Go.retI X2 rfl (by simp) rfl dlen_10 (X2.fin ⟨rfl, rfl⟩ (by decide) (by decide))
  · skip
    refine Go.aloadN X0 1 dlen_0 rfl rfl ?_
    refine Go.getF X0 4 (hw _ (List.mem_of_getElem? (i := 36) rfl)) S2 dlen_1 ?_
    intro T3 X3
    refine Go.alenN X3 5 A dlen_4 ?_
    refine Go.aloadN X3 6 dlen_5 rfl rfl ?_
    refine Go.callVP X3 9 [] [(.int (Int32.ofNat (2 * n)))] 1 (hw _ (List.mem_of_getElem? (i := 62) rfl)) (hw _ (List.mem_of_getElem? (i := 63) rfl)) (hw _ (List.mem_of_getElem? (i := 65) rfl)) (notFace_of_selects (args := #[]) (mvT X3.hZ (hw _ (List.mem_of_getElem? (i := 65) rfl)))) (hw _ (List.mem_of_getElem? (i := 64) rfl)) (hw _ (List.mem_of_getElem? (i := 7) rfl)) (by decide) S1 (hw _ (List.mem_of_getElem? (i := 66) rfl)) pd_4 dlen_6 (rm_coder l Z a0 hw h0 cz SC hcz a 1 (Or.inr rfl) S5) rfl rfl rfl (Nat.le_of_eq rfl) (by decide) (by decide) (by decide) (by decide) ?_
    intro T4 L4 X4
    refine Go.ishr X4 10 dlen_9 ?_
    rw [n_sh1 S3]
    exact Go.retI X4 rfl (by simp) rfl dlen_10 (X4.fin ⟨rfl, rfl⟩ (by decide) (by decide))
theorem pn_java_lang_StringLatin1 : plainName "java/lang/StringLatin1" = true := by first | (simp [plainName, overriddenIn]; done) | decide +kernel
theorem dceI_0 : decode jdk_43_method_4_code 0 = .ok (.iload_n 0, 1) := by decide +kernel
theorem dceI_1 : decode jdk_43_method_4_code 1 = .ok (.ifCond .lt 14, 3) := by decide +kernel
theorem dceI_4 : decode jdk_43_method_4_code 4 = .ok (.iload_n 0, 1) := by decide +kernel
theorem dceI_5 : decode jdk_43_method_4_code 5 = .ok (.sipush 255, 3) := by decide +kernel
theorem dceI_8 : decode jdk_43_method_4_code 8 = .ok (.if_icmp .gt 7, 3) := by decide +kernel
theorem dceI_11 : decode jdk_43_method_4_code 11 = .ok (.iconst 1, 1) := by decide +kernel
theorem dceI_12 : decode jdk_43_method_4_code 12 = .ok (.goto 4, 3) := by decide +kernel
theorem dceI_15 : decode jdk_43_method_4_code 15 = .ok (.iconst 0, 1) := by decide +kernel
theorem dceI_16 : decode jdk_43_method_4_code 16 = .ok (.ireturn, 1) := by decide +kernel
theorem ef_ceI (m : MethodId) (c0 : Int32) : entryFrame m #[(.int c0)] 1 = mkF m 0 #[.val (.int c0)] [] := by first | (simp [entryFrame, mkF, argsToLocals, Value.category]; done) | rfl
set_option maxRecDepth 65536 in
set_option maxHeartbeats 40000000 in
theorem rm_ceI (l : Launch) (Z : State) (a0 : Array Value) (hw : ∀ d ∈ tables_1, d.before a0 Z = true) (h0 : Heap) (c0 : Int32) (h1 : ¬ c0 < 0) (h2 : ¬ 255 < c0) :
    Ct l Z [] (⟨"java/lang/StringLatin1", "canEncode", "(I)Z"⟩ : MethodName) jdk_43_method_4_code 1 (some .boolean) (⟨0, 0, 0, 0⟩ : Room) #[(.int c0)] h0 (Pu h0 (.int 1)) := by
  refine Ct.of pn_java_lang_StringLatin1 (fun m => ef_ceI m c0) ?_
  intro p e s m below meth c s₁ X0
  refine Go.iloadN X0 1 dceI_0 rfl ?_
  refine Go.if0N X0 4 dceI_1 (XT.i0_lt_f h1) ?_
  refine Go.iloadN X0 5 dceI_4 rfl ?_
  refine Go.sipush X0 8 (255 : Int32) dceI_5 ?_
  refine Go.icmpN X0 11 dceI_8 (XT.ii_gt_f h2) ?_
  refine Go.iconst X0 12 (1 : Int32) dceI_11 ?_
  refine Go.goto X0 16 dceI_12 ?_
  exact Go.retI X0 rfl (by simp) rfl dceI_16 (X0.fin ⟨rfl, rfl⟩ (by decide) (by decide))
theorem dmax_0 : decode jdk_29_method_65_code 0 = .ok (.iload_n 0, 1) := by decide +kernel
theorem dmax_1 : decode jdk_29_method_65_code 1 = .ok (.iload_n 1, 1) := by decide +kernel
theorem dmax_2 : decode jdk_29_method_65_code 2 = .ok (.if_icmp .lt 7, 3) := by decide +kernel
theorem dmax_5 : decode jdk_29_method_65_code 5 = .ok (.iload_n 0, 1) := by decide +kernel
theorem dmax_6 : decode jdk_29_method_65_code 6 = .ok (.goto 4, 3) := by decide +kernel
theorem dmax_9 : decode jdk_29_method_65_code 9 = .ok (.iload_n 1, 1) := by decide +kernel
theorem dmax_10 : decode jdk_29_method_65_code 10 = .ok (.ireturn, 1) := by decide +kernel
theorem ef_max (m : MethodId) (y : Int32) (z : Int32) : entryFrame m #[(.int y), (.int z)] 2 = mkF m 0 #[.val (.int y), .val (.int z)] [] := by first | (simp [entryFrame, mkF, argsToLocals, Value.category]; done) | rfl
set_option maxRecDepth 65536 in
set_option maxHeartbeats 40000000 in
theorem rm_max (l : Launch) (Z : State) (a0 : Array Value) (hw : ∀ d ∈ tables_1, d.before a0 Z = true) (h0 : Heap) (y z r : Int32) (hr : (y < z ∧ r = z) ∨ (¬ y < z ∧ r = y)) :
    Ct l Z [] (⟨"java/lang/Math", "max", "(II)I"⟩ : MethodName) jdk_29_method_65_code 2 (some .int) (⟨0, 0, 0, 0⟩ : Room) #[(.int y), (.int z)] h0 (Pu h0 (.int r)) := by
  refine Ct.ofF (Jvm.Free.JP.mathPlain rfl (by decide)) (fun m => ef_max m y z) ?_
  intro p e s m below meth c s₁ X0
  rcases hr with ⟨c1, rfl⟩ | ⟨c1, rfl⟩
  · skip
    refine Go.iloadN X0 1 dmax_0 rfl ?_
    refine Go.iloadN X0 2 dmax_1 rfl ?_
    refine Go.icmpY X0 9 dmax_2 (XT.ii_lt_t c1) ?_
    refine Go.iloadN X0 10 dmax_9 rfl ?_
    exact Go.retI X0 rfl (by simp) rfl dmax_10 (X0.fin ⟨rfl, rfl⟩ (by decide) (by decide))
  · skip
    refine Go.iloadN X0 1 dmax_0 rfl ?_
    refine Go.iloadN X0 2 dmax_1 rfl ?_
    refine Go.icmpN X0 5 dmax_2 (XT.ii_lt_f c1) ?_
    refine Go.iloadN X0 6 dmax_5 rfl ?_
    refine Go.goto X0 10 dmax_6 ?_
    exact Go.retI X0 rfl (by simp) rfl dmax_10 (X0.fin ⟨rfl, rfl⟩ (by decide) (by decide))
theorem dmin_0 : decode jdk_29_method_69_code 0 = .ok (.iload_n 0, 1) := by decide +kernel
theorem dmin_1 : decode jdk_29_method_69_code 1 = .ok (.iload_n 1, 1) := by decide +kernel
theorem dmin_2 : decode jdk_29_method_69_code 2 = .ok (.if_icmp .gt 7, 3) := by decide +kernel
theorem dmin_5 : decode jdk_29_method_69_code 5 = .ok (.iload_n 0, 1) := by decide +kernel
theorem dmin_6 : decode jdk_29_method_69_code 6 = .ok (.goto 4, 3) := by decide +kernel
theorem dmin_9 : decode jdk_29_method_69_code 9 = .ok (.iload_n 1, 1) := by decide +kernel
theorem dmin_10 : decode jdk_29_method_69_code 10 = .ok (.ireturn, 1) := by decide +kernel
theorem ef_min (m : MethodId) (y : Int32) (z : Int32) : entryFrame m #[(.int y), (.int z)] 2 = mkF m 0 #[.val (.int y), .val (.int z)] [] := by first | (simp [entryFrame, mkF, argsToLocals, Value.category]; done) | rfl
set_option maxRecDepth 65536 in
set_option maxHeartbeats 40000000 in
theorem rm_min (l : Launch) (Z : State) (a0 : Array Value) (hw : ∀ d ∈ tables_1, d.before a0 Z = true) (h0 : Heap) (y z r : Int32) (hr : (z < y ∧ r = z) ∨ (¬ z < y ∧ r = y)) :
    Ct l Z [] (⟨"java/lang/Math", "min", "(II)I"⟩ : MethodName) jdk_29_method_69_code 2 (some .int) (⟨0, 0, 0, 0⟩ : Room) #[(.int y), (.int z)] h0 (Pu h0 (.int r)) := by
  refine Ct.ofF (Jvm.Free.JP.mathPlain rfl (by decide)) (fun m => ef_min m y z) ?_
  intro p e s m below meth c s₁ X0
  rcases hr with ⟨c1, rfl⟩ | ⟨c1, rfl⟩
  · skip
    refine Go.iloadN X0 1 dmin_0 rfl ?_
    refine Go.iloadN X0 2 dmin_1 rfl ?_
    refine Go.icmpY X0 9 dmin_2 (XT.ii_gt_t c1) ?_
    refine Go.iloadN X0 10 dmin_9 rfl ?_
    exact Go.retI X0 rfl (by simp) rfl dmin_10 (X0.fin ⟨rfl, rfl⟩ (by decide) (by decide))
  · skip
    refine Go.iloadN X0 1 dmin_0 rfl ?_
    refine Go.iloadN X0 2 dmin_1 rfl ?_
    refine Go.icmpN X0 5 dmin_2 (XT.ii_gt_f c1) ?_
    refine Go.iloadN X0 6 dmin_5 rfl ?_
    refine Go.goto X0 10 dmin_6 ?_
    exact Go.retI X0 rfl (by simp) rfl dmin_10 (X0.fin ⟨rfl, rfl⟩ (by decide) (by decide))
theorem dioc_0 : decode jdk_43_method_23_code 0 = .ok (.iload_n 1, 1) := by decide +kernel
theorem dioc_1 : decode jdk_43_method_23_code 1 = .ok (.i2b, 1) := by decide +kernel
theorem dioc_2 : decode jdk_43_method_23_code 2 = .ok (.istore 4, 2) := by decide +kernel
theorem dioc_4 : decode jdk_43_method_23_code 4 = .ok (.iload_n 2, 1) := by decide +kernel
theorem dioc_5 : decode jdk_43_method_23_code 5 = .ok (.istore 5, 2) := by decide +kernel
theorem dioc_7 : decode jdk_43_method_23_code 7 = .ok (.iload 5, 2) := by decide +kernel
theorem dioc_9 : decode jdk_43_method_23_code 9 = .ok (.iload_n 3, 1) := by decide +kernel
theorem dioc_10 : decode jdk_43_method_23_code 10 = .ok (.if_icmp .ge 21, 3) := by decide +kernel
theorem dioc_13 : decode jdk_43_method_23_code 13 = .ok (.aload_n 0, 1) := by decide +kernel
theorem dioc_14 : decode jdk_43_method_23_code 14 = .ok (.iload 5, 2) := by decide +kernel
theorem dioc_16 : decode jdk_43_method_23_code 16 = .ok (.baload, 1) := by decide +kernel
theorem dioc_17 : decode jdk_43_method_23_code 17 = .ok (.iload 4, 2) := by decide +kernel
theorem dioc_19 : decode jdk_43_method_23_code 19 = .ok (.if_icmp .ne 6, 3) := by decide +kernel
theorem dioc_22 : decode jdk_43_method_23_code 22 = .ok (.iload 5, 2) := by decide +kernel
theorem dioc_24 : decode jdk_43_method_23_code 24 = .ok (.ireturn, 1) := by decide +kernel
theorem dioc_25 : decode jdk_43_method_23_code 25 = .ok (.iinc 5 1, 3) := by decide +kernel
theorem dioc_28 : decode jdk_43_method_23_code 28 = .ok (.goto (-21), 3) := by decide +kernel
theorem dioc_31 : decode jdk_43_method_23_code 31 = .ok (.iconst (-1), 1) := by decide +kernel
theorem dioc_32 : decode jdk_43_method_23_code 32 = .ok (.ireturn, 1) := by decide +kernel
def QI (h0 : Heap) (n : Nat) (g : Nat → Int32) (b : Int32) : Option Value → Heap → Prop := fun v h' => h' = h0 ∧ ((∃ r, v = some (.int (Int32.ofNat r)) ∧ r < n ∧ g r = b) ∨ (v = some (.int (-1)) ∧ ∀ j, j < n → ¬ g j = b))
set_option maxRecDepth 65536 in
set_option maxHeartbeats 40000000 in
theorem lp_ioc {p : Program} {l : Launch} {e : Env} {R : Room} {s : State} {m : MethodId} {args : Array Value} {below : List Frame} {meth : Method} {c : Code} {Z : State} {nm : String} {ce sl cells slots : Nat} (hce : cells ≤ ce) (hsl : slots ≤ sl) (t : Addr) (n : Nat) (g : Nat → Int32) (c0 z0 b : Int32) :
    ∀ (k i : Nat), i + k = n → ∀ (T : State) (locs : List Loc) (h : Heap), Cx p l e R s m args below meth c Z "java/lang/StringLatin1" nm jdk_43_method_23_code 6 (some .int) T locs cells slots h → An Z h t .byte n g → (∀ j, j < i → ¬ g j = b) →
      Go p e below (FinN s Z (QI h n g b) ce sl) T m 7 #[.val (.ref t), .val (.int c0), .val (.int z0), .val (.int (Int32.ofNat n)), .val (.int b), .val (.int (Int32.ofNat i))] [] := by
  intro k
  induction k with
  | zero =>
    intro i hi T locs h X0 A hg
    have hin : i = n := by omega
    subst hin
    refine Go.iload X0 9 dioc_7 rfl ?_
    refine Go.iloadN X0 10 dioc_9 rfl ?_
    refine Go.icmpY X0 31 dioc_10 (XT.ii_ge_t (n_nlt (Nat.le_refl _) A.1)) ?_
    refine Go.iconst X0 32 (-1 : Int32) dioc_31 ?_
    exact Go.retI X0 rfl (by simp) rfl dioc_32 (X0.fin ⟨rfl, Or.inr ⟨rfl, hg⟩⟩ hce hsl)
  | succ k ih =>
    intro i hi T locs h X0 A hg
    have hin : i < n := by omega
    refine Go.iload X0 9 dioc_7 rfl ?_
    refine Go.iloadN X0 10 dioc_9 rfl ?_
    refine Go.icmpN X0 13 dioc_10 (XT.ii_ge_f (n_lt hin A.1)) ?_
    refine Go.aloadN X0 14 dioc_13 rfl rfl ?_
    refine Go.iload X0 16 dioc_14 rfl ?_
    refine Go.baN X0 17 A i hin dioc_16 ?_
    refine Go.iload X0 19 dioc_17 rfl ?_
    by_cases c1 : (g i) = b
    · skip
      refine Go.icmpN X0 22 dioc_19 (XT.ii_ne_f c1) ?_
      refine Go.iload X0 24 dioc_22 rfl ?_
      exact Go.retI X0 rfl (by simp) rfl dioc_24 (X0.fin ⟨rfl, Or.inl ⟨i, rfl, hin, c1⟩⟩ hce hsl)
    · skip
      refine Go.icmpY X0 25 dioc_19 (XT.ii_ne_t c1) ?_
      refine Go.iinc X0 28 (1 : Int32) #[.val (.ref t), .val (.int c0), .val (.int z0), .val (.int (Int32.ofNat n)), .val (.int b), .val (.int ((Int32.ofNat i) + (1 : Int32)))] dioc_25 rfl rfl ?_
      refine Go.goto X0 7 dioc_28 ?_
      rw [n_succ]
      refine ih (i + 1) (by omega) _ _ _ X0 A (fun j hj => ?_)
      by_cases q : j = i
      · subst q; exact c1
      · exact hg j (by omega)
theorem ef_ioc (m : MethodId) (t : Addr) (c0 : Int32) (z0 : Int32) (z1 : Int32) : entryFrame m #[(.ref t), (.int c0), (.int z0), (.int z1)] 6 = mkF m 0 #[.val (.ref t), .val (.int c0), .val (.int z0), .val (.int z1), .unset, .unset] [] := by first | (simp [entryFrame, mkF, argsToLocals, Value.category]; done) | rfl
set_option maxRecDepth 65536 in
set_option maxHeartbeats 40000000 in
theorem rm_ioc (l : Launch) (Z : State) (a0 : Array Value) (hw : ∀ d ∈ tables_1, d.before a0 Z = true) (h0 : Heap) (t : Addr) (c0 z0 z1 : Int32) (n : Nat) (g : Nat → Int32) (hz0 : z0 = 0) (hz1 : z1 = Int32.ofNat n) (A : An Z h0 t .byte n g) :
    Ct l Z [] (⟨"java/lang/StringLatin1", "indexOfChar", "([BIII)I"⟩ : MethodName) jdk_43_method_23_code 6 (some .int) (⟨0, 0, 0, 0⟩ : Room) #[(.ref t), (.int c0), (.int z0), (.int z1)] h0 (QI h0 n g c0.toInt8.toInt32) := by
  refine Ct.of pn_java_lang_StringLatin1 (fun m => ef_ioc m t c0 z0 z1) ?_
  intro p e s m below meth c s₁ X0
  subst hz0 hz1
  refine Go.iloadN X0 1 dioc_0 rfl ?_
  refine Go.i2b X0 2 dioc_1 ?_
  refine Go.istore X0 4 #[.val (.ref t), .val (.int c0), .val (.int (0 : Int32)), .val (.int (Int32.ofNat n)), .val (.int c0.toInt8.toInt32), .unset] dioc_2 rfl ?_
  refine Go.iloadN X0 5 dioc_4 rfl ?_
  refine Go.istore X0 7 #[.val (.ref t), .val (.int c0), .val (.int (0 : Int32)), .val (.int (Int32.ofNat n)), .val (.int c0.toInt8.toInt32), .val (.int (0 : Int32))] dioc_5 rfl ?_
  exact lp_ioc (Nat.le_refl _) (Nat.le_refl _) t n g c0 0 _ n 0 (by omega) _ _ h0 X0 A (fun j hj => absurd hj (Nat.not_lt_zero j))
theorem dl1io_0 : decode jdk_43_method_22_code 0 = .ok (.iload_n 1, 1) := by decide +kernel
theorem dl1io_1 : decode jdk_43_method_22_code 1 = .ok (.invokestatic 88, 3) := by decide +kernel
theorem dl1io_4 : decode jdk_43_method_22_code 4 = .ok (.ifCond .ne 5, 3) := by decide +kernel
theorem dl1io_7 : decode jdk_43_method_22_code 7 = .ok (.iconst (-1), 1) := by decide +kernel
theorem dl1io_8 : decode jdk_43_method_22_code 8 = .ok (.ireturn, 1) := by decide +kernel
theorem dl1io_9 : decode jdk_43_method_22_code 9 = .ok (.iload_n 2, 1) := by decide +kernel
theorem dl1io_10 : decode jdk_43_method_22_code 10 = .ok (.iconst 0, 1) := by decide +kernel
theorem dl1io_11 : decode jdk_43_method_22_code 11 = .ok (.invokestatic 92, 3) := by decide +kernel
theorem dl1io_14 : decode jdk_43_method_22_code 14 = .ok (.istore_n 2, 1) := by decide +kernel
theorem dl1io_15 : decode jdk_43_method_22_code 15 = .ok (.iload_n 3, 1) := by decide +kernel
theorem dl1io_16 : decode jdk_43_method_22_code 16 = .ok (.aload_n 0, 1) := by decide +kernel
theorem dl1io_17 : decode jdk_43_method_22_code 17 = .ok (.arraylength, 1) := by decide +kernel
theorem dl1io_18 : decode jdk_43_method_22_code 18 = .ok (.invokestatic 38, 3) := by decide +kernel
theorem dl1io_21 : decode jdk_43_method_22_code 21 = .ok (.istore_n 3, 1) := by decide +kernel
theorem dl1io_22 : decode jdk_43_method_22_code 22 = .ok (.iload_n 2, 1) := by decide +kernel
theorem dl1io_23 : decode jdk_43_method_22_code 23 = .ok (.iload_n 3, 1) := by decide +kernel
theorem dl1io_24 : decode jdk_43_method_22_code 24 = .ok (.if_icmp .lt 5, 3) := by decide +kernel
theorem dl1io_27 : decode jdk_43_method_22_code 27 = .ok (.iconst (-1), 1) := by decide +kernel
theorem dl1io_28 : decode jdk_43_method_22_code 28 = .ok (.ireturn, 1) := by decide +kernel
theorem dl1io_29 : decode jdk_43_method_22_code 29 = .ok (.aload_n 0, 1) := by decide +kernel
theorem dl1io_30 : decode jdk_43_method_22_code 30 = .ok (.iload_n 1, 1) := by decide +kernel
theorem dl1io_31 : decode jdk_43_method_22_code 31 = .ok (.iload_n 2, 1) := by decide +kernel
theorem dl1io_32 : decode jdk_43_method_22_code 32 = .ok (.iload_n 3, 1) := by decide +kernel
theorem dl1io_33 : decode jdk_43_method_22_code 33 = .ok (.invokestatic 95, 3) := by decide +kernel
theorem dl1io_36 : decode jdk_43_method_22_code 36 = .ok (.ireturn, 1) := by decide +kernel
theorem ef_l1io (m : MethodId) (t : Addr) (c0 : Int32) (z0 : Int32) (z1 : Int32) : entryFrame m #[(.ref t), (.int c0), (.int z0), (.int z1)] 4 = mkF m 0 #[.val (.ref t), .val (.int c0), .val (.int z0), .val (.int z1)] [] := by first | (simp [entryFrame, mkF, argsToLocals, Value.category]; done) | rfl
set_option maxRecDepth 65536 in
set_option maxHeartbeats 40000000 in
theorem rm_l1io (l : Launch) (Z : State) (a0 : Array Value) (hw : ∀ d ∈ tables_1, d.before a0 Z = true) (h0 : Heap) (t : Addr) (c0 z0 z1 : Int32) (n : Nat) (g : Nat → Int32) (hz0 : z0 = 0) (hz1 : z1 = Int32.ofNat n) (A : An Z h0 t .byte n g) (h1 : ¬ c0 < 0) (h2 : ¬ 255 < c0) :
    Ct l Z [] (⟨"java/lang/StringLatin1", "indexOf", "([BIII)I"⟩ : MethodName) jdk_43_method_22_code 4 (some .int) (⟨1, 0, 0, 17⟩ : Room) #[(.ref t), (.int c0), (.int z0), (.int z1)] h0 (QI h0 n g c0.toInt8.toInt32) := by
  refine Ct.of pn_java_lang_StringLatin1 (fun m => ef_l1io m t c0 z0 z1) ?_
  intro p e s m below meth c s₁ X0
  subst hz0 hz1
  refine Go.iloadN X0 1 dl1io_0 rfl ?_
  refine Go.callSP X0 4 [(.int c0)] [] 0 (hw _ (List.mem_of_getElem? (i := 71) rfl)) (hw _ (List.mem_of_getElem? (i := 72) rfl)) (hw _ (List.mem_of_getElem? (i := 69) rfl)) (by decide) (hw _ (List.mem_of_getElem? (i := 73) rfl)) pd_5 dl1io_1 (rm_ceI l Z a0 hw h0 c0 h1 h2) rfl rfl rfl (Nat.le_of_eq rfl) (by decide) (by decide) (by decide) (by decide) ?_
  intro T1 L1 X1
  refine Go.if0Y X1 9 dl1io_4 (XT.i0_ne_t (by decide)) ?_
  refine Go.iloadN X1 10 dl1io_9 rfl ?_
  refine Go.iconst X1 11 (0 : Int32) dl1io_10 ?_
  refine Go.callSP X1 14 [(.int (0 : Int32)), (.int (0 : Int32))] [] 0 (hw _ (List.mem_of_getElem? (i := 74) rfl)) (hw _ (List.mem_of_getElem? (i := 75) rfl)) (hw _ (List.mem_of_getElem? (i := 76) rfl)) (by decide) (hw _ (List.mem_of_getElem? (i := 77) rfl)) pd_6 dl1io_11 (rm_max l Z a0 hw h0 0 0 0 (Or.inr ⟨by decide, rfl⟩)) rfl rfl rfl (Nat.le_of_eq rfl) (by decide) (by decide) (by decide) (by decide) ?_
  intro T2 L2 X2
  refine Go.istoreN X2 15 #[.val (.ref t), .val (.int c0), .val (.int (0 : Int32)), .val (.int (Int32.ofNat n))] dl1io_14 rfl ?_
  refine Go.iloadN X2 16 dl1io_15 rfl ?_
  refine Go.aloadN X2 17 dl1io_16 rfl rfl ?_
  refine Go.alenN X2 18 A dl1io_17 ?_
  refine Go.callSP X2 21 [(.int (Int32.ofNat n)), (.int (Int32.ofNat n))] [] 0 (hw _ (List.mem_of_getElem? (i := 78) rfl)) (hw _ (List.mem_of_getElem? (i := 79) rfl)) (hw _ (List.mem_of_getElem? (i := 76) rfl)) (by decide) (hw _ (List.mem_of_getElem? (i := 80) rfl)) pd_6 dl1io_18 (rm_min l Z a0 hw h0 (Int32.ofNat n) (Int32.ofNat n) (Int32.ofNat n) (Or.inr ⟨n_nlt (Nat.le_refl _) A.1, rfl⟩)) rfl rfl rfl (Nat.le_of_eq rfl) (by decide) (by decide) (by decide) (by decide) ?_
  intro T3 L3 X3
  refine Go.istoreN X3 22 #[.val (.ref t), .val (.int c0), .val (.int (0 : Int32)), .val (.int (Int32.ofNat n))] dl1io_21 rfl ?_
  refine Go.iloadN X3 23 dl1io_22 rfl ?_
  refine Go.iloadN X3 24 dl1io_23 rfl ?_
  by_cases c24 : n = 0
  · skip
    refine Go.icmpN X3 27 dl1io_24 (XT.ii_lt_f (by rw [c24]; decide)) ?_
    refine Go.iconst X3 28 (-1 : Int32) dl1io_27 ?_
    exact Go.retI X3 rfl (by simp) rfl dl1io_28 (X3.fin ⟨rfl, Or.inr ⟨rfl, fun j hj => absurd hj (by omega)⟩⟩ (by decide) (by decide))
  · skip
    refine Go.icmpY X3 29 dl1io_24 (XT.ii_lt_t (n_lt (i := 0) (by omega) A.1)) ?_
    refine Go.aloadN X3 30 dl1io_29 rfl rfl ?_
    refine Go.iloadN X3 31 dl1io_30 rfl ?_
    refine Go.iloadN X3 32 dl1io_31 rfl ?_
    refine Go.iloadN X3 33 dl1io_32 rfl ?_
    refine Go.callS X3 36 [(.ref t), (.int c0), (.int (0 : Int32)), (.int (Int32.ofNat n))] [] 0 (hw _ (List.mem_of_getElem? (i := 81) rfl)) (hw _ (List.mem_of_getElem? (i := 82) rfl)) (hw _ (List.mem_of_getElem? (i := 69) rfl)) (by decide) (hw _ (List.mem_of_getElem? (i := 83) rfl)) pd_7 dl1io_33 (rm_ioc l Z a0 hw h0 t c0 0 (Int32.ofNat n) n g rfl rfl A) rfl rfl rfl (Nat.le_of_eq rfl) (by decide) (by decide) (by decide) (by decide) ?_
    rintro T4 v4 L4 X4 ⟨hh, ⟨r, rfl, q1, q2⟩ | ⟨rfl, q1⟩⟩
    · rw [hh] at X4
      show Go p e below _ T4 m 36 #[.val (.ref t), .val (.int c0), .val (.int (0 : Int32)), .val (.int (Int32.ofNat n))] [(.int (Int32.ofNat r))]
      exact Go.retI X4 rfl (by simp) rfl dl1io_36 (X4.fin ⟨rfl, Or.inl ⟨r, rfl, q1, q2⟩⟩ (by decide) (by decide))
    · rw [hh] at X4
      show Go p e below _ T4 m 36 #[.val (.ref t), .val (.int c0), .val (.int (0 : Int32)), .val (.int (Int32.ofNat n))] [(.int (-1 : Int32))]
      exact Go.retI X4 rfl (by simp) rfl dl1io_36 (X4.fin ⟨rfl, Or.inr ⟨rfl, q1⟩⟩ (by decide) (by decide))
theorem dio2_0 : decode jdk_42_method_80_code 0 = .ok (.aload_n 0, 1) := by decide +kernel
theorem dio2_1 : decode jdk_42_method_80_code 1 = .ok (.invokevirtual 492, 3) := by decide +kernel
theorem dio2_4 : decode jdk_42_method_80_code 4 = .ok (.ifCond .eq 19, 3) := by decide +kernel
theorem dio2_7 : decode jdk_42_method_80_code 7 = .ok (.aload_n 0, 1) := by decide +kernel
theorem dio2_8 : decode jdk_42_method_80_code 8 = .ok (.getfield 9, 3) := by decide +kernel
theorem dio2_11 : decode jdk_42_method_80_code 11 = .ok (.iload_n 1, 1) := by decide +kernel
theorem dio2_12 : decode jdk_42_method_80_code 12 = .ok (.iload_n 2, 1) := by decide +kernel
theorem dio2_13 : decode jdk_42_method_80_code 13 = .ok (.aload_n 0, 1) := by decide +kernel
theorem dio2_14 : decode jdk_42_method_80_code 14 = .ok (.invokevirtual 505, 3) := by decide +kernel
theorem dio2_17 : decode jdk_42_method_80_code 17 = .ok (.invokestatic 637, 3) := by decide +kernel
theorem dio2_20 : decode jdk_42_method_80_code 20 = .ok (.goto 16, 3) := by decide +kernel
theorem dio2_23 : decode jdk_42_method_80_code 23 = .ok (.aload_n 0, 1) := by decide +kernel
theorem dio2_24 : decode jdk_42_method_80_code 24 = .ok (.getfield 9, 3) := by decide +kernel
theorem dio2_27 : decode jdk_42_method_80_code 27 = .ok (.iload_n 1, 1) := by decide +kernel
theorem dio2_28 : decode jdk_42_method_80_code 28 = .ok (.iload_n 2, 1) := by decide +kernel
theorem dio2_29 : decode jdk_42_method_80_code 29 = .ok (.aload_n 0, 1) := by decide +kernel
theorem dio2_30 : decode jdk_42_method_80_code 30 = .ok (.invokevirtual 505, 3) := by decide +kernel
theorem dio2_33 : decode jdk_42_method_80_code 33 = .ok (.invokestatic 640, 3) := by decide +kernel
theorem dio2_36 : decode jdk_42_method_80_code 36 = .ok (.ireturn, 1) := by decide +kernel
theorem ef_io2 (m : MethodId) (a : Addr) (c0 : Int32) (z0 : Int32) : entryFrame m #[(.ref a), (.int c0), (.int z0)] 3 = mkF m 0 #[.val (.ref a), .val (.int c0), .val (.int z0)] [] := by first | (simp [entryFrame, mkF, argsToLocals, Value.category]; done) | rfl
set_option maxRecDepth 65536 in
set_option maxHeartbeats 40000000 in
theorem rm_io2 (l : Launch) (Z : State) (a0 : Array Value) (hw : ∀ d ∈ tables_1, d.before a0 Z = true) (h0 : Heap) (cz : Int32) (SC : Sta Z Z.heap "java/lang/String" "COMPACT_STRINGS" "Z" (.int cz)) (hcz : ¬ cz = 0) (a t : Addr) (c0 : Int32) (n : Nat) (f : Nat → Int32) (S : Str Z h0 a t n f) (hl : ∀ j, j < n → ¬ 255 < f j) (h1 : ¬ c0 < 0) (h2 : ¬ 255 < c0) (z0 : Int32) (hz0 : z0 = 0) :
    Ct l Z [] (⟨"java/lang/String", "indexOf", "(II)I"⟩ : MethodName) jdk_42_method_80_code 3 (some .int) (⟨2, 0, 0, 32⟩ : Room) #[(.ref a), (.int c0), (.int z0)] h0 (fun v h' => h' = h0 ∧ ((∃ r, v = some (.int (Int32.ofNat r)) ∧ r < n ∧ f r = c0) ∨ (v = some (.int (-1)) ∧ ∀ j, j < n → ¬ f j = c0))) := by
  refine Ct.of pn_java_lang_String (fun m => ef_io2 m a c0 z0) ?_
  intro p e s m below meth c s₁ X0
  subst hz0
  obtain ⟨S5, g, A, G⟩ := S.lat hl
  obtain ⟨S1, S2, S3, S4, -⟩ := id S
  have hc0 := n_ge h1
  have key : ∀ j, j < n → (g j = c0.toInt8.toInt32 ↔ f j = c0) := fun j hj => ⟨fun q => n_eqb (S4 j hj).1 (G j hj).1 hc0 h2 (by rw [← (G j hj).2]; exact q), fun q => by rw [(G j hj).2, q]⟩
  refine Go.aloadN X0 1 dio2_0 rfl rfl ?_
  refine Go.callVP X0 4 [] [] 0 (hw _ (List.mem_of_getElem? (i := 52) rfl)) (hw _ (List.mem_of_getElem? (i := 53) rfl)) (hw _ (List.mem_of_getElem? (i := 55) rfl)) (notFace_of_selects (args := #[]) (mvT X0.hZ (hw _ (List.mem_of_getElem? (i := 55) rfl)))) (hw _ (List.mem_of_getElem? (i := 54) rfl)) (hw _ (List.mem_of_getElem? (i := 7) rfl)) (by decide) S1 (hw _ (List.mem_of_getElem? (i := 56) rfl)) pd_8 dio2_1 (rm_lat l Z a0 hw h0 cz SC hcz a 0 1 S5 (Or.inl ⟨rfl, rfl⟩)) rfl rfl rfl (Nat.le_of_eq rfl) (by decide) (by decide) (by decide) (by decide) ?_
  intro T1 L1 X1
  refine Go.if0N X1 7 dio2_4 (XT.i0_eq_f (by decide)) ?_
  refine Go.aloadN X1 8 dio2_7 rfl rfl ?_
  refine Go.getF X1 11 (hw _ (List.mem_of_getElem? (i := 36) rfl)) S2 dio2_8 ?_
  intro T2 X2
  refine Go.iloadN X2 12 dio2_11 rfl ?_
  refine Go.iloadN X2 13 dio2_12 rfl ?_
  refine Go.aloadN X2 14 dio2_13 rfl rfl ?_
  refine Go.callVP X2 17 [] [(.int (0 : Int32)), (.int c0), (.ref t)] 3 (hw _ (List.mem_of_getElem? (i := 57) rfl)) (hw _ (List.mem_of_getElem? (i := 58) rfl)) (hw _ (List.mem_of_getElem? (i := 60) rfl)) (notFace_of_selects (args := #[]) (mvT X2.hZ (hw _ (List.mem_of_getElem? (i := 60) rfl)))) (hw _ (List.mem_of_getElem? (i := 59) rfl)) (hw _ (List.mem_of_getElem? (i := 7) rfl)) (by decide) S1 (hw _ (List.mem_of_getElem? (i := 61) rfl)) pd_9 dio2_14 (rm_len l Z a0 hw h0 cz SC hcz a t n f S) rfl rfl rfl (Nat.le_of_eq rfl) (by decide) (by decide) (by decide) (by decide) ?_
  intro T3 L3 X3
  refine Go.callS X3 20 [(.ref t), (.int c0), (.int (0 : Int32)), (.int (Int32.ofNat n))] [] 0 (hw _ (List.mem_of_getElem? (i := 67) rfl)) (hw _ (List.mem_of_getElem? (i := 68) rfl)) (hw _ (List.mem_of_getElem? (i := 69) rfl)) (by decide) (hw _ (List.mem_of_getElem? (i := 70) rfl)) pd_7 dio2_17 (rm_l1io l Z a0 hw h0 t c0 0 (Int32.ofNat n) n g rfl rfl A h1 h2) rfl rfl rfl (Nat.le_of_eq rfl) (by decide) (by decide) (by decide) (by decide) ?_
  rintro T4 v4 L4 X4 ⟨hh, ⟨r, rfl, q1, q2⟩ | ⟨rfl, q1⟩⟩
  · rw [hh] at X4
    show Go p e below _ T4 m 20 #[.val (.ref a), .val (.int c0), .val (.int (0 : Int32))] [(.int (Int32.ofNat r))]
    refine Go.goto X4 36 dio2_20 ?_
    exact Go.retI X4 rfl (by simp) rfl dio2_36 (X4.fin ⟨rfl, Or.inl ⟨r, rfl, q1, (key r q1).mp q2⟩⟩ (by decide) (by decide))
  · rw [hh] at X4
    show Go p e below _ T4 m 20 #[.val (.ref a), .val (.int c0), .val (.int (0 : Int32))] [(.int (-1 : Int32))]
    refine Go.goto X4 36 dio2_20 ?_
    exact Go.retI X4 rfl (by simp) rfl dio2_36 (X4.fin ⟨rfl, Or.inr ⟨rfl, fun j hj q => q1 j hj ((key j hj).mpr q)⟩⟩ (by decide) (by decide))
theorem dio1_0 : decode jdk_42_method_79_code 0 = .ok (.aload_n 0, 1) := by decide +kernel
theorem dio1_1 : decode jdk_42_method_79_code 1 = .ok (.iload_n 1, 1) := by decide +kernel
theorem dio1_2 : decode jdk_42_method_79_code 2 = .ok (.iconst 0, 1) := by decide +kernel
theorem dio1_3 : decode jdk_42_method_79_code 3 = .ok (.invokevirtual 633, 3) := by decide +kernel
theorem dio1_6 : decode jdk_42_method_79_code 6 = .ok (.ireturn, 1) := by decide +kernel
theorem ef_io1 (m : MethodId) (a : Addr) (c0 : Int32) : entryFrame m #[(.ref a), (.int c0)] 2 = mkF m 0 #[.val (.ref a), .val (.int c0)] [] := by first | (simp [entryFrame, mkF, argsToLocals, Value.category]; done) | rfl
set_option maxRecDepth 65536 in
set_option maxHeartbeats 40000000 in
theorem rm_io1 (l : Launch) (Z : State) (a0 : Array Value) (hw : ∀ d ∈ tables_1, d.before a0 Z = true) (h0 : Heap) (cz : Int32) (SC : Sta Z Z.heap "java/lang/String" "COMPACT_STRINGS" "Z" (.int cz)) (hcz : ¬ cz = 0) (a t : Addr) (c0 : Int32) (n : Nat) (f : Nat → Int32) (S : Str Z h0 a t n f) (hl : ∀ j, j < n → ¬ 255 < f j) (h1 : ¬ c0 < 0) (h2 : ¬ 255 < c0) :
    Ct l Z [] (⟨"java/lang/String", "indexOf", "(I)I"⟩ : MethodName) jdk_42_method_79_code 2 (some .int) (⟨3, 0, 0, 46⟩ : Room) #[(.ref a), (.int c0)] h0 (fun v h' => h' = h0 ∧ ((∃ r, v = some (.int (Int32.ofNat r)) ∧ r < n ∧ f r = c0) ∨ (v = some (.int (-1)) ∧ ∀ j, j < n → ¬ f j = c0))) := by
  refine Ct.of pn_java_lang_String (fun m => ef_io1 m a c0) ?_
  intro p e s m below meth c s₁ X0
  refine Go.aloadN X0 1 dio1_0 rfl rfl ?_
  refine Go.iloadN X0 2 dio1_1 rfl ?_
  refine Go.iconst X0 3 (0 : Int32) dio1_2 ?_
  refine Go.callV X0 6 [(.int c0), (.int (0 : Int32))] [] 0 (hw _ (List.mem_of_getElem? (i := 47) rfl)) (hw _ (List.mem_of_getElem? (i := 48) rfl)) (hw _ (List.mem_of_getElem? (i := 50) rfl)) (notFace_of_selects (args := #[]) (mvT X0.hZ (hw _ (List.mem_of_getElem? (i := 50) rfl)))) (hw _ (List.mem_of_getElem? (i := 49) rfl)) (hw _ (List.mem_of_getElem? (i := 7) rfl)) (by decide) S.exa (hw _ (List.mem_of_getElem? (i := 51) rfl)) pd_6 dio1_3 (rm_io2 l Z a0 hw h0 cz SC hcz a t c0 n f S hl h1 h2 0 rfl) rfl rfl rfl (Nat.le_of_eq rfl) (by decide) (by decide) (by decide) (by decide) ?_
  rintro T1 v1 L1 X1 ⟨hh, ⟨r, rfl, q1, q2⟩ | ⟨rfl, q1⟩⟩
  · rw [hh] at X1
    show Go p e below _ T1 m 6 #[.val (.ref a), .val (.int c0)] [(.int (Int32.ofNat r))]
    exact Go.retI X1 rfl (by simp) rfl dio1_6 (X1.fin ⟨rfl, Or.inl ⟨r, rfl, q1, q2⟩⟩ (by decide) (by decide))
  · rw [hh] at X1
    show Go p e below _ T1 m 6 #[.val (.ref a), .val (.int c0)] [(.int (-1 : Int32))]
    exact Go.retI X1 rfl (by simp) rfl dio1_6 (X1.fin ⟨rfl, Or.inr ⟨rfl, q1⟩⟩ (by decide) (by decide))
theorem own_le {x : Int32} (h1 : ¬ 255 < x) : x.toInt < 65536 := by
  rw [Int32.lt_iff_toInt_lt] at h1
  have e : (255 : Int32).toInt = 255 := by decide
  omega
theorem own_rng {x : Int32} (h0 : 0 ≤ x.toInt) (h1 : x.toInt < 256) : 0 ≤ x.toInt ∧ ¬ 255 < x := by
  refine ⟨h0, ?_⟩
  rw [Int32.lt_iff_toInt_lt]
  have e : (255 : Int32).toInt = 255 := by decide
  omega
theorem own_nr {x : Int32} (h0 : 0 ≤ x.toInt) (h1 : x.toInt < 65536) : nar .char x = x := n_chr h0 h1
theorem own_ne58 {x : Int32} (h1 : ¬ x.toInt = 58) : ¬ x = 58 := fun q => h1 (by rw [q]; decide)
def AllC (n : Nat) (f : Nat → Int32) : Prop := ∀ j, j < n → 0 ≤ (f j).toInt ∧ ¬ 255 < f j
theorem AllC.z {n : Nat} : AllC n (fun _ => (0 : Int32)) := fun j hj => ⟨(by decide : 0 ≤ (0 : Int32).toInt), (by decide : ¬ 255 < (0 : Int32))⟩
theorem AllC.u {n i : Nat} {f : Nat → Int32} {x : Int32} (A : AllC n f) (h : 0 ≤ x.toInt ∧ ¬ 255 < x) : AllC n (upd f i x) := fun j hj => by
  unfold upd
  split
  · exact h
  · exact A j hj
theorem NoC.z {n : Nat} : ∀ j, j < n → ¬ (fun _ => (0 : Int32)) j = 58 := fun j hj => (by decide : ¬ (0 : Int32) = 58)
theorem NoC.u {n i : Nat} {f : Nat → Int32} {x : Int32} (A : ∀ j, j < n → ¬ f j = 58) (h : ¬ x = 58) : ∀ j, j < n → ¬ upd f i x j = 58 := fun j hj => by
  unfold upd
  split
  · exact h
  · exact A j hj
theorem own_c7 {r : Int32} (h0 : 0 ≤ r.toInt) (h1 : r.toInt < 7) : r = 0 ∨ r = 1 ∨ r = 2 ∨ r = 3 ∨ r = 4 ∨ r = 5 ∨ r = 6 := by
  simp only [← Int32.toInt_inj]
  have e0 : (0 : Int32).toInt = 0 := by decide
  have e1 : (1 : Int32).toInt = 1 := by decide
  have e2 : (2 : Int32).toInt = 2 := by decide
  have e3 : (3 : Int32).toInt = 3 := by decide
  have e4 : (4 : Int32).toInt = 4 := by decide
  have e5 : (5 : Int32).toInt = 5 := by decide
  have e6 : (6 : Int32).toInt = 6 := by decide
  rw [e0, e1, e2, e3, e4, e5, e6]
  omega
theorem own_addc {r b : Int32} {B M : Int} (hb : b.toInt = B) (h0 : 0 ≤ r.toInt) (h1 : r.toInt < M) (hB : 0 ≤ B) (hM : B + M ≤ 256) : B ≤ ((b + r).toUInt32.toUInt16.toUInt32.toInt32).toInt ∧ ((b + r).toUInt32.toUInt16.toUInt32.toInt32).toInt < B + M := by
  have a := c_iadd b r
  have c := c_i2c (b + r)
  have q := rng32 (b + r)
  omega
theorem own_hex2 {r : Int32} (h0 : ¬ r < 10) (h1 : r.toInt < 16) : 97 ≤ (((97 : Int32) + r - 10).toUInt32.toUInt16.toUInt32.toInt32).toInt ∧ (((97 : Int32) + r - 10).toUInt32.toUInt16.toUInt32.toInt32).toInt < 103 := by
  have e97 : (97 : Int32).toInt = 97 := by decide
  have e10 : (10 : Int32).toInt = 10 := by decide
  rw [Int32.lt_iff_toInt_lt, e10] at h0
  have a := c_iadd 97 r
  have d := c_isub (97 + r) 10
  have c := c_i2c ((97 : Int32) + r - 10)
  have q := rng32 ((97 : Int32) + r)
  have q2 := rng32 ((97 : Int32) + r - 10)
  rw [e97] at a
  rw [e10] at d
  omega
theorem own_lt10 {r : Int32} (h : r < 10) : r.toInt < 10 := by
  rw [Int32.lt_iff_toInt_lt] at h
  have e10 : (10 : Int32).toInt = 10 := by decide
  omega
theorem own_nat {v m : Int32} (hm : 0 < m.toInt) : 0 ≤ ((v &&& 2147483647) % m).toInt ∧ ((v &&& 2147483647) % m).toInt < m.toInt := by
  have h1 := c_and v 2147483647 (by decide)
  have h2 := (c_iremV (v &&& 2147483647) m).1 h1.1 hm
  exact ⟨h2.1, h2.2.1⟩
theorem pn_com_example_zonewarden_zonewarden_registry_IpAddressesIsIpv6PinLaw : plainName "com/example/zonewarden/zonewarden/registry/IpAddressesIsIpv6PinLaw" = true := by first | (simp [plainName, overriddenIn]; done) | decide +kernel
theorem dnat_0 : decode method_2_code 0 = .ok (.iload_n 0, 1) := by decide +kernel
theorem dnat_1 : decode method_2_code 1 = .ok (.ldc 7, 2) := by decide +kernel
theorem dnat_3 : decode method_2_code 3 = .ok (.iand, 1) := by decide +kernel
theorem dnat_4 : decode method_2_code 4 = .ok (.iload_n 1, 1) := by decide +kernel
theorem dnat_5 : decode method_2_code 5 = .ok (.irem, 1) := by decide +kernel
theorem dnat_6 : decode method_2_code 6 = .ok (.ireturn, 1) := by decide +kernel
theorem ef_nat (m : MethodId) (y : Int32) (z : Int32) : entryFrame m #[(.int y), (.int z)] 2 = mkF m 0 #[.val (.int y), .val (.int z)] [] := by first | (simp [entryFrame, mkF, argsToLocals, Value.category]; done) | rfl
set_option maxRecDepth 65536 in
set_option maxHeartbeats 40000000 in
theorem rm_nat (l : Launch) (Z : State) (a0 : Array Value) (hw : ∀ d ∈ tables_1, d.before a0 Z = true) (h0 : Heap) (y z : Int32) (M : Int) (hM : z.toInt = M) (h : 0 < M) :
    Ct l Z [] (⟨"com/example/zonewarden/zonewarden/registry/IpAddressesIsIpv6PinLaw", "nat", "(II)I"⟩ : MethodName) method_2_code 2 (some .int) (⟨0, 0, 0, 0⟩ : Room) #[(.int y), (.int z)] h0 (fun v h' => h' = h0 ∧ ∃ r : Int32, v = some (.int r) ∧ 0 ≤ r.toInt ∧ r.toInt < M) := by
  refine Ct.of pn_com_example_zonewarden_zonewarden_registry_IpAddressesIsIpv6PinLaw (fun m => ef_nat m y z) ?_
  intro p e s m below meth c s₁ X0
  refine Go.iloadN X0 1 dnat_0 rfl ?_
  refine Go.ldcI X0 3 (hw _ (List.mem_of_getElem? (i := 4) rfl)) dnat_1 ?_
  refine Go.iand X0 4 dnat_3 ?_
  refine Go.iloadN X0 5 dnat_4 rfl ?_
  refine Go.irem X0 6 dnat_5 (fun q => by subst q; exact absurd h (by rw [← hM]; decide)) ?_
  exact Go.retI X0 rfl (by simp) rfl dnat_6 (X0.fin ⟨rfl, _, rfl, (own_nat (by rw [hM]; exact h)).1, by have q := (own_nat (v := y) (m := z) (by rw [hM]; exact h)).2; rw [hM] at q; exact q⟩ (by decide) (by decide))
theorem ddec_0 : decode method_4_code 0 = .ok (.bipush 48, 2) := by decide +kernel
theorem ddec_2 : decode method_4_code 2 = .ok (.iload_n 0, 1) := by decide +kernel
theorem ddec_3 : decode method_4_code 3 = .ok (.bipush 10, 2) := by decide +kernel
theorem ddec_5 : decode method_4_code 5 = .ok (.invokestatic 8, 3) := by decide +kernel
theorem ddec_8 : decode method_4_code 8 = .ok (.iadd, 1) := by decide +kernel
theorem ddec_9 : decode method_4_code 9 = .ok (.i2c, 1) := by decide +kernel
theorem ddec_10 : decode method_4_code 10 = .ok (.ireturn, 1) := by decide +kernel
theorem ef_dec (m : MethodId) (y : Int32) : entryFrame m #[(.int y)] 1 = mkF m 0 #[.val (.int y)] [] := by first | (simp [entryFrame, mkF, argsToLocals, Value.category]; done) | rfl
set_option maxRecDepth 65536 in
set_option maxHeartbeats 40000000 in
theorem rm_dec (l : Launch) (Z : State) (a0 : Array Value) (hw : ∀ d ∈ tables_1, d.before a0 Z = true) (h0 : Heap) (y : Int32) :
    Ct l Z [] (⟨"com/example/zonewarden/zonewarden/registry/IpAddressesIsIpv6PinLaw", "dec", "(I)C"⟩ : MethodName) method_4_code 1 (some .char) (⟨1, 0, 0, 14⟩ : Room) #[(.int y)] h0 (fun v h' => h' = h0 ∧ ∃ r : Int32, v = some (.int r) ∧ 48 ≤ r.toInt ∧ r.toInt < 58) := by
  refine Ct.of pn_com_example_zonewarden_zonewarden_registry_IpAddressesIsIpv6PinLaw (fun m => ef_dec m y) ?_
  intro p e s m below meth c s₁ X0
  refine Go.bipush X0 2 (48 : Int32) ddec_0 ?_
  refine Go.iloadN X0 3 ddec_2 rfl ?_
  refine Go.bipush X0 5 (10 : Int32) ddec_3 ?_
  refine Go.callS X0 8 [(.int y), (.int (10 : Int32))] [(.int (48 : Int32))] 1 (hw _ (List.mem_of_getElem? (i := 0) rfl)) (hw _ (List.mem_of_getElem? (i := 1) rfl)) (hw _ (List.mem_of_getElem? (i := 2) rfl)) (by decide) (hw _ (List.mem_of_getElem? (i := 3) rfl)) pd_6 ddec_5 (rm_nat l Z a0 hw h0 y (10 : Int32) 10 (by decide) (by decide)) rfl rfl rfl (Nat.le_of_eq rfl) (by decide) (by decide) (by decide) (by decide) ?_
  rintro T1 v1 L1 X1 ⟨hhr, r, rfl, r0, r1⟩
  rw [hhr] at X1
  show Go p e below _ T1 m 8 #[.val (.int y)] [(.int r), (.int (48 : Int32))]
  refine Go.iadd X1 9 ddec_8 ?_
  refine Go.i2c X1 10 ddec_9 ?_
  exact Go.retI X1 rfl (by simp) (XT.narrow_c _) ddec_10 (X1.fin ⟨rfl, _, rfl, own_addc (B := 48) (M := 10) (by decide) r0 r1 (by decide) (by decide)⟩ (by decide) (by decide))
theorem dhex_0 : decode method_3_code 0 = .ok (.iload_n 0, 1) := by decide +kernel
theorem dhex_1 : decode method_3_code 1 = .ok (.bipush 10, 2) := by decide +kernel
theorem dhex_3 : decode method_3_code 3 = .ok (.if_icmp .ge 9, 3) := by decide +kernel
theorem dhex_6 : decode method_3_code 6 = .ok (.bipush 48, 2) := by decide +kernel
theorem dhex_8 : decode method_3_code 8 = .ok (.iload_n 0, 1) := by decide +kernel
theorem dhex_9 : decode method_3_code 9 = .ok (.iadd, 1) := by decide +kernel
theorem dhex_10 : decode method_3_code 10 = .ok (.i2c, 1) := by decide +kernel
theorem dhex_11 : decode method_3_code 11 = .ok (.ireturn, 1) := by decide +kernel
theorem dhex_12 : decode method_3_code 12 = .ok (.bipush 97, 2) := by decide +kernel
theorem dhex_14 : decode method_3_code 14 = .ok (.iload_n 0, 1) := by decide +kernel
theorem dhex_15 : decode method_3_code 15 = .ok (.iadd, 1) := by decide +kernel
theorem dhex_16 : decode method_3_code 16 = .ok (.bipush 10, 2) := by decide +kernel
theorem dhex_18 : decode method_3_code 18 = .ok (.isub, 1) := by decide +kernel
theorem dhex_19 : decode method_3_code 19 = .ok (.i2c, 1) := by decide +kernel
theorem dhex_20 : decode method_3_code 20 = .ok (.ireturn, 1) := by decide +kernel
theorem ef_hex (m : MethodId) (y : Int32) : entryFrame m #[(.int y)] 1 = mkF m 0 #[.val (.int y)] [] := by first | (simp [entryFrame, mkF, argsToLocals, Value.category]; done) | rfl
set_option maxRecDepth 65536 in
set_option maxHeartbeats 40000000 in
theorem rm_hex (l : Launch) (Z : State) (a0 : Array Value) (hw : ∀ d ∈ tables_1, d.before a0 Z = true) (h0 : Heap) (y : Int32) (h1 : 0 ≤ y.toInt) (h2 : y.toInt < 16) :
    Ct l Z [] (⟨"com/example/zonewarden/zonewarden/registry/IpAddressesIsIpv6PinLaw", "hex", "(I)C"⟩ : MethodName) method_3_code 1 (some .char) (⟨0, 0, 0, 0⟩ : Room) #[(.int y)] h0 (fun v h' => h' = h0 ∧ ∃ r : Int32, v = some (.int r) ∧ 0 ≤ r.toInt ∧ r.toInt < 256) := by
  refine Ct.of pn_com_example_zonewarden_zonewarden_registry_IpAddressesIsIpv6PinLaw (fun m => ef_hex m y) ?_
  intro p e s m below meth c s₁ X0
  refine Go.iloadN X0 1 dhex_0 rfl ?_
  refine Go.bipush X0 3 (10 : Int32) dhex_1 ?_
  by_cases c1 : y < (10 : Int32)
  · skip
    refine Go.icmpN X0 6 dhex_3 (XT.ii_ge_f c1) ?_
    refine Go.bipush X0 8 (48 : Int32) dhex_6 ?_
    refine Go.iloadN X0 9 dhex_8 rfl ?_
    refine Go.iadd X0 10 dhex_9 ?_
    refine Go.i2c X0 11 dhex_10 ?_
    exact Go.retI X0 rfl (by simp) (XT.narrow_c _) dhex_11 (X0.fin ⟨rfl, _, rfl, by have q := own_addc (b := 48) (B := 48) (M := 10) (by decide) h1 (own_lt10 c1) (by decide) (by decide); omega, by have q := own_addc (b := 48) (B := 48) (M := 10) (by decide) h1 (own_lt10 c1) (by decide) (by decide); omega⟩ (by decide) (by decide))
  · skip
    refine Go.icmpY X0 12 dhex_3 (XT.ii_ge_t c1) ?_
    refine Go.bipush X0 14 (97 : Int32) dhex_12 ?_
    refine Go.iloadN X0 15 dhex_14 rfl ?_
    refine Go.iadd X0 16 dhex_15 ?_
    refine Go.bipush X0 18 (10 : Int32) dhex_16 ?_
    refine Go.isub X0 19 dhex_18 ?_
    refine Go.i2c X0 20 dhex_19 ?_
    exact Go.retI X0 rfl (by simp) (XT.narrow_c _) dhex_20 (X0.fin ⟨rfl, _, rfl, by have q := own_hex2 c1 h2; omega, by have q := own_hex2 c1 h2; omega⟩ (by decide) (by decide))
theorem own_inc {r : Int32} (h0 : 0 ≤ r.toInt) (h1 : r.toInt < 15) : 0 ≤ (r + 1).toInt ∧ (r + 1).toInt < 16 := by
  have a := c_iadd r 1
  have e1 : (1 : Int32).toInt = 1 := by decide
  have q := rng32 (r + 1)
  rw [e1] at a
  omega
theorem dnz_0 : decode method_5_code 0 = .ok (.iload_n 0, 1) := by decide +kernel
theorem dnz_1 : decode method_5_code 1 = .ok (.bipush 15, 2) := by decide +kernel
theorem dnz_3 : decode method_5_code 3 = .ok (.invokestatic 8, 3) := by decide +kernel
theorem dnz_6 : decode method_5_code 6 = .ok (.iconst 1, 1) := by decide +kernel
theorem dnz_7 : decode method_5_code 7 = .ok (.iadd, 1) := by decide +kernel
theorem dnz_8 : decode method_5_code 8 = .ok (.invokestatic 14, 3) := by decide +kernel
theorem dnz_11 : decode method_5_code 11 = .ok (.ireturn, 1) := by decide +kernel
theorem ef_nz (m : MethodId) (y : Int32) : entryFrame m #[(.int y)] 1 = mkF m 0 #[.val (.int y)] [] := by first | (simp [entryFrame, mkF, argsToLocals, Value.category]; done) | rfl
set_option maxRecDepth 65536 in
set_option maxHeartbeats 40000000 in
theorem rm_nz (l : Launch) (Z : State) (a0 : Array Value) (hw : ∀ d ∈ tables_1, d.before a0 Z = true) (h0 : Heap) (y : Int32) :
    Ct l Z [] (⟨"com/example/zonewarden/zonewarden/registry/IpAddressesIsIpv6PinLaw", "hexNz", "(I)C"⟩ : MethodName) method_5_code 1 (some .char) (⟨1, 0, 0, 13⟩ : Room) #[(.int y)] h0 (fun v h' => h' = h0 ∧ ∃ r : Int32, v = some (.int r) ∧ 0 ≤ r.toInt ∧ r.toInt < 256) := by
  refine Ct.of pn_com_example_zonewarden_zonewarden_registry_IpAddressesIsIpv6PinLaw (fun m => ef_nz m y) ?_
  intro p e s m below meth c s₁ X0
  refine Go.iloadN X0 1 dnz_0 rfl ?_
  refine Go.bipush X0 3 (15 : Int32) dnz_1 ?_
  refine Go.callS X0 6 [(.int y), (.int (15 : Int32))] [] 0 (hw _ (List.mem_of_getElem? (i := 0) rfl)) (hw _ (List.mem_of_getElem? (i := 1) rfl)) (hw _ (List.mem_of_getElem? (i := 2) rfl)) (by decide) (hw _ (List.mem_of_getElem? (i := 3) rfl)) pd_6 dnz_3 (rm_nat l Z a0 hw h0 y (15 : Int32) 15 (by decide) (by decide)) rfl rfl rfl (Nat.le_of_eq rfl) (by decide) (by decide) (by decide) (by decide) ?_
  rintro T1 v1 L1 X1 ⟨hhr, r, rfl, r0, r1⟩
  rw [hhr] at X1
  show Go p e below _ T1 m 6 #[.val (.int y)] [(.int r)]
  refine Go.iconst X1 7 (1 : Int32) dnz_6 ?_
  refine Go.iadd X1 8 dnz_7 ?_
  refine Go.callS X1 11 [(.int (r + (1 : Int32)))] [] 0 (hw _ (List.mem_of_getElem? (i := 87) rfl)) (hw _ (List.mem_of_getElem? (i := 88) rfl)) (hw _ (List.mem_of_getElem? (i := 2) rfl)) (by decide) (hw _ (List.mem_of_getElem? (i := 89) rfl)) pd_10 dnz_8 (rm_hex l Z a0 hw h0 (r + (1 : Int32)) (own_inc r0 r1).1 (own_inc r0 r1).2) rfl rfl rfl (Nat.le_of_eq rfl) (by decide) (by decide) (by decide) (by decide) ?_
  rintro T2 v2 L2 X2 ⟨hhu, u, rfl, u0, u1⟩
  rw [hhu] at X2
  show Go p e below _ T2 m 11 #[.val (.int y)] [(.int u)]
  exact Go.retI X2 rfl (by simp) (n_nar u0 (by omega)) dnz_11 (X2.fin ⟨rfl, _, rfl, u0, u1⟩ (by decide) (by decide))
theorem dany_0 : decode method_6_code 0 = .ok (.iload_n 0, 1) := by decide +kernel
theorem dany_1 : decode method_6_code 1 = .ok (.bipush 15, 2) := by decide +kernel
theorem dany_3 : decode method_6_code 3 = .ok (.iand, 1) := by decide +kernel
theorem dany_4 : decode method_6_code 4 = .ok (.invokestatic 14, 3) := by decide +kernel
theorem dany_7 : decode method_6_code 7 = .ok (.ireturn, 1) := by decide +kernel
theorem ef_any (m : MethodId) (y : Int32) : entryFrame m #[(.int y)] 1 = mkF m 0 #[.val (.int y)] [] := by first | (simp [entryFrame, mkF, argsToLocals, Value.category]; done) | rfl
set_option maxRecDepth 65536 in
set_option maxHeartbeats 40000000 in
theorem rm_any (l : Launch) (Z : State) (a0 : Array Value) (hw : ∀ d ∈ tables_1, d.before a0 Z = true) (h0 : Heap) (y : Int32) :
    Ct l Z [] (⟨"com/example/zonewarden/zonewarden/registry/IpAddressesIsIpv6PinLaw", "hexAny", "(I)C"⟩ : MethodName) method_6_code 1 (some .char) (⟨1, 0, 0, 12⟩ : Room) #[(.int y)] h0 (fun v h' => h' = h0 ∧ ∃ r : Int32, v = some (.int r) ∧ 0 ≤ r.toInt ∧ r.toInt < 256) := by
  refine Ct.of pn_com_example_zonewarden_zonewarden_registry_IpAddressesIsIpv6PinLaw (fun m => ef_any m y) ?_
  intro p e s m below meth c s₁ X0
  refine Go.iloadN X0 1 dany_0 rfl ?_
  refine Go.bipush X0 3 (15 : Int32) dany_1 ?_
  refine Go.iand X0 4 dany_3 ?_
  refine Go.callS X0 7 [(.int (y &&& (15 : Int32)))] [] 0 (hw _ (List.mem_of_getElem? (i := 87) rfl)) (hw _ (List.mem_of_getElem? (i := 88) rfl)) (hw _ (List.mem_of_getElem? (i := 2) rfl)) (by decide) (hw _ (List.mem_of_getElem? (i := 89) rfl)) pd_10 dany_4 (rm_hex l Z a0 hw h0 (y &&& (15 : Int32)) (c_and y 15 (by decide)).1 (Int.lt_of_le_of_lt (c_and y 15 (by decide)).2 (by decide))) rfl rfl rfl (Nat.le_of_eq rfl) (by decide) (by decide) (by decide) (by decide) ?_
  rintro T1 v1 L1 X1 ⟨hhu, u, rfl, u0, u1⟩
  rw [hhu] at X1
  show Go p e below _ T1 m 7 #[.val (.int y)] [(.int u)]
  exact Go.retI X1 rfl (by simp) (n_nar u0 (by omega)) dany_7 (X1.fin ⟨rfl, _, rfl, u0, u1⟩ (by decide) (by decide))
theorem pn_com_example_zonewarden_zonewarden_registry_IpAddresses : plainName "com/example/zonewarden/zonewarden/registry/IpAddresses" = true := by first | (simp [plainName, overriddenIn]; done) | decide +kernel
theorem dis_0 : decode prog_62_method_3_code 0 = .ok (.aload_n 0, 1) := by decide +kernel
theorem dis_1 : decode prog_62_method_3_code 1 = .ok (.bipush 58, 2) := by decide +kernel
theorem dis_3 : decode prog_62_method_3_code 3 = .ok (.invokevirtual 43, 3) := by decide +kernel
theorem dis_6 : decode prog_62_method_3_code 6 = .ok (.ifCond .lt 7, 3) := by decide +kernel
theorem dis_9 : decode prog_62_method_3_code 9 = .ok (.iconst 1, 1) := by decide +kernel
theorem dis_10 : decode prog_62_method_3_code 10 = .ok (.goto 4, 3) := by decide +kernel
theorem dis_13 : decode prog_62_method_3_code 13 = .ok (.iconst 0, 1) := by decide +kernel
theorem dis_14 : decode prog_62_method_3_code 14 = .ok (.ireturn, 1) := by decide +kernel
theorem ef_is (m : MethodId) (a : Addr) : entryFrame m #[(.ref a)] 1 = mkF m 0 #[.val (.ref a)] [] := by first | (simp [entryFrame, mkF, argsToLocals, Value.category]; done) | rfl
set_option maxRecDepth 65536 in
set_option maxHeartbeats 40000000 in
theorem rm_is (l : Launch) (Z : State) (a0 : Array Value) (hw : ∀ d ∈ tables_1, d.before a0 Z = true) (h0 : Heap) (cz : Int32) (SC : Sta Z Z.heap "java/lang/String" "COMPACT_STRINGS" "Z" (.int cz)) (hcz : ¬ cz = 0) (a t : Addr) (n : Nat) (f : Nat → Int32) (r : Int32) (S : Str Z h0 a t n f) (hl : ∀ j, j < n → ¬ 255 < f j) (hr : (r = 0 ∧ ∀ j, j < n → ¬ f j = 58) ∨ (r = 1 ∧ ∃ j, j < n ∧ f j = 58)) :
    Ct l Z [] (⟨"com/example/zonewarden/zonewarden/registry/IpAddresses", "isIpv6", "(Ljava/lang/String;)Z"⟩ : MethodName) prog_62_method_3_code 1 (some .boolean) (⟨4, 0, 0, 59⟩ : Room) #[(.ref a)] h0 (Pu h0 (.int r)) := by
  refine Ct.of pn_com_example_zonewarden_zonewarden_registry_IpAddresses (fun m => ef_is m a) ?_
  intro p e s m below meth c s₁ X0
  refine Go.aloadN X0 1 dis_0 rfl rfl ?_
  refine Go.bipush X0 3 (58 : Int32) dis_1 ?_
  refine Go.callV X0 6 [(.int (58 : Int32))] [] 0 (hw _ (List.mem_of_getElem? (i := 42) rfl)) (hw _ (List.mem_of_getElem? (i := 43) rfl)) (hw _ (List.mem_of_getElem? (i := 45) rfl)) (notFace_of_selects (args := #[]) (mvT X0.hZ (hw _ (List.mem_of_getElem? (i := 45) rfl)))) (hw _ (List.mem_of_getElem? (i := 44) rfl)) (hw _ (List.mem_of_getElem? (i := 7) rfl)) (by decide) S.exa (hw _ (List.mem_of_getElem? (i := 46) rfl)) pd_11 dis_3 (rm_io1 l Z a0 hw h0 cz SC hcz a t 58 n f S hl (by decide) (by decide)) rfl rfl rfl (Nat.le_of_eq rfl) (by decide) (by decide) (by decide) (by decide) ?_
  rintro T1 v1 L1 X1 ⟨hh, ⟨i, rfl, q1, q2⟩ | ⟨rfl, q1⟩⟩
  · rw [hh] at X1
    rcases hr with ⟨rfl, q3⟩ | ⟨rfl, q3⟩
    · exact absurd q2 (q3 i q1)
    · skip
      show Go p e below _ T1 m 6 #[.val (.ref a)] [(.int (Int32.ofNat i))]
      refine Go.if0N X1 9 dis_6 (XT.i0_lt_f (n_nn (by have := S.2.2.1; omega))) ?_
      refine Go.iconst X1 10 (1 : Int32) dis_9 ?_
      refine Go.goto X1 14 dis_10 ?_
      exact Go.retI X1 rfl (by simp) rfl dis_14 (X1.fin ⟨rfl, rfl⟩ (by decide) (by decide))
  · rw [hh] at X1
    rcases hr with ⟨rfl, q3⟩ | ⟨rfl, j, q3, q4⟩
    · skip
      show Go p e below _ T1 m 6 #[.val (.ref a)] [(.int (-1 : Int32))]
      refine Go.if0Y X1 13 dis_6 (XT.i0_lt_t (by decide)) ?_
      refine Go.iconst X1 14 (0 : Int32) dis_13 ?_
      exact Go.retI X1 rfl (by simp) rfl dis_14 (X1.fin ⟨rfl, rfl⟩ (by decide) (by decide))
    · exact absurd q4 (q1 j q3)
theorem ef_l (m : MethodId) (q0 : Int32) (q1 : Int32) (q2 : Int32) (q3 : Int32) (q4 : Int32) : entryFrame m #[(.int q0), (.int q1), (.int q2), (.int q3), (.int q4)] maxLocals = mkF m 0 #[.val (.int q0), .val (.int q1), .val (.int q2), .val (.int q3), .val (.int q4), .unset, .unset, .unset] [] := by first | (simp [entryFrame, mkF, argsToLocals, Value.category, maxLocals]; done) | rfl
set_option maxRecDepth 65536 in
set_option maxHeartbeats 40000000 in
theorem rm_l (l : Launch) (Z : State) (a0 : Array Value) (hw : ∀ d ∈ tables_1, d.before a0 Z = true) (h0 : Heap) (cz : Int32) (SC : Sta Z Z.heap "java/lang/String" "COMPACT_STRINGS" "Z" (.int cz)) (hcz : ¬ cz = 0) (q0 q1 q2 q3 q4 : Int32) :
    Ct l Z tables_1 x code maxLocals ret room_1 #[(.int q0), (.int q1), (.int q2), (.int q3), (.int q4)] h0 (fun v _ => v = some (.int 1)) := by
  refine Ct.of pn_com_example_zonewarden_zonewarden_registry_IpAddressesIsIpv6PinLaw (fun m => ef_l m q0 q1 q2 q3 q4) ?_
  intro p e s m below meth c s₁ X0
  refine Go.iloadN X0 1 at_0 rfl ?_
  refine Go.bipush X0 3 (7 : Int32) at_1 ?_
  refine Go.callS X0 6 [(.int q0), (.int (7 : Int32))] [] 0 (hw _ (List.mem_of_getElem? (i := 0) rfl)) (hw _ (List.mem_of_getElem? (i := 1) rfl)) (hw _ (List.mem_of_getElem? (i := 2) rfl)) (by decide) (hw _ (List.mem_of_getElem? (i := 3) rfl)) pd_6 at_3 (rm_nat l Z a0 hw h0 q0 (7 : Int32) 7 (by decide) (by decide)) rfl rfl rfl (Nat.le_of_eq rfl) (by decide) (by decide) (by decide) (by decide) ?_
  rintro T1 v1 L1 X1 ⟨hhk, k, rfl, k0, k1⟩
  rw [hhk] at X1
  show Go p e below _ T1 m 6 #[.val (.int q0), .val (.int q1), .val (.int q2), .val (.int q3), .val (.int q4), .unset, .unset, .unset] [(.int k)]
  rcases own_c7 k0 k1 with rfl | rfl | rfl | rfl | rfl | rfl | rfl
  · skip
    refine Go.istore X1 8 #[.val (.int q0), .val (.int q1), .val (.int q2), .val (.int q3), .val (.int q4), .val (.int (0 : Int32)), .unset, .unset] at_6 rfl ?_
    refine Go.iload X1 10 at_8 rfl ?_
    refine Go.if0N X1 13 at_10 (XT.i0_ne_f (by decide)) ?_
    refine Go.newO X1 16 (hw _ (List.mem_of_getElem? (i := 5) rfl)) (hw _ (List.mem_of_getElem? (i := 6) rfl)) (hw _ (List.mem_of_getElem? (i := 7) rfl)) at_13 (by decide) (by decide) ?_
    intro T101 h101 a101 X101 E101 g101 A101 D101
    have nw_a101 : Z.heap.size ≤ a101 := by rw [← g101]; exact X1.le
    have F102 : Fld Z h101 a101 "java/lang/String" "coder" "B" (.int (0 : Int32)) := D101 (Or.inr (hw _ (List.mem_of_getElem? (i := 35) rfl))) (ty := .byte) (by decide)
    have F103 : Fld Z h101 a101 "java/lang/String" "value" "[B" .null := D101 (Or.inr (hw _ (List.mem_of_getElem? (i := 37) rfl))) (ty := (.array .byte)) (by decide)
    refine Go.dup X101 17 at_16 rfl ?_
    refine Go.bipush X101 19 (7 : Int32) at_17 ?_
    refine Go.newC X101 21 (n := 7) (hw _ (List.mem_of_getElem? (i := 8) rfl)) at_19 7 (by decide) (by decide) (by decide) (by decide) ?_
    intro T104 h104 a104 X104 E104 g104 V104
    have nw_a104 : Z.heap.size ≤ a104 := by rw [← g104]; exact X101.le
    have ne_a101_a104 : a101 ≠ a104 := by rw [← g104]; exact Nat.ne_of_lt A101.lt
    have F105 : Exa Z h104 a101 "java/lang/String" := A101.ext E104
    have F106 : Fld Z h104 a101 "java/lang/String" "coder" "B" (.int (0 : Int32)) := F102.ext E104
    have F107 : Fld Z h104 a101 "java/lang/String" "value" "[B" .null := F103.ext E104
    refine Go.dup X104 22 at_21 rfl ?_
    refine Go.iconst X104 23 (0 : Int32) at_22 ?_
    refine Go.iloadN X104 24 at_23 rfl ?_
    refine Go.callS X104 27 [(.int q1)] [(.int (0 : Int32)), (.ref a104), (.ref a104), (.ref a101), (.ref a101)] 5 (hw _ (List.mem_of_getElem? (i := 9) rfl)) (hw _ (List.mem_of_getElem? (i := 10) rfl)) (hw _ (List.mem_of_getElem? (i := 2) rfl)) (by decide) (hw _ (List.mem_of_getElem? (i := 11) rfl)) pd_10 at_24 (rm_dec l Z a0 hw h104 q1) rfl rfl rfl (Nat.le_of_eq rfl) (by decide) (by decide) (by decide) (by decide) ?_
    rintro T109 v109 L109 X109 ⟨hhc108, c108, rfl, c1080, c1081⟩
    rw [hhc108] at X109
    show Go p e below _ T109 m 27 #[.val (.int q0), .val (.int q1), .val (.int q2), .val (.int q3), .val (.int q4), .val (.int (0 : Int32)), .unset, .unset] [(.int c108), (.int (0 : Int32)), (.ref a104), (.ref a104), (.ref a101), (.ref a101)]
    refine Go.stCN X109 28 V104 0 (by decide) at_27 nw_a104 ?_
    intro T110 h110 w110 X110 W110 V110
    rw [(own_nr (by omega) (by omega) : nar .char c108 = c108)] at V110
    have F111 : Exa Z h110 a101 "java/lang/String" := F105.wr W110
    have F112 : Fld Z h110 a101 "java/lang/String" "coder" "B" (.int (0 : Int32)) := F106.other W110 (Or.inl ne_a101_a104)
    have F113 : Fld Z h110 a101 "java/lang/String" "value" "[B" .null := F107.other W110 (Or.inl ne_a101_a104)
    have F114 : An Z h110 a104 .char 7 (upd (fun _ => (0 : Int32)) 0 c108) := V110
    refine Go.dup X110 29 at_28 rfl ?_
    refine Go.iconst X110 30 (1 : Int32) at_29 ?_
    refine Go.bipush X110 32 (46 : Int32) at_30 ?_
    refine Go.stCN X110 33 F114 1 (by decide) at_32 nw_a104 ?_
    intro T115 h115 w115 X115 W115 V115
    rw [(by decide : nar .char (46 : Int32) = (46 : Int32))] at V115
    have F116 : Exa Z h115 a101 "java/lang/String" := F111.wr W115
    have F117 : Fld Z h115 a101 "java/lang/String" "coder" "B" (.int (0 : Int32)) := F112.other W115 (Or.inl ne_a101_a104)
    have F118 : Fld Z h115 a101 "java/lang/String" "value" "[B" .null := F113.other W115 (Or.inl ne_a101_a104)
    have F119 : An Z h115 a104 .char 7 (upd (upd (fun _ => (0 : Int32)) 0 c108) 1 (46 : Int32)) := V115
    refine Go.dup X115 34 at_33 rfl ?_
    refine Go.iconst X115 35 (2 : Int32) at_34 ?_
    refine Go.iloadN X115 36 at_35 rfl ?_
    refine Go.callS X115 39 [(.int q2)] [(.int (2 : Int32)), (.ref a104), (.ref a104), (.ref a101), (.ref a101)] 5 (hw _ (List.mem_of_getElem? (i := 9) rfl)) (hw _ (List.mem_of_getElem? (i := 10) rfl)) (hw _ (List.mem_of_getElem? (i := 2) rfl)) (by decide) (hw _ (List.mem_of_getElem? (i := 11) rfl)) pd_10 at_36 (rm_dec l Z a0 hw h115 q2) rfl rfl rfl (Nat.le_of_eq rfl) (by decide) (by decide) (by decide) (by decide) ?_
    rintro T121 v121 L121 X121 ⟨hhc120, c120, rfl, c1200, c1201⟩
    rw [hhc120] at X121
    show Go p e below _ T121 m 39 #[.val (.int q0), .val (.int q1), .val (.int q2), .val (.int q3), .val (.int q4), .val (.int (0 : Int32)), .unset, .unset] [(.int c120), (.int (2 : Int32)), (.ref a104), (.ref a104), (.ref a101), (.ref a101)]
    refine Go.stCN X121 40 F119 2 (by decide) at_39 nw_a104 ?_
    intro T122 h122 w122 X122 W122 V122
    rw [(own_nr (by omega) (by omega) : nar .char c120 = c120)] at V122
    have F123 : Exa Z h122 a101 "java/lang/String" := F116.wr W122
    have F124 : Fld Z h122 a101 "java/lang/String" "coder" "B" (.int (0 : Int32)) := F117.other W122 (Or.inl ne_a101_a104)
    have F125 : Fld Z h122 a101 "java/lang/String" "value" "[B" .null := F118.other W122 (Or.inl ne_a101_a104)
    have F126 : An Z h122 a104 .char 7 (upd (upd (upd (fun _ => (0 : Int32)) 0 c108) 1 (46 : Int32)) 2 c120) := V122
    refine Go.dup X122 41 at_40 rfl ?_
    refine Go.iconst X122 42 (3 : Int32) at_41 ?_
    refine Go.bipush X122 44 (46 : Int32) at_42 ?_
    refine Go.stCN X122 45 F126 3 (by decide) at_44 nw_a104 ?_
    intro T127 h127 w127 X127 W127 V127
    rw [(by decide : nar .char (46 : Int32) = (46 : Int32))] at V127
    have F128 : Exa Z h127 a101 "java/lang/String" := F123.wr W127
    have F129 : Fld Z h127 a101 "java/lang/String" "coder" "B" (.int (0 : Int32)) := F124.other W127 (Or.inl ne_a101_a104)
    have F130 : Fld Z h127 a101 "java/lang/String" "value" "[B" .null := F125.other W127 (Or.inl ne_a101_a104)
    have F131 : An Z h127 a104 .char 7 (upd (upd (upd (upd (fun _ => (0 : Int32)) 0 c108) 1 (46 : Int32)) 2 c120) 3 (46 : Int32)) := V127
    refine Go.dup X127 46 at_45 rfl ?_
    refine Go.iconst X127 47 (4 : Int32) at_46 ?_
    refine Go.iloadN X127 48 at_47 rfl ?_
    refine Go.callS X127 51 [(.int q3)] [(.int (4 : Int32)), (.ref a104), (.ref a104), (.ref a101), (.ref a101)] 5 (hw _ (List.mem_of_getElem? (i := 9) rfl)) (hw _ (List.mem_of_getElem? (i := 10) rfl)) (hw _ (List.mem_of_getElem? (i := 2) rfl)) (by decide) (hw _ (List.mem_of_getElem? (i := 11) rfl)) pd_10 at_48 (rm_dec l Z a0 hw h127 q3) rfl rfl rfl (Nat.le_of_eq rfl) (by decide) (by decide) (by decide) (by decide) ?_
    rintro T133 v133 L133 X133 ⟨hhc132, c132, rfl, c1320, c1321⟩
    rw [hhc132] at X133
    show Go p e below _ T133 m 51 #[.val (.int q0), .val (.int q1), .val (.int q2), .val (.int q3), .val (.int q4), .val (.int (0 : Int32)), .unset, .unset] [(.int c132), (.int (4 : Int32)), (.ref a104), (.ref a104), (.ref a101), (.ref a101)]
    refine Go.stCN X133 52 F131 4 (by decide) at_51 nw_a104 ?_
    intro T134 h134 w134 X134 W134 V134
    rw [(own_nr (by omega) (by omega) : nar .char c132 = c132)] at V134
    have F135 : Exa Z h134 a101 "java/lang/String" := F128.wr W134
    have F136 : Fld Z h134 a101 "java/lang/String" "coder" "B" (.int (0 : Int32)) := F129.other W134 (Or.inl ne_a101_a104)
    have F137 : Fld Z h134 a101 "java/lang/String" "value" "[B" .null := F130.other W134 (Or.inl ne_a101_a104)
    have F138 : An Z h134 a104 .char 7 (upd (upd (upd (upd (upd (fun _ => (0 : Int32)) 0 c108) 1 (46 : Int32)) 2 c120) 3 (46 : Int32)) 4 c132) := V134
    refine Go.dup X134 53 at_52 rfl ?_
    refine Go.iconst X134 54 (5 : Int32) at_53 ?_
    refine Go.bipush X134 56 (46 : Int32) at_54 ?_
    refine Go.stCN X134 57 F138 5 (by decide) at_56 nw_a104 ?_
    intro T139 h139 w139 X139 W139 V139
    rw [(by decide : nar .char (46 : Int32) = (46 : Int32))] at V139
    have F140 : Exa Z h139 a101 "java/lang/String" := F135.wr W139
    have F141 : Fld Z h139 a101 "java/lang/String" "coder" "B" (.int (0 : Int32)) := F136.other W139 (Or.inl ne_a101_a104)
    have F142 : Fld Z h139 a101 "java/lang/String" "value" "[B" .null := F137.other W139 (Or.inl ne_a101_a104)
    have F143 : An Z h139 a104 .char 7 (upd (upd (upd (upd (upd (upd (fun _ => (0 : Int32)) 0 c108) 1 (46 : Int32)) 2 c120) 3 (46 : Int32)) 4 c132) 5 (46 : Int32)) := V139
    refine Go.dup X139 58 at_57 rfl ?_
    refine Go.bipush X139 60 (6 : Int32) at_58 ?_
    refine Go.iload X139 62 at_60 rfl ?_
    refine Go.callS X139 65 [(.int q4)] [(.int (6 : Int32)), (.ref a104), (.ref a104), (.ref a101), (.ref a101)] 5 (hw _ (List.mem_of_getElem? (i := 9) rfl)) (hw _ (List.mem_of_getElem? (i := 10) rfl)) (hw _ (List.mem_of_getElem? (i := 2) rfl)) (by decide) (hw _ (List.mem_of_getElem? (i := 11) rfl)) pd_10 at_62 (rm_dec l Z a0 hw h139 q4) rfl rfl rfl (Nat.le_of_eq rfl) (by decide) (by decide) (by decide) (by decide) ?_
    rintro T145 v145 L145 X145 ⟨hhc144, c144, rfl, c1440, c1441⟩
    rw [hhc144] at X145
    show Go p e below _ T145 m 65 #[.val (.int q0), .val (.int q1), .val (.int q2), .val (.int q3), .val (.int q4), .val (.int (0 : Int32)), .unset, .unset] [(.int c144), (.int (6 : Int32)), (.ref a104), (.ref a104), (.ref a101), (.ref a101)]
    refine Go.stCN X145 66 F143 6 (by decide) at_65 nw_a104 ?_
    intro T146 h146 w146 X146 W146 V146
    rw [(own_nr (by omega) (by omega) : nar .char c144 = c144)] at V146
    have F147 : Exa Z h146 a101 "java/lang/String" := F140.wr W146
    have F148 : Fld Z h146 a101 "java/lang/String" "coder" "B" (.int (0 : Int32)) := F141.other W146 (Or.inl ne_a101_a104)
    have F149 : Fld Z h146 a101 "java/lang/String" "value" "[B" .null := F142.other W146 (Or.inl ne_a101_a104)
    have F150 : An Z h146 a104 .char 7 (upd (upd (upd (upd (upd (upd (upd (fun _ => (0 : Int32)) 0 c108) 1 (46 : Int32)) 2 c120) 3 (46 : Int32)) 4 c132) 5 (46 : Int32)) 6 c144) := V146
    have hall : AllC 7 (upd (upd (upd (upd (upd (upd (upd (fun _ => (0 : Int32)) 0 c108) 1 (46 : Int32)) 2 c120) 3 (46 : Int32)) 4 c132) 5 (46 : Int32)) 6 c144) := (AllC.u (AllC.u (AllC.u (AllC.u (AllC.u (AllC.u (AllC.u AllC.z (own_rng (by omega) (by omega))) (by decide)) (own_rng (by omega) (by omega))) (by decide)) (own_rng (by omega) (by omega))) (by decide)) (own_rng (by omega) (by omega)))
    have hno : ∀ j, j < 7 → ¬ (upd (upd (upd (upd (upd (upd (upd (fun _ => (0 : Int32)) 0 c108) 1 (46 : Int32)) 2 c120) 3 (46 : Int32)) 4 c132) 5 (46 : Int32)) 6 c144) j = 58 := (NoC.u (NoC.u (NoC.u (NoC.u (NoC.u (NoC.u (NoC.u NoC.z (own_ne58 (by omega))) (by decide)) (own_ne58 (by omega))) (by decide)) (own_ne58 (by omega))) (by decide)) (own_ne58 (by omega)))
    refine Go.callI X146 69 [(.ref a104)] [(.ref a101)] 1 rfl (hw _ (List.mem_of_getElem? (i := 12) rfl)) (hw _ (List.mem_of_getElem? (i := 13) rfl)) (hw _ (List.mem_of_getElem? (i := 7) rfl)) (by decide) rfl (hw _ (List.mem_of_getElem? (i := 14) rfl)) pd_12 at_66 (rm_i1 l Z a0 hw h146 cz SC hcz a101 a104 7 (upd (upd (upd (upd (upd (upd (upd (fun _ => (0 : Int32)) 0 c108) 1 (46 : Int32)) 2 c120) 3 (46 : Int32)) 4 c132) 5 (46 : Int32)) 6 c144) (by decide) (by decide) F147 F149 F148 nw_a101 (Ne.symm ne_a101_a104) F150 (fun j hj => ⟨(hall j hj).1, own_le (hall j hj).2⟩) (fun j hj => (hall j hj).2)) rfl rfl rfl (Nat.le_of_eq rfl) (by decide) (by decide) (by decide) (by decide) ?_
    rintro T151 v151 L151 X151 ⟨rfl, t, K, gt, S⟩
    show Go p e below _ T151 m 69 #[.val (.int q0), .val (.int q1), .val (.int q2), .val (.int q3), .val (.int q4), .val (.int (0 : Int32)), .unset, .unset] [(.ref a101)]
    refine Go.astore X151 71 #[.val (.int q0), .val (.int q1), .val (.int q2), .val (.int q3), .val (.int q4), .val (.int (0 : Int32)), .val (.ref a101), .unset] at_69 rfl rfl ?_
    refine Go.iconst X151 72 (0 : Int32) at_71 ?_
    refine Go.istore X151 74 #[.val (.int q0), .val (.int q1), .val (.int q2), .val (.int q3), .val (.int q4), .val (.int (0 : Int32)), .val (.ref a101), .val (.int (0 : Int32))] at_72 rfl ?_
    refine Go.goto X151 472 at_74 ?_
    refine Go.aload X151 474 at_472 rfl rfl ?_
    refine Go.callSP X151 477 [(.ref a101)] [] 0 (hw _ (List.mem_of_getElem? (i := 38) rfl)) (hw _ (List.mem_of_getElem? (i := 39) rfl)) (hw _ (List.mem_of_getElem? (i := 40) rfl)) (by decide) (hw _ (List.mem_of_getElem? (i := 41) rfl)) pd_13 at_474 (rm_is l Z a0 hw T151.heap cz SC hcz a101 t 7 (upd (upd (upd (upd (upd (upd (upd (fun _ => (0 : Int32)) 0 c108) 1 (46 : Int32)) 2 c120) 3 (46 : Int32)) 4 c132) 5 (46 : Int32)) 6 c144) (0 : Int32) S (fun j hj => (hall j hj).2) (Or.inl ⟨rfl, hno⟩)) rfl rfl rfl (Nat.le_of_eq rfl) (by decide) (by decide) (by decide) (by decide) ?_
    intro T152 L152 X152
    refine Go.iload X152 479 at_477 rfl ?_
    refine Go.icmpN X152 482 at_479 (XT.ii_ne_f (by decide)) ?_
    refine Go.iconst X152 483 (1 : Int32) at_482 ?_
    refine Go.goto X152 487 at_483 ?_
    exact Go.retI X152 rfl (by simp) rfl at_487 (X152.fin rfl (by decide) (by decide))
  · skip
    refine Go.istore X1 8 #[.val (.int q0), .val (.int q1), .val (.int q2), .val (.int q3), .val (.int q4), .val (.int (1 : Int32)), .unset, .unset] at_6 rfl ?_
    refine Go.iload X1 10 at_8 rfl ?_
    refine Go.if0Y X1 77 at_10 (XT.i0_ne_t (by decide)) ?_
    refine Go.iload X1 79 at_77 rfl ?_
    refine Go.iconst X1 80 (1 : Int32) at_79 ?_
    refine Go.icmpN X1 83 at_80 (XT.ii_ne_f (by decide)) ?_
    refine Go.newO X1 86 (hw _ (List.mem_of_getElem? (i := 5) rfl)) (hw _ (List.mem_of_getElem? (i := 6) rfl)) (hw _ (List.mem_of_getElem? (i := 7) rfl)) at_83 (by decide) (by decide) ?_
    intro T101 h101 a101 X101 E101 g101 A101 D101
    have nw_a101 : Z.heap.size ≤ a101 := by rw [← g101]; exact X1.le
    have F102 : Fld Z h101 a101 "java/lang/String" "coder" "B" (.int (0 : Int32)) := D101 (Or.inr (hw _ (List.mem_of_getElem? (i := 35) rfl))) (ty := .byte) (by decide)
    have F103 : Fld Z h101 a101 "java/lang/String" "value" "[B" .null := D101 (Or.inr (hw _ (List.mem_of_getElem? (i := 37) rfl))) (ty := (.array .byte)) (by decide)
    refine Go.dup X101 87 at_86 rfl ?_
    refine Go.bipush X101 89 (8 : Int32) at_87 ?_
    refine Go.newC X101 91 (n := 8) (hw _ (List.mem_of_getElem? (i := 8) rfl)) at_89 8 (by decide) (by decide) (by decide) (by decide) ?_
    intro T104 h104 a104 X104 E104 g104 V104
    have nw_a104 : Z.heap.size ≤ a104 := by rw [← g104]; exact X101.le
    have ne_a101_a104 : a101 ≠ a104 := by rw [← g104]; exact Nat.ne_of_lt A101.lt
    have F105 : Exa Z h104 a101 "java/lang/String" := A101.ext E104
    have F106 : Fld Z h104 a101 "java/lang/String" "coder" "B" (.int (0 : Int32)) := F102.ext E104
    have F107 : Fld Z h104 a101 "java/lang/String" "value" "[B" .null := F103.ext E104
    refine Go.dup X104 92 at_91 rfl ?_
    refine Go.iconst X104 93 (0 : Int32) at_92 ?_
    refine Go.bipush X104 95 (49 : Int32) at_93 ?_
    refine Go.iloadN X104 96 at_95 rfl ?_
    refine Go.bipush X104 98 (8 : Int32) at_96 ?_
    refine Go.iushr X104 99 at_98 ?_
    refine Go.bipush X104 101 (9 : Int32) at_99 ?_
    refine Go.callS X104 104 [(.int (XT.ushr q1 (8 : Int32))), (.int (9 : Int32))] [(.int (49 : Int32)), (.int (0 : Int32)), (.ref a104), (.ref a104), (.ref a101), (.ref a101)] 6 (hw _ (List.mem_of_getElem? (i := 0) rfl)) (hw _ (List.mem_of_getElem? (i := 1) rfl)) (hw _ (List.mem_of_getElem? (i := 2) rfl)) (by decide) (hw _ (List.mem_of_getElem? (i := 3) rfl)) pd_6 at_101 (rm_nat l Z a0 hw h104 (XT.ushr q1 (8 : Int32)) (9 : Int32) 9 (by decide) (by decide)) rfl rfl rfl (Nat.le_of_eq rfl) (by decide) (by decide) (by decide) (by decide) ?_
    rintro T109 v109 L109 X109 ⟨hhc108, c108, rfl, c1080, c1081⟩
    rw [hhc108] at X109
    show Go p e below _ T109 m 104 #[.val (.int q0), .val (.int q1), .val (.int q2), .val (.int q3), .val (.int q4), .val (.int (1 : Int32)), .unset, .unset] [(.int c108), (.int (49 : Int32)), (.int (0 : Int32)), (.ref a104), (.ref a104), (.ref a101), (.ref a101)]
    refine Go.iadd X109 105 at_104 ?_
    refine Go.i2c X109 106 at_105 ?_
    have hy := own_addc (b := 49) (B := 49) (M := 9) (r := c108) (by decide) c1080 c1081 (by decide) (by decide)
    generalize ((49 : Int32) + c108).toUInt32.toUInt16.toUInt32.toInt32 = y110 at hy ⊢
    refine Go.stCN X109 107 V104 0 (by decide) at_106 nw_a104 ?_
    intro T111 h111 w111 X111 W111 V111
    rw [(own_nr (by omega) (by omega) : nar .char y110 = y110)] at V111
    have F112 : Exa Z h111 a101 "java/lang/String" := F105.wr W111
    have F113 : Fld Z h111 a101 "java/lang/String" "coder" "B" (.int (0 : Int32)) := F106.other W111 (Or.inl ne_a101_a104)
    have F114 : Fld Z h111 a101 "java/lang/String" "value" "[B" .null := F107.other W111 (Or.inl ne_a101_a104)
    have F115 : An Z h111 a104 .char 8 (upd (fun _ => (0 : Int32)) 0 y110) := V111
    refine Go.dup X111 108 at_107 rfl ?_
    refine Go.iconst X111 109 (1 : Int32) at_108 ?_
    refine Go.iloadN X111 110 at_109 rfl ?_
    refine Go.callS X111 113 [(.int q1)] [(.int (1 : Int32)), (.ref a104), (.ref a104), (.ref a101), (.ref a101)] 5 (hw _ (List.mem_of_getElem? (i := 9) rfl)) (hw _ (List.mem_of_getElem? (i := 10) rfl)) (hw _ (List.mem_of_getElem? (i := 2) rfl)) (by decide) (hw _ (List.mem_of_getElem? (i := 11) rfl)) pd_10 at_110 (rm_dec l Z a0 hw h111 q1) rfl rfl rfl (Nat.le_of_eq rfl) (by decide) (by decide) (by decide) (by decide) ?_
    rintro T117 v117 L117 X117 ⟨hhc116, c116, rfl, c1160, c1161⟩
    rw [hhc116] at X117
    show Go p e below _ T117 m 113 #[.val (.int q0), .val (.int q1), .val (.int q2), .val (.int q3), .val (.int q4), .val (.int (1 : Int32)), .unset, .unset] [(.int c116), (.int (1 : Int32)), (.ref a104), (.ref a104), (.ref a101), (.ref a101)]
    refine Go.stCN X117 114 F115 1 (by decide) at_113 nw_a104 ?_
    intro T118 h118 w118 X118 W118 V118
    rw [(own_nr (by omega) (by omega) : nar .char c116 = c116)] at V118
    have F119 : Exa Z h118 a101 "java/lang/String" := F112.wr W118
    have F120 : Fld Z h118 a101 "java/lang/String" "coder" "B" (.int (0 : Int32)) := F113.other W118 (Or.inl ne_a101_a104)
    have F121 : Fld Z h118 a101 "java/lang/String" "value" "[B" .null := F114.other W118 (Or.inl ne_a101_a104)
    have F122 : An Z h118 a104 .char 8 (upd (upd (fun _ => (0 : Int32)) 0 y110) 1 c116) := V118
    refine Go.dup X118 115 at_114 rfl ?_
    refine Go.iconst X118 116 (2 : Int32) at_115 ?_
    refine Go.bipush X118 118 (46 : Int32) at_116 ?_
    refine Go.stCN X118 119 F122 2 (by decide) at_118 nw_a104 ?_
    intro T123 h123 w123 X123 W123 V123
    rw [(by decide : nar .char (46 : Int32) = (46 : Int32))] at V123
    have F124 : Exa Z h123 a101 "java/lang/String" := F119.wr W123
    have F125 : Fld Z h123 a101 "java/lang/String" "coder" "B" (.int (0 : Int32)) := F120.other W123 (Or.inl ne_a101_a104)
    have F126 : Fld Z h123 a101 "java/lang/String" "value" "[B" .null := F121.other W123 (Or.inl ne_a101_a104)
    have F127 : An Z h123 a104 .char 8 (upd (upd (upd (fun _ => (0 : Int32)) 0 y110) 1 c116) 2 (46 : Int32)) := V123
    refine Go.dup X123 120 at_119 rfl ?_
    refine Go.iconst X123 121 (3 : Int32) at_120 ?_
    refine Go.iloadN X123 122 at_121 rfl ?_
    refine Go.callS X123 125 [(.int q2)] [(.int (3 : Int32)), (.ref a104), (.ref a104), (.ref a101), (.ref a101)] 5 (hw _ (List.mem_of_getElem? (i := 9) rfl)) (hw _ (List.mem_of_getElem? (i := 10) rfl)) (hw _ (List.mem_of_getElem? (i := 2) rfl)) (by decide) (hw _ (List.mem_of_getElem? (i := 11) rfl)) pd_10 at_122 (rm_dec l Z a0 hw h123 q2) rfl rfl rfl (Nat.le_of_eq rfl) (by decide) (by decide) (by decide) (by decide) ?_
    rintro T129 v129 L129 X129 ⟨hhc128, c128, rfl, c1280, c1281⟩
    rw [hhc128] at X129
    show Go p e below _ T129 m 125 #[.val (.int q0), .val (.int q1), .val (.int q2), .val (.int q3), .val (.int q4), .val (.int (1 : Int32)), .unset, .unset] [(.int c128), (.int (3 : Int32)), (.ref a104), (.ref a104), (.ref a101), (.ref a101)]
    refine Go.stCN X129 126 F127 3 (by decide) at_125 nw_a104 ?_
    intro T130 h130 w130 X130 W130 V130
    rw [(own_nr (by omega) (by omega) : nar .char c128 = c128)] at V130
    have F131 : Exa Z h130 a101 "java/lang/String" := F124.wr W130
    have F132 : Fld Z h130 a101 "java/lang/String" "coder" "B" (.int (0 : Int32)) := F125.other W130 (Or.inl ne_a101_a104)
    have F133 : Fld Z h130 a101 "java/lang/String" "value" "[B" .null := F126.other W130 (Or.inl ne_a101_a104)
    have F134 : An Z h130 a104 .char 8 (upd (upd (upd (upd (fun _ => (0 : Int32)) 0 y110) 1 c116) 2 (46 : Int32)) 3 c128) := V130
    refine Go.dup X130 127 at_126 rfl ?_
    refine Go.iconst X130 128 (4 : Int32) at_127 ?_
    refine Go.bipush X130 130 (46 : Int32) at_128 ?_
    refine Go.stCN X130 131 F134 4 (by decide) at_130 nw_a104 ?_
    intro T135 h135 w135 X135 W135 V135
    rw [(by decide : nar .char (46 : Int32) = (46 : Int32))] at V135
    have F136 : Exa Z h135 a101 "java/lang/String" := F131.wr W135
    have F137 : Fld Z h135 a101 "java/lang/String" "coder" "B" (.int (0 : Int32)) := F132.other W135 (Or.inl ne_a101_a104)
    have F138 : Fld Z h135 a101 "java/lang/String" "value" "[B" .null := F133.other W135 (Or.inl ne_a101_a104)
    have F139 : An Z h135 a104 .char 8 (upd (upd (upd (upd (upd (fun _ => (0 : Int32)) 0 y110) 1 c116) 2 (46 : Int32)) 3 c128) 4 (46 : Int32)) := V135
    refine Go.dup X135 132 at_131 rfl ?_
    refine Go.iconst X135 133 (5 : Int32) at_132 ?_
    refine Go.iloadN X135 134 at_133 rfl ?_
    refine Go.callS X135 137 [(.int q3)] [(.int (5 : Int32)), (.ref a104), (.ref a104), (.ref a101), (.ref a101)] 5 (hw _ (List.mem_of_getElem? (i := 9) rfl)) (hw _ (List.mem_of_getElem? (i := 10) rfl)) (hw _ (List.mem_of_getElem? (i := 2) rfl)) (by decide) (hw _ (List.mem_of_getElem? (i := 11) rfl)) pd_10 at_134 (rm_dec l Z a0 hw h135 q3) rfl rfl rfl (Nat.le_of_eq rfl) (by decide) (by decide) (by decide) (by decide) ?_
    rintro T141 v141 L141 X141 ⟨hhc140, c140, rfl, c1400, c1401⟩
    rw [hhc140] at X141
    show Go p e below _ T141 m 137 #[.val (.int q0), .val (.int q1), .val (.int q2), .val (.int q3), .val (.int q4), .val (.int (1 : Int32)), .unset, .unset] [(.int c140), (.int (5 : Int32)), (.ref a104), (.ref a104), (.ref a101), (.ref a101)]
    refine Go.stCN X141 138 F139 5 (by decide) at_137 nw_a104 ?_
    intro T142 h142 w142 X142 W142 V142
    rw [(own_nr (by omega) (by omega) : nar .char c140 = c140)] at V142
    have F143 : Exa Z h142 a101 "java/lang/String" := F136.wr W142
    have F144 : Fld Z h142 a101 "java/lang/String" "coder" "B" (.int (0 : Int32)) := F137.other W142 (Or.inl ne_a101_a104)
    have F145 : Fld Z h142 a101 "java/lang/String" "value" "[B" .null := F138.other W142 (Or.inl ne_a101_a104)
    have F146 : An Z h142 a104 .char 8 (upd (upd (upd (upd (upd (upd (fun _ => (0 : Int32)) 0 y110) 1 c116) 2 (46 : Int32)) 3 c128) 4 (46 : Int32)) 5 c140) := V142
    refine Go.dup X142 139 at_138 rfl ?_
    refine Go.bipush X142 141 (6 : Int32) at_139 ?_
    refine Go.bipush X142 143 (46 : Int32) at_141 ?_
    refine Go.stCN X142 144 F146 6 (by decide) at_143 nw_a104 ?_
    intro T147 h147 w147 X147 W147 V147
    rw [(by decide : nar .char (46 : Int32) = (46 : Int32))] at V147
    have F148 : Exa Z h147 a101 "java/lang/String" := F143.wr W147
    have F149 : Fld Z h147 a101 "java/lang/String" "coder" "B" (.int (0 : Int32)) := F144.other W147 (Or.inl ne_a101_a104)
    have F150 : Fld Z h147 a101 "java/lang/String" "value" "[B" .null := F145.other W147 (Or.inl ne_a101_a104)
    have F151 : An Z h147 a104 .char 8 (upd (upd (upd (upd (upd (upd (upd (fun _ => (0 : Int32)) 0 y110) 1 c116) 2 (46 : Int32)) 3 c128) 4 (46 : Int32)) 5 c140) 6 (46 : Int32)) := V147
    refine Go.dup X147 145 at_144 rfl ?_
    refine Go.bipush X147 147 (7 : Int32) at_145 ?_
    refine Go.iload X147 149 at_147 rfl ?_
    refine Go.callS X147 152 [(.int q4)] [(.int (7 : Int32)), (.ref a104), (.ref a104), (.ref a101), (.ref a101)] 5 (hw _ (List.mem_of_getElem? (i := 9) rfl)) (hw _ (List.mem_of_getElem? (i := 10) rfl)) (hw _ (List.mem_of_getElem? (i := 2) rfl)) (by decide) (hw _ (List.mem_of_getElem? (i := 11) rfl)) pd_10 at_149 (rm_dec l Z a0 hw h147 q4) rfl rfl rfl (Nat.le_of_eq rfl) (by decide) (by decide) (by decide) (by decide) ?_
    rintro T153 v153 L153 X153 ⟨hhc152, c152, rfl, c1520, c1521⟩
    rw [hhc152] at X153
    show Go p e below _ T153 m 152 #[.val (.int q0), .val (.int q1), .val (.int q2), .val (.int q3), .val (.int q4), .val (.int (1 : Int32)), .unset, .unset] [(.int c152), (.int (7 : Int32)), (.ref a104), (.ref a104), (.ref a101), (.ref a101)]
    refine Go.stCN X153 153 F151 7 (by decide) at_152 nw_a104 ?_
    intro T154 h154 w154 X154 W154 V154
    rw [(own_nr (by omega) (by omega) : nar .char c152 = c152)] at V154
    have F155 : Exa Z h154 a101 "java/lang/String" := F148.wr W154
    have F156 : Fld Z h154 a101 "java/lang/String" "coder" "B" (.int (0 : Int32)) := F149.other W154 (Or.inl ne_a101_a104)
    have F157 : Fld Z h154 a101 "java/lang/String" "value" "[B" .null := F150.other W154 (Or.inl ne_a101_a104)
    have F158 : An Z h154 a104 .char 8 (upd (upd (upd (upd (upd (upd (upd (upd (fun _ => (0 : Int32)) 0 y110) 1 c116) 2 (46 : Int32)) 3 c128) 4 (46 : Int32)) 5 c140) 6 (46 : Int32)) 7 c152) := V154
    have hall : AllC 8 (upd (upd (upd (upd (upd (upd (upd (upd (fun _ => (0 : Int32)) 0 y110) 1 c116) 2 (46 : Int32)) 3 c128) 4 (46 : Int32)) 5 c140) 6 (46 : Int32)) 7 c152) := (AllC.u (AllC.u (AllC.u (AllC.u (AllC.u (AllC.u (AllC.u (AllC.u AllC.z (own_rng (by omega) (by omega))) (own_rng (by omega) (by omega))) (by decide)) (own_rng (by omega) (by omega))) (by decide)) (own_rng (by omega) (by omega))) (by decide)) (own_rng (by omega) (by omega)))
    have hno : ∀ j, j < 8 → ¬ (upd (upd (upd (upd (upd (upd (upd (upd (fun _ => (0 : Int32)) 0 y110) 1 c116) 2 (46 : Int32)) 3 c128) 4 (46 : Int32)) 5 c140) 6 (46 : Int32)) 7 c152) j = 58 := (NoC.u (NoC.u (NoC.u (NoC.u (NoC.u (NoC.u (NoC.u (NoC.u NoC.z (own_ne58 (by omega))) (own_ne58 (by omega))) (by decide)) (own_ne58 (by omega))) (by decide)) (own_ne58 (by omega))) (by decide)) (own_ne58 (by omega)))
    refine Go.callI X154 156 [(.ref a104)] [(.ref a101)] 1 rfl (hw _ (List.mem_of_getElem? (i := 12) rfl)) (hw _ (List.mem_of_getElem? (i := 13) rfl)) (hw _ (List.mem_of_getElem? (i := 7) rfl)) (by decide) rfl (hw _ (List.mem_of_getElem? (i := 14) rfl)) pd_12 at_153 (rm_i1 l Z a0 hw h154 cz SC hcz a101 a104 8 (upd (upd (upd (upd (upd (upd (upd (upd (fun _ => (0 : Int32)) 0 y110) 1 c116) 2 (46 : Int32)) 3 c128) 4 (46 : Int32)) 5 c140) 6 (46 : Int32)) 7 c152) (by decide) (by decide) F155 F157 F156 nw_a101 (Ne.symm ne_a101_a104) F158 (fun j hj => ⟨(hall j hj).1, own_le (hall j hj).2⟩) (fun j hj => (hall j hj).2)) rfl rfl rfl (Nat.le_of_eq rfl) (by decide) (by decide) (by decide) (by decide) ?_
    rintro T159 v159 L159 X159 ⟨rfl, t, K, gt, S⟩
    show Go p e below _ T159 m 156 #[.val (.int q0), .val (.int q1), .val (.int q2), .val (.int q3), .val (.int q4), .val (.int (1 : Int32)), .unset, .unset] [(.ref a101)]
    refine Go.astore X159 158 #[.val (.int q0), .val (.int q1), .val (.int q2), .val (.int q3), .val (.int q4), .val (.int (1 : Int32)), .val (.ref a101), .unset] at_156 rfl rfl ?_
    refine Go.iconst X159 159 (0 : Int32) at_158 ?_
    refine Go.istore X159 161 #[.val (.int q0), .val (.int q1), .val (.int q2), .val (.int q3), .val (.int q4), .val (.int (1 : Int32)), .val (.ref a101), .val (.int (0 : Int32))] at_159 rfl ?_
    refine Go.goto X159 472 at_161 ?_
    refine Go.aload X159 474 at_472 rfl rfl ?_
    refine Go.callSP X159 477 [(.ref a101)] [] 0 (hw _ (List.mem_of_getElem? (i := 38) rfl)) (hw _ (List.mem_of_getElem? (i := 39) rfl)) (hw _ (List.mem_of_getElem? (i := 40) rfl)) (by decide) (hw _ (List.mem_of_getElem? (i := 41) rfl)) pd_13 at_474 (rm_is l Z a0 hw T159.heap cz SC hcz a101 t 8 (upd (upd (upd (upd (upd (upd (upd (upd (fun _ => (0 : Int32)) 0 y110) 1 c116) 2 (46 : Int32)) 3 c128) 4 (46 : Int32)) 5 c140) 6 (46 : Int32)) 7 c152) (0 : Int32) S (fun j hj => (hall j hj).2) (Or.inl ⟨rfl, hno⟩)) rfl rfl rfl (Nat.le_of_eq rfl) (by decide) (by decide) (by decide) (by decide) ?_
    intro T160 L160 X160
    refine Go.iload X160 479 at_477 rfl ?_
    refine Go.icmpN X160 482 at_479 (XT.ii_ne_f (by decide)) ?_
    refine Go.iconst X160 483 (1 : Int32) at_482 ?_
    refine Go.goto X160 487 at_483 ?_
    exact Go.retI X160 rfl (by simp) rfl at_487 (X160.fin rfl (by decide) (by decide))
  · skip
    refine Go.istore X1 8 #[.val (.int q0), .val (.int q1), .val (.int q2), .val (.int q3), .val (.int q4), .val (.int (2 : Int32)), .unset, .unset] at_6 rfl ?_
    refine Go.iload X1 10 at_8 rfl ?_
    refine Go.if0Y X1 77 at_10 (XT.i0_ne_t (by decide)) ?_
    refine Go.iload X1 79 at_77 rfl ?_
    refine Go.iconst X1 80 (1 : Int32) at_79 ?_
    refine Go.icmpY X1 164 at_80 (XT.ii_ne_t (by decide)) ?_
    refine Go.iload X1 166 at_164 rfl ?_
    refine Go.iconst X1 167 (2 : Int32) at_166 ?_
    refine Go.icmpN X1 170 at_167 (XT.ii_ne_f (by decide)) ?_
    refine Go.newO X1 173 (hw _ (List.mem_of_getElem? (i := 5) rfl)) (hw _ (List.mem_of_getElem? (i := 6) rfl)) (hw _ (List.mem_of_getElem? (i := 7) rfl)) at_170 (by decide) (by decide) ?_
    intro T101 h101 a101 X101 E101 g101 A101 D101
    have nw_a101 : Z.heap.size ≤ a101 := by rw [← g101]; exact X1.le
    have F102 : Fld Z h101 a101 "java/lang/String" "coder" "B" (.int (0 : Int32)) := D101 (Or.inr (hw _ (List.mem_of_getElem? (i := 35) rfl))) (ty := .byte) (by decide)
    have F103 : Fld Z h101 a101 "java/lang/String" "value" "[B" .null := D101 (Or.inr (hw _ (List.mem_of_getElem? (i := 37) rfl))) (ty := (.array .byte)) (by decide)
    refine Go.dup X101 174 at_173 rfl ?_
    refine Go.bipush X101 176 (15 : Int32) at_174 ?_
    refine Go.newC X101 178 (n := 15) (hw _ (List.mem_of_getElem? (i := 8) rfl)) at_176 15 (by decide) (by decide) (by decide) (by decide) ?_
    intro T104 h104 a104 X104 E104 g104 V104
    have nw_a104 : Z.heap.size ≤ a104 := by rw [← g104]; exact X101.le
    have ne_a101_a104 : a101 ≠ a104 := by rw [← g104]; exact Nat.ne_of_lt A101.lt
    have F105 : Exa Z h104 a101 "java/lang/String" := A101.ext E104
    have F106 : Fld Z h104 a101 "java/lang/String" "coder" "B" (.int (0 : Int32)) := F102.ext E104
    have F107 : Fld Z h104 a101 "java/lang/String" "value" "[B" .null := F103.ext E104
    refine Go.dup X104 179 at_178 rfl ?_
    refine Go.iconst X104 180 (0 : Int32) at_179 ?_
    refine Go.iloadN X104 181 at_180 rfl ?_
    refine Go.callS X104 184 [(.int q1)] [(.int (0 : Int32)), (.ref a104), (.ref a104), (.ref a101), (.ref a101)] 5 (hw _ (List.mem_of_getElem? (i := 84) rfl)) (hw _ (List.mem_of_getElem? (i := 85) rfl)) (hw _ (List.mem_of_getElem? (i := 2) rfl)) (by decide) (hw _ (List.mem_of_getElem? (i := 86) rfl)) pd_10 at_181 (rm_nz l Z a0 hw h104 q1) rfl rfl rfl (Nat.le_of_eq rfl) (by decide) (by decide) (by decide) (by decide) ?_
    rintro T109 v109 L109 X109 ⟨hhc108, c108, rfl, c1080, c1081⟩
    rw [hhc108] at X109
    show Go p e below _ T109 m 184 #[.val (.int q0), .val (.int q1), .val (.int q2), .val (.int q3), .val (.int q4), .val (.int (2 : Int32)), .unset, .unset] [(.int c108), (.int (0 : Int32)), (.ref a104), (.ref a104), (.ref a101), (.ref a101)]
    refine Go.stCN X109 185 V104 0 (by decide) at_184 nw_a104 ?_
    intro T110 h110 w110 X110 W110 V110
    rw [(own_nr (by omega) (by omega) : nar .char c108 = c108)] at V110
    have F111 : Exa Z h110 a101 "java/lang/String" := F105.wr W110
    have F112 : Fld Z h110 a101 "java/lang/String" "coder" "B" (.int (0 : Int32)) := F106.other W110 (Or.inl ne_a101_a104)
    have F113 : Fld Z h110 a101 "java/lang/String" "value" "[B" .null := F107.other W110 (Or.inl ne_a101_a104)
    have F114 : An Z h110 a104 .char 15 (upd (fun _ => (0 : Int32)) 0 c108) := V110
    refine Go.dup X110 186 at_185 rfl ?_
    refine Go.iconst X110 187 (1 : Int32) at_186 ?_
    refine Go.bipush X110 189 (58 : Int32) at_187 ?_
    refine Go.stCN X110 190 F114 1 (by decide) at_189 nw_a104 ?_
    intro T115 h115 w115 X115 W115 V115
    rw [(by decide : nar .char (58 : Int32) = (58 : Int32))] at V115
    have F116 : Exa Z h115 a101 "java/lang/String" := F111.wr W115
    have F117 : Fld Z h115 a101 "java/lang/String" "coder" "B" (.int (0 : Int32)) := F112.other W115 (Or.inl ne_a101_a104)
    have F118 : Fld Z h115 a101 "java/lang/String" "value" "[B" .null := F113.other W115 (Or.inl ne_a101_a104)
    have F119 : An Z h115 a104 .char 15 (upd (upd (fun _ => (0 : Int32)) 0 c108) 1 (58 : Int32)) := V115
    refine Go.dup X115 191 at_190 rfl ?_
    refine Go.iconst X115 192 (2 : Int32) at_191 ?_
    refine Go.iloadN X115 193 at_192 rfl ?_
    refine Go.bipush X115 195 (16 : Int32) at_193 ?_
    refine Go.iushr X115 196 at_195 ?_
    refine Go.callS X115 199 [(.int (XT.ushr q1 (16 : Int32)))] [(.int (2 : Int32)), (.ref a104), (.ref a104), (.ref a101), (.ref a101)] 5 (hw _ (List.mem_of_getElem? (i := 84) rfl)) (hw _ (List.mem_of_getElem? (i := 85) rfl)) (hw _ (List.mem_of_getElem? (i := 2) rfl)) (by decide) (hw _ (List.mem_of_getElem? (i := 86) rfl)) pd_10 at_196 (rm_nz l Z a0 hw h115 (XT.ushr q1 (16 : Int32))) rfl rfl rfl (Nat.le_of_eq rfl) (by decide) (by decide) (by decide) (by decide) ?_
    rintro T121 v121 L121 X121 ⟨hhc120, c120, rfl, c1200, c1201⟩
    rw [hhc120] at X121
    show Go p e below _ T121 m 199 #[.val (.int q0), .val (.int q1), .val (.int q2), .val (.int q3), .val (.int q4), .val (.int (2 : Int32)), .unset, .unset] [(.int c120), (.int (2 : Int32)), (.ref a104), (.ref a104), (.ref a101), (.ref a101)]
    refine Go.stCN X121 200 F119 2 (by decide) at_199 nw_a104 ?_
    intro T122 h122 w122 X122 W122 V122
    rw [(own_nr (by omega) (by omega) : nar .char c120 = c120)] at V122
    have F123 : Exa Z h122 a101 "java/lang/String" := F116.wr W122
    have F124 : Fld Z h122 a101 "java/lang/String" "coder" "B" (.int (0 : Int32)) := F117.other W122 (Or.inl ne_a101_a104)
    have F125 : Fld Z h122 a101 "java/lang/String" "value" "[B" .null := F118.other W122 (Or.inl ne_a101_a104)
    have F126 : An Z h122 a104 .char 15 (upd (upd (upd (fun _ => (0 : Int32)) 0 c108) 1 (58 : Int32)) 2 c120) := V122
    refine Go.dup X122 201 at_200 rfl ?_
    refine Go.iconst X122 202 (3 : Int32) at_201 ?_
    refine Go.bipush X122 204 (58 : Int32) at_202 ?_
    refine Go.stCN X122 205 F126 3 (by decide) at_204 nw_a104 ?_
    intro T127 h127 w127 X127 W127 V127
    rw [(by decide : nar .char (58 : Int32) = (58 : Int32))] at V127
    have F128 : Exa Z h127 a101 "java/lang/String" := F123.wr W127
    have F129 : Fld Z h127 a101 "java/lang/String" "coder" "B" (.int (0 : Int32)) := F124.other W127 (Or.inl ne_a101_a104)
    have F130 : Fld Z h127 a101 "java/lang/String" "value" "[B" .null := F125.other W127 (Or.inl ne_a101_a104)
    have F131 : An Z h127 a104 .char 15 (upd (upd (upd (upd (fun _ => (0 : Int32)) 0 c108) 1 (58 : Int32)) 2 c120) 3 (58 : Int32)) := V127
    refine Go.dup X127 206 at_205 rfl ?_
    refine Go.iconst X127 207 (4 : Int32) at_206 ?_
    refine Go.iloadN X127 208 at_207 rfl ?_
    refine Go.callS X127 211 [(.int q2)] [(.int (4 : Int32)), (.ref a104), (.ref a104), (.ref a101), (.ref a101)] 5 (hw _ (List.mem_of_getElem? (i := 84) rfl)) (hw _ (List.mem_of_getElem? (i := 85) rfl)) (hw _ (List.mem_of_getElem? (i := 2) rfl)) (by decide) (hw _ (List.mem_of_getElem? (i := 86) rfl)) pd_10 at_208 (rm_nz l Z a0 hw h127 q2) rfl rfl rfl (Nat.le_of_eq rfl) (by decide) (by decide) (by decide) (by decide) ?_
    rintro T133 v133 L133 X133 ⟨hhc132, c132, rfl, c1320, c1321⟩
    rw [hhc132] at X133
    show Go p e below _ T133 m 211 #[.val (.int q0), .val (.int q1), .val (.int q2), .val (.int q3), .val (.int q4), .val (.int (2 : Int32)), .unset, .unset] [(.int c132), (.int (4 : Int32)), (.ref a104), (.ref a104), (.ref a101), (.ref a101)]
    refine Go.stCN X133 212 F131 4 (by decide) at_211 nw_a104 ?_
    intro T134 h134 w134 X134 W134 V134
    rw [(own_nr (by omega) (by omega) : nar .char c132 = c132)] at V134
    have F135 : Exa Z h134 a101 "java/lang/String" := F128.wr W134
    have F136 : Fld Z h134 a101 "java/lang/String" "coder" "B" (.int (0 : Int32)) := F129.other W134 (Or.inl ne_a101_a104)
    have F137 : Fld Z h134 a101 "java/lang/String" "value" "[B" .null := F130.other W134 (Or.inl ne_a101_a104)
    have F138 : An Z h134 a104 .char 15 (upd (upd (upd (upd (upd (fun _ => (0 : Int32)) 0 c108) 1 (58 : Int32)) 2 c120) 3 (58 : Int32)) 4 c132) := V134
    refine Go.dup X134 213 at_212 rfl ?_
    refine Go.iconst X134 214 (5 : Int32) at_213 ?_
    refine Go.bipush X134 216 (58 : Int32) at_214 ?_
    refine Go.stCN X134 217 F138 5 (by decide) at_216 nw_a104 ?_
    intro T139 h139 w139 X139 W139 V139
    rw [(by decide : nar .char (58 : Int32) = (58 : Int32))] at V139
    have F140 : Exa Z h139 a101 "java/lang/String" := F135.wr W139
    have F141 : Fld Z h139 a101 "java/lang/String" "coder" "B" (.int (0 : Int32)) := F136.other W139 (Or.inl ne_a101_a104)
    have F142 : Fld Z h139 a101 "java/lang/String" "value" "[B" .null := F137.other W139 (Or.inl ne_a101_a104)
    have F143 : An Z h139 a104 .char 15 (upd (upd (upd (upd (upd (upd (fun _ => (0 : Int32)) 0 c108) 1 (58 : Int32)) 2 c120) 3 (58 : Int32)) 4 c132) 5 (58 : Int32)) := V139
    refine Go.dup X139 218 at_217 rfl ?_
    refine Go.bipush X139 220 (6 : Int32) at_218 ?_
    refine Go.iloadN X139 221 at_220 rfl ?_
    refine Go.bipush X139 223 (16 : Int32) at_221 ?_
    refine Go.iushr X139 224 at_223 ?_
    refine Go.callS X139 227 [(.int (XT.ushr q2 (16 : Int32)))] [(.int (6 : Int32)), (.ref a104), (.ref a104), (.ref a101), (.ref a101)] 5 (hw _ (List.mem_of_getElem? (i := 84) rfl)) (hw _ (List.mem_of_getElem? (i := 85) rfl)) (hw _ (List.mem_of_getElem? (i := 2) rfl)) (by decide) (hw _ (List.mem_of_getElem? (i := 86) rfl)) pd_10 at_224 (rm_nz l Z a0 hw h139 (XT.ushr q2 (16 : Int32))) rfl rfl rfl (Nat.le_of_eq rfl) (by decide) (by decide) (by decide) (by decide) ?_
    rintro T145 v145 L145 X145 ⟨hhc144, c144, rfl, c1440, c1441⟩
    rw [hhc144] at X145
    show Go p e below _ T145 m 227 #[.val (.int q0), .val (.int q1), .val (.int q2), .val (.int q3), .val (.int q4), .val (.int (2 : Int32)), .unset, .unset] [(.int c144), (.int (6 : Int32)), (.ref a104), (.ref a104), (.ref a101), (.ref a101)]
    refine Go.stCN X145 228 F143 6 (by decide) at_227 nw_a104 ?_
    intro T146 h146 w146 X146 W146 V146
    rw [(own_nr (by omega) (by omega) : nar .char c144 = c144)] at V146
    have F147 : Exa Z h146 a101 "java/lang/String" := F140.wr W146
    have F148 : Fld Z h146 a101 "java/lang/String" "coder" "B" (.int (0 : Int32)) := F141.other W146 (Or.inl ne_a101_a104)
    have F149 : Fld Z h146 a101 "java/lang/String" "value" "[B" .null := F142.other W146 (Or.inl ne_a101_a104)
    have F150 : An Z h146 a104 .char 15 (upd (upd (upd (upd (upd (upd (upd (fun _ => (0 : Int32)) 0 c108) 1 (58 : Int32)) 2 c120) 3 (58 : Int32)) 4 c132) 5 (58 : Int32)) 6 c144) := V146
    refine Go.dup X146 229 at_228 rfl ?_
    refine Go.bipush X146 231 (7 : Int32) at_229 ?_
    refine Go.bipush X146 233 (58 : Int32) at_231 ?_
    refine Go.stCN X146 234 F150 7 (by decide) at_233 nw_a104 ?_
    intro T151 h151 w151 X151 W151 V151
    rw [(by decide : nar .char (58 : Int32) = (58 : Int32))] at V151
    have F152 : Exa Z h151 a101 "java/lang/String" := F147.wr W151
    have F153 : Fld Z h151 a101 "java/lang/String" "coder" "B" (.int (0 : Int32)) := F148.other W151 (Or.inl ne_a101_a104)
    have F154 : Fld Z h151 a101 "java/lang/String" "value" "[B" .null := F149.other W151 (Or.inl ne_a101_a104)
    have F155 : An Z h151 a104 .char 15 (upd (upd (upd (upd (upd (upd (upd (upd (fun _ => (0 : Int32)) 0 c108) 1 (58 : Int32)) 2 c120) 3 (58 : Int32)) 4 c132) 5 (58 : Int32)) 6 c144) 7 (58 : Int32)) := V151
    refine Go.dup X151 235 at_234 rfl ?_
    refine Go.bipush X151 237 (8 : Int32) at_235 ?_
    refine Go.iloadN X151 238 at_237 rfl ?_
    refine Go.callS X151 241 [(.int q3)] [(.int (8 : Int32)), (.ref a104), (.ref a104), (.ref a101), (.ref a101)] 5 (hw _ (List.mem_of_getElem? (i := 84) rfl)) (hw _ (List.mem_of_getElem? (i := 85) rfl)) (hw _ (List.mem_of_getElem? (i := 2) rfl)) (by decide) (hw _ (List.mem_of_getElem? (i := 86) rfl)) pd_10 at_238 (rm_nz l Z a0 hw h151 q3) rfl rfl rfl (Nat.le_of_eq rfl) (by decide) (by decide) (by decide) (by decide) ?_
    rintro T157 v157 L157 X157 ⟨hhc156, c156, rfl, c1560, c1561⟩
    rw [hhc156] at X157
    show Go p e below _ T157 m 241 #[.val (.int q0), .val (.int q1), .val (.int q2), .val (.int q3), .val (.int q4), .val (.int (2 : Int32)), .unset, .unset] [(.int c156), (.int (8 : Int32)), (.ref a104), (.ref a104), (.ref a101), (.ref a101)]
    refine Go.stCN X157 242 F155 8 (by decide) at_241 nw_a104 ?_
    intro T158 h158 w158 X158 W158 V158
    rw [(own_nr (by omega) (by omega) : nar .char c156 = c156)] at V158
    have F159 : Exa Z h158 a101 "java/lang/String" := F152.wr W158
    have F160 : Fld Z h158 a101 "java/lang/String" "coder" "B" (.int (0 : Int32)) := F153.other W158 (Or.inl ne_a101_a104)
    have F161 : Fld Z h158 a101 "java/lang/String" "value" "[B" .null := F154.other W158 (Or.inl ne_a101_a104)
    have F162 : An Z h158 a104 .char 15 (upd (upd (upd (upd (upd (upd (upd (upd (upd (fun _ => (0 : Int32)) 0 c108) 1 (58 : Int32)) 2 c120) 3 (58 : Int32)) 4 c132) 5 (58 : Int32)) 6 c144) 7 (58 : Int32)) 8 c156) := V158
    refine Go.dup X158 243 at_242 rfl ?_
    refine Go.bipush X158 245 (9 : Int32) at_243 ?_
    refine Go.bipush X158 247 (58 : Int32) at_245 ?_
    refine Go.stCN X158 248 F162 9 (by decide) at_247 nw_a104 ?_
    intro T163 h163 w163 X163 W163 V163
    rw [(by decide : nar .char (58 : Int32) = (58 : Int32))] at V163
    have F164 : Exa Z h163 a101 "java/lang/String" := F159.wr W163
    have F165 : Fld Z h163 a101 "java/lang/String" "coder" "B" (.int (0 : Int32)) := F160.other W163 (Or.inl ne_a101_a104)
    have F166 : Fld Z h163 a101 "java/lang/String" "value" "[B" .null := F161.other W163 (Or.inl ne_a101_a104)
    have F167 : An Z h163 a104 .char 15 (upd (upd (upd (upd (upd (upd (upd (upd (upd (upd (fun _ => (0 : Int32)) 0 c108) 1 (58 : Int32)) 2 c120) 3 (58 : Int32)) 4 c132) 5 (58 : Int32)) 6 c144) 7 (58 : Int32)) 8 c156) 9 (58 : Int32)) := V163
    refine Go.dup X163 249 at_248 rfl ?_
    refine Go.bipush X163 251 (10 : Int32) at_249 ?_
    refine Go.iloadN X163 252 at_251 rfl ?_
    refine Go.bipush X163 254 (16 : Int32) at_252 ?_
    refine Go.iushr X163 255 at_254 ?_
    refine Go.callS X163 258 [(.int (XT.ushr q3 (16 : Int32)))] [(.int (10 : Int32)), (.ref a104), (.ref a104), (.ref a101), (.ref a101)] 5 (hw _ (List.mem_of_getElem? (i := 84) rfl)) (hw _ (List.mem_of_getElem? (i := 85) rfl)) (hw _ (List.mem_of_getElem? (i := 2) rfl)) (by decide) (hw _ (List.mem_of_getElem? (i := 86) rfl)) pd_10 at_255 (rm_nz l Z a0 hw h163 (XT.ushr q3 (16 : Int32))) rfl rfl rfl (Nat.le_of_eq rfl) (by decide) (by decide) (by decide) (by decide) ?_
    rintro T169 v169 L169 X169 ⟨hhc168, c168, rfl, c1680, c1681⟩
    rw [hhc168] at X169
    show Go p e below _ T169 m 258 #[.val (.int q0), .val (.int q1), .val (.int q2), .val (.int q3), .val (.int q4), .val (.int (2 : Int32)), .unset, .unset] [(.int c168), (.int (10 : Int32)), (.ref a104), (.ref a104), (.ref a101), (.ref a101)]
    refine Go.stCN X169 259 F167 10 (by decide) at_258 nw_a104 ?_
    intro T170 h170 w170 X170 W170 V170
    rw [(own_nr (by omega) (by omega) : nar .char c168 = c168)] at V170
    have F171 : Exa Z h170 a101 "java/lang/String" := F164.wr W170
    have F172 : Fld Z h170 a101 "java/lang/String" "coder" "B" (.int (0 : Int32)) := F165.other W170 (Or.inl ne_a101_a104)
    have F173 : Fld Z h170 a101 "java/lang/String" "value" "[B" .null := F166.other W170 (Or.inl ne_a101_a104)
    have F174 : An Z h170 a104 .char 15 (upd (upd (upd (upd (upd (upd (upd (upd (upd (upd (upd (fun _ => (0 : Int32)) 0 c108) 1 (58 : Int32)) 2 c120) 3 (58 : Int32)) 4 c132) 5 (58 : Int32)) 6 c144) 7 (58 : Int32)) 8 c156) 9 (58 : Int32)) 10 c168) := V170
    refine Go.dup X170 260 at_259 rfl ?_
    refine Go.bipush X170 262 (11 : Int32) at_260 ?_
    refine Go.bipush X170 264 (58 : Int32) at_262 ?_
    refine Go.stCN X170 265 F174 11 (by decide) at_264 nw_a104 ?_
    intro T175 h175 w175 X175 W175 V175
    rw [(by decide : nar .char (58 : Int32) = (58 : Int32))] at V175
    have F176 : Exa Z h175 a101 "java/lang/String" := F171.wr W175
    have F177 : Fld Z h175 a101 "java/lang/String" "coder" "B" (.int (0 : Int32)) := F172.other W175 (Or.inl ne_a101_a104)
    have F178 : Fld Z h175 a101 "java/lang/String" "value" "[B" .null := F173.other W175 (Or.inl ne_a101_a104)
    have F179 : An Z h175 a104 .char 15 (upd (upd (upd (upd (upd (upd (upd (upd (upd (upd (upd (upd (fun _ => (0 : Int32)) 0 c108) 1 (58 : Int32)) 2 c120) 3 (58 : Int32)) 4 c132) 5 (58 : Int32)) 6 c144) 7 (58 : Int32)) 8 c156) 9 (58 : Int32)) 10 c168) 11 (58 : Int32)) := V175
    refine Go.dup X175 266 at_265 rfl ?_
    refine Go.bipush X175 268 (12 : Int32) at_266 ?_
    refine Go.iload X175 270 at_268 rfl ?_
    refine Go.callS X175 273 [(.int q4)] [(.int (12 : Int32)), (.ref a104), (.ref a104), (.ref a101), (.ref a101)] 5 (hw _ (List.mem_of_getElem? (i := 84) rfl)) (hw _ (List.mem_of_getElem? (i := 85) rfl)) (hw _ (List.mem_of_getElem? (i := 2) rfl)) (by decide) (hw _ (List.mem_of_getElem? (i := 86) rfl)) pd_10 at_270 (rm_nz l Z a0 hw h175 q4) rfl rfl rfl (Nat.le_of_eq rfl) (by decide) (by decide) (by decide) (by decide) ?_
    rintro T181 v181 L181 X181 ⟨hhc180, c180, rfl, c1800, c1801⟩
    rw [hhc180] at X181
    show Go p e below _ T181 m 273 #[.val (.int q0), .val (.int q1), .val (.int q2), .val (.int q3), .val (.int q4), .val (.int (2 : Int32)), .unset, .unset] [(.int c180), (.int (12 : Int32)), (.ref a104), (.ref a104), (.ref a101), (.ref a101)]
    refine Go.stCN X181 274 F179 12 (by decide) at_273 nw_a104 ?_
    intro T182 h182 w182 X182 W182 V182
    rw [(own_nr (by omega) (by omega) : nar .char c180 = c180)] at V182
    have F183 : Exa Z h182 a101 "java/lang/String" := F176.wr W182
    have F184 : Fld Z h182 a101 "java/lang/String" "coder" "B" (.int (0 : Int32)) := F177.other W182 (Or.inl ne_a101_a104)
    have F185 : Fld Z h182 a101 "java/lang/String" "value" "[B" .null := F178.other W182 (Or.inl ne_a101_a104)
    have F186 : An Z h182 a104 .char 15 (upd (upd (upd (upd (upd (upd (upd (upd (upd (upd (upd (upd (upd (fun _ => (0 : Int32)) 0 c108) 1 (58 : Int32)) 2 c120) 3 (58 : Int32)) 4 c132) 5 (58 : Int32)) 6 c144) 7 (58 : Int32)) 8 c156) 9 (58 : Int32)) 10 c168) 11 (58 : Int32)) 12 c180) := V182
    refine Go.dup X182 275 at_274 rfl ?_
    refine Go.bipush X182 277 (13 : Int32) at_275 ?_
    refine Go.bipush X182 279 (58 : Int32) at_277 ?_
    refine Go.stCN X182 280 F186 13 (by decide) at_279 nw_a104 ?_
    intro T187 h187 w187 X187 W187 V187
    rw [(by decide : nar .char (58 : Int32) = (58 : Int32))] at V187
    have F188 : Exa Z h187 a101 "java/lang/String" := F183.wr W187
    have F189 : Fld Z h187 a101 "java/lang/String" "coder" "B" (.int (0 : Int32)) := F184.other W187 (Or.inl ne_a101_a104)
    have F190 : Fld Z h187 a101 "java/lang/String" "value" "[B" .null := F185.other W187 (Or.inl ne_a101_a104)
    have F191 : An Z h187 a104 .char 15 (upd (upd (upd (upd (upd (upd (upd (upd (upd (upd (upd (upd (upd (upd (fun _ => (0 : Int32)) 0 c108) 1 (58 : Int32)) 2 c120) 3 (58 : Int32)) 4 c132) 5 (58 : Int32)) 6 c144) 7 (58 : Int32)) 8 c156) 9 (58 : Int32)) 10 c168) 11 (58 : Int32)) 12 c180) 13 (58 : Int32)) := V187
    refine Go.dup X187 281 at_280 rfl ?_
    refine Go.bipush X187 283 (14 : Int32) at_281 ?_
    refine Go.iload X187 285 at_283 rfl ?_
    refine Go.bipush X187 287 (16 : Int32) at_285 ?_
    refine Go.iushr X187 288 at_287 ?_
    refine Go.callS X187 291 [(.int (XT.ushr q4 (16 : Int32)))] [(.int (14 : Int32)), (.ref a104), (.ref a104), (.ref a101), (.ref a101)] 5 (hw _ (List.mem_of_getElem? (i := 84) rfl)) (hw _ (List.mem_of_getElem? (i := 85) rfl)) (hw _ (List.mem_of_getElem? (i := 2) rfl)) (by decide) (hw _ (List.mem_of_getElem? (i := 86) rfl)) pd_10 at_288 (rm_nz l Z a0 hw h187 (XT.ushr q4 (16 : Int32))) rfl rfl rfl (Nat.le_of_eq rfl) (by decide) (by decide) (by decide) (by decide) ?_
    rintro T193 v193 L193 X193 ⟨hhc192, c192, rfl, c1920, c1921⟩
    rw [hhc192] at X193
    show Go p e below _ T193 m 291 #[.val (.int q0), .val (.int q1), .val (.int q2), .val (.int q3), .val (.int q4), .val (.int (2 : Int32)), .unset, .unset] [(.int c192), (.int (14 : Int32)), (.ref a104), (.ref a104), (.ref a101), (.ref a101)]
    refine Go.stCN X193 292 F191 14 (by decide) at_291 nw_a104 ?_
    intro T194 h194 w194 X194 W194 V194
    rw [(own_nr (by omega) (by omega) : nar .char c192 = c192)] at V194
    have F195 : Exa Z h194 a101 "java/lang/String" := F188.wr W194
    have F196 : Fld Z h194 a101 "java/lang/String" "coder" "B" (.int (0 : Int32)) := F189.other W194 (Or.inl ne_a101_a104)
    have F197 : Fld Z h194 a101 "java/lang/String" "value" "[B" .null := F190.other W194 (Or.inl ne_a101_a104)
    have F198 : An Z h194 a104 .char 15 (upd (upd (upd (upd (upd (upd (upd (upd (upd (upd (upd (upd (upd (upd (upd (fun _ => (0 : Int32)) 0 c108) 1 (58 : Int32)) 2 c120) 3 (58 : Int32)) 4 c132) 5 (58 : Int32)) 6 c144) 7 (58 : Int32)) 8 c156) 9 (58 : Int32)) 10 c168) 11 (58 : Int32)) 12 c180) 13 (58 : Int32)) 14 c192) := V194
    have hall : AllC 15 (upd (upd (upd (upd (upd (upd (upd (upd (upd (upd (upd (upd (upd (upd (upd (fun _ => (0 : Int32)) 0 c108) 1 (58 : Int32)) 2 c120) 3 (58 : Int32)) 4 c132) 5 (58 : Int32)) 6 c144) 7 (58 : Int32)) 8 c156) 9 (58 : Int32)) 10 c168) 11 (58 : Int32)) 12 c180) 13 (58 : Int32)) 14 c192) := (AllC.u (AllC.u (AllC.u (AllC.u (AllC.u (AllC.u (AllC.u (AllC.u (AllC.u (AllC.u (AllC.u (AllC.u (AllC.u (AllC.u (AllC.u AllC.z (own_rng (by omega) (by omega))) (by decide)) (own_rng (by omega) (by omega))) (by decide)) (own_rng (by omega) (by omega))) (by decide)) (own_rng (by omega) (by omega))) (by decide)) (own_rng (by omega) (by omega))) (by decide)) (own_rng (by omega) (by omega))) (by decide)) (own_rng (by omega) (by omega))) (by decide)) (own_rng (by omega) (by omega)))
    have hyes : ∃ j, j < 15 ∧ (upd (upd (upd (upd (upd (upd (upd (upd (upd (upd (upd (upd (upd (upd (upd (fun _ => (0 : Int32)) 0 c108) 1 (58 : Int32)) 2 c120) 3 (58 : Int32)) 4 c132) 5 (58 : Int32)) 6 c144) 7 (58 : Int32)) 8 c156) 9 (58 : Int32)) 10 c168) 11 (58 : Int32)) 12 c180) 13 (58 : Int32)) 14 c192) j = 58 := ⟨1, by decide, by simp [upd]⟩
    refine Go.callI X194 295 [(.ref a104)] [(.ref a101)] 1 rfl (hw _ (List.mem_of_getElem? (i := 12) rfl)) (hw _ (List.mem_of_getElem? (i := 13) rfl)) (hw _ (List.mem_of_getElem? (i := 7) rfl)) (by decide) rfl (hw _ (List.mem_of_getElem? (i := 14) rfl)) pd_12 at_292 (rm_i1 l Z a0 hw h194 cz SC hcz a101 a104 15 (upd (upd (upd (upd (upd (upd (upd (upd (upd (upd (upd (upd (upd (upd (upd (fun _ => (0 : Int32)) 0 c108) 1 (58 : Int32)) 2 c120) 3 (58 : Int32)) 4 c132) 5 (58 : Int32)) 6 c144) 7 (58 : Int32)) 8 c156) 9 (58 : Int32)) 10 c168) 11 (58 : Int32)) 12 c180) 13 (58 : Int32)) 14 c192) (by decide) (by decide) F195 F197 F196 nw_a101 (Ne.symm ne_a101_a104) F198 (fun j hj => ⟨(hall j hj).1, own_le (hall j hj).2⟩) (fun j hj => (hall j hj).2)) rfl rfl rfl (Nat.le_of_eq rfl) (by decide) (by decide) (by decide) (by decide) ?_
    rintro T199 v199 L199 X199 ⟨rfl, t, K, gt, S⟩
    show Go p e below _ T199 m 295 #[.val (.int q0), .val (.int q1), .val (.int q2), .val (.int q3), .val (.int q4), .val (.int (2 : Int32)), .unset, .unset] [(.ref a101)]
    refine Go.astore X199 297 #[.val (.int q0), .val (.int q1), .val (.int q2), .val (.int q3), .val (.int q4), .val (.int (2 : Int32)), .val (.ref a101), .unset] at_295 rfl rfl ?_
    refine Go.iconst X199 298 (1 : Int32) at_297 ?_
    refine Go.istore X199 300 #[.val (.int q0), .val (.int q1), .val (.int q2), .val (.int q3), .val (.int q4), .val (.int (2 : Int32)), .val (.ref a101), .val (.int (1 : Int32))] at_298 rfl ?_
    refine Go.goto X199 472 at_300 ?_
    refine Go.aload X199 474 at_472 rfl rfl ?_
    refine Go.callSP X199 477 [(.ref a101)] [] 0 (hw _ (List.mem_of_getElem? (i := 38) rfl)) (hw _ (List.mem_of_getElem? (i := 39) rfl)) (hw _ (List.mem_of_getElem? (i := 40) rfl)) (by decide) (hw _ (List.mem_of_getElem? (i := 41) rfl)) pd_13 at_474 (rm_is l Z a0 hw T199.heap cz SC hcz a101 t 15 (upd (upd (upd (upd (upd (upd (upd (upd (upd (upd (upd (upd (upd (upd (upd (fun _ => (0 : Int32)) 0 c108) 1 (58 : Int32)) 2 c120) 3 (58 : Int32)) 4 c132) 5 (58 : Int32)) 6 c144) 7 (58 : Int32)) 8 c156) 9 (58 : Int32)) 10 c168) 11 (58 : Int32)) 12 c180) 13 (58 : Int32)) 14 c192) (1 : Int32) S (fun j hj => (hall j hj).2) (Or.inr ⟨rfl, hyes⟩)) rfl rfl rfl (Nat.le_of_eq rfl) (by decide) (by decide) (by decide) (by decide) ?_
    intro T200 L200 X200
    refine Go.iload X200 479 at_477 rfl ?_
    refine Go.icmpN X200 482 at_479 (XT.ii_ne_f (by decide)) ?_
    refine Go.iconst X200 483 (1 : Int32) at_482 ?_
    refine Go.goto X200 487 at_483 ?_
    exact Go.retI X200 rfl (by simp) rfl at_487 (X200.fin rfl (by decide) (by decide))
  · skip
    refine Go.istore X1 8 #[.val (.int q0), .val (.int q1), .val (.int q2), .val (.int q3), .val (.int q4), .val (.int (3 : Int32)), .unset, .unset] at_6 rfl ?_
    refine Go.iload X1 10 at_8 rfl ?_
    refine Go.if0Y X1 77 at_10 (XT.i0_ne_t (by decide)) ?_
    refine Go.iload X1 79 at_77 rfl ?_
    refine Go.iconst X1 80 (1 : Int32) at_79 ?_
    refine Go.icmpY X1 164 at_80 (XT.ii_ne_t (by decide)) ?_
    refine Go.iload X1 166 at_164 rfl ?_
    refine Go.iconst X1 167 (2 : Int32) at_166 ?_
    refine Go.icmpY X1 303 at_167 (XT.ii_ne_t (by decide)) ?_
    refine Go.iload X1 305 at_303 rfl ?_
    refine Go.iconst X1 306 (3 : Int32) at_305 ?_
    refine Go.icmpN X1 309 at_306 (XT.ii_ne_f (by decide)) ?_
    refine Go.newO X1 312 (hw _ (List.mem_of_getElem? (i := 5) rfl)) (hw _ (List.mem_of_getElem? (i := 6) rfl)) (hw _ (List.mem_of_getElem? (i := 7) rfl)) at_309 (by decide) (by decide) ?_
    intro T101 h101 a101 X101 E101 g101 A101 D101
    have nw_a101 : Z.heap.size ≤ a101 := by rw [← g101]; exact X1.le
    have F102 : Fld Z h101 a101 "java/lang/String" "coder" "B" (.int (0 : Int32)) := D101 (Or.inr (hw _ (List.mem_of_getElem? (i := 35) rfl))) (ty := .byte) (by decide)
    have F103 : Fld Z h101 a101 "java/lang/String" "value" "[B" .null := D101 (Or.inr (hw _ (List.mem_of_getElem? (i := 37) rfl))) (ty := (.array .byte)) (by decide)
    refine Go.dup X101 313 at_312 rfl ?_
    refine Go.iconst X101 314 (4 : Int32) at_313 ?_
    refine Go.newC X101 316 (n := 4) (hw _ (List.mem_of_getElem? (i := 8) rfl)) at_314 4 (by decide) (by decide) (by decide) (by decide) ?_
    intro T104 h104 a104 X104 E104 g104 V104
    have nw_a104 : Z.heap.size ≤ a104 := by rw [← g104]; exact X101.le
    have ne_a101_a104 : a101 ≠ a104 := by rw [← g104]; exact Nat.ne_of_lt A101.lt
    have F105 : Exa Z h104 a101 "java/lang/String" := A101.ext E104
    have F106 : Fld Z h104 a101 "java/lang/String" "coder" "B" (.int (0 : Int32)) := F102.ext E104
    have F107 : Fld Z h104 a101 "java/lang/String" "value" "[B" .null := F103.ext E104
    refine Go.dup X104 317 at_316 rfl ?_
    refine Go.iconst X104 318 (0 : Int32) at_317 ?_
    refine Go.bipush X104 320 (58 : Int32) at_318 ?_
    refine Go.stCN X104 321 V104 0 (by decide) at_320 nw_a104 ?_
    intro T108 h108 w108 X108 W108 V108
    rw [(by decide : nar .char (58 : Int32) = (58 : Int32))] at V108
    have F109 : Exa Z h108 a101 "java/lang/String" := F105.wr W108
    have F110 : Fld Z h108 a101 "java/lang/String" "coder" "B" (.int (0 : Int32)) := F106.other W108 (Or.inl ne_a101_a104)
    have F111 : Fld Z h108 a101 "java/lang/String" "value" "[B" .null := F107.other W108 (Or.inl ne_a101_a104)
    have F112 : An Z h108 a104 .char 4 (upd (fun _ => (0 : Int32)) 0 (58 : Int32)) := V108
    refine Go.dup X108 322 at_321 rfl ?_
    refine Go.iconst X108 323 (1 : Int32) at_322 ?_
    refine Go.bipush X108 325 (58 : Int32) at_323 ?_
    refine Go.stCN X108 326 F112 1 (by decide) at_325 nw_a104 ?_
    intro T113 h113 w113 X113 W113 V113
    rw [(by decide : nar .char (58 : Int32) = (58 : Int32))] at V113
    have F114 : Exa Z h113 a101 "java/lang/String" := F109.wr W113
    have F115 : Fld Z h113 a101 "java/lang/String" "coder" "B" (.int (0 : Int32)) := F110.other W113 (Or.inl ne_a101_a104)
    have F116 : Fld Z h113 a101 "java/lang/String" "value" "[B" .null := F111.other W113 (Or.inl ne_a101_a104)
    have F117 : An Z h113 a104 .char 4 (upd (upd (fun _ => (0 : Int32)) 0 (58 : Int32)) 1 (58 : Int32)) := V113
    refine Go.dup X113 327 at_326 rfl ?_
    refine Go.iconst X113 328 (2 : Int32) at_327 ?_
    refine Go.iloadN X113 329 at_328 rfl ?_
    refine Go.callS X113 332 [(.int q1)] [(.int (2 : Int32)), (.ref a104), (.ref a104), (.ref a101), (.ref a101)] 5 (hw _ (List.mem_of_getElem? (i := 84) rfl)) (hw _ (List.mem_of_getElem? (i := 85) rfl)) (hw _ (List.mem_of_getElem? (i := 2) rfl)) (by decide) (hw _ (List.mem_of_getElem? (i := 86) rfl)) pd_10 at_329 (rm_nz l Z a0 hw h113 q1) rfl rfl rfl (Nat.le_of_eq rfl) (by decide) (by decide) (by decide) (by decide) ?_
    rintro T119 v119 L119 X119 ⟨hhc118, c118, rfl, c1180, c1181⟩
    rw [hhc118] at X119
    show Go p e below _ T119 m 332 #[.val (.int q0), .val (.int q1), .val (.int q2), .val (.int q3), .val (.int q4), .val (.int (3 : Int32)), .unset, .unset] [(.int c118), (.int (2 : Int32)), (.ref a104), (.ref a104), (.ref a101), (.ref a101)]
    refine Go.stCN X119 333 F117 2 (by decide) at_332 nw_a104 ?_
    intro T120 h120 w120 X120 W120 V120
    rw [(own_nr (by omega) (by omega) : nar .char c118 = c118)] at V120
    have F121 : Exa Z h120 a101 "java/lang/String" := F114.wr W120
    have F122 : Fld Z h120 a101 "java/lang/String" "coder" "B" (.int (0 : Int32)) := F115.other W120 (Or.inl ne_a101_a104)
    have F123 : Fld Z h120 a101 "java/lang/String" "value" "[B" .null := F116.other W120 (Or.inl ne_a101_a104)
    have F124 : An Z h120 a104 .char 4 (upd (upd (upd (fun _ => (0 : Int32)) 0 (58 : Int32)) 1 (58 : Int32)) 2 c118) := V120
    refine Go.dup X120 334 at_333 rfl ?_
    refine Go.iconst X120 335 (3 : Int32) at_334 ?_
    refine Go.iloadN X120 336 at_335 rfl ?_
    refine Go.callS X120 339 [(.int q2)] [(.int (3 : Int32)), (.ref a104), (.ref a104), (.ref a101), (.ref a101)] 5 (hw _ (List.mem_of_getElem? (i := 90) rfl)) (hw _ (List.mem_of_getElem? (i := 91) rfl)) (hw _ (List.mem_of_getElem? (i := 2) rfl)) (by decide) (hw _ (List.mem_of_getElem? (i := 92) rfl)) pd_10 at_336 (rm_any l Z a0 hw h120 q2) rfl rfl rfl (Nat.le_of_eq rfl) (by decide) (by decide) (by decide) (by decide) ?_
    rintro T126 v126 L126 X126 ⟨hhc125, c125, rfl, c1250, c1251⟩
    rw [hhc125] at X126
    show Go p e below _ T126 m 339 #[.val (.int q0), .val (.int q1), .val (.int q2), .val (.int q3), .val (.int q4), .val (.int (3 : Int32)), .unset, .unset] [(.int c125), (.int (3 : Int32)), (.ref a104), (.ref a104), (.ref a101), (.ref a101)]
    refine Go.stCN X126 340 F124 3 (by decide) at_339 nw_a104 ?_
    intro T127 h127 w127 X127 W127 V127
    rw [(own_nr (by omega) (by omega) : nar .char c125 = c125)] at V127
    have F128 : Exa Z h127 a101 "java/lang/String" := F121.wr W127
    have F129 : Fld Z h127 a101 "java/lang/String" "coder" "B" (.int (0 : Int32)) := F122.other W127 (Or.inl ne_a101_a104)
    have F130 : Fld Z h127 a101 "java/lang/String" "value" "[B" .null := F123.other W127 (Or.inl ne_a101_a104)
    have F131 : An Z h127 a104 .char 4 (upd (upd (upd (upd (fun _ => (0 : Int32)) 0 (58 : Int32)) 1 (58 : Int32)) 2 c118) 3 c125) := V127
    have hall : AllC 4 (upd (upd (upd (upd (fun _ => (0 : Int32)) 0 (58 : Int32)) 1 (58 : Int32)) 2 c118) 3 c125) := (AllC.u (AllC.u (AllC.u (AllC.u AllC.z (by decide)) (by decide)) (own_rng (by omega) (by omega))) (own_rng (by omega) (by omega)))
    have hyes : ∃ j, j < 4 ∧ (upd (upd (upd (upd (fun _ => (0 : Int32)) 0 (58 : Int32)) 1 (58 : Int32)) 2 c118) 3 c125) j = 58 := ⟨0, by decide, by simp [upd]⟩
    refine Go.callI X127 343 [(.ref a104)] [(.ref a101)] 1 rfl (hw _ (List.mem_of_getElem? (i := 12) rfl)) (hw _ (List.mem_of_getElem? (i := 13) rfl)) (hw _ (List.mem_of_getElem? (i := 7) rfl)) (by decide) rfl (hw _ (List.mem_of_getElem? (i := 14) rfl)) pd_12 at_340 (rm_i1 l Z a0 hw h127 cz SC hcz a101 a104 4 (upd (upd (upd (upd (fun _ => (0 : Int32)) 0 (58 : Int32)) 1 (58 : Int32)) 2 c118) 3 c125) (by decide) (by decide) F128 F130 F129 nw_a101 (Ne.symm ne_a101_a104) F131 (fun j hj => ⟨(hall j hj).1, own_le (hall j hj).2⟩) (fun j hj => (hall j hj).2)) rfl rfl rfl (Nat.le_of_eq rfl) (by decide) (by decide) (by decide) (by decide) ?_
    rintro T132 v132 L132 X132 ⟨rfl, t, K, gt, S⟩
    show Go p e below _ T132 m 343 #[.val (.int q0), .val (.int q1), .val (.int q2), .val (.int q3), .val (.int q4), .val (.int (3 : Int32)), .unset, .unset] [(.ref a101)]
    refine Go.astore X132 345 #[.val (.int q0), .val (.int q1), .val (.int q2), .val (.int q3), .val (.int q4), .val (.int (3 : Int32)), .val (.ref a101), .unset] at_343 rfl rfl ?_
    refine Go.iconst X132 346 (1 : Int32) at_345 ?_
    refine Go.istore X132 348 #[.val (.int q0), .val (.int q1), .val (.int q2), .val (.int q3), .val (.int q4), .val (.int (3 : Int32)), .val (.ref a101), .val (.int (1 : Int32))] at_346 rfl ?_
    refine Go.goto X132 472 at_348 ?_
    refine Go.aload X132 474 at_472 rfl rfl ?_
    refine Go.callSP X132 477 [(.ref a101)] [] 0 (hw _ (List.mem_of_getElem? (i := 38) rfl)) (hw _ (List.mem_of_getElem? (i := 39) rfl)) (hw _ (List.mem_of_getElem? (i := 40) rfl)) (by decide) (hw _ (List.mem_of_getElem? (i := 41) rfl)) pd_13 at_474 (rm_is l Z a0 hw T132.heap cz SC hcz a101 t 4 (upd (upd (upd (upd (fun _ => (0 : Int32)) 0 (58 : Int32)) 1 (58 : Int32)) 2 c118) 3 c125) (1 : Int32) S (fun j hj => (hall j hj).2) (Or.inr ⟨rfl, hyes⟩)) rfl rfl rfl (Nat.le_of_eq rfl) (by decide) (by decide) (by decide) (by decide) ?_
    intro T133 L133 X133
    refine Go.iload X133 479 at_477 rfl ?_
    refine Go.icmpN X133 482 at_479 (XT.ii_ne_f (by decide)) ?_
    refine Go.iconst X133 483 (1 : Int32) at_482 ?_
    refine Go.goto X133 487 at_483 ?_
    exact Go.retI X133 rfl (by simp) rfl at_487 (X133.fin rfl (by decide) (by decide))
  · skip
    refine Go.istore X1 8 #[.val (.int q0), .val (.int q1), .val (.int q2), .val (.int q3), .val (.int q4), .val (.int (4 : Int32)), .unset, .unset] at_6 rfl ?_
    refine Go.iload X1 10 at_8 rfl ?_
    refine Go.if0Y X1 77 at_10 (XT.i0_ne_t (by decide)) ?_
    refine Go.iload X1 79 at_77 rfl ?_
    refine Go.iconst X1 80 (1 : Int32) at_79 ?_
    refine Go.icmpY X1 164 at_80 (XT.ii_ne_t (by decide)) ?_
    refine Go.iload X1 166 at_164 rfl ?_
    refine Go.iconst X1 167 (2 : Int32) at_166 ?_
    refine Go.icmpY X1 303 at_167 (XT.ii_ne_t (by decide)) ?_
    refine Go.iload X1 305 at_303 rfl ?_
    refine Go.iconst X1 306 (3 : Int32) at_305 ?_
    refine Go.icmpY X1 351 at_306 (XT.ii_ne_t (by decide)) ?_
    refine Go.iload X1 353 at_351 rfl ?_
    refine Go.iconst X1 354 (4 : Int32) at_353 ?_
    refine Go.icmpN X1 357 at_354 (XT.ii_ne_f (by decide)) ?_
    refine Go.newO X1 360 (hw _ (List.mem_of_getElem? (i := 5) rfl)) (hw _ (List.mem_of_getElem? (i := 6) rfl)) (hw _ (List.mem_of_getElem? (i := 7) rfl)) at_357 (by decide) (by decide) ?_
    intro T101 h101 a101 X101 E101 g101 A101 D101
    have nw_a101 : Z.heap.size ≤ a101 := by rw [← g101]; exact X1.le
    have F102 : Fld Z h101 a101 "java/lang/String" "coder" "B" (.int (0 : Int32)) := D101 (Or.inr (hw _ (List.mem_of_getElem? (i := 35) rfl))) (ty := .byte) (by decide)
    have F103 : Fld Z h101 a101 "java/lang/String" "value" "[B" .null := D101 (Or.inr (hw _ (List.mem_of_getElem? (i := 37) rfl))) (ty := (.array .byte)) (by decide)
    refine Go.dup X101 361 at_360 rfl ?_
    refine Go.iconst X101 362 (4 : Int32) at_361 ?_
    refine Go.newC X101 364 (n := 4) (hw _ (List.mem_of_getElem? (i := 8) rfl)) at_362 4 (by decide) (by decide) (by decide) (by decide) ?_
    intro T104 h104 a104 X104 E104 g104 V104
    have nw_a104 : Z.heap.size ≤ a104 := by rw [← g104]; exact X101.le
    have ne_a101_a104 : a101 ≠ a104 := by rw [← g104]; exact Nat.ne_of_lt A101.lt
    have F105 : Exa Z h104 a101 "java/lang/String" := A101.ext E104
    have F106 : Fld Z h104 a101 "java/lang/String" "coder" "B" (.int (0 : Int32)) := F102.ext E104
    have F107 : Fld Z h104 a101 "java/lang/String" "value" "[B" .null := F103.ext E104
    refine Go.dup X104 365 at_364 rfl ?_
    refine Go.iconst X104 366 (0 : Int32) at_365 ?_
    refine Go.iloadN X104 367 at_366 rfl ?_
    refine Go.callS X104 370 [(.int q1)] [(.int (0 : Int32)), (.ref a104), (.ref a104), (.ref a101), (.ref a101)] 5 (hw _ (List.mem_of_getElem? (i := 84) rfl)) (hw _ (List.mem_of_getElem? (i := 85) rfl)) (hw _ (List.mem_of_getElem? (i := 2) rfl)) (by decide) (hw _ (List.mem_of_getElem? (i := 86) rfl)) pd_10 at_367 (rm_nz l Z a0 hw h104 q1) rfl rfl rfl (Nat.le_of_eq rfl) (by decide) (by decide) (by decide) (by decide) ?_
    rintro T109 v109 L109 X109 ⟨hhc108, c108, rfl, c1080, c1081⟩
    rw [hhc108] at X109
    show Go p e below _ T109 m 370 #[.val (.int q0), .val (.int q1), .val (.int q2), .val (.int q3), .val (.int q4), .val (.int (4 : Int32)), .unset, .unset] [(.int c108), (.int (0 : Int32)), (.ref a104), (.ref a104), (.ref a101), (.ref a101)]
    refine Go.stCN X109 371 V104 0 (by decide) at_370 nw_a104 ?_
    intro T110 h110 w110 X110 W110 V110
    rw [(own_nr (by omega) (by omega) : nar .char c108 = c108)] at V110
    have F111 : Exa Z h110 a101 "java/lang/String" := F105.wr W110
    have F112 : Fld Z h110 a101 "java/lang/String" "coder" "B" (.int (0 : Int32)) := F106.other W110 (Or.inl ne_a101_a104)
    have F113 : Fld Z h110 a101 "java/lang/String" "value" "[B" .null := F107.other W110 (Or.inl ne_a101_a104)
    have F114 : An Z h110 a104 .char 4 (upd (fun _ => (0 : Int32)) 0 c108) := V110
    refine Go.dup X110 372 at_371 rfl ?_
    refine Go.iconst X110 373 (1 : Int32) at_372 ?_
    refine Go.iloadN X110 374 at_373 rfl ?_
    refine Go.callS X110 377 [(.int q2)] [(.int (1 : Int32)), (.ref a104), (.ref a104), (.ref a101), (.ref a101)] 5 (hw _ (List.mem_of_getElem? (i := 90) rfl)) (hw _ (List.mem_of_getElem? (i := 91) rfl)) (hw _ (List.mem_of_getElem? (i := 2) rfl)) (by decide) (hw _ (List.mem_of_getElem? (i := 92) rfl)) pd_10 at_374 (rm_any l Z a0 hw h110 q2) rfl rfl rfl (Nat.le_of_eq rfl) (by decide) (by decide) (by decide) (by decide) ?_
    rintro T116 v116 L116 X116 ⟨hhc115, c115, rfl, c1150, c1151⟩
    rw [hhc115] at X116
    show Go p e below _ T116 m 377 #[.val (.int q0), .val (.int q1), .val (.int q2), .val (.int q3), .val (.int q4), .val (.int (4 : Int32)), .unset, .unset] [(.int c115), (.int (1 : Int32)), (.ref a104), (.ref a104), (.ref a101), (.ref a101)]
    refine Go.stCN X116 378 F114 1 (by decide) at_377 nw_a104 ?_
    intro T117 h117 w117 X117 W117 V117
    rw [(own_nr (by omega) (by omega) : nar .char c115 = c115)] at V117
    have F118 : Exa Z h117 a101 "java/lang/String" := F111.wr W117
    have F119 : Fld Z h117 a101 "java/lang/String" "coder" "B" (.int (0 : Int32)) := F112.other W117 (Or.inl ne_a101_a104)
    have F120 : Fld Z h117 a101 "java/lang/String" "value" "[B" .null := F113.other W117 (Or.inl ne_a101_a104)
    have F121 : An Z h117 a104 .char 4 (upd (upd (fun _ => (0 : Int32)) 0 c108) 1 c115) := V117
    refine Go.dup X117 379 at_378 rfl ?_
    refine Go.iconst X117 380 (2 : Int32) at_379 ?_
    refine Go.bipush X117 382 (58 : Int32) at_380 ?_
    refine Go.stCN X117 383 F121 2 (by decide) at_382 nw_a104 ?_
    intro T122 h122 w122 X122 W122 V122
    rw [(by decide : nar .char (58 : Int32) = (58 : Int32))] at V122
    have F123 : Exa Z h122 a101 "java/lang/String" := F118.wr W122
    have F124 : Fld Z h122 a101 "java/lang/String" "coder" "B" (.int (0 : Int32)) := F119.other W122 (Or.inl ne_a101_a104)
    have F125 : Fld Z h122 a101 "java/lang/String" "value" "[B" .null := F120.other W122 (Or.inl ne_a101_a104)
    have F126 : An Z h122 a104 .char 4 (upd (upd (upd (fun _ => (0 : Int32)) 0 c108) 1 c115) 2 (58 : Int32)) := V122
    refine Go.dup X122 384 at_383 rfl ?_
    refine Go.iconst X122 385 (3 : Int32) at_384 ?_
    refine Go.bipush X122 387 (58 : Int32) at_385 ?_
    refine Go.stCN X122 388 F126 3 (by decide) at_387 nw_a104 ?_
    intro T127 h127 w127 X127 W127 V127
    rw [(by decide : nar .char (58 : Int32) = (58 : Int32))] at V127
    have F128 : Exa Z h127 a101 "java/lang/String" := F123.wr W127
    have F129 : Fld Z h127 a101 "java/lang/String" "coder" "B" (.int (0 : Int32)) := F124.other W127 (Or.inl ne_a101_a104)
    have F130 : Fld Z h127 a101 "java/lang/String" "value" "[B" .null := F125.other W127 (Or.inl ne_a101_a104)
    have F131 : An Z h127 a104 .char 4 (upd (upd (upd (upd (fun _ => (0 : Int32)) 0 c108) 1 c115) 2 (58 : Int32)) 3 (58 : Int32)) := V127
    have hall : AllC 4 (upd (upd (upd (upd (fun _ => (0 : Int32)) 0 c108) 1 c115) 2 (58 : Int32)) 3 (58 : Int32)) := (AllC.u (AllC.u (AllC.u (AllC.u AllC.z (own_rng (by omega) (by omega))) (own_rng (by omega) (by omega))) (by decide)) (by decide))
    have hyes : ∃ j, j < 4 ∧ (upd (upd (upd (upd (fun _ => (0 : Int32)) 0 c108) 1 c115) 2 (58 : Int32)) 3 (58 : Int32)) j = 58 := ⟨2, by decide, by simp [upd]⟩
    refine Go.callI X127 391 [(.ref a104)] [(.ref a101)] 1 rfl (hw _ (List.mem_of_getElem? (i := 12) rfl)) (hw _ (List.mem_of_getElem? (i := 13) rfl)) (hw _ (List.mem_of_getElem? (i := 7) rfl)) (by decide) rfl (hw _ (List.mem_of_getElem? (i := 14) rfl)) pd_12 at_388 (rm_i1 l Z a0 hw h127 cz SC hcz a101 a104 4 (upd (upd (upd (upd (fun _ => (0 : Int32)) 0 c108) 1 c115) 2 (58 : Int32)) 3 (58 : Int32)) (by decide) (by decide) F128 F130 F129 nw_a101 (Ne.symm ne_a101_a104) F131 (fun j hj => ⟨(hall j hj).1, own_le (hall j hj).2⟩) (fun j hj => (hall j hj).2)) rfl rfl rfl (Nat.le_of_eq rfl) (by decide) (by decide) (by decide) (by decide) ?_
    rintro T132 v132 L132 X132 ⟨rfl, t, K, gt, S⟩
    show Go p e below _ T132 m 391 #[.val (.int q0), .val (.int q1), .val (.int q2), .val (.int q3), .val (.int q4), .val (.int (4 : Int32)), .unset, .unset] [(.ref a101)]
    refine Go.astore X132 393 #[.val (.int q0), .val (.int q1), .val (.int q2), .val (.int q3), .val (.int q4), .val (.int (4 : Int32)), .val (.ref a101), .unset] at_391 rfl rfl ?_
    refine Go.iconst X132 394 (1 : Int32) at_393 ?_
    refine Go.istore X132 396 #[.val (.int q0), .val (.int q1), .val (.int q2), .val (.int q3), .val (.int q4), .val (.int (4 : Int32)), .val (.ref a101), .val (.int (1 : Int32))] at_394 rfl ?_
    refine Go.goto X132 472 at_396 ?_
    refine Go.aload X132 474 at_472 rfl rfl ?_
    refine Go.callSP X132 477 [(.ref a101)] [] 0 (hw _ (List.mem_of_getElem? (i := 38) rfl)) (hw _ (List.mem_of_getElem? (i := 39) rfl)) (hw _ (List.mem_of_getElem? (i := 40) rfl)) (by decide) (hw _ (List.mem_of_getElem? (i := 41) rfl)) pd_13 at_474 (rm_is l Z a0 hw T132.heap cz SC hcz a101 t 4 (upd (upd (upd (upd (fun _ => (0 : Int32)) 0 c108) 1 c115) 2 (58 : Int32)) 3 (58 : Int32)) (1 : Int32) S (fun j hj => (hall j hj).2) (Or.inr ⟨rfl, hyes⟩)) rfl rfl rfl (Nat.le_of_eq rfl) (by decide) (by decide) (by decide) (by decide) ?_
    intro T133 L133 X133
    refine Go.iload X133 479 at_477 rfl ?_
    refine Go.icmpN X133 482 at_479 (XT.ii_ne_f (by decide)) ?_
    refine Go.iconst X133 483 (1 : Int32) at_482 ?_
    refine Go.goto X133 487 at_483 ?_
    exact Go.retI X133 rfl (by simp) rfl at_487 (X133.fin rfl (by decide) (by decide))
  · skip
    refine Go.istore X1 8 #[.val (.int q0), .val (.int q1), .val (.int q2), .val (.int q3), .val (.int q4), .val (.int (5 : Int32)), .unset, .unset] at_6 rfl ?_
    refine Go.iload X1 10 at_8 rfl ?_
    refine Go.if0Y X1 77 at_10 (XT.i0_ne_t (by decide)) ?_
    refine Go.iload X1 79 at_77 rfl ?_
    refine Go.iconst X1 80 (1 : Int32) at_79 ?_
    refine Go.icmpY X1 164 at_80 (XT.ii_ne_t (by decide)) ?_
    refine Go.iload X1 166 at_164 rfl ?_
    refine Go.iconst X1 167 (2 : Int32) at_166 ?_
    refine Go.icmpY X1 303 at_167 (XT.ii_ne_t (by decide)) ?_
    refine Go.iload X1 305 at_303 rfl ?_
    refine Go.iconst X1 306 (3 : Int32) at_305 ?_
    refine Go.icmpY X1 351 at_306 (XT.ii_ne_t (by decide)) ?_
    refine Go.iload X1 353 at_351 rfl ?_
    refine Go.iconst X1 354 (4 : Int32) at_353 ?_
    refine Go.icmpY X1 399 at_354 (XT.ii_ne_t (by decide)) ?_
    refine Go.iload X1 401 at_399 rfl ?_
    refine Go.iconst X1 402 (5 : Int32) at_401 ?_
    refine Go.icmpN X1 405 at_402 (XT.ii_ne_f (by decide)) ?_
    refine Go.newO X1 408 (hw _ (List.mem_of_getElem? (i := 5) rfl)) (hw _ (List.mem_of_getElem? (i := 6) rfl)) (hw _ (List.mem_of_getElem? (i := 7) rfl)) at_405 (by decide) (by decide) ?_
    intro T101 h101 a101 X101 E101 g101 A101 D101
    have nw_a101 : Z.heap.size ≤ a101 := by rw [← g101]; exact X1.le
    have F102 : Fld Z h101 a101 "java/lang/String" "coder" "B" (.int (0 : Int32)) := D101 (Or.inr (hw _ (List.mem_of_getElem? (i := 35) rfl))) (ty := .byte) (by decide)
    have F103 : Fld Z h101 a101 "java/lang/String" "value" "[B" .null := D101 (Or.inr (hw _ (List.mem_of_getElem? (i := 37) rfl))) (ty := (.array .byte)) (by decide)
    refine Go.dup X101 409 at_408 rfl ?_
    refine Go.iconst X101 410 (4 : Int32) at_409 ?_
    refine Go.newC X101 412 (n := 4) (hw _ (List.mem_of_getElem? (i := 8) rfl)) at_410 4 (by decide) (by decide) (by decide) (by decide) ?_
    intro T104 h104 a104 X104 E104 g104 V104
    have nw_a104 : Z.heap.size ≤ a104 := by rw [← g104]; exact X101.le
    have ne_a101_a104 : a101 ≠ a104 := by rw [← g104]; exact Nat.ne_of_lt A101.lt
    have F105 : Exa Z h104 a101 "java/lang/String" := A101.ext E104
    have F106 : Fld Z h104 a101 "java/lang/String" "coder" "B" (.int (0 : Int32)) := F102.ext E104
    have F107 : Fld Z h104 a101 "java/lang/String" "value" "[B" .null := F103.ext E104
    refine Go.dup X104 413 at_412 rfl ?_
    refine Go.iconst X104 414 (0 : Int32) at_413 ?_
    refine Go.iloadN X104 415 at_414 rfl ?_
    refine Go.callS X104 418 [(.int q1)] [(.int (0 : Int32)), (.ref a104), (.ref a104), (.ref a101), (.ref a101)] 5 (hw _ (List.mem_of_getElem? (i := 84) rfl)) (hw _ (List.mem_of_getElem? (i := 85) rfl)) (hw _ (List.mem_of_getElem? (i := 2) rfl)) (by decide) (hw _ (List.mem_of_getElem? (i := 86) rfl)) pd_10 at_415 (rm_nz l Z a0 hw h104 q1) rfl rfl rfl (Nat.le_of_eq rfl) (by decide) (by decide) (by decide) (by decide) ?_
    rintro T109 v109 L109 X109 ⟨hhc108, c108, rfl, c1080, c1081⟩
    rw [hhc108] at X109
    show Go p e below _ T109 m 418 #[.val (.int q0), .val (.int q1), .val (.int q2), .val (.int q3), .val (.int q4), .val (.int (5 : Int32)), .unset, .unset] [(.int c108), (.int (0 : Int32)), (.ref a104), (.ref a104), (.ref a101), (.ref a101)]
    refine Go.stCN X109 419 V104 0 (by decide) at_418 nw_a104 ?_
    intro T110 h110 w110 X110 W110 V110
    rw [(own_nr (by omega) (by omega) : nar .char c108 = c108)] at V110
    have F111 : Exa Z h110 a101 "java/lang/String" := F105.wr W110
    have F112 : Fld Z h110 a101 "java/lang/String" "coder" "B" (.int (0 : Int32)) := F106.other W110 (Or.inl ne_a101_a104)
    have F113 : Fld Z h110 a101 "java/lang/String" "value" "[B" .null := F107.other W110 (Or.inl ne_a101_a104)
    have F114 : An Z h110 a104 .char 4 (upd (fun _ => (0 : Int32)) 0 c108) := V110
    refine Go.dup X110 420 at_419 rfl ?_
    refine Go.iconst X110 421 (1 : Int32) at_420 ?_
    refine Go.bipush X110 423 (58 : Int32) at_421 ?_
    refine Go.stCN X110 424 F114 1 (by decide) at_423 nw_a104 ?_
    intro T115 h115 w115 X115 W115 V115
    rw [(by decide : nar .char (58 : Int32) = (58 : Int32))] at V115
    have F116 : Exa Z h115 a101 "java/lang/String" := F111.wr W115
    have F117 : Fld Z h115 a101 "java/lang/String" "coder" "B" (.int (0 : Int32)) := F112.other W115 (Or.inl ne_a101_a104)
    have F118 : Fld Z h115 a101 "java/lang/String" "value" "[B" .null := F113.other W115 (Or.inl ne_a101_a104)
    have F119 : An Z h115 a104 .char 4 (upd (upd (fun _ => (0 : Int32)) 0 c108) 1 (58 : Int32)) := V115
    refine Go.dup X115 425 at_424 rfl ?_
    refine Go.iconst X115 426 (2 : Int32) at_425 ?_
    refine Go.bipush X115 428 (58 : Int32) at_426 ?_
    refine Go.stCN X115 429 F119 2 (by decide) at_428 nw_a104 ?_
    intro T120 h120 w120 X120 W120 V120
    rw [(by decide : nar .char (58 : Int32) = (58 : Int32))] at V120
    have F121 : Exa Z h120 a101 "java/lang/String" := F116.wr W120
    have F122 : Fld Z h120 a101 "java/lang/String" "coder" "B" (.int (0 : Int32)) := F117.other W120 (Or.inl ne_a101_a104)
    have F123 : Fld Z h120 a101 "java/lang/String" "value" "[B" .null := F118.other W120 (Or.inl ne_a101_a104)
    have F124 : An Z h120 a104 .char 4 (upd (upd (upd (fun _ => (0 : Int32)) 0 c108) 1 (58 : Int32)) 2 (58 : Int32)) := V120
    refine Go.dup X120 430 at_429 rfl ?_
    refine Go.iconst X120 431 (3 : Int32) at_430 ?_
    refine Go.iloadN X120 432 at_431 rfl ?_
    refine Go.callS X120 435 [(.int q2)] [(.int (3 : Int32)), (.ref a104), (.ref a104), (.ref a101), (.ref a101)] 5 (hw _ (List.mem_of_getElem? (i := 84) rfl)) (hw _ (List.mem_of_getElem? (i := 85) rfl)) (hw _ (List.mem_of_getElem? (i := 2) rfl)) (by decide) (hw _ (List.mem_of_getElem? (i := 86) rfl)) pd_10 at_432 (rm_nz l Z a0 hw h120 q2) rfl rfl rfl (Nat.le_of_eq rfl) (by decide) (by decide) (by decide) (by decide) ?_
    rintro T126 v126 L126 X126 ⟨hhc125, c125, rfl, c1250, c1251⟩
    rw [hhc125] at X126
    show Go p e below _ T126 m 435 #[.val (.int q0), .val (.int q1), .val (.int q2), .val (.int q3), .val (.int q4), .val (.int (5 : Int32)), .unset, .unset] [(.int c125), (.int (3 : Int32)), (.ref a104), (.ref a104), (.ref a101), (.ref a101)]
    refine Go.stCN X126 436 F124 3 (by decide) at_435 nw_a104 ?_
    intro T127 h127 w127 X127 W127 V127
    rw [(own_nr (by omega) (by omega) : nar .char c125 = c125)] at V127
    have F128 : Exa Z h127 a101 "java/lang/String" := F121.wr W127
    have F129 : Fld Z h127 a101 "java/lang/String" "coder" "B" (.int (0 : Int32)) := F122.other W127 (Or.inl ne_a101_a104)
    have F130 : Fld Z h127 a101 "java/lang/String" "value" "[B" .null := F123.other W127 (Or.inl ne_a101_a104)
    have F131 : An Z h127 a104 .char 4 (upd (upd (upd (upd (fun _ => (0 : Int32)) 0 c108) 1 (58 : Int32)) 2 (58 : Int32)) 3 c125) := V127
    have hall : AllC 4 (upd (upd (upd (upd (fun _ => (0 : Int32)) 0 c108) 1 (58 : Int32)) 2 (58 : Int32)) 3 c125) := (AllC.u (AllC.u (AllC.u (AllC.u AllC.z (own_rng (by omega) (by omega))) (by decide)) (by decide)) (own_rng (by omega) (by omega)))
    have hyes : ∃ j, j < 4 ∧ (upd (upd (upd (upd (fun _ => (0 : Int32)) 0 c108) 1 (58 : Int32)) 2 (58 : Int32)) 3 c125) j = 58 := ⟨1, by decide, by simp [upd]⟩
    refine Go.callI X127 439 [(.ref a104)] [(.ref a101)] 1 rfl (hw _ (List.mem_of_getElem? (i := 12) rfl)) (hw _ (List.mem_of_getElem? (i := 13) rfl)) (hw _ (List.mem_of_getElem? (i := 7) rfl)) (by decide) rfl (hw _ (List.mem_of_getElem? (i := 14) rfl)) pd_12 at_436 (rm_i1 l Z a0 hw h127 cz SC hcz a101 a104 4 (upd (upd (upd (upd (fun _ => (0 : Int32)) 0 c108) 1 (58 : Int32)) 2 (58 : Int32)) 3 c125) (by decide) (by decide) F128 F130 F129 nw_a101 (Ne.symm ne_a101_a104) F131 (fun j hj => ⟨(hall j hj).1, own_le (hall j hj).2⟩) (fun j hj => (hall j hj).2)) rfl rfl rfl (Nat.le_of_eq rfl) (by decide) (by decide) (by decide) (by decide) ?_
    rintro T132 v132 L132 X132 ⟨rfl, t, K, gt, S⟩
    show Go p e below _ T132 m 439 #[.val (.int q0), .val (.int q1), .val (.int q2), .val (.int q3), .val (.int q4), .val (.int (5 : Int32)), .unset, .unset] [(.ref a101)]
    refine Go.astore X132 441 #[.val (.int q0), .val (.int q1), .val (.int q2), .val (.int q3), .val (.int q4), .val (.int (5 : Int32)), .val (.ref a101), .unset] at_439 rfl rfl ?_
    refine Go.iconst X132 442 (1 : Int32) at_441 ?_
    refine Go.istore X132 444 #[.val (.int q0), .val (.int q1), .val (.int q2), .val (.int q3), .val (.int q4), .val (.int (5 : Int32)), .val (.ref a101), .val (.int (1 : Int32))] at_442 rfl ?_
    refine Go.goto X132 472 at_444 ?_
    refine Go.aload X132 474 at_472 rfl rfl ?_
    refine Go.callSP X132 477 [(.ref a101)] [] 0 (hw _ (List.mem_of_getElem? (i := 38) rfl)) (hw _ (List.mem_of_getElem? (i := 39) rfl)) (hw _ (List.mem_of_getElem? (i := 40) rfl)) (by decide) (hw _ (List.mem_of_getElem? (i := 41) rfl)) pd_13 at_474 (rm_is l Z a0 hw T132.heap cz SC hcz a101 t 4 (upd (upd (upd (upd (fun _ => (0 : Int32)) 0 c108) 1 (58 : Int32)) 2 (58 : Int32)) 3 c125) (1 : Int32) S (fun j hj => (hall j hj).2) (Or.inr ⟨rfl, hyes⟩)) rfl rfl rfl (Nat.le_of_eq rfl) (by decide) (by decide) (by decide) (by decide) ?_
    intro T133 L133 X133
    refine Go.iload X133 479 at_477 rfl ?_
    refine Go.icmpN X133 482 at_479 (XT.ii_ne_f (by decide)) ?_
    refine Go.iconst X133 483 (1 : Int32) at_482 ?_
    refine Go.goto X133 487 at_483 ?_
    exact Go.retI X133 rfl (by simp) rfl at_487 (X133.fin rfl (by decide) (by decide))
  · skip
    refine Go.istore X1 8 #[.val (.int q0), .val (.int q1), .val (.int q2), .val (.int q3), .val (.int q4), .val (.int (6 : Int32)), .unset, .unset] at_6 rfl ?_
    refine Go.iload X1 10 at_8 rfl ?_
    refine Go.if0Y X1 77 at_10 (XT.i0_ne_t (by decide)) ?_
    refine Go.iload X1 79 at_77 rfl ?_
    refine Go.iconst X1 80 (1 : Int32) at_79 ?_
    refine Go.icmpY X1 164 at_80 (XT.ii_ne_t (by decide)) ?_
    refine Go.iload X1 166 at_164 rfl ?_
    refine Go.iconst X1 167 (2 : Int32) at_166 ?_
    refine Go.icmpY X1 303 at_167 (XT.ii_ne_t (by decide)) ?_
    refine Go.iload X1 305 at_303 rfl ?_
    refine Go.iconst X1 306 (3 : Int32) at_305 ?_
    refine Go.icmpY X1 351 at_306 (XT.ii_ne_t (by decide)) ?_
    refine Go.iload X1 353 at_351 rfl ?_
    refine Go.iconst X1 354 (4 : Int32) at_353 ?_
    refine Go.icmpY X1 399 at_354 (XT.ii_ne_t (by decide)) ?_
    refine Go.iload X1 401 at_399 rfl ?_
    refine Go.iconst X1 402 (5 : Int32) at_401 ?_
    refine Go.icmpY X1 447 at_402 (XT.ii_ne_t (by decide)) ?_
    refine Go.newO X1 450 (hw _ (List.mem_of_getElem? (i := 5) rfl)) (hw _ (List.mem_of_getElem? (i := 6) rfl)) (hw _ (List.mem_of_getElem? (i := 7) rfl)) at_447 (by decide) (by decide) ?_
    intro T101 h101 a101 X101 E101 g101 A101 D101
    have nw_a101 : Z.heap.size ≤ a101 := by rw [← g101]; exact X1.le
    have F102 : Fld Z h101 a101 "java/lang/String" "coder" "B" (.int (0 : Int32)) := D101 (Or.inr (hw _ (List.mem_of_getElem? (i := 35) rfl))) (ty := .byte) (by decide)
    have F103 : Fld Z h101 a101 "java/lang/String" "value" "[B" .null := D101 (Or.inr (hw _ (List.mem_of_getElem? (i := 37) rfl))) (ty := (.array .byte)) (by decide)
    refine Go.dup X101 451 at_450 rfl ?_
    refine Go.iconst X101 452 (2 : Int32) at_451 ?_
    refine Go.newC X101 454 (n := 2) (hw _ (List.mem_of_getElem? (i := 8) rfl)) at_452 2 (by decide) (by decide) (by decide) (by decide) ?_
    intro T104 h104 a104 X104 E104 g104 V104
    have nw_a104 : Z.heap.size ≤ a104 := by rw [← g104]; exact X101.le
    have ne_a101_a104 : a101 ≠ a104 := by rw [← g104]; exact Nat.ne_of_lt A101.lt
    have F105 : Exa Z h104 a101 "java/lang/String" := A101.ext E104
    have F106 : Fld Z h104 a101 "java/lang/String" "coder" "B" (.int (0 : Int32)) := F102.ext E104
    have F107 : Fld Z h104 a101 "java/lang/String" "value" "[B" .null := F103.ext E104
    refine Go.dup X104 455 at_454 rfl ?_
    refine Go.iconst X104 456 (0 : Int32) at_455 ?_
    refine Go.bipush X104 458 (58 : Int32) at_456 ?_
    refine Go.stCN X104 459 V104 0 (by decide) at_458 nw_a104 ?_
    intro T108 h108 w108 X108 W108 V108
    rw [(by decide : nar .char (58 : Int32) = (58 : Int32))] at V108
    have F109 : Exa Z h108 a101 "java/lang/String" := F105.wr W108
    have F110 : Fld Z h108 a101 "java/lang/String" "coder" "B" (.int (0 : Int32)) := F106.other W108 (Or.inl ne_a101_a104)
    have F111 : Fld Z h108 a101 "java/lang/String" "value" "[B" .null := F107.other W108 (Or.inl ne_a101_a104)
    have F112 : An Z h108 a104 .char 2 (upd (fun _ => (0 : Int32)) 0 (58 : Int32)) := V108
    refine Go.dup X108 460 at_459 rfl ?_
    refine Go.iconst X108 461 (1 : Int32) at_460 ?_
    refine Go.bipush X108 463 (58 : Int32) at_461 ?_
    refine Go.stCN X108 464 F112 1 (by decide) at_463 nw_a104 ?_
    intro T113 h113 w113 X113 W113 V113
    rw [(by decide : nar .char (58 : Int32) = (58 : Int32))] at V113
    have F114 : Exa Z h113 a101 "java/lang/String" := F109.wr W113
    have F115 : Fld Z h113 a101 "java/lang/String" "coder" "B" (.int (0 : Int32)) := F110.other W113 (Or.inl ne_a101_a104)
    have F116 : Fld Z h113 a101 "java/lang/String" "value" "[B" .null := F111.other W113 (Or.inl ne_a101_a104)
    have F117 : An Z h113 a104 .char 2 (upd (upd (fun _ => (0 : Int32)) 0 (58 : Int32)) 1 (58 : Int32)) := V113
    have hall : AllC 2 (upd (upd (fun _ => (0 : Int32)) 0 (58 : Int32)) 1 (58 : Int32)) := (AllC.u (AllC.u AllC.z (by decide)) (by decide))
    have hyes : ∃ j, j < 2 ∧ (upd (upd (fun _ => (0 : Int32)) 0 (58 : Int32)) 1 (58 : Int32)) j = 58 := ⟨0, by decide, by simp [upd]⟩
    refine Go.callI X113 467 [(.ref a104)] [(.ref a101)] 1 rfl (hw _ (List.mem_of_getElem? (i := 12) rfl)) (hw _ (List.mem_of_getElem? (i := 13) rfl)) (hw _ (List.mem_of_getElem? (i := 7) rfl)) (by decide) rfl (hw _ (List.mem_of_getElem? (i := 14) rfl)) pd_12 at_464 (rm_i1 l Z a0 hw h113 cz SC hcz a101 a104 2 (upd (upd (fun _ => (0 : Int32)) 0 (58 : Int32)) 1 (58 : Int32)) (by decide) (by decide) F114 F116 F115 nw_a101 (Ne.symm ne_a101_a104) F117 (fun j hj => ⟨(hall j hj).1, own_le (hall j hj).2⟩) (fun j hj => (hall j hj).2)) rfl rfl rfl (Nat.le_of_eq rfl) (by decide) (by decide) (by decide) (by decide) ?_
    rintro T118 v118 L118 X118 ⟨rfl, t, K, gt, S⟩
    show Go p e below _ T118 m 467 #[.val (.int q0), .val (.int q1), .val (.int q2), .val (.int q3), .val (.int q4), .val (.int (6 : Int32)), .unset, .unset] [(.ref a101)]
    refine Go.astore X118 469 #[.val (.int q0), .val (.int q1), .val (.int q2), .val (.int q3), .val (.int q4), .val (.int (6 : Int32)), .val (.ref a101), .unset] at_467 rfl rfl ?_
    refine Go.iconst X118 470 (1 : Int32) at_469 ?_
    refine Go.istore X118 472 #[.val (.int q0), .val (.int q1), .val (.int q2), .val (.int q3), .val (.int q4), .val (.int (6 : Int32)), .val (.ref a101), .val (.int (1 : Int32))] at_470 rfl ?_
    refine Go.aload X118 474 at_472 rfl rfl ?_
    refine Go.callSP X118 477 [(.ref a101)] [] 0 (hw _ (List.mem_of_getElem? (i := 38) rfl)) (hw _ (List.mem_of_getElem? (i := 39) rfl)) (hw _ (List.mem_of_getElem? (i := 40) rfl)) (by decide) (hw _ (List.mem_of_getElem? (i := 41) rfl)) pd_13 at_474 (rm_is l Z a0 hw T118.heap cz SC hcz a101 t 2 (upd (upd (fun _ => (0 : Int32)) 0 (58 : Int32)) 1 (58 : Int32)) (1 : Int32) S (fun j hj => (hall j hj).2) (Or.inr ⟨rfl, hyes⟩)) rfl rfl rfl (Nat.le_of_eq rfl) (by decide) (by decide) (by decide) (by decide) ?_
    intro T119 L119 X119
    refine Go.iload X119 479 at_477 rfl ?_
    refine Go.icmpN X119 482 at_479 (XT.ii_ne_f (by decide)) ?_
    refine Go.iconst X119 483 (1 : Int32) at_482 ?_
    refine Go.goto X119 487 at_483 ?_
    exact Go.retI X119 rfl (by simp) rfl at_487 (X119.fin rfl (by decide) (by decide))
theorem eq_I {a b : Term} {args : Array Value} {s : State} {x y : Int32} (ha : a.eval args s none [] s = some (.int x)) (hb : b.eval args s none [] s = some (.int y)) : (Jvm.Cond.eq a b).value args s none s [] = some (decide (x = y)) := by simp [Cond.value, ha, hb]
theorem own_eqI {t : Term} {args : Array Value} {s : State} {z : Int32} (h : (Jvm.Cond.eq t (.int z)).value args s none s [] = some true) : t.eval args s none [] s = some (.int z) := by
  obtain ⟨x, y, e1, e2, -, k⟩ := cmp_v (Or.inl h)
  have e3 : y = .int z := Option.some.inj (e2.symm.trans (Term.int_eval z))
  subst e3
  obtain ⟨w, rfl⟩ := k
  have := gotT (eq_I e1 e2) h
  rw [this] at e1
  exact e1
theorem own_sta {C n d : String} {args : Array Value} {s : State} (hx : (Jvm.Cond.exactly (.static C n d) C).value args s none s [] = some true) (wi : (Jvm.Cond.initialized C).before args s = true) (wl : (Jvm.Cond.laysStatic C n d).before args s = true) : ∃ a, Sta s s.heap C n d (.ref a) ∧ Exa s s.heap a C ∧ (Term.static C n d).eval args s none [] s = some (.ref a) := by
  obtain ⟨a, ev⟩ := exa_v hx
  exact ⟨a, Sta.start ev (Or.inr ⟨wi, wl⟩), Exa.start ev hx, ev⟩
theorem own_fldI {t : Term} {C n d : String} {args : Array Value} {s : State} {a : Addr} {z : Int32} (ev : t.eval args s none [] s = some (.ref a)) (hz : (Jvm.Cond.eq (.field t C n d) (.int z)).value args s none s [] = some true) : Fld s s.heap a C n d (.int z) := by
  have := own_eqI hz
  rw [fld_at ev] at this
  exact Fld.start this
theorem own_nz {t : Term} {args : Array Value} {s : State} {z : Int32} (ev : t.eval args s none [] s = some (.int z)) (h : (Jvm.Cond.not (.eq t (.int 0))).value args s none s [] = some true) : ¬ z = 0 := by
  have h1 := not_v h
  exact gotF (eq_I ev (Term.int_eval 0)) h1
set_option maxRecDepth 65536 in
set_option maxHeartbeats 40000000 in
theorem comes_1 {Post : Tables → Env → Array Value → State → Outcome → State → Prop} (hpost : ∀ tb e args s v u, (limb_1_1.after args s (.returned v) u = true ∧ limb_1_2.after args s (.returned v) u = true ∧ True) → FrameEnd s (.returned v) u (Jvm.fieldLocs frame_1_writes args s ++ Jvm.arrayLocs frame_1_arrays args s ++ Jvm.staticLocs frame_1_statics s) 16 192 → Post tb e args s (.returned v) u) :
    ArmFor flags0 classFile x code maxLocals ret World_1 tables_1 room_1 Calls_1 rest_1 Pre_1 Post := by
  intro l hfl _ _ p e ha hc hk s m args below hf hA hF happ hP
  obtain ⟨hcalls, hrest, hpre⟩ := hP
  obtain ⟨-, -, -, hnamed, -, -, -, hat⟩ := (Spec.applies_iff hf).mp happ
  obtain ⟨hg, hn⟩ := and_e (Cond.before_iff.mp (show (Jvm.Cond.and given_1 narrow_1).before args s = true from hpre))
  obtain ⟨hcount, hr_hcount⟩ := and_e hg
  obtain ⟨hk0, hr_hk0⟩ := and_e hr_hcount
  obtain ⟨hk1, hr_hk1⟩ := and_e hr_hk0
  obtain ⟨hk2, hr_hk2⟩ := and_e hr_hk1
  obtain ⟨hk3, hr_hk3⟩ := and_e hr_hk2
  have hk4 := hr_hk3
  obtain ⟨w0, w1, w2, w3, w4, rfl⟩ : ∃ w0 w1 w2 w3 w4 : Value, args = #[w0, w1, w2, w3, w4] := by
    have hs : args.size = 5 := by simpa [Cond.value, given_1] using hcount
    obtain ⟨L⟩ := args
    match L, hs with
    | [w0, w1, w2, w3, w4], _ => exact ⟨w0, w1, w2, w3, w4, rfl⟩
  have hw := fun d (hd : d ∈ tables_1) => atoms_spec (ws := Jvm.Cond.code x code maxLocals ret :: tables_1) hat d (List.mem_cons_of_mem _ hd)
  obtain ⟨i0, e0⟩ := is_v hk0
  obtain rfl : w0 = (.int i0) := Option.some.inj e0
  obtain ⟨i1, e1⟩ := is_v hk1
  obtain rfl : w1 = (.int i1) := Option.some.inj e1
  obtain ⟨i2, e2⟩ := is_v hk2
  obtain rfl : w2 = (.int i2) := Option.some.inj e2
  obtain ⟨i3, e3⟩ := is_v hk3
  obtain rfl : w3 = (.int i3) := Option.some.inj e3
  obtain ⟨i4, e4⟩ := is_v hk4
  obtain rfl : w4 = (.int i4) := Option.some.inj e4
  have hsets := (atoms_of jdkStatics_1 (rest_1_c_eq ▸ (show rest_1_c.before _ s = true from hrest))).1
  obtain ⟨cz, evc⟩ := is_v (Cond.before_iff.mp (hsets _ (List.mem_of_getElem? (i := 1) rfl)))
  have SC := Sta.start evc (Or.inl (hsets _ (List.mem_of_getElem? (i := 0) rfl)))
  have hcz := own_nz evc (Cond.before_iff.mp (hsets _ (List.mem_of_getElem? (i := 2) rfl)))
  obtain ⟨n, o, h1, h2, h3, _, L, rfl, ⟨N, -, rfl⟩, hq⟩ := rm_l l s _ hw s.heap cz SC hcz i0 i1 i2 i3 i4 (Ext.rf _) p e ha hc hk s m _ below hf ((Spec.applies_iff_loose hf).mp happ).1 ⟨rfl, State.Warmed39.refl s, rfl⟩ trivial
  refine ⟨n, _, h1, h2, h3, hpost _ _ _ _ _ _ ⟨Cond.after_iff.mpr rfl, Cond.after_iff.mpr (eq_i res_at (Term.int_eval (1)) rfl), trivial⟩ ⟨hq.1, hq.2.1, (hq.2.2.sift fun y hy => Or.inr (N y hy)).mono (by decide) (by decide)⟩⟩
theorem main_1_1 : Claimed_1_1 := comes_1 fun _ _ _ _ _ _ h hF => ⟨h.1, hF⟩
theorem main_1_2 : Claimed_1_2 := comes_1 fun _ _ _ _ _ _ h hF => ⟨h.2.1, hF⟩
end Jvm.Pilot.@@N@@
namespace Jvm.Pilot.@@N@@
open Jvm Jvm.ClassFile Sem Op Lib Jvm.Free Jvm.Stand Jvm.Pilot.@@N@@.Jvm.D
/-! MADE BY PROGRAM (witnessworld.py) out of the Statement's table words and the real class files: 21 classes; the members and pool entries that the words name. The judged class is class 1, her method 6. -/
namespace start1
open Jvm.ClassFile
def u (s : String) : CpInfo := .utf8 (stringToUtf16 s)
/-- a pool by its gaps: so many unusable entries, then the entry; so many at the end -/
def gap : Nat → List CpInfo → List CpInfo
  | 0, r => r
  | n + 1, r => .unusable :: gap n r
def poolList (es : List (Nat × CpInfo)) (last : Nat) : List CpInfo := es.foldr (fun e r => gap e.1 (e.2 :: r)) (gap last [])
def pool (es : List (Nat × CpInfo)) (last : Nat) : Array CpInfo := ⟨poolList es last⟩
def fileOf (pool : Array CpInfo) (this : Nat) (attrs : Array Attribute := #[]) (ms : Array MethodInfo := #[]) (fl : Nat := 33) (sup : Nat := 0) (ifs : Array Nat := #[]) (fds : Array FieldInfo := #[]) : ClassFile where
  minorVersion := 0
  majorVersion := 65
  constantPool := pool
  accessFlags := fl
  thisClass := this
  superClass := sup
  interfaces := ifs
  fields := fds
  methods := ms
  attributes := attrs
def plain (name : String) (sup : Option ClassId) : Class where
  name := name
  kind := .ordinary
  loader := none
  accessFlags := 33
  super := sup
  interfaces := #[]
  cf := none
  fields := #[]
  methods := #[]
  instanceTypes := #[]
  staticTypes := #[]
  resolved := #[]
  callSites := []
  init := .initialized
  statics := none
  mirror := none

def pool0 : Array CpInfo := pool [(5, u "<init>"), (0, u "()V"), (1, .class_ 10), (1, u "java/lang/Object")] 113

def k0c0 : Code := { maxStack := 0, maxLocals := 1, code := object_method_1_code, exceptionTable := #[], attributes := #[] }
def k0m0 : Method := { name := "<init>", desc := "()V", sig := { parameters := [], returnType := none }, accessFlags := 1, code := some k0c0 }
/-- java/lang/Object -/
def k0 : Class := { plain "java/lang/Object" none with
  accessFlags := 33
  interfaces := #[]
  cf := some (fileOf pool0 8 #[] #[{ accessFlags := 1, nameIndex := 5, descriptorIndex := 6, attributes := #[] }] 33 0 #[] #[])
  fields := #[]
  methods := #[k0m0]
  instanceTypes := #[]
  staticTypes := #[]
  resolved := Array.replicate 124 none
  statics := none }

def pool1 : Array CpInfo := pool [(2, .class_ 4), (1, u "java/lang/Object"), (0, u "<init>"), (0, u "()V"), (0, .integer 2147483647), (0, .methodref 9 10), (0, .class_ 11), (0, .nameAndType 12 13), (0, u "com/example/zonewarden/zonewarden/registry/IpAddressesIsIpv6PinLaw"), (0, u "nat"), (0, u "(II)I"), (0, .methodref 9 15), (0, .nameAndType 16 17), (0, u "hex"), (0, u "(I)C"), (0, .class_ 19), (0, u "java/lang/String"), (0, .methodref 9 21), (0, .nameAndType 22 17), (0, u "dec"), (0, .methodref 18 24), (0, .nameAndType 5 25), (0, u "([C)V"), (0, .methodref 9 27), (0, .nameAndType 28 17), (0, u "hexNz"), (0, .methodref 9 30), (0, .nameAndType 31 17), (0, u "hexAny"), (0, .methodref 33 34), (0, .class_ 35), (0, .nameAndType 36 37), (0, u "com/example/zonewarden/zonewarden/registry/IpAddresses"), (0, u "isIpv6"), (0, u "(Ljava/lang/String;)Z"), (3, u "law"), (0, u "(IIIII)Z")] 2

def k1m0 : Method := { name := "<init>", desc := "()V", sig := { parameters := [], returnType := none }, accessFlags := 1, code := none }
def k1c1 : Code := { maxStack := 2, maxLocals := 2, code := method_2_code, exceptionTable := #[], attributes := #[] }
def k1m1 : Method := { name := "nat", desc := "(II)I", sig := { parameters := [.int, .int], returnType := some .int }, accessFlags := 10, code := some k1c1 }
def k1c2 : Code := { maxStack := 2, maxLocals := 1, code := method_3_code, exceptionTable := #[], attributes := #[] }
def k1m2 : Method := { name := "hex", desc := "(I)C", sig := { parameters := [.int], returnType := some .char }, accessFlags := 10, code := some k1c2 }
def k1c3 : Code := { maxStack := 3, maxLocals := 1, code := method_4_code, exceptionTable := #[], attributes := #[] }
def k1m3 : Method := { name := "dec", desc := "(I)C", sig := { parameters := [.int], returnType := some .char }, accessFlags := 10, code := some k1c3 }
def k1c4 : Code := { maxStack := 2, maxLocals := 1, code := method_5_code, exceptionTable := #[], attributes := #[] }
def k1m4 : Method := { name := "hexNz", desc := "(I)C", sig := { parameters := [.int], returnType := some .char }, accessFlags := 10, code := some k1c4 }
def k1c5 : Code := { maxStack := 2, maxLocals := 1, code := method_6_code, exceptionTable := #[], attributes := #[] }
def k1m5 : Method := { name := "hexAny", desc := "(I)C", sig := { parameters := [.int], returnType := some .char }, accessFlags := 10, code := some k1c5 }
def k1c6 : Code := { maxStack := 8, maxLocals := 8, code := code, exceptionTable := #[], attributes := #[] }
def k1m6 : Method := { name := "law", desc := "(IIIII)Z", sig := { parameters := [.int, .int, .int, .int, .int], returnType := some .boolean }, accessFlags := 9, code := some k1c6 }
/-- com/example/zonewarden/zonewarden/registry/IpAddressesIsIpv6PinLaw -/
def k1 : Class := { plain "com/example/zonewarden/zonewarden/registry/IpAddressesIsIpv6PinLaw" (some 0) with
  accessFlags := 49
  interfaces := #[]
  cf := some (fileOf pool1 9 #[] #[{ accessFlags := 1, nameIndex := 5, descriptorIndex := 6, attributes := #[] }, { accessFlags := 10, nameIndex := 12, descriptorIndex := 13, attributes := #[] }, { accessFlags := 10, nameIndex := 16, descriptorIndex := 17, attributes := #[] }, { accessFlags := 10, nameIndex := 22, descriptorIndex := 17, attributes := #[] }, { accessFlags := 10, nameIndex := 28, descriptorIndex := 17, attributes := #[] }, { accessFlags := 10, nameIndex := 31, descriptorIndex := 17, attributes := #[] }, { accessFlags := 9, nameIndex := 41, descriptorIndex := 42, attributes := #[] }] 49 2 #[] #[])
  fields := #[]
  methods := #[k1m0, k1m1, k1m2, k1m3, k1m4, k1m5, k1m6]
  instanceTypes := #[]
  staticTypes := #[]
  resolved := Array.replicate 45 none
  statics := none }

def pool2 : Array CpInfo := pool [(1, .class_ 2), (0, u "java/io/Serializable"), (0, .class_ 4), (0, u "java/lang/Object")] 2

/-- java/io/Serializable -/
def k2 : Class := { plain "java/io/Serializable" (some 0) with
  accessFlags := 1537
  interfaces := #[]
  cf := some (fileOf pool2 1 #[] #[] 1537 3 #[] #[])
  fields := #[]
  methods := #[]
  instanceTypes := #[]
  staticTypes := #[]
  resolved := Array.replicate 7 none
  statics := none }

def pool3 : Array CpInfo := pool [(1, .class_ 2), (0, u "java/lang/Comparable"), (0, .class_ 4), (0, u "java/lang/Object")] 7

/-- java/lang/Comparable -/
def k3 : Class := { plain "java/lang/Comparable" (some 0) with
  accessFlags := 1537
  interfaces := #[]
  cf := some (fileOf pool3 1 #[] #[] 1537 3 #[] #[])
  fields := #[]
  methods := #[]
  instanceTypes := #[]
  staticTypes := #[]
  resolved := Array.replicate 12 none
  statics := none }

def pool4 : Array CpInfo := pool [(2, .class_ 4), (1, u "java/lang/CharSequence"), (42, .class_ 48), (0, u "java/lang/CharSequence$1CodePointIterator"), (10, .class_ 60), (0, u "java/lang/CharSequence$1CharIterator"), (5, .class_ 67), (0, u "java/lang/Object")] 63

/-- java/lang/CharSequence -/
def k4 : Class := { plain "java/lang/CharSequence" (some 0) with
  accessFlags := 1537
  interfaces := #[]
  cf := some (fileOf pool4 2 #[.nestMembers #[47, 59]] #[] 1537 66 #[] #[])
  fields := #[]
  methods := #[]
  instanceTypes := #[]
  staticTypes := #[]
  resolved := Array.replicate 131 none
  statics := none }

def pool5 : Array CpInfo := pool [(1, .class_ 2), (0, u "java/lang/constant/Constable"), (0, .class_ 4), (0, u "java/lang/Object")] 6

/-- java/lang/constant/Constable -/
def k5 : Class := { plain "java/lang/constant/Constable" (some 0) with
  accessFlags := 1537
  interfaces := #[]
  cf := some (fileOf pool5 1 #[] #[] 1537 3 #[] #[])
  fields := #[]
  methods := #[]
  instanceTypes := #[]
  staticTypes := #[]
  resolved := Array.replicate 11 none
  statics := none }

def pool6 : Array CpInfo := pool [(1, .class_ 2), (0, u "java/lang/constant/ConstantDesc"), (0, .class_ 4), (0, u "java/lang/Object")] 32

/-- java/lang/constant/ConstantDesc -/
def k6 : Class := { plain "java/lang/constant/ConstantDesc" (some 0) with
  accessFlags := 1537
  interfaces := #[]
  cf := some (fileOf pool6 1 #[] #[] 1537 3 #[] #[])
  fields := #[]
  methods := #[]
  instanceTypes := #[]
  staticTypes := #[]
  resolved := Array.replicate 37 none
  statics := none }

def pool7 : Array CpInfo := pool [(1, .methodref 2 3), (0, .class_ 4), (0, .nameAndType 5 6), (0, u "java/lang/Object"), (0, u "<init>"), (0, u "()V"), (2, .fieldref 10 11), (0, .class_ 12), (0, .nameAndType 13 14), (0, u "java/lang/String"), (0, u "value"), (0, u "[B"), (0, .fieldref 10 16), (0, .nameAndType 17 18), (0, u "coder"), (0, u "B"), (2, u "hash"), (0, u "I"), (2, u "hashIsZero"), (0, u "Z"), (0, .methodref 10 28), (0, .nameAndType 5 29), (0, u "([CIILjava/lang/Void;)V"), (8, .fieldref 10 39), (0, .nameAndType 40 26), (0, u "COMPACT_STRINGS"), (1, .class_ 44), (1, u "java/lang/StringUTF16"), (0, u "compress"), (1, .methodref 42 48), (0, .nameAndType 49 50), (0, u "coderFromArrayLen"), (0, u "([BI)B"), (56, .class_ 109), (1, u "java/lang/StringLatin1"), (32, u "()Z"), (34, .methodref 42 178), (0, .nameAndType 45 179), (0, u "([CII)[B"), (154, u "()I"), (0, .methodref 10 336), (0, .nameAndType 17 337), (0, u "()B"), (154, .methodref 10 493), (0, .nameAndType 494 142), (0, u "isLatin1"), (10, .methodref 10 506), (0, .nameAndType 507 334), (0, u "length"), (67, .class_ 576), (0, u "java/lang/CharSequence"), (22, u "CASE_INSENSITIVE_ORDER"), (0, u "Ljava/util/Comparator;"), (32, .methodref 10 634), (0, .nameAndType 635 636), (0, u "indexOf"), (0, u "(II)I"), (0, .methodref 107 638), (0, .nameAndType 635 639), (0, u "([BIII)I"), (125, u "(I)I"), (244, u "([C)V"), (90, u "serialPersistentFields"), (0, u "[Ljava/io/ObjectStreamField;"), (0, .class_ 1104), (0, u "java/lang/String$CaseInsensitiveComparator"), (1, .class_ 1107), (0, u "java/io/Serializable"), (0, .class_ 1109), (0, u "java/lang/Comparable"), (0, .class_ 1111), (0, u "java/lang/constant/Constable"), (0, .class_ 1113), (0, u "java/lang/constant/ConstantDesc"), (2, u "serialVersionUID"), (0, u "J"), (3, u "REPL"), (0, u "C"), (2, u "LATIN1"), (1, u "UTF16")] 323

def k7m0 : Method := { name := "<init>", desc := "()V", sig := { parameters := [], returnType := none }, accessFlags := 1, code := none }
def k7c1 : Code := { maxStack := 5, maxLocals := 2, code := jdk_42_method_3_code, exceptionTable := #[], attributes := #[] }
def k7m1 : Method := { name := "<init>", desc := "([C)V", sig := { parameters := [(.array .char)], returnType := none }, accessFlags := 1, code := some k7c1 }
def k7c2 : Code := { maxStack := 2, maxLocals := 1, code := jdk_42_method_54_code, exceptionTable := #[], attributes := #[] }
def k7m2 : Method := { name := "length", desc := "()I", sig := { parameters := [], returnType := some .int }, accessFlags := 1, code := some k7c2 }
def k7c3 : Code := { maxStack := 3, maxLocals := 2, code := jdk_42_method_79_code, exceptionTable := #[], attributes := #[] }
def k7m3 : Method := { name := "indexOf", desc := "(I)I", sig := { parameters := [.int], returnType := some .int }, accessFlags := 1, code := some k7c3 }
def k7c4 : Code := { maxStack := 4, maxLocals := 3, code := jdk_42_method_80_code, exceptionTable := #[], attributes := #[] }
def k7m4 : Method := { name := "indexOf", desc := "(II)I", sig := { parameters := [.int, .int], returnType := some .int }, accessFlags := 1, code := some k7c4 }
def k7c5 : Code := { maxStack := 4, maxLocals := 6, code := jdk_42_method_149_code, exceptionTable := #[], attributes := #[] }
def k7m5 : Method := { name := "<init>", desc := "([CIILjava/lang/Void;)V", sig := { parameters := [(.array .char), .int, .int, (.object "java/lang/Void")], returnType := none }, accessFlags := 2, code := some k7c5 }
def k7c6 : Code := { maxStack := 1, maxLocals := 1, code := jdk_42_method_152_code, exceptionTable := #[], attributes := #[] }
def k7m6 : Method := { name := "coder", desc := "()B", sig := { parameters := [], returnType := some .byte }, accessFlags := 0, code := some k7c6 }
def k7c7 : Code := { maxStack := 1, maxLocals := 1, code := jdk_42_method_154_code, exceptionTable := #[], attributes := #[] }
def k7m7 : Method := { name := "isLatin1", desc := "()Z", sig := { parameters := [], returnType := some .boolean }, accessFlags := 0, code := some k7c7 }
/-- java/lang/String -/
def k7 : Class := { plain "java/lang/String" (some 0) with
  accessFlags := 49
  interfaces := #[2, 3, 4, 5, 6]
  cf := some (fileOf pool7 10 #[.nestMembers #[1103]] #[{ accessFlags := 1, nameIndex := 5, descriptorIndex := 6, attributes := #[] }, { accessFlags := 1, nameIndex := 5, descriptorIndex := 1010, attributes := #[] }, { accessFlags := 1, nameIndex := 507, descriptorIndex := 334, attributes := #[] }, { accessFlags := 1, nameIndex := 635, descriptorIndex := 765, attributes := #[] }, { accessFlags := 1, nameIndex := 635, descriptorIndex := 636, attributes := #[] }, { accessFlags := 2, nameIndex := 5, descriptorIndex := 29, attributes := #[] }, { accessFlags := 0, nameIndex := 17, descriptorIndex := 337, attributes := #[] }, { accessFlags := 0, nameIndex := 494, descriptorIndex := 142, attributes := #[] }] 49 2 #[1106, 1108, 575, 1110, 1112] #[{ accessFlags := 18, nameIndex := 13, descriptorIndex := 14, attributes := #[] }, { accessFlags := 18, nameIndex := 17, descriptorIndex := 18, attributes := #[] }, { accessFlags := 2, nameIndex := 21, descriptorIndex := 22, attributes := #[] }, { accessFlags := 2, nameIndex := 25, descriptorIndex := 26, attributes := #[] }, { accessFlags := 26, nameIndex := 1116, descriptorIndex := 1117, attributes := #[] }, { accessFlags := 24, nameIndex := 40, descriptorIndex := 26, attributes := #[] }, { accessFlags := 26, nameIndex := 1101, descriptorIndex := 1102, attributes := #[] }, { accessFlags := 26, nameIndex := 1121, descriptorIndex := 1122, attributes := #[] }, { accessFlags := 25, nameIndex := 599, descriptorIndex := 600, attributes := #[] }, { accessFlags := 24, nameIndex := 1125, descriptorIndex := 18, attributes := #[] }, { accessFlags := 24, nameIndex := 1127, descriptorIndex := 18, attributes := #[] }])
  fields := #[{ name := "value", type := (.array .byte), accessFlags := 18, slot := 0, constantValue := 0 }, { name := "coder", type := .byte, accessFlags := 18, slot := 1, constantValue := 0 }, { name := "hash", type := .int, accessFlags := 2, slot := 2, constantValue := 0 }, { name := "hashIsZero", type := .boolean, accessFlags := 2, slot := 3, constantValue := 0 }, { name := "serialVersionUID", type := .long, accessFlags := 26, slot := 0, constantValue := 0 }, { name := "COMPACT_STRINGS", type := .boolean, accessFlags := 24, slot := 1, constantValue := 0 }, { name := "serialPersistentFields", type := (.array (.object "java/io/ObjectStreamField")), accessFlags := 26, slot := 2, constantValue := 0 }, { name := "REPL", type := .char, accessFlags := 26, slot := 3, constantValue := 0 }, { name := "CASE_INSENSITIVE_ORDER", type := (.object "java/util/Comparator"), accessFlags := 25, slot := 4, constantValue := 0 }, { name := "LATIN1", type := .byte, accessFlags := 24, slot := 5, constantValue := 0 }, { name := "UTF16", type := .byte, accessFlags := 24, slot := 6, constantValue := 0 }]
  methods := #[k7m0, k7m1, k7m2, k7m3, k7m4, k7m5, k7m6, k7m7]
  instanceTypes := #[(.array .byte), .byte, .int, .boolean]
  staticTypes := #[.long, .boolean, (.array (.object "java/io/ObjectStreamField")), .char, (.object "java/util/Comparator"), .byte, .byte]
  resolved := Array.replicate 1451 none
  statics := some 0 }

def pool8 : Array CpInfo := pool [(6, .class_ 8), (1, u "java/lang/Object"), (0, u "<init>"), (0, u "()V"), (1, .class_ 14), (1, u "java/lang/StringUTF16"), (31, u "$assertionsDisabled"), (0, u "Z"), (13, u "HI_BYTE_SHIFT"), (0, u "I"), (2, u "LO_BYTE_SHIFT"), (49, .methodref 12 116), (0, .nameAndType 117 118), (0, u "compress"), (0, u "([CI[BII)I"), (3, u "([CII)[B"), (138, u "coderFromArrayLen"), (0, u "([BI)B"), (106, .class_ 371), (1, u "java/lang/StringUTF16$LinesSpliterator"), (58, u "MAX_LENGTH"), (196, .class_ 628), (0, u "java/lang/StringUTF16$CodePointsSpliterator"), (0, .class_ 630), (0, u "java/lang/StringUTF16$CharsSpliterator")] 4

def k8m0 : Method := { name := "<init>", desc := "()V", sig := { parameters := [], returnType := none }, accessFlags := 0, code := none }
def k8c1 : Code := { maxStack := 2, maxLocals := 2, code := jdk_52_method_15_code, exceptionTable := #[], attributes := #[] }
def k8m1 : Method := { name := "coderFromArrayLen", desc := "([BI)B", sig := { parameters := [(.array .byte), .int], returnType := some .byte }, accessFlags := 8, code := some k8c1 }
def k8c2 : Code := { maxStack := 5, maxLocals := 6, code := jdk_52_method_16_code, exceptionTable := #[], attributes := #[] }
def k8m2 : Method := { name := "compress", desc := "([CII)[B", sig := { parameters := [(.array .char), .int, .int], returnType := some (.array .byte) }, accessFlags := 9, code := some k8c2 }
def k8c3 : Code := { maxStack := 3, maxLocals := 7, code := jdk_52_method_21_code, exceptionTable := #[], attributes := #[] }
def k8m3 : Method := { name := "compress", desc := "([CI[BII)I", sig := { parameters := [(.array .char), .int, (.array .byte), .int, .int], returnType := some .int }, accessFlags := 9, code := some k8c3 }
/-- java/lang/StringUTF16 -/
def k8 : Class := { plain "java/lang/StringUTF16" (some 0) with
  accessFlags := 48
  interfaces := #[]
  cf := some (fileOf pool8 12 #[.nestMembers #[627, 629, 369]] #[{ accessFlags := 0, nameIndex := 9, descriptorIndex := 10, attributes := #[] }, { accessFlags := 8, nameIndex := 261, descriptorIndex := 262, attributes := #[] }, { accessFlags := 9, nameIndex := 117, descriptorIndex := 122, attributes := #[] }, { accessFlags := 9, nameIndex := 117, descriptorIndex := 118, attributes := #[] }] 48 6 #[] #[{ accessFlags := 26, nameIndex := 61, descriptorIndex := 62, attributes := #[] }, { accessFlags := 26, nameIndex := 65, descriptorIndex := 62, attributes := #[] }, { accessFlags := 24, nameIndex := 430, descriptorIndex := 62, attributes := #[] }, { accessFlags := 4120, nameIndex := 46, descriptorIndex := 47, attributes := #[] }])
  fields := #[{ name := "HI_BYTE_SHIFT", type := .int, accessFlags := 26, slot := 0, constantValue := 0 }, { name := "LO_BYTE_SHIFT", type := .int, accessFlags := 26, slot := 1, constantValue := 0 }, { name := "MAX_LENGTH", type := .int, accessFlags := 24, slot := 2, constantValue := 0 }, { name := "$assertionsDisabled", type := .boolean, accessFlags := 4120, slot := 3, constantValue := 0 }]
  methods := #[k8m0, k8m1, k8m2, k8m3]
  instanceTypes := #[]
  staticTypes := #[.int, .int, .int, .boolean]
  resolved := Array.replicate 635 none
  statics := none }

def pool9 : Array CpInfo := pool [(2, .class_ 4), (1, u "java/lang/Object"), (0, u "<init>"), (0, u "()V"), (1, .class_ 10), (1, u "com/example/zonewarden/zonewarden/registry/IpAddresses"), (0, u "IPV4"), (0, u "Ljava/util/regex/Pattern;"), (30, .methodref 44 45), (0, .class_ 46), (0, .nameAndType 47 48), (0, u "java/lang/String"), (0, u "indexOf"), (0, u "(I)I"), (44, u "GROUP"), (46, u "OCTET"), (0, u "Ljava/lang/String;"), (3, u "GROUPS"), (0, u "I"), (1, u "BITS_A_BYTE"), (6, u "isIpv6"), (0, u "(Ljava/lang/String;)Z")] 29

def k9m0 : Method := { name := "<init>", desc := "()V", sig := { parameters := [], returnType := none }, accessFlags := 2, code := none }
def k9c1 : Code := { maxStack := 2, maxLocals := 1, code := prog_62_method_3_code, exceptionTable := #[], attributes := #[] }
def k9m1 : Method := { name := "isIpv6", desc := "(Ljava/lang/String;)Z", sig := { parameters := [(.object "java/lang/String")], returnType := some .boolean }, accessFlags := 9, code := some k9c1 }
/-- com/example/zonewarden/zonewarden/registry/IpAddresses -/
def k9 : Class := { plain "com/example/zonewarden/zonewarden/registry/IpAddresses" (some 0) with
  accessFlags := 49
  interfaces := #[]
  cf := some (fileOf pool9 8 #[] #[{ accessFlags := 2, nameIndex := 5, descriptorIndex := 6, attributes := #[] }, { accessFlags := 9, nameIndex := 155, descriptorIndex := 156, attributes := #[] }] 49 2 #[] #[{ accessFlags := 26, nameIndex := 140, descriptorIndex := 141, attributes := #[] }, { accessFlags := 26, nameIndex := 11, descriptorIndex := 12, attributes := #[] }, { accessFlags := 26, nameIndex := 93, descriptorIndex := 12, attributes := #[] }, { accessFlags := 26, nameIndex := 145, descriptorIndex := 146, attributes := #[] }, { accessFlags := 26, nameIndex := 148, descriptorIndex := 146, attributes := #[] }])
  fields := #[{ name := "OCTET", type := (.object "java/lang/String"), accessFlags := 26, slot := 0, constantValue := 0 }, { name := "IPV4", type := (.object "java/util/regex/Pattern"), accessFlags := 26, slot := 1, constantValue := 0 }, { name := "GROUP", type := (.object "java/util/regex/Pattern"), accessFlags := 26, slot := 2, constantValue := 0 }, { name := "GROUPS", type := .int, accessFlags := 26, slot := 3, constantValue := 0 }, { name := "BITS_A_BYTE", type := .int, accessFlags := 26, slot := 4, constantValue := 0 }]
  methods := #[k9m0, k9m1]
  instanceTypes := #[]
  staticTypes := #[(.object "java/lang/String"), (.object "java/util/regex/Pattern"), (.object "java/util/regex/Pattern"), .int, .int]
  resolved := Array.replicate 186 none
  statics := none }

def pool10 : Array CpInfo := pool [(4, .class_ 6), (1, u "java/lang/Object"), (0, u "<init>"), (0, u "()V"), (5, .class_ 16), (1, u "java/lang/StringLatin1"), (21, .methodref 39 40), (0, .class_ 41), (0, .nameAndType 42 43), (0, u "java/lang/Math"), (0, u "min"), (0, u "(II)I"), (44, .methodref 14 89), (0, .nameAndType 90 91), (0, u "canEncode"), (0, u "(I)Z"), (0, .methodref 39 93), (0, .nameAndType 94 43), (0, u "max"), (0, .methodref 14 96), (0, .nameAndType 97 98), (0, u "indexOfChar"), (0, u "([BIII)I"), (2, u "indexOf"), (19, u "$assertionsDisabled"), (0, u "Z"), (98, .class_ 223), (1, u "java/lang/StringLatin1$LinesSpliterator"), (166, .class_ 391), (0, u "java/lang/StringLatin1$CharsSpliterator")] 3

def k10m0 : Method := { name := "<init>", desc := "()V", sig := { parameters := [], returnType := none }, accessFlags := 0, code := none }
def k10c1 : Code := { maxStack := 2, maxLocals := 1, code := jdk_43_method_4_code, exceptionTable := #[], attributes := #[] }
def k10m1 : Method := { name := "canEncode", desc := "(I)Z", sig := { parameters := [.int], returnType := some .boolean }, accessFlags := 9, code := some k10c1 }
def k10c2 : Code := { maxStack := 4, maxLocals := 4, code := jdk_43_method_22_code, exceptionTable := #[], attributes := #[] }
def k10m2 : Method := { name := "indexOf", desc := "([BIII)I", sig := { parameters := [(.array .byte), .int, .int, .int], returnType := some .int }, accessFlags := 9, code := some k10c2 }
def k10c3 : Code := { maxStack := 2, maxLocals := 6, code := jdk_43_method_23_code, exceptionTable := #[], attributes := #[] }
def k10m3 : Method := { name := "indexOfChar", desc := "([BIII)I", sig := { parameters := [(.array .byte), .int, .int, .int], returnType := some .int }, accessFlags := 10, code := some k10c3 }
/-- java/lang/StringLatin1 -/
def k10 : Class := { plain "java/lang/StringLatin1" (some 0) with
  accessFlags := 48
  interfaces := #[]
  cf := some (fileOf pool10 14 #[.nestMembers #[390, 221]] #[{ accessFlags := 0, nameIndex := 7, descriptorIndex := 8, attributes := #[] }, { accessFlags := 9, nameIndex := 90, descriptorIndex := 91, attributes := #[] }, { accessFlags := 9, nameIndex := 101, descriptorIndex := 98, attributes := #[] }, { accessFlags := 10, nameIndex := 97, descriptorIndex := 98, attributes := #[] }] 48 4 #[] #[{ accessFlags := 4120, nameIndex := 121, descriptorIndex := 122, attributes := #[] }])
  fields := #[{ name := "$assertionsDisabled", type := .boolean, accessFlags := 4120, slot := 0, constantValue := 0 }]
  methods := #[k10m0, k10m1, k10m2, k10m3]
  instanceTypes := #[]
  staticTypes := #[.boolean]
  resolved := Array.replicate 395 none
  statics := none }

def pool11 : Array CpInfo := pool [(1, .class_ 2), (0, u "java/lang/Math"), (1, .class_ 6), (1, u "java/lang/Object"), (0, u "<init>"), (0, u "()V"), (89, .class_ 100), (1, u "java/lang/Math$RandomNumberGeneratorHolder"), (71, u "negativeZeroFloatBits"), (0, u "J"), (2, u "negativeZeroDoubleBits"), (21, u "max"), (2, u "min"), (43, u "$assertionsDisabled"), (0, u "Z"), (88, u "(II)I"), (2, u "twoToTheDoubleScaleDown"), (0, u "D"), (4, u "twoToTheDoubleScaleUp"), (9, u "E"), (3, u "PI"), (2, u "TAU"), (2, u "DEGREES_TO_RADIANS"), (0, u "RADIANS_TO_DEGREES")] 94

def k11m0 : Method := { name := "<init>", desc := "()V", sig := { parameters := [], returnType := none }, accessFlags := 2, code := none }
def k11c1 : Code := { maxStack := 2, maxLocals := 2, code := jdk_29_method_65_code, exceptionTable := #[], attributes := #[] }
def k11m1 : Method := { name := "max", desc := "(II)I", sig := { parameters := [.int, .int], returnType := some .int }, accessFlags := 9, code := some k11c1 }
def k11c2 : Code := { maxStack := 2, maxLocals := 2, code := jdk_29_method_69_code, exceptionTable := #[], attributes := #[] }
def k11m2 : Method := { name := "min", desc := "(II)I", sig := { parameters := [.int, .int], returnType := some .int }, accessFlags := 9, code := some k11c2 }
/-- java/lang/Math -/
def k11 : Class := { plain "java/lang/Math" (some 0) with
  accessFlags := 49
  interfaces := #[]
  cf := some (fileOf pool11 1 #[.nestMembers #[98]] #[{ accessFlags := 2, nameIndex := 7, descriptorIndex := 8, attributes := #[] }, { accessFlags := 9, nameIndex := 198, descriptorIndex := 335, attributes := #[] }, { accessFlags := 9, nameIndex := 201, descriptorIndex := 335, attributes := #[] }] 49 4 #[] #[{ accessFlags := 25, nameIndex := 354, descriptorIndex := 339, attributes := #[] }, { accessFlags := 25, nameIndex := 358, descriptorIndex := 339, attributes := #[] }, { accessFlags := 25, nameIndex := 361, descriptorIndex := 339, attributes := #[] }, { accessFlags := 26, nameIndex := 364, descriptorIndex := 339, attributes := #[] }, { accessFlags := 26, nameIndex := 365, descriptorIndex := 339, attributes := #[] }, { accessFlags := 26, nameIndex := 172, descriptorIndex := 173, attributes := #[] }, { accessFlags := 26, nameIndex := 176, descriptorIndex := 173, attributes := #[] }, { accessFlags := 8, nameIndex := 344, descriptorIndex := 339, attributes := #[] }, { accessFlags := 8, nameIndex := 338, descriptorIndex := 339, attributes := #[] }, { accessFlags := 4120, nameIndex := 245, descriptorIndex := 246, attributes := #[] }])
  fields := #[{ name := "E", type := .double, accessFlags := 25, slot := 0, constantValue := 0 }, { name := "PI", type := .double, accessFlags := 25, slot := 1, constantValue := 0 }, { name := "TAU", type := .double, accessFlags := 25, slot := 2, constantValue := 0 }, { name := "DEGREES_TO_RADIANS", type := .double, accessFlags := 26, slot := 3, constantValue := 0 }, { name := "RADIANS_TO_DEGREES", type := .double, accessFlags := 26, slot := 4, constantValue := 0 }, { name := "negativeZeroFloatBits", type := .long, accessFlags := 26, slot := 5, constantValue := 0 }, { name := "negativeZeroDoubleBits", type := .long, accessFlags := 26, slot := 6, constantValue := 0 }, { name := "twoToTheDoubleScaleUp", type := .double, accessFlags := 8, slot := 7, constantValue := 0 }, { name := "twoToTheDoubleScaleDown", type := .double, accessFlags := 8, slot := 8, constantValue := 0 }, { name := "$assertionsDisabled", type := .boolean, accessFlags := 4120, slot := 9, constantValue := 0 }]
  methods := #[k11m0, k11m1, k11m2]
  instanceTypes := #[]
  staticTypes := #[.double, .double, .double, .double, .double, .long, .long, .double, .double, .boolean]
  resolved := Array.replicate 460 none
  statics := none }

def pool12 : Array CpInfo := pool [(2, .class_ 4), (1, u "java/lang/Object"), (0, u "<init>"), (0, u "()V"), (17, .class_ 26), (1, u "jdk/internal/util/Preconditions"), (28, .class_ 56), (0, u "jdk/internal/util/Preconditions$4"), (57, .class_ 115), (0, u "jdk/internal/util/Preconditions$1"), (7, u "SIOOBE_FORMATTER"), (0, u "Ljava/util/function/BiFunction;"), (0, .class_ 126), (0, u "jdk/internal/util/Preconditions$2"), (3, u "AIOOBE_FORMATTER"), (0, .class_ 132), (0, u "jdk/internal/util/Preconditions$3"), (3, u "IOOBE_FORMATTER")] 57

def k12m0 : Method := { name := "<init>", desc := "()V", sig := { parameters := [], returnType := none }, accessFlags := 1, code := none }
/-- jdk/internal/util/Preconditions -/
def k12 : Class := { plain "jdk/internal/util/Preconditions" (some 0) with
  accessFlags := 33
  interfaces := #[]
  cf := some (fileOf pool12 24 #[.nestMembers #[55, 131, 125, 114]] #[{ accessFlags := 1, nameIndex := 5, descriptorIndex := 6, attributes := #[] }] 33 2 #[] #[{ accessFlags := 25, nameIndex := 123, descriptorIndex := 124, attributes := #[] }, { accessFlags := 25, nameIndex := 130, descriptorIndex := 124, attributes := #[] }, { accessFlags := 25, nameIndex := 136, descriptorIndex := 124, attributes := #[] }])
  fields := #[{ name := "SIOOBE_FORMATTER", type := (.object "java/util/function/BiFunction"), accessFlags := 25, slot := 0, constantValue := 0 }, { name := "AIOOBE_FORMATTER", type := (.object "java/util/function/BiFunction"), accessFlags := 25, slot := 1, constantValue := 0 }, { name := "IOOBE_FORMATTER", type := (.object "java/util/function/BiFunction"), accessFlags := 25, slot := 2, constantValue := 0 }]
  methods := #[k12m0]
  instanceTypes := #[]
  staticTypes := #[(.object "java/util/function/BiFunction"), (.object "java/util/function/BiFunction"), (.object "java/util/function/BiFunction")]
  resolved := Array.replicate 194 none
  statics := some 1 }

def pool13 : Array CpInfo := pool [(9, u "<init>"), (6, .class_ 18), (1, u "java/lang/Object"), (0, u "()V"), (1, .class_ 23), (1, u "jdk/internal/util/ArraysSupport"), (0, u "LOG2_ARRAY_LONG_INDEX_SCALE"), (0, u "I"), (2, u "U"), (0, u "Ljdk/internal/misc/Unsafe;"), (8, u "BIG_ENDIAN"), (0, u "Z"), (8, u "LOG2_BYTE_BIT_SIZE"), (4, u "LOG2_ARRAY_INT_INDEX_SCALE"), (54, u "JLA"), (0, u "Ljdk/internal/access/JavaLangAccess;"), (11, u "LOG2_ARRAY_BOOLEAN_INDEX_SCALE"), (9, u "LOG2_ARRAY_BYTE_INDEX_SCALE"), (5, u "LOG2_ARRAY_CHAR_INDEX_SCALE"), (5, u "LOG2_ARRAY_SHORT_INDEX_SCALE"), (18, u "LOG2_ARRAY_FLOAT_INDEX_SCALE"), (24, u "LOG2_ARRAY_DOUBLE_INDEX_SCALE"), (89, u "T_BOOLEAN"), (2, u "T_CHAR"), (1, u "T_FLOAT"), (1, u "T_DOUBLE"), (1, u "T_BYTE"), (1, u "T_SHORT"), (1, u "T_INT"), (1, u "T_LONG"), (1, u "SOFT_MAX_ARRAY_LENGTH")] 83

def k13m0 : Method := { name := "<init>", desc := "()V", sig := { parameters := [], returnType := none }, accessFlags := 2, code := none }
/-- jdk/internal/util/ArraysSupport -/
def k13 : Class := { plain "jdk/internal/util/ArraysSupport" (some 0) with
  accessFlags := 33
  interfaces := #[]
  cf := some (fileOf pool13 21 #[] #[{ accessFlags := 2, nameIndex := 9, descriptorIndex := 19, attributes := #[] }] 33 16 #[] #[{ accessFlags := 24, nameIndex := 28, descriptorIndex := 29, attributes := #[] }, { accessFlags := 26, nameIndex := 38, descriptorIndex := 39, attributes := #[] }, { accessFlags := 25, nameIndex := 121, descriptorIndex := 25, attributes := #[] }, { accessFlags := 25, nameIndex := 131, descriptorIndex := 25, attributes := #[] }, { accessFlags := 25, nameIndex := 137, descriptorIndex := 25, attributes := #[] }, { accessFlags := 25, nameIndex := 143, descriptorIndex := 25, attributes := #[] }, { accessFlags := 25, nameIndex := 53, descriptorIndex := 25, attributes := #[] }, { accessFlags := 25, nameIndex := 24, descriptorIndex := 25, attributes := #[] }, { accessFlags := 25, nameIndex := 162, descriptorIndex := 25, attributes := #[] }, { accessFlags := 25, nameIndex := 187, descriptorIndex := 25, attributes := #[] }, { accessFlags := 26, nameIndex := 48, descriptorIndex := 25, attributes := #[] }, { accessFlags := 25, nameIndex := 277, descriptorIndex := 25, attributes := #[] }, { accessFlags := 25, nameIndex := 280, descriptorIndex := 25, attributes := #[] }, { accessFlags := 25, nameIndex := 282, descriptorIndex := 25, attributes := #[] }, { accessFlags := 25, nameIndex := 284, descriptorIndex := 25, attributes := #[] }, { accessFlags := 25, nameIndex := 286, descriptorIndex := 25, attributes := #[] }, { accessFlags := 25, nameIndex := 288, descriptorIndex := 25, attributes := #[] }, { accessFlags := 25, nameIndex := 290, descriptorIndex := 25, attributes := #[] }, { accessFlags := 25, nameIndex := 292, descriptorIndex := 25, attributes := #[] }, { accessFlags := 26, nameIndex := 108, descriptorIndex := 109, attributes := #[] }, { accessFlags := 25, nameIndex := 294, descriptorIndex := 25, attributes := #[] }])
  fields := #[{ name := "U", type := (.object "jdk/internal/misc/Unsafe"), accessFlags := 24, slot := 0, constantValue := 0 }, { name := "BIG_ENDIAN", type := .boolean, accessFlags := 26, slot := 1, constantValue := 0 }, { name := "LOG2_ARRAY_BOOLEAN_INDEX_SCALE", type := .int, accessFlags := 25, slot := 2, constantValue := 0 }, { name := "LOG2_ARRAY_BYTE_INDEX_SCALE", type := .int, accessFlags := 25, slot := 3, constantValue := 0 }, { name := "LOG2_ARRAY_CHAR_INDEX_SCALE", type := .int, accessFlags := 25, slot := 4, constantValue := 0 }, { name := "LOG2_ARRAY_SHORT_INDEX_SCALE", type := .int, accessFlags := 25, slot := 5, constantValue := 0 }, { name := "LOG2_ARRAY_INT_INDEX_SCALE", type := .int, accessFlags := 25, slot := 6, constantValue := 0 }, { name := "LOG2_ARRAY_LONG_INDEX_SCALE", type := .int, accessFlags := 25, slot := 7, constantValue := 0 }, { name := "LOG2_ARRAY_FLOAT_INDEX_SCALE", type := .int, accessFlags := 25, slot := 8, constantValue := 0 }, { name := "LOG2_ARRAY_DOUBLE_INDEX_SCALE", type := .int, accessFlags := 25, slot := 9, constantValue := 0 }, { name := "LOG2_BYTE_BIT_SIZE", type := .int, accessFlags := 26, slot := 10, constantValue := 0 }, { name := "T_BOOLEAN", type := .int, accessFlags := 25, slot := 11, constantValue := 0 }, { name := "T_CHAR", type := .int, accessFlags := 25, slot := 12, constantValue := 0 }, { name := "T_FLOAT", type := .int, accessFlags := 25, slot := 13, constantValue := 0 }, { name := "T_DOUBLE", type := .int, accessFlags := 25, slot := 14, constantValue := 0 }, { name := "T_BYTE", type := .int, accessFlags := 25, slot := 15, constantValue := 0 }, { name := "T_SHORT", type := .int, accessFlags := 25, slot := 16, constantValue := 0 }, { name := "T_INT", type := .int, accessFlags := 25, slot := 17, constantValue := 0 }, { name := "T_LONG", type := .int, accessFlags := 25, slot := 18, constantValue := 0 }, { name := "JLA", type := (.object "jdk/internal/access/JavaLangAccess"), accessFlags := 26, slot := 19, constantValue := 0 }, { name := "SOFT_MAX_ARRAY_LENGTH", type := .int, accessFlags := 25, slot := 20, constantValue := 0 }]
  methods := #[k13m0]
  instanceTypes := #[]
  staticTypes := #[(.object "jdk/internal/misc/Unsafe"), .boolean, .int, .int, .int, .int, .int, .int, .int, .int, .int, .int, .int, .int, .int, .int, .int, .int, .int, (.object "jdk/internal/access/JavaLangAccess"), .int]
  resolved := Array.replicate 378 none
  statics := none }

def pool14 : Array CpInfo := pool [(1, u "java/lang/Cloneable"), (0, .class_ 1), (0, u "java/lang/Object"), (0, .class_ 3)] 3

/-- java/lang/Cloneable -/
def k14 : Class := { plain "java/lang/Cloneable" (some 0) with
  accessFlags := 1537
  interfaces := #[]
  cf := some (fileOf pool14 2 #[] #[] 1537 4 #[] #[])
  fields := #[]
  methods := #[]
  instanceTypes := #[]
  staticTypes := #[]
  resolved := Array.replicate 8 none
  statics := none }

/-- the primitive byte -/
def k15 : Class := { plain "byte" none with kind := .primitive 'B', accessFlags := 0x411 }
/-- [B -/
def k16 : Class := { plain "[B" (some 0) with kind := .array 15 .byte, interfaces := #[14, 2], accessFlags := 1041 }

/-- the primitive char -/
def k17 : Class := { plain "char" none with kind := .primitive 'C', accessFlags := 0x411 }
/-- [C -/
def k18 : Class := { plain "[C" (some 0) with kind := .array 17 .char, interfaces := #[14, 2], accessFlags := 1041 }

/-- the primitive int -/
def k19 : Class := { plain "int" none with kind := .primitive 'I', accessFlags := 0x411 }
/-- [I -/
def k20 : Class := { plain "[I" (some 0) with kind := .array 19 .int, interfaces := #[14, 2], accessFlags := 1041 }

def heap : Heap := #[{ cls := 7, slots := #[.long 0, .int 1, .null, .int 0, .null, .int 0, .int 0], vm := .statics 7 },
  { cls := 12, slots := #[.null, .null, .null], vm := .statics 12 }]
def classes : Array Class := #[k0, k1, k2, k3, k4, k5, k6, k7, k8, k9, k10, k11, k12, k13, k14, k15, k16, k17, k18, k19, k20]
def interned : List (Array UInt16 × Addr) := []
def slotsUsed : Nat := 10
def theMethod : MethodId := ⟨1, 6⟩
def args0 : Array Value := #[.int 5, .int 6, .int 7, .int 8, .int 9]
def aboutOver (below : List Frame) : State where
  vm := { classes := classes, interned := interned.toArray }
  heap := heap
  slotsUsed := slotsUsed
  threads := #[{ frames := .invoking theMethod args0 :: below }]
def below0 : List Frame := [.native { method := ⟨0, 0⟩, args := #[] }]
def about1 : State := aboutOver below0
def p0 : Program := .bare "" "" ""
def e0 : Env := launch0.env 0 0 0
theorem w_frames : about1.frames = Frame.invoking theMethod args0 :: below0 := rfl
set_option maxRecDepth 65536 in
theorem w_args : argsFit about1.vm theMethod args0 = true := by decide +kernel
set_option maxRecDepth 65536 in
theorem w_heap : heapFits about1 = true := by decide +kernel
set_option maxRecDepth 65536 in
theorem w_runnable : about1.curStatus? = some .runnable := by decide +kernel
set_option maxRecDepth 65536 in
theorem w_alone : about1.alone = true := by decide +kernel
set_option maxRecDepth 65536 in
theorem w_named : about1.methodNamed? x = some theMethod := by decide +kernel
set_option maxRecDepth 65536 in
theorem w_hears : about1.hears theMethod below0 = true := by decide +kernel
set_option maxRecDepth 65536 in
theorem w_ripe : about1.ripe theMethod args0 below0 = true := by decide +kernel
theorem w_running : about1.status = .running := rfl
set_option maxRecDepth 65536 in
theorem w_room : about1.hasRoom e0.platform room_1 = true :=
  launch0.hasRoom_least _ room_1 (by decide +kernel) (by decide +kernel) (by decide +kernel) (by decide +kernel) (by decide +kernel) (by decide +kernel)
theorem allAtoms_all (ts : List Jvm.Cond) (a : Array Jvm.Value) (st : Jvm.State) : (allAtoms ts).before a st = ts.all (fun c => c.before a st) := by
  induction ts with
  | nil => rfl
  | cons c t ih =>
    show (Jvm.Cond.and c (allAtoms t)).before a st = _
    rw [Jvm.Cond.before_and, ih, List.all_cons]
def words1 : List Jvm.Cond := Jvm.Cond.code x code maxLocals ret :: tables_1
/-- a 'code' word, met by the world's own term for the bytes: nothing is compared byte by byte -/
theorem code_word {y : MethodName} {bytes : ByteArray} {mx : Nat} {rt : Option FieldType} {a : Array Value} {s : State} {m : MethodId} {meth : Method} {c : Code} (h1 : s.methodNamed? y = some m) (h2 : s.vm.method? m = some meth) (h3 : meth.code = some c) (h4 : c.code = bytes)
    (h5 : (c.maxLocals == mx && c.exceptionTable.isEmpty && decide (c.maxStack ≤ mostOperands) && decide (meth.sig.returnType = rt) && !meth.locks && decide (parseMethodDescriptor y.desc = some meth.sig)) = true) : (Jvm.Cond.code y bytes mx rt).before a s = true := by
  simp only [Bool.and_eq_true, beq_iff_eq, Bool.not_eq_true', decide_eq_true_eq] at h5
  obtain ⟨⟨⟨⟨⟨g1, g2⟩, g3⟩, g4⟩, g5⟩, g6⟩ := h5
  simp [Cond.before, Cond.holds, Cond.value, h1, h2, h3, h4, g1, g2, g3, g4, g5, g6]
def isCode : Jvm.Cond → Bool
  | .code _ _ _ _ => true
  | _ => false
theorem all_split {L : List Jvm.Cond} {P : Jvm.Cond → Bool} (h1 : L.all (fun c => isCode c || P c) = true) (h2 : ∀ c ∈ L.filter isCode, P c = true) : L.all P = true := by
  refine List.all_eq_true.mpr fun c hc => ?_
  have h := List.all_eq_true.mp h1 c hc
  rcases Bool.eq_false_or_eq_true (isCode c) with hi | hi
  · exact h2 c (List.mem_filter.mpr ⟨hc, hi⟩)
  · simpa [hi] using h
set_option maxRecDepth 65536 in
theorem w_c0 : (Jvm.Cond.code x code maxLocals ret).before args0 about1 = true := code_word (m := ⟨1, 6⟩) (meth := k1m6) (c := k1c6) (by decide +kernel) rfl rfl rfl (by decide +kernel)
set_option maxRecDepth 65536 in
theorem w_c1 : (Jvm.Cond.code ({ cls := "com/example/zonewarden/zonewarden/registry/IpAddressesIsIpv6PinLaw", name := "nat", desc := "(II)I" } : Jvm.MethodName) method_2_code (2 : Nat) (Option.some Jvm.ClassFile.FieldType.int)).before args0 about1 = true := code_word (m := ⟨1, 1⟩) (meth := k1m1) (c := k1c1) (by decide +kernel) rfl rfl rfl (by decide +kernel)
set_option maxRecDepth 65536 in
theorem w_c2 : (Jvm.Cond.code ({ cls := "com/example/zonewarden/zonewarden/registry/IpAddressesIsIpv6PinLaw", name := "dec", desc := "(I)C" } : Jvm.MethodName) method_4_code (1 : Nat) (Option.some Jvm.ClassFile.FieldType.char)).before args0 about1 = true := code_word (m := ⟨1, 3⟩) (meth := k1m3) (c := k1c3) (by decide +kernel) rfl rfl rfl (by decide +kernel)
set_option maxRecDepth 65536 in
theorem w_c3 : (Jvm.Cond.code ({ cls := "java/lang/String", name := "<init>", desc := "([C)V" } : Jvm.MethodName) jdk_42_method_3_code (2 : Nat) (Option.none : Option Jvm.ClassFile.FieldType)).before args0 about1 = true := code_word (m := ⟨7, 1⟩) (meth := k7m1) (c := k7c1) (by decide +kernel) rfl rfl rfl (by decide +kernel)
set_option maxRecDepth 65536 in
theorem w_c4 : (Jvm.Cond.code ({ cls := "java/lang/String", name := "<init>", desc := "([CIILjava/lang/Void;)V" } : Jvm.MethodName) jdk_42_method_149_code (6 : Nat) (Option.none : Option Jvm.ClassFile.FieldType)).before args0 about1 = true := code_word (m := ⟨7, 5⟩) (meth := k7m5) (c := k7c5) (by decide +kernel) rfl rfl rfl (by decide +kernel)
set_option maxRecDepth 65536 in
theorem w_c5 : (Jvm.Cond.code ({ cls := "java/lang/Object", name := "<init>", desc := "()V" } : Jvm.MethodName) object_method_1_code (1 : Nat) (Option.none : Option Jvm.ClassFile.FieldType)).before args0 about1 = true := code_word (m := ⟨0, 0⟩) (meth := k0m0) (c := k0c0) (by decide +kernel) rfl rfl rfl (by decide +kernel)
set_option maxRecDepth 65536 in
theorem w_c6 : (Jvm.Cond.code ({ cls := "java/lang/StringUTF16", name := "compress", desc := "([CII)[B" } : Jvm.MethodName) jdk_52_method_16_code (6 : Nat) (Option.some (Jvm.ClassFile.FieldType.array Jvm.ClassFile.FieldType.byte))).before args0 about1 = true := code_word (m := ⟨8, 2⟩) (meth := k8m2) (c := k8c2) (by decide +kernel) rfl rfl rfl (by decide +kernel)
set_option maxRecDepth 65536 in
theorem w_c7 : (Jvm.Cond.code ({ cls := "java/lang/StringUTF16", name := "compress", desc := "([CI[BII)I" } : Jvm.MethodName) jdk_52_method_21_code (7 : Nat) (Option.some Jvm.ClassFile.FieldType.int)).before args0 about1 = true := code_word (m := ⟨8, 3⟩) (meth := k8m3) (c := k8c3) (by decide +kernel) rfl rfl rfl (by decide +kernel)
set_option maxRecDepth 65536 in
theorem w_c8 : (Jvm.Cond.code ({ cls := "java/lang/StringUTF16", name := "coderFromArrayLen", desc := "([BI)B" } : Jvm.MethodName) jdk_52_method_15_code (2 : Nat) (Option.some Jvm.ClassFile.FieldType.byte)).before args0 about1 = true := code_word (m := ⟨8, 1⟩) (meth := k8m1) (c := k8c1) (by decide +kernel) rfl rfl rfl (by decide +kernel)
set_option maxRecDepth 65536 in
theorem w_c9 : (Jvm.Cond.code ({ cls := "com/example/zonewarden/zonewarden/registry/IpAddresses", name := "isIpv6", desc := "(Ljava/lang/String;)Z" } : Jvm.MethodName) prog_62_method_3_code (1 : Nat) (Option.some Jvm.ClassFile.FieldType.boolean)).before args0 about1 = true := code_word (m := ⟨9, 1⟩) (meth := k9m1) (c := k9c1) (by decide +kernel) rfl rfl rfl (by decide +kernel)
set_option maxRecDepth 65536 in
theorem w_c10 : (Jvm.Cond.code ({ cls := "java/lang/String", name := "indexOf", desc := "(I)I" } : Jvm.MethodName) jdk_42_method_79_code (2 : Nat) (Option.some Jvm.ClassFile.FieldType.int)).before args0 about1 = true := code_word (m := ⟨7, 3⟩) (meth := k7m3) (c := k7c3) (by decide +kernel) rfl rfl rfl (by decide +kernel)
set_option maxRecDepth 65536 in
theorem w_c11 : (Jvm.Cond.code ({ cls := "java/lang/String", name := "indexOf", desc := "(II)I" } : Jvm.MethodName) jdk_42_method_80_code (3 : Nat) (Option.some Jvm.ClassFile.FieldType.int)).before args0 about1 = true := code_word (m := ⟨7, 4⟩) (meth := k7m4) (c := k7c4) (by decide +kernel) rfl rfl rfl (by decide +kernel)
set_option maxRecDepth 65536 in
theorem w_c12 : (Jvm.Cond.code ({ cls := "java/lang/String", name := "isLatin1", desc := "()Z" } : Jvm.MethodName) jdk_42_method_154_code (1 : Nat) (Option.some Jvm.ClassFile.FieldType.boolean)).before args0 about1 = true := code_word (m := ⟨7, 7⟩) (meth := k7m7) (c := k7c7) (by decide +kernel) rfl rfl rfl (by decide +kernel)
set_option maxRecDepth 65536 in
theorem w_c13 : (Jvm.Cond.code ({ cls := "java/lang/String", name := "length", desc := "()I" } : Jvm.MethodName) jdk_42_method_54_code (1 : Nat) (Option.some Jvm.ClassFile.FieldType.int)).before args0 about1 = true := code_word (m := ⟨7, 2⟩) (meth := k7m2) (c := k7c2) (by decide +kernel) rfl rfl rfl (by decide +kernel)
set_option maxRecDepth 65536 in
theorem w_c14 : (Jvm.Cond.code ({ cls := "java/lang/String", name := "coder", desc := "()B" } : Jvm.MethodName) jdk_42_method_152_code (1 : Nat) (Option.some Jvm.ClassFile.FieldType.byte)).before args0 about1 = true := code_word (m := ⟨7, 6⟩) (meth := k7m6) (c := k7c6) (by decide +kernel) rfl rfl rfl (by decide +kernel)
set_option maxRecDepth 65536 in
theorem w_c15 : (Jvm.Cond.code ({ cls := "java/lang/StringLatin1", name := "indexOf", desc := "([BIII)I" } : Jvm.MethodName) jdk_43_method_22_code (4 : Nat) (Option.some Jvm.ClassFile.FieldType.int)).before args0 about1 = true := code_word (m := ⟨10, 2⟩) (meth := k10m2) (c := k10c2) (by decide +kernel) rfl rfl rfl (by decide +kernel)
set_option maxRecDepth 65536 in
theorem w_c16 : (Jvm.Cond.code ({ cls := "java/lang/StringLatin1", name := "canEncode", desc := "(I)Z" } : Jvm.MethodName) jdk_43_method_4_code (1 : Nat) (Option.some Jvm.ClassFile.FieldType.boolean)).before args0 about1 = true := code_word (m := ⟨10, 1⟩) (meth := k10m1) (c := k10c1) (by decide +kernel) rfl rfl rfl (by decide +kernel)
set_option maxRecDepth 65536 in
theorem w_c17 : (Jvm.Cond.code ({ cls := "java/lang/Math", name := "max", desc := "(II)I" } : Jvm.MethodName) jdk_29_method_65_code (2 : Nat) (Option.some Jvm.ClassFile.FieldType.int)).before args0 about1 = true := code_word (m := ⟨11, 1⟩) (meth := k11m1) (c := k11c1) (by decide +kernel) rfl rfl rfl (by decide +kernel)
set_option maxRecDepth 65536 in
theorem w_c18 : (Jvm.Cond.code ({ cls := "java/lang/Math", name := "min", desc := "(II)I" } : Jvm.MethodName) jdk_29_method_69_code (2 : Nat) (Option.some Jvm.ClassFile.FieldType.int)).before args0 about1 = true := code_word (m := ⟨11, 2⟩) (meth := k11m2) (c := k11c2) (by decide +kernel) rfl rfl rfl (by decide +kernel)
set_option maxRecDepth 65536 in
theorem w_c19 : (Jvm.Cond.code ({ cls := "java/lang/StringLatin1", name := "indexOfChar", desc := "([BIII)I" } : Jvm.MethodName) jdk_43_method_23_code (6 : Nat) (Option.some Jvm.ClassFile.FieldType.int)).before args0 about1 = true := code_word (m := ⟨10, 3⟩) (meth := k10m3) (c := k10c3) (by decide +kernel) rfl rfl rfl (by decide +kernel)
set_option maxRecDepth 65536 in
theorem w_c20 : (Jvm.Cond.code ({ cls := "com/example/zonewarden/zonewarden/registry/IpAddressesIsIpv6PinLaw", name := "hexNz", desc := "(I)C" } : Jvm.MethodName) method_5_code (1 : Nat) (Option.some Jvm.ClassFile.FieldType.char)).before args0 about1 = true := code_word (m := ⟨1, 4⟩) (meth := k1m4) (c := k1c4) (by decide +kernel) rfl rfl rfl (by decide +kernel)
set_option maxRecDepth 65536 in
theorem w_c21 : (Jvm.Cond.code ({ cls := "com/example/zonewarden/zonewarden/registry/IpAddressesIsIpv6PinLaw", name := "hex", desc := "(I)C" } : Jvm.MethodName) method_3_code (1 : Nat) (Option.some Jvm.ClassFile.FieldType.char)).before args0 about1 = true := code_word (m := ⟨1, 2⟩) (meth := k1m2) (c := k1c2) (by decide +kernel) rfl rfl rfl (by decide +kernel)
set_option maxRecDepth 65536 in
theorem w_c22 : (Jvm.Cond.code ({ cls := "com/example/zonewarden/zonewarden/registry/IpAddressesIsIpv6PinLaw", name := "hexAny", desc := "(I)C" } : Jvm.MethodName) method_6_code (1 : Nat) (Option.some Jvm.ClassFile.FieldType.char)).before args0 about1 = true := code_word (m := ⟨1, 5⟩) (meth := k1m5) (c := k1c5) (by decide +kernel) rfl rfl rfl (by decide +kernel)
def codes1 : List Jvm.Cond := [Jvm.Cond.code x code maxLocals ret, Jvm.Cond.code ({ cls := "com/example/zonewarden/zonewarden/registry/IpAddressesIsIpv6PinLaw", name := "nat", desc := "(II)I" } : Jvm.MethodName) method_2_code (2 : Nat) (Option.some Jvm.ClassFile.FieldType.int), Jvm.Cond.code ({ cls := "com/example/zonewarden/zonewarden/registry/IpAddressesIsIpv6PinLaw", name := "dec", desc := "(I)C" } : Jvm.MethodName) method_4_code (1 : Nat) (Option.some Jvm.ClassFile.FieldType.char), Jvm.Cond.code ({ cls := "java/lang/String", name := "<init>", desc := "([C)V" } : Jvm.MethodName) jdk_42_method_3_code (2 : Nat) (Option.none : Option Jvm.ClassFile.FieldType), Jvm.Cond.code ({ cls := "java/lang/String", name := "<init>", desc := "([CIILjava/lang/Void;)V" } : Jvm.MethodName) jdk_42_method_149_code (6 : Nat) (Option.none : Option Jvm.ClassFile.FieldType), Jvm.Cond.code ({ cls := "java/lang/Object", name := "<init>", desc := "()V" } : Jvm.MethodName) object_method_1_code (1 : Nat) (Option.none : Option Jvm.ClassFile.FieldType), Jvm.Cond.code ({ cls := "java/lang/StringUTF16", name := "compress", desc := "([CII)[B" } : Jvm.MethodName) jdk_52_method_16_code (6 : Nat) (Option.some (Jvm.ClassFile.FieldType.array Jvm.ClassFile.FieldType.byte)), Jvm.Cond.code ({ cls := "java/lang/StringUTF16", name := "compress", desc := "([CI[BII)I" } : Jvm.MethodName) jdk_52_method_21_code (7 : Nat) (Option.some Jvm.ClassFile.FieldType.int), Jvm.Cond.code ({ cls := "java/lang/StringUTF16", name := "coderFromArrayLen", desc := "([BI)B" } : Jvm.MethodName) jdk_52_method_15_code (2 : Nat) (Option.some Jvm.ClassFile.FieldType.byte), Jvm.Cond.code ({ cls := "com/example/zonewarden/zonewarden/registry/IpAddresses", name := "isIpv6", desc := "(Ljava/lang/String;)Z" } : Jvm.MethodName) prog_62_method_3_code (1 : Nat) (Option.some Jvm.ClassFile.FieldType.boolean), Jvm.Cond.code ({ cls := "java/lang/String", name := "indexOf", desc := "(I)I" } : Jvm.MethodName) jdk_42_method_79_code (2 : Nat) (Option.some Jvm.ClassFile.FieldType.int), Jvm.Cond.code ({ cls := "java/lang/String", name := "indexOf", desc := "(II)I" } : Jvm.MethodName) jdk_42_method_80_code (3 : Nat) (Option.some Jvm.ClassFile.FieldType.int), Jvm.Cond.code ({ cls := "java/lang/String", name := "isLatin1", desc := "()Z" } : Jvm.MethodName) jdk_42_method_154_code (1 : Nat) (Option.some Jvm.ClassFile.FieldType.boolean), Jvm.Cond.code ({ cls := "java/lang/String", name := "length", desc := "()I" } : Jvm.MethodName) jdk_42_method_54_code (1 : Nat) (Option.some Jvm.ClassFile.FieldType.int), Jvm.Cond.code ({ cls := "java/lang/String", name := "coder", desc := "()B" } : Jvm.MethodName) jdk_42_method_152_code (1 : Nat) (Option.some Jvm.ClassFile.FieldType.byte), Jvm.Cond.code ({ cls := "java/lang/StringLatin1", name := "indexOf", desc := "([BIII)I" } : Jvm.MethodName) jdk_43_method_22_code (4 : Nat) (Option.some Jvm.ClassFile.FieldType.int), Jvm.Cond.code ({ cls := "java/lang/StringLatin1", name := "canEncode", desc := "(I)Z" } : Jvm.MethodName) jdk_43_method_4_code (1 : Nat) (Option.some Jvm.ClassFile.FieldType.boolean), Jvm.Cond.code ({ cls := "java/lang/Math", name := "max", desc := "(II)I" } : Jvm.MethodName) jdk_29_method_65_code (2 : Nat) (Option.some Jvm.ClassFile.FieldType.int), Jvm.Cond.code ({ cls := "java/lang/Math", name := "min", desc := "(II)I" } : Jvm.MethodName) jdk_29_method_69_code (2 : Nat) (Option.some Jvm.ClassFile.FieldType.int), Jvm.Cond.code ({ cls := "java/lang/StringLatin1", name := "indexOfChar", desc := "([BIII)I" } : Jvm.MethodName) jdk_43_method_23_code (6 : Nat) (Option.some Jvm.ClassFile.FieldType.int), Jvm.Cond.code ({ cls := "com/example/zonewarden/zonewarden/registry/IpAddressesIsIpv6PinLaw", name := "hexNz", desc := "(I)C" } : Jvm.MethodName) method_5_code (1 : Nat) (Option.some Jvm.ClassFile.FieldType.char), Jvm.Cond.code ({ cls := "com/example/zonewarden/zonewarden/registry/IpAddressesIsIpv6PinLaw", name := "hex", desc := "(I)C" } : Jvm.MethodName) method_3_code (1 : Nat) (Option.some Jvm.ClassFile.FieldType.char), Jvm.Cond.code ({ cls := "com/example/zonewarden/zonewarden/registry/IpAddressesIsIpv6PinLaw", name := "hexAny", desc := "(I)C" } : Jvm.MethodName) method_6_code (1 : Nat) (Option.some Jvm.ClassFile.FieldType.char)]
set_option maxRecDepth 65536 in
theorem codes_eq : words1.filter isCode = codes1 := rfl
theorem w_codes : ∀ c ∈ words1.filter isCode, c.before args0 about1 = true := by
  rw [codes_eq]
  intro c hc
  simp only [codes1, List.mem_cons, List.not_mem_nil, or_false] at hc
  rcases hc with rfl | rfl | rfl | rfl | rfl | rfl | rfl | rfl | rfl | rfl | rfl | rfl | rfl | rfl | rfl | rfl | rfl | rfl | rfl | rfl | rfl | rfl | rfl
  · exact w_c0
  · exact w_c1
  · exact w_c2
  · exact w_c3
  · exact w_c4
  · exact w_c5
  · exact w_c6
  · exact w_c7
  · exact w_c8
  · exact w_c9
  · exact w_c10
  · exact w_c11
  · exact w_c12
  · exact w_c13
  · exact w_c14
  · exact w_c15
  · exact w_c16
  · exact w_c17
  · exact w_c18
  · exact w_c19
  · exact w_c20
  · exact w_c21
  · exact w_c22
set_option maxRecDepth 65536 in
theorem w_t1 : (words1.take 24).all (fun c => isCode c || c.before args0 about1) = true := by decide +kernel
set_option maxRecDepth 65536 in
theorem w_t2 : ((words1.drop 24).take 24).all (fun c => isCode c || c.before args0 about1) = true := by decide +kernel
set_option maxRecDepth 65536 in
theorem w_t3 : (((words1.drop 24).drop 24).take 24).all (fun c => isCode c || c.before args0 about1) = true := by decide +kernel
set_option maxRecDepth 65536 in
theorem w_t4 : (((words1.drop 24).drop 24).drop 24).all (fun c => isCode c || c.before args0 about1) = true := by decide +kernel
theorem w_tables : (allAtoms (Jvm.Cond.code x code maxLocals ret :: tables_1)).before args0 about1 = true := by
  rw [allAtoms_all]
  show words1.all (fun c => c.before args0 about1) = true
  refine all_split ?_ w_codes
  rw [← List.take_append_drop 24 words1, List.all_append, w_t1, ← List.take_append_drop 24 (words1.drop 24), List.all_append, w_t2, ← List.take_append_drop 24 ((words1.drop 24).drop 24), List.all_append, w_t3, w_t4]
  rfl
set_option maxRecDepth 65536 in
theorem w_rest : rest_1_c.before args0 about1 = true := by decide +kernel
set_option maxRecDepth 65536 in
theorem w_case : (Jvm.Cond.and given_1 narrow_1).before args0 about1 = true := by decide +kernel
theorem w_applies : (headSpec (Jvm.Cond.code x code maxLocals ret :: tables_1) room_1).applies x e0.platform about1 = true :=
  (Spec.applies_iff w_frames).mpr ⟨w_running, w_runnable, w_alone, w_named, w_hears, w_ripe, w_room, w_tables⟩
theorem atStart : AtStart classFile x code maxLocals ret World_1 tables_1 room_1 Calls_1 rest_1 Pre_1 launch0 p0 e0 about1 theMethod args0 below0 :=
  ⟨lists_1, trivial, launch0.admits_env _ _ _, launch0.least_env, fairChoices_fair.cas, fairChoices_fair.clock, w_frames, w_args, w_heap, w_applies, trivial, w_rest, w_case⟩
end start1
theorem witness_1 : WitnessClaimed_1 := ⟨start1.p0, start1.e0, start1.about1, start1.theMethod, start1.args0, start1.below0, start1.atStart⟩
end Jvm.Pilot.@@N@@
