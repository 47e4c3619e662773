import JvmDerived
import JvmDerived.Pilot.@@N@@Statement
import JvmDerived.Pilot.@@N@@Code
set_option linter.unusedVariables false
set_option linter.unusedSimpArgs false
namespace Jvm.Pilot.@@N@@
open Jvm Jvm.ClassFile Sem Op Lib Jvm.Free Jvm.Stand Jvm.LawKit Jvm.RoadKit Bundle Jvm.Pilot.@@N@@.Jvm.D
section Kit
variable {p : Program} {l : Launch} {e : Env} {R : Room} {s : State} {m : MethodId} {args : Array Value} {below : List Frame} {meth : Method} {c : Code} {T : State} {locs : List Loc} {cells slots : Nat} {Z : State} {a0 : Array Value} {h : Heap} {own nm : String} {bytes : ByteArray} {maxL : Nat} {rt : Option FieldType} {Q : Option Value → Heap → Prop} {ce sl : Nat} {En : Option Value → State → Prop} {pc : Nat} {Ls : Array Slot} {st : List Value}
/-- where a walk stands: the state T, its heap h; all that lay in the heap at the start Z is there unchanged, and all that was written is new -/
def Cx (p : Program) (l : Launch) (e : Env) (R : Room) (s : State) (m : MethodId) (args : Array Value) (below : List Frame) (meth : Method) (c : Code) (Z : State) (own nm : String) (bytes : ByteArray) (maxL : Nat) (rt : Option FieldType) (T : State) (locs : List Loc) (cells slots : Nat) (h : Heap) : Prop :=
  Stand p l e R s m args below meth c T locs cells slots ∧ p.tables.exec = Jvm.exec ∧ Z.Warmed39 s.vm ∧ s.vm.findClass own = some m.cls ∧ c.code = bytes ∧ c.maxLocals = maxL ∧ meth.sig.returnType = rt ∧ meth.name = nm ∧ meth.locks = false ∧ T.heap = h ∧ Fr Z.heap.size locs ∧ Ext Z.heap h
/-- from this frame the body comes to its end, and En holds of what it returns and of the state there -/
def Go (p : Program) (e : Env) (below : List Frame) (En : Option Value → State → Prop) (T : State) (m : MethodId) (pc : Nat) (Ls : Array Slot) (st : List Value) : Prop :=
  ∃ s₂ v, Steps p.tables e below (T.setTop (mkF m pc Ls st)) s₂ ∧ s₂.status = .running ∧ Ended s₂ below (.returned v) ∧ En v s₂
/-- a return of v from here: where it leads, and that En holds there -/
def Lv (e : Env) (below : List Frame) (En : Option Value → State → Prop) (T : State) (m : MethodId) (v : Option Value) : Prop :=
  ∃ fs, (∀ (f : JFrame) (acts : List Action), f.method = m → f.locked = none → f.entered = [] → (doReturn e (T.setTop f) acts v).1 = T.setFrames fs) ∧ (T.setFrames fs).status = .running ∧ Ended (T.setFrames fs) below (.returned v) ∧ En v (T.setFrames fs)
/-- the end of a body that interns nothing -/
def FinN (s Z : State) (Q : Option Value → Heap → Prop) (ce sl : Nat) : Option Value → State → Prop := fun v t => ∃ L, (Fr Z.heap.size L ∧ Ext Z.heap t.heap ∧ Q v t.heap) ∧ FrameEnd s (.returned v) t L ce sl
/-- the contract of a method called with the arguments as' over the heap h -/
def Ct (l : Launch) (Z : State) (ws : List Jvm.Cond) (y : MethodName) (bytes : ByteArray) (maxL : Nat) (rt : Option FieldType) (rm : Room) (as' : Array Value) (h : Heap) (Q : Option Value → Heap → Prop) : Prop :=
  Ext Z.heap h → MetFree l y (head1 (Jvm.Cond.code y bytes maxL rt :: ws) rm) (fun a U => a = as' ∧ Z.Warmed39 U.vm ∧ U.heap = h) (fun _ _ _ _ _ => True) (fun _ U o U' => ∃ v L, o = .returned v ∧ (Fr Z.heap.size L ∧ Ext Z.heap U'.heap ∧ Q v U'.heap) ∧ FrameEnd U o U' L rm.cells rm.slots)
/-- it returns v and leaves the heap as it was -/
def Pu (h : Heap) (v : Value) : Option Value → Heap → Prop := fun w h' => w = some v ∧ h' = h
theorem Ext.rf (h : Heap) : Ext h h := ⟨Nat.le_refl _, fun _ _ q => q⟩
theorem Ext.tr {h1 h2 h3 : Heap} (E : Ext h1 h2) (F : Ext h2 h3) : Ext h1 h3 := ⟨Nat.le_trans E.1 F.1, fun a c q => F.2 a c (E.2 a c q)⟩
theorem Ext.kp {h1 h2 h3 : Heap} {ws : List Addr} (E : Ext h1 h2) (K : Keep h2 h3 ws) (q : ∀ x ∈ ws, h1.size ≤ x) : Ext h1 h3 := ⟨Nat.le_trans E.1 K.1, fun a c r => K.2.1 a c (E.2 a c r) fun z => absurd (Array.getElem?_eq_some_iff.mp r).1 (Nat.not_lt.mpr (q a z))⟩
theorem Ext.wr {h1 h2 h3 : Heap} {a : Addr} {k : Nat} {v : Value} (E : Ext h1 h2) (W : Wr h2 h3 a k v) (q : h1.size ≤ a) : Ext h1 h3 := Ext.kp E (Keep.of_wr W) (allS q all0)
theorem Ext.keep {h1 h2 : Heap} (E : Ext h1 h2) (ws : List Addr) : Keep h1 h2 ws := (Keep.refl _ _).ext E
theorem Cx.sd (X : Cx p l e R s m args below meth c Z own nm bytes maxL rt T locs cells slots h) : Stand p l e R s m args below meth c T locs cells slots := X.1
theorem Cx.here (X : Cx p l e R s m args below meth c Z own nm bytes maxL rt T locs cells slots h) : At T m c below := X.1.here
theorem Cx.hx (X : Cx p l e R s m args below meth c Z own nm bytes maxL rt T locs cells slots h) : p.tables.exec = Jvm.exec := X.2.1
theorem Cx.hZ (X : Cx p l e R s m args below meth c Z own nm bytes maxL rt T locs cells slots h) : Z.Warmed39 s.vm := X.2.2.1
theorem Cx.hown (X : Cx p l e R s m args below meth c Z own nm bytes maxL rt T locs cells slots h) : s.vm.findClass own = some m.cls := X.2.2.2.1
theorem Cx.hby (X : Cx p l e R s m args below meth c Z own nm bytes maxL rt T locs cells slots h) : c.code = bytes := X.2.2.2.2.1
theorem Cx.hml (X : Cx p l e R s m args below meth c Z own nm bytes maxL rt T locs cells slots h) : c.maxLocals = maxL := X.2.2.2.2.2.1
theorem Cx.hrt (X : Cx p l e R s m args below meth c Z own nm bytes maxL rt T locs cells slots h) : meth.sig.returnType = rt := X.2.2.2.2.2.2.1
theorem Cx.hnm (X : Cx p l e R s m args below meth c Z own nm bytes maxL rt T locs cells slots h) : meth.name = nm := X.2.2.2.2.2.2.2.1
theorem Cx.hlk (X : Cx p l e R s m args below meth c Z own nm bytes maxL rt T locs cells slots h) : meth.locks = false := X.2.2.2.2.2.2.2.2.1
theorem Cx.eq (X : Cx p l e R s m args below meth c Z own nm bytes maxL rt T locs cells slots h) : T.heap = h := X.2.2.2.2.2.2.2.2.2.1
theorem Cx.fr (X : Cx p l e R s m args below meth c Z own nm bytes maxL rt T locs cells slots h) : Fr Z.heap.size locs := X.2.2.2.2.2.2.2.2.2.2.1
theorem Cx.old (X : Cx p l e R s m args below meth c Z own nm bytes maxL rt T locs cells slots h) : Ext Z.heap h := X.2.2.2.2.2.2.2.2.2.2.2
theorem Cx.le (X : Cx p l e R s m args below meth c Z own nm bytes maxL rt T locs cells slots h) : Z.heap.size ≤ h.size := X.old.1
theorem Cx.mk' {T' : State} {locs' : List Loc} {cells' slots' : Nat} {h' : Heap} (X : Cx p l e R s m args below meth c Z own nm bytes maxL rt T locs cells slots h) (Y : Stand p l e R s m args below meth c T' locs' cells' slots') (q : T'.heap = h') (f : Fr Z.heap.size locs') (o : Ext Z.heap h') : Cx p l e R s m args below meth c Z own nm bytes maxL rt T' locs' cells' slots' h' := ⟨Y, X.hx, X.hZ, X.hown, X.hby, X.hml, X.hrt, X.hnm, X.hlk, q, f, o⟩
theorem Go.step {T' : State} {pc' : Nat} {Ls' : Array Slot} {st' : List Value} (f : ∀ t, Steps p.tables e below (T'.setTop (mkF m pc' Ls' st')) t → Steps p.tables e below (T.setTop (mkF m pc Ls st)) t) (k : Go p e below En T' m pc' Ls' st') : Go p e below En T m pc Ls st := by
  obtain ⟨s₂, v, k1, k2⟩ := k
  exact ⟨s₂, v, f _ k1, k2⟩
theorem Ct.ofF {y : MethodName} {ws : List Jvm.Cond} {rm : Room} {as' : Array Value} {Ls0 : Array Slot} (pn : plainFor y = true) (ef : ∀ m, entryFrame m as' maxL = mkF m 0 Ls0 [])
    (body : ∀ p e s m below meth c s₁, Cx p l e rm s m as' below meth c Z y.cls y.name bytes maxL rt s₁ [] 0 0 h → Go p e below (FinN s Z Q rm.cells rm.slots) s₁ m 0 Ls0 []) : Ct l Z ws y bytes maxL rt rm as' h Q := by
  intro hE
  refine MetFree.of_bodySF pn hisR ?_
  intro p e s m args below meth c s₁ Bd hml0 hP hK
  obtain ⟨rfl, hZ, hh⟩ := hP
  have hown : s.vm.findClass y.cls = some m.cls := findClass_of_methodNamed Bd.named
  have hnm := (name_of_methodNamed Bd.named Bd.method).1
  have X0 : Stand p l e rm s m args below meth c s₁ [] 0 0 := Stand.of_body Bd
  have e0 : s₁.heap = h := by rw [← hh, Bd.state]; rfl
  obtain ⟨s₂, v, k1, k2, k3, L, k5, k6⟩ := body p e s m below meth c s₁ ⟨X0, Bd.exec, hZ, hown, Bd.bytes, hml0, Bd.returns, hnm, Bd.notSynchronized, e0, Fr.nil _, hE⟩
  exact ⟨s₂, _, castTop (ef m) k1, k2, k3, v, L, rfl, k5, k6⟩
theorem Ct.of {y : MethodName} {ws : List Jvm.Cond} {rm : Room} {as' : Array Value} {Ls0 : Array Slot} (pn : plainName y.cls = true) (ef : ∀ m, entryFrame m as' maxL = mkF m 0 Ls0 [])
    (body : ∀ p e s m below meth c s₁, Cx p l e rm s m as' below meth c Z y.cls y.name bytes maxL rt s₁ [] 0 0 h → Go p e below (FinN s Z Q rm.cells rm.slots) s₁ m 0 Ls0 []) : Ct l Z ws y bytes maxL rt rm as' h Q := Ct.ofF (plainFor_of_name pn) ef body
theorem Cx.fin (X : Cx p l e R s m args below meth c Z own nm bytes maxL rt T locs cells slots h) {v : Option Value} (hQ : Q v h) (hc : cells ≤ ce) (hs : slots ≤ sl) (hv : rt = none → v = none := by (intro q; first | rfl | (cases q; done))) : Lv e below (FinN s Z Q ce sl) T m v := by
  have hlk := X.hlk
  obtain ⟨fs, hr, hrun, hended, hW, hsame⟩ := X.sd.leave (v := v) (fun q => hv (X.hrt ▸ q)) hlk
  have q : (T.setFrames fs).heap = h := X.eq
  exact ⟨fs, hr, hrun, hended, locs, ⟨X.fr, by rw [q]; exact X.old, by rw [q]; exact hQ⟩, ⟨_, rfl⟩, hW, hsame.mono hc hs⟩
theorem Go.ret0 (X : Cx p l e R s m args below meth c Z own nm bytes maxL rt T locs cells slots h) {v : Option Value}
    (f : ∀ fs, (∀ (f : JFrame) (acts : List Action), f.method = m → f.locked = none → f.entered = [] → (doReturn e (T.setTop f) acts v).1 = T.setFrames fs) → Steps p.tables e below (T.setTop (mkF m pc Ls st)) (T.setFrames fs)) (hF : Lv e below En T m v) : Go p e below En T m pc Ls st := by
  obtain ⟨fs, hr, hrun, hended, hq⟩ := hF
  exact ⟨_, _, f fs hr, hrun, hended, hq⟩
theorem Go.ret (X : Cx p l e R s m args below meth c Z own nm bytes maxL rt T locs cells slots h) {t : FieldType} {i : Instr} {w : Value} {rest : List Value} (hret : rt = some t) (hn : narrow t w = w)
    (hi : (i = .ireturn ∧ (t = .int ∨ t = .boolean ∨ t = .byte ∨ t = .char ∨ t = .short) ∧ ∃ z, w = .int z) ∨ (i = .lreturn ∧ t = .long ∧ ∃ z, w = .long z) ∨ (i = .dreturn ∧ t = .double ∧ ∃ z, w = .double z) ∨ (i = .freturn ∧ t = .float ∧ ∃ z, w = .float z) ∨ (i = .areturn ∧ t.isReference = true ∧ w.isRef = true))
    (hd : decode bytes pc = .ok (i, 1)) (hF : Lv e below En T m (some w)) : Go p e below En T m pc Ls (w :: rest) :=
  Go.ret0 X (fun fs hr => retOut X.sd X.hx (X.hrt.trans hret) hn hi (hb X.hby hd) hr) hF
theorem Go.retI (X : Cx p l e R s m args below meth c Z own nm bytes maxL rt T locs cells slots h) {t : FieldType} {z : Int32} {rest : List Value} (hret : rt = some t) (ht : t = .int ∨ t = .boolean ∨ t = .byte ∨ t = .char ∨ t = .short) (hn : narrow t (.int z) = .int z) (hd : decode bytes pc = .ok (.ireturn, 1)) (hF : Lv e below En T m (some (.int z))) : Go p e below En T m pc Ls (.int z :: rest) :=
  Go.ret X hret hn (Or.inl ⟨rfl, ht, z, rfl⟩) hd hF
theorem Go.retJ (X : Cx p l e R s m args below meth c Z own nm bytes maxL rt T locs cells slots h) {z : Int64} {rest : List Value} (hret : rt = some .long) (hd : decode bytes pc = .ok (.lreturn, 1)) (hF : Lv e below En T m (some (.long z))) : Go p e below En T m pc Ls (.long z :: rest) :=
  Go.ret X hret rfl (Or.inr (Or.inl ⟨rfl, rfl, z, rfl⟩)) hd hF
theorem Go.retA (X : Cx p l e R s m args below meth c Z own nm bytes maxL rt T locs cells slots h) {t : FieldType} {w : Value} {rest : List Value} (hret : rt = some t) (ht : t.isReference = true) (hw : w.isRef = true) (hd : decode bytes pc = .ok (.areturn, 1)) (hF : Lv e below En T m (some w)) : Go p e below En T m pc Ls (w :: rest) :=
  Go.ret X hret (by cases t <;> first | rfl | (cases ht; done)) (Or.inr (Or.inr (Or.inr (Or.inr ⟨rfl, ht, hw⟩)))) hd hF
theorem Go.retV (X : Cx p l e R s m args below meth c Z own nm bytes maxL rt T locs cells slots h) (hret : rt = none) (hd : decode bytes pc = .ok (.return_, 1)) (hF : Lv e below En T m none) : Go p e below En T m pc Ls [] :=
  Go.ret0 X (fun fs hr => X.sd.returnOut X.hx (X.hrt.trans hret) (hb X.hby hd) hr) hF
theorem Go.aloadN (X : Cx p l e R s m args below meth c Z own nm bytes maxL rt T locs cells slots h) (pc' : Nat) {i : Fin 4} {v : Value} (hd : decode bytes pc = .ok (.aload_n i, 1)) (hl : Ls[i.val]? = some (.val v)) (hv : v.isRef = true) (k : Go p e below En T m pc' Ls (v :: st)) (hp : pc + 1 = pc' := by rfl) : Go p e below En T m pc Ls st := by
  subst hp
  exact Go.step (fun _ hr => XS.aloadN X.here X.hx rfl (hb X.hby hd) hl hv hr) k
theorem Go.aload (X : Cx p l e R s m args below meth c Z own nm bytes maxL rt T locs cells slots h) (pc' : Nat) {i : Nat} {v : Value} (hd : decode bytes pc = .ok (.aload i, 2)) (hl : Ls[i]? = some (.val v)) (hv : v.isRef = true) (k : Go p e below En T m pc' Ls (v :: st)) (hp : pc + 2 = pc' := by rfl) : Go p e below En T m pc Ls st := by
  subst hp
  exact Go.step (fun _ hr => XS.aload X.here X.hx rfl (hb X.hby hd) hl hv hr) k
theorem Go.iloadN (X : Cx p l e R s m args below meth c Z own nm bytes maxL rt T locs cells slots h) (pc' : Nat) {i : Fin 4} {v : Int32} (hd : decode bytes pc = .ok (.iload_n i, 1)) (hl : Ls[i.val]? = some (.val (.int v))) (k : Go p e below En T m pc' Ls (.int v :: st)) (hp : pc + 1 = pc' := by rfl) : Go p e below En T m pc Ls st := by
  subst hp
  exact Go.step (fun _ hr => XS.iloadN X.here X.hx rfl (hb X.hby hd) hl hr) k
theorem Go.iload (X : Cx p l e R s m args below meth c Z own nm bytes maxL rt T locs cells slots h) (pc' : Nat) {i : Nat} {v : Int32} (hd : decode bytes pc = .ok (.iload i, 2)) (hl : Ls[i]? = some (.val (.int v))) (k : Go p e below En T m pc' Ls (.int v :: st)) (hp : pc + 2 = pc' := by rfl) : Go p e below En T m pc Ls st := by
  subst hp
  exact Go.step (fun _ hr => XS.iload X.here X.hx rfl (hb X.hby hd) hl hr) k
theorem Go.lloadN (X : Cx p l e R s m args below meth c Z own nm bytes maxL rt T locs cells slots h) (pc' : Nat) {i : Fin 4} {v : Int64} (hd : decode bytes pc = .ok (.lload_n i, 1)) (hl : Ls[i.val]? = some (.val (.long v))) (k : Go p e below En T m pc' Ls (.long v :: st)) (hp : pc + 1 = pc' := by rfl) : Go p e below En T m pc Ls st := by
  subst hp
  exact Go.step (fun _ hr => XT.lloadN X.here X.hx rfl (hb X.hby hd) hl hr) k
theorem Go.lload (X : Cx p l e R s m args below meth c Z own nm bytes maxL rt T locs cells slots h) (pc' : Nat) {i : Nat} {v : Int64} (hd : decode bytes pc = .ok (.lload i, 2)) (hl : Ls[i]? = some (.val (.long v))) (k : Go p e below En T m pc' Ls (.long v :: st)) (hp : pc + 2 = pc' := by rfl) : Go p e below En T m pc Ls st := by
  subst hp
  exact Go.step (fun _ hr => XT.lload X.here X.hx rfl (hb X.hby hd) hl hr) k
theorem Go.iconst (X : Cx p l e R s m args below meth c Z own nm bytes maxL rt T locs cells slots h) (pc' : Nat) {i : Int} (z : Int32) (hd : decode bytes pc = .ok (.iconst i, 1)) (k : Go p e below En T m pc' Ls (.int z :: st)) (hp : pc + 1 = pc' := by rfl) (hv : Int32.ofInt i = z := by rfl) : Go p e below En T m pc Ls st := by
  subst hp
  exact Go.step (fun _ hr => XT.iconstV X.here X.hx rfl z (hb X.hby hd) hv hr) k
theorem Go.bipush (X : Cx p l e R s m args below meth c Z own nm bytes maxL rt T locs cells slots h) (pc' : Nat) {i : Int} (z : Int32) (hd : decode bytes pc = .ok (.bipush i, 2)) (k : Go p e below En T m pc' Ls (.int z :: st)) (hp : pc + 2 = pc' := by rfl) (hv : (Int8.ofInt i).toInt32 = z := by rfl) : Go p e below En T m pc Ls st := by
  subst hp
  exact Go.step (fun _ hr => XT.bipushV X.here X.hx rfl z (hb X.hby hd) hv hr) k
theorem Go.sipush (X : Cx p l e R s m args below meth c Z own nm bytes maxL rt T locs cells slots h) (pc' : Nat) {i : Int} (z : Int32) (hd : decode bytes pc = .ok (.sipush i, 3)) (k : Go p e below En T m pc' Ls (.int z :: st)) (hp : pc + 3 = pc' := by rfl) (hv : (Int16.ofInt i).toInt32 = z := by rfl) : Go p e below En T m pc Ls st := by
  subst hp
  exact Go.step (fun _ hr => XT.sipushV X.here X.hx rfl z (hb X.hby hd) hv hr) k
theorem Go.lconst (X : Cx p l e R s m args below meth c Z own nm bytes maxL rt T locs cells slots h) (pc' : Nat) {i : Fin 2} (z : Int64) (hd : decode bytes pc = .ok (.lconst i, 1)) (k : Go p e below En T m pc' Ls (.long z :: st)) (hp : pc + 1 = pc' := by rfl) (hv : Int64.ofNat i = z := by rfl) : Go p e below En T m pc Ls st := by
  subst hp
  exact Go.step (fun _ hr => XT.lconstV X.here X.hx rfl z (hb X.hby hd) hv hr) k
theorem Go.aconst_null (X : Cx p l e R s m args below meth c Z own nm bytes maxL rt T locs cells slots h) (pc' : Nat)  (hd : decode bytes pc = .ok (.aconst_null, 1))  (k : Go p e below En T m pc' Ls (.null :: st)) (hp : pc + 1 = pc' := by rfl) : Go p e below En T m pc Ls st := by
  subst hp
  exact Go.step (fun _ hr => XS.aconstNull X.here X.hx rfl (hb X.hby hd)  hr) k
theorem Go.iadd (X : Cx p l e R s m args below meth c Z own nm bytes maxL rt T locs cells slots h) (pc' : Nat) {x y : Int32} (hd : decode bytes pc = .ok (.iadd, 1))  (k : Go p e below En T m pc' Ls (.int (x + y) :: st)) (hp : pc + 1 = pc' := by rfl) : Go p e below En T m pc Ls (.int y :: .int x :: st) := by
  subst hp
  exact Go.step (fun _ hr => XS.iadd X.here X.hx rfl (hb X.hby hd) rfl hr) k
theorem Go.isub (X : Cx p l e R s m args below meth c Z own nm bytes maxL rt T locs cells slots h) (pc' : Nat) {x y : Int32} (hd : decode bytes pc = .ok (.isub, 1))  (k : Go p e below En T m pc' Ls (.int (x - y) :: st)) (hp : pc + 1 = pc' := by rfl) : Go p e below En T m pc Ls (.int y :: .int x :: st) := by
  subst hp
  exact Go.step (fun _ hr => XS.isub X.here X.hx rfl (hb X.hby hd) rfl hr) k
theorem Go.imul (X : Cx p l e R s m args below meth c Z own nm bytes maxL rt T locs cells slots h) (pc' : Nat) {x y : Int32} (hd : decode bytes pc = .ok (.imul, 1))  (k : Go p e below En T m pc' Ls (.int (x * y) :: st)) (hp : pc + 1 = pc' := by rfl) : Go p e below En T m pc Ls (.int y :: .int x :: st) := by
  subst hp
  exact Go.step (fun _ hr => XS.imul X.here X.hx rfl (hb X.hby hd) rfl hr) k
theorem Go.iand (X : Cx p l e R s m args below meth c Z own nm bytes maxL rt T locs cells slots h) (pc' : Nat) {x y : Int32} (hd : decode bytes pc = .ok (.iand, 1))  (k : Go p e below En T m pc' Ls (.int (x &&& y) :: st)) (hp : pc + 1 = pc' := by rfl) : Go p e below En T m pc Ls (.int y :: .int x :: st) := by
  subst hp
  exact Go.step (fun _ hr => XS.iand X.here X.hx rfl (hb X.hby hd) rfl hr) k
theorem Go.ior (X : Cx p l e R s m args below meth c Z own nm bytes maxL rt T locs cells slots h) (pc' : Nat) {x y : Int32} (hd : decode bytes pc = .ok (.ior, 1))  (k : Go p e below En T m pc' Ls (.int (x ||| y) :: st)) (hp : pc + 1 = pc' := by rfl) : Go p e below En T m pc Ls (.int y :: .int x :: st) := by
  subst hp
  exact Go.step (fun _ hr => XT.ior X.here X.hx rfl (hb X.hby hd) rfl hr) k
theorem Go.ixor (X : Cx p l e R s m args below meth c Z own nm bytes maxL rt T locs cells slots h) (pc' : Nat) {x y : Int32} (hd : decode bytes pc = .ok (.ixor, 1))  (k : Go p e below En T m pc' Ls (.int (x ^^^ y) :: st)) (hp : pc + 1 = pc' := by rfl) : Go p e below En T m pc Ls (.int y :: .int x :: st) := by
  subst hp
  exact Go.step (fun _ hr => XT.ixor X.here X.hx rfl (hb X.hby hd) rfl hr) k
theorem Go.idiv (X : Cx p l e R s m args below meth c Z own nm bytes maxL rt T locs cells slots h) (pc' : Nat) {x y : Int32} (hd : decode bytes pc = .ok (.idiv, 1)) (hy : y ≠ 0) (k : Go p e below En T m pc' Ls (.int (x / y) :: st)) (hp : pc + 1 = pc' := by rfl) : Go p e below En T m pc Ls (.int y :: .int x :: st) := by
  subst hp
  exact Go.step (fun _ hr => XS.idiv X.here X.hx rfl (hb X.hby hd) rfl hy hr) k
theorem Go.irem (X : Cx p l e R s m args below meth c Z own nm bytes maxL rt T locs cells slots h) (pc' : Nat) {x y : Int32} (hd : decode bytes pc = .ok (.irem, 1)) (hy : y ≠ 0) (k : Go p e below En T m pc' Ls (.int (x % y) :: st)) (hp : pc + 1 = pc' := by rfl) : Go p e below En T m pc Ls (.int y :: .int x :: st) := by
  subst hp
  exact Go.step (fun _ hr => iremM X.sd X.hx rfl (hb X.hby hd) rfl hy hr) k
theorem Go.ishl (X : Cx p l e R s m args below meth c Z own nm bytes maxL rt T locs cells slots h) (pc' : Nat) {x y : Int32} (hd : decode bytes pc = .ok (.ishl, 1))  (k : Go p e below En T m pc' Ls (.int (x <<< (y &&& 31)) :: st)) (hp : pc + 1 = pc' := by rfl) : Go p e below En T m pc Ls (.int y :: .int x :: st) := by
  subst hp
  exact Go.step (fun _ hr => XT.ishl X.here X.hx rfl (hb X.hby hd) rfl hr) k
theorem Go.ishr (X : Cx p l e R s m args below meth c Z own nm bytes maxL rt T locs cells slots h) (pc' : Nat) {x y : Int32} (hd : decode bytes pc = .ok (.ishr, 1))  (k : Go p e below En T m pc' Ls (.int (x >>> (y &&& 31)) :: st)) (hp : pc + 1 = pc' := by rfl) : Go p e below En T m pc Ls (.int y :: .int x :: st) := by
  subst hp
  exact Go.step (fun _ hr => XT.ishr X.here X.hx rfl (hb X.hby hd) rfl hr) k
theorem Go.iushr (X : Cx p l e R s m args below meth c Z own nm bytes maxL rt T locs cells slots h) (pc' : Nat) {x y : Int32} (hd : decode bytes pc = .ok (.iushr, 1))  (k : Go p e below En T m pc' Ls (.int (XT.ushr x y) :: st)) (hp : pc + 1 = pc' := by rfl) : Go p e below En T m pc Ls (.int y :: .int x :: st) := by
  subst hp
  exact Go.step (fun _ hr => XT.iushr X.here X.hx rfl (hb X.hby hd) rfl hr) k
theorem Go.ladd (X : Cx p l e R s m args below meth c Z own nm bytes maxL rt T locs cells slots h) (pc' : Nat) {x y : Int64} (hd : decode bytes pc = .ok (.ladd, 1))  (k : Go p e below En T m pc' Ls (.long (x + y) :: st)) (hp : pc + 1 = pc' := by rfl) : Go p e below En T m pc Ls (.long y :: .long x :: st) := by
  subst hp
  exact Go.step (fun _ hr => XT.ladd X.here X.hx rfl (hb X.hby hd) rfl hr) k
theorem Go.lsub (X : Cx p l e R s m args below meth c Z own nm bytes maxL rt T locs cells slots h) (pc' : Nat) {x y : Int64} (hd : decode bytes pc = .ok (.lsub, 1))  (k : Go p e below En T m pc' Ls (.long (x - y) :: st)) (hp : pc + 1 = pc' := by rfl) : Go p e below En T m pc Ls (.long y :: .long x :: st) := by
  subst hp
  exact Go.step (fun _ hr => XT.lsub X.here X.hx rfl (hb X.hby hd) rfl hr) k
theorem Go.lmul (X : Cx p l e R s m args below meth c Z own nm bytes maxL rt T locs cells slots h) (pc' : Nat) {x y : Int64} (hd : decode bytes pc = .ok (.lmul, 1))  (k : Go p e below En T m pc' Ls (.long (x * y) :: st)) (hp : pc + 1 = pc' := by rfl) : Go p e below En T m pc Ls (.long y :: .long x :: st) := by
  subst hp
  exact Go.step (fun _ hr => XT.lmul X.here X.hx rfl (hb X.hby hd) rfl hr) k
theorem Go.land (X : Cx p l e R s m args below meth c Z own nm bytes maxL rt T locs cells slots h) (pc' : Nat) {x y : Int64} (hd : decode bytes pc = .ok (.land, 1))  (k : Go p e below En T m pc' Ls (.long (x &&& y) :: st)) (hp : pc + 1 = pc' := by rfl) : Go p e below En T m pc Ls (.long y :: .long x :: st) := by
  subst hp
  exact Go.step (fun _ hr => XT.land X.here X.hx rfl (hb X.hby hd) rfl hr) k
theorem Go.lor (X : Cx p l e R s m args below meth c Z own nm bytes maxL rt T locs cells slots h) (pc' : Nat) {x y : Int64} (hd : decode bytes pc = .ok (.lor, 1))  (k : Go p e below En T m pc' Ls (.long (x ||| y) :: st)) (hp : pc + 1 = pc' := by rfl) : Go p e below En T m pc Ls (.long y :: .long x :: st) := by
  subst hp
  exact Go.step (fun _ hr => XT.lor X.here X.hx rfl (hb X.hby hd) rfl hr) k
theorem Go.lxor (X : Cx p l e R s m args below meth c Z own nm bytes maxL rt T locs cells slots h) (pc' : Nat) {x y : Int64} (hd : decode bytes pc = .ok (.lxor, 1))  (k : Go p e below En T m pc' Ls (.long (x ^^^ y) :: st)) (hp : pc + 1 = pc' := by rfl) : Go p e below En T m pc Ls (.long y :: .long x :: st) := by
  subst hp
  exact Go.step (fun _ hr => XT.lxor X.here X.hx rfl (hb X.hby hd) rfl hr) k
theorem Go.lcmp (X : Cx p l e R s m args below meth c Z own nm bytes maxL rt T locs cells slots h) (pc' : Nat) {x y : Int64} (hd : decode bytes pc = .ok (.lcmp, 1))  (k : Go p e below En T m pc' Ls (.int (XT.cmpL x y) :: st)) (hp : pc + 1 = pc' := by rfl) : Go p e below En T m pc Ls (.long y :: .long x :: st) := by
  subst hp
  exact Go.step (fun _ hr => XT.lcmp X.here X.hx rfl (hb X.hby hd) rfl hr) k
theorem Go.ldiv (X : Cx p l e R s m args below meth c Z own nm bytes maxL rt T locs cells slots h) (pc' : Nat) {x y : Int64} (hd : decode bytes pc = .ok (.ldiv, 1)) (hy : y ≠ 0) (k : Go p e below En T m pc' Ls (.long (x / y) :: st)) (hp : pc + 1 = pc' := by rfl) : Go p e below En T m pc Ls (.long y :: .long x :: st) := by
  subst hp
  exact Go.step (fun _ hr => XT.ldiv X.here X.hx rfl (hb X.hby hd) rfl hy hr) k
theorem Go.lrem (X : Cx p l e R s m args below meth c Z own nm bytes maxL rt T locs cells slots h) (pc' : Nat) {x y : Int64} (hd : decode bytes pc = .ok (.lrem, 1)) (hy : y ≠ 0) (k : Go p e below En T m pc' Ls (.long (x - (x / y) * y) :: st)) (hp : pc + 1 = pc' := by rfl) : Go p e below En T m pc Ls (.long y :: .long x :: st) := by
  subst hp
  exact Go.step (fun _ hr => XT.lrem X.here X.hx rfl (hb X.hby hd) rfl hy hr) k
theorem Go.lshl (X : Cx p l e R s m args below meth c Z own nm bytes maxL rt T locs cells slots h) (pc' : Nat) {x : Int64} {y : Int32} (hd : decode bytes pc = .ok (.lshl, 1))  (k : Go p e below En T m pc' Ls (.long (x <<< (y.toInt64 &&& 63)) :: st)) (hp : pc + 1 = pc' := by rfl) : Go p e below En T m pc Ls (.int y :: .long x :: st) := by
  subst hp
  exact Go.step (fun _ hr => XT.lshl X.here X.hx rfl (hb X.hby hd) rfl hr) k
theorem Go.lshr (X : Cx p l e R s m args below meth c Z own nm bytes maxL rt T locs cells slots h) (pc' : Nat) {x : Int64} {y : Int32} (hd : decode bytes pc = .ok (.lshr, 1))  (k : Go p e below En T m pc' Ls (.long (x >>> (y.toInt64 &&& 63)) :: st)) (hp : pc + 1 = pc' := by rfl) : Go p e below En T m pc Ls (.int y :: .long x :: st) := by
  subst hp
  exact Go.step (fun _ hr => XT.lshr X.here X.hx rfl (hb X.hby hd) rfl hr) k
theorem Go.lushr (X : Cx p l e R s m args below meth c Z own nm bytes maxL rt T locs cells slots h) (pc' : Nat) {x : Int64} {y : Int32} (hd : decode bytes pc = .ok (.lushr, 1))  (k : Go p e below En T m pc' Ls (.long (XT.ushrL x y) :: st)) (hp : pc + 1 = pc' := by rfl) : Go p e below En T m pc Ls (.int y :: .long x :: st) := by
  subst hp
  exact Go.step (fun _ hr => XT.lushr X.here X.hx rfl (hb X.hby hd) rfl hr) k
theorem Go.i2l (X : Cx p l e R s m args below meth c Z own nm bytes maxL rt T locs cells slots h) (pc' : Nat) {x : Int32} (hd : decode bytes pc = .ok (.i2l, 1))  (k : Go p e below En T m pc' Ls (.long (x.toInt64) :: st)) (hp : pc + 1 = pc' := by rfl) : Go p e below En T m pc Ls (.int x :: st) := by
  subst hp
  exact Go.step (fun _ hr => XT.i2l X.here X.hx rfl (hb X.hby hd) rfl hr) k
theorem Go.i2b (X : Cx p l e R s m args below meth c Z own nm bytes maxL rt T locs cells slots h) (pc' : Nat) {x : Int32} (hd : decode bytes pc = .ok (.i2b, 1))  (k : Go p e below En T m pc' Ls (.int (x.toInt8.toInt32) :: st)) (hp : pc + 1 = pc' := by rfl) : Go p e below En T m pc Ls (.int x :: st) := by
  subst hp
  exact Go.step (fun _ hr => XT.i2b X.here X.hx rfl (hb X.hby hd) rfl hr) k
theorem Go.i2c (X : Cx p l e R s m args below meth c Z own nm bytes maxL rt T locs cells slots h) (pc' : Nat) {x : Int32} (hd : decode bytes pc = .ok (.i2c, 1))  (k : Go p e below En T m pc' Ls (.int (x.toUInt32.toUInt16.toUInt32.toInt32) :: st)) (hp : pc + 1 = pc' := by rfl) : Go p e below En T m pc Ls (.int x :: st) := by
  subst hp
  exact Go.step (fun _ hr => XT.i2c X.here X.hx rfl (hb X.hby hd) rfl hr) k
theorem Go.i2s (X : Cx p l e R s m args below meth c Z own nm bytes maxL rt T locs cells slots h) (pc' : Nat) {x : Int32} (hd : decode bytes pc = .ok (.i2s, 1))  (k : Go p e below En T m pc' Ls (.int (x.toInt16.toInt32) :: st)) (hp : pc + 1 = pc' := by rfl) : Go p e below En T m pc Ls (.int x :: st) := by
  subst hp
  exact Go.step (fun _ hr => XT.i2s X.here X.hx rfl (hb X.hby hd) rfl hr) k
theorem Go.l2i (X : Cx p l e R s m args below meth c Z own nm bytes maxL rt T locs cells slots h) (pc' : Nat) {x : Int64} (hd : decode bytes pc = .ok (.l2i, 1))  (k : Go p e below En T m pc' Ls (.int (x.toInt32) :: st)) (hp : pc + 1 = pc' := by rfl) : Go p e below En T m pc Ls (.long x :: st) := by
  subst hp
  exact Go.step (fun _ hr => XT.l2i X.here X.hx rfl (hb X.hby hd) rfl hr) k
theorem Go.dup (X : Cx p l e R s m args below meth c Z own nm bytes maxL rt T locs cells slots h) (pc' : Nat) {v : Value} (hd : decode bytes pc = .ok (.dup, 1)) (hc : v.category = 1) (k : Go p e below En T m pc' Ls (v :: v :: st)) (hp : pc + 1 = pc' := by rfl) : Go p e below En T m pc Ls (v :: st) := by
  subst hp
  exact Go.step (fun _ hr => XS.dup X.here X.hx rfl (hb X.hby hd) rfl hc hr) k
theorem Go.pop (X : Cx p l e R s m args below meth c Z own nm bytes maxL rt T locs cells slots h) (pc' : Nat) {v : Value} (hd : decode bytes pc = .ok (.pop, 1)) (hc : v.category = 1) (k : Go p e below En T m pc' Ls st) (hp : pc + 1 = pc' := by rfl) : Go p e below En T m pc Ls (v :: st) := by
  subst hp
  exact Go.step (fun _ hr => XT.pop X.here X.hx rfl (hb X.hby hd) rfl hc hr) k
theorem Go.dup_x1 (X : Cx p l e R s m args below meth c Z own nm bytes maxL rt T locs cells slots h) (pc' : Nat) {v w : Value} (hd : decode bytes pc = .ok (.dup_x1, 1)) (hc : v.category = 1) (hc' : w.category = 1) (k : Go p e below En T m pc' Ls (v :: w :: v :: st)) (hp : pc + 1 = pc' := by rfl) : Go p e below En T m pc Ls (v :: w :: st) := by
  subst hp
  exact Go.step (fun _ hr => XT.dupX1 X.here X.hx rfl (hb X.hby hd) rfl hc hc' hr) k
theorem Go.dup2 (X : Cx p l e R s m args below meth c Z own nm bytes maxL rt T locs cells slots h) (pc' : Nat) {v w : Value} (hd : decode bytes pc = .ok (.dup2, 1)) (hc : v.category = 1) (hc' : w.category = 1) (k : Go p e below En T m pc' Ls (v :: w :: v :: w :: st)) (hp : pc + 1 = pc' := by rfl) : Go p e below En T m pc Ls (v :: w :: st) := by
  subst hp
  exact Go.step (fun _ hr => XT.dup2 X.here X.hx rfl (hb X.hby hd) rfl hc hc' hr) k
theorem Go.istoreN (X : Cx p l e R s m args below meth c Z own nm bytes maxL rt T locs cells slots h) (pc' : Nat) {i : Fin 4} {z : Int32} (Ls' : Array Slot) (hd : decode bytes pc = .ok (.istore_n i, 1))  (hl : storeLocals Ls i.val (.int z) = some Ls') (k : Go p e below En T m pc' Ls' st) (hp : pc + 1 = pc' := by rfl) : Go p e below En T m pc Ls (.int z :: st) := by
  subst hp
  exact Go.step (fun _ hr => XS.istoreN X.here X.hx rfl (hb X.hby hd) rfl  hl hr) k
theorem Go.istore (X : Cx p l e R s m args below meth c Z own nm bytes maxL rt T locs cells slots h) (pc' : Nat) {i : Nat} {z : Int32} (Ls' : Array Slot) (hd : decode bytes pc = .ok (.istore i, 2))  (hl : storeLocals Ls i (.int z) = some Ls') (k : Go p e below En T m pc' Ls' st) (hp : pc + 2 = pc' := by rfl) : Go p e below En T m pc Ls (.int z :: st) := by
  subst hp
  exact Go.step (fun _ hr => XS.istore X.here X.hx rfl (hb X.hby hd) rfl  hl hr) k
theorem Go.lstoreN (X : Cx p l e R s m args below meth c Z own nm bytes maxL rt T locs cells slots h) (pc' : Nat) {i : Fin 4} {z : Int64} (Ls' : Array Slot) (hd : decode bytes pc = .ok (.lstore_n i, 1))  (hl : storeLocals Ls i.val (.long z) = some Ls') (k : Go p e below En T m pc' Ls' st) (hp : pc + 1 = pc' := by rfl) : Go p e below En T m pc Ls (.long z :: st) := by
  subst hp
  exact Go.step (fun _ hr => XT.lstoreN X.here X.hx rfl (hb X.hby hd) rfl  hl hr) k
theorem Go.lstore (X : Cx p l e R s m args below meth c Z own nm bytes maxL rt T locs cells slots h) (pc' : Nat) {i : Nat} {z : Int64} (Ls' : Array Slot) (hd : decode bytes pc = .ok (.lstore i, 2))  (hl : storeLocals Ls i (.long z) = some Ls') (k : Go p e below En T m pc' Ls' st) (hp : pc + 2 = pc' := by rfl) : Go p e below En T m pc Ls (.long z :: st) := by
  subst hp
  exact Go.step (fun _ hr => XT.lstore X.here X.hx rfl (hb X.hby hd) rfl  hl hr) k
theorem Go.astoreN (X : Cx p l e R s m args below meth c Z own nm bytes maxL rt T locs cells slots h) (pc' : Nat) {i : Fin 4} {v : Value} (Ls' : Array Slot) (hd : decode bytes pc = .ok (.astore_n i, 1)) (hv : v.isRef = true) (hl : storeLocals Ls i.val (v) = some Ls') (k : Go p e below En T m pc' Ls' st) (hp : pc + 1 = pc' := by rfl) : Go p e below En T m pc Ls (v :: st) := by
  subst hp
  exact Go.step (fun _ hr => XS.astoreN X.here X.hx rfl (hb X.hby hd) rfl hv hl hr) k
theorem Go.astore (X : Cx p l e R s m args below meth c Z own nm bytes maxL rt T locs cells slots h) (pc' : Nat) {i : Nat} {v : Value} (Ls' : Array Slot) (hd : decode bytes pc = .ok (.astore i, 2)) (hv : v.isRef = true) (hl : storeLocals Ls i (v) = some Ls') (k : Go p e below En T m pc' Ls' st) (hp : pc + 2 = pc' := by rfl) : Go p e below En T m pc Ls (v :: st) := by
  subst hp
  exact Go.step (fun _ hr => XS.astore X.here X.hx rfl (hb X.hby hd) rfl hv hl hr) k
theorem Go.iinc (X : Cx p l e R s m args below meth c Z own nm bytes maxL rt T locs cells slots h) (pc' : Nat) {i : Nat} {x : Int32} {cst : Int} (z : Int32) (Ls' : Array Slot) (hd : decode bytes pc = .ok (.iinc i cst, 3)) (hl0 : Ls[i]? = some (.val (.int x))) (hl : storeLocals Ls i (.int (x + z)) = some Ls') (k : Go p e below En T m pc' Ls' st) (hp : pc + 3 = pc' := by rfl) (hv : Int32.ofInt cst = z := by rfl) : Go p e below En T m pc Ls st := by
  subst hp
  exact Go.step (fun _ hr => XT.iincV X.here X.hx rfl z (hb X.hby hd) hv hl0 hl hr) k
theorem Go.goto (X : Cx p l e R s m args below meth c Z own nm bytes maxL rt T locs cells slots h) (pc' : Nat) {o : Int} (hd : decode bytes pc = .ok (.goto o, 3)) (k : Go p e below En T m pc' Ls st) (ho : 0 ≤ (pc : Int) + o := by decide) (hp : ((pc : Int) + o).toNat = pc' := by decide) : Go p e below En T m pc Ls st :=
  Go.step (fun _ hr => XS.goto X.here X.hx rfl rfl (hb X.hby hd) ho hp hr) k
theorem Go.if0Y (X : Cx p l e R s m args below meth c Z own nm bytes maxL rt T locs cells slots h) (pc' : Nat) {cd : ClassFile.Cond} {x : Int32} {o : Int} (hd : decode bytes pc = .ok (.ifCond cd o, 3)) (hc : ifCond.holds cd x = true) (k : Go p e below En T m pc' Ls st) (ho : 0 ≤ (pc : Int) + o := by decide) (hp : ((pc : Int) + o).toNat = pc' := by decide) : Go p e below En T m pc Ls (.int x :: st) :=
  Go.step (fun _ hr => XS.ifYes X.here X.hx rfl rfl (hb X.hby hd) rfl hc ho hp hr) k
theorem Go.if0N (X : Cx p l e R s m args below meth c Z own nm bytes maxL rt T locs cells slots h) (pc' : Nat) {cd : ClassFile.Cond} {x : Int32} {o : Int} (hd : decode bytes pc = .ok (.ifCond cd o, 3)) (hc : ifCond.holds cd x = false) (k : Go p e below En T m pc' Ls st) (hp : pc + 3 = pc' := by rfl) : Go p e below En T m pc Ls (.int x :: st) := by
  subst hp
  exact Go.step (fun _ hr => XS.ifNo X.here X.hx rfl (hb X.hby hd) rfl hc hr) k
theorem Go.icmpY (X : Cx p l e R s m args below meth c Z own nm bytes maxL rt T locs cells slots h) (pc' : Nat) {cd : ClassFile.Cond} {x y : Int32} {o : Int} (hd : decode bytes pc = .ok (.if_icmp cd o, 3)) (hc : if_icmp.holds cd x y = true) (k : Go p e below En T m pc' Ls st) (ho : 0 ≤ (pc : Int) + o := by decide) (hp : ((pc : Int) + o).toNat = pc' := by decide) : Go p e below En T m pc Ls (.int y :: .int x :: st) :=
  Go.step (fun _ hr => XS.icmpYes X.here X.hx rfl rfl (hb X.hby hd) rfl hc ho hp hr) k
theorem Go.icmpN (X : Cx p l e R s m args below meth c Z own nm bytes maxL rt T locs cells slots h) (pc' : Nat) {cd : ClassFile.Cond} {x y : Int32} {o : Int} (hd : decode bytes pc = .ok (.if_icmp cd o, 3)) (hc : if_icmp.holds cd x y = false) (k : Go p e below En T m pc' Ls st) (hp : pc + 3 = pc' := by rfl) : Go p e below En T m pc Ls (.int y :: .int x :: st) := by
  subst hp
  exact Go.step (fun _ hr => XS.icmpNo X.here X.hx rfl (hb X.hby hd) rfl hc hr) k
theorem Go.acmpY (X : Cx p l e R s m args below meth c Z own nm bytes maxL rt T locs cells slots h) (pc' : Nat) {cd : ClassFile.ACond} {x y : Value} {o : Int} (hd : decode bytes pc = .ok (.if_acmp cd o, 3)) (hx' : x.isRef = true) (hy' : y.isRef = true) (hc : XT.acmp cd x y = true) (k : Go p e below En T m pc' Ls st) (ho : 0 ≤ (pc : Int) + o := by decide) (hp : ((pc : Int) + o).toNat = pc' := by decide) : Go p e below En T m pc Ls (y :: x :: st) :=
  Go.step (fun _ hr => XT.acmpYes X.here X.hx rfl rfl (hb X.hby hd) rfl hx' hy' hc ho hp hr) k
theorem Go.acmpN (X : Cx p l e R s m args below meth c Z own nm bytes maxL rt T locs cells slots h) (pc' : Nat) {cd : ClassFile.ACond} {x y : Value} {o : Int} (hd : decode bytes pc = .ok (.if_acmp cd o, 3)) (hx' : x.isRef = true) (hy' : y.isRef = true) (hc : XT.acmp cd x y = false) (k : Go p e below En T m pc' Ls st) (hp : pc + 3 = pc' := by rfl) : Go p e below En T m pc Ls (y :: x :: st) := by
  subst hp
  exact Go.step (fun _ hr => XT.acmpNo X.here X.hx rfl (hb X.hby hd) rfl hx' hy' hc hr) k
theorem Go.ifnullY (X : Cx p l e R s m args below meth c Z own nm bytes maxL rt T locs cells slots h) (pc' : Nat) {o : Int} (hd : decode bytes pc = .ok (.ifnull o, 3)) (k : Go p e below En T m pc' Ls st) (ho : 0 ≤ (pc : Int) + o := by decide) (hp : ((pc : Int) + o).toNat = pc' := by decide) : Go p e below En T m pc Ls (.null :: st) :=
  Go.step (fun _ hr => XS.ifnullYes X.here X.hx rfl rfl (hb X.hby hd) rfl ho hp hr) k
theorem Go.ifnullN (X : Cx p l e R s m args below meth c Z own nm bytes maxL rt T locs cells slots h) (pc' : Nat) {a : Addr} {o : Int} (hd : decode bytes pc = .ok (.ifnull o, 3)) (k : Go p e below En T m pc' Ls st) (hp : pc + 3 = pc' := by rfl) : Go p e below En T m pc Ls (.ref a :: st) := by
  subst hp
  exact Go.step (fun _ hr => XS.ifnullNo X.here X.hx rfl (hb X.hby hd) rfl hr) k
theorem Go.ifnonnullY (X : Cx p l e R s m args below meth c Z own nm bytes maxL rt T locs cells slots h) (pc' : Nat) {a : Addr} {o : Int} (hd : decode bytes pc = .ok (.ifnonnull o, 3)) (k : Go p e below En T m pc' Ls st) (ho : 0 ≤ (pc : Int) + o := by decide) (hp : ((pc : Int) + o).toNat = pc' := by decide) : Go p e below En T m pc Ls (.ref a :: st) :=
  Go.step (fun _ hr => XT.ifnonnullYes X.here X.hx rfl rfl (hb X.hby hd) rfl ho hp hr) k
theorem Go.ifnonnullN (X : Cx p l e R s m args below meth c Z own nm bytes maxL rt T locs cells slots h) (pc' : Nat) {o : Int} (hd : decode bytes pc = .ok (.ifnonnull o, 3)) (k : Go p e below En T m pc' Ls st) (hp : pc + 3 = pc' := by rfl) : Go p e below En T m pc Ls (.null :: st) := by
  subst hp
  exact Go.step (fun _ hr => XT.ifnonnullNo X.here X.hx rfl (hb X.hby hd) rfl hr) k
theorem Go.tsw (X : Cx p l e R s m args below meth c Z own nm bytes maxL rt T locs cells slots h) (pc' : Nat) {dflt low high o : Int} {offs : Array Int} {len : Nat} {i : Int32} (hd : decode bytes pc = .ok (.tableswitch dflt low high offs, len)) (hin : ¬ (i.toInt < low ∨ i.toInt > high)) (hoff : offs[(i.toInt - low).toNat]? = some o) (k : Go p e below En T m pc' Ls st) (ho : 0 ≤ (pc : Int) + o := by decide) (hp : ((pc : Int) + o).toNat = pc' := by decide) : Go p e below En T m pc Ls (.int i :: st) :=
  Go.step (fun _ hr => XS.tswIn X.here X.hx rfl rfl (hb X.hby hd) rfl hin hoff ho hp hr) k
theorem Go.ldcI (X : Cx p l e R s m args below meth c Z own nm bytes maxL rt T locs cells slots h) (pc' : Nat) {idx : Nat} {v : Int32} (w : (Jvm.Cond.constant own idx v).before a0 Z = true) (hd : decode bytes pc = .ok (.ldc idx, 2)) (k : Go p e below En T m pc' Ls (.int v :: st)) (hp : pc + 2 = pc' := by rfl) : Go p e below En T m pc Ls st := by
  subst hp
  exact Go.step (fun _ hr => X.sd.ldcI X.hx X.hown (mvT X.hZ w) rfl (hb X.hby hd) hr) k
theorem Go.ldcJ (X : Cx p l e R s m args below meth c Z own nm bytes maxL rt T locs cells slots h) (pc' : Nat) {idx : Nat} {v : Int64} (w : (Jvm.Cond.constantLong own idx v).before a0 Z = true) (hd : decode bytes pc = .ok (.ldc2_w idx, 3)) (k : Go p e below En T m pc' Ls (.long v :: st)) (hp : pc + 3 = pc' := by rfl) : Go p e below En T m pc Ls st := by
  subst hp
  exact Go.step (fun _ hr => X.sd.ldc2J X.hx X.hown (mvT X.hZ w) rfl (hb X.hby hd) hr) k
theorem Go.getS (X : Cx p l e R s m args below meth c Z own nm bytes maxL rt T locs cells slots h) (pc' : Nat) {O n d : String} {idx : Nat} {v : Value} (w : (Jvm.Cond.fieldLink own idx O n d).before a0 Z = true) (F : Sta Z Z.heap O n d v) (hd : decode bytes pc = .ok (.getstatic idx, 3)) (k : ∀ T', Cx p l e R s m args below meth c Z own nm bytes maxL rt T' locs cells slots h → Go p e below En T' m pc' Ls (v :: st)) (hp : pc + 3 = pc' := by rfl) : Go p e below En T m pc Ls st := by
  subst hp
  obtain ⟨T', X', e', st'⟩ := RoadKit.getS (host := "") X.sd X.hx X.hZ X.hown w Via.refl X.eq (F.ext X.old) (g := mkF m pc Ls st) rfl (hb X.hby hd)
  exact Go.step st' (k T' (X.mk' X' e' X.fr X.old))
theorem Go.getF (X : Cx p l e R s m args below meth c Z own nm bytes maxL rt T locs cells slots h) (pc' : Nat) {O n d : String} {idx : Nat} {a : Addr} {v : Value} (w : (Jvm.Cond.fieldLink own idx O n d).before a0 Z = true) (F : Fld Z h a O n d v) (hd : decode bytes pc = .ok (.getfield idx, 3)) (k : ∀ T', Cx p l e R s m args below meth c Z own nm bytes maxL rt T' locs cells slots h → Go p e below En T' m pc' Ls (v :: st)) (hp : pc + 3 = pc' := by rfl) : Go p e below En T m pc Ls (.ref a :: st) := by
  subst hp
  obtain ⟨T', X', e', st'⟩ := RoadKit.getF (host := "") X.sd X.hx X.hZ X.hown (Or.inl w) Via.refl X.eq F (g := mkF m pc Ls (.ref a :: st)) rfl rfl (hb X.hby hd)
  exact Go.step st' (k T' (X.mk' X' e' X.fr X.old))
theorem Go.getFN (X : Cx p l e R s m args below meth c Z own nm bytes maxL rt T locs cells slots h) (pc' : Nat) {O n d host : String} {idx : Nat} {a : Addr} {v : Value} (w : (Jvm.Cond.fieldLinkNest own idx O n d host).before a0 Z = true) (F : Fld Z h a O n d v) (hd : decode bytes pc = .ok (.getfield idx, 3)) (k : ∀ T', Cx p l e R s m args below meth c Z own nm bytes maxL rt T' locs cells slots h → Go p e below En T' m pc' Ls (v :: st)) (hp : pc + 3 = pc' := by rfl) : Go p e below En T m pc Ls (.ref a :: st) := by
  subst hp
  obtain ⟨T', X', e', st'⟩ := RoadKit.getF X.sd X.hx X.hZ X.hown (Or.inr w) Via.refl X.eq F (g := mkF m pc Ls (.ref a :: st)) rfl rfl (hb X.hby hd)
  exact Go.step st' (k T' (X.mk' X' e' X.fr X.old))
theorem Go.putF (X : Cx p l e R s m args below meth c Z own nm bytes maxL rt T locs cells slots h) (pc' : Nat) {O n d C : String} {idx kk : Nat} {ty : FieldType} {a : Addr} {v old : Value} (w : (Jvm.Cond.fieldLink own idx O n d).before a0 Z = true) (F : Fld Z h a O n d old) (E : Exa Z h a C) (L : (Jvm.Cond.lays C O n d).before a0 Z = true ∨ ((Jvm.Cond.laysFinal C O n d).before a0 Z = true ∧ own = O ∧ nm = "<init>")) (wi : (Jvm.Cond.instantiable C kk).before a0 Z = true) (hty : parseFieldDescriptor d = some ty) (hn : narrow ty v = v) (hf : fits ty v = true) (ha : Z.heap.size ≤ a) (hd : decode bytes pc = .ok (.putfield idx, 3))
    (k : ∀ T' h', Cx p l e R s m args below meth c Z own nm bytes maxL rt T' (locs ++ [⟨a, RoadKit.slotOf Z O n d⟩]) cells slots h' → Wr h h' a (RoadKit.slotOf Z O n d) v → Go p e below En T' m pc' Ls st) (hp : pc + 3 = pc' := by rfl) : Go p e below En T m pc Ls (v :: .ref a :: st) := by
  subst hp
  obtain ⟨T', h', X', e', W, st'⟩ := RoadKit.putF (host := "") X.sd X.hx X.hZ X.hown (Or.inl w) Via.refl X.eq F E (L.imp id fun q => ⟨q.1, q.2.1, X.hnm.trans q.2.2⟩) wi hty hn hf (g := mkF m pc Ls (v :: .ref a :: st)) rfl rfl (hb X.hby hd)
  exact Go.step st' (k T' h' (X.mk' X' e' (Fr.snoc X' X.fr ha) (Ext.wr X.old W ha)) W)
theorem Go.newO (X : Cx p l e R s m args below meth c Z own nm bytes maxL rt T locs cells slots h) (pc' : Nat) {C : String} {idx n : Nat} (w : (Jvm.Cond.classLink own idx C).before a0 Z = true) (wi : (Jvm.Cond.instantiable C n).before a0 Z = true) (wz : (Jvm.Cond.initialized C).before a0 Z = true) (hd : decode bytes pc = .ok (.new idx, 3)) (hc : cells + 1 ≤ R.cells) (hl : slots + n ≤ R.slots)
    (k : ∀ T' h' a, Cx p l e R s m args below meth c Z own nm bytes maxL rt T' locs (cells + 1) (slots + n) h' → Ext h h' → h.size = a → Exa Z h' a C → (∀ {O nm d : String} {ty : FieldType}, Laid Z a0 C O nm d → parseFieldDescriptor d = some ty → Fld Z h' a O nm d (defaultValue ty)) → Go p e below En T' m pc' Ls (.ref a :: st)) (hp : pc + 3 = pc' := by rfl) : Go p e below En T m pc Ls st := by
  subst hp
  obtain ⟨T', h', X', e', E, A, D, -, st'⟩ := RoadKit.newO X.sd X.hx X.hZ X.hown w wi wz X.eq (g := mkF m pc Ls st) rfl (hb X.hby hd) hc hl
  exact Go.step st' (k T' h' _ (X.mk' X' e' X.fr (Ext.tr X.old E)) E rfl A D)
theorem Go.initO (X : Cx p l e R s m args below meth c Z own nm bytes maxL rt T locs cells slots h) (pc' : Nat) {idx : Nat} {a : Addr} (w1 : (Jvm.Cond.methodLink own idx Lib.objectInit).before a0 Z = true) (w2 : (Jvm.Cond.instanceMethod Lib.objectInit).before a0 Z = true) (w3 : (Jvm.Cond.code Lib.objectInit ⟨#[0xb1]⟩ 1 none).before a0 Z = true) (W : Nat) (hd : decode bytes pc = .ok (.invokespecial idx, 3)) (hsz : Ls.size = maxL) (hf : 1 ≤ R.frames) (hW : (st.map fun v => v.category).sum ≤ W) (hl : W + 12 ≤ R.locals)
    (k : ∀ T', Cx p l e R s m args below meth c Z own nm bytes maxL rt T' locs cells slots h → Go p e below En T' m pc' Ls st) (hp : pc + 3 = pc' := by rfl) : Go p e below En T m pc Ls (.ref a :: st) := by
  subst hp
  obtain ⟨T', X', e', st'⟩ := RoadKit.initO X.sd X.hx X.hZ X.hown w1 w2 w3 X.eq (g := mkF m pc Ls (.ref a :: st)) rfl (hsz.trans X.hml.symm) rfl (hb X.hby hd) hf (W := W) (by simpa using hW) hl
  exact Go.step st' (k T' (X.mk' X' e' X.fr X.old))
theorem Go.newP (X : Cx p l e R s m args below meth c Z own nm bytes maxL rt T locs cells slots h) (pc' : Nat) {aty : ArrayType} {n : Int32} (w : (Jvm.Cond.arrayClass (newarray.typeOf aty)).before a0 Z = true) (hd : decode bytes pc = .ok (.newarray aty, 2)) (cap : Nat) (hn : ¬ n < 0) (hcap : n.toNatClampNeg ≤ cap) (hb' : cap * 8 ≤ 536870912) (hc : cells + 1 ≤ R.cells) (hl : slots + cap ≤ R.slots)
    (k : ∀ T' h' a kA, Cx p l e R s m args below meth c Z own nm bytes maxL rt T' locs (cells + 1) (slots + cap) h' → Ext h h' → h.size = a → Arv Z h' a kA (newarray.typeOf aty) n [] (defaultValue (newarray.typeOf aty)) → Go p e below En T' m pc' Ls (.ref a :: st)) (hp : pc + 2 = pc' := by rfl) : Go p e below En T m pc Ls (.int n :: st) := by
  subst hp
  obtain ⟨T', h', kA, X', e', E, A, st'⟩ := RoadKit.newP X.sd X.hx X.hZ w X.eq (g := mkF m pc Ls (.int n :: st)) rfl (hb X.hby hd) rfl hn hcap hb' hc hl
  exact Go.step st' (k T' h' _ kA (X.mk' X' e' X.fr (Ext.tr X.old E)) E rfl (Arv.new A hn))
theorem Go.newR (X : Cx p l e R s m args below meth c Z own nm bytes maxL rt T locs cells slots h) (pc' : Nat) {D : String} {idx : Nat} {n : Int32} (w1 : (Jvm.Cond.classLink own idx D).before a0 Z = true) (w2 : (Jvm.Cond.arrayOver (.object D)).before a0 Z = true) (hd : decode bytes pc = .ok (.anewarray idx, 3)) (cap : Nat) (hn : ¬ n < 0) (hcap : n.toNatClampNeg ≤ cap) (hb' : cap * 8 ≤ 536870912) (hc : cells + 1 ≤ R.cells) (hl : slots + cap ≤ R.slots)
    (k : ∀ T' h' a kA, Cx p l e R s m args below meth c Z own nm bytes maxL rt T' locs (cells + 1) (slots + cap) h' → Ext h h' → h.size = a → Ovr Z kA D → Arv Z h' a kA (.object D) n [] .null → Go p e below En T' m pc' Ls (.ref a :: st)) (hp : pc + 3 = pc' := by rfl) : Go p e below En T m pc Ls (.int n :: st) := by
  subst hp
  obtain ⟨T', h', kA, X', e', E, A, O, st'⟩ := RoadKit.newR X.sd X.hx X.hZ X.hown w1 w2 X.eq (g := mkF m pc Ls (.int n :: st)) rfl (hb X.hby hd) rfl hn hcap hb' hc hl
  exact Go.step st' (k T' h' _ kA (X.mk' X' e' X.fr (Ext.tr X.old E)) E rfl O (Arv.new A hn))
theorem Go.stC (X : Cx p l e R s m args below meth c Z own nm bytes maxL rt T locs cells slots h) (pc' : Nat) {a : Addr} {kA : ClassId} {n j x : Int32} {vs : List Value} {d : Value} (V : Arv Z h a kA .char n vs d) (hd : decode bytes pc = .ok (.castore, 1)) (hj : ¬ j < 0 ∧ j < n) (i : Nat) (hi : j.toNatClampNeg = i) (hlt : i < vs.length) (ha : Z.heap.size ≤ a)
    (k : ∀ T' h', Cx p l e R s m args below meth c Z own nm bytes maxL rt T' (locs ++ [⟨a, j.toNatClampNeg⟩]) cells slots h' → Wr h h' a j.toNatClampNeg (.int (nar .char x)) → Arv Z h' a kA .char n (vs.set i (.int (nar .char x))) d → Go p e below En T' m pc' Ls st) (hp : pc + 1 = pc' := by rfl) : Go p e below En T m pc Ls (.int x :: .int j :: .ref a :: st) := by
  subst hp
  obtain ⟨cl, A, q1, S, q3, H, G⟩ := V
  obtain ⟨T', h', X', e', W, st'⟩ := RoadKit.stC X.sd X.hx X.hZ X.eq A (inb_of S hj) (g := mkF m pc Ls (.int x :: .int j :: .ref a :: st)) rfl rfl (hb X.hby hd)
  exact Go.step st' (k T' h' (X.mk' X' e' (Fr.snoc X' X.fr ha) (Ext.wr X.old W ha)) W (Arv.set A q1 S q3 H G (fits_nar_char x) W i hi hlt))
theorem Go.stB (X : Cx p l e R s m args below meth c Z own nm bytes maxL rt T locs cells slots h) (pc' : Nat) {a : Addr} {kA : ClassId} {n j x : Int32} {vs : List Value} {d : Value} (V : Arv Z h a kA .byte n vs d) (hd : decode bytes pc = .ok (.bastore, 1)) (hj : ¬ j < 0 ∧ j < n) (i : Nat) (hi : j.toNatClampNeg = i) (hlt : i < vs.length) (ha : Z.heap.size ≤ a)
    (k : ∀ T' h', Cx p l e R s m args below meth c Z own nm bytes maxL rt T' (locs ++ [⟨a, j.toNatClampNeg⟩]) cells slots h' → Wr h h' a j.toNatClampNeg (.int (nar .byte x)) → Arv Z h' a kA .byte n (vs.set i (.int (nar .byte x))) d → Go p e below En T' m pc' Ls st) (hp : pc + 1 = pc' := by rfl) : Go p e below En T m pc Ls (.int x :: .int j :: .ref a :: st) := by
  subst hp
  obtain ⟨cl, A, q1, S, q3, H, G⟩ := V
  obtain ⟨T', h', X', e', W, st'⟩ := RoadKit.stB X.sd X.hx X.hZ X.eq A (inb_of S hj) (g := mkF m pc Ls (.int x :: .int j :: .ref a :: st)) rfl rfl (hb X.hby hd)
  exact Go.step st' (k T' h' (X.mk' X' e' (Fr.snoc X' X.fr ha) (Ext.wr X.old W ha)) W (Arv.set A q1 S q3 H G (fits_nar_byte x) W i hi hlt))
theorem Go.stR (X : Cx p l e R s m args below meth c Z own nm bytes maxL rt T locs cells slots h) (pc' : Nat) {a y : Addr} {kA : ClassId} {D : String} {n j : Int32} {vs : List Value} {d : Value} (V : Arv Z h a kA (.object D) n vs d) (O : Ovr Z kA D) (I : Ins Z h y D true) (hd : decode bytes pc = .ok (.aastore, 1)) (hj : ¬ j < 0 ∧ j < n) (i : Nat) (hi : j.toNatClampNeg = i) (hlt : i < vs.length) (ha : Z.heap.size ≤ a)
    (k : ∀ T' h', Cx p l e R s m args below meth c Z own nm bytes maxL rt T' (locs ++ [⟨a, j.toNatClampNeg⟩]) cells slots h' → Wr h h' a j.toNatClampNeg (.ref y) → Arv Z h' a kA (.object D) n (vs.set i (.ref y)) d → Go p e below En T' m pc' Ls st) (hp : pc + 1 = pc' := by rfl) : Go p e below En T m pc Ls (.ref y :: .int j :: .ref a :: st) := by
  subst hp
  obtain ⟨cl, A, q1, S, q3, H, G⟩ := V
  obtain ⟨T', h', X', e', W, st'⟩ := RoadKit.stR X.sd X.hx X.hZ X.eq A (inb_of S hj) rfl (Sto.ofV A q1 O I) (g := mkF m pc Ls (.ref y :: .int j :: .ref a :: st)) rfl rfl (hb X.hby hd)
  exact Go.step st' (k T' h' (X.mk' X' e' (Fr.snoc X' X.fr ha) (Ext.wr X.old W ha)) W (Arv.set A q1 S q3 H G rfl W i hi hlt))
theorem Go.alen (X : Cx p l e R s m args below meth c Z own nm bytes maxL rt T locs cells slots h) (pc' : Nat) {a : Addr} {kA : ClassId} {ty : FieldType} {n : Int32} {vs : List Value} {d : Value} (V : Arv Z h a kA ty n vs d) (hd : decode bytes pc = .ok (.arraylength, 1)) (k : Go p e below En T m pc' Ls (.int n :: st)) (hp : pc + 1 = pc' := by rfl) : Go p e below En T m pc Ls (.ref a :: st) := by
  subst hp
  obtain ⟨cl, A, q1, S, q3, H, G⟩ := V
  refine Go.step (fun _ hr => X.sd.arraylength X.hx (by rw [X.eq]; exact A.1) (State.isArrayOf_alike X.hZ.alike A.2.1) (g := mkF m pc Ls (.ref a :: st)) rfl rfl (hb X.hby hd) _ hr) ?_
  rw [len_of S q3]; exact k
theorem Go.caload (X : Cx p l e R s m args below meth c Z own nm bytes maxL rt T locs cells slots h) (pc' : Nat) {a : Addr} {kA : ClassId} {n j : Int32} {vs : List Value} {d v : Value} (V : Arv Z h a kA .char n vs d) (hd : decode bytes pc = .ok (.caload, 1)) (hj : ¬ j < 0 ∧ j < n) (u : vs.getD j.toNatClampNeg d = v) (k : Go p e below En T m pc' Ls (v :: st)) (hp : pc + 1 = pc' := by rfl) : Go p e below En T m pc Ls (.int j :: .ref a :: st) := by
  subst hp
  obtain ⟨cl, A, q1, S, q3, H, G⟩ := V
  exact Go.step (fun _ hr => X.sd.caload X.hx (by rw [X.eq]; exact A.1) (State.isArrayOf_alike X.hZ.alike A.2.1) A.2.2 (inb_of S hj) (H.at (inb_of S hj) u) (g := mkF m pc Ls (.int j :: .ref a :: st)) rfl rfl (hb X.hby hd) _ hr) k
theorem Go.baload (X : Cx p l e R s m args below meth c Z own nm bytes maxL rt T locs cells slots h) (pc' : Nat) {a : Addr} {kA : ClassId} {n j : Int32} {vs : List Value} {d v : Value} (V : Arv Z h a kA .byte n vs d) (hd : decode bytes pc = .ok (.baload, 1)) (hj : ¬ j < 0 ∧ j < n) (u : vs.getD j.toNatClampNeg d = v) (k : Go p e below En T m pc' Ls (v :: st)) (hp : pc + 1 = pc' := by rfl) : Go p e below En T m pc Ls (.int j :: .ref a :: st) := by
  subst hp
  obtain ⟨cl, A, q1, S, q3, H, G⟩ := V
  exact Go.step (fun _ hr => X.sd.baloadBytes X.hx (by rw [X.eq]; exact A.1) (State.isArrayOf_alike X.hZ.alike A.2.1) A.2.2 (inb_of S hj) (H.at (inb_of S hj) u) (g := mkF m pc Ls (.int j :: .ref a :: st)) rfl rfl (hb X.hby hd) _ hr) k
theorem Go.aaload (X : Cx p l e R s m args below meth c Z own nm bytes maxL rt T locs cells slots h) (pc' : Nat) {a : Addr} {kA : ClassId} {ty : FieldType} {n j : Int32} {vs : List Value} {d v : Value} (V : Arv Z h a kA ty n vs d) (hty : ty.isReference = true) (hd : decode bytes pc = .ok (.aaload, 1)) (hj : ¬ j < 0 ∧ j < n) (u : vs.getD j.toNatClampNeg d = v) (k : Go p e below En T m pc' Ls (v :: st)) (hp : pc + 1 = pc' := by rfl) : Go p e below En T m pc Ls (.int j :: .ref a :: st) := by
  subst hp
  obtain ⟨cl, A, q1, S, q3, H, G⟩ := V
  exact Go.step (fun _ hr => X.sd.aaload X.hx (by rw [X.eq]; exact A.1) (State.isArrayOf_alike X.hZ.alike A.2.1) hty A.2.2 (inb_of S hj) (H.at (inb_of S hj) u) (g := mkF m pc Ls (.int j :: .ref a :: st)) rfl rfl (hb X.hby hd) _ hr) k
theorem Go.castY (X : Cx p l e R s m args below meth c Z own nm bytes maxL rt T locs cells slots h) (pc' : Nat) {K : String} {idx : Nat} {a : Addr} (w : (Jvm.Cond.classLink own idx K).before a0 Z = true) (F : Ins Z h a K true) (hd : decode bytes pc = .ok (.checkcast idx, 3)) (k : ∀ T', Cx p l e R s m args below meth c Z own nm bytes maxL rt T' locs cells slots h → Go p e below En T' m pc' Ls (.ref a :: st)) (hp : pc + 3 = pc' := by rfl) : Go p e below En T m pc Ls (.ref a :: st) := by
  subst hp
  obtain ⟨T', X', e', st'⟩ := RoadKit.castY X.sd X.hx X.hZ X.hown w X.eq F (g := mkF m pc Ls (.ref a :: st)) rfl rfl (hb X.hby hd)
  exact Go.step st' (k T' (X.mk' X' e' X.fr X.old))
theorem Go.instY (X : Cx p l e R s m args below meth c Z own nm bytes maxL rt T locs cells slots h) (pc' : Nat) {K : String} {idx : Nat} {a : Addr} (w : (Jvm.Cond.classLink own idx K).before a0 Z = true) (F : Ins Z h a K true) (hd : decode bytes pc = .ok (.instanceof idx, 3)) (k : ∀ T', Cx p l e R s m args below meth c Z own nm bytes maxL rt T' locs cells slots h → Go p e below En T' m pc' Ls (.int 1 :: st)) (hp : pc + 3 = pc' := by rfl) : Go p e below En T m pc Ls (.ref a :: st) := by
  subst hp
  obtain ⟨T', X', e', st'⟩ := RoadKit.instY X.sd X.hx X.hZ X.hown w X.eq F (g := mkF m pc Ls (.ref a :: st)) rfl rfl (hb X.hby hd)
  exact Go.step st' (k T' (X.mk' X' e' X.fr X.old))
theorem Go.instNo (X : Cx p l e R s m args below meth c Z own nm bytes maxL rt T locs cells slots h) (pc' : Nat) {K D : String} {idx : Nat} {a : Addr} (w : (Jvm.Cond.classLink own idx K).before a0 Z = true) (E : Exa Z h a D) (F : ∃ c t, Z.vm.findClass D = some c ∧ Z.vm.findClass K = some t ∧ Z.vm.assignable c t = false) (hd : decode bytes pc = .ok (.instanceof idx, 3)) (k : ∀ T', Cx p l e R s m args below meth c Z own nm bytes maxL rt T' locs cells slots h → Go p e below En T' m pc' Ls (.int 0 :: st)) (hp : pc + 3 = pc' := by rfl) : Go p e below En T m pc Ls (.ref a :: st) := by
  subst hp
  obtain ⟨T', X', e', st'⟩ := RoadKit.instNo X.sd X.hx X.hZ X.hown w X.eq E F (g := mkF m pc Ls (.ref a :: st)) rfl rfl (hb X.hby hd)
  exact Go.step st' (k T' (X.mk' X' e' X.fr X.old))
theorem Go.instNull (X : Cx p l e R s m args below meth c Z own nm bytes maxL rt T locs cells slots h) (pc' : Nat) {idx : Nat} (hd : decode bytes pc = .ok (.instanceof idx, 3)) (k : Go p e below En T m pc' Ls (.int 0 :: st)) (hp : pc + 3 = pc' := by rfl) : Go p e below En T m pc Ls (.null :: st) := by
  subst hp
  exact Go.step (Jvm.Stand.instanceofNull X.sd X.hx (g := mkF m pc Ls (.null :: st)) rfl rfl (hb X.hby hd)) k
theorem own_noSub {C S K : String} {n : Nat} (w : (Jvm.Cond.superclass C S).before a0 Z = true) (wk : (Jvm.Cond.instantiable K n).before a0 Z = true) (wr : (Jvm.Cond.noSuperclass S).before a0 Z = true) (h1 : C ≠ K) (h2 : S ≠ K) : ∃ c t, Z.vm.findClass C = some c ∧ Z.vm.findClass K = some t ∧ Z.vm.assignable c t = false := by
  obtain ⟨t, kt, g1, g2, g3, g4, -⟩ := Cond.instantiable_spec wk
  have hi : kt.isInterface = false := by rw [Bool.or_eq_false_iff] at g4; exact g4.1
  have nr : NS Z S K := by
    obtain ⟨c, k, r1, r2, r3, -, -⟩ := Cond.noSuperclass_spec wr
    refine ⟨c, t, r1, g1, fun fuel => ?_⟩
    have ne := ids_ne r1 g1 h2
    cases fuel with
    | zero => rfl
    | succ f => simp [Vm.isSubclassAux, ne, r2, r3]
  obtain ⟨c, t', h0, g0, n3⟩ := NS.step w nr h1
  cases g1.symm.trans g0
  obtain ⟨p, k, kp, -, k2, -, -, k5, -, -⟩ := Cond.superclass_spec h0 w
  have ne := ids_ne h0 g1 h1
  refine ⟨c, t, h0, g1, ?_⟩
  show Z.vm.assignableAux (255 + 1) c t = false
  simp [Vm.assignableAux, ne, k2, g2, k5, g3, hi, Vm.isSubclass, n3]
theorem Go.mono {En' : Option Value → State → Prop} (f : ∀ v t, En' v t → En v t) (k : Go p e below En' T m pc Ls st) : Go p e below En T m pc Ls st := by
  obtain ⟨s₂, v, k1, k2, k3, k4⟩ := k
  exact ⟨s₂, v, k1, k2, k3, f _ _ k4⟩
theorem Cx.back (X : Cx p l e R s m args below meth c Z own nm bytes maxL rt T locs cells slots h) {y : MethodName} {by' : ByteArray} {ml' : Nat} {rt' : Option FieldType} {rm : Room} {as' : Array Value} {Q' : Option Value → Heap → Prop} {len W : Nat} (ct : Ct l Z [] y by' ml' rt' rm as' h Q') (wc : (Jvm.Cond.code y by' ml' rt').before a0 Z = true) (wz : (Jvm.Cond.initialized y.cls).before a0 Z = true) (hf : rm.frames + 1 ≤ R.frames) (hl : W + (ml' + 11) + rm.locals ≤ R.locals) :
    Back l R p e below s args y len W (fun A a => a = as' ∧ A.U.heap = h ∧ A.cells + rm.cells ≤ R.cells ∧ A.slots + rm.slots ≤ R.slots) (fun A _ v B => ∃ L, (Fr Z.heap.size L ∧ Ext Z.heap B.U.heap ∧ Q' v B.U.heap) ∧ B.locs = A.locs ++ L ∧ B.cells = A.cells + rm.cells ∧ B.slots = A.slots + rm.slots) :=
  backOf (Q := fun v hh L => Fr Z.heap.size L ∧ Ext Z.heap hh ∧ Q' v hh) (ct X.old) X.hZ wc wz hf hl
theorem Go.callS (X : Cx p l e R s m args below meth c Z own nm bytes maxL rt T locs cells slots h) (pc' : Nat) {idx : Nat} {y : MethodName} {by' : ByteArray} {ml' : Nat} {rt' : Option FieldType} {rm : Room} {ps : List FieldType} {rr : Option FieldType} {Q' : Option Value → Heap → Prop} (argsL rest : List Value) (W : Nat) (wl : (Jvm.Cond.methodLink own idx y).before a0 Z = true) (ws : (Jvm.Cond.static y).before a0 Z = true) (wz : (Jvm.Cond.initialized y.cls).before a0 Z = true) (hy : y.cls ≠ "java/lang/invoke/MethodHandle" ∧ y.cls ≠ "java/lang/invoke/VarHandle") (wc : (Jvm.Cond.code y by' ml' rt').before a0 Z = true) (pd : parseMethodDescriptor y.desc = some ⟨ps, rr⟩) (hd : decode bytes pc = .ok (.invokestatic idx, 3)) (ct : Ct l Z [] y by' ml' rt' rm (argsL.toArray) h Q') (hlen : argsL.length = ps.length) (hst : st = argsL.reverse ++ rest) (hsz : Ls.size = maxL) (hW : (rest.map fun v => v.category).sum ≤ W) (hf : rm.frames + 1 ≤ R.frames) (hl : W + (ml' + 11) + rm.locals ≤ R.locals) (hce : cells + rm.cells ≤ R.cells) (hsl : slots + rm.slots ≤ R.slots)
    (k : ∀ T' v L, Cx p l e R s m args below meth c Z own nm bytes maxL rt T' (locs ++ L) (cells + rm.cells) (slots + rm.slots) T'.heap → Q' v T'.heap → Go p e below En T' m pc' Ls (v.toList ++ rest)) (hp : pc + 3 = pc' := by rfl) : Go p e below En T m pc Ls st := by
  subst hp
  obtain ⟨v, _, ⟨T', L', k', n'⟩, -, X', ⟨L, hq, e1, e2, e3⟩, st'⟩ := Jvm.LawKit.callS X.sd X.hx (y := y) X.hown (mvT X.hZ wl) (mvT X.hZ ws) (mvT X.hZ wz) (mvT X.hZ wc) hy (X.back (W := W) ct wc wz hf hl) (g := mkF m pc Ls st) rfl (hsz.trans X.hml.symm) (argsL := argsL) (rest := rest) (lenOf pd hlen) hst (by simpa using hW) (hb X.hby hd) (fun _ _ => ⟨rfl, X.eq, hce, hsl⟩)
  dsimp only [Pt.U, Pt.locs, Pt.cells, Pt.slots] at X' e1 e2 e3 st' hq
  subst e1 e2 e3
  exact Go.step st' (k T' v L (X.mk' X' rfl (X.fr.app hq.1) hq.2.1) hq.2.2)
theorem Go.callSP (X : Cx p l e R s m args below meth c Z own nm bytes maxL rt T locs cells slots h) (pc' : Nat) {idx : Nat} {y : MethodName} {by' : ByteArray} {ml' : Nat} {rt' : Option FieldType} {rm : Room} {ps : List FieldType} {rr : Option FieldType} {v : Value} (argsL rest : List Value) (W : Nat) (wl : (Jvm.Cond.methodLink own idx y).before a0 Z = true) (ws : (Jvm.Cond.static y).before a0 Z = true) (wz : (Jvm.Cond.initialized y.cls).before a0 Z = true) (hy : y.cls ≠ "java/lang/invoke/MethodHandle" ∧ y.cls ≠ "java/lang/invoke/VarHandle") (wc : (Jvm.Cond.code y by' ml' rt').before a0 Z = true) (pd : parseMethodDescriptor y.desc = some ⟨ps, rr⟩) (hd : decode bytes pc = .ok (.invokestatic idx, 3)) (ct : Ct l Z [] y by' ml' rt' rm (argsL.toArray) h (Pu h v)) (hlen : argsL.length = ps.length) (hst : st = argsL.reverse ++ rest) (hsz : Ls.size = maxL) (hW : (rest.map fun v => v.category).sum ≤ W) (hf : rm.frames + 1 ≤ R.frames) (hl : W + (ml' + 11) + rm.locals ≤ R.locals) (hce : cells + rm.cells ≤ R.cells) (hsl : slots + rm.slots ≤ R.slots)
    (k : ∀ T' L, Cx p l e R s m args below meth c Z own nm bytes maxL rt T' (locs ++ L) (cells + rm.cells) (slots + rm.slots) h → Go p e below En T' m pc' Ls (v :: rest)) (hp : pc + 3 = pc' := by rfl) : Go p e below En T m pc Ls st :=
  Go.callS X pc' argsL rest W wl ws wz hy wc pd hd ct hlen hst hsz hW hf hl hce hsl (fun T' v' L X' q => by
    obtain ⟨rfl, q2⟩ := q
    rw [q2] at X'
    exact k T' L X') hp
theorem Go.callI (X : Cx p l e R s m args below meth c Z own nm bytes maxL rt T locs cells slots h) (pc' : Nat) {idx : Nat} {y : MethodName} {by' : ByteArray} {ml' : Nat} {rt' : Option FieldType} {rm : Room} {ps : List FieldType} {rr : Option FieldType} {a : Addr} {Q' : Option Value → Heap → Prop} (argsL rest : List Value) (W : Nat) (hy1 : y.name = "<init>") (wl : (Jvm.Cond.methodLink own idx y).before a0 Z = true) (wm : (Jvm.Cond.instanceMethod y).before a0 Z = true) (wz : (Jvm.Cond.initialized y.cls).before a0 Z = true) (hy : y.cls ≠ "java/lang/invoke/MethodHandle" ∧ y.cls ≠ "java/lang/invoke/VarHandle") (hrn : rt' = none) (wc : (Jvm.Cond.code y by' ml' rt').before a0 Z = true) (pd : parseMethodDescriptor y.desc = some ⟨ps, rr⟩) (hd : decode bytes pc = .ok (.invokespecial idx, 3)) (ct : Ct l Z [] y by' ml' rt' rm ((Value.ref a :: argsL).toArray) h Q') (hlen : argsL.length = ps.length) (hst : st = argsL.reverse ++ .ref a :: rest) (hsz : Ls.size = maxL) (hW : (rest.map fun v => v.category).sum ≤ W) (hf : rm.frames + 1 ≤ R.frames) (hl : W + (ml' + 11) + rm.locals ≤ R.locals) (hce : cells + rm.cells ≤ R.cells) (hsl : slots + rm.slots ≤ R.slots)
    (k : ∀ T' v L, Cx p l e R s m args below meth c Z own nm bytes maxL rt T' (locs ++ L) (cells + rm.cells) (slots + rm.slots) T'.heap → Q' v T'.heap → Go p e below En T' m pc' Ls (v.toList ++ rest)) (hp : pc + 3 = pc' := by rfl) : Go p e below En T m pc Ls st := by
  subst hp
  subst hrn
  obtain ⟨v, _, ⟨T', L', k', n'⟩, -, X', ⟨L, hq, e1, e2, e3⟩, st'⟩ := X.sd.specialBack X.hx (y := y) hy1 X.hown (mvT X.hZ wl) (mvT X.hZ wm) (mvT X.hZ wc) hy (X.back (W := W) ct wc wz hf hl) (g := mkF m pc Ls st) rfl (hsz.trans X.hml.symm) (Steps.refl _) (a := a) (argsL := argsL) (rest := rest) (lenOf pd hlen) hst (by simpa using hW) (hb X.hby hd) (fun _ _ => ⟨rfl, X.eq, hce, hsl⟩)
  dsimp only [Pt.U, Pt.locs, Pt.cells, Pt.slots] at X' e1 e2 e3 st' hq
  subst e1 e2 e3
  exact Go.step (fun _ hr => Steps.trans st' hr) (k T' v L (X.mk' X' rfl (X.fr.app hq.1) hq.2.1) hq.2.2)
theorem Go.callIP (X : Cx p l e R s m args below meth c Z own nm bytes maxL rt T locs cells slots h) (pc' : Nat) {idx : Nat} {y : MethodName} {by' : ByteArray} {ml' : Nat} {rt' : Option FieldType} {rm : Room} {ps : List FieldType} {rr : Option FieldType} {a : Addr} {v : Value} (argsL rest : List Value) (W : Nat) (hy1 : y.name = "<init>") (wl : (Jvm.Cond.methodLink own idx y).before a0 Z = true) (wm : (Jvm.Cond.instanceMethod y).before a0 Z = true) (wz : (Jvm.Cond.initialized y.cls).before a0 Z = true) (hy : y.cls ≠ "java/lang/invoke/MethodHandle" ∧ y.cls ≠ "java/lang/invoke/VarHandle") (hrn : rt' = none) (wc : (Jvm.Cond.code y by' ml' rt').before a0 Z = true) (pd : parseMethodDescriptor y.desc = some ⟨ps, rr⟩) (hd : decode bytes pc = .ok (.invokespecial idx, 3)) (ct : Ct l Z [] y by' ml' rt' rm ((Value.ref a :: argsL).toArray) h (Pu h v)) (hlen : argsL.length = ps.length) (hst : st = argsL.reverse ++ .ref a :: rest) (hsz : Ls.size = maxL) (hW : (rest.map fun v => v.category).sum ≤ W) (hf : rm.frames + 1 ≤ R.frames) (hl : W + (ml' + 11) + rm.locals ≤ R.locals) (hce : cells + rm.cells ≤ R.cells) (hsl : slots + rm.slots ≤ R.slots)
    (k : ∀ T' L, Cx p l e R s m args below meth c Z own nm bytes maxL rt T' (locs ++ L) (cells + rm.cells) (slots + rm.slots) h → Go p e below En T' m pc' Ls (v :: rest)) (hp : pc + 3 = pc' := by rfl) : Go p e below En T m pc Ls st :=
  Go.callI X pc' argsL rest W hy1 wl wm wz hy hrn wc pd hd ct hlen hst hsz hW hf hl hce hsl (fun T' v' L X' q => by
    obtain ⟨rfl, q2⟩ := q
    rw [q2] at X'
    exact k T' L X') hp
theorem Go.callV (X : Cx p l e R s m args below meth c Z own nm bytes maxL rt T locs cells slots h) (pc' : Nat) {idx : Nat} {y z : MethodName} {C : String} {by' : ByteArray} {ml' : Nat} {rt' : Option FieldType} {rm : Room} {ps : List FieldType} {rr : Option FieldType} {a : Addr} {Q' : Option Value → Heap → Prop} (argsL rest : List Value) (W : Nat) (wl : (Jvm.Cond.methodLink own idx y).before a0 Z = true) (wd : (Jvm.Cond.declares y).before a0 Z = true) (wf : (Jvm.Cond.selects C y z).before a0 Z = true) (nf : NotFace s y) (wm : (Jvm.Cond.instanceMethod z).before a0 Z = true) (wz : (Jvm.Cond.initialized z.cls).before a0 Z = true) (hy : y.cls ≠ "java/lang/invoke/MethodHandle" ∧ y.cls ≠ "java/lang/invoke/VarHandle") (E : Exa Z h a C) (wc : (Jvm.Cond.code z by' ml' rt').before a0 Z = true) (pd : parseMethodDescriptor y.desc = some ⟨ps, rr⟩) (hd : decode bytes pc = .ok (.invokevirtual idx, 3)) (ct : Ct l Z [] z by' ml' rt' rm ((Value.ref a :: argsL).toArray) h Q') (hlen : argsL.length = ps.length) (hst : st = argsL.reverse ++ .ref a :: rest) (hsz : Ls.size = maxL) (hW : (rest.map fun v => v.category).sum ≤ W) (hf : rm.frames + 1 ≤ R.frames) (hl : W + (ml' + 11) + rm.locals ≤ R.locals) (hce : cells + rm.cells ≤ R.cells) (hsl : slots + rm.slots ≤ R.slots)
    (k : ∀ T' v L, Cx p l e R s m args below meth c Z own nm bytes maxL rt T' (locs ++ L) (cells + rm.cells) (slots + rm.slots) T'.heap → Q' v T'.heap → Go p e below En T' m pc' Ls (v.toList ++ rest)) (hp : pc + 3 = pc' := by rfl) : Go p e below En T m pc Ls st := by
  subst hp
  obtain ⟨cq, kq, qa, qb, qc⟩ := isOf X.hZ X.eq E
  obtain ⟨v, _, ⟨T', L', k', n'⟩, -, X', ⟨L, hq, e1, e2, e3⟩, st'⟩ := X.sd.virtualBack X.hx (y := y) (z := z) X.hown (mvT X.hZ wl) (mvT X.hZ wd) nf (mvT X.hZ wf) (mvT X.hZ wm) hy (X.back (W := W) ct wc wz hf hl) qa qc (g := mkF m pc Ls st) rfl (hsz.trans X.hml.symm) (Steps.refl _) (argsL := argsL) (rest := rest) (lenOf pd hlen) hst (by simpa using hW) (hb X.hby hd) (fun _ _ => ⟨rfl, X.eq, hce, hsl⟩)
  dsimp only [Pt.U, Pt.locs, Pt.cells, Pt.slots] at X' e1 e2 e3 st' hq
  subst e1 e2 e3
  exact Go.step (fun _ hr => Steps.trans st' hr) (k T' v L (X.mk' X' rfl (X.fr.app hq.1) hq.2.1) hq.2.2)
theorem Go.callVP (X : Cx p l e R s m args below meth c Z own nm bytes maxL rt T locs cells slots h) (pc' : Nat) {idx : Nat} {y z : MethodName} {C : String} {by' : ByteArray} {ml' : Nat} {rt' : Option FieldType} {rm : Room} {ps : List FieldType} {rr : Option FieldType} {a : Addr} {v : Value} (argsL rest : List Value) (W : Nat) (wl : (Jvm.Cond.methodLink own idx y).before a0 Z = true) (wd : (Jvm.Cond.declares y).before a0 Z = true) (wf : (Jvm.Cond.selects C y z).before a0 Z = true) (nf : NotFace s y) (wm : (Jvm.Cond.instanceMethod z).before a0 Z = true) (wz : (Jvm.Cond.initialized z.cls).before a0 Z = true) (hy : y.cls ≠ "java/lang/invoke/MethodHandle" ∧ y.cls ≠ "java/lang/invoke/VarHandle") (E : Exa Z h a C) (wc : (Jvm.Cond.code z by' ml' rt').before a0 Z = true) (pd : parseMethodDescriptor y.desc = some ⟨ps, rr⟩) (hd : decode bytes pc = .ok (.invokevirtual idx, 3)) (ct : Ct l Z [] z by' ml' rt' rm ((Value.ref a :: argsL).toArray) h (Pu h v)) (hlen : argsL.length = ps.length) (hst : st = argsL.reverse ++ .ref a :: rest) (hsz : Ls.size = maxL) (hW : (rest.map fun v => v.category).sum ≤ W) (hf : rm.frames + 1 ≤ R.frames) (hl : W + (ml' + 11) + rm.locals ≤ R.locals) (hce : cells + rm.cells ≤ R.cells) (hsl : slots + rm.slots ≤ R.slots)
    (k : ∀ T' L, Cx p l e R s m args below meth c Z own nm bytes maxL rt T' (locs ++ L) (cells + rm.cells) (slots + rm.slots) h → Go p e below En T' m pc' Ls (v :: rest)) (hp : pc + 3 = pc' := by rfl) : Go p e below En T m pc Ls st :=
  Go.callV X pc' argsL rest W wl wd wf nf wm wz hy E wc pd hd ct hlen hst hsz hW hf hl hce hsl (fun T' v' L X' q => by
    obtain ⟨rfl, q2⟩ := q
    rw [q2] at X'
    exact k T' L X') hp
theorem Go.callU (X : Cx p l e R s m args below meth c Z own nm bytes maxL rt T locs cells slots h) (pc' : Nat) {idx : Nat} {y z : MethodName} {C owner : String} {by' : ByteArray} {ml' : Nat} {rt' : Option FieldType} {rm : Room} {ps : List FieldType} {rr : Option FieldType} {a : Addr} {Q' : Option Value → Heap → Prop} (argsL rest : List Value) (W : Nat) (wl : (Jvm.Cond.methodLink own idx y).before a0 Z = true) (wsm : (Jvm.Cond.sameMethod y.cls owner y.name y.desc).before a0 Z = true) (wd : (Jvm.Cond.declares ⟨owner, y.name, y.desc⟩).before a0 Z = true) (wf : (Jvm.Cond.selects C y z).before a0 Z = true) (wm : (Jvm.Cond.instanceMethod z).before a0 Z = true) (wz : (Jvm.Cond.initialized z.cls).before a0 Z = true) (hy : owner ≠ "java/lang/invoke/MethodHandle" ∧ owner ≠ "java/lang/invoke/VarHandle") (E : Exa Z h a C) (wc : (Jvm.Cond.code z by' ml' rt').before a0 Z = true) (pd : parseMethodDescriptor y.desc = some ⟨ps, rr⟩) (hd : decode bytes pc = .ok (.invokevirtual idx, 3)) (ct : Ct l Z [] z by' ml' rt' rm ((Value.ref a :: argsL).toArray) h Q') (hlen : argsL.length = ps.length) (hst : st = argsL.reverse ++ .ref a :: rest) (hsz : Ls.size = maxL) (hW : (rest.map fun v => v.category).sum ≤ W) (hf : rm.frames + 1 ≤ R.frames) (hl : W + (ml' + 11) + rm.locals ≤ R.locals) (hce : cells + rm.cells ≤ R.cells) (hsl : slots + rm.slots ≤ R.slots)
    (k : ∀ T' v L, Cx p l e R s m args below meth c Z own nm bytes maxL rt T' (locs ++ L) (cells + rm.cells) (slots + rm.slots) T'.heap → Q' v T'.heap → Go p e below En T' m pc' Ls (v.toList ++ rest)) (hp : pc + 3 = pc' := by rfl) : Go p e below En T m pc Ls st := by
  subst hp
  obtain ⟨cq, kq, qa, qb, qc⟩ := isOf X.hZ X.eq E
  obtain ⟨v, _, ⟨T', L', k', n'⟩, -, X', ⟨L, hq, e1, e2, e3⟩, st'⟩ := X.sd.virtualBackUp X.hx (x := y) (y := z) X.hown (mvT X.hZ wl) (mvT X.hZ wsm) (mvT X.hZ wd) hy (mvT X.hZ wf) (mvT X.hZ wm) (X.back (W := W) ct wc wz hf hl) qa qc (g := mkF m pc Ls st) rfl (hsz.trans X.hml.symm) (Steps.refl _) (argsL := argsL) (rest := rest) (lenOf pd hlen) hst (by simpa using hW) (hb X.hby hd) (fun _ _ => ⟨rfl, X.eq, hce, hsl⟩)
  dsimp only [Pt.U, Pt.locs, Pt.cells, Pt.slots] at X' e1 e2 e3 st' hq
  subst e1 e2 e3
  exact Go.step (fun _ hr => Steps.trans st' hr) (k T' v L (X.mk' X' rfl (X.fr.app hq.1) hq.2.1) hq.2.2)
theorem Go.callUP (X : Cx p l e R s m args below meth c Z own nm bytes maxL rt T locs cells slots h) (pc' : Nat) {idx : Nat} {y z : MethodName} {C owner : String} {by' : ByteArray} {ml' : Nat} {rt' : Option FieldType} {rm : Room} {ps : List FieldType} {rr : Option FieldType} {a : Addr} {v : Value} (argsL rest : List Value) (W : Nat) (wl : (Jvm.Cond.methodLink own idx y).before a0 Z = true) (wsm : (Jvm.Cond.sameMethod y.cls owner y.name y.desc).before a0 Z = true) (wd : (Jvm.Cond.declares ⟨owner, y.name, y.desc⟩).before a0 Z = true) (wf : (Jvm.Cond.selects C y z).before a0 Z = true) (wm : (Jvm.Cond.instanceMethod z).before a0 Z = true) (wz : (Jvm.Cond.initialized z.cls).before a0 Z = true) (hy : owner ≠ "java/lang/invoke/MethodHandle" ∧ owner ≠ "java/lang/invoke/VarHandle") (E : Exa Z h a C) (wc : (Jvm.Cond.code z by' ml' rt').before a0 Z = true) (pd : parseMethodDescriptor y.desc = some ⟨ps, rr⟩) (hd : decode bytes pc = .ok (.invokevirtual idx, 3)) (ct : Ct l Z [] z by' ml' rt' rm ((Value.ref a :: argsL).toArray) h (Pu h v)) (hlen : argsL.length = ps.length) (hst : st = argsL.reverse ++ .ref a :: rest) (hsz : Ls.size = maxL) (hW : (rest.map fun v => v.category).sum ≤ W) (hf : rm.frames + 1 ≤ R.frames) (hl : W + (ml' + 11) + rm.locals ≤ R.locals) (hce : cells + rm.cells ≤ R.cells) (hsl : slots + rm.slots ≤ R.slots)
    (k : ∀ T' L, Cx p l e R s m args below meth c Z own nm bytes maxL rt T' (locs ++ L) (cells + rm.cells) (slots + rm.slots) h → Go p e below En T' m pc' Ls (v :: rest)) (hp : pc + 3 = pc' := by rfl) : Go p e below En T m pc Ls st :=
  Go.callU X pc' argsL rest W wl wsm wd wf wm wz hy E wc pd hd ct hlen hst hsz hW hf hl hce hsl (fun T' v' L X' q => by
    obtain ⟨rfl, q2⟩ := q
    rw [q2] at X'
    exact k T' L X') hp
theorem Cx.more {cells' slots' : Nat} (X : Cx p l e R s m args below meth c Z own nm bytes maxL rt T locs cells slots h) (q : cells ≤ cells' := by decide) (r : slots ≤ slots' := by decide) : Cx p l e R s m args below meth c Z own nm bytes maxL rt T locs cells' slots' h := X.mk' (X.sd.more q r) X.eq X.fr X.old
theorem Go.join (X : Cx p l e R s m args below meth c Z own nm bytes maxL rt T locs cells slots h) {α : Type} (P : α → Heap → Prop) (pc1 : Nat) (Ls1 : α → Array Slot) (st1 : α → List Value) (c1 s1 : Nat)
    (tail : ∀ T' locs' h' a, Cx p l e R s m args below meth c Z own nm bytes maxL rt T' locs' c1 s1 h' → P a h' → Go p e below En T' m pc1 (Ls1 a) (st1 a))
    (heads : (∀ T' locs' h' a, Cx p l e R s m args below meth c Z own nm bytes maxL rt T' locs' c1 s1 h' → P a h' → Go p e below En T' m pc1 (Ls1 a) (st1 a)) → Go p e below En T m pc Ls st) : Go p e below En T m pc Ls st := heads tail
end Kit

theorem pd_0 : parseMethodDescriptor "(Lcom/example/zonewarden/zonewarden/publish/DepositType;)Z" = some ⟨[(.object "com/example/zonewarden/zonewarden/publish/DepositType")], some .boolean⟩ := by decide +kernel
theorem pn_l : plainName "com/example/zonewarden/zonewarden/publish/CsvFileIsInPinLaw" = true := by first | (simp [plainName, overriddenIn]; done) | decide +kernel
theorem pn_f : plainName "com/example/zonewarden/zonewarden/publish/CsvFile" = true := by first | (simp [plainName, overriddenIn]; done) | decide +kernel
theorem ds_0 : decode prog_27_method_5_code 0 = .ok (.aload_n 0, 1) := by decide +kernel
theorem ds_1 : decode prog_27_method_5_code 1 = .ok (.getfield 86, 3) := by decide +kernel
theorem ds_4 : decode prog_27_method_5_code 4 = .ok (.getstatic 100, 3) := by decide +kernel
theorem ds_7 : decode prog_27_method_5_code 7 = .ok (.if_acmp .eq 10, 3) := by decide +kernel
theorem ds_10 : decode prog_27_method_5_code 10 = .ok (.aload_n 1, 1) := by decide +kernel
theorem ds_11 : decode prog_27_method_5_code 11 = .ok (.getstatic 105, 3) := by decide +kernel
theorem ds_14 : decode prog_27_method_5_code 14 = .ok (.if_acmp .ne 7, 3) := by decide +kernel
theorem ds_17 : decode prog_27_method_5_code 17 = .ok (.iconst 1, 1) := by decide +kernel
theorem ds_18 : decode prog_27_method_5_code 18 = .ok (.goto 4, 3) := by decide +kernel
theorem ds_21 : decode prog_27_method_5_code 21 = .ok (.iconst 0, 1) := by decide +kernel
theorem ds_22 : decode prog_27_method_5_code 22 = .ok (.ireturn, 1) := by decide +kernel
theorem ef_s (m : MethodId) (f : Addr) (t : Addr) : entryFrame m #[(.ref f), (.ref t)] 2 = mkF m 0 #[.val (.ref f), .val (.ref t)] [] := by first | (simp [entryFrame, mkF, argsToLocals, Value.category]; done) | rfl
set_option maxRecDepth 65536 in
set_option maxHeartbeats 40000000 in
theorem rm_s (l : Launch) (Z : State) (a0 : Array Value) (hw : ∀ d ∈ tables_1, d.before a0 Z = true) (h0 : Heap) (iE dI : Addr) (SE : Sta Z Z.heap "com/example/zonewarden/zonewarden/publish/CsvFile$In" "EVERY_DEPOSIT" "Lcom/example/zonewarden/zonewarden/publish/CsvFile$In;" (.ref iE)) (SI : Sta Z Z.heap "com/example/zonewarden/zonewarden/publish/DepositType" "INCREMENTAL" "Lcom/example/zonewarden/zonewarden/publish/DepositType;" (.ref dI)) (f t i : Addr) (r : Int32) (F : Fld Z h0 f "com/example/zonewarden/zonewarden/publish/CsvFile" "in" "Lcom/example/zonewarden/zonewarden/publish/CsvFile$In;" (.ref i)) (hk : (i = iE ∧ r = 1) ∨ (¬ i = iE ∧ t = dI ∧ r = 1) ∨ (¬ i = iE ∧ ¬ t = dI ∧ r = 0)) :
    Ct l Z [] (⟨"com/example/zonewarden/zonewarden/publish/CsvFile", "isIn", "(Lcom/example/zonewarden/zonewarden/publish/DepositType;)Z"⟩ : MethodName) prog_27_method_5_code 2 (some .boolean) (⟨0, 0, 0, 0⟩ : Room) #[(.ref f), (.ref t)] h0 (Pu h0 (.int r)) := by
  refine Ct.of pn_f (fun m => ef_s m f t) ?_
  intro p e s m below meth c s₁ X0
  rcases hk with ⟨c1, rfl⟩ | ⟨c1, c2, rfl⟩ | ⟨c1, c2, rfl⟩
  · skip
    refine Go.aloadN X0 1 ds_0 rfl rfl ?_
    refine Go.getF X0 4 (hw _ (List.mem_of_getElem? (i := 55) rfl)) F ds_1 ?_
    intro T1 X1
    refine Go.getS X1 7 (hw _ (List.mem_of_getElem? (i := 59) rfl)) SE ds_4 ?_
    intro T2 X2
    refine Go.acmpY X2 17 ds_7 rfl rfl (XT.aa_eq_t (congrArg Value.ref c1)) ?_
    refine Go.iconst X2 18 (1 : Int32) ds_17 ?_
    refine Go.goto X2 22 ds_18 ?_
    exact Go.retI X2 rfl (by simp) rfl ds_22 (X2.fin ⟨rfl, rfl⟩ (by decide) (by decide))
  · skip
    refine Go.aloadN X0 1 ds_0 rfl rfl ?_
    refine Go.getF X0 4 (hw _ (List.mem_of_getElem? (i := 55) rfl)) F ds_1 ?_
    intro T3 X3
    refine Go.getS X3 7 (hw _ (List.mem_of_getElem? (i := 59) rfl)) SE ds_4 ?_
    intro T4 X4
    refine Go.acmpN X4 10 ds_7 rfl rfl (XT.aa_eq_f (fun q => c1 (Value.ref.inj q))) ?_
    refine Go.aloadN X4 11 ds_10 rfl rfl ?_
    refine Go.getS X4 14 (hw _ (List.mem_of_getElem? (i := 63) rfl)) SI ds_11 ?_
    intro T5 X5
    refine Go.acmpN X5 17 ds_14 rfl rfl (XT.aa_ne_f (congrArg Value.ref c2)) ?_
    refine Go.iconst X5 18 (1 : Int32) ds_17 ?_
    refine Go.goto X5 22 ds_18 ?_
    exact Go.retI X5 rfl (by simp) rfl ds_22 (X5.fin ⟨rfl, rfl⟩ (by decide) (by decide))
  · skip
    refine Go.aloadN X0 1 ds_0 rfl rfl ?_
    refine Go.getF X0 4 (hw _ (List.mem_of_getElem? (i := 55) rfl)) F ds_1 ?_
    intro T6 X6
    refine Go.getS X6 7 (hw _ (List.mem_of_getElem? (i := 59) rfl)) SE ds_4 ?_
    intro T7 X7
    refine Go.acmpN X7 10 ds_7 rfl rfl (XT.aa_eq_f (fun q => c1 (Value.ref.inj q))) ?_
    refine Go.aloadN X7 11 ds_10 rfl rfl ?_
    refine Go.getS X7 14 (hw _ (List.mem_of_getElem? (i := 63) rfl)) SI ds_11 ?_
    intro T8 X8
    refine Go.acmpY X8 21 ds_14 rfl rfl (XT.aa_ne_t (fun q => c2 (Value.ref.inj q))) ?_
    refine Go.iconst X8 22 (0 : Int32) ds_21 ?_
    exact Go.retI X8 rfl (by simp) rfl ds_22 (X8.fin ⟨rfl, rfl⟩ (by decide) (by decide))
theorem own_k21 (x : Int32) : (x &&& 2147483647) % 21 = 0 ∨ (x &&& 2147483647) % 21 = 1 ∨ (x &&& 2147483647) % 21 = 2 ∨ (x &&& 2147483647) % 21 = 3 ∨ (x &&& 2147483647) % 21 = 4 ∨ (x &&& 2147483647) % 21 = 5 ∨ (x &&& 2147483647) % 21 = 6 ∨ (x &&& 2147483647) % 21 = 7 ∨ (x &&& 2147483647) % 21 = 8 ∨ (x &&& 2147483647) % 21 = 9 ∨ (x &&& 2147483647) % 21 = 10 ∨ (x &&& 2147483647) % 21 = 11 ∨ (x &&& 2147483647) % 21 = 12 ∨ (x &&& 2147483647) % 21 = 13 ∨ (x &&& 2147483647) % 21 = 14 ∨ (x &&& 2147483647) % 21 = 15 ∨ (x &&& 2147483647) % 21 = 16 ∨ (x &&& 2147483647) % 21 = 17 ∨ (x &&& 2147483647) % 21 = 18 ∨ (x &&& 2147483647) % 21 = 19 ∨ (x &&& 2147483647) % 21 = 20 := by
  have h1 := c_mask x 2147483647 31 (by decide) (by decide)
  have h2 := (c_irem (x &&& 2147483647) 21 21 (by decide)).1 (by omega)
  simp only [← Int32.toInt_inj]
  have e0 : (0 : Int32).toInt = 0 := by decide
  have e1 : (1 : Int32).toInt = 1 := by decide
  have e2 : (2 : Int32).toInt = 2 := by decide
  have e3 : (3 : Int32).toInt = 3 := by decide
  have e4 : (4 : Int32).toInt = 4 := by decide
  have e5 : (5 : Int32).toInt = 5 := by decide
  have e6 : (6 : Int32).toInt = 6 := by decide
  have e7 : (7 : Int32).toInt = 7 := by decide
  have e8 : (8 : Int32).toInt = 8 := by decide
  have e9 : (9 : Int32).toInt = 9 := by decide
  have e10 : (10 : Int32).toInt = 10 := by decide
  have e11 : (11 : Int32).toInt = 11 := by decide
  have e12 : (12 : Int32).toInt = 12 := by decide
  have e13 : (13 : Int32).toInt = 13 := by decide
  have e14 : (14 : Int32).toInt = 14 := by decide
  have e15 : (15 : Int32).toInt = 15 := by decide
  have e16 : (16 : Int32).toInt = 16 := by decide
  have e17 : (17 : Int32).toInt = 17 := by decide
  have e18 : (18 : Int32).toInt = 18 := by decide
  have e19 : (19 : Int32).toInt = 19 := by decide
  have e20 : (20 : Int32).toInt = 20 := by decide
  rw [e0, e1, e2, e3, e4, e5, e6, e7, e8, e9, e10, e11, e12, e13, e14, e15, e16, e17, e18, e19, e20, h2]
  omega
theorem ef_l (m : MethodId) (p0 : Int32) : entryFrame m #[(.int p0)] maxLocals = mkF m 0 #[.val (.int p0), .unset, .unset, .unset, .unset, .unset] [] := by first | (simp [entryFrame, mkF, argsToLocals, Value.category, maxLocals]; done) | rfl
set_option maxRecDepth 65536 in
set_option maxHeartbeats 40000000 in
theorem rm_l (l : Launch) (Z : State) (a0 : Array Value) (hw : ∀ d ∈ tables_1, d.before a0 Z = true) (h0 : Heap) (b0 b1 b2 b3 b4 b5 b6 b7 b8 b9 b10 b11 b12 b13 b14 b15 b16 b17 b18 b19 b20 iE iI dF dI : Addr) (S0 : Sta Z Z.heap "com/example/zonewarden/zonewarden/publish/CsvFile" "DOMAIN" "Lcom/example/zonewarden/zonewarden/publish/CsvFile;" (.ref b0)) (E0 : Exa Z Z.heap b0 "com/example/zonewarden/zonewarden/publish/CsvFile") (F0 : Fld Z Z.heap b0 "java/lang/Enum" "ordinal" "I" (.int 0)) (G0 : Fld Z Z.heap b0 "com/example/zonewarden/zonewarden/publish/CsvFile" "in" "Lcom/example/zonewarden/zonewarden/publish/CsvFile$In;" (.ref iE)) (S1 : Sta Z Z.heap "com/example/zonewarden/zonewarden/publish/CsvFile" "CONTACT" "Lcom/example/zonewarden/zonewarden/publish/CsvFile;" (.ref b1)) (E1 : Exa Z Z.heap b1 "com/example/zonewarden/zonewarden/publish/CsvFile") (F1 : Fld Z Z.heap b1 "java/lang/Enum" "ordinal" "I" (.int 1)) (G1 : Fld Z Z.heap b1 "com/example/zonewarden/zonewarden/publish/CsvFile" "in" "Lcom/example/zonewarden/zonewarden/publish/CsvFile$In;" (.ref iE)) (S2 : Sta Z Z.heap "com/example/zonewarden/zonewarden/publish/CsvFile" "CONADDR" "Lcom/example/zonewarden/zonewarden/publish/CsvFile;" (.ref b2)) (E2 : Exa Z Z.heap b2 "com/example/zonewarden/zonewarden/publish/CsvFile") (F2 : Fld Z Z.heap b2 "java/lang/Enum" "ordinal" "I" (.int 2)) (G2 : Fld Z Z.heap b2 "com/example/zonewarden/zonewarden/publish/CsvFile" "in" "Lcom/example/zonewarden/zonewarden/publish/CsvFile$In;" (.ref iE)) (S3 : Sta Z Z.heap "com/example/zonewarden/zonewarden/publish/CsvFile" "NAMESERVER" "Lcom/example/zonewarden/zonewarden/publish/CsvFile;" (.ref b3)) (E3 : Exa Z Z.heap b3 "com/example/zonewarden/zonewarden/publish/CsvFile") (F3 : Fld Z Z.heap b3 "java/lang/Enum" "ordinal" "I" (.int 3)) (G3 : Fld Z Z.heap b3 "com/example/zonewarden/zonewarden/publish/CsvFile" "in" "Lcom/example/zonewarden/zonewarden/publish/CsvFile$In;" (.ref iE)) (S4 : Sta Z Z.heap "com/example/zonewarden/zonewarden/publish/CsvFile" "NSIP" "Lcom/example/zonewarden/zonewarden/publish/CsvFile;" (.ref b4)) (E4 : Exa Z Z.heap b4 "com/example/zonewarden/zonewarden/publish/CsvFile") (F4 : Fld Z Z.heap b4 "java/lang/Enum" "ordinal" "I" (.int 4)) (G4 : Fld Z Z.heap b4 "com/example/zonewarden/zonewarden/publish/CsvFile" "in" "Lcom/example/zonewarden/zonewarden/publish/CsvFile$In;" (.ref iE)) (S5 : Sta Z Z.heap "com/example/zonewarden/zonewarden/publish/CsvFile" "REGISTRAR" "Lcom/example/zonewarden/zonewarden/publish/CsvFile;" (.ref b5)) (E5 : Exa Z Z.heap b5 "com/example/zonewarden/zonewarden/publish/CsvFile") (F5 : Fld Z Z.heap b5 "java/lang/Enum" "ordinal" "I" (.int 5)) (G5 : Fld Z Z.heap b5 "com/example/zonewarden/zonewarden/publish/CsvFile" "in" "Lcom/example/zonewarden/zonewarden/publish/CsvFile$In;" (.ref iE)) (S6 : Sta Z Z.heap "com/example/zonewarden/zonewarden/publish/CsvFile" "DOMSTATUS" "Lcom/example/zonewarden/zonewarden/publish/CsvFile;" (.ref b6)) (E6 : Exa Z Z.heap b6 "com/example/zonewarden/zonewarden/publish/CsvFile") (F6 : Fld Z Z.heap b6 "java/lang/Enum" "ordinal" "I" (.int 6)) (G6 : Fld Z Z.heap b6 "com/example/zonewarden/zonewarden/publish/CsvFile" "in" "Lcom/example/zonewarden/zonewarden/publish/CsvFile$In;" (.ref iE)) (S7 : Sta Z Z.heap "com/example/zonewarden/zonewarden/publish/CsvFile" "CONSTATUS" "Lcom/example/zonewarden/zonewarden/publish/CsvFile;" (.ref b7)) (E7 : Exa Z Z.heap b7 "com/example/zonewarden/zonewarden/publish/CsvFile") (F7 : Fld Z Z.heap b7 "java/lang/Enum" "ordinal" "I" (.int 7)) (G7 : Fld Z Z.heap b7 "com/example/zonewarden/zonewarden/publish/CsvFile" "in" "Lcom/example/zonewarden/zonewarden/publish/CsvFile$In;" (.ref iE)) (S8 : Sta Z Z.heap "com/example/zonewarden/zonewarden/publish/CsvFile" "NSSTATUS" "Lcom/example/zonewarden/zonewarden/publish/CsvFile;" (.ref b8)) (E8 : Exa Z Z.heap b8 "com/example/zonewarden/zonewarden/publish/CsvFile") (F8 : Fld Z Z.heap b8 "java/lang/Enum" "ordinal" "I" (.int 8)) (G8 : Fld Z Z.heap b8 "com/example/zonewarden/zonewarden/publish/CsvFile" "in" "Lcom/example/zonewarden/zonewarden/publish/CsvFile$In;" (.ref iE)) (S9 : Sta Z Z.heap "com/example/zonewarden/zonewarden/publish/CsvFile" "DOMCONTACT" "Lcom/example/zonewarden/zonewarden/publish/CsvFile;" (.ref b9)) (E9 : Exa Z Z.heap b9 "com/example/zonewarden/zonewarden/publish/CsvFile") (F9 : Fld Z Z.heap b9 "java/lang/Enum" "ordinal" "I" (.int 9)) (G9 : Fld Z Z.heap b9 "com/example/zonewarden/zonewarden/publish/CsvFile" "in" "Lcom/example/zonewarden/zonewarden/publish/CsvFile$In;" (.ref iE)) (S10 : Sta Z Z.heap "com/example/zonewarden/zonewarden/publish/CsvFile" "DOMNS" "Lcom/example/zonewarden/zonewarden/publish/CsvFile;" (.ref b10)) (E10 : Exa Z Z.heap b10 "com/example/zonewarden/zonewarden/publish/CsvFile") (F10 : Fld Z Z.heap b10 "java/lang/Enum" "ordinal" "I" (.int 10)) (G10 : Fld Z Z.heap b10 "com/example/zonewarden/zonewarden/publish/CsvFile" "in" "Lcom/example/zonewarden/zonewarden/publish/CsvFile$In;" (.ref iE)) (S11 : Sta Z Z.heap "com/example/zonewarden/zonewarden/publish/CsvFile" "DOMDS" "Lcom/example/zonewarden/zonewarden/publish/CsvFile;" (.ref b11)) (E11 : Exa Z Z.heap b11 "com/example/zonewarden/zonewarden/publish/CsvFile") (F11 : Fld Z Z.heap b11 "java/lang/Enum" "ordinal" "I" (.int 11)) (G11 : Fld Z Z.heap b11 "com/example/zonewarden/zonewarden/publish/CsvFile" "in" "Lcom/example/zonewarden/zonewarden/publish/CsvFile$In;" (.ref iE)) (S12 : Sta Z Z.heap "com/example/zonewarden/zonewarden/publish/CsvFile" "DCP" "Lcom/example/zonewarden/zonewarden/publish/CsvFile;" (.ref b12)) (E12 : Exa Z Z.heap b12 "com/example/zonewarden/zonewarden/publish/CsvFile") (F12 : Fld Z Z.heap b12 "java/lang/Enum" "ordinal" "I" (.int 12)) (G12 : Fld Z Z.heap b12 "com/example/zonewarden/zonewarden/publish/CsvFile" "in" "Lcom/example/zonewarden/zonewarden/publish/CsvFile$In;" (.ref iE)) (S13 : Sta Z Z.heap "com/example/zonewarden/zonewarden/publish/CsvFile" "EPPVERSIONS" "Lcom/example/zonewarden/zonewarden/publish/CsvFile;" (.ref b13)) (E13 : Exa Z Z.heap b13 "com/example/zonewarden/zonewarden/publish/CsvFile") (F13 : Fld Z Z.heap b13 "java/lang/Enum" "ordinal" "I" (.int 13)) (G13 : Fld Z Z.heap b13 "com/example/zonewarden/zonewarden/publish/CsvFile" "in" "Lcom/example/zonewarden/zonewarden/publish/CsvFile$In;" (.ref iE)) (S14 : Sta Z Z.heap "com/example/zonewarden/zonewarden/publish/CsvFile" "LANGS" "Lcom/example/zonewarden/zonewarden/publish/CsvFile;" (.ref b14)) (E14 : Exa Z Z.heap b14 "com/example/zonewarden/zonewarden/publish/CsvFile") (F14 : Fld Z Z.heap b14 "java/lang/Enum" "ordinal" "I" (.int 14)) (G14 : Fld Z Z.heap b14 "com/example/zonewarden/zonewarden/publish/CsvFile" "in" "Lcom/example/zonewarden/zonewarden/publish/CsvFile$In;" (.ref iE)) (S15 : Sta Z Z.heap "com/example/zonewarden/zonewarden/publish/CsvFile" "EPPOBJECTS" "Lcom/example/zonewarden/zonewarden/publish/CsvFile;" (.ref b15)) (E15 : Exa Z Z.heap b15 "com/example/zonewarden/zonewarden/publish/CsvFile") (F15 : Fld Z Z.heap b15 "java/lang/Enum" "ordinal" "I" (.int 15)) (G15 : Fld Z Z.heap b15 "com/example/zonewarden/zonewarden/publish/CsvFile" "in" "Lcom/example/zonewarden/zonewarden/publish/CsvFile$In;" (.ref iE)) (S16 : Sta Z Z.heap "com/example/zonewarden/zonewarden/publish/CsvFile" "EPPEXTENSIONS" "Lcom/example/zonewarden/zonewarden/publish/CsvFile;" (.ref b16)) (E16 : Exa Z Z.heap b16 "com/example/zonewarden/zonewarden/publish/CsvFile") (F16 : Fld Z Z.heap b16 "java/lang/Enum" "ordinal" "I" (.int 16)) (G16 : Fld Z Z.heap b16 "com/example/zonewarden/zonewarden/publish/CsvFile" "in" "Lcom/example/zonewarden/zonewarden/publish/CsvFile$In;" (.ref iE)) (S17 : Sta Z Z.heap "com/example/zonewarden/zonewarden/publish/CsvFile" "DOMDEL" "Lcom/example/zonewarden/zonewarden/publish/CsvFile;" (.ref b17)) (E17 : Exa Z Z.heap b17 "com/example/zonewarden/zonewarden/publish/CsvFile") (F17 : Fld Z Z.heap b17 "java/lang/Enum" "ordinal" "I" (.int 17)) (G17 : Fld Z Z.heap b17 "com/example/zonewarden/zonewarden/publish/CsvFile" "in" "Lcom/example/zonewarden/zonewarden/publish/CsvFile$In;" (.ref iI)) (S18 : Sta Z Z.heap "com/example/zonewarden/zonewarden/publish/CsvFile" "CONTDEL" "Lcom/example/zonewarden/zonewarden/publish/CsvFile;" (.ref b18)) (E18 : Exa Z Z.heap b18 "com/example/zonewarden/zonewarden/publish/CsvFile") (F18 : Fld Z Z.heap b18 "java/lang/Enum" "ordinal" "I" (.int 18)) (G18 : Fld Z Z.heap b18 "com/example/zonewarden/zonewarden/publish/CsvFile" "in" "Lcom/example/zonewarden/zonewarden/publish/CsvFile$In;" (.ref iI)) (S19 : Sta Z Z.heap "com/example/zonewarden/zonewarden/publish/CsvFile" "NSDEL" "Lcom/example/zonewarden/zonewarden/publish/CsvFile;" (.ref b19)) (E19 : Exa Z Z.heap b19 "com/example/zonewarden/zonewarden/publish/CsvFile") (F19 : Fld Z Z.heap b19 "java/lang/Enum" "ordinal" "I" (.int 19)) (G19 : Fld Z Z.heap b19 "com/example/zonewarden/zonewarden/publish/CsvFile" "in" "Lcom/example/zonewarden/zonewarden/publish/CsvFile$In;" (.ref iI)) (S20 : Sta Z Z.heap "com/example/zonewarden/zonewarden/publish/CsvFile" "DSDEL" "Lcom/example/zonewarden/zonewarden/publish/CsvFile;" (.ref b20)) (E20 : Exa Z Z.heap b20 "com/example/zonewarden/zonewarden/publish/CsvFile") (F20 : Fld Z Z.heap b20 "java/lang/Enum" "ordinal" "I" (.int 20)) (G20 : Fld Z Z.heap b20 "com/example/zonewarden/zonewarden/publish/CsvFile" "in" "Lcom/example/zonewarden/zonewarden/publish/CsvFile$In;" (.ref iI)) (SE : Sta Z Z.heap "com/example/zonewarden/zonewarden/publish/CsvFile$In" "EVERY_DEPOSIT" "Lcom/example/zonewarden/zonewarden/publish/CsvFile$In;" (.ref iE)) (SI : Sta Z Z.heap "com/example/zonewarden/zonewarden/publish/DepositType" "INCREMENTAL" "Lcom/example/zonewarden/zonewarden/publish/DepositType;" (.ref dI)) (SF : Sta Z Z.heap "com/example/zonewarden/zonewarden/publish/DepositType" "FULL" "Lcom/example/zonewarden/zonewarden/publish/DepositType;" (.ref dF)) (hi : ¬ iI = iE) (hd : ¬ dF = dI) (p0 : Int32) :
    Ct l Z tables_1 x code maxLocals ret room_1 #[(.int p0)] h0 (fun v _ => v = some (.int 1)) := by
  refine Ct.of pn_l (fun m => ef_l m p0) ?_
  intro p e s m below meth c s₁ X0
  refine Go.bipush X0 2 (21 : Int32) at_0 ?_
  refine Go.newR X0 5 (hw _ (List.mem_of_getElem? (i := 0) rfl)) (hw _ (List.mem_of_getElem? (i := 1) rfl)) at_2 21 (by decide) (by decide) (by decide) (by decide) (by decide) ?_
  intro T101 h101 a101 k101 X101 E101 g101 O101 V101
  have nw_a101 : Z.heap.size ≤ a101 := by rw [← g101]; exact X0.le
  have F102 : Arv Z h101 a101 k101 (.object "com/example/zonewarden/zonewarden/publish/CsvFile") (21 : Int32) [.null, .null, .null, .null, .null, .null, .null, .null, .null, .null, .null, .null, .null, .null, .null, .null, .null, .null, .null, .null, .null] .null := V101.pad (pad_rep [] .null 21)
  refine Go.dup X101 6 at_5 rfl ?_
  refine Go.iconst X101 7 (0 : Int32) at_6 ?_
  refine Go.getS X101 10 (hw _ (List.mem_of_getElem? (i := 2) rfl)) S0 at_7 ?_
  intro T103 X103
  refine Go.stR X103 11 F102 O101 (Ins.self (E0.ext X103.old)) at_10 (by decide) 0 (by decide) (Nat.le_of_ble_eq_true rfl) nw_a101 ?_
  intro T104 h104 X104 W104 V104
  have F105 : Arv Z h104 a101 k101 (.object "com/example/zonewarden/zonewarden/publish/CsvFile") (21 : Int32) [(.ref b0), .null, .null, .null, .null, .null, .null, .null, .null, .null, .null, .null, .null, .null, .null, .null, .null, .null, .null, .null, .null] .null := V104
  refine Go.dup X104 12 at_11 rfl ?_
  refine Go.iconst X104 13 (1 : Int32) at_12 ?_
  refine Go.getS X104 16 (hw _ (List.mem_of_getElem? (i := 6) rfl)) S1 at_13 ?_
  intro T106 X106
  refine Go.stR X106 17 F105 O101 (Ins.self (E1.ext X106.old)) at_16 (by decide) 1 (by decide) (Nat.le_of_ble_eq_true rfl) nw_a101 ?_
  intro T107 h107 X107 W107 V107
  have F108 : Arv Z h107 a101 k101 (.object "com/example/zonewarden/zonewarden/publish/CsvFile") (21 : Int32) [(.ref b0), (.ref b1), .null, .null, .null, .null, .null, .null, .null, .null, .null, .null, .null, .null, .null, .null, .null, .null, .null, .null, .null] .null := V107
  refine Go.dup X107 18 at_17 rfl ?_
  refine Go.iconst X107 19 (2 : Int32) at_18 ?_
  refine Go.getS X107 22 (hw _ (List.mem_of_getElem? (i := 8) rfl)) S2 at_19 ?_
  intro T109 X109
  refine Go.stR X109 23 F108 O101 (Ins.self (E2.ext X109.old)) at_22 (by decide) 2 (by decide) (Nat.le_of_ble_eq_true rfl) nw_a101 ?_
  intro T110 h110 X110 W110 V110
  have F111 : Arv Z h110 a101 k101 (.object "com/example/zonewarden/zonewarden/publish/CsvFile") (21 : Int32) [(.ref b0), (.ref b1), (.ref b2), .null, .null, .null, .null, .null, .null, .null, .null, .null, .null, .null, .null, .null, .null, .null, .null, .null, .null] .null := V110
  refine Go.dup X110 24 at_23 rfl ?_
  refine Go.iconst X110 25 (3 : Int32) at_24 ?_
  refine Go.getS X110 28 (hw _ (List.mem_of_getElem? (i := 10) rfl)) S3 at_25 ?_
  intro T112 X112
  refine Go.stR X112 29 F111 O101 (Ins.self (E3.ext X112.old)) at_28 (by decide) 3 (by decide) (Nat.le_of_ble_eq_true rfl) nw_a101 ?_
  intro T113 h113 X113 W113 V113
  have F114 : Arv Z h113 a101 k101 (.object "com/example/zonewarden/zonewarden/publish/CsvFile") (21 : Int32) [(.ref b0), (.ref b1), (.ref b2), (.ref b3), .null, .null, .null, .null, .null, .null, .null, .null, .null, .null, .null, .null, .null, .null, .null, .null, .null] .null := V113
  refine Go.dup X113 30 at_29 rfl ?_
  refine Go.iconst X113 31 (4 : Int32) at_30 ?_
  refine Go.getS X113 34 (hw _ (List.mem_of_getElem? (i := 12) rfl)) S4 at_31 ?_
  intro T115 X115
  refine Go.stR X115 35 F114 O101 (Ins.self (E4.ext X115.old)) at_34 (by decide) 4 (by decide) (Nat.le_of_ble_eq_true rfl) nw_a101 ?_
  intro T116 h116 X116 W116 V116
  have F117 : Arv Z h116 a101 k101 (.object "com/example/zonewarden/zonewarden/publish/CsvFile") (21 : Int32) [(.ref b0), (.ref b1), (.ref b2), (.ref b3), (.ref b4), .null, .null, .null, .null, .null, .null, .null, .null, .null, .null, .null, .null, .null, .null, .null, .null] .null := V116
  refine Go.dup X116 36 at_35 rfl ?_
  refine Go.iconst X116 37 (5 : Int32) at_36 ?_
  refine Go.getS X116 40 (hw _ (List.mem_of_getElem? (i := 14) rfl)) S5 at_37 ?_
  intro T118 X118
  refine Go.stR X118 41 F117 O101 (Ins.self (E5.ext X118.old)) at_40 (by decide) 5 (by decide) (Nat.le_of_ble_eq_true rfl) nw_a101 ?_
  intro T119 h119 X119 W119 V119
  have F120 : Arv Z h119 a101 k101 (.object "com/example/zonewarden/zonewarden/publish/CsvFile") (21 : Int32) [(.ref b0), (.ref b1), (.ref b2), (.ref b3), (.ref b4), (.ref b5), .null, .null, .null, .null, .null, .null, .null, .null, .null, .null, .null, .null, .null, .null, .null] .null := V119
  refine Go.dup X119 42 at_41 rfl ?_
  refine Go.bipush X119 44 (6 : Int32) at_42 ?_
  refine Go.getS X119 47 (hw _ (List.mem_of_getElem? (i := 16) rfl)) S6 at_44 ?_
  intro T121 X121
  refine Go.stR X121 48 F120 O101 (Ins.self (E6.ext X121.old)) at_47 (by decide) 6 (by decide) (Nat.le_of_ble_eq_true rfl) nw_a101 ?_
  intro T122 h122 X122 W122 V122
  have F123 : Arv Z h122 a101 k101 (.object "com/example/zonewarden/zonewarden/publish/CsvFile") (21 : Int32) [(.ref b0), (.ref b1), (.ref b2), (.ref b3), (.ref b4), (.ref b5), (.ref b6), .null, .null, .null, .null, .null, .null, .null, .null, .null, .null, .null, .null, .null, .null] .null := V122
  refine Go.dup X122 49 at_48 rfl ?_
  refine Go.bipush X122 51 (7 : Int32) at_49 ?_
  refine Go.getS X122 54 (hw _ (List.mem_of_getElem? (i := 18) rfl)) S7 at_51 ?_
  intro T124 X124
  refine Go.stR X124 55 F123 O101 (Ins.self (E7.ext X124.old)) at_54 (by decide) 7 (by decide) (Nat.le_of_ble_eq_true rfl) nw_a101 ?_
  intro T125 h125 X125 W125 V125
  have F126 : Arv Z h125 a101 k101 (.object "com/example/zonewarden/zonewarden/publish/CsvFile") (21 : Int32) [(.ref b0), (.ref b1), (.ref b2), (.ref b3), (.ref b4), (.ref b5), (.ref b6), (.ref b7), .null, .null, .null, .null, .null, .null, .null, .null, .null, .null, .null, .null, .null] .null := V125
  refine Go.dup X125 56 at_55 rfl ?_
  refine Go.bipush X125 58 (8 : Int32) at_56 ?_
  refine Go.getS X125 61 (hw _ (List.mem_of_getElem? (i := 20) rfl)) S8 at_58 ?_
  intro T127 X127
  refine Go.stR X127 62 F126 O101 (Ins.self (E8.ext X127.old)) at_61 (by decide) 8 (by decide) (Nat.le_of_ble_eq_true rfl) nw_a101 ?_
  intro T128 h128 X128 W128 V128
  have F129 : Arv Z h128 a101 k101 (.object "com/example/zonewarden/zonewarden/publish/CsvFile") (21 : Int32) [(.ref b0), (.ref b1), (.ref b2), (.ref b3), (.ref b4), (.ref b5), (.ref b6), (.ref b7), (.ref b8), .null, .null, .null, .null, .null, .null, .null, .null, .null, .null, .null, .null] .null := V128
  refine Go.dup X128 63 at_62 rfl ?_
  refine Go.bipush X128 65 (9 : Int32) at_63 ?_
  refine Go.getS X128 68 (hw _ (List.mem_of_getElem? (i := 22) rfl)) S9 at_65 ?_
  intro T130 X130
  refine Go.stR X130 69 F129 O101 (Ins.self (E9.ext X130.old)) at_68 (by decide) 9 (by decide) (Nat.le_of_ble_eq_true rfl) nw_a101 ?_
  intro T131 h131 X131 W131 V131
  have F132 : Arv Z h131 a101 k101 (.object "com/example/zonewarden/zonewarden/publish/CsvFile") (21 : Int32) [(.ref b0), (.ref b1), (.ref b2), (.ref b3), (.ref b4), (.ref b5), (.ref b6), (.ref b7), (.ref b8), (.ref b9), .null, .null, .null, .null, .null, .null, .null, .null, .null, .null, .null] .null := V131
  refine Go.dup X131 70 at_69 rfl ?_
  refine Go.bipush X131 72 (10 : Int32) at_70 ?_
  refine Go.getS X131 75 (hw _ (List.mem_of_getElem? (i := 24) rfl)) S10 at_72 ?_
  intro T133 X133
  refine Go.stR X133 76 F132 O101 (Ins.self (E10.ext X133.old)) at_75 (by decide) 10 (by decide) (Nat.le_of_ble_eq_true rfl) nw_a101 ?_
  intro T134 h134 X134 W134 V134
  have F135 : Arv Z h134 a101 k101 (.object "com/example/zonewarden/zonewarden/publish/CsvFile") (21 : Int32) [(.ref b0), (.ref b1), (.ref b2), (.ref b3), (.ref b4), (.ref b5), (.ref b6), (.ref b7), (.ref b8), (.ref b9), (.ref b10), .null, .null, .null, .null, .null, .null, .null, .null, .null, .null] .null := V134
  refine Go.dup X134 77 at_76 rfl ?_
  refine Go.bipush X134 79 (11 : Int32) at_77 ?_
  refine Go.getS X134 82 (hw _ (List.mem_of_getElem? (i := 26) rfl)) S11 at_79 ?_
  intro T136 X136
  refine Go.stR X136 83 F135 O101 (Ins.self (E11.ext X136.old)) at_82 (by decide) 11 (by decide) (Nat.le_of_ble_eq_true rfl) nw_a101 ?_
  intro T137 h137 X137 W137 V137
  have F138 : Arv Z h137 a101 k101 (.object "com/example/zonewarden/zonewarden/publish/CsvFile") (21 : Int32) [(.ref b0), (.ref b1), (.ref b2), (.ref b3), (.ref b4), (.ref b5), (.ref b6), (.ref b7), (.ref b8), (.ref b9), (.ref b10), (.ref b11), .null, .null, .null, .null, .null, .null, .null, .null, .null] .null := V137
  refine Go.dup X137 84 at_83 rfl ?_
  refine Go.bipush X137 86 (12 : Int32) at_84 ?_
  refine Go.getS X137 89 (hw _ (List.mem_of_getElem? (i := 28) rfl)) S12 at_86 ?_
  intro T139 X139
  refine Go.stR X139 90 F138 O101 (Ins.self (E12.ext X139.old)) at_89 (by decide) 12 (by decide) (Nat.le_of_ble_eq_true rfl) nw_a101 ?_
  intro T140 h140 X140 W140 V140
  have F141 : Arv Z h140 a101 k101 (.object "com/example/zonewarden/zonewarden/publish/CsvFile") (21 : Int32) [(.ref b0), (.ref b1), (.ref b2), (.ref b3), (.ref b4), (.ref b5), (.ref b6), (.ref b7), (.ref b8), (.ref b9), (.ref b10), (.ref b11), (.ref b12), .null, .null, .null, .null, .null, .null, .null, .null] .null := V140
  refine Go.dup X140 91 at_90 rfl ?_
  refine Go.bipush X140 93 (13 : Int32) at_91 ?_
  refine Go.getS X140 96 (hw _ (List.mem_of_getElem? (i := 30) rfl)) S13 at_93 ?_
  intro T142 X142
  refine Go.stR X142 97 F141 O101 (Ins.self (E13.ext X142.old)) at_96 (by decide) 13 (by decide) (Nat.le_of_ble_eq_true rfl) nw_a101 ?_
  intro T143 h143 X143 W143 V143
  have F144 : Arv Z h143 a101 k101 (.object "com/example/zonewarden/zonewarden/publish/CsvFile") (21 : Int32) [(.ref b0), (.ref b1), (.ref b2), (.ref b3), (.ref b4), (.ref b5), (.ref b6), (.ref b7), (.ref b8), (.ref b9), (.ref b10), (.ref b11), (.ref b12), (.ref b13), .null, .null, .null, .null, .null, .null, .null] .null := V143
  refine Go.dup X143 98 at_97 rfl ?_
  refine Go.bipush X143 100 (14 : Int32) at_98 ?_
  refine Go.getS X143 103 (hw _ (List.mem_of_getElem? (i := 32) rfl)) S14 at_100 ?_
  intro T145 X145
  refine Go.stR X145 104 F144 O101 (Ins.self (E14.ext X145.old)) at_103 (by decide) 14 (by decide) (Nat.le_of_ble_eq_true rfl) nw_a101 ?_
  intro T146 h146 X146 W146 V146
  have F147 : Arv Z h146 a101 k101 (.object "com/example/zonewarden/zonewarden/publish/CsvFile") (21 : Int32) [(.ref b0), (.ref b1), (.ref b2), (.ref b3), (.ref b4), (.ref b5), (.ref b6), (.ref b7), (.ref b8), (.ref b9), (.ref b10), (.ref b11), (.ref b12), (.ref b13), (.ref b14), .null, .null, .null, .null, .null, .null] .null := V146
  refine Go.dup X146 105 at_104 rfl ?_
  refine Go.bipush X146 107 (15 : Int32) at_105 ?_
  refine Go.getS X146 110 (hw _ (List.mem_of_getElem? (i := 34) rfl)) S15 at_107 ?_
  intro T148 X148
  refine Go.stR X148 111 F147 O101 (Ins.self (E15.ext X148.old)) at_110 (by decide) 15 (by decide) (Nat.le_of_ble_eq_true rfl) nw_a101 ?_
  intro T149 h149 X149 W149 V149
  have F150 : Arv Z h149 a101 k101 (.object "com/example/zonewarden/zonewarden/publish/CsvFile") (21 : Int32) [(.ref b0), (.ref b1), (.ref b2), (.ref b3), (.ref b4), (.ref b5), (.ref b6), (.ref b7), (.ref b8), (.ref b9), (.ref b10), (.ref b11), (.ref b12), (.ref b13), (.ref b14), (.ref b15), .null, .null, .null, .null, .null] .null := V149
  refine Go.dup X149 112 at_111 rfl ?_
  refine Go.bipush X149 114 (16 : Int32) at_112 ?_
  refine Go.getS X149 117 (hw _ (List.mem_of_getElem? (i := 36) rfl)) S16 at_114 ?_
  intro T151 X151
  refine Go.stR X151 118 F150 O101 (Ins.self (E16.ext X151.old)) at_117 (by decide) 16 (by decide) (Nat.le_of_ble_eq_true rfl) nw_a101 ?_
  intro T152 h152 X152 W152 V152
  have F153 : Arv Z h152 a101 k101 (.object "com/example/zonewarden/zonewarden/publish/CsvFile") (21 : Int32) [(.ref b0), (.ref b1), (.ref b2), (.ref b3), (.ref b4), (.ref b5), (.ref b6), (.ref b7), (.ref b8), (.ref b9), (.ref b10), (.ref b11), (.ref b12), (.ref b13), (.ref b14), (.ref b15), (.ref b16), .null, .null, .null, .null] .null := V152
  refine Go.dup X152 119 at_118 rfl ?_
  refine Go.bipush X152 121 (17 : Int32) at_119 ?_
  refine Go.getS X152 124 (hw _ (List.mem_of_getElem? (i := 38) rfl)) S17 at_121 ?_
  intro T154 X154
  refine Go.stR X154 125 F153 O101 (Ins.self (E17.ext X154.old)) at_124 (by decide) 17 (by decide) (Nat.le_of_ble_eq_true rfl) nw_a101 ?_
  intro T155 h155 X155 W155 V155
  have F156 : Arv Z h155 a101 k101 (.object "com/example/zonewarden/zonewarden/publish/CsvFile") (21 : Int32) [(.ref b0), (.ref b1), (.ref b2), (.ref b3), (.ref b4), (.ref b5), (.ref b6), (.ref b7), (.ref b8), (.ref b9), (.ref b10), (.ref b11), (.ref b12), (.ref b13), (.ref b14), (.ref b15), (.ref b16), (.ref b17), .null, .null, .null] .null := V155
  refine Go.dup X155 126 at_125 rfl ?_
  refine Go.bipush X155 128 (18 : Int32) at_126 ?_
  refine Go.getS X155 131 (hw _ (List.mem_of_getElem? (i := 40) rfl)) S18 at_128 ?_
  intro T157 X157
  refine Go.stR X157 132 F156 O101 (Ins.self (E18.ext X157.old)) at_131 (by decide) 18 (by decide) (Nat.le_of_ble_eq_true rfl) nw_a101 ?_
  intro T158 h158 X158 W158 V158
  have F159 : Arv Z h158 a101 k101 (.object "com/example/zonewarden/zonewarden/publish/CsvFile") (21 : Int32) [(.ref b0), (.ref b1), (.ref b2), (.ref b3), (.ref b4), (.ref b5), (.ref b6), (.ref b7), (.ref b8), (.ref b9), (.ref b10), (.ref b11), (.ref b12), (.ref b13), (.ref b14), (.ref b15), (.ref b16), (.ref b17), (.ref b18), .null, .null] .null := V158
  refine Go.dup X158 133 at_132 rfl ?_
  refine Go.bipush X158 135 (19 : Int32) at_133 ?_
  refine Go.getS X158 138 (hw _ (List.mem_of_getElem? (i := 42) rfl)) S19 at_135 ?_
  intro T160 X160
  refine Go.stR X160 139 F159 O101 (Ins.self (E19.ext X160.old)) at_138 (by decide) 19 (by decide) (Nat.le_of_ble_eq_true rfl) nw_a101 ?_
  intro T161 h161 X161 W161 V161
  have F162 : Arv Z h161 a101 k101 (.object "com/example/zonewarden/zonewarden/publish/CsvFile") (21 : Int32) [(.ref b0), (.ref b1), (.ref b2), (.ref b3), (.ref b4), (.ref b5), (.ref b6), (.ref b7), (.ref b8), (.ref b9), (.ref b10), (.ref b11), (.ref b12), (.ref b13), (.ref b14), (.ref b15), (.ref b16), (.ref b17), (.ref b18), (.ref b19), .null] .null := V161
  refine Go.dup X161 140 at_139 rfl ?_
  refine Go.bipush X161 142 (20 : Int32) at_140 ?_
  refine Go.getS X161 145 (hw _ (List.mem_of_getElem? (i := 44) rfl)) S20 at_142 ?_
  intro T163 X163
  refine Go.stR X163 146 F162 O101 (Ins.self (E20.ext X163.old)) at_145 (by decide) 20 (by decide) (Nat.le_of_ble_eq_true rfl) nw_a101 ?_
  intro T164 h164 X164 W164 V164
  have F165 : Arv Z h164 a101 k101 (.object "com/example/zonewarden/zonewarden/publish/CsvFile") (21 : Int32) [(.ref b0), (.ref b1), (.ref b2), (.ref b3), (.ref b4), (.ref b5), (.ref b6), (.ref b7), (.ref b8), (.ref b9), (.ref b10), (.ref b11), (.ref b12), (.ref b13), (.ref b14), (.ref b15), (.ref b16), (.ref b17), (.ref b18), (.ref b19), (.ref b20)] .null := V164
  refine Go.astoreN X164 147 #[.val (.int p0), .val (.ref a101), .unset, .unset, .unset, .unset] at_146 rfl rfl ?_
  refine Go.aloadN X164 148 at_147 rfl rfl ?_
  refine Go.iloadN X164 149 at_148 rfl ?_
  refine Go.ldcI X164 151 (hw _ (List.mem_of_getElem? (i := 46) rfl)) at_149 ?_
  refine Go.iand X164 152 at_151 ?_
  refine Go.bipush X164 154 (21 : Int32) at_152 ?_
  refine Go.irem X164 155 at_154 (by decide) ?_
  refine Go.join X164 (α := Addr) (fun q hJ => (Exa Z Z.heap q "com/example/zonewarden/zonewarden/publish/CsvFile" ∧ Fld Z Z.heap q "com/example/zonewarden/zonewarden/publish/CsvFile" "in" "Lcom/example/zonewarden/zonewarden/publish/CsvFile$In;" (.ref iE) ∧ ¬ q = b17 ∧ ¬ q = b18 ∧ ¬ q = b19 ∧ ¬ q = b20) ∨ (Exa Z Z.heap q "com/example/zonewarden/zonewarden/publish/CsvFile" ∧ Fld Z Z.heap q "com/example/zonewarden/zonewarden/publish/CsvFile" "in" "Lcom/example/zonewarden/zonewarden/publish/CsvFile$In;" (.ref iI) ∧ (q = b17 ∨ q = b18 ∨ q = b19 ∨ q = b20))) 156 (fun q => #[.val (.int p0), .val (.ref a101), .unset, .unset, .unset, .unset]) (fun q => [(.ref q)]) 1 21 ?_ ?_
  · rintro T166 L166 h166 f X166 hp166
    replace hp166 : (Exa Z Z.heap f "com/example/zonewarden/zonewarden/publish/CsvFile" ∧ Fld Z Z.heap f "com/example/zonewarden/zonewarden/publish/CsvFile" "in" "Lcom/example/zonewarden/zonewarden/publish/CsvFile$In;" (.ref iE) ∧ ¬ f = b17 ∧ ¬ f = b18 ∧ ¬ f = b19 ∧ ¬ f = b20) ∨ (Exa Z Z.heap f "com/example/zonewarden/zonewarden/publish/CsvFile" ∧ Fld Z Z.heap f "com/example/zonewarden/zonewarden/publish/CsvFile" "in" "Lcom/example/zonewarden/zonewarden/publish/CsvFile$In;" (.ref iI) ∧ (f = b17 ∨ f = b18 ∨ f = b19 ∨ f = b20)) := hp166
    show Go p e below _ T166 m 156 #[.val (.int p0), .val (.ref a101), .unset, .unset, .unset, .unset] [(.ref f)]
    rcases hp166 with ⟨hE, hG, hn0, hn1, hn2, hn3⟩ | ⟨hE, hG, hf | hf | hf | hf⟩
    · skip
      refine Go.astoreN X166 157 #[.val (.int p0), .val (.ref a101), .val (.ref f), .unset, .unset, .unset] at_156 rfl rfl ?_
      refine Go.aloadN X166 158 at_157 rfl rfl ?_
      refine Go.getS X166 161 (hw _ (List.mem_of_getElem? (i := 38) rfl)) S17 at_158 ?_
      intro T167 X167
      refine Go.acmpN X167 164 at_161 rfl rfl (XT.aa_eq_f (fun q => hn0 (Value.ref.inj q))) ?_
      refine Go.aloadN X167 165 at_164 rfl rfl ?_
      refine Go.getS X167 168 (hw _ (List.mem_of_getElem? (i := 40) rfl)) S18 at_165 ?_
      intro T168 X168
      refine Go.acmpN X168 171 at_168 rfl rfl (XT.aa_eq_f (fun q => hn1 (Value.ref.inj q))) ?_
      refine Go.aloadN X168 172 at_171 rfl rfl ?_
      refine Go.getS X168 175 (hw _ (List.mem_of_getElem? (i := 42) rfl)) S19 at_172 ?_
      intro T169 X169
      refine Go.acmpN X169 178 at_175 rfl rfl (XT.aa_eq_f (fun q => hn2 (Value.ref.inj q))) ?_
      refine Go.aloadN X169 179 at_178 rfl rfl ?_
      refine Go.getS X169 182 (hw _ (List.mem_of_getElem? (i := 44) rfl)) S20 at_179 ?_
      intro T170 X170
      refine Go.acmpY X170 189 at_182 rfl rfl (XT.aa_ne_t (fun q => hn3 (Value.ref.inj q))) ?_
      refine Go.iconst X170 190 (0 : Int32) at_189 ?_
      refine Go.istoreN X170 191 #[.val (.int p0), .val (.ref a101), .val (.ref f), .val (.int (0 : Int32)), .unset, .unset] at_190 rfl ?_
      refine Go.aloadN X170 192 at_191 rfl rfl ?_
      refine Go.getS X170 195 (hw _ (List.mem_of_getElem? (i := 47) rfl)) SF at_192 ?_
      intro T171 X171
      refine Go.callVP X171 198 [(.ref dF)] [] 0 (hw _ (List.mem_of_getElem? (i := 50) rfl)) (hw _ (List.mem_of_getElem? (i := 51) rfl)) (hw _ (List.mem_of_getElem? (i := 53) rfl)) (notFace_of_selects (args := #[]) (mvT X171.hZ (hw _ (List.mem_of_getElem? (i := 53) rfl)))) (hw _ (List.mem_of_getElem? (i := 52) rfl)) (hw _ (List.mem_of_getElem? (i := 3) rfl)) (by decide) (hE.ext X171.old) (hw _ (List.mem_of_getElem? (i := 54) rfl)) pd_0 at_195 (rm_s l Z a0 hw h166 iE dI SE SI f dF iE (1 : Int32) (hG.ext X171.old) (Or.inl ⟨rfl, rfl⟩)) rfl rfl rfl (Nat.le_of_eq rfl) (by decide) (by decide) (by decide) (by decide) ?_
      intro T172 L172 X172
      refine Go.istore X172 200 #[.val (.int p0), .val (.ref a101), .val (.ref f), .val (.int (0 : Int32)), .val (.int (1 : Int32)), .unset] at_198 rfl ?_
      refine Go.aloadN X172 201 at_200 rfl rfl ?_
      refine Go.getS X172 204 (hw _ (List.mem_of_getElem? (i := 60) rfl)) SI at_201 ?_
      intro T173 X173
      refine Go.callVP X173 207 [(.ref dI)] [] 0 (hw _ (List.mem_of_getElem? (i := 50) rfl)) (hw _ (List.mem_of_getElem? (i := 51) rfl)) (hw _ (List.mem_of_getElem? (i := 53) rfl)) (notFace_of_selects (args := #[]) (mvT X173.hZ (hw _ (List.mem_of_getElem? (i := 53) rfl)))) (hw _ (List.mem_of_getElem? (i := 52) rfl)) (hw _ (List.mem_of_getElem? (i := 3) rfl)) (by decide) (hE.ext X173.old) (hw _ (List.mem_of_getElem? (i := 54) rfl)) pd_0 at_204 (rm_s l Z a0 hw h166 iE dI SE SI f dI iE (1 : Int32) (hG.ext X173.old) (Or.inl ⟨rfl, rfl⟩)) rfl rfl rfl (Nat.le_of_eq rfl) (by decide) (by decide) (by decide) (by decide) ?_
      intro T174 L174 X174
      refine Go.istore X174 209 #[.val (.int p0), .val (.ref a101), .val (.ref f), .val (.int (0 : Int32)), .val (.int (1 : Int32)), .val (.int (1 : Int32))] at_207 rfl ?_
      refine Go.iload X174 211 at_209 rfl ?_
      refine Go.iloadN X174 212 at_211 rfl ?_
      refine Go.if0N X174 215 at_212 (XT.i0_ne_f (by decide)) ?_
      refine Go.iconst X174 216 (1 : Int32) at_215 ?_
      refine Go.goto X174 220 at_216 ?_
      refine Go.icmpN X174 223 at_220 (XT.ii_ne_f (by decide)) ?_
      refine Go.iload X174 225 at_223 rfl ?_
      refine Go.if0N X174 228 at_225 (XT.i0_eq_f (by decide)) ?_
      refine Go.iconst X174 229 (1 : Int32) at_228 ?_
      refine Go.goto X174 233 at_229 ?_
      exact Go.retI X174 rfl (by simp) rfl at_233 (X174.fin rfl (by decide) (by decide))
    · skip
      have hf' := hf.symm
      subst hf'
      refine Go.astoreN X166 157 #[.val (.int p0), .val (.ref a101), .val (.ref b17), .unset, .unset, .unset] at_156 rfl rfl ?_
      refine Go.aloadN X166 158 at_157 rfl rfl ?_
      refine Go.getS X166 161 (hw _ (List.mem_of_getElem? (i := 38) rfl)) S17 at_158 ?_
      intro T175 X175
      refine Go.acmpY X175 185 at_161 rfl rfl (XT.aa_eq_t rfl) ?_
      refine Go.iconst X175 186 (1 : Int32) at_185 ?_
      refine Go.goto X175 190 at_186 ?_
      refine Go.istoreN X175 191 #[.val (.int p0), .val (.ref a101), .val (.ref b17), .val (.int (1 : Int32)), .unset, .unset] at_190 rfl ?_
      refine Go.aloadN X175 192 at_191 rfl rfl ?_
      refine Go.getS X175 195 (hw _ (List.mem_of_getElem? (i := 47) rfl)) SF at_192 ?_
      intro T176 X176
      refine Go.callVP X176 198 [(.ref dF)] [] 0 (hw _ (List.mem_of_getElem? (i := 50) rfl)) (hw _ (List.mem_of_getElem? (i := 51) rfl)) (hw _ (List.mem_of_getElem? (i := 53) rfl)) (notFace_of_selects (args := #[]) (mvT X176.hZ (hw _ (List.mem_of_getElem? (i := 53) rfl)))) (hw _ (List.mem_of_getElem? (i := 52) rfl)) (hw _ (List.mem_of_getElem? (i := 3) rfl)) (by decide) (hE.ext X176.old) (hw _ (List.mem_of_getElem? (i := 54) rfl)) pd_0 at_195 (rm_s l Z a0 hw h166 iE dI SE SI b17 dF iI (0 : Int32) (hG.ext X176.old) (Or.inr (Or.inr ⟨hi, hd, rfl⟩))) rfl rfl rfl (Nat.le_of_eq rfl) (by decide) (by decide) (by decide) (by decide) ?_
      intro T177 L177 X177
      refine Go.istore X177 200 #[.val (.int p0), .val (.ref a101), .val (.ref b17), .val (.int (1 : Int32)), .val (.int (0 : Int32)), .unset] at_198 rfl ?_
      refine Go.aloadN X177 201 at_200 rfl rfl ?_
      refine Go.getS X177 204 (hw _ (List.mem_of_getElem? (i := 60) rfl)) SI at_201 ?_
      intro T178 X178
      refine Go.callVP X178 207 [(.ref dI)] [] 0 (hw _ (List.mem_of_getElem? (i := 50) rfl)) (hw _ (List.mem_of_getElem? (i := 51) rfl)) (hw _ (List.mem_of_getElem? (i := 53) rfl)) (notFace_of_selects (args := #[]) (mvT X178.hZ (hw _ (List.mem_of_getElem? (i := 53) rfl)))) (hw _ (List.mem_of_getElem? (i := 52) rfl)) (hw _ (List.mem_of_getElem? (i := 3) rfl)) (by decide) (hE.ext X178.old) (hw _ (List.mem_of_getElem? (i := 54) rfl)) pd_0 at_204 (rm_s l Z a0 hw h166 iE dI SE SI b17 dI iI (1 : Int32) (hG.ext X178.old) (Or.inr (Or.inl ⟨hi, rfl, rfl⟩))) rfl rfl rfl (Nat.le_of_eq rfl) (by decide) (by decide) (by decide) (by decide) ?_
      intro T179 L179 X179
      refine Go.istore X179 209 #[.val (.int p0), .val (.ref a101), .val (.ref b17), .val (.int (1 : Int32)), .val (.int (0 : Int32)), .val (.int (1 : Int32))] at_207 rfl ?_
      refine Go.iload X179 211 at_209 rfl ?_
      refine Go.iloadN X179 212 at_211 rfl ?_
      refine Go.if0Y X179 219 at_212 (XT.i0_ne_t (by decide)) ?_
      refine Go.iconst X179 220 (0 : Int32) at_219 ?_
      refine Go.icmpN X179 223 at_220 (XT.ii_ne_f (by decide)) ?_
      refine Go.iload X179 225 at_223 rfl ?_
      refine Go.if0N X179 228 at_225 (XT.i0_eq_f (by decide)) ?_
      refine Go.iconst X179 229 (1 : Int32) at_228 ?_
      refine Go.goto X179 233 at_229 ?_
      exact Go.retI X179 rfl (by simp) rfl at_233 (X179.fin rfl (by decide) (by decide))
    · skip
      have hf' := hf.symm
      subst hf'
      refine Go.astoreN X166 157 #[.val (.int p0), .val (.ref a101), .val (.ref b18), .unset, .unset, .unset] at_156 rfl rfl ?_
      refine Go.aloadN X166 158 at_157 rfl rfl ?_
      refine Go.getS X166 161 (hw _ (List.mem_of_getElem? (i := 38) rfl)) S17 at_158 ?_
      intro T180 X180
      by_cases c181 : (.ref b18) = ((.ref b17) : Value)
      · skip
        refine Go.acmpY X180 185 at_161 rfl rfl (XT.aa_eq_t c181) ?_
        refine Go.iconst X180 186 (1 : Int32) at_185 ?_
        refine Go.goto X180 190 at_186 ?_
        refine Go.istoreN X180 191 #[.val (.int p0), .val (.ref a101), .val (.ref b18), .val (.int (1 : Int32)), .unset, .unset] at_190 rfl ?_
        refine Go.aloadN X180 192 at_191 rfl rfl ?_
        refine Go.getS X180 195 (hw _ (List.mem_of_getElem? (i := 47) rfl)) SF at_192 ?_
        intro T182 X182
        refine Go.callVP X182 198 [(.ref dF)] [] 0 (hw _ (List.mem_of_getElem? (i := 50) rfl)) (hw _ (List.mem_of_getElem? (i := 51) rfl)) (hw _ (List.mem_of_getElem? (i := 53) rfl)) (notFace_of_selects (args := #[]) (mvT X182.hZ (hw _ (List.mem_of_getElem? (i := 53) rfl)))) (hw _ (List.mem_of_getElem? (i := 52) rfl)) (hw _ (List.mem_of_getElem? (i := 3) rfl)) (by decide) (hE.ext X182.old) (hw _ (List.mem_of_getElem? (i := 54) rfl)) pd_0 at_195 (rm_s l Z a0 hw h166 iE dI SE SI b18 dF iI (0 : Int32) (hG.ext X182.old) (Or.inr (Or.inr ⟨hi, hd, rfl⟩))) rfl rfl rfl (Nat.le_of_eq rfl) (by decide) (by decide) (by decide) (by decide) ?_
        intro T183 L183 X183
        refine Go.istore X183 200 #[.val (.int p0), .val (.ref a101), .val (.ref b18), .val (.int (1 : Int32)), .val (.int (0 : Int32)), .unset] at_198 rfl ?_
        refine Go.aloadN X183 201 at_200 rfl rfl ?_
        refine Go.getS X183 204 (hw _ (List.mem_of_getElem? (i := 60) rfl)) SI at_201 ?_
        intro T184 X184
        refine Go.callVP X184 207 [(.ref dI)] [] 0 (hw _ (List.mem_of_getElem? (i := 50) rfl)) (hw _ (List.mem_of_getElem? (i := 51) rfl)) (hw _ (List.mem_of_getElem? (i := 53) rfl)) (notFace_of_selects (args := #[]) (mvT X184.hZ (hw _ (List.mem_of_getElem? (i := 53) rfl)))) (hw _ (List.mem_of_getElem? (i := 52) rfl)) (hw _ (List.mem_of_getElem? (i := 3) rfl)) (by decide) (hE.ext X184.old) (hw _ (List.mem_of_getElem? (i := 54) rfl)) pd_0 at_204 (rm_s l Z a0 hw h166 iE dI SE SI b18 dI iI (1 : Int32) (hG.ext X184.old) (Or.inr (Or.inl ⟨hi, rfl, rfl⟩))) rfl rfl rfl (Nat.le_of_eq rfl) (by decide) (by decide) (by decide) (by decide) ?_
        intro T185 L185 X185
        refine Go.istore X185 209 #[.val (.int p0), .val (.ref a101), .val (.ref b18), .val (.int (1 : Int32)), .val (.int (0 : Int32)), .val (.int (1 : Int32))] at_207 rfl ?_
        refine Go.iload X185 211 at_209 rfl ?_
        refine Go.iloadN X185 212 at_211 rfl ?_
        refine Go.if0Y X185 219 at_212 (XT.i0_ne_t (by decide)) ?_
        refine Go.iconst X185 220 (0 : Int32) at_219 ?_
        refine Go.icmpN X185 223 at_220 (XT.ii_ne_f (by decide)) ?_
        refine Go.iload X185 225 at_223 rfl ?_
        refine Go.if0N X185 228 at_225 (XT.i0_eq_f (by decide)) ?_
        refine Go.iconst X185 229 (1 : Int32) at_228 ?_
        refine Go.goto X185 233 at_229 ?_
        exact Go.retI X185 rfl (by simp) rfl at_233 (X185.fin rfl (by decide) (by decide))
      · skip
        refine Go.acmpN X180 164 at_161 rfl rfl (XT.aa_eq_f c181) ?_
        refine Go.aloadN X180 165 at_164 rfl rfl ?_
        refine Go.getS X180 168 (hw _ (List.mem_of_getElem? (i := 40) rfl)) S18 at_165 ?_
        intro T186 X186
        refine Go.acmpY X186 185 at_168 rfl rfl (XT.aa_eq_t rfl) ?_
        refine Go.iconst X186 186 (1 : Int32) at_185 ?_
        refine Go.goto X186 190 at_186 ?_
        refine Go.istoreN X186 191 #[.val (.int p0), .val (.ref a101), .val (.ref b18), .val (.int (1 : Int32)), .unset, .unset] at_190 rfl ?_
        refine Go.aloadN X186 192 at_191 rfl rfl ?_
        refine Go.getS X186 195 (hw _ (List.mem_of_getElem? (i := 47) rfl)) SF at_192 ?_
        intro T187 X187
        refine Go.callVP X187 198 [(.ref dF)] [] 0 (hw _ (List.mem_of_getElem? (i := 50) rfl)) (hw _ (List.mem_of_getElem? (i := 51) rfl)) (hw _ (List.mem_of_getElem? (i := 53) rfl)) (notFace_of_selects (args := #[]) (mvT X187.hZ (hw _ (List.mem_of_getElem? (i := 53) rfl)))) (hw _ (List.mem_of_getElem? (i := 52) rfl)) (hw _ (List.mem_of_getElem? (i := 3) rfl)) (by decide) (hE.ext X187.old) (hw _ (List.mem_of_getElem? (i := 54) rfl)) pd_0 at_195 (rm_s l Z a0 hw h166 iE dI SE SI b18 dF iI (0 : Int32) (hG.ext X187.old) (Or.inr (Or.inr ⟨hi, hd, rfl⟩))) rfl rfl rfl (Nat.le_of_eq rfl) (by decide) (by decide) (by decide) (by decide) ?_
        intro T188 L188 X188
        refine Go.istore X188 200 #[.val (.int p0), .val (.ref a101), .val (.ref b18), .val (.int (1 : Int32)), .val (.int (0 : Int32)), .unset] at_198 rfl ?_
        refine Go.aloadN X188 201 at_200 rfl rfl ?_
        refine Go.getS X188 204 (hw _ (List.mem_of_getElem? (i := 60) rfl)) SI at_201 ?_
        intro T189 X189
        refine Go.callVP X189 207 [(.ref dI)] [] 0 (hw _ (List.mem_of_getElem? (i := 50) rfl)) (hw _ (List.mem_of_getElem? (i := 51) rfl)) (hw _ (List.mem_of_getElem? (i := 53) rfl)) (notFace_of_selects (args := #[]) (mvT X189.hZ (hw _ (List.mem_of_getElem? (i := 53) rfl)))) (hw _ (List.mem_of_getElem? (i := 52) rfl)) (hw _ (List.mem_of_getElem? (i := 3) rfl)) (by decide) (hE.ext X189.old) (hw _ (List.mem_of_getElem? (i := 54) rfl)) pd_0 at_204 (rm_s l Z a0 hw h166 iE dI SE SI b18 dI iI (1 : Int32) (hG.ext X189.old) (Or.inr (Or.inl ⟨hi, rfl, rfl⟩))) rfl rfl rfl (Nat.le_of_eq rfl) (by decide) (by decide) (by decide) (by decide) ?_
        intro T190 L190 X190
        refine Go.istore X190 209 #[.val (.int p0), .val (.ref a101), .val (.ref b18), .val (.int (1 : Int32)), .val (.int (0 : Int32)), .val (.int (1 : Int32))] at_207 rfl ?_
        refine Go.iload X190 211 at_209 rfl ?_
        refine Go.iloadN X190 212 at_211 rfl ?_
        refine Go.if0Y X190 219 at_212 (XT.i0_ne_t (by decide)) ?_
        refine Go.iconst X190 220 (0 : Int32) at_219 ?_
        refine Go.icmpN X190 223 at_220 (XT.ii_ne_f (by decide)) ?_
        refine Go.iload X190 225 at_223 rfl ?_
        refine Go.if0N X190 228 at_225 (XT.i0_eq_f (by decide)) ?_
        refine Go.iconst X190 229 (1 : Int32) at_228 ?_
        refine Go.goto X190 233 at_229 ?_
        exact Go.retI X190 rfl (by simp) rfl at_233 (X190.fin rfl (by decide) (by decide))
    · skip
      have hf' := hf.symm
      subst hf'
      refine Go.astoreN X166 157 #[.val (.int p0), .val (.ref a101), .val (.ref b19), .unset, .unset, .unset] at_156 rfl rfl ?_
      refine Go.aloadN X166 158 at_157 rfl rfl ?_
      refine Go.getS X166 161 (hw _ (List.mem_of_getElem? (i := 38) rfl)) S17 at_158 ?_
      intro T191 X191
      by_cases c192 : (.ref b19) = ((.ref b17) : Value)
      · skip
        refine Go.acmpY X191 185 at_161 rfl rfl (XT.aa_eq_t c192) ?_
        refine Go.iconst X191 186 (1 : Int32) at_185 ?_
        refine Go.goto X191 190 at_186 ?_
        refine Go.istoreN X191 191 #[.val (.int p0), .val (.ref a101), .val (.ref b19), .val (.int (1 : Int32)), .unset, .unset] at_190 rfl ?_
        refine Go.aloadN X191 192 at_191 rfl rfl ?_
        refine Go.getS X191 195 (hw _ (List.mem_of_getElem? (i := 47) rfl)) SF at_192 ?_
        intro T193 X193
        refine Go.callVP X193 198 [(.ref dF)] [] 0 (hw _ (List.mem_of_getElem? (i := 50) rfl)) (hw _ (List.mem_of_getElem? (i := 51) rfl)) (hw _ (List.mem_of_getElem? (i := 53) rfl)) (notFace_of_selects (args := #[]) (mvT X193.hZ (hw _ (List.mem_of_getElem? (i := 53) rfl)))) (hw _ (List.mem_of_getElem? (i := 52) rfl)) (hw _ (List.mem_of_getElem? (i := 3) rfl)) (by decide) (hE.ext X193.old) (hw _ (List.mem_of_getElem? (i := 54) rfl)) pd_0 at_195 (rm_s l Z a0 hw h166 iE dI SE SI b19 dF iI (0 : Int32) (hG.ext X193.old) (Or.inr (Or.inr ⟨hi, hd, rfl⟩))) rfl rfl rfl (Nat.le_of_eq rfl) (by decide) (by decide) (by decide) (by decide) ?_
        intro T194 L194 X194
        refine Go.istore X194 200 #[.val (.int p0), .val (.ref a101), .val (.ref b19), .val (.int (1 : Int32)), .val (.int (0 : Int32)), .unset] at_198 rfl ?_
        refine Go.aloadN X194 201 at_200 rfl rfl ?_
        refine Go.getS X194 204 (hw _ (List.mem_of_getElem? (i := 60) rfl)) SI at_201 ?_
        intro T195 X195
        refine Go.callVP X195 207 [(.ref dI)] [] 0 (hw _ (List.mem_of_getElem? (i := 50) rfl)) (hw _ (List.mem_of_getElem? (i := 51) rfl)) (hw _ (List.mem_of_getElem? (i := 53) rfl)) (notFace_of_selects (args := #[]) (mvT X195.hZ (hw _ (List.mem_of_getElem? (i := 53) rfl)))) (hw _ (List.mem_of_getElem? (i := 52) rfl)) (hw _ (List.mem_of_getElem? (i := 3) rfl)) (by decide) (hE.ext X195.old) (hw _ (List.mem_of_getElem? (i := 54) rfl)) pd_0 at_204 (rm_s l Z a0 hw h166 iE dI SE SI b19 dI iI (1 : Int32) (hG.ext X195.old) (Or.inr (Or.inl ⟨hi, rfl, rfl⟩))) rfl rfl rfl (Nat.le_of_eq rfl) (by decide) (by decide) (by decide) (by decide) ?_
        intro T196 L196 X196
        refine Go.istore X196 209 #[.val (.int p0), .val (.ref a101), .val (.ref b19), .val (.int (1 : Int32)), .val (.int (0 : Int32)), .val (.int (1 : Int32))] at_207 rfl ?_
        refine Go.iload X196 211 at_209 rfl ?_
        refine Go.iloadN X196 212 at_211 rfl ?_
        refine Go.if0Y X196 219 at_212 (XT.i0_ne_t (by decide)) ?_
        refine Go.iconst X196 220 (0 : Int32) at_219 ?_
        refine Go.icmpN X196 223 at_220 (XT.ii_ne_f (by decide)) ?_
        refine Go.iload X196 225 at_223 rfl ?_
        refine Go.if0N X196 228 at_225 (XT.i0_eq_f (by decide)) ?_
        refine Go.iconst X196 229 (1 : Int32) at_228 ?_
        refine Go.goto X196 233 at_229 ?_
        exact Go.retI X196 rfl (by simp) rfl at_233 (X196.fin rfl (by decide) (by decide))
      · skip
        refine Go.acmpN X191 164 at_161 rfl rfl (XT.aa_eq_f c192) ?_
        refine Go.aloadN X191 165 at_164 rfl rfl ?_
        refine Go.getS X191 168 (hw _ (List.mem_of_getElem? (i := 40) rfl)) S18 at_165 ?_
        intro T197 X197
        by_cases c198 : (.ref b19) = ((.ref b18) : Value)
        · skip
          refine Go.acmpY X197 185 at_168 rfl rfl (XT.aa_eq_t c198) ?_
          refine Go.iconst X197 186 (1 : Int32) at_185 ?_
          refine Go.goto X197 190 at_186 ?_
          refine Go.istoreN X197 191 #[.val (.int p0), .val (.ref a101), .val (.ref b19), .val (.int (1 : Int32)), .unset, .unset] at_190 rfl ?_
          refine Go.aloadN X197 192 at_191 rfl rfl ?_
          refine Go.getS X197 195 (hw _ (List.mem_of_getElem? (i := 47) rfl)) SF at_192 ?_
          intro T199 X199
          refine Go.callVP X199 198 [(.ref dF)] [] 0 (hw _ (List.mem_of_getElem? (i := 50) rfl)) (hw _ (List.mem_of_getElem? (i := 51) rfl)) (hw _ (List.mem_of_getElem? (i := 53) rfl)) (notFace_of_selects (args := #[]) (mvT X199.hZ (hw _ (List.mem_of_getElem? (i := 53) rfl)))) (hw _ (List.mem_of_getElem? (i := 52) rfl)) (hw _ (List.mem_of_getElem? (i := 3) rfl)) (by decide) (hE.ext X199.old) (hw _ (List.mem_of_getElem? (i := 54) rfl)) pd_0 at_195 (rm_s l Z a0 hw h166 iE dI SE SI b19 dF iI (0 : Int32) (hG.ext X199.old) (Or.inr (Or.inr ⟨hi, hd, rfl⟩))) rfl rfl rfl (Nat.le_of_eq rfl) (by decide) (by decide) (by decide) (by decide) ?_
          intro T200 L200 X200
          refine Go.istore X200 200 #[.val (.int p0), .val (.ref a101), .val (.ref b19), .val (.int (1 : Int32)), .val (.int (0 : Int32)), .unset] at_198 rfl ?_
          refine Go.aloadN X200 201 at_200 rfl rfl ?_
          refine Go.getS X200 204 (hw _ (List.mem_of_getElem? (i := 60) rfl)) SI at_201 ?_
          intro T201 X201
          refine Go.callVP X201 207 [(.ref dI)] [] 0 (hw _ (List.mem_of_getElem? (i := 50) rfl)) (hw _ (List.mem_of_getElem? (i := 51) rfl)) (hw _ (List.mem_of_getElem? (i := 53) rfl)) (notFace_of_selects (args := #[]) (mvT X201.hZ (hw _ (List.mem_of_getElem? (i := 53) rfl)))) (hw _ (List.mem_of_getElem? (i := 52) rfl)) (hw _ (List.mem_of_getElem? (i := 3) rfl)) (by decide) (hE.ext X201.old) (hw _ (List.mem_of_getElem? (i := 54) rfl)) pd_0 at_204 (rm_s l Z a0 hw h166 iE dI SE SI b19 dI iI (1 : Int32) (hG.ext X201.old) (Or.inr (Or.inl ⟨hi, rfl, rfl⟩))) rfl rfl rfl (Nat.le_of_eq rfl) (by decide) (by decide) (by decide) (by decide) ?_
          intro T202 L202 X202
          refine Go.istore X202 209 #[.val (.int p0), .val (.ref a101), .val (.ref b19), .val (.int (1 : Int32)), .val (.int (0 : Int32)), .val (.int (1 : Int32))] at_207 rfl ?_
          refine Go.iload X202 211 at_209 rfl ?_
          refine Go.iloadN X202 212 at_211 rfl ?_
          refine Go.if0Y X202 219 at_212 (XT.i0_ne_t (by decide)) ?_
          refine Go.iconst X202 220 (0 : Int32) at_219 ?_
          refine Go.icmpN X202 223 at_220 (XT.ii_ne_f (by decide)) ?_
          refine Go.iload X202 225 at_223 rfl ?_
          refine Go.if0N X202 228 at_225 (XT.i0_eq_f (by decide)) ?_
          refine Go.iconst X202 229 (1 : Int32) at_228 ?_
          refine Go.goto X202 233 at_229 ?_
          exact Go.retI X202 rfl (by simp) rfl at_233 (X202.fin rfl (by decide) (by decide))
        · skip
          refine Go.acmpN X197 171 at_168 rfl rfl (XT.aa_eq_f c198) ?_
          refine Go.aloadN X197 172 at_171 rfl rfl ?_
          refine Go.getS X197 175 (hw _ (List.mem_of_getElem? (i := 42) rfl)) S19 at_172 ?_
          intro T203 X203
          refine Go.acmpY X203 185 at_175 rfl rfl (XT.aa_eq_t rfl) ?_
          refine Go.iconst X203 186 (1 : Int32) at_185 ?_
          refine Go.goto X203 190 at_186 ?_
          refine Go.istoreN X203 191 #[.val (.int p0), .val (.ref a101), .val (.ref b19), .val (.int (1 : Int32)), .unset, .unset] at_190 rfl ?_
          refine Go.aloadN X203 192 at_191 rfl rfl ?_
          refine Go.getS X203 195 (hw _ (List.mem_of_getElem? (i := 47) rfl)) SF at_192 ?_
          intro T204 X204
          refine Go.callVP X204 198 [(.ref dF)] [] 0 (hw _ (List.mem_of_getElem? (i := 50) rfl)) (hw _ (List.mem_of_getElem? (i := 51) rfl)) (hw _ (List.mem_of_getElem? (i := 53) rfl)) (notFace_of_selects (args := #[]) (mvT X204.hZ (hw _ (List.mem_of_getElem? (i := 53) rfl)))) (hw _ (List.mem_of_getElem? (i := 52) rfl)) (hw _ (List.mem_of_getElem? (i := 3) rfl)) (by decide) (hE.ext X204.old) (hw _ (List.mem_of_getElem? (i := 54) rfl)) pd_0 at_195 (rm_s l Z a0 hw h166 iE dI SE SI b19 dF iI (0 : Int32) (hG.ext X204.old) (Or.inr (Or.inr ⟨hi, hd, rfl⟩))) rfl rfl rfl (Nat.le_of_eq rfl) (by decide) (by decide) (by decide) (by decide) ?_
          intro T205 L205 X205
          refine Go.istore X205 200 #[.val (.int p0), .val (.ref a101), .val (.ref b19), .val (.int (1 : Int32)), .val (.int (0 : Int32)), .unset] at_198 rfl ?_
          refine Go.aloadN X205 201 at_200 rfl rfl ?_
          refine Go.getS X205 204 (hw _ (List.mem_of_getElem? (i := 60) rfl)) SI at_201 ?_
          intro T206 X206
          refine Go.callVP X206 207 [(.ref dI)] [] 0 (hw _ (List.mem_of_getElem? (i := 50) rfl)) (hw _ (List.mem_of_getElem? (i := 51) rfl)) (hw _ (List.mem_of_getElem? (i := 53) rfl)) (notFace_of_selects (args := #[]) (mvT X206.hZ (hw _ (List.mem_of_getElem? (i := 53) rfl)))) (hw _ (List.mem_of_getElem? (i := 52) rfl)) (hw _ (List.mem_of_getElem? (i := 3) rfl)) (by decide) (hE.ext X206.old) (hw _ (List.mem_of_getElem? (i := 54) rfl)) pd_0 at_204 (rm_s l Z a0 hw h166 iE dI SE SI b19 dI iI (1 : Int32) (hG.ext X206.old) (Or.inr (Or.inl ⟨hi, rfl, rfl⟩))) rfl rfl rfl (Nat.le_of_eq rfl) (by decide) (by decide) (by decide) (by decide) ?_
          intro T207 L207 X207
          refine Go.istore X207 209 #[.val (.int p0), .val (.ref a101), .val (.ref b19), .val (.int (1 : Int32)), .val (.int (0 : Int32)), .val (.int (1 : Int32))] at_207 rfl ?_
          refine Go.iload X207 211 at_209 rfl ?_
          refine Go.iloadN X207 212 at_211 rfl ?_
          refine Go.if0Y X207 219 at_212 (XT.i0_ne_t (by decide)) ?_
          refine Go.iconst X207 220 (0 : Int32) at_219 ?_
          refine Go.icmpN X207 223 at_220 (XT.ii_ne_f (by decide)) ?_
          refine Go.iload X207 225 at_223 rfl ?_
          refine Go.if0N X207 228 at_225 (XT.i0_eq_f (by decide)) ?_
          refine Go.iconst X207 229 (1 : Int32) at_228 ?_
          refine Go.goto X207 233 at_229 ?_
          exact Go.retI X207 rfl (by simp) rfl at_233 (X207.fin rfl (by decide) (by decide))
    · skip
      have hf' := hf.symm
      subst hf'
      refine Go.astoreN X166 157 #[.val (.int p0), .val (.ref a101), .val (.ref b20), .unset, .unset, .unset] at_156 rfl rfl ?_
      refine Go.aloadN X166 158 at_157 rfl rfl ?_
      refine Go.getS X166 161 (hw _ (List.mem_of_getElem? (i := 38) rfl)) S17 at_158 ?_
      intro T208 X208
      by_cases c209 : (.ref b20) = ((.ref b17) : Value)
      · skip
        refine Go.acmpY X208 185 at_161 rfl rfl (XT.aa_eq_t c209) ?_
        refine Go.iconst X208 186 (1 : Int32) at_185 ?_
        refine Go.goto X208 190 at_186 ?_
        refine Go.istoreN X208 191 #[.val (.int p0), .val (.ref a101), .val (.ref b20), .val (.int (1 : Int32)), .unset, .unset] at_190 rfl ?_
        refine Go.aloadN X208 192 at_191 rfl rfl ?_
        refine Go.getS X208 195 (hw _ (List.mem_of_getElem? (i := 47) rfl)) SF at_192 ?_
        intro T210 X210
        refine Go.callVP X210 198 [(.ref dF)] [] 0 (hw _ (List.mem_of_getElem? (i := 50) rfl)) (hw _ (List.mem_of_getElem? (i := 51) rfl)) (hw _ (List.mem_of_getElem? (i := 53) rfl)) (notFace_of_selects (args := #[]) (mvT X210.hZ (hw _ (List.mem_of_getElem? (i := 53) rfl)))) (hw _ (List.mem_of_getElem? (i := 52) rfl)) (hw _ (List.mem_of_getElem? (i := 3) rfl)) (by decide) (hE.ext X210.old) (hw _ (List.mem_of_getElem? (i := 54) rfl)) pd_0 at_195 (rm_s l Z a0 hw h166 iE dI SE SI b20 dF iI (0 : Int32) (hG.ext X210.old) (Or.inr (Or.inr ⟨hi, hd, rfl⟩))) rfl rfl rfl (Nat.le_of_eq rfl) (by decide) (by decide) (by decide) (by decide) ?_
        intro T211 L211 X211
        refine Go.istore X211 200 #[.val (.int p0), .val (.ref a101), .val (.ref b20), .val (.int (1 : Int32)), .val (.int (0 : Int32)), .unset] at_198 rfl ?_
        refine Go.aloadN X211 201 at_200 rfl rfl ?_
        refine Go.getS X211 204 (hw _ (List.mem_of_getElem? (i := 60) rfl)) SI at_201 ?_
        intro T212 X212
        refine Go.callVP X212 207 [(.ref dI)] [] 0 (hw _ (List.mem_of_getElem? (i := 50) rfl)) (hw _ (List.mem_of_getElem? (i := 51) rfl)) (hw _ (List.mem_of_getElem? (i := 53) rfl)) (notFace_of_selects (args := #[]) (mvT X212.hZ (hw _ (List.mem_of_getElem? (i := 53) rfl)))) (hw _ (List.mem_of_getElem? (i := 52) rfl)) (hw _ (List.mem_of_getElem? (i := 3) rfl)) (by decide) (hE.ext X212.old) (hw _ (List.mem_of_getElem? (i := 54) rfl)) pd_0 at_204 (rm_s l Z a0 hw h166 iE dI SE SI b20 dI iI (1 : Int32) (hG.ext X212.old) (Or.inr (Or.inl ⟨hi, rfl, rfl⟩))) rfl rfl rfl (Nat.le_of_eq rfl) (by decide) (by decide) (by decide) (by decide) ?_
        intro T213 L213 X213
        refine Go.istore X213 209 #[.val (.int p0), .val (.ref a101), .val (.ref b20), .val (.int (1 : Int32)), .val (.int (0 : Int32)), .val (.int (1 : Int32))] at_207 rfl ?_
        refine Go.iload X213 211 at_209 rfl ?_
        refine Go.iloadN X213 212 at_211 rfl ?_
        refine Go.if0Y X213 219 at_212 (XT.i0_ne_t (by decide)) ?_
        refine Go.iconst X213 220 (0 : Int32) at_219 ?_
        refine Go.icmpN X213 223 at_220 (XT.ii_ne_f (by decide)) ?_
        refine Go.iload X213 225 at_223 rfl ?_
        refine Go.if0N X213 228 at_225 (XT.i0_eq_f (by decide)) ?_
        refine Go.iconst X213 229 (1 : Int32) at_228 ?_
        refine Go.goto X213 233 at_229 ?_
        exact Go.retI X213 rfl (by simp) rfl at_233 (X213.fin rfl (by decide) (by decide))
      · skip
        refine Go.acmpN X208 164 at_161 rfl rfl (XT.aa_eq_f c209) ?_
        refine Go.aloadN X208 165 at_164 rfl rfl ?_
        refine Go.getS X208 168 (hw _ (List.mem_of_getElem? (i := 40) rfl)) S18 at_165 ?_
        intro T214 X214
        by_cases c215 : (.ref b20) = ((.ref b18) : Value)
        · skip
          refine Go.acmpY X214 185 at_168 rfl rfl (XT.aa_eq_t c215) ?_
          refine Go.iconst X214 186 (1 : Int32) at_185 ?_
          refine Go.goto X214 190 at_186 ?_
          refine Go.istoreN X214 191 #[.val (.int p0), .val (.ref a101), .val (.ref b20), .val (.int (1 : Int32)), .unset, .unset] at_190 rfl ?_
          refine Go.aloadN X214 192 at_191 rfl rfl ?_
          refine Go.getS X214 195 (hw _ (List.mem_of_getElem? (i := 47) rfl)) SF at_192 ?_
          intro T216 X216
          refine Go.callVP X216 198 [(.ref dF)] [] 0 (hw _ (List.mem_of_getElem? (i := 50) rfl)) (hw _ (List.mem_of_getElem? (i := 51) rfl)) (hw _ (List.mem_of_getElem? (i := 53) rfl)) (notFace_of_selects (args := #[]) (mvT X216.hZ (hw _ (List.mem_of_getElem? (i := 53) rfl)))) (hw _ (List.mem_of_getElem? (i := 52) rfl)) (hw _ (List.mem_of_getElem? (i := 3) rfl)) (by decide) (hE.ext X216.old) (hw _ (List.mem_of_getElem? (i := 54) rfl)) pd_0 at_195 (rm_s l Z a0 hw h166 iE dI SE SI b20 dF iI (0 : Int32) (hG.ext X216.old) (Or.inr (Or.inr ⟨hi, hd, rfl⟩))) rfl rfl rfl (Nat.le_of_eq rfl) (by decide) (by decide) (by decide) (by decide) ?_
          intro T217 L217 X217
          refine Go.istore X217 200 #[.val (.int p0), .val (.ref a101), .val (.ref b20), .val (.int (1 : Int32)), .val (.int (0 : Int32)), .unset] at_198 rfl ?_
          refine Go.aloadN X217 201 at_200 rfl rfl ?_
          refine Go.getS X217 204 (hw _ (List.mem_of_getElem? (i := 60) rfl)) SI at_201 ?_
          intro T218 X218
          refine Go.callVP X218 207 [(.ref dI)] [] 0 (hw _ (List.mem_of_getElem? (i := 50) rfl)) (hw _ (List.mem_of_getElem? (i := 51) rfl)) (hw _ (List.mem_of_getElem? (i := 53) rfl)) (notFace_of_selects (args := #[]) (mvT X218.hZ (hw _ (List.mem_of_getElem? (i := 53) rfl)))) (hw _ (List.mem_of_getElem? (i := 52) rfl)) (hw _ (List.mem_of_getElem? (i := 3) rfl)) (by decide) (hE.ext X218.old) (hw _ (List.mem_of_getElem? (i := 54) rfl)) pd_0 at_204 (rm_s l Z a0 hw h166 iE dI SE SI b20 dI iI (1 : Int32) (hG.ext X218.old) (Or.inr (Or.inl ⟨hi, rfl, rfl⟩))) rfl rfl rfl (Nat.le_of_eq rfl) (by decide) (by decide) (by decide) (by decide) ?_
          intro T219 L219 X219
          refine Go.istore X219 209 #[.val (.int p0), .val (.ref a101), .val (.ref b20), .val (.int (1 : Int32)), .val (.int (0 : Int32)), .val (.int (1 : Int32))] at_207 rfl ?_
          refine Go.iload X219 211 at_209 rfl ?_
          refine Go.iloadN X219 212 at_211 rfl ?_
          refine Go.if0Y X219 219 at_212 (XT.i0_ne_t (by decide)) ?_
          refine Go.iconst X219 220 (0 : Int32) at_219 ?_
          refine Go.icmpN X219 223 at_220 (XT.ii_ne_f (by decide)) ?_
          refine Go.iload X219 225 at_223 rfl ?_
          refine Go.if0N X219 228 at_225 (XT.i0_eq_f (by decide)) ?_
          refine Go.iconst X219 229 (1 : Int32) at_228 ?_
          refine Go.goto X219 233 at_229 ?_
          exact Go.retI X219 rfl (by simp) rfl at_233 (X219.fin rfl (by decide) (by decide))
        · skip
          refine Go.acmpN X214 171 at_168 rfl rfl (XT.aa_eq_f c215) ?_
          refine Go.aloadN X214 172 at_171 rfl rfl ?_
          refine Go.getS X214 175 (hw _ (List.mem_of_getElem? (i := 42) rfl)) S19 at_172 ?_
          intro T220 X220
          by_cases c221 : (.ref b20) = ((.ref b19) : Value)
          · skip
            refine Go.acmpY X220 185 at_175 rfl rfl (XT.aa_eq_t c221) ?_
            refine Go.iconst X220 186 (1 : Int32) at_185 ?_
            refine Go.goto X220 190 at_186 ?_
            refine Go.istoreN X220 191 #[.val (.int p0), .val (.ref a101), .val (.ref b20), .val (.int (1 : Int32)), .unset, .unset] at_190 rfl ?_
            refine Go.aloadN X220 192 at_191 rfl rfl ?_
            refine Go.getS X220 195 (hw _ (List.mem_of_getElem? (i := 47) rfl)) SF at_192 ?_
            intro T222 X222
            refine Go.callVP X222 198 [(.ref dF)] [] 0 (hw _ (List.mem_of_getElem? (i := 50) rfl)) (hw _ (List.mem_of_getElem? (i := 51) rfl)) (hw _ (List.mem_of_getElem? (i := 53) rfl)) (notFace_of_selects (args := #[]) (mvT X222.hZ (hw _ (List.mem_of_getElem? (i := 53) rfl)))) (hw _ (List.mem_of_getElem? (i := 52) rfl)) (hw _ (List.mem_of_getElem? (i := 3) rfl)) (by decide) (hE.ext X222.old) (hw _ (List.mem_of_getElem? (i := 54) rfl)) pd_0 at_195 (rm_s l Z a0 hw h166 iE dI SE SI b20 dF iI (0 : Int32) (hG.ext X222.old) (Or.inr (Or.inr ⟨hi, hd, rfl⟩))) rfl rfl rfl (Nat.le_of_eq rfl) (by decide) (by decide) (by decide) (by decide) ?_
            intro T223 L223 X223
            refine Go.istore X223 200 #[.val (.int p0), .val (.ref a101), .val (.ref b20), .val (.int (1 : Int32)), .val (.int (0 : Int32)), .unset] at_198 rfl ?_
            refine Go.aloadN X223 201 at_200 rfl rfl ?_
            refine Go.getS X223 204 (hw _ (List.mem_of_getElem? (i := 60) rfl)) SI at_201 ?_
            intro T224 X224
            refine Go.callVP X224 207 [(.ref dI)] [] 0 (hw _ (List.mem_of_getElem? (i := 50) rfl)) (hw _ (List.mem_of_getElem? (i := 51) rfl)) (hw _ (List.mem_of_getElem? (i := 53) rfl)) (notFace_of_selects (args := #[]) (mvT X224.hZ (hw _ (List.mem_of_getElem? (i := 53) rfl)))) (hw _ (List.mem_of_getElem? (i := 52) rfl)) (hw _ (List.mem_of_getElem? (i := 3) rfl)) (by decide) (hE.ext X224.old) (hw _ (List.mem_of_getElem? (i := 54) rfl)) pd_0 at_204 (rm_s l Z a0 hw h166 iE dI SE SI b20 dI iI (1 : Int32) (hG.ext X224.old) (Or.inr (Or.inl ⟨hi, rfl, rfl⟩))) rfl rfl rfl (Nat.le_of_eq rfl) (by decide) (by decide) (by decide) (by decide) ?_
            intro T225 L225 X225
            refine Go.istore X225 209 #[.val (.int p0), .val (.ref a101), .val (.ref b20), .val (.int (1 : Int32)), .val (.int (0 : Int32)), .val (.int (1 : Int32))] at_207 rfl ?_
            refine Go.iload X225 211 at_209 rfl ?_
            refine Go.iloadN X225 212 at_211 rfl ?_
            refine Go.if0Y X225 219 at_212 (XT.i0_ne_t (by decide)) ?_
            refine Go.iconst X225 220 (0 : Int32) at_219 ?_
            refine Go.icmpN X225 223 at_220 (XT.ii_ne_f (by decide)) ?_
            refine Go.iload X225 225 at_223 rfl ?_
            refine Go.if0N X225 228 at_225 (XT.i0_eq_f (by decide)) ?_
            refine Go.iconst X225 229 (1 : Int32) at_228 ?_
            refine Go.goto X225 233 at_229 ?_
            exact Go.retI X225 rfl (by simp) rfl at_233 (X225.fin rfl (by decide) (by decide))
          · skip
            refine Go.acmpN X220 178 at_175 rfl rfl (XT.aa_eq_f c221) ?_
            refine Go.aloadN X220 179 at_178 rfl rfl ?_
            refine Go.getS X220 182 (hw _ (List.mem_of_getElem? (i := 44) rfl)) S20 at_179 ?_
            intro T226 X226
            refine Go.acmpN X226 185 at_182 rfl rfl (XT.aa_ne_f rfl) ?_
            refine Go.iconst X226 186 (1 : Int32) at_185 ?_
            refine Go.goto X226 190 at_186 ?_
            refine Go.istoreN X226 191 #[.val (.int p0), .val (.ref a101), .val (.ref b20), .val (.int (1 : Int32)), .unset, .unset] at_190 rfl ?_
            refine Go.aloadN X226 192 at_191 rfl rfl ?_
            refine Go.getS X226 195 (hw _ (List.mem_of_getElem? (i := 47) rfl)) SF at_192 ?_
            intro T227 X227
            refine Go.callVP X227 198 [(.ref dF)] [] 0 (hw _ (List.mem_of_getElem? (i := 50) rfl)) (hw _ (List.mem_of_getElem? (i := 51) rfl)) (hw _ (List.mem_of_getElem? (i := 53) rfl)) (notFace_of_selects (args := #[]) (mvT X227.hZ (hw _ (List.mem_of_getElem? (i := 53) rfl)))) (hw _ (List.mem_of_getElem? (i := 52) rfl)) (hw _ (List.mem_of_getElem? (i := 3) rfl)) (by decide) (hE.ext X227.old) (hw _ (List.mem_of_getElem? (i := 54) rfl)) pd_0 at_195 (rm_s l Z a0 hw h166 iE dI SE SI b20 dF iI (0 : Int32) (hG.ext X227.old) (Or.inr (Or.inr ⟨hi, hd, rfl⟩))) rfl rfl rfl (Nat.le_of_eq rfl) (by decide) (by decide) (by decide) (by decide) ?_
            intro T228 L228 X228
            refine Go.istore X228 200 #[.val (.int p0), .val (.ref a101), .val (.ref b20), .val (.int (1 : Int32)), .val (.int (0 : Int32)), .unset] at_198 rfl ?_
            refine Go.aloadN X228 201 at_200 rfl rfl ?_
            refine Go.getS X228 204 (hw _ (List.mem_of_getElem? (i := 60) rfl)) SI at_201 ?_
            intro T229 X229
            refine Go.callVP X229 207 [(.ref dI)] [] 0 (hw _ (List.mem_of_getElem? (i := 50) rfl)) (hw _ (List.mem_of_getElem? (i := 51) rfl)) (hw _ (List.mem_of_getElem? (i := 53) rfl)) (notFace_of_selects (args := #[]) (mvT X229.hZ (hw _ (List.mem_of_getElem? (i := 53) rfl)))) (hw _ (List.mem_of_getElem? (i := 52) rfl)) (hw _ (List.mem_of_getElem? (i := 3) rfl)) (by decide) (hE.ext X229.old) (hw _ (List.mem_of_getElem? (i := 54) rfl)) pd_0 at_204 (rm_s l Z a0 hw h166 iE dI SE SI b20 dI iI (1 : Int32) (hG.ext X229.old) (Or.inr (Or.inl ⟨hi, rfl, rfl⟩))) rfl rfl rfl (Nat.le_of_eq rfl) (by decide) (by decide) (by decide) (by decide) ?_
            intro T230 L230 X230
            refine Go.istore X230 209 #[.val (.int p0), .val (.ref a101), .val (.ref b20), .val (.int (1 : Int32)), .val (.int (0 : Int32)), .val (.int (1 : Int32))] at_207 rfl ?_
            refine Go.iload X230 211 at_209 rfl ?_
            refine Go.iloadN X230 212 at_211 rfl ?_
            refine Go.if0Y X230 219 at_212 (XT.i0_ne_t (by decide)) ?_
            refine Go.iconst X230 220 (0 : Int32) at_219 ?_
            refine Go.icmpN X230 223 at_220 (XT.ii_ne_f (by decide)) ?_
            refine Go.iload X230 225 at_223 rfl ?_
            refine Go.if0N X230 228 at_225 (XT.i0_eq_f (by decide)) ?_
            refine Go.iconst X230 229 (1 : Int32) at_228 ?_
            refine Go.goto X230 233 at_229 ?_
            exact Go.retI X230 rfl (by simp) rfl at_233 (X230.fin rfl (by decide) (by decide))
  · intro J166
    rcases own_k21 p0 with hk | hk | hk | hk | hk | hk | hk | hk | hk | hk | hk | hk | hk | hk | hk | hk | hk | hk | hk | hk | hk
    · rw [hk]
      refine Go.aaload X164 156 F165 rfl at_155 (by decide) (v := .ref b0) rfl ?_
      exact J166 _ _ _ b0 X164 (Or.inl ⟨E0, G0, Fld.ne F0 F17 (by decide), Fld.ne F0 F18 (by decide), Fld.ne F0 F19 (by decide), Fld.ne F0 F20 (by decide)⟩)
    · rw [hk]
      refine Go.aaload X164 156 F165 rfl at_155 (by decide) (v := .ref b1) rfl ?_
      exact J166 _ _ _ b1 X164 (Or.inl ⟨E1, G1, Fld.ne F1 F17 (by decide), Fld.ne F1 F18 (by decide), Fld.ne F1 F19 (by decide), Fld.ne F1 F20 (by decide)⟩)
    · rw [hk]
      refine Go.aaload X164 156 F165 rfl at_155 (by decide) (v := .ref b2) rfl ?_
      exact J166 _ _ _ b2 X164 (Or.inl ⟨E2, G2, Fld.ne F2 F17 (by decide), Fld.ne F2 F18 (by decide), Fld.ne F2 F19 (by decide), Fld.ne F2 F20 (by decide)⟩)
    · rw [hk]
      refine Go.aaload X164 156 F165 rfl at_155 (by decide) (v := .ref b3) rfl ?_
      exact J166 _ _ _ b3 X164 (Or.inl ⟨E3, G3, Fld.ne F3 F17 (by decide), Fld.ne F3 F18 (by decide), Fld.ne F3 F19 (by decide), Fld.ne F3 F20 (by decide)⟩)
    · rw [hk]
      refine Go.aaload X164 156 F165 rfl at_155 (by decide) (v := .ref b4) rfl ?_
      exact J166 _ _ _ b4 X164 (Or.inl ⟨E4, G4, Fld.ne F4 F17 (by decide), Fld.ne F4 F18 (by decide), Fld.ne F4 F19 (by decide), Fld.ne F4 F20 (by decide)⟩)
    · rw [hk]
      refine Go.aaload X164 156 F165 rfl at_155 (by decide) (v := .ref b5) rfl ?_
      exact J166 _ _ _ b5 X164 (Or.inl ⟨E5, G5, Fld.ne F5 F17 (by decide), Fld.ne F5 F18 (by decide), Fld.ne F5 F19 (by decide), Fld.ne F5 F20 (by decide)⟩)
    · rw [hk]
      refine Go.aaload X164 156 F165 rfl at_155 (by decide) (v := .ref b6) rfl ?_
      exact J166 _ _ _ b6 X164 (Or.inl ⟨E6, G6, Fld.ne F6 F17 (by decide), Fld.ne F6 F18 (by decide), Fld.ne F6 F19 (by decide), Fld.ne F6 F20 (by decide)⟩)
    · rw [hk]
      refine Go.aaload X164 156 F165 rfl at_155 (by decide) (v := .ref b7) rfl ?_
      exact J166 _ _ _ b7 X164 (Or.inl ⟨E7, G7, Fld.ne F7 F17 (by decide), Fld.ne F7 F18 (by decide), Fld.ne F7 F19 (by decide), Fld.ne F7 F20 (by decide)⟩)
    · rw [hk]
      refine Go.aaload X164 156 F165 rfl at_155 (by decide) (v := .ref b8) rfl ?_
      exact J166 _ _ _ b8 X164 (Or.inl ⟨E8, G8, Fld.ne F8 F17 (by decide), Fld.ne F8 F18 (by decide), Fld.ne F8 F19 (by decide), Fld.ne F8 F20 (by decide)⟩)
    · rw [hk]
      refine Go.aaload X164 156 F165 rfl at_155 (by decide) (v := .ref b9) rfl ?_
      exact J166 _ _ _ b9 X164 (Or.inl ⟨E9, G9, Fld.ne F9 F17 (by decide), Fld.ne F9 F18 (by decide), Fld.ne F9 F19 (by decide), Fld.ne F9 F20 (by decide)⟩)
    · rw [hk]
      refine Go.aaload X164 156 F165 rfl at_155 (by decide) (v := .ref b10) rfl ?_
      exact J166 _ _ _ b10 X164 (Or.inl ⟨E10, G10, Fld.ne F10 F17 (by decide), Fld.ne F10 F18 (by decide), Fld.ne F10 F19 (by decide), Fld.ne F10 F20 (by decide)⟩)
    · rw [hk]
      refine Go.aaload X164 156 F165 rfl at_155 (by decide) (v := .ref b11) rfl ?_
      exact J166 _ _ _ b11 X164 (Or.inl ⟨E11, G11, Fld.ne F11 F17 (by decide), Fld.ne F11 F18 (by decide), Fld.ne F11 F19 (by decide), Fld.ne F11 F20 (by decide)⟩)
    · rw [hk]
      refine Go.aaload X164 156 F165 rfl at_155 (by decide) (v := .ref b12) rfl ?_
      exact J166 _ _ _ b12 X164 (Or.inl ⟨E12, G12, Fld.ne F12 F17 (by decide), Fld.ne F12 F18 (by decide), Fld.ne F12 F19 (by decide), Fld.ne F12 F20 (by decide)⟩)
    · rw [hk]
      refine Go.aaload X164 156 F165 rfl at_155 (by decide) (v := .ref b13) rfl ?_
      exact J166 _ _ _ b13 X164 (Or.inl ⟨E13, G13, Fld.ne F13 F17 (by decide), Fld.ne F13 F18 (by decide), Fld.ne F13 F19 (by decide), Fld.ne F13 F20 (by decide)⟩)
    · rw [hk]
      refine Go.aaload X164 156 F165 rfl at_155 (by decide) (v := .ref b14) rfl ?_
      exact J166 _ _ _ b14 X164 (Or.inl ⟨E14, G14, Fld.ne F14 F17 (by decide), Fld.ne F14 F18 (by decide), Fld.ne F14 F19 (by decide), Fld.ne F14 F20 (by decide)⟩)
    · rw [hk]
      refine Go.aaload X164 156 F165 rfl at_155 (by decide) (v := .ref b15) rfl ?_
      exact J166 _ _ _ b15 X164 (Or.inl ⟨E15, G15, Fld.ne F15 F17 (by decide), Fld.ne F15 F18 (by decide), Fld.ne F15 F19 (by decide), Fld.ne F15 F20 (by decide)⟩)
    · rw [hk]
      refine Go.aaload X164 156 F165 rfl at_155 (by decide) (v := .ref b16) rfl ?_
      exact J166 _ _ _ b16 X164 (Or.inl ⟨E16, G16, Fld.ne F16 F17 (by decide), Fld.ne F16 F18 (by decide), Fld.ne F16 F19 (by decide), Fld.ne F16 F20 (by decide)⟩)
    · rw [hk]
      refine Go.aaload X164 156 F165 rfl at_155 (by decide) (v := .ref b17) rfl ?_
      exact J166 _ _ _ b17 X164 (Or.inr ⟨E17, G17, Or.inl rfl⟩)
    · rw [hk]
      refine Go.aaload X164 156 F165 rfl at_155 (by decide) (v := .ref b18) rfl ?_
      exact J166 _ _ _ b18 X164 (Or.inr ⟨E18, G18, Or.inr (Or.inl rfl)⟩)
    · rw [hk]
      refine Go.aaload X164 156 F165 rfl at_155 (by decide) (v := .ref b19) rfl ?_
      exact J166 _ _ _ b19 X164 (Or.inr ⟨E19, G19, Or.inr (Or.inr (Or.inl rfl))⟩)
    · rw [hk]
      refine Go.aaload X164 156 F165 rfl at_155 (by decide) (v := .ref b20) rfl ?_
      exact J166 _ _ _ b20 X164 (Or.inr ⟨E20, G20, Or.inr (Or.inr (Or.inr rfl))⟩)
theorem eq_I {a b : Term} {args : Array Value} {s : State} {x y : Int32} (ha : a.eval args s none [] s = some (.int x)) (hb : b.eval args s none [] s = some (.int y)) : (Jvm.Cond.eq a b).value args s none s [] = some (decide (x = y)) := by simp [Cond.value, ha, hb]
theorem own_eqI {t : Term} {args : Array Value} {s : State} {z : Int32} (h : (Jvm.Cond.eq t (.int z)).value args s none s [] = some true) : t.eval args s none [] s = some (.int z) := by
  obtain ⟨x, y, e1, e2, -, k⟩ := cmp_v (Or.inl h)
  have e3 : y = .int z := Option.some.inj (e2.symm.trans (Term.int_eval z))
  subst e3
  obtain ⟨w, rfl⟩ := k
  have := gotT (eq_I e1 e2) h
  rw [this] at e1
  exact e1
theorem own_sta {C n d : String} {args : Array Value} {s : State} (hx : (Jvm.Cond.exactly (.static C n d) C).value args s none s [] = some true) (wi : (Jvm.Cond.initialized C).before args s = true) (wl : (Jvm.Cond.laysStatic C n d).before args s = true) : ∃ a, Sta s s.heap C n d (.ref a) ∧ Exa s s.heap a C ∧ (Term.static C n d).eval args s none [] s = some (.ref a) := by
  obtain ⟨a, ev⟩ := exa_v hx
  exact ⟨a, Sta.start ev (Or.inr ⟨wi, wl⟩), Exa.start ev hx, ev⟩
theorem own_fldI {t : Term} {C n d : String} {args : Array Value} {s : State} {a : Addr} {z : Int32} (ev : t.eval args s none [] s = some (.ref a)) (hz : (Jvm.Cond.eq (.field t C n d) (.int z)).value args s none s [] = some true) : Fld s s.heap a C n d (.int z) := by
  have := own_eqI hz
  rw [fld_at ev] at this
  exact Fld.start this
theorem own_fldR {t u : Term} {C n d : String} {args : Array Value} {s : State} {a b : Addr} (ev : t.eval args s none [] s = some (.ref a)) (eu : u.eval args s none [] s = some (.ref b)) (hz : (Jvm.Cond.eq (.field t C n d) u).value args s none s [] = some true) : Fld s s.heap a C n d (.ref b) := by
  obtain ⟨x, y, e1, e2, -, k⟩ := cmp_v (Or.inl hz)
  have e3 : y = .ref b := Option.some.inj (e2.symm.trans eu)
  subst e3
  have hx : x.isRef = true := k.2
  have := gotT (eq_R e1 e2 hx rfl) hz
  rw [this, fld_at ev] at e1
  exact Fld.start e1
set_option maxRecDepth 65536 in
set_option maxHeartbeats 40000000 in
theorem comes_1 {Post : Tables → Env → Array Value → State → Outcome → State → Prop} (hpost : ∀ tb e args s v u, (limb_1_1.after args s (.returned v) u = true ∧ limb_1_2.after args s (.returned v) u = true ∧ True) → FrameEnd s (.returned v) u (Jvm.fieldLocs frame_1_writes args s ++ Jvm.arrayLocs frame_1_arrays args s ++ Jvm.staticLocs frame_1_statics s) 16 128 → Post tb e args s (.returned v) u) :
    ArmFor flags0 classFile x code maxLocals ret World_1 tables_1 room_1 Calls_1 rest_1 Pre_1 Post := by
  intro l hfl _ _ p e ha hc hk s m args below hf hA hF happ hP
  obtain ⟨hcalls, hrest, hpre⟩ := hP
  obtain ⟨-, -, -, hnamed, -, -, -, hat⟩ := (Spec.applies_iff hf).mp happ
  obtain ⟨hg, hn⟩ := and_e (Cond.before_iff.mp (show (Jvm.Cond.and given_1 narrow_1).before args s = true from hpre))
  obtain ⟨hcount, hr_hcount⟩ := and_e hg
  have hk0 := hr_hcount
  obtain ⟨w0, rfl⟩ : ∃ w0 : Value, args = #[w0] := by
    have hs : args.size = 1 := by simpa [Cond.value, given_1] using hcount
    obtain ⟨L⟩ := args
    match L, hs with
    | [w0], _ => exact ⟨w0, rfl⟩
  have hw := fun d (hd : d ∈ tables_1) => atoms_spec (ws := Jvm.Cond.code x code maxLocals ret :: tables_1) hat d (List.mem_cons_of_mem _ hd)
  obtain ⟨i0, e0⟩ := is_v hk0
  obtain rfl : w0 = (.int i0) := Option.some.inj e0
  obtain ⟨x0, hr_x0⟩ := and_e hn
  obtain ⟨x1, hr_x1⟩ := and_e hr_x0
  obtain ⟨x2, hr_x2⟩ := and_e hr_x1
  obtain ⟨x3, hr_x3⟩ := and_e hr_x2
  obtain ⟨x4, hr_x4⟩ := and_e hr_x3
  obtain ⟨x5, hr_x5⟩ := and_e hr_x4
  obtain ⟨x6, hr_x6⟩ := and_e hr_x5
  obtain ⟨x7, hr_x7⟩ := and_e hr_x6
  obtain ⟨x8, hr_x8⟩ := and_e hr_x7
  obtain ⟨x9, hr_x9⟩ := and_e hr_x8
  obtain ⟨x10, hr_x10⟩ := and_e hr_x9
  obtain ⟨x11, hr_x11⟩ := and_e hr_x10
  obtain ⟨x12, hr_x12⟩ := and_e hr_x11
  obtain ⟨x13, hr_x13⟩ := and_e hr_x12
  obtain ⟨x14, hr_x14⟩ := and_e hr_x13
  obtain ⟨x15, hr_x15⟩ := and_e hr_x14
  obtain ⟨x16, hr_x16⟩ := and_e hr_x15
  obtain ⟨x17, hr_x17⟩ := and_e hr_x16
  obtain ⟨x18, hr_x18⟩ := and_e hr_x17
  obtain ⟨x19, hr_x19⟩ := and_e hr_x18
  obtain ⟨x20, hr_x20⟩ := and_e hr_x19
  obtain ⟨z21, hr_z21⟩ := and_e hr_x20
  obtain ⟨z22, hr_z22⟩ := and_e hr_z21
  obtain ⟨z23, hr_z23⟩ := and_e hr_z22
  obtain ⟨z24, hr_z24⟩ := and_e hr_z23
  obtain ⟨z25, hr_z25⟩ := and_e hr_z24
  obtain ⟨x26, hr_x26⟩ := and_e hr_z25
  obtain ⟨x27, hr_x27⟩ := and_e hr_x26
  obtain ⟨g28, hr_g28⟩ := and_e hr_x27
  obtain ⟨x29, hr_x29⟩ := and_e hr_g28
  obtain ⟨z30, hr_z30⟩ := and_e hr_x29
  obtain ⟨g31, hr_g31⟩ := and_e hr_z30
  obtain ⟨z32, hr_z32⟩ := and_e hr_g31
  obtain ⟨g33, hr_g33⟩ := and_e hr_z32
  obtain ⟨z34, hr_z34⟩ := and_e hr_g33
  obtain ⟨g35, hr_g35⟩ := and_e hr_z34
  obtain ⟨z36, hr_z36⟩ := and_e hr_g35
  obtain ⟨g37, hr_g37⟩ := and_e hr_z36
  obtain ⟨z38, hr_z38⟩ := and_e hr_g37
  obtain ⟨g39, hr_g39⟩ := and_e hr_z38
  obtain ⟨z40, hr_z40⟩ := and_e hr_g39
  obtain ⟨g41, hr_g41⟩ := and_e hr_z40
  obtain ⟨z42, hr_z42⟩ := and_e hr_g41
  obtain ⟨g43, hr_g43⟩ := and_e hr_z42
  obtain ⟨z44, hr_z44⟩ := and_e hr_g43
  obtain ⟨g45, hr_g45⟩ := and_e hr_z44
  obtain ⟨z46, hr_z46⟩ := and_e hr_g45
  obtain ⟨g47, hr_g47⟩ := and_e hr_z46
  obtain ⟨z48, hr_z48⟩ := and_e hr_g47
  obtain ⟨g49, hr_g49⟩ := and_e hr_z48
  obtain ⟨z50, hr_z50⟩ := and_e hr_g49
  obtain ⟨g51, hr_g51⟩ := and_e hr_z50
  obtain ⟨z52, hr_z52⟩ := and_e hr_g51
  obtain ⟨g53, hr_g53⟩ := and_e hr_z52
  obtain ⟨z54, hr_z54⟩ := and_e hr_g53
  obtain ⟨g55, hr_g55⟩ := and_e hr_z54
  obtain ⟨x56, hr_x56⟩ := and_e hr_g55
  obtain ⟨g57, hr_g57⟩ := and_e hr_x56
  obtain ⟨z58, hr_z58⟩ := and_e hr_g57
  obtain ⟨z59, hr_z59⟩ := and_e hr_z58
  obtain ⟨z60, hr_z60⟩ := and_e hr_z59
  obtain ⟨z61, hr_z61⟩ := and_e hr_z60
  obtain ⟨z62, hr_z62⟩ := and_e hr_z61
  obtain ⟨g63, hr_g63⟩ := and_e hr_z62
  obtain ⟨g64, hr_g64⟩ := and_e hr_g63
  obtain ⟨g65, hr_g65⟩ := and_e hr_g64
  obtain ⟨z66, hr_z66⟩ := and_e hr_g65
  obtain ⟨g67, hr_g67⟩ := and_e hr_z66
  obtain ⟨z68, hr_z68⟩ := and_e hr_g67
  obtain ⟨g69, hr_g69⟩ := and_e hr_z68
  have g70 := hr_g69
  obtain ⟨b0, S_b0, E_b0, v_b0⟩ := own_sta x0 (hw _ (List.mem_of_getElem? (i := 3) rfl)) (hw _ (List.mem_of_getElem? (i := 4) rfl))
  obtain ⟨b1, S_b1, E_b1, v_b1⟩ := own_sta x1 (hw _ (List.mem_of_getElem? (i := 3) rfl)) (hw _ (List.mem_of_getElem? (i := 7) rfl))
  obtain ⟨b2, S_b2, E_b2, v_b2⟩ := own_sta x2 (hw _ (List.mem_of_getElem? (i := 3) rfl)) (hw _ (List.mem_of_getElem? (i := 9) rfl))
  obtain ⟨b3, S_b3, E_b3, v_b3⟩ := own_sta x3 (hw _ (List.mem_of_getElem? (i := 3) rfl)) (hw _ (List.mem_of_getElem? (i := 11) rfl))
  obtain ⟨b4, S_b4, E_b4, v_b4⟩ := own_sta x4 (hw _ (List.mem_of_getElem? (i := 3) rfl)) (hw _ (List.mem_of_getElem? (i := 13) rfl))
  obtain ⟨b5, S_b5, E_b5, v_b5⟩ := own_sta x5 (hw _ (List.mem_of_getElem? (i := 3) rfl)) (hw _ (List.mem_of_getElem? (i := 15) rfl))
  obtain ⟨b6, S_b6, E_b6, v_b6⟩ := own_sta x6 (hw _ (List.mem_of_getElem? (i := 3) rfl)) (hw _ (List.mem_of_getElem? (i := 17) rfl))
  obtain ⟨b7, S_b7, E_b7, v_b7⟩ := own_sta x7 (hw _ (List.mem_of_getElem? (i := 3) rfl)) (hw _ (List.mem_of_getElem? (i := 19) rfl))
  obtain ⟨b8, S_b8, E_b8, v_b8⟩ := own_sta x8 (hw _ (List.mem_of_getElem? (i := 3) rfl)) (hw _ (List.mem_of_getElem? (i := 21) rfl))
  obtain ⟨b9, S_b9, E_b9, v_b9⟩ := own_sta x9 (hw _ (List.mem_of_getElem? (i := 3) rfl)) (hw _ (List.mem_of_getElem? (i := 23) rfl))
  obtain ⟨b10, S_b10, E_b10, v_b10⟩ := own_sta x10 (hw _ (List.mem_of_getElem? (i := 3) rfl)) (hw _ (List.mem_of_getElem? (i := 25) rfl))
  obtain ⟨b11, S_b11, E_b11, v_b11⟩ := own_sta x11 (hw _ (List.mem_of_getElem? (i := 3) rfl)) (hw _ (List.mem_of_getElem? (i := 27) rfl))
  obtain ⟨b12, S_b12, E_b12, v_b12⟩ := own_sta x12 (hw _ (List.mem_of_getElem? (i := 3) rfl)) (hw _ (List.mem_of_getElem? (i := 29) rfl))
  obtain ⟨b13, S_b13, E_b13, v_b13⟩ := own_sta x13 (hw _ (List.mem_of_getElem? (i := 3) rfl)) (hw _ (List.mem_of_getElem? (i := 31) rfl))
  obtain ⟨b14, S_b14, E_b14, v_b14⟩ := own_sta x14 (hw _ (List.mem_of_getElem? (i := 3) rfl)) (hw _ (List.mem_of_getElem? (i := 33) rfl))
  obtain ⟨b15, S_b15, E_b15, v_b15⟩ := own_sta x15 (hw _ (List.mem_of_getElem? (i := 3) rfl)) (hw _ (List.mem_of_getElem? (i := 35) rfl))
  obtain ⟨b16, S_b16, E_b16, v_b16⟩ := own_sta x16 (hw _ (List.mem_of_getElem? (i := 3) rfl)) (hw _ (List.mem_of_getElem? (i := 37) rfl))
  obtain ⟨b17, S_b17, E_b17, v_b17⟩ := own_sta x17 (hw _ (List.mem_of_getElem? (i := 3) rfl)) (hw _ (List.mem_of_getElem? (i := 39) rfl))
  obtain ⟨b18, S_b18, E_b18, v_b18⟩ := own_sta x18 (hw _ (List.mem_of_getElem? (i := 3) rfl)) (hw _ (List.mem_of_getElem? (i := 41) rfl))
  obtain ⟨b19, S_b19, E_b19, v_b19⟩ := own_sta x19 (hw _ (List.mem_of_getElem? (i := 3) rfl)) (hw _ (List.mem_of_getElem? (i := 43) rfl))
  obtain ⟨b20, S_b20, E_b20, v_b20⟩ := own_sta x20 (hw _ (List.mem_of_getElem? (i := 3) rfl)) (hw _ (List.mem_of_getElem? (i := 45) rfl))
  obtain ⟨dF, S_dF, E_dF, v_dF⟩ := own_sta x26 (hw _ (List.mem_of_getElem? (i := 48) rfl)) (hw _ (List.mem_of_getElem? (i := 49) rfl))
  obtain ⟨iE, S_iE, E_iE, v_iE⟩ := own_sta x27 (hw _ (List.mem_of_getElem? (i := 57) rfl)) (hw _ (List.mem_of_getElem? (i := 58) rfl))
  obtain ⟨dI, S_dI, E_dI, v_dI⟩ := own_sta x29 (hw _ (List.mem_of_getElem? (i := 48) rfl)) (hw _ (List.mem_of_getElem? (i := 61) rfl))
  obtain ⟨iI, S_iI, E_iI, v_iI⟩ := own_sta x56 (hw _ (List.mem_of_getElem? (i := 57) rfl)) (hw _ (List.mem_of_getElem? (i := 62) rfl))
  have F_b0 := own_fldI v_b0 z21
  have F_b17 := own_fldI v_b17 z22
  have F_b18 := own_fldI v_b18 z23
  have F_b19 := own_fldI v_b19 z24
  have F_b20 := own_fldI v_b20 z25
  have G_b0 := own_fldR v_b0 v_iE g28
  have F_b3 := own_fldI v_b3 z30
  have G_b3 := own_fldR v_b3 v_iE g31
  have F_b5 := own_fldI v_b5 z32
  have G_b5 := own_fldR v_b5 v_iE g33
  have F_b13 := own_fldI v_b13 z34
  have G_b13 := own_fldR v_b13 v_iE g35
  have F_b6 := own_fldI v_b6 z36
  have G_b6 := own_fldR v_b6 v_iE g37
  have F_b11 := own_fldI v_b11 z38
  have G_b11 := own_fldR v_b11 v_iE g39
  have F_b7 := own_fldI v_b7 z40
  have G_b7 := own_fldR v_b7 v_iE g41
  have F_b2 := own_fldI v_b2 z42
  have G_b2 := own_fldR v_b2 v_iE g43
  have F_b10 := own_fldI v_b10 z44
  have G_b10 := own_fldR v_b10 v_iE g45
  have F_b8 := own_fldI v_b8 z46
  have G_b8 := own_fldR v_b8 v_iE g47
  have F_b1 := own_fldI v_b1 z48
  have G_b1 := own_fldR v_b1 v_iE g49
  have F_b14 := own_fldI v_b14 z50
  have G_b14 := own_fldR v_b14 v_iE g51
  have F_b15 := own_fldI v_b15 z52
  have G_b15 := own_fldR v_b15 v_iE g53
  have F_b9 := own_fldI v_b9 z54
  have G_b9 := own_fldR v_b9 v_iE g55
  have G_b19 := own_fldR v_b19 v_iI g57
  have F_iI := own_fldI v_iI z58
  have F_iE := own_fldI v_iE z59
  have F_dF := own_fldI v_dF z60
  have F_dI := own_fldI v_dI z61
  have F_b16 := own_fldI v_b16 z62
  have G_b16 := own_fldR v_b16 v_iE g63
  have G_b17 := own_fldR v_b17 v_iI g64
  have G_b20 := own_fldR v_b20 v_iI g65
  have F_b4 := own_fldI v_b4 z66
  have G_b4 := own_fldR v_b4 v_iE g67
  have F_b12 := own_fldI v_b12 z68
  have G_b12 := own_fldR v_b12 v_iE g69
  have G_b18 := own_fldR v_b18 v_iI g70
  obtain ⟨n, o, h1, h2, h3, _, L, rfl, ⟨N, -, rfl⟩, hq⟩ := rm_l l s _ hw s.heap b0 b1 b2 b3 b4 b5 b6 b7 b8 b9 b10 b11 b12 b13 b14 b15 b16 b17 b18 b19 b20 iE iI dF dI S_b0 E_b0 F_b0 G_b0 S_b1 E_b1 F_b1 G_b1 S_b2 E_b2 F_b2 G_b2 S_b3 E_b3 F_b3 G_b3 S_b4 E_b4 F_b4 G_b4 S_b5 E_b5 F_b5 G_b5 S_b6 E_b6 F_b6 G_b6 S_b7 E_b7 F_b7 G_b7 S_b8 E_b8 F_b8 G_b8 S_b9 E_b9 F_b9 G_b9 S_b10 E_b10 F_b10 G_b10 S_b11 E_b11 F_b11 G_b11 S_b12 E_b12 F_b12 G_b12 S_b13 E_b13 F_b13 G_b13 S_b14 E_b14 F_b14 G_b14 S_b15 E_b15 F_b15 G_b15 S_b16 E_b16 F_b16 G_b16 S_b17 E_b17 F_b17 G_b17 S_b18 E_b18 F_b18 G_b18 S_b19 E_b19 F_b19 G_b19 S_b20 E_b20 F_b20 G_b20 S_iE S_dI S_dF (Fld.ne F_iI F_iE (by decide)) (Fld.ne F_dF F_dI (by decide)) i0 (Ext.rf _) p e ha hc hk s m _ below hf ((Spec.applies_iff_loose hf).mp happ).1 ⟨rfl, State.Warmed39.refl s, rfl⟩ trivial
  refine ⟨n, _, h1, h2, h3, hpost _ _ _ _ _ _ ⟨Cond.after_iff.mpr rfl, Cond.after_iff.mpr (eq_i res_at (Term.int_eval (1)) rfl), trivial⟩ ⟨hq.1, hq.2.1, (hq.2.2.sift fun y hy => Or.inr (N y hy)).mono (by decide) (by decide)⟩⟩
theorem main_1_1 : Claimed_1_1 := comes_1 fun _ _ _ _ _ _ h hF => ⟨h.1, hF⟩
theorem main_1_2 : Claimed_1_2 := comes_1 fun _ _ _ _ _ _ h hF => ⟨h.2.1, hF⟩
end Jvm.Pilot.@@N@@
namespace Jvm.Pilot.@@N@@
open Jvm Jvm.ClassFile Sem Op Lib Jvm.Free Jvm.Stand Jvm.Pilot.@@N@@.Jvm.D
/-! MADE BY PROGRAM (witnessworld.py) out of the Statement's table words and the real class files: 15 classes; the members and pool entries that the words name. The judged class is class 1, her method 1. -/
namespace start1
open Jvm.ClassFile
def u (s : String) : CpInfo := .utf8 (stringToUtf16 s)
/-- a pool by its gaps: so many unusable entries, then the entry; so many at the end -/
def gap : Nat → List CpInfo → List CpInfo
  | 0, r => r
  | n + 1, r => .unusable :: gap n r
def poolList (es : List (Nat × CpInfo)) (last : Nat) : List CpInfo := es.foldr (fun e r => gap e.1 (e.2 :: r)) (gap last [])
def pool (es : List (Nat × CpInfo)) (last : Nat) : Array CpInfo := ⟨poolList es last⟩
def fileOf (pool : Array CpInfo) (this : Nat) (attrs : Array Attribute := #[]) (ms : Array MethodInfo := #[]) (fl : Nat := 33) (sup : Nat := 0) (ifs : Array Nat := #[]) (fds : Array FieldInfo := #[]) : ClassFile where
  minorVersion := 0
  majorVersion := 65
  constantPool := pool
  accessFlags := fl
  thisClass := this
  superClass := sup
  interfaces := ifs
  fields := fds
  methods := ms
  attributes := attrs
def plain (name : String) (sup : Option ClassId) : Class where
  name := name
  kind := .ordinary
  loader := none
  accessFlags := 33
  super := sup
  interfaces := #[]
  cf := none
  fields := #[]
  methods := #[]
  instanceTypes := #[]
  staticTypes := #[]
  resolved := #[]
  callSites := []
  init := .initialized
  statics := none
  mirror := none

def pool0 : Array CpInfo := pool [(5, u "<init>"), (0, u "()V"), (1, .class_ 10), (1, u "java/lang/Object")] 113

def k0m0 : Method := { name := "<init>", desc := "()V", sig := { parameters := [], returnType := none }, accessFlags := 1, code := none }
/-- java/lang/Object -/
def k0 : Class := { plain "java/lang/Object" none with
  accessFlags := 33
  interfaces := #[]
  cf := some (fileOf pool0 8 #[] #[{ accessFlags := 1, nameIndex := 5, descriptorIndex := 6, attributes := #[] }] 33 0 #[] #[])
  fields := #[]
  methods := #[k0m0]
  instanceTypes := #[]
  staticTypes := #[]
  resolved := Array.replicate 124 none
  statics := none }

def pool1 : Array CpInfo := pool [(2, .class_ 4), (1, u "java/lang/Object"), (0, u "<init>"), (0, u "()V"), (0, .class_ 8), (0, u "com/example/zonewarden/zonewarden/publish/CsvFile"), (0, .fieldref 7 10), (0, .nameAndType 11 12), (0, u "DOMAIN"), (0, u "Lcom/example/zonewarden/zonewarden/publish/CsvFile;"), (0, .fieldref 7 14), (0, .nameAndType 15 12), (0, u "CONTACT"), (0, .fieldref 7 17), (0, .nameAndType 18 12), (0, u "CONADDR"), (0, .fieldref 7 20), (0, .nameAndType 21 12), (0, u "NAMESERVER"), (0, .fieldref 7 23), (0, .nameAndType 24 12), (0, u "NSIP"), (0, .fieldref 7 26), (0, .nameAndType 27 12), (0, u "REGISTRAR"), (0, .fieldref 7 29), (0, .nameAndType 30 12), (0, u "DOMSTATUS"), (0, .fieldref 7 32), (0, .nameAndType 33 12), (0, u "CONSTATUS"), (0, .fieldref 7 35), (0, .nameAndType 36 12), (0, u "NSSTATUS"), (0, .fieldref 7 38), (0, .nameAndType 39 12), (0, u "DOMCONTACT"), (0, .fieldref 7 41), (0, .nameAndType 42 12), (0, u "DOMNS"), (0, .fieldref 7 44), (0, .nameAndType 45 12), (0, u "DOMDS"), (0, .fieldref 7 47), (0, .nameAndType 48 12), (0, u "DCP"), (0, .fieldref 7 50), (0, .nameAndType 51 12), (0, u "EPPVERSIONS"), (0, .fieldref 7 53), (0, .nameAndType 54 12), (0, u "LANGS"), (0, .fieldref 7 56), (0, .nameAndType 57 12), (0, u "EPPOBJECTS"), (0, .fieldref 7 59), (0, .nameAndType 60 12), (0, u "EPPEXTENSIONS"), (0, .fieldref 7 62), (0, .nameAndType 63 12), (0, u "DOMDEL"), (0, .fieldref 7 65), (0, .nameAndType 66 12), (0, u "CONTDEL"), (0, .fieldref 7 68), (0, .nameAndType 69 12), (0, u "NSDEL"), (0, .fieldref 7 71), (0, .nameAndType 72 12), (0, u "DSDEL"), (0, .integer 2147483647), (0, .fieldref 75 76), (0, .class_ 77), (0, .nameAndType 78 79), (0, u "com/example/zonewarden/zonewarden/publish/DepositType"), (0, u "FULL"), (0, u "Lcom/example/zonewarden/zonewarden/publish/DepositType;"), (0, .methodref 7 81), (0, .nameAndType 82 83), (0, u "isIn"), (0, u "(Lcom/example/zonewarden/zonewarden/publish/DepositType;)Z"), (0, .fieldref 75 85), (0, .nameAndType 86 79), (0, u "INCREMENTAL"), (0, .class_ 88), (0, u "com/example/zonewarden/zonewarden/publish/CsvFileIsInPinLaw"), (2, u "law"), (0, u "(I)Z")] 5

def k1m0 : Method := { name := "<init>", desc := "()V", sig := { parameters := [], returnType := none }, accessFlags := 2, code := none }
def k1c1 : Code := { maxStack := 4, maxLocals := 6, code := code, exceptionTable := #[], attributes := #[] }
def k1m1 : Method := { name := "law", desc := "(I)Z", sig := { parameters := [.int], returnType := some .boolean }, accessFlags := 9, code := some k1c1 }
/-- com/example/zonewarden/zonewarden/publish/CsvFileIsInPinLaw -/
def k1 : Class := { plain "com/example/zonewarden/zonewarden/publish/CsvFileIsInPinLaw" (some 0) with
  accessFlags := 49
  interfaces := #[]
  cf := some (fileOf pool1 87 #[] #[{ accessFlags := 2, nameIndex := 5, descriptorIndex := 6, attributes := #[] }, { accessFlags := 9, nameIndex := 91, descriptorIndex := 92, attributes := #[] }] 49 2 #[] #[])
  fields := #[]
  methods := #[k1m0, k1m1]
  instanceTypes := #[]
  staticTypes := #[]
  resolved := Array.replicate 98 none
  statics := none }

def pool2 : Array CpInfo := pool [(1, .class_ 2), (0, u "java/lang/constant/Constable"), (0, .class_ 4), (0, u "java/lang/Object")] 6

/-- java/lang/constant/Constable -/
def k2 : Class := { plain "java/lang/constant/Constable" (some 0) with
  accessFlags := 1537
  interfaces := #[]
  cf := some (fileOf pool2 1 #[] #[] 1537 3 #[] #[])
  fields := #[]
  methods := #[]
  instanceTypes := #[]
  staticTypes := #[]
  resolved := Array.replicate 11 none
  statics := none }

def pool3 : Array CpInfo := pool [(1, .class_ 2), (0, u "java/lang/Comparable"), (0, .class_ 4), (0, u "java/lang/Object")] 7

/-- java/lang/Comparable -/
def k3 : Class := { plain "java/lang/Comparable" (some 0) with
  accessFlags := 1537
  interfaces := #[]
  cf := some (fileOf pool3 1 #[] #[] 1537 3 #[] #[])
  fields := #[]
  methods := #[]
  instanceTypes := #[]
  staticTypes := #[]
  resolved := Array.replicate 12 none
  statics := none }

def pool4 : Array CpInfo := pool [(1, .class_ 2), (0, u "java/io/Serializable"), (0, .class_ 4), (0, u "java/lang/Object")] 2

/-- java/io/Serializable -/
def k4 : Class := { plain "java/io/Serializable" (some 0) with
  accessFlags := 1537
  interfaces := #[]
  cf := some (fileOf pool4 1 #[] #[] 1537 3 #[] #[])
  fields := #[]
  methods := #[]
  instanceTypes := #[]
  staticTypes := #[]
  resolved := Array.replicate 7 none
  statics := none }

def pool5 : Array CpInfo := pool [(2, .class_ 4), (1, u "java/lang/Enum"), (0, u "name"), (0, u "Ljava/lang/String;"), (2, u "ordinal"), (0, u "I"), (1, .class_ 14), (1, u "java/lang/Object"), (4, u "hash"), (86, .class_ 108), (1, u "java/lang/Enum$EnumDesc"), (2, .class_ 112), (0, u "java/lang/constant/Constable"), (0, .class_ 114), (0, u "java/lang/Comparable"), (0, .class_ 116), (0, u "java/io/Serializable")] 87

/-- java/lang/Enum -/
def k5 : Class := { plain "java/lang/Enum" (some 0) with
  accessFlags := 1057
  interfaces := #[2, 3, 4]
  cf := some (fileOf pool5 2 #[.nestMembers #[106]] #[] 1057 12 #[111, 113, 115] #[{ accessFlags := 18, nameIndex := 5, descriptorIndex := 6, attributes := #[] }, { accessFlags := 18, nameIndex := 9, descriptorIndex := 10, attributes := #[] }, { accessFlags := 2, nameIndex := 19, descriptorIndex := 10, attributes := #[] }])
  fields := #[{ name := "name", type := (.object "java/lang/String"), accessFlags := 18, slot := 0, constantValue := 0 }, { name := "ordinal", type := .int, accessFlags := 18, slot := 1, constantValue := 0 }, { name := "hash", type := .int, accessFlags := 2, slot := 2, constantValue := 0 }]
  methods := #[]
  instanceTypes := #[(.object "java/lang/String"), .int, .int]
  staticTypes := #[]
  resolved := Array.replicate 204 none
  statics := none }

def pool6 : Array CpInfo := pool [(1, .class_ 2), (0, u "com/example/zonewarden/zonewarden/publish/CsvFile"), (2, u "DOMAIN"), (0, u "Lcom/example/zonewarden/zonewarden/publish/CsvFile;"), (2, u "CONTACT"), (2, u "CONADDR"), (2, u "NAMESERVER"), (2, u "NSIP"), (2, u "REGISTRAR"), (2, u "DOMSTATUS"), (2, u "CONSTATUS"), (2, u "NSSTATUS"), (2, u "DOMCONTACT"), (2, u "DOMNS"), (2, u "DOMDS"), (2, u "DCP"), (2, u "EPPVERSIONS"), (2, u "LANGS"), (2, u "EPPOBJECTS"), (2, u "EPPEXTENSIONS"), (2, u "DOMDEL"), (2, u "CONTDEL"), (2, u "NSDEL"), (2, u "DSDEL"), (2, u "$VALUES"), (0, u "[Lcom/example/zonewarden/zonewarden/publish/CsvFile;"), (6, .class_ 79), (1, u "java/lang/Enum"), (6, .fieldref 1 87), (0, .nameAndType 88 89), (0, u "in"), (0, u "Lcom/example/zonewarden/zonewarden/publish/CsvFile$In;"), (8, u "header"), (0, u "Ljava/util/List;"), (0, .fieldref 101 102), (0, .class_ 103), (0, .nameAndType 104 89), (0, u "com/example/zonewarden/zonewarden/publish/CsvFile$In"), (0, u "EVERY_DEPOSIT"), (0, .fieldref 106 107), (0, .class_ 108), (0, .nameAndType 109 110), (0, u "com/example/zonewarden/zonewarden/publish/DepositType"), (0, u "INCREMENTAL"), (0, u "Lcom/example/zonewarden/zonewarden/publish/DepositType;"), (214, u "isIn"), (0, u "(Lcom/example/zonewarden/zonewarden/publish/DepositType;)Z")] 42

def k6c0 : Code := { maxStack := 2, maxLocals := 2, code := prog_27_method_5_code, exceptionTable := #[], attributes := #[] }
def k6m0 : Method := { name := "isIn", desc := "(Lcom/example/zonewarden/zonewarden/publish/DepositType;)Z", sig := { parameters := [(.object "com/example/zonewarden/zonewarden/publish/DepositType")], returnType := some .boolean }, accessFlags := 0, code := some k6c0 }
/-- com/example/zonewarden/zonewarden/publish/CsvFile -/
def k6 : Class := { plain "com/example/zonewarden/zonewarden/publish/CsvFile" (some 5) with
  accessFlags := 16432
  interfaces := #[]
  cf := some (fileOf pool6 1 #[.nestMembers #[101]] #[{ accessFlags := 0, nameIndex := 325, descriptorIndex := 326, attributes := #[] }] 16432 77 #[] #[{ accessFlags := 16409, nameIndex := 5, descriptorIndex := 6, attributes := #[] }, { accessFlags := 16409, nameIndex := 9, descriptorIndex := 6, attributes := #[] }, { accessFlags := 16409, nameIndex := 12, descriptorIndex := 6, attributes := #[] }, { accessFlags := 16409, nameIndex := 15, descriptorIndex := 6, attributes := #[] }, { accessFlags := 16409, nameIndex := 18, descriptorIndex := 6, attributes := #[] }, { accessFlags := 16409, nameIndex := 21, descriptorIndex := 6, attributes := #[] }, { accessFlags := 16409, nameIndex := 24, descriptorIndex := 6, attributes := #[] }, { accessFlags := 16409, nameIndex := 27, descriptorIndex := 6, attributes := #[] }, { accessFlags := 16409, nameIndex := 30, descriptorIndex := 6, attributes := #[] }, { accessFlags := 16409, nameIndex := 33, descriptorIndex := 6, attributes := #[] }, { accessFlags := 16409, nameIndex := 36, descriptorIndex := 6, attributes := #[] }, { accessFlags := 16409, nameIndex := 39, descriptorIndex := 6, attributes := #[] }, { accessFlags := 16409, nameIndex := 42, descriptorIndex := 6, attributes := #[] }, { accessFlags := 16409, nameIndex := 45, descriptorIndex := 6, attributes := #[] }, { accessFlags := 16409, nameIndex := 48, descriptorIndex := 6, attributes := #[] }, { accessFlags := 16409, nameIndex := 51, descriptorIndex := 6, attributes := #[] }, { accessFlags := 16409, nameIndex := 54, descriptorIndex := 6, attributes := #[] }, { accessFlags := 16409, nameIndex := 57, descriptorIndex := 6, attributes := #[] }, { accessFlags := 16409, nameIndex := 60, descriptorIndex := 6, attributes := #[] }, { accessFlags := 16409, nameIndex := 63, descriptorIndex := 6, attributes := #[] }, { accessFlags := 16409, nameIndex := 66, descriptorIndex := 6, attributes := #[] }, { accessFlags := 18, nameIndex := 88, descriptorIndex := 89, attributes := #[] }, { accessFlags := 18, nameIndex := 98, descriptorIndex := 99, attributes := #[] }, { accessFlags := 4122, nameIndex := 69, descriptorIndex := 70, attributes := #[] }])
  fields := #[{ name := "DOMAIN", type := (.object "com/example/zonewarden/zonewarden/publish/CsvFile"), accessFlags := 16409, slot := 0, constantValue := 0 }, { name := "CONTACT", type := (.object "com/example/zonewarden/zonewarden/publish/CsvFile"), accessFlags := 16409, slot := 1, constantValue := 0 }, { name := "CONADDR", type := (.object "com/example/zonewarden/zonewarden/publish/CsvFile"), accessFlags := 16409, slot := 2, constantValue := 0 }, { name := "NAMESERVER", type := (.object "com/example/zonewarden/zonewarden/publish/CsvFile"), accessFlags := 16409, slot := 3, constantValue := 0 }, { name := "NSIP", type := (.object "com/example/zonewarden/zonewarden/publish/CsvFile"), accessFlags := 16409, slot := 4, constantValue := 0 }, { name := "REGISTRAR", type := (.object "com/example/zonewarden/zonewarden/publish/CsvFile"), accessFlags := 16409, slot := 5, constantValue := 0 }, { name := "DOMSTATUS", type := (.object "com/example/zonewarden/zonewarden/publish/CsvFile"), accessFlags := 16409, slot := 6, constantValue := 0 }, { name := "CONSTATUS", type := (.object "com/example/zonewarden/zonewarden/publish/CsvFile"), accessFlags := 16409, slot := 7, constantValue := 0 }, { name := "NSSTATUS", type := (.object "com/example/zonewarden/zonewarden/publish/CsvFile"), accessFlags := 16409, slot := 8, constantValue := 0 }, { name := "DOMCONTACT", type := (.object "com/example/zonewarden/zonewarden/publish/CsvFile"), accessFlags := 16409, slot := 9, constantValue := 0 }, { name := "DOMNS", type := (.object "com/example/zonewarden/zonewarden/publish/CsvFile"), accessFlags := 16409, slot := 10, constantValue := 0 }, { name := "DOMDS", type := (.object "com/example/zonewarden/zonewarden/publish/CsvFile"), accessFlags := 16409, slot := 11, constantValue := 0 }, { name := "DCP", type := (.object "com/example/zonewarden/zonewarden/publish/CsvFile"), accessFlags := 16409, slot := 12, constantValue := 0 }, { name := "EPPVERSIONS", type := (.object "com/example/zonewarden/zonewarden/publish/CsvFile"), accessFlags := 16409, slot := 13, constantValue := 0 }, { name := "LANGS", type := (.object "com/example/zonewarden/zonewarden/publish/CsvFile"), accessFlags := 16409, slot := 14, constantValue := 0 }, { name := "EPPOBJECTS", type := (.object "com/example/zonewarden/zonewarden/publish/CsvFile"), accessFlags := 16409, slot := 15, constantValue := 0 }, { name := "EPPEXTENSIONS", type := (.object "com/example/zonewarden/zonewarden/publish/CsvFile"), accessFlags := 16409, slot := 16, constantValue := 0 }, { name := "DOMDEL", type := (.object "com/example/zonewarden/zonewarden/publish/CsvFile"), accessFlags := 16409, slot := 17, constantValue := 0 }, { name := "CONTDEL", type := (.object "com/example/zonewarden/zonewarden/publish/CsvFile"), accessFlags := 16409, slot := 18, constantValue := 0 }, { name := "NSDEL", type := (.object "com/example/zonewarden/zonewarden/publish/CsvFile"), accessFlags := 16409, slot := 19, constantValue := 0 }, { name := "DSDEL", type := (.object "com/example/zonewarden/zonewarden/publish/CsvFile"), accessFlags := 16409, slot := 20, constantValue := 0 }, { name := "in", type := (.object "com/example/zonewarden/zonewarden/publish/CsvFile$In"), accessFlags := 18, slot := 3, constantValue := 0 }, { name := "header", type := (.object "java/util/List"), accessFlags := 18, slot := 4, constantValue := 0 }, { name := "$VALUES", type := (.array (.object "com/example/zonewarden/zonewarden/publish/CsvFile")), accessFlags := 4122, slot := 21, constantValue := 0 }]
  methods := #[k6m0]
  instanceTypes := #[(.object "java/lang/String"), .int, .int, (.object "com/example/zonewarden/zonewarden/publish/CsvFile$In"), (.object "java/util/List")]
  staticTypes := #[(.object "com/example/zonewarden/zonewarden/publish/CsvFile"), (.object "com/example/zonewarden/zonewarden/publish/CsvFile"), (.object "com/example/zonewarden/zonewarden/publish/CsvFile"), (.object "com/example/zonewarden/zonewarden/publish/CsvFile"), (.object "com/example/zonewarden/zonewarden/publish/CsvFile"), (.object "com/example/zonewarden/zonewarden/publish/CsvFile"), (.object "com/example/zonewarden/zonewarden/publish/CsvFile"), (.object "com/example/zonewarden/zonewarden/publish/CsvFile"), (.object "com/example/zonewarden/zonewarden/publish/CsvFile"), (.object "com/example/zonewarden/zonewarden/publish/CsvFile"), (.object "com/example/zonewarden/zonewarden/publish/CsvFile"), (.object "com/example/zonewarden/zonewarden/publish/CsvFile"), (.object "com/example/zonewarden/zonewarden/publish/CsvFile"), (.object "com/example/zonewarden/zonewarden/publish/CsvFile"), (.object "com/example/zonewarden/zonewarden/publish/CsvFile"), (.object "com/example/zonewarden/zonewarden/publish/CsvFile"), (.object "com/example/zonewarden/zonewarden/publish/CsvFile"), (.object "com/example/zonewarden/zonewarden/publish/CsvFile"), (.object "com/example/zonewarden/zonewarden/publish/CsvFile"), (.object "com/example/zonewarden/zonewarden/publish/CsvFile"), (.object "com/example/zonewarden/zonewarden/publish/CsvFile"), (.array (.object "com/example/zonewarden/zonewarden/publish/CsvFile"))]
  resolved := Array.replicate 369 none
  statics := some 0 }

def pool7 : Array CpInfo := pool [(1, .class_ 2), (0, u "com/example/zonewarden/zonewarden/publish/DepositType"), (2, u "FULL"), (0, u "Lcom/example/zonewarden/zonewarden/publish/DepositType;"), (2, u "INCREMENTAL"), (2, u "$VALUES"), (0, u "[Lcom/example/zonewarden/zonewarden/publish/DepositType;"), (6, .class_ 22), (1, u "java/lang/Enum"), (8, u "code"), (0, u "Ljava/lang/String;")] 26

/-- com/example/zonewarden/zonewarden/publish/DepositType -/
def k7 : Class := { plain "com/example/zonewarden/zonewarden/publish/DepositType" (some 5) with
  accessFlags := 16432
  interfaces := #[]
  cf := some (fileOf pool7 1 #[] #[] 16432 20 #[] #[{ accessFlags := 16409, nameIndex := 5, descriptorIndex := 6, attributes := #[] }, { accessFlags := 16409, nameIndex := 9, descriptorIndex := 6, attributes := #[] }, { accessFlags := 18, nameIndex := 31, descriptorIndex := 32, attributes := #[] }, { accessFlags := 4122, nameIndex := 12, descriptorIndex := 13, attributes := #[] }])
  fields := #[{ name := "FULL", type := (.object "com/example/zonewarden/zonewarden/publish/DepositType"), accessFlags := 16409, slot := 0, constantValue := 0 }, { name := "INCREMENTAL", type := (.object "com/example/zonewarden/zonewarden/publish/DepositType"), accessFlags := 16409, slot := 1, constantValue := 0 }, { name := "code", type := (.object "java/lang/String"), accessFlags := 18, slot := 3, constantValue := 0 }, { name := "$VALUES", type := (.array (.object "com/example/zonewarden/zonewarden/publish/DepositType")), accessFlags := 4122, slot := 2, constantValue := 0 }]
  methods := #[]
  instanceTypes := #[(.object "java/lang/String"), .int, .int, (.object "java/lang/String")]
  staticTypes := #[(.object "com/example/zonewarden/zonewarden/publish/DepositType"), (.object "com/example/zonewarden/zonewarden/publish/DepositType"), (.array (.object "com/example/zonewarden/zonewarden/publish/DepositType"))]
  resolved := Array.replicate 59 none
  statics := some 1 }

def pool8 : Array CpInfo := pool [(1, .class_ 2), (0, u "com/example/zonewarden/zonewarden/publish/CsvFile$In"), (2, u "EVERY_DEPOSIT"), (0, u "Lcom/example/zonewarden/zonewarden/publish/CsvFile$In;"), (2, u "INCREMENTAL"), (2, u "$VALUES"), (0, u "[Lcom/example/zonewarden/zonewarden/publish/CsvFile$In;"), (6, .class_ 22), (1, u "java/lang/Enum"), (25, .class_ 49), (0, u "com/example/zonewarden/zonewarden/publish/CsvFile")] 2

/-- com/example/zonewarden/zonewarden/publish/CsvFile$In -/
def k8 : Class := { plain "com/example/zonewarden/zonewarden/publish/CsvFile$In" (some 5) with
  accessFlags := 16432
  interfaces := #[]
  cf := some (fileOf pool8 1 #[.nestHost 48] #[] 16432 20 #[] #[{ accessFlags := 16409, nameIndex := 5, descriptorIndex := 6, attributes := #[] }, { accessFlags := 16409, nameIndex := 9, descriptorIndex := 6, attributes := #[] }, { accessFlags := 4122, nameIndex := 12, descriptorIndex := 13, attributes := #[] }])
  fields := #[{ name := "EVERY_DEPOSIT", type := (.object "com/example/zonewarden/zonewarden/publish/CsvFile$In"), accessFlags := 16409, slot := 0, constantValue := 0 }, { name := "INCREMENTAL", type := (.object "com/example/zonewarden/zonewarden/publish/CsvFile$In"), accessFlags := 16409, slot := 1, constantValue := 0 }, { name := "$VALUES", type := (.array (.object "com/example/zonewarden/zonewarden/publish/CsvFile$In")), accessFlags := 4122, slot := 2, constantValue := 0 }]
  methods := #[]
  instanceTypes := #[(.object "java/lang/String"), .int, .int]
  staticTypes := #[(.object "com/example/zonewarden/zonewarden/publish/CsvFile$In"), (.object "com/example/zonewarden/zonewarden/publish/CsvFile$In"), (.array (.object "com/example/zonewarden/zonewarden/publish/CsvFile$In"))]
  resolved := Array.replicate 52 none
  statics := some 2 }

def pool9 : Array CpInfo := pool [(1, u "java/lang/Cloneable"), (0, .class_ 1), (0, u "java/lang/Object"), (0, .class_ 3)] 3

/-- java/lang/Cloneable -/
def k9 : Class := { plain "java/lang/Cloneable" (some 0) with
  accessFlags := 1537
  interfaces := #[]
  cf := some (fileOf pool9 2 #[] #[] 1537 4 #[] #[])
  fields := #[]
  methods := #[]
  instanceTypes := #[]
  staticTypes := #[]
  resolved := Array.replicate 8 none
  statics := none }

/-- the primitive byte -/
def k10 : Class := { plain "byte" none with kind := .primitive 'B', accessFlags := 0x411 }
/-- [B -/
def k11 : Class := { plain "[B" (some 0) with kind := .array 10 .byte, interfaces := #[9, 4], accessFlags := 1041 }

/-- the primitive int -/
def k12 : Class := { plain "int" none with kind := .primitive 'I', accessFlags := 0x411 }
/-- [I -/
def k13 : Class := { plain "[I" (some 0) with kind := .array 12 .int, interfaces := #[9, 4], accessFlags := 1041 }

/-- [Lcom/example/zonewarden/zonewarden/publish/CsvFile; -/
def k14 : Class := { plain "[Lcom/example/zonewarden/zonewarden/publish/CsvFile;" (some 0) with kind := .array 6 (.object "com/example/zonewarden/zonewarden/publish/CsvFile"), interfaces := #[9, 4], accessFlags := 1041 }

def heap : Heap := #[{ cls := 6, slots := #[.ref 3, .ref 4, .ref 5, .ref 6, .ref 7, .ref 8, .ref 9, .ref 10, .ref 11, .ref 12, .ref 13, .ref 14, .ref 15, .ref 16, .ref 17, .ref 18, .ref 19, .ref 20, .ref 21, .ref 22, .ref 23, .null], vm := .statics 6 },
  { cls := 7, slots := #[.ref 24, .ref 26, .null], vm := .statics 7 },
  { cls := 8, slots := #[.ref 25, .ref 27, .null], vm := .statics 8 },
  { cls := 6, slots := #[.null, .int 0, .int 0, .ref 25, .null], vm := .none },
  { cls := 6, slots := #[.null, .int 1, .int 0, .ref 25, .null], vm := .none },
  { cls := 6, slots := #[.null, .int 2, .int 0, .ref 25, .null], vm := .none },
  { cls := 6, slots := #[.null, .int 3, .int 0, .ref 25, .null], vm := .none },
  { cls := 6, slots := #[.null, .int 4, .int 0, .ref 25, .null], vm := .none },
  { cls := 6, slots := #[.null, .int 5, .int 0, .ref 25, .null], vm := .none },
  { cls := 6, slots := #[.null, .int 6, .int 0, .ref 25, .null], vm := .none },
  { cls := 6, slots := #[.null, .int 7, .int 0, .ref 25, .null], vm := .none },
  { cls := 6, slots := #[.null, .int 8, .int 0, .ref 25, .null], vm := .none },
  { cls := 6, slots := #[.null, .int 9, .int 0, .ref 25, .null], vm := .none },
  { cls := 6, slots := #[.null, .int 10, .int 0, .ref 25, .null], vm := .none },
  { cls := 6, slots := #[.null, .int 11, .int 0, .ref 25, .null], vm := .none },
  { cls := 6, slots := #[.null, .int 12, .int 0, .ref 25, .null], vm := .none },
  { cls := 6, slots := #[.null, .int 13, .int 0, .ref 25, .null], vm := .none },
  { cls := 6, slots := #[.null, .int 14, .int 0, .ref 25, .null], vm := .none },
  { cls := 6, slots := #[.null, .int 15, .int 0, .ref 25, .null], vm := .none },
  { cls := 6, slots := #[.null, .int 16, .int 0, .ref 25, .null], vm := .none },
  { cls := 6, slots := #[.null, .int 17, .int 0, .ref 27, .null], vm := .none },
  { cls := 6, slots := #[.null, .int 18, .int 0, .ref 27, .null], vm := .none },
  { cls := 6, slots := #[.null, .int 19, .int 0, .ref 27, .null], vm := .none },
  { cls := 6, slots := #[.null, .int 20, .int 0, .ref 27, .null], vm := .none },
  { cls := 7, slots := #[.null, .int 0, .int 0, .null], vm := .none },
  { cls := 8, slots := #[.null, .int 0, .int 0], vm := .none },
  { cls := 7, slots := #[.null, .int 1, .int 0, .null], vm := .none },
  { cls := 8, slots := #[.null, .int 1, .int 0], vm := .none }]
def classes : Array Class := #[k0, k1, k2, k3, k4, k5, k6, k7, k8, k9, k10, k11, k12, k13, k14]
def interned : List (Array UInt16 × Addr) := []
def slotsUsed : Nat := 147
def theMethod : MethodId := ⟨1, 1⟩
def args0 : Array Value := #[.int 5]
def aboutOver (below : List Frame) : State where
  vm := { classes := classes, interned := interned.toArray }
  heap := heap
  slotsUsed := slotsUsed
  threads := #[{ frames := .invoking theMethod args0 :: below }]
def below0 : List Frame := [.native { method := ⟨0, 0⟩, args := #[] }]
def about1 : State := aboutOver below0
def p0 : Program := .bare "" "" ""
def e0 : Env := launch0.env 0 0 0
theorem w_frames : about1.frames = Frame.invoking theMethod args0 :: below0 := rfl
set_option maxRecDepth 65536 in
theorem w_args : argsFit about1.vm theMethod args0 = true := by decide +kernel
set_option maxRecDepth 65536 in
theorem w_heap : heapFits about1 = true := by decide +kernel
set_option maxRecDepth 65536 in
theorem w_runnable : about1.curStatus? = some .runnable := by decide +kernel
set_option maxRecDepth 65536 in
theorem w_alone : about1.alone = true := by decide +kernel
set_option maxRecDepth 65536 in
theorem w_named : about1.methodNamed? x = some theMethod := by decide +kernel
set_option maxRecDepth 65536 in
theorem w_hears : about1.hears theMethod below0 = true := by decide +kernel
set_option maxRecDepth 65536 in
theorem w_ripe : about1.ripe theMethod args0 below0 = true := by decide +kernel
theorem w_running : about1.status = .running := rfl
set_option maxRecDepth 65536 in
theorem w_room : about1.hasRoom e0.platform room_1 = true :=
  launch0.hasRoom_least _ room_1 (by decide +kernel) (by decide +kernel) (by decide +kernel) (by decide +kernel) (by decide +kernel) (by decide +kernel)
theorem allAtoms_all (ts : List Jvm.Cond) (a : Array Jvm.Value) (st : Jvm.State) : (allAtoms ts).before a st = ts.all (fun c => c.before a st) := by
  induction ts with
  | nil => rfl
  | cons c t ih =>
    show (Jvm.Cond.and c (allAtoms t)).before a st = _
    rw [Jvm.Cond.before_and, ih, List.all_cons]
def words1 : List Jvm.Cond := Jvm.Cond.code x code maxLocals ret :: tables_1
/-- a 'code' word, met by the world's own term for the bytes: nothing is compared byte by byte -/
theorem code_word {y : MethodName} {bytes : ByteArray} {mx : Nat} {rt : Option FieldType} {a : Array Value} {s : State} {m : MethodId} {meth : Method} {c : Code} (h1 : s.methodNamed? y = some m) (h2 : s.vm.method? m = some meth) (h3 : meth.code = some c) (h4 : c.code = bytes)
    (h5 : (c.maxLocals == mx && c.exceptionTable.isEmpty && decide (c.maxStack ≤ mostOperands) && decide (meth.sig.returnType = rt) && !meth.locks && decide (parseMethodDescriptor y.desc = some meth.sig)) = true) : (Jvm.Cond.code y bytes mx rt).before a s = true := by
  simp only [Bool.and_eq_true, beq_iff_eq, Bool.not_eq_true', decide_eq_true_eq] at h5
  obtain ⟨⟨⟨⟨⟨g1, g2⟩, g3⟩, g4⟩, g5⟩, g6⟩ := h5
  simp [Cond.before, Cond.holds, Cond.value, h1, h2, h3, h4, g1, g2, g3, g4, g5, g6]
def isCode : Jvm.Cond → Bool
  | .code _ _ _ _ => true
  | _ => false
theorem all_split {L : List Jvm.Cond} {P : Jvm.Cond → Bool} (h1 : L.all (fun c => isCode c || P c) = true) (h2 : ∀ c ∈ L.filter isCode, P c = true) : L.all P = true := by
  refine List.all_eq_true.mpr fun c hc => ?_
  have h := List.all_eq_true.mp h1 c hc
  rcases Bool.eq_false_or_eq_true (isCode c) with hi | hi
  · exact h2 c (List.mem_filter.mpr ⟨hc, hi⟩)
  · simpa [hi] using h
set_option maxRecDepth 65536 in
theorem w_c0 : (Jvm.Cond.code x code maxLocals ret).before args0 about1 = true := code_word (m := ⟨1, 1⟩) (meth := k1m1) (c := k1c1) (by decide +kernel) rfl rfl rfl (by decide +kernel)
set_option maxRecDepth 65536 in
theorem w_c1 : (Jvm.Cond.code ({ cls := "com/example/zonewarden/zonewarden/publish/CsvFile", name := "isIn", desc := "(Lcom/example/zonewarden/zonewarden/publish/DepositType;)Z" } : Jvm.MethodName) prog_27_method_5_code (2 : Nat) (Option.some Jvm.ClassFile.FieldType.boolean)).before args0 about1 = true := code_word (m := ⟨6, 0⟩) (meth := k6m0) (c := k6c0) (by decide +kernel) rfl rfl rfl (by decide +kernel)
def codes1 : List Jvm.Cond := [Jvm.Cond.code x code maxLocals ret, Jvm.Cond.code ({ cls := "com/example/zonewarden/zonewarden/publish/CsvFile", name := "isIn", desc := "(Lcom/example/zonewarden/zonewarden/publish/DepositType;)Z" } : Jvm.MethodName) prog_27_method_5_code (2 : Nat) (Option.some Jvm.ClassFile.FieldType.boolean)]
set_option maxRecDepth 65536 in
theorem codes_eq : words1.filter isCode = codes1 := rfl
theorem w_codes : ∀ c ∈ words1.filter isCode, c.before args0 about1 = true := by
  rw [codes_eq]
  intro c hc
  simp only [codes1, List.mem_cons, List.not_mem_nil, or_false] at hc
  rcases hc with rfl | rfl
  · exact w_c0
  · exact w_c1
set_option maxRecDepth 65536 in
theorem w_t1 : (words1.take 24).all (fun c => isCode c || c.before args0 about1) = true := by decide +kernel
set_option maxRecDepth 65536 in
theorem w_t2 : ((words1.drop 24).take 24).all (fun c => isCode c || c.before args0 about1) = true := by decide +kernel
set_option maxRecDepth 65536 in
theorem w_t3 : ((words1.drop 24).drop 24).all (fun c => isCode c || c.before args0 about1) = true := by decide +kernel
theorem w_tables : (allAtoms (Jvm.Cond.code x code maxLocals ret :: tables_1)).before args0 about1 = true := by
  rw [allAtoms_all]
  show words1.all (fun c => c.before args0 about1) = true
  refine all_split ?_ w_codes
  rw [← List.take_append_drop 24 words1, List.all_append, w_t1, ← List.take_append_drop 24 (words1.drop 24), List.all_append, w_t2, w_t3]
  rfl
set_option maxRecDepth 65536 in
theorem w_case : (Jvm.Cond.and given_1 narrow_1).before args0 about1 = true := by decide +kernel
theorem w_applies : (headSpec (Jvm.Cond.code x code maxLocals ret :: tables_1) room_1).applies x e0.platform about1 = true :=
  (Spec.applies_iff w_frames).mpr ⟨w_running, w_runnable, w_alone, w_named, w_hears, w_ripe, w_room, w_tables⟩
theorem atStart : AtStart classFile x code maxLocals ret World_1 tables_1 room_1 Calls_1 rest_1 Pre_1 launch0 p0 e0 about1 theMethod args0 below0 :=
  ⟨lists_1, trivial, launch0.admits_env _ _ _, launch0.least_env, fairChoices_fair.cas, fairChoices_fair.clock, w_frames, w_args, w_heap, w_applies, trivial, trivial, w_case⟩
end start1
theorem witness_1 : WitnessClaimed_1 := ⟨start1.p0, start1.e0, start1.about1, start1.theMethod, start1.args0, start1.below0, start1.atStart⟩
end Jvm.Pilot.@@N@@
