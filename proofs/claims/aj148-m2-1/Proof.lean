import JvmDerived
import JvmDerived.Pilot.@@N@@Statement
import JvmDerived.Pilot.@@N@@Code
set_option linter.unusedVariables false
set_option linter.unusedSimpArgs false
namespace Jvm.Pilot.@@N@@
open Jvm Jvm.ClassFile Sem Op Lib Jvm.Free Jvm.Stand Jvm.LawKit Jvm.RoadKit Bundle Jvm.Pilot.@@N@@.Jvm.D
section Kit
variable {p : Program} {l : Launch} {e : Env} {R : Room} {s : State} {m : MethodId} {args : Array Value} {below : List Frame} {meth : Method} {c : Code} {T : State} {locs : List Loc} {cells slots : Nat} {Z : State} {a0 : Array Value} {h : Heap} {own nm : String} {bytes : ByteArray} {maxL : Nat} {rt : Option FieldType} {Q : Option Value → Heap → Prop} {ce sl : Nat} {En : Option Value → State → Prop} {pc : Nat} {Ls : Array Slot} {st : List Value}
/-- where a walk stands: the state T, its heap h; all that lay in the heap at the start Z is there unchanged, and all that was written is new -/
def Cx (p : Program) (l : Launch) (e : Env) (R : Room) (s : State) (m : MethodId) (args : Array Value) (below : List Frame) (meth : Method) (c : Code) (Z : State) (own nm : String) (bytes : ByteArray) (maxL : Nat) (rt : Option FieldType) (T : State) (locs : List Loc) (cells slots : Nat) (h : Heap) : Prop :=
  Stand p l e R s m args below meth c T locs cells slots ∧ p.tables.exec = Jvm.exec ∧ Z.Warmed39 s.vm ∧ s.vm.findClass own = some m.cls ∧ c.code = bytes ∧ c.maxLocals = maxL ∧ meth.sig.returnType = rt ∧ meth.name = nm ∧ meth.locks = false ∧ T.heap = h ∧ Fr Z.heap.size locs ∧ Ext Z.heap h
/-- from this frame the body comes to its end, and En holds of what it returns and of the state there -/
def Go (p : Program) (e : Env) (below : List Frame) (En : Option Value → State → Prop) (T : State) (m : MethodId) (pc : Nat) (Ls : Array Slot) (st : List Value) : Prop :=
  ∃ s₂ v, Steps p.tables e below (T.setTop (mkF m pc Ls st)) s₂ ∧ s₂.status = .running ∧ Ended s₂ below (.returned v) ∧ En v s₂
/-- a return of v from here: where it leads, and that En holds there -/
def Lv (e : Env) (below : List Frame) (En : Option Value → State → Prop) (T : State) (m : MethodId) (v : Option Value) : Prop :=
  ∃ fs, (∀ (f : JFrame) (acts : List Action), f.method = m → f.locked = none → f.entered = [] → (doReturn e (T.setTop f) acts v).1 = T.setFrames fs) ∧ (T.setFrames fs).status = .running ∧ Ended (T.setFrames fs) below (.returned v) ∧ En v (T.setFrames fs)
/-- the end of a body that interns nothing -/
def FinN (s Z : State) (Q : Option Value → Heap → Prop) (ce sl : Nat) : Option Value → State → Prop := fun v t => ∃ L, (Fr Z.heap.size L ∧ Ext Z.heap t.heap ∧ Q v t.heap) ∧ FrameEnd s (.returned v) t L ce sl
/-- the contract of a method called with the arguments as' over the heap h -/
def Ct (l : Launch) (Z : State) (ws : List Jvm.Cond) (y : MethodName) (bytes : ByteArray) (maxL : Nat) (rt : Option FieldType) (rm : Room) (as' : Array Value) (h : Heap) (Q : Option Value → Heap → Prop) : Prop :=
  Ext Z.heap h → MetFree l y (head1 (Jvm.Cond.code y bytes maxL rt :: ws) rm) (fun a U => a = as' ∧ Z.Warmed39 U.vm ∧ U.heap = h) (fun _ _ _ _ _ => True) (fun _ U o U' => ∃ v L, o = .returned v ∧ (Fr Z.heap.size L ∧ Ext Z.heap U'.heap ∧ Q v U'.heap) ∧ FrameEnd U o U' L rm.cells rm.slots)
/-- it returns v and leaves the heap as it was -/
def Pu (h : Heap) (v : Value) : Option Value → Heap → Prop := fun w h' => w = some v ∧ h' = h
theorem Ext.rf (h : Heap) : Ext h h := ⟨Nat.le_refl _, fun _ _ q => q⟩
theorem Ext.tr {h1 h2 h3 : Heap} (E : Ext h1 h2) (F : Ext h2 h3) : Ext h1 h3 := ⟨Nat.le_trans E.1 F.1, fun a c q => F.2 a c (E.2 a c q)⟩
theorem Ext.kp {h1 h2 h3 : Heap} {ws : List Addr} (E : Ext h1 h2) (K : Keep h2 h3 ws) (q : ∀ x ∈ ws, h1.size ≤ x) : Ext h1 h3 := ⟨Nat.le_trans E.1 K.1, fun a c r => K.2.1 a c (E.2 a c r) fun z => absurd (Array.getElem?_eq_some_iff.mp r).1 (Nat.not_lt.mpr (q a z))⟩
theorem Ext.wr {h1 h2 h3 : Heap} {a : Addr} {k : Nat} {v : Value} (E : Ext h1 h2) (W : Wr h2 h3 a k v) (q : h1.size ≤ a) : Ext h1 h3 := Ext.kp E (Keep.of_wr W) (allS q all0)
theorem Ext.keep {h1 h2 : Heap} (E : Ext h1 h2) (ws : List Addr) : Keep h1 h2 ws := (Keep.refl _ _).ext E
theorem Cx.sd (X : Cx p l e R s m args below meth c Z own nm bytes maxL rt T locs cells slots h) : Stand p l e R s m args below meth c T locs cells slots := X.1
theorem Cx.here (X : Cx p l e R s m args below meth c Z own nm bytes maxL rt T locs cells slots h) : At T m c below := X.1.here
theorem Cx.hx (X : Cx p l e R s m args below meth c Z own nm bytes maxL rt T locs cells slots h) : p.tables.exec = Jvm.exec := X.2.1
theorem Cx.hZ (X : Cx p l e R s m args below meth c Z own nm bytes maxL rt T locs cells slots h) : Z.Warmed39 s.vm := X.2.2.1
theorem Cx.hown (X : Cx p l e R s m args below meth c Z own nm bytes maxL rt T locs cells slots h) : s.vm.findClass own = some m.cls := X.2.2.2.1
theorem Cx.hby (X : Cx p l e R s m args below meth c Z own nm bytes maxL rt T locs cells slots h) : c.code = bytes := X.2.2.2.2.1
theorem Cx.hml (X : Cx p l e R s m args below meth c Z own nm bytes maxL rt T locs cells slots h) : c.maxLocals = maxL := X.2.2.2.2.2.1
theorem Cx.hrt (X : Cx p l e R s m args below meth c Z own nm bytes maxL rt T locs cells slots h) : meth.sig.returnType = rt := X.2.2.2.2.2.2.1
theorem Cx.hnm (X : Cx p l e R s m args below meth c Z own nm bytes maxL rt T locs cells slots h) : meth.name = nm := X.2.2.2.2.2.2.2.1
theorem Cx.hlk (X : Cx p l e R s m args below meth c Z own nm bytes maxL rt T locs cells slots h) : meth.locks = false := X.2.2.2.2.2.2.2.2.1
theorem Cx.eq (X : Cx p l e R s m args below meth c Z own nm bytes maxL rt T locs cells slots h) : T.heap = h := X.2.2.2.2.2.2.2.2.2.1
theorem Cx.fr (X : Cx p l e R s m args below meth c Z own nm bytes maxL rt T locs cells slots h) : Fr Z.heap.size locs := X.2.2.2.2.2.2.2.2.2.2.1
theorem Cx.old (X : Cx p l e R s m args below meth c Z own nm bytes maxL rt T locs cells slots h) : Ext Z.heap h := X.2.2.2.2.2.2.2.2.2.2.2
theorem Cx.le (X : Cx p l e R s m args below meth c Z own nm bytes maxL rt T locs cells slots h) : Z.heap.size ≤ h.size := X.old.1
theorem Cx.mk' {T' : State} {locs' : List Loc} {cells' slots' : Nat} {h' : Heap} (X : Cx p l e R s m args below meth c Z own nm bytes maxL rt T locs cells slots h) (Y : Stand p l e R s m args below meth c T' locs' cells' slots') (q : T'.heap = h') (f : Fr Z.heap.size locs') (o : Ext Z.heap h') : Cx p l e R s m args below meth c Z own nm bytes maxL rt T' locs' cells' slots' h' := ⟨Y, X.hx, X.hZ, X.hown, X.hby, X.hml, X.hrt, X.hnm, X.hlk, q, f, o⟩
theorem Go.step {T' : State} {pc' : Nat} {Ls' : Array Slot} {st' : List Value} (f : ∀ t, Steps p.tables e below (T'.setTop (mkF m pc' Ls' st')) t → Steps p.tables e below (T.setTop (mkF m pc Ls st)) t) (k : Go p e below En T' m pc' Ls' st') : Go p e below En T m pc Ls st := by
  obtain ⟨s₂, v, k1, k2⟩ := k
  exact ⟨s₂, v, f _ k1, k2⟩
theorem Ct.ofF {y : MethodName} {ws : List Jvm.Cond} {rm : Room} {as' : Array Value} {Ls0 : Array Slot} (pn : plainFor y = true) (ef : ∀ m, entryFrame m as' maxL = mkF m 0 Ls0 [])
    (body : ∀ p e s m below meth c s₁, Cx p l e rm s m as' below meth c Z y.cls y.name bytes maxL rt s₁ [] 0 0 h → Go p e below (FinN s Z Q rm.cells rm.slots) s₁ m 0 Ls0 []) : Ct l Z ws y bytes maxL rt rm as' h Q := by
  intro hE
  refine MetFree.of_bodySF pn hisR ?_
  intro p e s m args below meth c s₁ Bd hml0 hP hK
  obtain ⟨rfl, hZ, hh⟩ := hP
  have hown : s.vm.findClass y.cls = some m.cls := findClass_of_methodNamed Bd.named
  have hnm := (name_of_methodNamed Bd.named Bd.method).1
  have X0 : Stand p l e rm s m args below meth c s₁ [] 0 0 := Stand.of_body Bd
  have e0 : s₁.heap = h := by rw [← hh, Bd.state]; rfl
  obtain ⟨s₂, v, k1, k2, k3, L, k5, k6⟩ := body p e s m below meth c s₁ ⟨X0, Bd.exec, hZ, hown, Bd.bytes, hml0, Bd.returns, hnm, Bd.notSynchronized, e0, Fr.nil _, hE⟩
  exact ⟨s₂, _, castTop (ef m) k1, k2, k3, v, L, rfl, k5, k6⟩
theorem Ct.of {y : MethodName} {ws : List Jvm.Cond} {rm : Room} {as' : Array Value} {Ls0 : Array Slot} (pn : plainName y.cls = true) (ef : ∀ m, entryFrame m as' maxL = mkF m 0 Ls0 [])
    (body : ∀ p e s m below meth c s₁, Cx p l e rm s m as' below meth c Z y.cls y.name bytes maxL rt s₁ [] 0 0 h → Go p e below (FinN s Z Q rm.cells rm.slots) s₁ m 0 Ls0 []) : Ct l Z ws y bytes maxL rt rm as' h Q := Ct.ofF (plainFor_of_name pn) ef body
theorem Cx.fin (X : Cx p l e R s m args below meth c Z own nm bytes maxL rt T locs cells slots h) {v : Option Value} (hQ : Q v h) (hc : cells ≤ ce) (hs : slots ≤ sl) (hv : rt = none → v = none := by (intro q; first | rfl | (cases q; done))) : Lv e below (FinN s Z Q ce sl) T m v := by
  have hlk := X.hlk
  obtain ⟨fs, hr, hrun, hended, hW, hsame⟩ := X.sd.leave (v := v) (fun q => hv (X.hrt ▸ q)) hlk
  have q : (T.setFrames fs).heap = h := X.eq
  exact ⟨fs, hr, hrun, hended, locs, ⟨X.fr, by rw [q]; exact X.old, by rw [q]; exact hQ⟩, ⟨_, rfl⟩, hW, hsame.mono hc hs⟩
theorem Go.ret0 (X : Cx p l e R s m args below meth c Z own nm bytes maxL rt T locs cells slots h) {v : Option Value}
    (f : ∀ fs, (∀ (f : JFrame) (acts : List Action), f.method = m → f.locked = none → f.entered = [] → (doReturn e (T.setTop f) acts v).1 = T.setFrames fs) → Steps p.tables e below (T.setTop (mkF m pc Ls st)) (T.setFrames fs)) (hF : Lv e below En T m v) : Go p e below En T m pc Ls st := by
  obtain ⟨fs, hr, hrun, hended, hq⟩ := hF
  exact ⟨_, _, f fs hr, hrun, hended, hq⟩
theorem Go.ret (X : Cx p l e R s m args below meth c Z own nm bytes maxL rt T locs cells slots h) {t : FieldType} {i : Instr} {w : Value} {rest : List Value} (hret : rt = some t) (hn : narrow t w = w)
    (hi : (i = .ireturn ∧ (t = .int ∨ t = .boolean ∨ t = .byte ∨ t = .char ∨ t = .short) ∧ ∃ z, w = .int z) ∨ (i = .lreturn ∧ t = .long ∧ ∃ z, w = .long z) ∨ (i = .dreturn ∧ t = .double ∧ ∃ z, w = .double z) ∨ (i = .freturn ∧ t = .float ∧ ∃ z, w = .float z) ∨ (i = .areturn ∧ t.isReference = true ∧ w.isRef = true))
    (hd : decode bytes pc = .ok (i, 1)) (hF : Lv e below En T m (some w)) : Go p e below En T m pc Ls (w :: rest) :=
  Go.ret0 X (fun fs hr => retOut X.sd X.hx (X.hrt.trans hret) hn hi (hb X.hby hd) hr) hF
theorem Go.retI (X : Cx p l e R s m args below meth c Z own nm bytes maxL rt T locs cells slots h) {t : FieldType} {z : Int32} {rest : List Value} (hret : rt = some t) (ht : t = .int ∨ t = .boolean ∨ t = .byte ∨ t = .char ∨ t = .short) (hn : narrow t (.int z) = .int z) (hd : decode bytes pc = .ok (.ireturn, 1)) (hF : Lv e below En T m (some (.int z))) : Go p e below En T m pc Ls (.int z :: rest) :=
  Go.ret X hret hn (Or.inl ⟨rfl, ht, z, rfl⟩) hd hF
theorem Go.retJ (X : Cx p l e R s m args below meth c Z own nm bytes maxL rt T locs cells slots h) {z : Int64} {rest : List Value} (hret : rt = some .long) (hd : decode bytes pc = .ok (.lreturn, 1)) (hF : Lv e below En T m (some (.long z))) : Go p e below En T m pc Ls (.long z :: rest) :=
  Go.ret X hret rfl (Or.inr (Or.inl ⟨rfl, rfl, z, rfl⟩)) hd hF
theorem Go.retA (X : Cx p l e R s m args below meth c Z own nm bytes maxL rt T locs cells slots h) {t : FieldType} {w : Value} {rest : List Value} (hret : rt = some t) (ht : t.isReference = true) (hw : w.isRef = true) (hd : decode bytes pc = .ok (.areturn, 1)) (hF : Lv e below En T m (some w)) : Go p e below En T m pc Ls (w :: rest) :=
  Go.ret X hret (by cases t <;> first | rfl | (cases ht; done)) (Or.inr (Or.inr (Or.inr (Or.inr ⟨rfl, ht, hw⟩)))) hd hF
theorem Go.retV (X : Cx p l e R s m args below meth c Z own nm bytes maxL rt T locs cells slots h) (hret : rt = none) (hd : decode bytes pc = .ok (.return_, 1)) (hF : Lv e below En T m none) : Go p e below En T m pc Ls [] :=
  Go.ret0 X (fun fs hr => X.sd.returnOut X.hx (X.hrt.trans hret) (hb X.hby hd) hr) hF
theorem Go.aloadN (X : Cx p l e R s m args below meth c Z own nm bytes maxL rt T locs cells slots h) (pc' : Nat) {i : Fin 4} {v : Value} (hd : decode bytes pc = .ok (.aload_n i, 1)) (hl : Ls[i.val]? = some (.val v)) (hv : v.isRef = true) (k : Go p e below En T m pc' Ls (v :: st)) (hp : pc + 1 = pc' := by rfl) : Go p e below En T m pc Ls st := by
  subst hp
  exact Go.step (fun _ hr => XS.aloadN X.here X.hx rfl (hb X.hby hd) hl hv hr) k
theorem Go.aload (X : Cx p l e R s m args below meth c Z own nm bytes maxL rt T locs cells slots h) (pc' : Nat) {i : Nat} {v : Value} (hd : decode bytes pc = .ok (.aload i, 2)) (hl : Ls[i]? = some (.val v)) (hv : v.isRef = true) (k : Go p e below En T m pc' Ls (v :: st)) (hp : pc + 2 = pc' := by rfl) : Go p e below En T m pc Ls st := by
  subst hp
  exact Go.step (fun _ hr => XS.aload X.here X.hx rfl (hb X.hby hd) hl hv hr) k
theorem Go.iloadN (X : Cx p l e R s m args below meth c Z own nm bytes maxL rt T locs cells slots h) (pc' : Nat) {i : Fin 4} {v : Int32} (hd : decode bytes pc = .ok (.iload_n i, 1)) (hl : Ls[i.val]? = some (.val (.int v))) (k : Go p e below En T m pc' Ls (.int v :: st)) (hp : pc + 1 = pc' := by rfl) : Go p e below En T m pc Ls st := by
  subst hp
  exact Go.step (fun _ hr => XS.iloadN X.here X.hx rfl (hb X.hby hd) hl hr) k
theorem Go.iload (X : Cx p l e R s m args below meth c Z own nm bytes maxL rt T locs cells slots h) (pc' : Nat) {i : Nat} {v : Int32} (hd : decode bytes pc = .ok (.iload i, 2)) (hl : Ls[i]? = some (.val (.int v))) (k : Go p e below En T m pc' Ls (.int v :: st)) (hp : pc + 2 = pc' := by rfl) : Go p e below En T m pc Ls st := by
  subst hp
  exact Go.step (fun _ hr => XS.iload X.here X.hx rfl (hb X.hby hd) hl hr) k
theorem Go.lloadN (X : Cx p l e R s m args below meth c Z own nm bytes maxL rt T locs cells slots h) (pc' : Nat) {i : Fin 4} {v : Int64} (hd : decode bytes pc = .ok (.lload_n i, 1)) (hl : Ls[i.val]? = some (.val (.long v))) (k : Go p e below En T m pc' Ls (.long v :: st)) (hp : pc + 1 = pc' := by rfl) : Go p e below En T m pc Ls st := by
  subst hp
  exact Go.step (fun _ hr => XT.lloadN X.here X.hx rfl (hb X.hby hd) hl hr) k
theorem Go.lload (X : Cx p l e R s m args below meth c Z own nm bytes maxL rt T locs cells slots h) (pc' : Nat) {i : Nat} {v : Int64} (hd : decode bytes pc = .ok (.lload i, 2)) (hl : Ls[i]? = some (.val (.long v))) (k : Go p e below En T m pc' Ls (.long v :: st)) (hp : pc + 2 = pc' := by rfl) : Go p e below En T m pc Ls st := by
  subst hp
  exact Go.step (fun _ hr => XT.lload X.here X.hx rfl (hb X.hby hd) hl hr) k
theorem Go.iconst (X : Cx p l e R s m args below meth c Z own nm bytes maxL rt T locs cells slots h) (pc' : Nat) {i : Int} (z : Int32) (hd : decode bytes pc = .ok (.iconst i, 1)) (k : Go p e below En T m pc' Ls (.int z :: st)) (hp : pc + 1 = pc' := by rfl) (hv : Int32.ofInt i = z := by rfl) : Go p e below En T m pc Ls st := by
  subst hp
  exact Go.step (fun _ hr => XT.iconstV X.here X.hx rfl z (hb X.hby hd) hv hr) k
theorem Go.bipush (X : Cx p l e R s m args below meth c Z own nm bytes maxL rt T locs cells slots h) (pc' : Nat) {i : Int} (z : Int32) (hd : decode bytes pc = .ok (.bipush i, 2)) (k : Go p e below En T m pc' Ls (.int z :: st)) (hp : pc + 2 = pc' := by rfl) (hv : (Int8.ofInt i).toInt32 = z := by rfl) : Go p e below En T m pc Ls st := by
  subst hp
  exact Go.step (fun _ hr => XT.bipushV X.here X.hx rfl z (hb X.hby hd) hv hr) k
theorem Go.sipush (X : Cx p l e R s m args below meth c Z own nm bytes maxL rt T locs cells slots h) (pc' : Nat) {i : Int} (z : Int32) (hd : decode bytes pc = .ok (.sipush i, 3)) (k : Go p e below En T m pc' Ls (.int z :: st)) (hp : pc + 3 = pc' := by rfl) (hv : (Int16.ofInt i).toInt32 = z := by rfl) : Go p e below En T m pc Ls st := by
  subst hp
  exact Go.step (fun _ hr => XT.sipushV X.here X.hx rfl z (hb X.hby hd) hv hr) k
theorem Go.lconst (X : Cx p l e R s m args below meth c Z own nm bytes maxL rt T locs cells slots h) (pc' : Nat) {i : Fin 2} (z : Int64) (hd : decode bytes pc = .ok (.lconst i, 1)) (k : Go p e below En T m pc' Ls (.long z :: st)) (hp : pc + 1 = pc' := by rfl) (hv : Int64.ofNat i = z := by rfl) : Go p e below En T m pc Ls st := by
  subst hp
  exact Go.step (fun _ hr => XT.lconstV X.here X.hx rfl z (hb X.hby hd) hv hr) k
theorem Go.aconst_null (X : Cx p l e R s m args below meth c Z own nm bytes maxL rt T locs cells slots h) (pc' : Nat)  (hd : decode bytes pc = .ok (.aconst_null, 1))  (k : Go p e below En T m pc' Ls (.null :: st)) (hp : pc + 1 = pc' := by rfl) : Go p e below En T m pc Ls st := by
  subst hp
  exact Go.step (fun _ hr => XS.aconstNull X.here X.hx rfl (hb X.hby hd)  hr) k
theorem Go.iadd (X : Cx p l e R s m args below meth c Z own nm bytes maxL rt T locs cells slots h) (pc' : Nat) {x y : Int32} (hd : decode bytes pc = .ok (.iadd, 1))  (k : Go p e below En T m pc' Ls (.int (x + y) :: st)) (hp : pc + 1 = pc' := by rfl) : Go p e below En T m pc Ls (.int y :: .int x :: st) := by
  subst hp
  exact Go.step (fun _ hr => XS.iadd X.here X.hx rfl (hb X.hby hd) rfl hr) k
theorem Go.isub (X : Cx p l e R s m args below meth c Z own nm bytes maxL rt T locs cells slots h) (pc' : Nat) {x y : Int32} (hd : decode bytes pc = .ok (.isub, 1))  (k : Go p e below En T m pc' Ls (.int (x - y) :: st)) (hp : pc + 1 = pc' := by rfl) : Go p e below En T m pc Ls (.int y :: .int x :: st) := by
  subst hp
  exact Go.step (fun _ hr => XS.isub X.here X.hx rfl (hb X.hby hd) rfl hr) k
theorem Go.imul (X : Cx p l e R s m args below meth c Z own nm bytes maxL rt T locs cells slots h) (pc' : Nat) {x y : Int32} (hd : decode bytes pc = .ok (.imul, 1))  (k : Go p e below En T m pc' Ls (.int (x * y) :: st)) (hp : pc + 1 = pc' := by rfl) : Go p e below En T m pc Ls (.int y :: .int x :: st) := by
  subst hp
  exact Go.step (fun _ hr => XS.imul X.here X.hx rfl (hb X.hby hd) rfl hr) k
theorem Go.iand (X : Cx p l e R s m args below meth c Z own nm bytes maxL rt T locs cells slots h) (pc' : Nat) {x y : Int32} (hd : decode bytes pc = .ok (.iand, 1))  (k : Go p e below En T m pc' Ls (.int (x &&& y) :: st)) (hp : pc + 1 = pc' := by rfl) : Go p e below En T m pc Ls (.int y :: .int x :: st) := by
  subst hp
  exact Go.step (fun _ hr => XS.iand X.here X.hx rfl (hb X.hby hd) rfl hr) k
theorem Go.ior (X : Cx p l e R s m args below meth c Z own nm bytes maxL rt T locs cells slots h) (pc' : Nat) {x y : Int32} (hd : decode bytes pc = .ok (.ior, 1))  (k : Go p e below En T m pc' Ls (.int (x ||| y) :: st)) (hp : pc + 1 = pc' := by rfl) : Go p e below En T m pc Ls (.int y :: .int x :: st) := by
  subst hp
  exact Go.step (fun _ hr => XT.ior X.here X.hx rfl (hb X.hby hd) rfl hr) k
theorem Go.ixor (X : Cx p l e R s m args below meth c Z own nm bytes maxL rt T locs cells slots h) (pc' : Nat) {x y : Int32} (hd : decode bytes pc = .ok (.ixor, 1))  (k : Go p e below En T m pc' Ls (.int (x ^^^ y) :: st)) (hp : pc + 1 = pc' := by rfl) : Go p e below En T m pc Ls (.int y :: .int x :: st) := by
  subst hp
  exact Go.step (fun _ hr => XT.ixor X.here X.hx rfl (hb X.hby hd) rfl hr) k
theorem Go.idiv (X : Cx p l e R s m args below meth c Z own nm bytes maxL rt T locs cells slots h) (pc' : Nat) {x y : Int32} (hd : decode bytes pc = .ok (.idiv, 1)) (hy : y ≠ 0) (k : Go p e below En T m pc' Ls (.int (x / y) :: st)) (hp : pc + 1 = pc' := by rfl) : Go p e below En T m pc Ls (.int y :: .int x :: st) := by
  subst hp
  exact Go.step (fun _ hr => XS.idiv X.here X.hx rfl (hb X.hby hd) rfl hy hr) k
theorem Go.irem (X : Cx p l e R s m args below meth c Z own nm bytes maxL rt T locs cells slots h) (pc' : Nat) {x y : Int32} (hd : decode bytes pc = .ok (.irem, 1)) (hy : y ≠ 0) (k : Go p e below En T m pc' Ls (.int (x % y) :: st)) (hp : pc + 1 = pc' := by rfl) : Go p e below En T m pc Ls (.int y :: .int x :: st) := by
  subst hp
  exact Go.step (fun _ hr => iremM X.sd X.hx rfl (hb X.hby hd) rfl hy hr) k
theorem Go.ishl (X : Cx p l e R s m args below meth c Z own nm bytes maxL rt T locs cells slots h) (pc' : Nat) {x y : Int32} (hd : decode bytes pc = .ok (.ishl, 1))  (k : Go p e below En T m pc' Ls (.int (x <<< (y &&& 31)) :: st)) (hp : pc + 1 = pc' := by rfl) : Go p e below En T m pc Ls (.int y :: .int x :: st) := by
  subst hp
  exact Go.step (fun _ hr => XT.ishl X.here X.hx rfl (hb X.hby hd) rfl hr) k
theorem Go.ishr (X : Cx p l e R s m args below meth c Z own nm bytes maxL rt T locs cells slots h) (pc' : Nat) {x y : Int32} (hd : decode bytes pc = .ok (.ishr, 1))  (k : Go p e below En T m pc' Ls (.int (x >>> (y &&& 31)) :: st)) (hp : pc + 1 = pc' := by rfl) : Go p e below En T m pc Ls (.int y :: .int x :: st) := by
  subst hp
  exact Go.step (fun _ hr => XT.ishr X.here X.hx rfl (hb X.hby hd) rfl hr) k
theorem Go.iushr (X : Cx p l e R s m args below meth c Z own nm bytes maxL rt T locs cells slots h) (pc' : Nat) {x y : Int32} (hd : decode bytes pc = .ok (.iushr, 1))  (k : Go p e below En T m pc' Ls (.int (XT.ushr x y) :: st)) (hp : pc + 1 = pc' := by rfl) : Go p e below En T m pc Ls (.int y :: .int x :: st) := by
  subst hp
  exact Go.step (fun _ hr => XT.iushr X.here X.hx rfl (hb X.hby hd) rfl hr) k
theorem Go.ladd (X : Cx p l e R s m args below meth c Z own nm bytes maxL rt T locs cells slots h) (pc' : Nat) {x y : Int64} (hd : decode bytes pc = .ok (.ladd, 1))  (k : Go p e below En T m pc' Ls (.long (x + y) :: st)) (hp : pc + 1 = pc' := by rfl) : Go p e below En T m pc Ls (.long y :: .long x :: st) := by
  subst hp
  exact Go.step (fun _ hr => XT.ladd X.here X.hx rfl (hb X.hby hd) rfl hr) k
theorem Go.lsub (X : Cx p l e R s m args below meth c Z own nm bytes maxL rt T locs cells slots h) (pc' : Nat) {x y : Int64} (hd : decode bytes pc = .ok (.lsub, 1))  (k : Go p e below En T m pc' Ls (.long (x - y) :: st)) (hp : pc + 1 = pc' := by rfl) : Go p e below En T m pc Ls (.long y :: .long x :: st) := by
  subst hp
  exact Go.step (fun _ hr => XT.lsub X.here X.hx rfl (hb X.hby hd) rfl hr) k
theorem Go.lmul (X : Cx p l e R s m args below meth c Z own nm bytes maxL rt T locs cells slots h) (pc' : Nat) {x y : Int64} (hd : decode bytes pc = .ok (.lmul, 1))  (k : Go p e below En T m pc' Ls (.long (x * y) :: st)) (hp : pc + 1 = pc' := by rfl) : Go p e below En T m pc Ls (.long y :: .long x :: st) := by
  subst hp
  exact Go.step (fun _ hr => XT.lmul X.here X.hx rfl (hb X.hby hd) rfl hr) k
theorem Go.land (X : Cx p l e R s m args below meth c Z own nm bytes maxL rt T locs cells slots h) (pc' : Nat) {x y : Int64} (hd : decode bytes pc = .ok (.land, 1))  (k : Go p e below En T m pc' Ls (.long (x &&& y) :: st)) (hp : pc + 1 = pc' := by rfl) : Go p e below En T m pc Ls (.long y :: .long x :: st) := by
  subst hp
  exact Go.step (fun _ hr => XT.land X.here X.hx rfl (hb X.hby hd) rfl hr) k
theorem Go.lor (X : Cx p l e R s m args below meth c Z own nm bytes maxL rt T locs cells slots h) (pc' : Nat) {x y : Int64} (hd : decode bytes pc = .ok (.lor, 1))  (k : Go p e below En T m pc' Ls (.long (x ||| y) :: st)) (hp : pc + 1 = pc' := by rfl) : Go p e below En T m pc Ls (.long y :: .long x :: st) := by
  subst hp
  exact Go.step (fun _ hr => XT.lor X.here X.hx rfl (hb X.hby hd) rfl hr) k
theorem Go.lxor (X : Cx p l e R s m args below meth c Z own nm bytes maxL rt T locs cells slots h) (pc' : Nat) {x y : Int64} (hd : decode bytes pc = .ok (.lxor, 1))  (k : Go p e below En T m pc' Ls (.long (x ^^^ y) :: st)) (hp : pc + 1 = pc' := by rfl) : Go p e below En T m pc Ls (.long y :: .long x :: st) := by
  subst hp
  exact Go.step (fun _ hr => XT.lxor X.here X.hx rfl (hb X.hby hd) rfl hr) k
theorem Go.lcmp (X : Cx p l e R s m args below meth c Z own nm bytes maxL rt T locs cells slots h) (pc' : Nat) {x y : Int64} (hd : decode bytes pc = .ok (.lcmp, 1))  (k : Go p e below En T m pc' Ls (.int (XT.cmpL x y) :: st)) (hp : pc + 1 = pc' := by rfl) : Go p e below En T m pc Ls (.long y :: .long x :: st) := by
  subst hp
  exact Go.step (fun _ hr => XT.lcmp X.here X.hx rfl (hb X.hby hd) rfl hr) k
theorem Go.ldiv (X : Cx p l e R s m args below meth c Z own nm bytes maxL rt T locs cells slots h) (pc' : Nat) {x y : Int64} (hd : decode bytes pc = .ok (.ldiv, 1)) (hy : y ≠ 0) (k : Go p e below En T m pc' Ls (.long (x / y) :: st)) (hp : pc + 1 = pc' := by rfl) : Go p e below En T m pc Ls (.long y :: .long x :: st) := by
  subst hp
  exact Go.step (fun _ hr => XT.ldiv X.here X.hx rfl (hb X.hby hd) rfl hy hr) k
theorem Go.lrem (X : Cx p l e R s m args below meth c Z own nm bytes maxL rt T locs cells slots h) (pc' : Nat) {x y : Int64} (hd : decode bytes pc = .ok (.lrem, 1)) (hy : y ≠ 0) (k : Go p e below En T m pc' Ls (.long (x - (x / y) * y) :: st)) (hp : pc + 1 = pc' := by rfl) : Go p e below En T m pc Ls (.long y :: .long x :: st) := by
  subst hp
  exact Go.step (fun _ hr => XT.lrem X.here X.hx rfl (hb X.hby hd) rfl hy hr) k
theorem Go.lshl (X : Cx p l e R s m args below meth c Z own nm bytes maxL rt T locs cells slots h) (pc' : Nat) {x : Int64} {y : Int32} (hd : decode bytes pc = .ok (.lshl, 1))  (k : Go p e below En T m pc' Ls (.long (x <<< (y.toInt64 &&& 63)) :: st)) (hp : pc + 1 = pc' := by rfl) : Go p e below En T m pc Ls (.int y :: .long x :: st) := by
  subst hp
  exact Go.step (fun _ hr => XT.lshl X.here X.hx rfl (hb X.hby hd) rfl hr) k
theorem Go.lshr (X : Cx p l e R s m args below meth c Z own nm bytes maxL rt T locs cells slots h) (pc' : Nat) {x : Int64} {y : Int32} (hd : decode bytes pc = .ok (.lshr, 1))  (k : Go p e below En T m pc' Ls (.long (x >>> (y.toInt64 &&& 63)) :: st)) (hp : pc + 1 = pc' := by rfl) : Go p e below En T m pc Ls (.int y :: .long x :: st) := by
  subst hp
  exact Go.step (fun _ hr => XT.lshr X.here X.hx rfl (hb X.hby hd) rfl hr) k
theorem Go.lushr (X : Cx p l e R s m args below meth c Z own nm bytes maxL rt T locs cells slots h) (pc' : Nat) {x : Int64} {y : Int32} (hd : decode bytes pc = .ok (.lushr, 1))  (k : Go p e below En T m pc' Ls (.long (XT.ushrL x y) :: st)) (hp : pc + 1 = pc' := by rfl) : Go p e below En T m pc Ls (.int y :: .long x :: st) := by
  subst hp
  exact Go.step (fun _ hr => XT.lushr X.here X.hx rfl (hb X.hby hd) rfl hr) k
theorem Go.i2l (X : Cx p l e R s m args below meth c Z own nm bytes maxL rt T locs cells slots h) (pc' : Nat) {x : Int32} (hd : decode bytes pc = .ok (.i2l, 1))  (k : Go p e below En T m pc' Ls (.long (x.toInt64) :: st)) (hp : pc + 1 = pc' := by rfl) : Go p e below En T m pc Ls (.int x :: st) := by
  subst hp
  exact Go.step (fun _ hr => XT.i2l X.here X.hx rfl (hb X.hby hd) rfl hr) k
theorem Go.i2b (X : Cx p l e R s m args below meth c Z own nm bytes maxL rt T locs cells slots h) (pc' : Nat) {x : Int32} (hd : decode bytes pc = .ok (.i2b, 1))  (k : Go p e below En T m pc' Ls (.int (x.toInt8.toInt32) :: st)) (hp : pc + 1 = pc' := by rfl) : Go p e below En T m pc Ls (.int x :: st) := by
  subst hp
  exact Go.step (fun _ hr => XT.i2b X.here X.hx rfl (hb X.hby hd) rfl hr) k
theorem Go.i2c (X : Cx p l e R s m args below meth c Z own nm bytes maxL rt T locs cells slots h) (pc' : Nat) {x : Int32} (hd : decode bytes pc = .ok (.i2c, 1))  (k : Go p e below En T m pc' Ls (.int (x.toUInt32.toUInt16.toUInt32.toInt32) :: st)) (hp : pc + 1 = pc' := by rfl) : Go p e below En T m pc Ls (.int x :: st) := by
  subst hp
  exact Go.step (fun _ hr => XT.i2c X.here X.hx rfl (hb X.hby hd) rfl hr) k
theorem Go.i2s (X : Cx p l e R s m args below meth c Z own nm bytes maxL rt T locs cells slots h) (pc' : Nat) {x : Int32} (hd : decode bytes pc = .ok (.i2s, 1))  (k : Go p e below En T m pc' Ls (.int (x.toInt16.toInt32) :: st)) (hp : pc + 1 = pc' := by rfl) : Go p e below En T m pc Ls (.int x :: st) := by
  subst hp
  exact Go.step (fun _ hr => XT.i2s X.here X.hx rfl (hb X.hby hd) rfl hr) k
theorem Go.l2i (X : Cx p l e R s m args below meth c Z own nm bytes maxL rt T locs cells slots h) (pc' : Nat) {x : Int64} (hd : decode bytes pc = .ok (.l2i, 1))  (k : Go p e below En T m pc' Ls (.int (x.toInt32) :: st)) (hp : pc + 1 = pc' := by rfl) : Go p e below En T m pc Ls (.long x :: st) := by
  subst hp
  exact Go.step (fun _ hr => XT.l2i X.here X.hx rfl (hb X.hby hd) rfl hr) k
theorem Go.dup (X : Cx p l e R s m args below meth c Z own nm bytes maxL rt T locs cells slots h) (pc' : Nat) {v : Value} (hd : decode bytes pc = .ok (.dup, 1)) (hc : v.category = 1) (k : Go p e below En T m pc' Ls (v :: v :: st)) (hp : pc + 1 = pc' := by rfl) : Go p e below En T m pc Ls (v :: st) := by
  subst hp
  exact Go.step (fun _ hr => XS.dup X.here X.hx rfl (hb X.hby hd) rfl hc hr) k
theorem Go.pop (X : Cx p l e R s m args below meth c Z own nm bytes maxL rt T locs cells slots h) (pc' : Nat) {v : Value} (hd : decode bytes pc = .ok (.pop, 1)) (hc : v.category = 1) (k : Go p e below En T m pc' Ls st) (hp : pc + 1 = pc' := by rfl) : Go p e below En T m pc Ls (v :: st) := by
  subst hp
  exact Go.step (fun _ hr => XT.pop X.here X.hx rfl (hb X.hby hd) rfl hc hr) k
theorem Go.dup_x1 (X : Cx p l e R s m args below meth c Z own nm bytes maxL rt T locs cells slots h) (pc' : Nat) {v w : Value} (hd : decode bytes pc = .ok (.dup_x1, 1)) (hc : v.category = 1) (hc' : w.category = 1) (k : Go p e below En T m pc' Ls (v :: w :: v :: st)) (hp : pc + 1 = pc' := by rfl) : Go p e below En T m pc Ls (v :: w :: st) := by
  subst hp
  exact Go.step (fun _ hr => XT.dupX1 X.here X.hx rfl (hb X.hby hd) rfl hc hc' hr) k
theorem Go.dup2 (X : Cx p l e R s m args below meth c Z own nm bytes maxL rt T locs cells slots h) (pc' : Nat) {v w : Value} (hd : decode bytes pc = .ok (.dup2, 1)) (hc : v.category = 1) (hc' : w.category = 1) (k : Go p e below En T m pc' Ls (v :: w :: v :: w :: st)) (hp : pc + 1 = pc' := by rfl) : Go p e below En T m pc Ls (v :: w :: st) := by
  subst hp
  exact Go.step (fun _ hr => XT.dup2 X.here X.hx rfl (hb X.hby hd) rfl hc hc' hr) k
theorem Go.istoreN (X : Cx p l e R s m args below meth c Z own nm bytes maxL rt T locs cells slots h) (pc' : Nat) {i : Fin 4} {z : Int32} (Ls' : Array Slot) (hd : decode bytes pc = .ok (.istore_n i, 1))  (hl : storeLocals Ls i.val (.int z) = some Ls') (k : Go p e below En T m pc' Ls' st) (hp : pc + 1 = pc' := by rfl) : Go p e below En T m pc Ls (.int z :: st) := by
  subst hp
  exact Go.step (fun _ hr => XS.istoreN X.here X.hx rfl (hb X.hby hd) rfl  hl hr) k
theorem Go.istore (X : Cx p l e R s m args below meth c Z own nm bytes maxL rt T locs cells slots h) (pc' : Nat) {i : Nat} {z : Int32} (Ls' : Array Slot) (hd : decode bytes pc = .ok (.istore i, 2))  (hl : storeLocals Ls i (.int z) = some Ls') (k : Go p e below En T m pc' Ls' st) (hp : pc + 2 = pc' := by rfl) : Go p e below En T m pc Ls (.int z :: st) := by
  subst hp
  exact Go.step (fun _ hr => XS.istore X.here X.hx rfl (hb X.hby hd) rfl  hl hr) k
theorem Go.lstoreN (X : Cx p l e R s m args below meth c Z own nm bytes maxL rt T locs cells slots h) (pc' : Nat) {i : Fin 4} {z : Int64} (Ls' : Array Slot) (hd : decode bytes pc = .ok (.lstore_n i, 1))  (hl : storeLocals Ls i.val (.long z) = some Ls') (k : Go p e below En T m pc' Ls' st) (hp : pc + 1 = pc' := by rfl) : Go p e below En T m pc Ls (.long z :: st) := by
  subst hp
  exact Go.step (fun _ hr => XT.lstoreN X.here X.hx rfl (hb X.hby hd) rfl  hl hr) k
theorem Go.lstore (X : Cx p l e R s m args below meth c Z own nm bytes maxL rt T locs cells slots h) (pc' : Nat) {i : Nat} {z : Int64} (Ls' : Array Slot) (hd : decode bytes pc = .ok (.lstore i, 2))  (hl : storeLocals Ls i (.long z) = some Ls') (k : Go p e below En T m pc' Ls' st) (hp : pc + 2 = pc' := by rfl) : Go p e below En T m pc Ls (.long z :: st) := by
  subst hp
  exact Go.step (fun _ hr => XT.lstore X.here X.hx rfl (hb X.hby hd) rfl  hl hr) k
theorem Go.astoreN (X : Cx p l e R s m args below meth c Z own nm bytes maxL rt T locs cells slots h) (pc' : Nat) {i : Fin 4} {v : Value} (Ls' : Array Slot) (hd : decode bytes pc = .ok (.astore_n i, 1)) (hv : v.isRef = true) (hl : storeLocals Ls i.val (v) = some Ls') (k : Go p e below En T m pc' Ls' st) (hp : pc + 1 = pc' := by rfl) : Go p e below En T m pc Ls (v :: st) := by
  subst hp
  exact Go.step (fun _ hr => XS.astoreN X.here X.hx rfl (hb X.hby hd) rfl hv hl hr) k
theorem Go.astore (X : Cx p l e R s m args below meth c Z own nm bytes maxL rt T locs cells slots h) (pc' : Nat) {i : Nat} {v : Value} (Ls' : Array Slot) (hd : decode bytes pc = .ok (.astore i, 2)) (hv : v.isRef = true) (hl : storeLocals Ls i (v) = some Ls') (k : Go p e below En T m pc' Ls' st) (hp : pc + 2 = pc' := by rfl) : Go p e below En T m pc Ls (v :: st) := by
  subst hp
  exact Go.step (fun _ hr => XS.astore X.here X.hx rfl (hb X.hby hd) rfl hv hl hr) k
theorem Go.iinc (X : Cx p l e R s m args below meth c Z own nm bytes maxL rt T locs cells slots h) (pc' : Nat) {i : Nat} {x : Int32} {cst : Int} (z : Int32) (Ls' : Array Slot) (hd : decode bytes pc = .ok (.iinc i cst, 3)) (hl0 : Ls[i]? = some (.val (.int x))) (hl : storeLocals Ls i (.int (x + z)) = some Ls') (k : Go p e below En T m pc' Ls' st) (hp : pc + 3 = pc' := by rfl) (hv : Int32.ofInt cst = z := by rfl) : Go p e below En T m pc Ls st := by
  subst hp
  exact Go.step (fun _ hr => XT.iincV X.here X.hx rfl z (hb X.hby hd) hv hl0 hl hr) k
theorem Go.goto (X : Cx p l e R s m args below meth c Z own nm bytes maxL rt T locs cells slots h) (pc' : Nat) {o : Int} (hd : decode bytes pc = .ok (.goto o, 3)) (k : Go p e below En T m pc' Ls st) (ho : 0 ≤ (pc : Int) + o := by decide) (hp : ((pc : Int) + o).toNat = pc' := by decide) : Go p e below En T m pc Ls st :=
  Go.step (fun _ hr => XS.goto X.here X.hx rfl rfl (hb X.hby hd) ho hp hr) k
theorem Go.if0Y (X : Cx p l e R s m args below meth c Z own nm bytes maxL rt T locs cells slots h) (pc' : Nat) {cd : ClassFile.Cond} {x : Int32} {o : Int} (hd : decode bytes pc = .ok (.ifCond cd o, 3)) (hc : ifCond.holds cd x = true) (k : Go p e below En T m pc' Ls st) (ho : 0 ≤ (pc : Int) + o := by decide) (hp : ((pc : Int) + o).toNat = pc' := by decide) : Go p e below En T m pc Ls (.int x :: st) :=
  Go.step (fun _ hr => XS.ifYes X.here X.hx rfl rfl (hb X.hby hd) rfl hc ho hp hr) k
theorem Go.if0N (X : Cx p l e R s m args below meth c Z own nm bytes maxL rt T locs cells slots h) (pc' : Nat) {cd : ClassFile.Cond} {x : Int32} {o : Int} (hd : decode bytes pc = .ok (.ifCond cd o, 3)) (hc : ifCond.holds cd x = false) (k : Go p e below En T m pc' Ls st) (hp : pc + 3 = pc' := by rfl) : Go p e below En T m pc Ls (.int x :: st) := by
  subst hp
  exact Go.step (fun _ hr => XS.ifNo X.here X.hx rfl (hb X.hby hd) rfl hc hr) k
theorem Go.icmpY (X : Cx p l e R s m args below meth c Z own nm bytes maxL rt T locs cells slots h) (pc' : Nat) {cd : ClassFile.Cond} {x y : Int32} {o : Int} (hd : decode bytes pc = .ok (.if_icmp cd o, 3)) (hc : if_icmp.holds cd x y = true) (k : Go p e below En T m pc' Ls st) (ho : 0 ≤ (pc : Int) + o := by decide) (hp : ((pc : Int) + o).toNat = pc' := by decide) : Go p e below En T m pc Ls (.int y :: .int x :: st) :=
  Go.step (fun _ hr => XS.icmpYes X.here X.hx rfl rfl (hb X.hby hd) rfl hc ho hp hr) k
theorem Go.icmpN (X : Cx p l e R s m args below meth c Z own nm bytes maxL rt T locs cells slots h) (pc' : Nat) {cd : ClassFile.Cond} {x y : Int32} {o : Int} (hd : decode bytes pc = .ok (.if_icmp cd o, 3)) (hc : if_icmp.holds cd x y = false) (k : Go p e below En T m pc' Ls st) (hp : pc + 3 = pc' := by rfl) : Go p e below En T m pc Ls (.int y :: .int x :: st) := by
  subst hp
  exact Go.step (fun _ hr => XS.icmpNo X.here X.hx rfl (hb X.hby hd) rfl hc hr) k
theorem Go.acmpY (X : Cx p l e R s m args below meth c Z own nm bytes maxL rt T locs cells slots h) (pc' : Nat) {cd : ClassFile.ACond} {x y : Value} {o : Int} (hd : decode bytes pc = .ok (.if_acmp cd o, 3)) (hx' : x.isRef = true) (hy' : y.isRef = true) (hc : XT.acmp cd x y = true) (k : Go p e below En T m pc' Ls st) (ho : 0 ≤ (pc : Int) + o := by decide) (hp : ((pc : Int) + o).toNat = pc' := by decide) : Go p e below En T m pc Ls (y :: x :: st) :=
  Go.step (fun _ hr => XT.acmpYes X.here X.hx rfl rfl (hb X.hby hd) rfl hx' hy' hc ho hp hr) k
theorem Go.acmpN (X : Cx p l e R s m args below meth c Z own nm bytes maxL rt T locs cells slots h) (pc' : Nat) {cd : ClassFile.ACond} {x y : Value} {o : Int} (hd : decode bytes pc = .ok (.if_acmp cd o, 3)) (hx' : x.isRef = true) (hy' : y.isRef = true) (hc : XT.acmp cd x y = false) (k : Go p e below En T m pc' Ls st) (hp : pc + 3 = pc' := by rfl) : Go p e below En T m pc Ls (y :: x :: st) := by
  subst hp
  exact Go.step (fun _ hr => XT.acmpNo X.here X.hx rfl (hb X.hby hd) rfl hx' hy' hc hr) k
theorem Go.ifnullY (X : Cx p l e R s m args below meth c Z own nm bytes maxL rt T locs cells slots h) (pc' : Nat) {o : Int} (hd : decode bytes pc = .ok (.ifnull o, 3)) (k : Go p e below En T m pc' Ls st) (ho : 0 ≤ (pc : Int) + o := by decide) (hp : ((pc : Int) + o).toNat = pc' := by decide) : Go p e below En T m pc Ls (.null :: st) :=
  Go.step (fun _ hr => XS.ifnullYes X.here X.hx rfl rfl (hb X.hby hd) rfl ho hp hr) k
theorem Go.ifnullN (X : Cx p l e R s m args below meth c Z own nm bytes maxL rt T locs cells slots h) (pc' : Nat) {a : Addr} {o : Int} (hd : decode bytes pc = .ok (.ifnull o, 3)) (k : Go p e below En T m pc' Ls st) (hp : pc + 3 = pc' := by rfl) : Go p e below En T m pc Ls (.ref a :: st) := by
  subst hp
  exact Go.step (fun _ hr => XS.ifnullNo X.here X.hx rfl (hb X.hby hd) rfl hr) k
theorem Go.ifnonnullY (X : Cx p l e R s m args below meth c Z own nm bytes maxL rt T locs cells slots h) (pc' : Nat) {a : Addr} {o : Int} (hd : decode bytes pc = .ok (.ifnonnull o, 3)) (k : Go p e below En T m pc' Ls st) (ho : 0 ≤ (pc : Int) + o := by decide) (hp : ((pc : Int) + o).toNat = pc' := by decide) : Go p e below En T m pc Ls (.ref a :: st) :=
  Go.step (fun _ hr => XT.ifnonnullYes X.here X.hx rfl rfl (hb X.hby hd) rfl ho hp hr) k
theorem Go.ifnonnullN (X : Cx p l e R s m args below meth c Z own nm bytes maxL rt T locs cells slots h) (pc' : Nat) {o : Int} (hd : decode bytes pc = .ok (.ifnonnull o, 3)) (k : Go p e below En T m pc' Ls st) (hp : pc + 3 = pc' := by rfl) : Go p e below En T m pc Ls (.null :: st) := by
  subst hp
  exact Go.step (fun _ hr => XT.ifnonnullNo X.here X.hx rfl (hb X.hby hd) rfl hr) k
theorem Go.tsw (X : Cx p l e R s m args below meth c Z own nm bytes maxL rt T locs cells slots h) (pc' : Nat) {dflt low high o : Int} {offs : Array Int} {len : Nat} {i : Int32} (hd : decode bytes pc = .ok (.tableswitch dflt low high offs, len)) (hin : ¬ (i.toInt < low ∨ i.toInt > high)) (hoff : offs[(i.toInt - low).toNat]? = some o) (k : Go p e below En T m pc' Ls st) (ho : 0 ≤ (pc : Int) + o := by decide) (hp : ((pc : Int) + o).toNat = pc' := by decide) : Go p e below En T m pc Ls (.int i :: st) :=
  Go.step (fun _ hr => XS.tswIn X.here X.hx rfl rfl (hb X.hby hd) rfl hin hoff ho hp hr) k
theorem Go.ldcI (X : Cx p l e R s m args below meth c Z own nm bytes maxL rt T locs cells slots h) (pc' : Nat) {idx : Nat} {v : Int32} (w : (Jvm.Cond.constant own idx v).before a0 Z = true) (hd : decode bytes pc = .ok (.ldc idx, 2)) (k : Go p e below En T m pc' Ls (.int v :: st)) (hp : pc + 2 = pc' := by rfl) : Go p e below En T m pc Ls st := by
  subst hp
  exact Go.step (fun _ hr => X.sd.ldcI X.hx X.hown (mvT X.hZ w) rfl (hb X.hby hd) hr) k
theorem Go.ldcJ (X : Cx p l e R s m args below meth c Z own nm bytes maxL rt T locs cells slots h) (pc' : Nat) {idx : Nat} {v : Int64} (w : (Jvm.Cond.constantLong own idx v).before a0 Z = true) (hd : decode bytes pc = .ok (.ldc2_w idx, 3)) (k : Go p e below En T m pc' Ls (.long v :: st)) (hp : pc + 3 = pc' := by rfl) : Go p e below En T m pc Ls st := by
  subst hp
  exact Go.step (fun _ hr => X.sd.ldc2J X.hx X.hown (mvT X.hZ w) rfl (hb X.hby hd) hr) k
theorem Go.getS (X : Cx p l e R s m args below meth c Z own nm bytes maxL rt T locs cells slots h) (pc' : Nat) {O n d : String} {idx : Nat} {v : Value} (w : (Jvm.Cond.fieldLink own idx O n d).before a0 Z = true) (F : Sta Z Z.heap O n d v) (hd : decode bytes pc = .ok (.getstatic idx, 3)) (k : ∀ T', Cx p l e R s m args below meth c Z own nm bytes maxL rt T' locs cells slots h → Go p e below En T' m pc' Ls (v :: st)) (hp : pc + 3 = pc' := by rfl) : Go p e below En T m pc Ls st := by
  subst hp
  obtain ⟨T', X', e', st'⟩ := RoadKit.getS (host := "") X.sd X.hx X.hZ X.hown w Via.refl X.eq (F.ext X.old) (g := mkF m pc Ls st) rfl (hb X.hby hd)
  exact Go.step st' (k T' (X.mk' X' e' X.fr X.old))
theorem Go.getF (X : Cx p l e R s m args below meth c Z own nm bytes maxL rt T locs cells slots h) (pc' : Nat) {O n d : String} {idx : Nat} {a : Addr} {v : Value} (w : (Jvm.Cond.fieldLink own idx O n d).before a0 Z = true) (F : Fld Z h a O n d v) (hd : decode bytes pc = .ok (.getfield idx, 3)) (k : ∀ T', Cx p l e R s m args below meth c Z own nm bytes maxL rt T' locs cells slots h → Go p e below En T' m pc' Ls (v :: st)) (hp : pc + 3 = pc' := by rfl) : Go p e below En T m pc Ls (.ref a :: st) := by
  subst hp
  obtain ⟨T', X', e', st'⟩ := RoadKit.getF (host := "") X.sd X.hx X.hZ X.hown (Or.inl w) Via.refl X.eq F (g := mkF m pc Ls (.ref a :: st)) rfl rfl (hb X.hby hd)
  exact Go.step st' (k T' (X.mk' X' e' X.fr X.old))
theorem Go.getFN (X : Cx p l e R s m args below meth c Z own nm bytes maxL rt T locs cells slots h) (pc' : Nat) {O n d host : String} {idx : Nat} {a : Addr} {v : Value} (w : (Jvm.Cond.fieldLinkNest own idx O n d host).before a0 Z = true) (F : Fld Z h a O n d v) (hd : decode bytes pc = .ok (.getfield idx, 3)) (k : ∀ T', Cx p l e R s m args below meth c Z own nm bytes maxL rt T' locs cells slots h → Go p e below En T' m pc' Ls (v :: st)) (hp : pc + 3 = pc' := by rfl) : Go p e below En T m pc Ls (.ref a :: st) := by
  subst hp
  obtain ⟨T', X', e', st'⟩ := RoadKit.getF X.sd X.hx X.hZ X.hown (Or.inr w) Via.refl X.eq F (g := mkF m pc Ls (.ref a :: st)) rfl rfl (hb X.hby hd)
  exact Go.step st' (k T' (X.mk' X' e' X.fr X.old))
theorem Go.putF (X : Cx p l e R s m args below meth c Z own nm bytes maxL rt T locs cells slots h) (pc' : Nat) {O n d C : String} {idx kk : Nat} {ty : FieldType} {a : Addr} {v old : Value} (w : (Jvm.Cond.fieldLink own idx O n d).before a0 Z = true) (F : Fld Z h a O n d old) (E : Exa Z h a C) (L : (Jvm.Cond.lays C O n d).before a0 Z = true ∨ ((Jvm.Cond.laysFinal C O n d).before a0 Z = true ∧ own = O ∧ nm = "<init>")) (wi : (Jvm.Cond.instantiable C kk).before a0 Z = true) (hty : parseFieldDescriptor d = some ty) (hn : narrow ty v = v) (hf : fits ty v = true) (ha : Z.heap.size ≤ a) (hd : decode bytes pc = .ok (.putfield idx, 3))
    (k : ∀ T' h', Cx p l e R s m args below meth c Z own nm bytes maxL rt T' (locs ++ [⟨a, RoadKit.slotOf Z O n d⟩]) cells slots h' → Wr h h' a (RoadKit.slotOf Z O n d) v → Go p e below En T' m pc' Ls st) (hp : pc + 3 = pc' := by rfl) : Go p e below En T m pc Ls (v :: .ref a :: st) := by
  subst hp
  obtain ⟨T', h', X', e', W, st'⟩ := RoadKit.putF (host := "") X.sd X.hx X.hZ X.hown (Or.inl w) Via.refl X.eq F E (L.imp id fun q => ⟨q.1, q.2.1, X.hnm.trans q.2.2⟩) wi hty hn hf (g := mkF m pc Ls (v :: .ref a :: st)) rfl rfl (hb X.hby hd)
  exact Go.step st' (k T' h' (X.mk' X' e' (Fr.snoc X' X.fr ha) (Ext.wr X.old W ha)) W)
theorem Go.newO (X : Cx p l e R s m args below meth c Z own nm bytes maxL rt T locs cells slots h) (pc' : Nat) {C : String} {idx n : Nat} (w : (Jvm.Cond.classLink own idx C).before a0 Z = true) (wi : (Jvm.Cond.instantiable C n).before a0 Z = true) (wz : (Jvm.Cond.initialized C).before a0 Z = true) (hd : decode bytes pc = .ok (.new idx, 3)) (hc : cells + 1 ≤ R.cells) (hl : slots + n ≤ R.slots)
    (k : ∀ T' h' a, Cx p l e R s m args below meth c Z own nm bytes maxL rt T' locs (cells + 1) (slots + n) h' → Ext h h' → h.size = a → Exa Z h' a C → (∀ {O nm d : String} {ty : FieldType}, Laid Z a0 C O nm d → parseFieldDescriptor d = some ty → Fld Z h' a O nm d (defaultValue ty)) → Go p e below En T' m pc' Ls (.ref a :: st)) (hp : pc + 3 = pc' := by rfl) : Go p e below En T m pc Ls st := by
  subst hp
  obtain ⟨T', h', X', e', E, A, D, -, st'⟩ := RoadKit.newO X.sd X.hx X.hZ X.hown w wi wz X.eq (g := mkF m pc Ls st) rfl (hb X.hby hd) hc hl
  exact Go.step st' (k T' h' _ (X.mk' X' e' X.fr (Ext.tr X.old E)) E rfl A D)
theorem Go.initO (X : Cx p l e R s m args below meth c Z own nm bytes maxL rt T locs cells slots h) (pc' : Nat) {idx : Nat} {a : Addr} (w1 : (Jvm.Cond.methodLink own idx Lib.objectInit).before a0 Z = true) (w2 : (Jvm.Cond.instanceMethod Lib.objectInit).before a0 Z = true) (w3 : (Jvm.Cond.code Lib.objectInit ⟨#[0xb1]⟩ 1 none).before a0 Z = true) (W : Nat) (hd : decode bytes pc = .ok (.invokespecial idx, 3)) (hsz : Ls.size = maxL) (hf : 1 ≤ R.frames) (hW : (st.map fun v => v.category).sum ≤ W) (hl : W + 12 ≤ R.locals)
    (k : ∀ T', Cx p l e R s m args below meth c Z own nm bytes maxL rt T' locs cells slots h → Go p e below En T' m pc' Ls st) (hp : pc + 3 = pc' := by rfl) : Go p e below En T m pc Ls (.ref a :: st) := by
  subst hp
  obtain ⟨T', X', e', st'⟩ := RoadKit.initO X.sd X.hx X.hZ X.hown w1 w2 w3 X.eq (g := mkF m pc Ls (.ref a :: st)) rfl (hsz.trans X.hml.symm) rfl (hb X.hby hd) hf (W := W) (by simpa using hW) hl
  exact Go.step st' (k T' (X.mk' X' e' X.fr X.old))
theorem Go.newP (X : Cx p l e R s m args below meth c Z own nm bytes maxL rt T locs cells slots h) (pc' : Nat) {aty : ArrayType} {n : Int32} (w : (Jvm.Cond.arrayClass (newarray.typeOf aty)).before a0 Z = true) (hd : decode bytes pc = .ok (.newarray aty, 2)) (cap : Nat) (hn : ¬ n < 0) (hcap : n.toNatClampNeg ≤ cap) (hb' : cap * 8 ≤ 536870912) (hc : cells + 1 ≤ R.cells) (hl : slots + cap ≤ R.slots)
    (k : ∀ T' h' a kA, Cx p l e R s m args below meth c Z own nm bytes maxL rt T' locs (cells + 1) (slots + cap) h' → Ext h h' → h.size = a → Arv Z h' a kA (newarray.typeOf aty) n [] (defaultValue (newarray.typeOf aty)) → Go p e below En T' m pc' Ls (.ref a :: st)) (hp : pc + 2 = pc' := by rfl) : Go p e below En T m pc Ls (.int n :: st) := by
  subst hp
  obtain ⟨T', h', kA, X', e', E, A, st'⟩ := RoadKit.newP X.sd X.hx X.hZ w X.eq (g := mkF m pc Ls (.int n :: st)) rfl (hb X.hby hd) rfl hn hcap hb' hc hl
  exact Go.step st' (k T' h' _ kA (X.mk' X' e' X.fr (Ext.tr X.old E)) E rfl (Arv.new A hn))
theorem Go.newR (X : Cx p l e R s m args below meth c Z own nm bytes maxL rt T locs cells slots h) (pc' : Nat) {D : String} {idx : Nat} {n : Int32} (w1 : (Jvm.Cond.classLink own idx D).before a0 Z = true) (w2 : (Jvm.Cond.arrayOver (.object D)).before a0 Z = true) (hd : decode bytes pc = .ok (.anewarray idx, 3)) (cap : Nat) (hn : ¬ n < 0) (hcap : n.toNatClampNeg ≤ cap) (hb' : cap * 8 ≤ 536870912) (hc : cells + 1 ≤ R.cells) (hl : slots + cap ≤ R.slots)
    (k : ∀ T' h' a kA, Cx p l e R s m args below meth c Z own nm bytes maxL rt T' locs (cells + 1) (slots + cap) h' → Ext h h' → h.size = a → Ovr Z kA D → Arv Z h' a kA (.object D) n [] .null → Go p e below En T' m pc' Ls (.ref a :: st)) (hp : pc + 3 = pc' := by rfl) : Go p e below En T m pc Ls (.int n :: st) := by
  subst hp
  obtain ⟨T', h', kA, X', e', E, A, O, st'⟩ := RoadKit.newR X.sd X.hx X.hZ X.hown w1 w2 X.eq (g := mkF m pc Ls (.int n :: st)) rfl (hb X.hby hd) rfl hn hcap hb' hc hl
  exact Go.step st' (k T' h' _ kA (X.mk' X' e' X.fr (Ext.tr X.old E)) E rfl O (Arv.new A hn))
theorem Go.stC (X : Cx p l e R s m args below meth c Z own nm bytes maxL rt T locs cells slots h) (pc' : Nat) {a : Addr} {kA : ClassId} {n j x : Int32} {vs : List Value} {d : Value} (V : Arv Z h a kA .char n vs d) (hd : decode bytes pc = .ok (.castore, 1)) (hj : ¬ j < 0 ∧ j < n) (i : Nat) (hi : j.toNatClampNeg = i) (hlt : i < vs.length) (ha : Z.heap.size ≤ a)
    (k : ∀ T' h', Cx p l e R s m args below meth c Z own nm bytes maxL rt T' (locs ++ [⟨a, j.toNatClampNeg⟩]) cells slots h' → Wr h h' a j.toNatClampNeg (.int (nar .char x)) → Arv Z h' a kA .char n (vs.set i (.int (nar .char x))) d → Go p e below En T' m pc' Ls st) (hp : pc + 1 = pc' := by rfl) : Go p e below En T m pc Ls (.int x :: .int j :: .ref a :: st) := by
  subst hp
  obtain ⟨cl, A, q1, S, q3, H, G⟩ := V
  obtain ⟨T', h', X', e', W, st'⟩ := RoadKit.stC X.sd X.hx X.hZ X.eq A (inb_of S hj) (g := mkF m pc Ls (.int x :: .int j :: .ref a :: st)) rfl rfl (hb X.hby hd)
  exact Go.step st' (k T' h' (X.mk' X' e' (Fr.snoc X' X.fr ha) (Ext.wr X.old W ha)) W (Arv.set A q1 S q3 H G (fits_nar_char x) W i hi hlt))
theorem Go.stB (X : Cx p l e R s m args below meth c Z own nm bytes maxL rt T locs cells slots h) (pc' : Nat) {a : Addr} {kA : ClassId} {n j x : Int32} {vs : List Value} {d : Value} (V : Arv Z h a kA .byte n vs d) (hd : decode bytes pc = .ok (.bastore, 1)) (hj : ¬ j < 0 ∧ j < n) (i : Nat) (hi : j.toNatClampNeg = i) (hlt : i < vs.length) (ha : Z.heap.size ≤ a)
    (k : ∀ T' h', Cx p l e R s m args below meth c Z own nm bytes maxL rt T' (locs ++ [⟨a, j.toNatClampNeg⟩]) cells slots h' → Wr h h' a j.toNatClampNeg (.int (nar .byte x)) → Arv Z h' a kA .byte n (vs.set i (.int (nar .byte x))) d → Go p e below En T' m pc' Ls st) (hp : pc + 1 = pc' := by rfl) : Go p e below En T m pc Ls (.int x :: .int j :: .ref a :: st) := by
  subst hp
  obtain ⟨cl, A, q1, S, q3, H, G⟩ := V
  obtain ⟨T', h', X', e', W, st'⟩ := RoadKit.stB X.sd X.hx X.hZ X.eq A (inb_of S hj) (g := mkF m pc Ls (.int x :: .int j :: .ref a :: st)) rfl rfl (hb X.hby hd)
  exact Go.step st' (k T' h' (X.mk' X' e' (Fr.snoc X' X.fr ha) (Ext.wr X.old W ha)) W (Arv.set A q1 S q3 H G (fits_nar_byte x) W i hi hlt))
theorem Go.stR (X : Cx p l e R s m args below meth c Z own nm bytes maxL rt T locs cells slots h) (pc' : Nat) {a y : Addr} {kA : ClassId} {D : String} {n j : Int32} {vs : List Value} {d : Value} (V : Arv Z h a kA (.object D) n vs d) (O : Ovr Z kA D) (I : Ins Z h y D true) (hd : decode bytes pc = .ok (.aastore, 1)) (hj : ¬ j < 0 ∧ j < n) (i : Nat) (hi : j.toNatClampNeg = i) (hlt : i < vs.length) (ha : Z.heap.size ≤ a)
    (k : ∀ T' h', Cx p l e R s m args below meth c Z own nm bytes maxL rt T' (locs ++ [⟨a, j.toNatClampNeg⟩]) cells slots h' → Wr h h' a j.toNatClampNeg (.ref y) → Arv Z h' a kA (.object D) n (vs.set i (.ref y)) d → Go p e below En T' m pc' Ls st) (hp : pc + 1 = pc' := by rfl) : Go p e below En T m pc Ls (.ref y :: .int j :: .ref a :: st) := by
  subst hp
  obtain ⟨cl, A, q1, S, q3, H, G⟩ := V
  obtain ⟨T', h', X', e', W, st'⟩ := RoadKit.stR X.sd X.hx X.hZ X.eq A (inb_of S hj) rfl (Sto.ofV A q1 O I) (g := mkF m pc Ls (.ref y :: .int j :: .ref a :: st)) rfl rfl (hb X.hby hd)
  exact Go.step st' (k T' h' (X.mk' X' e' (Fr.snoc X' X.fr ha) (Ext.wr X.old W ha)) W (Arv.set A q1 S q3 H G rfl W i hi hlt))
theorem Go.alen (X : Cx p l e R s m args below meth c Z own nm bytes maxL rt T locs cells slots h) (pc' : Nat) {a : Addr} {kA : ClassId} {ty : FieldType} {n : Int32} {vs : List Value} {d : Value} (V : Arv Z h a kA ty n vs d) (hd : decode bytes pc = .ok (.arraylength, 1)) (k : Go p e below En T m pc' Ls (.int n :: st)) (hp : pc + 1 = pc' := by rfl) : Go p e below En T m pc Ls (.ref a :: st) := by
  subst hp
  obtain ⟨cl, A, q1, S, q3, H, G⟩ := V
  refine Go.step (fun _ hr => X.sd.arraylength X.hx (by rw [X.eq]; exact A.1) (State.isArrayOf_alike X.hZ.alike A.2.1) (g := mkF m pc Ls (.ref a :: st)) rfl rfl (hb X.hby hd) _ hr) ?_
  rw [len_of S q3]; exact k
theorem Go.caload (X : Cx p l e R s m args below meth c Z own nm bytes maxL rt T locs cells slots h) (pc' : Nat) {a : Addr} {kA : ClassId} {n j : Int32} {vs : List Value} {d v : Value} (V : Arv Z h a kA .char n vs d) (hd : decode bytes pc = .ok (.caload, 1)) (hj : ¬ j < 0 ∧ j < n) (u : vs.getD j.toNatClampNeg d = v) (k : Go p e below En T m pc' Ls (v :: st)) (hp : pc + 1 = pc' := by rfl) : Go p e below En T m pc Ls (.int j :: .ref a :: st) := by
  subst hp
  obtain ⟨cl, A, q1, S, q3, H, G⟩ := V
  exact Go.step (fun _ hr => X.sd.caload X.hx (by rw [X.eq]; exact A.1) (State.isArrayOf_alike X.hZ.alike A.2.1) A.2.2 (inb_of S hj) (H.at (inb_of S hj) u) (g := mkF m pc Ls (.int j :: .ref a :: st)) rfl rfl (hb X.hby hd) _ hr) k
theorem Go.baload (X : Cx p l e R s m args below meth c Z own nm bytes maxL rt T locs cells slots h) (pc' : Nat) {a : Addr} {kA : ClassId} {n j : Int32} {vs : List Value} {d v : Value} (V : Arv Z h a kA .byte n vs d) (hd : decode bytes pc = .ok (.baload, 1)) (hj : ¬ j < 0 ∧ j < n) (u : vs.getD j.toNatClampNeg d = v) (k : Go p e below En T m pc' Ls (v :: st)) (hp : pc + 1 = pc' := by rfl) : Go p e below En T m pc Ls (.int j :: .ref a :: st) := by
  subst hp
  obtain ⟨cl, A, q1, S, q3, H, G⟩ := V
  exact Go.step (fun _ hr => X.sd.baloadBytes X.hx (by rw [X.eq]; exact A.1) (State.isArrayOf_alike X.hZ.alike A.2.1) A.2.2 (inb_of S hj) (H.at (inb_of S hj) u) (g := mkF m pc Ls (.int j :: .ref a :: st)) rfl rfl (hb X.hby hd) _ hr) k
theorem Go.aaload (X : Cx p l e R s m args below meth c Z own nm bytes maxL rt T locs cells slots h) (pc' : Nat) {a : Addr} {kA : ClassId} {ty : FieldType} {n j : Int32} {vs : List Value} {d v : Value} (V : Arv Z h a kA ty n vs d) (hty : ty.isReference = true) (hd : decode bytes pc = .ok (.aaload, 1)) (hj : ¬ j < 0 ∧ j < n) (u : vs.getD j.toNatClampNeg d = v) (k : Go p e below En T m pc' Ls (v :: st)) (hp : pc + 1 = pc' := by rfl) : Go p e below En T m pc Ls (.int j :: .ref a :: st) := by
  subst hp
  obtain ⟨cl, A, q1, S, q3, H, G⟩ := V
  exact Go.step (fun _ hr => X.sd.aaload X.hx (by rw [X.eq]; exact A.1) (State.isArrayOf_alike X.hZ.alike A.2.1) hty A.2.2 (inb_of S hj) (H.at (inb_of S hj) u) (g := mkF m pc Ls (.int j :: .ref a :: st)) rfl rfl (hb X.hby hd) _ hr) k
theorem Go.castY (X : Cx p l e R s m args below meth c Z own nm bytes maxL rt T locs cells slots h) (pc' : Nat) {K : String} {idx : Nat} {a : Addr} (w : (Jvm.Cond.classLink own idx K).before a0 Z = true) (F : Ins Z h a K true) (hd : decode bytes pc = .ok (.checkcast idx, 3)) (k : ∀ T', Cx p l e R s m args below meth c Z own nm bytes maxL rt T' locs cells slots h → Go p e below En T' m pc' Ls (.ref a :: st)) (hp : pc + 3 = pc' := by rfl) : Go p e below En T m pc Ls (.ref a :: st) := by
  subst hp
  obtain ⟨T', X', e', st'⟩ := RoadKit.castY X.sd X.hx X.hZ X.hown w X.eq F (g := mkF m pc Ls (.ref a :: st)) rfl rfl (hb X.hby hd)
  exact Go.step st' (k T' (X.mk' X' e' X.fr X.old))
theorem Go.instY (X : Cx p l e R s m args below meth c Z own nm bytes maxL rt T locs cells slots h) (pc' : Nat) {K : String} {idx : Nat} {a : Addr} (w : (Jvm.Cond.classLink own idx K).before a0 Z = true) (F : Ins Z h a K true) (hd : decode bytes pc = .ok (.instanceof idx, 3)) (k : ∀ T', Cx p l e R s m args below meth c Z own nm bytes maxL rt T' locs cells slots h → Go p e below En T' m pc' Ls (.int 1 :: st)) (hp : pc + 3 = pc' := by rfl) : Go p e below En T m pc Ls (.ref a :: st) := by
  subst hp
  obtain ⟨T', X', e', st'⟩ := RoadKit.instY X.sd X.hx X.hZ X.hown w X.eq F (g := mkF m pc Ls (.ref a :: st)) rfl rfl (hb X.hby hd)
  exact Go.step st' (k T' (X.mk' X' e' X.fr X.old))
theorem Go.instNo (X : Cx p l e R s m args below meth c Z own nm bytes maxL rt T locs cells slots h) (pc' : Nat) {K D : String} {idx : Nat} {a : Addr} (w : (Jvm.Cond.classLink own idx K).before a0 Z = true) (E : Exa Z h a D) (F : ∃ c t, Z.vm.findClass D = some c ∧ Z.vm.findClass K = some t ∧ Z.vm.assignable c t = false) (hd : decode bytes pc = .ok (.instanceof idx, 3)) (k : ∀ T', Cx p l e R s m args below meth c Z own nm bytes maxL rt T' locs cells slots h → Go p e below En T' m pc' Ls (.int 0 :: st)) (hp : pc + 3 = pc' := by rfl) : Go p e below En T m pc Ls (.ref a :: st) := by
  subst hp
  obtain ⟨T', X', e', st'⟩ := RoadKit.instNo X.sd X.hx X.hZ X.hown w X.eq E F (g := mkF m pc Ls (.ref a :: st)) rfl rfl (hb X.hby hd)
  exact Go.step st' (k T' (X.mk' X' e' X.fr X.old))
theorem Go.instNull (X : Cx p l e R s m args below meth c Z own nm bytes maxL rt T locs cells slots h) (pc' : Nat) {idx : Nat} (hd : decode bytes pc = .ok (.instanceof idx, 3)) (k : Go p e below En T m pc' Ls (.int 0 :: st)) (hp : pc + 3 = pc' := by rfl) : Go p e below En T m pc Ls (.null :: st) := by
  subst hp
  exact Go.step (Jvm.Stand.instanceofNull X.sd X.hx (g := mkF m pc Ls (.null :: st)) rfl rfl (hb X.hby hd)) k
theorem own_noSub {C S K : String} {n : Nat} (w : (Jvm.Cond.superclass C S).before a0 Z = true) (wk : (Jvm.Cond.instantiable K n).before a0 Z = true) (wr : (Jvm.Cond.noSuperclass S).before a0 Z = true) (h1 : C ≠ K) (h2 : S ≠ K) : ∃ c t, Z.vm.findClass C = some c ∧ Z.vm.findClass K = some t ∧ Z.vm.assignable c t = false := by
  obtain ⟨t, kt, g1, g2, g3, g4, -⟩ := Cond.instantiable_spec wk
  have hi : kt.isInterface = false := by rw [Bool.or_eq_false_iff] at g4; exact g4.1
  have nr : NS Z S K := by
    obtain ⟨c, k, r1, r2, r3, -, -⟩ := Cond.noSuperclass_spec wr
    refine ⟨c, t, r1, g1, fun fuel => ?_⟩
    have ne := ids_ne r1 g1 h2
    cases fuel with
    | zero => rfl
    | succ f => simp [Vm.isSubclassAux, ne, r2, r3]
  obtain ⟨c, t', h0, g0, n3⟩ := NS.step w nr h1
  cases g1.symm.trans g0
  obtain ⟨p, k, kp, -, k2, -, -, k5, -, -⟩ := Cond.superclass_spec h0 w
  have ne := ids_ne h0 g1 h1
  refine ⟨c, t, h0, g1, ?_⟩
  show Z.vm.assignableAux (255 + 1) c t = false
  simp [Vm.assignableAux, ne, k2, g2, k5, g3, hi, Vm.isSubclass, n3]
theorem Go.mono {En' : Option Value → State → Prop} (f : ∀ v t, En' v t → En v t) (k : Go p e below En' T m pc Ls st) : Go p e below En T m pc Ls st := by
  obtain ⟨s₂, v, k1, k2, k3, k4⟩ := k
  exact ⟨s₂, v, k1, k2, k3, f _ _ k4⟩
theorem Cx.back (X : Cx p l e R s m args below meth c Z own nm bytes maxL rt T locs cells slots h) {y : MethodName} {by' : ByteArray} {ml' : Nat} {rt' : Option FieldType} {rm : Room} {as' : Array Value} {Q' : Option Value → Heap → Prop} {len W : Nat} (ct : Ct l Z [] y by' ml' rt' rm as' h Q') (wc : (Jvm.Cond.code y by' ml' rt').before a0 Z = true) (wz : (Jvm.Cond.initialized y.cls).before a0 Z = true) (hf : rm.frames + 1 ≤ R.frames) (hl : W + (ml' + 11) + rm.locals ≤ R.locals) :
    Back l R p e below s args y len W (fun A a => a = as' ∧ A.U.heap = h ∧ A.cells + rm.cells ≤ R.cells ∧ A.slots + rm.slots ≤ R.slots) (fun A _ v B => ∃ L, (Fr Z.heap.size L ∧ Ext Z.heap B.U.heap ∧ Q' v B.U.heap) ∧ B.locs = A.locs ++ L ∧ B.cells = A.cells + rm.cells ∧ B.slots = A.slots + rm.slots) :=
  backOf (Q := fun v hh L => Fr Z.heap.size L ∧ Ext Z.heap hh ∧ Q' v hh) (ct X.old) X.hZ wc wz hf hl
theorem Go.callS (X : Cx p l e R s m args below meth c Z own nm bytes maxL rt T locs cells slots h) (pc' : Nat) {idx : Nat} {y : MethodName} {by' : ByteArray} {ml' : Nat} {rt' : Option FieldType} {rm : Room} {ps : List FieldType} {rr : Option FieldType} {Q' : Option Value → Heap → Prop} (argsL rest : List Value) (W : Nat) (wl : (Jvm.Cond.methodLink own idx y).before a0 Z = true) (ws : (Jvm.Cond.static y).before a0 Z = true) (wz : (Jvm.Cond.initialized y.cls).before a0 Z = true) (hy : y.cls ≠ "java/lang/invoke/MethodHandle" ∧ y.cls ≠ "java/lang/invoke/VarHandle") (wc : (Jvm.Cond.code y by' ml' rt').before a0 Z = true) (pd : parseMethodDescriptor y.desc = some ⟨ps, rr⟩) (hd : decode bytes pc = .ok (.invokestatic idx, 3)) (ct : Ct l Z [] y by' ml' rt' rm (argsL.toArray) h Q') (hlen : argsL.length = ps.length) (hst : st = argsL.reverse ++ rest) (hsz : Ls.size = maxL) (hW : (rest.map fun v => v.category).sum ≤ W) (hf : rm.frames + 1 ≤ R.frames) (hl : W + (ml' + 11) + rm.locals ≤ R.locals) (hce : cells + rm.cells ≤ R.cells) (hsl : slots + rm.slots ≤ R.slots)
    (k : ∀ T' v L, Cx p l e R s m args below meth c Z own nm bytes maxL rt T' (locs ++ L) (cells + rm.cells) (slots + rm.slots) T'.heap → Q' v T'.heap → Go p e below En T' m pc' Ls (v.toList ++ rest)) (hp : pc + 3 = pc' := by rfl) : Go p e below En T m pc Ls st := by
  subst hp
  obtain ⟨v, _, ⟨T', L', k', n'⟩, -, X', ⟨L, hq, e1, e2, e3⟩, st'⟩ := Jvm.LawKit.callS X.sd X.hx (y := y) X.hown (mvT X.hZ wl) (mvT X.hZ ws) (mvT X.hZ wz) (mvT X.hZ wc) hy (X.back (W := W) ct wc wz hf hl) (g := mkF m pc Ls st) rfl (hsz.trans X.hml.symm) (argsL := argsL) (rest := rest) (lenOf pd hlen) hst (by simpa using hW) (hb X.hby hd) (fun _ _ => ⟨rfl, X.eq, hce, hsl⟩)
  dsimp only [Pt.U, Pt.locs, Pt.cells, Pt.slots] at X' e1 e2 e3 st' hq
  subst e1 e2 e3
  exact Go.step st' (k T' v L (X.mk' X' rfl (X.fr.app hq.1) hq.2.1) hq.2.2)
theorem Go.callSP (X : Cx p l e R s m args below meth c Z own nm bytes maxL rt T locs cells slots h) (pc' : Nat) {idx : Nat} {y : MethodName} {by' : ByteArray} {ml' : Nat} {rt' : Option FieldType} {rm : Room} {ps : List FieldType} {rr : Option FieldType} {v : Value} (argsL rest : List Value) (W : Nat) (wl : (Jvm.Cond.methodLink own idx y).before a0 Z = true) (ws : (Jvm.Cond.static y).before a0 Z = true) (wz : (Jvm.Cond.initialized y.cls).before a0 Z = true) (hy : y.cls ≠ "java/lang/invoke/MethodHandle" ∧ y.cls ≠ "java/lang/invoke/VarHandle") (wc : (Jvm.Cond.code y by' ml' rt').before a0 Z = true) (pd : parseMethodDescriptor y.desc = some ⟨ps, rr⟩) (hd : decode bytes pc = .ok (.invokestatic idx, 3)) (ct : Ct l Z [] y by' ml' rt' rm (argsL.toArray) h (Pu h v)) (hlen : argsL.length = ps.length) (hst : st = argsL.reverse ++ rest) (hsz : Ls.size = maxL) (hW : (rest.map fun v => v.category).sum ≤ W) (hf : rm.frames + 1 ≤ R.frames) (hl : W + (ml' + 11) + rm.locals ≤ R.locals) (hce : cells + rm.cells ≤ R.cells) (hsl : slots + rm.slots ≤ R.slots)
    (k : ∀ T' L, Cx p l e R s m args below meth c Z own nm bytes maxL rt T' (locs ++ L) (cells + rm.cells) (slots + rm.slots) h → Go p e below En T' m pc' Ls (v :: rest)) (hp : pc + 3 = pc' := by rfl) : Go p e below En T m pc Ls st :=
  Go.callS X pc' argsL rest W wl ws wz hy wc pd hd ct hlen hst hsz hW hf hl hce hsl (fun T' v' L X' q => by
    obtain ⟨rfl, q2⟩ := q
    rw [q2] at X'
    exact k T' L X') hp
theorem Go.callI (X : Cx p l e R s m args below meth c Z own nm bytes maxL rt T locs cells slots h) (pc' : Nat) {idx : Nat} {y : MethodName} {by' : ByteArray} {ml' : Nat} {rt' : Option FieldType} {rm : Room} {ps : List FieldType} {rr : Option FieldType} {a : Addr} {Q' : Option Value → Heap → Prop} (argsL rest : List Value) (W : Nat) (hy1 : y.name = "<init>") (wl : (Jvm.Cond.methodLink own idx y).before a0 Z = true) (wm : (Jvm.Cond.instanceMethod y).before a0 Z = true) (wz : (Jvm.Cond.initialized y.cls).before a0 Z = true) (hy : y.cls ≠ "java/lang/invoke/MethodHandle" ∧ y.cls ≠ "java/lang/invoke/VarHandle") (hrn : rt' = none) (wc : (Jvm.Cond.code y by' ml' rt').before a0 Z = true) (pd : parseMethodDescriptor y.desc = some ⟨ps, rr⟩) (hd : decode bytes pc = .ok (.invokespecial idx, 3)) (ct : Ct l Z [] y by' ml' rt' rm ((Value.ref a :: argsL).toArray) h Q') (hlen : argsL.length = ps.length) (hst : st = argsL.reverse ++ .ref a :: rest) (hsz : Ls.size = maxL) (hW : (rest.map fun v => v.category).sum ≤ W) (hf : rm.frames + 1 ≤ R.frames) (hl : W + (ml' + 11) + rm.locals ≤ R.locals) (hce : cells + rm.cells ≤ R.cells) (hsl : slots + rm.slots ≤ R.slots)
    (k : ∀ T' v L, Cx p l e R s m args below meth c Z own nm bytes maxL rt T' (locs ++ L) (cells + rm.cells) (slots + rm.slots) T'.heap → Q' v T'.heap → Go p e below En T' m pc' Ls (v.toList ++ rest)) (hp : pc + 3 = pc' := by rfl) : Go p e below En T m pc Ls st := by
  subst hp
  subst hrn
  obtain ⟨v, _, ⟨T', L', k', n'⟩, -, X', ⟨L, hq, e1, e2, e3⟩, st'⟩ := X.sd.specialBack X.hx (y := y) hy1 X.hown (mvT X.hZ wl) (mvT X.hZ wm) (mvT X.hZ wc) hy (X.back (W := W) ct wc wz hf hl) (g := mkF m pc Ls st) rfl (hsz.trans X.hml.symm) (Steps.refl _) (a := a) (argsL := argsL) (rest := rest) (lenOf pd hlen) hst (by simpa using hW) (hb X.hby hd) (fun _ _ => ⟨rfl, X.eq, hce, hsl⟩)
  dsimp only [Pt.U, Pt.locs, Pt.cells, Pt.slots] at X' e1 e2 e3 st' hq
  subst e1 e2 e3
  exact Go.step (fun _ hr => Steps.trans st' hr) (k T' v L (X.mk' X' rfl (X.fr.app hq.1) hq.2.1) hq.2.2)
theorem Go.callIP (X : Cx p l e R s m args below meth c Z own nm bytes maxL rt T locs cells slots h) (pc' : Nat) {idx : Nat} {y : MethodName} {by' : ByteArray} {ml' : Nat} {rt' : Option FieldType} {rm : Room} {ps : List FieldType} {rr : Option FieldType} {a : Addr} {v : Value} (argsL rest : List Value) (W : Nat) (hy1 : y.name = "<init>") (wl : (Jvm.Cond.methodLink own idx y).before a0 Z = true) (wm : (Jvm.Cond.instanceMethod y).before a0 Z = true) (wz : (Jvm.Cond.initialized y.cls).before a0 Z = true) (hy : y.cls ≠ "java/lang/invoke/MethodHandle" ∧ y.cls ≠ "java/lang/invoke/VarHandle") (hrn : rt' = none) (wc : (Jvm.Cond.code y by' ml' rt').before a0 Z = true) (pd : parseMethodDescriptor y.desc = some ⟨ps, rr⟩) (hd : decode bytes pc = .ok (.invokespecial idx, 3)) (ct : Ct l Z [] y by' ml' rt' rm ((Value.ref a :: argsL).toArray) h (Pu h v)) (hlen : argsL.length = ps.length) (hst : st = argsL.reverse ++ .ref a :: rest) (hsz : Ls.size = maxL) (hW : (rest.map fun v => v.category).sum ≤ W) (hf : rm.frames + 1 ≤ R.frames) (hl : W + (ml' + 11) + rm.locals ≤ R.locals) (hce : cells + rm.cells ≤ R.cells) (hsl : slots + rm.slots ≤ R.slots)
    (k : ∀ T' L, Cx p l e R s m args below meth c Z own nm bytes maxL rt T' (locs ++ L) (cells + rm.cells) (slots + rm.slots) h → Go p e below En T' m pc' Ls (v :: rest)) (hp : pc + 3 = pc' := by rfl) : Go p e below En T m pc Ls st :=
  Go.callI X pc' argsL rest W hy1 wl wm wz hy hrn wc pd hd ct hlen hst hsz hW hf hl hce hsl (fun T' v' L X' q => by
    obtain ⟨rfl, q2⟩ := q
    rw [q2] at X'
    exact k T' L X') hp
theorem Go.callV (X : Cx p l e R s m args below meth c Z own nm bytes maxL rt T locs cells slots h) (pc' : Nat) {idx : Nat} {y z : MethodName} {C : String} {by' : ByteArray} {ml' : Nat} {rt' : Option FieldType} {rm : Room} {ps : List FieldType} {rr : Option FieldType} {a : Addr} {Q' : Option Value → Heap → Prop} (argsL rest : List Value) (W : Nat) (wl : (Jvm.Cond.methodLink own idx y).before a0 Z = true) (wd : (Jvm.Cond.declares y).before a0 Z = true) (wf : (Jvm.Cond.selects C y z).before a0 Z = true) (nf : NotFace s y) (wm : (Jvm.Cond.instanceMethod z).before a0 Z = true) (wz : (Jvm.Cond.initialized z.cls).before a0 Z = true) (hy : y.cls ≠ "java/lang/invoke/MethodHandle" ∧ y.cls ≠ "java/lang/invoke/VarHandle") (E : Exa Z h a C) (wc : (Jvm.Cond.code z by' ml' rt').before a0 Z = true) (pd : parseMethodDescriptor y.desc = some ⟨ps, rr⟩) (hd : decode bytes pc = .ok (.invokevirtual idx, 3)) (ct : Ct l Z [] z by' ml' rt' rm ((Value.ref a :: argsL).toArray) h Q') (hlen : argsL.length = ps.length) (hst : st = argsL.reverse ++ .ref a :: rest) (hsz : Ls.size = maxL) (hW : (rest.map fun v => v.category).sum ≤ W) (hf : rm.frames + 1 ≤ R.frames) (hl : W + (ml' + 11) + rm.locals ≤ R.locals) (hce : cells + rm.cells ≤ R.cells) (hsl : slots + rm.slots ≤ R.slots)
    (k : ∀ T' v L, Cx p l e R s m args below meth c Z own nm bytes maxL rt T' (locs ++ L) (cells + rm.cells) (slots + rm.slots) T'.heap → Q' v T'.heap → Go p e below En T' m pc' Ls (v.toList ++ rest)) (hp : pc + 3 = pc' := by rfl) : Go p e below En T m pc Ls st := by
  subst hp
  obtain ⟨cq, kq, qa, qb, qc⟩ := isOf X.hZ X.eq E
  obtain ⟨v, _, ⟨T', L', k', n'⟩, -, X', ⟨L, hq, e1, e2, e3⟩, st'⟩ := X.sd.virtualBack X.hx (y := y) (z := z) X.hown (mvT X.hZ wl) (mvT X.hZ wd) nf (mvT X.hZ wf) (mvT X.hZ wm) hy (X.back (W := W) ct wc wz hf hl) qa qc (g := mkF m pc Ls st) rfl (hsz.trans X.hml.symm) (Steps.refl _) (argsL := argsL) (rest := rest) (lenOf pd hlen) hst (by simpa using hW) (hb X.hby hd) (fun _ _ => ⟨rfl, X.eq, hce, hsl⟩)
  dsimp only [Pt.U, Pt.locs, Pt.cells, Pt.slots] at X' e1 e2 e3 st' hq
  subst e1 e2 e3
  exact Go.step (fun _ hr => Steps.trans st' hr) (k T' v L (X.mk' X' rfl (X.fr.app hq.1) hq.2.1) hq.2.2)
theorem Go.callVP (X : Cx p l e R s m args below meth c Z own nm bytes maxL rt T locs cells slots h) (pc' : Nat) {idx : Nat} {y z : MethodName} {C : String} {by' : ByteArray} {ml' : Nat} {rt' : Option FieldType} {rm : Room} {ps : List FieldType} {rr : Option FieldType} {a : Addr} {v : Value} (argsL rest : List Value) (W : Nat) (wl : (Jvm.Cond.methodLink own idx y).before a0 Z = true) (wd : (Jvm.Cond.declares y).before a0 Z = true) (wf : (Jvm.Cond.selects C y z).before a0 Z = true) (nf : NotFace s y) (wm : (Jvm.Cond.instanceMethod z).before a0 Z = true) (wz : (Jvm.Cond.initialized z.cls).before a0 Z = true) (hy : y.cls ≠ "java/lang/invoke/MethodHandle" ∧ y.cls ≠ "java/lang/invoke/VarHandle") (E : Exa Z h a C) (wc : (Jvm.Cond.code z by' ml' rt').before a0 Z = true) (pd : parseMethodDescriptor y.desc = some ⟨ps, rr⟩) (hd : decode bytes pc = .ok (.invokevirtual idx, 3)) (ct : Ct l Z [] z by' ml' rt' rm ((Value.ref a :: argsL).toArray) h (Pu h v)) (hlen : argsL.length = ps.length) (hst : st = argsL.reverse ++ .ref a :: rest) (hsz : Ls.size = maxL) (hW : (rest.map fun v => v.category).sum ≤ W) (hf : rm.frames + 1 ≤ R.frames) (hl : W + (ml' + 11) + rm.locals ≤ R.locals) (hce : cells + rm.cells ≤ R.cells) (hsl : slots + rm.slots ≤ R.slots)
    (k : ∀ T' L, Cx p l e R s m args below meth c Z own nm bytes maxL rt T' (locs ++ L) (cells + rm.cells) (slots + rm.slots) h → Go p e below En T' m pc' Ls (v :: rest)) (hp : pc + 3 = pc' := by rfl) : Go p e below En T m pc Ls st :=
  Go.callV X pc' argsL rest W wl wd wf nf wm wz hy E wc pd hd ct hlen hst hsz hW hf hl hce hsl (fun T' v' L X' q => by
    obtain ⟨rfl, q2⟩ := q
    rw [q2] at X'
    exact k T' L X') hp
theorem Go.callU (X : Cx p l e R s m args below meth c Z own nm bytes maxL rt T locs cells slots h) (pc' : Nat) {idx : Nat} {y z : MethodName} {C owner : String} {by' : ByteArray} {ml' : Nat} {rt' : Option FieldType} {rm : Room} {ps : List FieldType} {rr : Option FieldType} {a : Addr} {Q' : Option Value → Heap → Prop} (argsL rest : List Value) (W : Nat) (wl : (Jvm.Cond.methodLink own idx y).before a0 Z = true) (wsm : (Jvm.Cond.sameMethod y.cls owner y.name y.desc).before a0 Z = true) (wd : (Jvm.Cond.declares ⟨owner, y.name, y.desc⟩).before a0 Z = true) (wf : (Jvm.Cond.selects C y z).before a0 Z = true) (wm : (Jvm.Cond.instanceMethod z).before a0 Z = true) (wz : (Jvm.Cond.initialized z.cls).before a0 Z = true) (hy : owner ≠ "java/lang/invoke/MethodHandle" ∧ owner ≠ "java/lang/invoke/VarHandle") (E : Exa Z h a C) (wc : (Jvm.Cond.code z by' ml' rt').before a0 Z = true) (pd : parseMethodDescriptor y.desc = some ⟨ps, rr⟩) (hd : decode bytes pc = .ok (.invokevirtual idx, 3)) (ct : Ct l Z [] z by' ml' rt' rm ((Value.ref a :: argsL).toArray) h Q') (hlen : argsL.length = ps.length) (hst : st = argsL.reverse ++ .ref a :: rest) (hsz : Ls.size = maxL) (hW : (rest.map fun v => v.category).sum ≤ W) (hf : rm.frames + 1 ≤ R.frames) (hl : W + (ml' + 11) + rm.locals ≤ R.locals) (hce : cells + rm.cells ≤ R.cells) (hsl : slots + rm.slots ≤ R.slots)
    (k : ∀ T' v L, Cx p l e R s m args below meth c Z own nm bytes maxL rt T' (locs ++ L) (cells + rm.cells) (slots + rm.slots) T'.heap → Q' v T'.heap → Go p e below En T' m pc' Ls (v.toList ++ rest)) (hp : pc + 3 = pc' := by rfl) : Go p e below En T m pc Ls st := by
  subst hp
  obtain ⟨cq, kq, qa, qb, qc⟩ := isOf X.hZ X.eq E
  obtain ⟨v, _, ⟨T', L', k', n'⟩, -, X', ⟨L, hq, e1, e2, e3⟩, st'⟩ := X.sd.virtualBackUp X.hx (x := y) (y := z) X.hown (mvT X.hZ wl) (mvT X.hZ wsm) (mvT X.hZ wd) hy (mvT X.hZ wf) (mvT X.hZ wm) (X.back (W := W) ct wc wz hf hl) qa qc (g := mkF m pc Ls st) rfl (hsz.trans X.hml.symm) (Steps.refl _) (argsL := argsL) (rest := rest) (lenOf pd hlen) hst (by simpa using hW) (hb X.hby hd) (fun _ _ => ⟨rfl, X.eq, hce, hsl⟩)
  dsimp only [Pt.U, Pt.locs, Pt.cells, Pt.slots] at X' e1 e2 e3 st' hq
  subst e1 e2 e3
  exact Go.step (fun _ hr => Steps.trans st' hr) (k T' v L (X.mk' X' rfl (X.fr.app hq.1) hq.2.1) hq.2.2)
theorem Go.callUP (X : Cx p l e R s m args below meth c Z own nm bytes maxL rt T locs cells slots h) (pc' : Nat) {idx : Nat} {y z : MethodName} {C owner : String} {by' : ByteArray} {ml' : Nat} {rt' : Option FieldType} {rm : Room} {ps : List FieldType} {rr : Option FieldType} {a : Addr} {v : Value} (argsL rest : List Value) (W : Nat) (wl : (Jvm.Cond.methodLink own idx y).before a0 Z = true) (wsm : (Jvm.Cond.sameMethod y.cls owner y.name y.desc).before a0 Z = true) (wd : (Jvm.Cond.declares ⟨owner, y.name, y.desc⟩).before a0 Z = true) (wf : (Jvm.Cond.selects C y z).before a0 Z = true) (wm : (Jvm.Cond.instanceMethod z).before a0 Z = true) (wz : (Jvm.Cond.initialized z.cls).before a0 Z = true) (hy : owner ≠ "java/lang/invoke/MethodHandle" ∧ owner ≠ "java/lang/invoke/VarHandle") (E : Exa Z h a C) (wc : (Jvm.Cond.code z by' ml' rt').before a0 Z = true) (pd : parseMethodDescriptor y.desc = some ⟨ps, rr⟩) (hd : decode bytes pc = .ok (.invokevirtual idx, 3)) (ct : Ct l Z [] z by' ml' rt' rm ((Value.ref a :: argsL).toArray) h (Pu h v)) (hlen : argsL.length = ps.length) (hst : st = argsL.reverse ++ .ref a :: rest) (hsz : Ls.size = maxL) (hW : (rest.map fun v => v.category).sum ≤ W) (hf : rm.frames + 1 ≤ R.frames) (hl : W + (ml' + 11) + rm.locals ≤ R.locals) (hce : cells + rm.cells ≤ R.cells) (hsl : slots + rm.slots ≤ R.slots)
    (k : ∀ T' L, Cx p l e R s m args below meth c Z own nm bytes maxL rt T' (locs ++ L) (cells + rm.cells) (slots + rm.slots) h → Go p e below En T' m pc' Ls (v :: rest)) (hp : pc + 3 = pc' := by rfl) : Go p e below En T m pc Ls st :=
  Go.callU X pc' argsL rest W wl wsm wd wf wm wz hy E wc pd hd ct hlen hst hsz hW hf hl hce hsl (fun T' v' L X' q => by
    obtain ⟨rfl, q2⟩ := q
    rw [q2] at X'
    exact k T' L X') hp
theorem Cx.more {cells' slots' : Nat} (X : Cx p l e R s m args below meth c Z own nm bytes maxL rt T locs cells slots h) (q : cells ≤ cells' := by decide) (r : slots ≤ slots' := by decide) : Cx p l e R s m args below meth c Z own nm bytes maxL rt T locs cells' slots' h := X.mk' (X.sd.more q r) X.eq X.fr X.old
theorem Go.join (X : Cx p l e R s m args below meth c Z own nm bytes maxL rt T locs cells slots h) {α : Type} (P : α → Heap → Prop) (pc1 : Nat) (Ls1 : α → Array Slot) (st1 : α → List Value) (c1 s1 : Nat)
    (tail : ∀ T' locs' h' a, Cx p l e R s m args below meth c Z own nm bytes maxL rt T' locs' c1 s1 h' → P a h' → Go p e below En T' m pc1 (Ls1 a) (st1 a))
    (heads : (∀ T' locs' h' a, Cx p l e R s m args below meth c Z own nm bytes maxL rt T' locs' c1 s1 h' → P a h' → Go p e below En T' m pc1 (Ls1 a) (st1 a)) → Go p e below En T m pc Ls st) : Go p e below En T m pc Ls st := heads tail
end Kit

section Ankit
variable {p : Program} {l : Launch} {e : Env} {R : Room} {s : State} {m : MethodId} {args : Array Value} {below : List Frame} {meth : Method} {c : Code} {T : State} {locs : List Loc} {cells slots : Nat} {Z : State} {a0 : Array Value} {h h' : Heap} {own nm : String} {bytes : ByteArray} {maxL : Nat} {rt : Option FieldType} {En : Option Value → State → Prop} {pc : Nat} {Ls : Array Slot} {st : List Value}
theorem n_int {n : Nat} (hn : n < 2147483648) : (Int32.ofNat n).toInt = n := len_toInt hn
theorem n_succ (i : Nat) : Int32.ofNat i + 1 = Int32.ofNat (i + 1) := by rw [Int32.ofNat_add]; rfl
theorem n_lt {i n : Nat} (hi : i < n) (hn : n < 2147483648) : Int32.ofNat i < Int32.ofNat n := by rw [Int32.lt_iff_toInt_lt, n_int hn, n_int (by omega)]; omega
theorem n_nlt {i n : Nat} (hi : n ≤ i) (hn : i < 2147483648) : ¬ Int32.ofNat i < Int32.ofNat n := by rw [Int32.lt_iff_toInt_lt, n_int hn, n_int (by omega)]; omega
theorem n_nn {n : Nat} (hn : n < 2147483648) : ¬ Int32.ofNat n < 0 := by rw [Int32.lt_iff_toInt_lt, n_int hn]; simp
theorem n_cl {n : Nat} (hn : n < 2147483648) : (Int32.ofNat n).toNatClampNeg = n := by simp [Int32.toNatClampNeg, n_int hn]
theorem n_inj {i n : Nat} (hi : i < 2147483648) (hn : n < 2147483648) (q : Int32.ofNat i = Int32.ofNat n) : i = n := by
  have := congrArg Int32.toInt q
  rw [n_int hi, n_int hn] at this
  omega
theorem n_b (x : Int32) : x.toInt8.toInt32.toInt8.toInt32 = x.toInt8.toInt32 := by simp
theorem n_nb (x : Int32) : nar .byte x.toInt8.toInt32 = x.toInt8.toInt32 := n_b x
/-- an array of n ints (bytes, chars ..) that holds f 0, f 1, .. -/
def An (Z : State) (h : Heap) (a : Addr) (ty : FieldType) (n : Nat) (f : Nat → Int32) : Prop := n < 2147483648 ∧ ∃ k vs d, Arv Z h a k ty (Int32.ofNat n) vs d ∧ vs.length = n ∧ ∀ j, j < n → vs.getD j d = Value.int (f j)
def upd (f : Nat → Int32) (i : Nat) (x : Int32) : Nat → Int32 := fun j => if j = i then x else f j
variable {a b : Addr} {ty : FieldType} {n : Nat} {f g : Nat → Int32}
theorem An.len (A : An Z h a ty n f) : n < 2147483648 := A.1
theorem An.lt (A : An Z h a ty n f) : a < h.size := by obtain ⟨-, k, vs, d, V, -⟩ := A; exact V.lt
theorem An.ext (A : An Z h a ty n f) (E : Ext h h') : An Z h' a ty n f := by obtain ⟨q, k, vs, d, V, r⟩ := A; exact ⟨q, k, vs, d, V.ext E, r⟩
theorem An.other {i : Nat} {x : Value} (A : An Z h b ty n f) (W : Wr h h' a i x) (q : b ≠ a) : An Z h' b ty n f := by obtain ⟨q0, k, vs, d, V, r⟩ := A; exact ⟨q0, k, vs, d, V.other W q, r⟩
theorem An.keep {ws : List Addr} (A : An Z h a ty n f) (K : Keep h h' ws) (q : a ∉ ws) : An Z h' a ty n f := by obtain ⟨q0, k, vs, d, V, r⟩ := A; exact ⟨q0, k, vs, d, V.keep K q, r⟩
theorem An.congr (A : An Z h a ty n f) (q : ∀ j, j < n → f j = g j) : An Z h a ty n g := by obtain ⟨q0, k, vs, d, V, r1, r2⟩ := A; exact ⟨q0, k, vs, d, V, r1, fun j hj => by rw [r2 j hj, q j hj]⟩
theorem An.new {k : ClassId} (V : Arv Z h a k ty (Int32.ofNat n) [] (.int 0)) (hn : n < 2147483648) : An Z h a ty n (fun _ => 0) := by
  refine ⟨hn, k, List.replicate n (.int 0), .int 0, V.pad (pad_rep [] (.int 0) n), by simp, fun j hj => ?_⟩
  rw [List.getD_eq_getElem?_getD, List.getElem?_replicate]
  simp [hj]
theorem An.inb (A : An Z h a ty n f) {i : Nat} (hi : i < n) : ¬ Int32.ofNat i < 0 ∧ Int32.ofNat i < Int32.ofNat n := ⟨n_nn (Nat.lt_trans hi A.1), n_lt hi A.1⟩
theorem An.sets {k : ClassId} {vs : List Value} {d : Value} {i : Nat} {x : Int32} (V : Arv Z h a k ty (Int32.ofNat n) (vs.set i (.int x)) d) (hn : n < 2147483648) (hl : vs.length = n) (hi : i < n) (r : ∀ j, j < n → vs.getD j d = Value.int (f j)) : An Z h a ty n (upd f i x) := by
  refine ⟨hn, k, vs.set i (.int x), d, V, by simp [hl], fun j hj => ?_⟩
  unfold upd
  rw [List.getD_eq_getElem?_getD]
  by_cases q : j = i
  · subst q
    rw [List.getElem?_set_self (by omega), if_pos rfl]; rfl
  · rw [List.getElem?_set_ne (Ne.symm q), if_neg q, ← List.getD_eq_getElem?_getD]; exact r j hj
theorem Go.alenN (X : Cx p l e R s m args below meth c Z own nm bytes maxL rt T locs cells slots h) (pc' : Nat) (A : An Z h a ty n f) (hd : decode bytes pc = .ok (.arraylength, 1)) (k : Go p e below En T m pc' Ls (.int (Int32.ofNat n) :: st)) (hp : pc + 1 = pc' := by rfl) : Go p e below En T m pc Ls (.ref a :: st) := by
  obtain ⟨q, kA, vs, d, V, r1, r2⟩ := A
  exact Go.alen X pc' V hd k hp
theorem Go.caN (X : Cx p l e R s m args below meth c Z own nm bytes maxL rt T locs cells slots h) (pc' : Nat) (A : An Z h a .char n f) (i : Nat) (hi : i < n) (hd : decode bytes pc = .ok (.caload, 1)) (k : Go p e below En T m pc' Ls (.int (f i) :: st)) (hp : pc + 1 = pc' := by rfl) : Go p e below En T m pc Ls (.int (Int32.ofNat i) :: .ref a :: st) := by
  have hj := A.inb hi
  obtain ⟨q, kA, vs, d, V, r1, r2⟩ := A
  exact Go.caload X pc' V hd hj (by rw [n_cl (Nat.lt_trans hi q)]; exact r2 i hi) k hp
theorem Go.baN (X : Cx p l e R s m args below meth c Z own nm bytes maxL rt T locs cells slots h) (pc' : Nat) (A : An Z h a .byte n f) (i : Nat) (hi : i < n) (hd : decode bytes pc = .ok (.baload, 1)) (k : Go p e below En T m pc' Ls (.int (f i) :: st)) (hp : pc + 1 = pc' := by rfl) : Go p e below En T m pc Ls (.int (Int32.ofNat i) :: .ref a :: st) := by
  have hj := A.inb hi
  obtain ⟨q, kA, vs, d, V, r1, r2⟩ := A
  exact Go.baload X pc' V hd hj (by rw [n_cl (Nat.lt_trans hi q)]; exact r2 i hi) k hp
theorem Go.stCN (X : Cx p l e R s m args below meth c Z own nm bytes maxL rt T locs cells slots h) (pc' : Nat) {x : Int32} (A : An Z h a .char n f) (i : Nat) (hi : i < n) (hd : decode bytes pc = .ok (.castore, 1)) (ha : Z.heap.size ≤ a)
    (k : ∀ T' h' w, Cx p l e R s m args below meth c Z own nm bytes maxL rt T' (locs ++ [⟨a, w⟩]) cells slots h' → Wr h h' a w (.int (nar .char x)) → An Z h' a .char n (upd f i (nar .char x)) → Go p e below En T' m pc' Ls st) (hp : pc + 1 = pc' := by rfl) : Go p e below En T m pc Ls (.int x :: .int (Int32.ofNat i) :: .ref a :: st) := by
  have hj := A.inb hi
  obtain ⟨q, kA, vs, d, V, r1, r2⟩ := A
  exact Go.stC X pc' V hd hj i (n_cl (Nat.lt_trans hi q)) (by omega) ha (fun T' h' X' W V' => k T' h' _ X' W (An.sets V' q r1 hi r2)) hp
theorem Go.stBN (X : Cx p l e R s m args below meth c Z own nm bytes maxL rt T locs cells slots h) (pc' : Nat) {x : Int32} (A : An Z h a .byte n f) (i : Nat) (hi : i < n) (hd : decode bytes pc = .ok (.bastore, 1)) (ha : Z.heap.size ≤ a)
    (k : ∀ T' h' w, Cx p l e R s m args below meth c Z own nm bytes maxL rt T' (locs ++ [⟨a, w⟩]) cells slots h' → Wr h h' a w (.int (nar .byte x)) → An Z h' a .byte n (upd f i (nar .byte x)) → Go p e below En T' m pc' Ls st) (hp : pc + 1 = pc' := by rfl) : Go p e below En T m pc Ls (.int x :: .int (Int32.ofNat i) :: .ref a :: st) := by
  have hj := A.inb hi
  obtain ⟨q, kA, vs, d, V, r1, r2⟩ := A
  exact Go.stB X pc' V hd hj i (n_cl (Nat.lt_trans hi q)) (by omega) ha (fun T' h' X' W V' => k T' h' _ X' W (An.sets V' q r1 hi r2)) hp
theorem Go.newC (X : Cx p l e R s m args below meth c Z own nm bytes maxL rt T locs cells slots h) (pc' : Nat) (w : (Jvm.Cond.arrayClass .char).before a0 Z = true) (hd : decode bytes pc = .ok (.newarray .char, 2)) (cap : Nat) (hcap : n ≤ cap) (hcp : cap ≤ 67108864) (hc : cells + 1 ≤ R.cells) (hl : slots + cap ≤ R.slots)
    (k : ∀ T' h' a, Cx p l e R s m args below meth c Z own nm bytes maxL rt T' locs (cells + 1) (slots + cap) h' → Ext h h' → h.size = a → An Z h' a .char n (fun _ => 0) → Go p e below En T' m pc' Ls (.ref a :: st)) (hp : pc + 2 = pc' := by rfl) : Go p e below En T m pc Ls (.int (Int32.ofNat n) :: st) := by
  have hn : n < 2147483648 := by omega
  exact Go.newP X pc' (aty := .char) w hd cap (n_nn hn) (by rw [n_cl hn]; exact hcap) (by omega) hc hl (fun T' h' a kA X' E q V => k T' h' a X' E q (An.new V hn)) hp
theorem Go.newB (X : Cx p l e R s m args below meth c Z own nm bytes maxL rt T locs cells slots h) (pc' : Nat) (w : (Jvm.Cond.arrayClass .byte).before a0 Z = true) (hd : decode bytes pc = .ok (.newarray .byte, 2)) (cap : Nat) (hcap : n ≤ cap) (hcp : cap ≤ 67108864) (hc : cells + 1 ≤ R.cells) (hl : slots + cap ≤ R.slots)
    (k : ∀ T' h' a, Cx p l e R s m args below meth c Z own nm bytes maxL rt T' locs (cells + 1) (slots + cap) h' → Ext h h' → h.size = a → An Z h' a .byte n (fun _ => 0) → Go p e below En T' m pc' Ls (.ref a :: st)) (hp : pc + 2 = pc' := by rfl) : Go p e below En T m pc Ls (.int (Int32.ofNat n) :: st) := by
  have hn : n < 2147483648 := by omega
  exact Go.newP X pc' (aty := .byte) w hd cap (n_nn hn) (by rw [n_cl hn]; exact hcap) (by omega) hc hl (fun T' h' a kA X' E q V => k T' h' a X' E q (An.new V hn)) hp
end Ankit
section Wide
variable {p : Program} {l : Launch} {e : Env} {R : Room} {s : State} {m : MethodId} {args : Array Value} {below : List Frame} {meth : Method} {c : Code} {T : State} {locs : List Loc} {cells slots : Nat} {Z : State} {a0 : Array Value} {h h' : Heap} {own nm : String} {bytes : ByteArray} {maxL : Nat} {rt : Option FieldType} {Q : Option Value → Heap → Prop} {ce sl : Nat} {En : Option Value → State → Prop} {pc : Nat} {Ls : Array Slot} {st : List Value} {vm0 : Vm} {EL : List (String × Nat)}
/-- the tables vm0 since the start s -/
def WS (s : State) (vm0 : Vm) (h : Heap) : Prop := ∃ k0, s.Since vm0 k0 ∧ k0 ≤ h.size
theorem WS.le (q : h.size ≤ h'.size) (H : WS s vm0 h) : WS s vm0 h' := by obtain ⟨k, k1, k2⟩ := H; exact ⟨k, k1, Nat.le_trans k2 q⟩
def FinW (s Z : State) (EL : List (String × Nat)) (Q : Option Value → Heap → Prop) (ce sl : Nat) : Option Value → State → Prop := fun v t => ∃ L, (Fr Z.heap.size L ∧ Ext Z.heap t.heap ∧ Q v t.heap) ∧ CHr Z EL s.vm s.heap t.vm t.heap ∧ ReturnedEndW s (.returned v) t L ce sl
def FinL (s Z : State) (Q : Option Value → Heap → Prop) (ce sl : Nat) : Option Value → State → Prop := fun v t => ∃ L, (Fr Z.heap.size L ∧ Ext Z.heap t.heap ∧ Q v t.heap) ∧ ReturnedEndW s (.returned v) t L ce sl
def CtW (l : Launch) (Z : State) (EL : List (String × Nat)) (ws : List Jvm.Cond) (y : MethodName) (bytes : ByteArray) (maxL : Nat) (rt : Option FieldType) (rm : Room) (as' : Array Value) (h : Heap) (Q : Option Value → Heap → Prop) : Prop :=
  Ext Z.heap h → MetFree l y (head1 (Jvm.Cond.code y bytes maxL rt :: ws) rm) (fun a U => a = as' ∧ Z.Warmed39 U.vm ∧ U.heap = h ∧ CHv Z EL U.vm h) (fun _ _ _ _ _ => True) (fun _ U o U' => ∃ v L, o = .returned v ∧ (Fr Z.heap.size L ∧ Ext Z.heap U'.heap ∧ Q v U'.heap) ∧ CHr Z EL U.vm U.heap U'.vm U'.heap ∧ ReturnedEndW U o U' L rm.cells rm.slots)
/-- the law's own contract: at its start the constants' words hold -/
def CtL (l : Launch) (Z : State) (EL : List (String × Nat)) (ws : List Jvm.Cond) (y : MethodName) (bytes : ByteArray) (maxL : Nat) (rt : Option FieldType) (rm : Room) (as' : Array Value) (h : Heap) (Q : Option Value → Heap → Prop) : Prop :=
  Ext Z.heap h → MetFree l y (head1 (Jvm.Cond.code y bytes maxL rt :: ws) rm) (fun a U => a = as' ∧ Z.Warmed39 U.vm ∧ U.heap = h ∧ CHv Z EL U.vm h) (fun _ _ _ _ _ => True) (fun _ U o U' => ∃ v L, o = .returned v ∧ (Fr Z.heap.size L ∧ Ext Z.heap U'.heap ∧ Q v U'.heap) ∧ ReturnedEndW U o U' L rm.cells rm.slots)
theorem CtW.of {y : MethodName} {ws : List Jvm.Cond} {rm : Room} {as' : Array Value} {Ls0 : Array Slot} (pn : plainName y.cls = true) (ef : ∀ m, entryFrame m as' maxL = mkF m 0 Ls0 [])
    (body : ∀ p e s m below meth c s₁, Cx p l e rm (s.setVm s.vm) m as' below meth c Z y.cls y.name bytes maxL rt s₁ [] 0 0 h → WS s s.vm h → CHr Z EL s.vm s.heap s.vm h → Go p e below (FinW s Z EL Q rm.cells rm.slots) s₁ m 0 Ls0 []) : CtW l Z EL ws y bytes maxL rt rm as' h Q := by
  intro hE
  refine MetFree.of_bodySF (plainFor_of_name pn) hisR ?_
  intro p e s m args below meth c s₁ Bd hml0 hP hK
  obtain ⟨rfl, hZ, hh, hC⟩ := hP
  have hown : s.vm.findClass y.cls = some m.cls := findClass_of_methodNamed Bd.named
  have hnm := (name_of_methodNamed Bd.named Bd.method).1
  have X0 : Stand p l e rm s m args below meth c s₁ [] 0 0 := Stand.of_body Bd
  have e0 : s₁.heap = h := by rw [← hh, Bd.state]; rfl
  obtain ⟨s₂, v, k1, k2, k3, L, k5, k6, k7⟩ := body p e s m below meth c s₁ ⟨X0, Bd.exec, hZ, hown, Bd.bytes, hml0, Bd.returns, hnm, Bd.notSynchronized, e0, Fr.nil _, hE⟩ ⟨0, (State.WarmedH.refl s).since 0, Nat.zero_le _⟩ (by rw [hh]; exact CHr.refl hC)
  exact ⟨s₂, _, castTop (ef m) k1, k2, k3, v, L, rfl, k5, k6, k7⟩
theorem CtL.of {y : MethodName} {ws : List Jvm.Cond} {rm : Room} {as' : Array Value} {Ls0 : Array Slot} (pn : plainName y.cls = true) (ef : ∀ m, entryFrame m as' maxL = mkF m 0 Ls0 [])
    (body : ∀ p e s m below meth c s₁, Cx p l e rm (s.setVm s.vm) m as' below meth c Z y.cls y.name bytes maxL rt s₁ [] 0 0 h → WS s s.vm h → CHv Z EL s.vm h → Go p e below (FinL s Z Q rm.cells rm.slots) s₁ m 0 Ls0 []) : CtL l Z EL ws y bytes maxL rt rm as' h Q := by
  intro hE
  refine MetFree.of_bodySF (plainFor_of_name pn) hisR ?_
  intro p e s m args below meth c s₁ Bd hml0 hP hK
  obtain ⟨rfl, hZ, hh, hC⟩ := hP
  have hown : s.vm.findClass y.cls = some m.cls := findClass_of_methodNamed Bd.named
  have hnm := (name_of_methodNamed Bd.named Bd.method).1
  have X0 : Stand p l e rm s m args below meth c s₁ [] 0 0 := Stand.of_body Bd
  have e0 : s₁.heap = h := by rw [← hh, Bd.state]; rfl
  obtain ⟨s₂, v, k1, k2, k3, L, k5, k6⟩ := body p e s m below meth c s₁ ⟨X0, Bd.exec, hZ, hown, Bd.bytes, hml0, Bd.returns, hnm, Bd.notSynchronized, e0, Fr.nil _, hE⟩ ⟨0, (State.WarmedH.refl s).since 0, Nat.zero_le _⟩ hC
  exact ⟨s₂, _, castTop (ef m) k1, k2, k3, v, L, rfl, k5, k6⟩
theorem Cx.finL (X : Cx p l e R (s.setVm vm0) m args below meth c Z own nm bytes maxL rt T locs cells slots h) (hS : WS s vm0 h) {v : Option Value} (hQ : Q v h) (hc : cells ≤ ce) (hs : slots ≤ sl) (hv : rt = none → v = none := by (intro q; first | rfl | (cases q; done))) : Lv e below (FinL s Z Q ce sl) T m v := by
  have hlk := X.hlk
  obtain ⟨k0, hk1, hk2⟩ := hS
  obtain ⟨fs, hr, hrun, hended, r1, r2, r3, r4⟩ := X.sd.leaveW hk1 (by rw [X.eq]; exact hk2) (v := v) (fun q => hv (X.hrt ▸ q)) hlk
  have q : (T.setFrames fs).heap = h := X.eq
  exact ⟨fs, hr, hrun, hended, locs, ⟨X.fr, by rw [q]; exact X.old, by rw [q]; exact hQ⟩, r1, r2, r3, r4.mono hc hs⟩
theorem Cx.finW (X : Cx p l e R (s.setVm vm0) m args below meth c Z own nm bytes maxL rt T locs cells slots h) (hEL : EW Z a0 EL) (hS : WS s vm0 h) (H : CHr Z EL s.vm s.heap vm0 h) {v : Option Value} (hQ : Q v h) (hc : cells ≤ ce) (hs : slots ≤ sl) (hv : rt = none → v = none := by (intro q; first | rfl | (cases q; done))) : Lv e below (FinW s Z EL Q ce sl) T m v := by
  have hlk := X.hlk
  obtain ⟨k0, hk1, hk2⟩ := hS
  obtain ⟨fs, hr, hrun, hended, r1, r2, r3, r4⟩ := X.sd.leaveW hk1 (by rw [X.eq]; exact hk2) (v := v) (fun q => hv (X.hrt ▸ q)) hlk
  have q : (T.setFrames fs).heap = h := X.eq
  have hAt : CHr Z EL vm0 h T.vm h := CHv.at X.sd X.hZ hEL H.1
  exact ⟨fs, hr, hrun, hended, locs, ⟨X.fr, by rw [q]; exact X.old, by rw [q]; exact hQ⟩, by rw [q]; exact H.trans hAt, r1, r2, r3, r4.mono hc hs⟩
theorem Cx.backW (X : Cx p l e R (s.setVm vm0) m args below meth c Z own nm bytes maxL rt T locs cells slots h) {y : MethodName} {by' : ByteArray} {ml' : Nat} {rt' : Option FieldType} {rm : Room} {as' : Array Value} {Q' : Option Value → Heap → Prop} {len W : Nat} (hEL : EW Z a0 EL) (H : CHv Z EL vm0 h) (ct : CtW l Z EL [] y by' ml' rt' rm as' h Q') (wc : (Jvm.Cond.code y by' ml' rt').before a0 Z = true) (wz : (Jvm.Cond.initialized y.cls).before a0 Z = true) (hf : rm.frames + 1 ≤ R.frames) (hl : W + (ml' + 11) + rm.locals ≤ R.locals) :
    BackS l R p e below (s.setVm vm0) args y len W (fun A a => a = as' ∧ A.U.heap = h ∧ A.cells + rm.cells ≤ R.cells ∧ A.slots + rm.slots ≤ R.slots) (fun A _ v B => ∃ L, (Fr Z.heap.size L ∧ Ext Z.heap B.U.heap ∧ Q' v B.U.heap) ∧ B.locs = A.locs ++ L ∧ B.cells = A.cells + rm.cells ∧ B.slots = A.slots + rm.slots ∧ CHr Z EL vm0 h B.U.vm B.U.heap) :=
  backOfSH (Q := fun v hh L => Fr Z.heap.size L ∧ Ext Z.heap hh ∧ Q' v hh) (ct X.old) X.hZ wc wz hf hl hEL H
theorem Go.ldcW (X : Cx p l e R (s.setVm vm0) m args below meth c Z own nm bytes maxL rt T locs cells slots h) (pc' : Nat) {idx : Nat} {text : String} (hEL : EW Z a0 EL) (hS : WS s vm0 h) (H : CHv Z EL vm0 h) (w : (Jvm.Cond.stringLink own idx text).before a0 Z = true) (wS : ∀ a ∈ Bundle.stringAtoms, a.before a0 Z = true) (hmem : (own, idx) ∈ EL) {vs : List Value} {z : Int32} (ht : (∀ c ∈ text.toList, c.toNat < 256) ∧ text.toList.map (fun c => Value.int (Jvm.Lit.byteI c.toNat.toUInt16)) = vs) (hz : ¬ z < 0) (hl : z.toNatClampNeg = vs.length) (hd : decode bytes pc = .ok (.ldc idx, 2)) {n : Nat} (hn : 4 * text.toList.length ≤ n) (hbig : n ≤ 536870912) (hc : cells + 2 ≤ R.cells) (hl' : slots + (n + 4) ≤ R.slots)
    (k : ∀ T' h' vm1 a b kA, Cx p l e R (s.setVm vm1) m args below meth c Z own nm bytes maxL rt T' locs (cells + 2) (slots + (n + 4)) h' → WS s vm1 h' → Ext h h' → CHr Z EL vm0 h vm1 h' → Exa Z h' a "java/lang/String" → Fld Z h' a "java/lang/String" "coder" "B" (.int 0) → Fld Z h' a "java/lang/String" "value" "[B" (.ref b) → Arv Z h' b kA .byte z vs (.int 0) → (∀ x, Safe Z EL vm1 h' x → x ≠ a ∧ x ≠ b) → Go p e below En T' m pc' Ls (.ref a :: st)) (hp : pc + 2 = pc' := by rfl) : Go p e below En T m pc Ls st := by
  subst hp
  obtain ⟨k0, hk1, hk2⟩ := hS
  obtain ⟨a, T', h', k1, b, kA, Y, e', E, y1, y2, y3, y4, r1, r2, r3, r4, -, -, r5, -, r6, st'⟩ := ldcCH X.sd X.hx X.hZ X.hown w wS X.eq hk1 hk2 hEL hmem H ht hz hl (g := mkF m pc Ls st) rfl (hb X.hby hd) hn hbig hc hl'
  exact Go.step st' (k T' h' T'.vm a b kA ⟨Y, X.hx, y3, y4, X.hby, X.hml, X.hrt, X.hnm, X.hlk, e', X.fr, Ext.tr X.old E⟩ ⟨_, y1, y2⟩ E r5 r1 r2 r3 r4 r6)
theorem Go.callIW (X : Cx p l e R (s.setVm vm0) m args below meth c Z own nm bytes maxL rt T locs cells slots h) (pc' : Nat) {idx : Nat} {y : MethodName} {by' : ByteArray} {ml' : Nat} {rt' : Option FieldType} {rm : Room} {ps : List FieldType} {rr : Option FieldType} {a : Addr} {Q' : Option Value → Heap → Prop} (hEL : EW Z a0 EL) (hS : WS s vm0 h) (H : CHv Z EL vm0 h) (argsL rest : List Value) (W : Nat) (hy1 : y.name = "<init>") (wl : (Jvm.Cond.methodLink own idx y).before a0 Z = true) (wm : (Jvm.Cond.instanceMethod y).before a0 Z = true) (wz : (Jvm.Cond.initialized y.cls).before a0 Z = true) (hy : y.cls ≠ "java/lang/invoke/MethodHandle" ∧ y.cls ≠ "java/lang/invoke/VarHandle") (hrn : rt' = none) (wc : (Jvm.Cond.code y by' ml' rt').before a0 Z = true) (pd : parseMethodDescriptor y.desc = some ⟨ps, rr⟩) (hd : decode bytes pc = .ok (.invokespecial idx, 3)) (ct : CtW l Z EL [] y by' ml' rt' rm ((Value.ref a :: argsL).toArray) h Q') (hlen : argsL.length = ps.length) (hst : st = argsL.reverse ++ .ref a :: rest) (hsz : Ls.size = maxL) (hW : (rest.map fun v => v.category).sum ≤ W) (hf : rm.frames + 1 ≤ R.frames) (hl : W + (ml' + 11) + rm.locals ≤ R.locals) (hce : cells + rm.cells ≤ R.cells) (hsl : slots + rm.slots ≤ R.slots)
    (k : ∀ T' v L vm1, Cx p l e R (s.setVm vm1) m args below meth c Z own nm bytes maxL rt T' (locs ++ L) (cells + rm.cells) (slots + rm.slots) T'.heap → WS s vm1 T'.heap → CHr Z EL vm0 h vm1 T'.heap → Q' v T'.heap → Go p e below En T' m pc' Ls (v.toList ++ rest)) (hp : pc + 3 = pc' := by rfl) : Go p e below En T m pc Ls st := by
  subst hp
  subst hrn
  obtain ⟨v, _, ⟨T', L', k', n'⟩, -, X', hS2, hg, ⟨L, hq, e1, e2, e3, hr⟩, st'⟩ := X.sd.specialBackS X.hx (y := y) hy1 X.hown (mvT X.hZ wl) (mvT X.hZ wm) (mvT X.hZ wc) hy (X.backW (W := W) hEL H ct wc wz hf hl) (g := mkF m pc Ls st) rfl (hsz.trans X.hml.symm) (Steps.refl _) (a := a) (argsL := argsL) (rest := rest) (lenOf pd hlen) hst (by simpa using hW) (hb X.hby hd) (fun _ _ => ⟨rfl, X.eq, hce, hsl⟩)
  dsimp only [Pt.U, Pt.locs, Pt.cells, Pt.slots] at X' e1 e2 e3 st' hq hg hS2 hr
  subst e1 e2 e3
  obtain ⟨k0, hk1, hk2⟩ := hS
  rw [X.eq] at hg
  obtain ⟨Y, y2, y3, y4⟩ := rebS (Z := Z) (own := own) hk1 hk2 X' hS2 hg X.hZ X.hown
  exact Go.step (fun _ hz => Steps.trans st' hz) (k T' v L T'.vm ⟨Y, X.hx, y3, y4, X.hby, X.hml, X.hrt, X.hnm, X.hlk, rfl, X.fr.app hq.1, hq.2.1⟩ ⟨_, y2, Nat.le_refl _⟩ hr hq.2.2)
theorem Go.callSW (X : Cx p l e R (s.setVm vm0) m args below meth c Z own nm bytes maxL rt T locs cells slots h) (pc' : Nat) {idx : Nat} {y : MethodName} {by' : ByteArray} {ml' : Nat} {rt' : Option FieldType} {rm : Room} {ps : List FieldType} {rr : Option FieldType} {Q' : Option Value → Heap → Prop} (hEL : EW Z a0 EL) (hS : WS s vm0 h) (H : CHv Z EL vm0 h) (argsL rest : List Value) (W : Nat) (wl : (Jvm.Cond.methodLink own idx y).before a0 Z = true) (ws : (Jvm.Cond.static y).before a0 Z = true) (wz : (Jvm.Cond.initialized y.cls).before a0 Z = true) (hy : y.cls ≠ "java/lang/invoke/MethodHandle" ∧ y.cls ≠ "java/lang/invoke/VarHandle") (wc : (Jvm.Cond.code y by' ml' rt').before a0 Z = true) (pd : parseMethodDescriptor y.desc = some ⟨ps, rr⟩) (hd : decode bytes pc = .ok (.invokestatic idx, 3)) (ct : CtW l Z EL [] y by' ml' rt' rm (argsL.toArray) h Q') (hlen : argsL.length = ps.length) (hst : st = argsL.reverse ++ rest) (hsz : Ls.size = maxL) (hW : (rest.map fun v => v.category).sum ≤ W) (hf : rm.frames + 1 ≤ R.frames) (hl : W + (ml' + 11) + rm.locals ≤ R.locals) (hce : cells + rm.cells ≤ R.cells) (hsl : slots + rm.slots ≤ R.slots)
    (k : ∀ T' v L vm1, Cx p l e R (s.setVm vm1) m args below meth c Z own nm bytes maxL rt T' (locs ++ L) (cells + rm.cells) (slots + rm.slots) T'.heap → WS s vm1 T'.heap → CHr Z EL vm0 h vm1 T'.heap → Q' v T'.heap → Go p e below En T' m pc' Ls (v.toList ++ rest)) (hp : pc + 3 = pc' := by rfl) : Go p e below En T m pc Ls st := by
  subst hp
  obtain ⟨v, _, ⟨T', L', k', n'⟩, -, X', hS2, hg, ⟨L, hq, e1, e2, e3, hr⟩, st'⟩ := callSS X.sd X.hx (y := y) X.hown (mvT X.hZ wl) (mvT X.hZ ws) (mvT X.hZ wz) (mvT X.hZ wc) hy (X.backW (W := W) hEL H ct wc wz hf hl) (g := mkF m pc Ls st) rfl (hsz.trans X.hml.symm) (argsL := argsL) (rest := rest) (lenOf pd hlen) hst (by simpa using hW) (hb X.hby hd) (fun _ _ => ⟨rfl, X.eq, hce, hsl⟩)
  dsimp only [Pt.U, Pt.locs, Pt.cells, Pt.slots] at X' e1 e2 e3 st' hq hg hS2 hr
  subst e1 e2 e3
  obtain ⟨k0, hk1, hk2⟩ := hS
  rw [X.eq] at hg
  obtain ⟨Y, y2, y3, y4⟩ := rebS (Z := Z) (own := own) hk1 hk2 X' hS2 hg X.hZ X.hown
  exact Go.step (fun _ hz => Steps.trans st' hz) (k T' v L T'.vm ⟨Y, X.hx, y3, y4, X.hby, X.hml, X.hrt, X.hnm, X.hlk, rfl, X.fr.app hq.1, hq.2.1⟩ ⟨_, y2, Nat.le_refl _⟩ hr hq.2.2)
end Wide
theorem pd_0 : parseMethodDescriptor "([CI[BII)I" = some ⟨[(.array .char), .int, (.array .byte), .int, .int], some .int⟩ := by decide +kernel
theorem pd_1 : parseMethodDescriptor "([CII)[B" = some ⟨[(.array .char), .int, .int], some (.array .byte)⟩ := by decide +kernel
theorem pd_2 : parseMethodDescriptor "([BI)B" = some ⟨[(.array .byte), .int], some .byte⟩ := by decide +kernel
theorem pd_3 : parseMethodDescriptor "([CIILjava/lang/Void;)V" = some ⟨[(.array .char), .int, .int, (.object "java/lang/Void")], none⟩ := by decide +kernel
theorem pd_4 : parseMethodDescriptor "(C)Z" = some ⟨[.char], some .boolean⟩ := by decide +kernel
theorem pd_5 : parseMethodDescriptor "(C)[B" = some ⟨[.char], some (.array .byte)⟩ := by decide +kernel
theorem pd_6 : parseMethodDescriptor "([BB)V" = some ⟨[(.array .byte), .byte], none⟩ := by decide +kernel
theorem pd_7 : parseMethodDescriptor "(Lcom/example/ripieno/ripieno/engine/Review$Verdict$Kind;Lcom/example/ripieno/ripieno/engine/ReviewDecision;ZLjava/lang/String;Ljava/lang/Throwable;)V" = some ⟨[(.object "com/example/ripieno/ripieno/engine/Review$Verdict$Kind"), (.object "com/example/ripieno/ripieno/engine/ReviewDecision"), .boolean, (.object "java/lang/String"), (.object "java/lang/Throwable")], none⟩ := by decide +kernel
theorem pd_8 : parseMethodDescriptor "(Ljava/lang/Object;)Z" = some ⟨[(.object "java/lang/Object")], some .boolean⟩ := by decide +kernel
theorem pd_9 : parseMethodDescriptor "(I)Lcom/example/ripieno/ripieno/engine/Review$Verdict$Kind;" = some ⟨[.int], some (.object "com/example/ripieno/ripieno/engine/Review$Verdict$Kind")⟩ := by decide +kernel
theorem pd_10 : parseMethodDescriptor "(Lcom/example/ripieno/ripieno/engine/Review$Verdict$Kind;Ljava/lang/String;)Lcom/example/ripieno/ripieno/engine/Review$Verdict;" = some ⟨[(.object "com/example/ripieno/ripieno/engine/Review$Verdict$Kind"), (.object "java/lang/String")], some (.object "com/example/ripieno/ripieno/engine/Review$Verdict")⟩ := by decide +kernel
theorem pd_11 : parseMethodDescriptor "()Lcom/example/ripieno/ripieno/engine/Review$Verdict$Kind;" = some ⟨[], some (.object "com/example/ripieno/ripieno/engine/Review$Verdict$Kind")⟩ := by decide +kernel
theorem pd_12 : parseMethodDescriptor "()Z" = some ⟨[], some .boolean⟩ := by decide +kernel
theorem pd_13 : parseMethodDescriptor "()Lcom/example/ripieno/ripieno/engine/ReviewDecision;" = some ⟨[], some (.object "com/example/ripieno/ripieno/engine/ReviewDecision")⟩ := by decide +kernel
theorem pd_14 : parseMethodDescriptor "()Ljava/lang/Throwable;" = some ⟨[], some (.object "java/lang/Throwable")⟩ := by decide +kernel
theorem pd_15 : parseMethodDescriptor "()Ljava/lang/String;" = some ⟨[], some (.object "java/lang/String")⟩ := by decide +kernel
theorem pd_16 : parseMethodDescriptor "(Ljava/lang/String;Ljava/lang/String;)Z" = some ⟨[(.object "java/lang/String"), (.object "java/lang/String")], some .boolean⟩ := by decide +kernel
theorem pd_17 : parseMethodDescriptor "()Lcom/example/ripieno/ripieno/engine/ExitReason;" = some ⟨[], some (.object "com/example/ripieno/ripieno/engine/ExitReason")⟩ := by decide +kernel
theorem pd_18 : parseMethodDescriptor "([C)V" = some ⟨[(.array .char)], none⟩ := by decide +kernel
theorem pd_19 : parseMethodDescriptor "(C)Ljava/lang/String;" = some ⟨[.char], some (.object "java/lang/String")⟩ := by decide +kernel
def lo8 (x : Int32) : Int32 := (x >>> ((0 : Int32) &&& 31)).toInt8.toInt32
def hi8 (x : Int32) : Int32 := (x >>> ((8 : Int32) &&& 31)).toInt8.toInt32
/-- the String at a, its bytes at t, spells the n chars f 0, f 1, .. -/
def Str (Z : State) (h : Heap) (a t : Addr) (n : Nat) (f : Nat → Int32) : Prop :=
  Exa Z h a "java/lang/String" ∧ Fld Z h a "java/lang/String" "value" "[B" (.ref t) ∧ n < 1073741823 ∧ (∀ j, j < n → 0 ≤ (f j).toInt ∧ (f j).toInt < 65536) ∧
  ((Fld Z h a "java/lang/String" "coder" "B" (.int 0) ∧ ∃ g, An Z h t .byte n g ∧ ∀ j, j < n → ¬ 255 < f j ∧ g j = (f j).toInt8.toInt32) ∨
   (Fld Z h a "java/lang/String" "coder" "B" (.int 1) ∧ (∃ j, j < n ∧ 255 < f j) ∧ ∃ g, An Z h t .byte (2 * n) g ∧ ∀ j, j < n → g (2 * j) = lo8 (f j) ∧ g (2 * j + 1) = hi8 (f j)))
section Strings
variable {Z : State} {h h' : Heap} {a t b : Addr} {n : Nat} {f g : Nat → Int32}
theorem Str.exa (S : Str Z h a t n f) : Exa Z h a "java/lang/String" := S.1
theorem Str.lt (S : Str Z h a t n f) : a < h.size := S.1.lt
theorem Str.ltT (S : Str Z h a t n f) : t < h.size := by
  obtain ⟨-, -, -, -, ⟨-, g, A, -⟩ | ⟨-, -, g, A, -⟩⟩ := S
  · exact A.lt
  · exact A.lt
theorem Str.map (S : Str Z h a t n f) (p1 : ∀ {C}, Exa Z h a C → Exa Z h' a C) (p2 : ∀ {C m d v}, Fld Z h a C m d v → Fld Z h' a C m d v) (p3 : ∀ {k g}, An Z h t .byte k g → An Z h' t .byte k g) : Str Z h' a t n f := by
  obtain ⟨S1, S2, S3, S4, ⟨S5, g, A, G⟩ | ⟨S5, S6, g, A, G⟩⟩ := S
  · exact ⟨p1 S1, p2 S2, S3, S4, Or.inl ⟨p2 S5, g, p3 A, G⟩⟩
  · exact ⟨p1 S1, p2 S2, S3, S4, Or.inr ⟨p2 S5, S6, g, p3 A, G⟩⟩
theorem Str.ext (S : Str Z h a t n f) (E : Ext h h') : Str Z h' a t n f := S.map (fun F => F.ext E) (fun F => F.ext E) (fun F => F.ext E)
theorem Str.other {i : Nat} {v : Value} (S : Str Z h a t n f) (W : Wr h h' b i v) (q : a ≠ b) (r : t ≠ b) : Str Z h' a t n f := S.map (fun F => F.wr W) (fun F => F.other W (Or.inl q)) (fun F => F.other W r)
theorem Str.keep {ws : List Addr} (S : Str Z h a t n f) (K : Keep h h' ws) (q : a ∉ ws) (r : t ∉ ws) : Str Z h' a t n f := S.map (fun F => F.keep K) (fun F => F.keep K q) (fun F => F.keep K r)
theorem Str.lat (S : Str Z h a t n f) (hl : ∀ j, j < n → ¬ 255 < f j) : Fld Z h a "java/lang/String" "coder" "B" (.int 0) ∧ ∃ g, An Z h t .byte n g ∧ ∀ j, j < n → ¬ 255 < f j ∧ g j = (f j).toInt8.toInt32 := by
  obtain ⟨-, -, -, -, r | ⟨-, ⟨j, j1, j2⟩, -⟩⟩ := S
  · exact r
  · exact absurd j2 (hl j j1)
theorem Str.congr (S : Str Z h a t n f) (q : ∀ j, j < n → f j = g j) : Str Z h a t n g := by
  obtain ⟨S1, S2, S3, S4, ⟨S5, k, A, G⟩ | ⟨S5, ⟨j, j1, j2⟩, k, A, G⟩⟩ := S
  · exact ⟨S1, S2, S3, fun j hj => q j hj ▸ S4 j hj, Or.inl ⟨S5, k, A, fun j hj => q j hj ▸ G j hj⟩⟩
  · exact ⟨S1, S2, S3, fun j hj => q j hj ▸ S4 j hj, Or.inr ⟨S5, ⟨j, j1, q j j1 ▸ j2⟩, k, A, fun j hj => q j hj ▸ G j hj⟩⟩
theorem n_ge {x : Int32} (h : ¬ x < 0) : 0 ≤ x.toInt := by
  rw [Int32.lt_iff_toInt_lt] at h
  have e0 : (0 : Int32).toInt = 0 := by decide
  omega
/-- a char read back from its low byte -/
theorem n_low {x : Int32} (h0 : 0 ≤ x.toInt) (h1 : ¬ 255 < x) : (x.toInt8.toInt32 &&& 255) = x := by
  apply Int32.toInt_inj.mp
  have e := c_mask x.toInt8.toInt32 255 8 (by decide) (by decide)
  have b := c_i2b x
  rw [Int32.lt_iff_toInt_lt] at h1
  have e2 : (255 : Int32).toInt = 255 := by decide
  rw [e2] at h1
  rw [e]
  have : ((2 ^ 8 : Nat) : Int) = 256 := by decide
  rw [this]
  omega
theorem n_chr {x : Int32} (h0 : 0 ≤ x.toInt) (h1 : x.toInt < 65536) : x.toUInt32.toUInt16.toUInt32.toInt32 = x := by
  apply Int32.toInt_inj.mp
  have := c_i2c x
  omega
theorem n_le {x : Int32} (h : ¬ 255 < x) : x.toInt < 65536 := by
  rw [Int32.lt_iff_toInt_lt] at h
  have e : (255 : Int32).toInt = 255 := by decide
  omega
theorem n_nar {x : Int32} (h0 : 0 ≤ x.toInt) (h1 : x.toInt < 65536) : narrow .char (.int x) = .int x := by
  have := XT.narrow_c x
  rw [n_chr h0 h1] at this
  exact this
theorem n_ne0 {n : Nat} (h : 0 < n) (hn : n < 2147483648) : ¬ Int32.ofNat n = 0 := fun q => by
  have := n_inj hn (by decide) (show Int32.ofNat n = Int32.ofNat 0 from q)
  omega
theorem n_eqb {x y : Int32} (hx : 0 ≤ x.toInt) (hx' : ¬ 255 < x) (hy : 0 ≤ y.toInt) (hy' : ¬ 255 < y) (q : x.toInt8.toInt32 = y.toInt8.toInt32) : x = y := by
  rw [← n_low hx hx', q, n_low hy hy']
end Strings
theorem pn_java_lang_StringUTF16 : plainName "java/lang/StringUTF16" = true := by first | (simp [plainName, overriddenIn]; done) | decide +kernel
theorem dcmp5_0 : decode jdk_52_method_21_code 0 = .ok (.iconst 0, 1) := by decide +kernel
theorem dcmp5_1 : decode jdk_52_method_21_code 1 = .ok (.istore 5, 2) := by decide +kernel
theorem dcmp5_3 : decode jdk_52_method_21_code 3 = .ok (.iload 5, 2) := by decide +kernel
theorem dcmp5_5 : decode jdk_52_method_21_code 5 = .ok (.iload 4, 2) := by decide +kernel
theorem dcmp5_7 : decode jdk_52_method_21_code 7 = .ok (.if_icmp .ge 37, 3) := by decide +kernel
theorem dcmp5_10 : decode jdk_52_method_21_code 10 = .ok (.aload_n 0, 1) := by decide +kernel
theorem dcmp5_11 : decode jdk_52_method_21_code 11 = .ok (.iload_n 1, 1) := by decide +kernel
theorem dcmp5_12 : decode jdk_52_method_21_code 12 = .ok (.caload, 1) := by decide +kernel
theorem dcmp5_13 : decode jdk_52_method_21_code 13 = .ok (.istore 6, 2) := by decide +kernel
theorem dcmp5_15 : decode jdk_52_method_21_code 15 = .ok (.iload 6, 2) := by decide +kernel
theorem dcmp5_17 : decode jdk_52_method_21_code 17 = .ok (.sipush 255, 3) := by decide +kernel
theorem dcmp5_20 : decode jdk_52_method_21_code 20 = .ok (.if_icmp .le 6, 3) := by decide +kernel
theorem dcmp5_23 : decode jdk_52_method_21_code 23 = .ok (.iload 5, 2) := by decide +kernel
theorem dcmp5_25 : decode jdk_52_method_21_code 25 = .ok (.ireturn, 1) := by decide +kernel
theorem dcmp5_26 : decode jdk_52_method_21_code 26 = .ok (.aload_n 2, 1) := by decide +kernel
theorem dcmp5_27 : decode jdk_52_method_21_code 27 = .ok (.iload_n 3, 1) := by decide +kernel
theorem dcmp5_28 : decode jdk_52_method_21_code 28 = .ok (.iload 6, 2) := by decide +kernel
theorem dcmp5_30 : decode jdk_52_method_21_code 30 = .ok (.i2b, 1) := by decide +kernel
theorem dcmp5_31 : decode jdk_52_method_21_code 31 = .ok (.bastore, 1) := by decide +kernel
theorem dcmp5_32 : decode jdk_52_method_21_code 32 = .ok (.iinc 1 1, 3) := by decide +kernel
theorem dcmp5_35 : decode jdk_52_method_21_code 35 = .ok (.iinc 3 1, 3) := by decide +kernel
theorem dcmp5_38 : decode jdk_52_method_21_code 38 = .ok (.iinc 5 1, 3) := by decide +kernel
theorem dcmp5_41 : decode jdk_52_method_21_code 41 = .ok (.goto (-38), 3) := by decide +kernel
theorem dcmp5_44 : decode jdk_52_method_21_code 44 = .ok (.iload 4, 2) := by decide +kernel
theorem dcmp5_46 : decode jdk_52_method_21_code 46 = .ok (.ireturn, 1) := by decide +kernel
def QC (Z : State) (h0 : Heap) (dst : Addr) (n : Nat) (f : Nat → Int32) : Option Value → Heap → Prop := fun v h' => ∃ r g, v = some (.int (Int32.ofNat r)) ∧ r ≤ n ∧ Keep h0 h' [dst] ∧ An Z h' dst .byte n g ∧ (∀ j, j < r → ¬ 255 < f j ∧ g j = (f j).toInt8.toInt32) ∧ (r = n ∨ (r < n ∧ 255 < f r))
set_option maxRecDepth 65536 in
set_option maxHeartbeats 40000000 in
theorem lp_cmp {p : Program} {l : Launch} {e : Env} {R : Room} {s : State} {m : MethodId} {args : Array Value} {below : List Frame} {meth : Method} {c : Code} {Z : State} {nm : String} {ce sl cells slots : Nat} (hce : cells ≤ ce) (hsl : slots ≤ sl) (h0 : Heap) (src dst : Addr) (n : Nat) (f : Nat → Int32) (hne : src ≠ dst) (nd : Z.heap.size ≤ dst) :
    ∀ (k i : Nat), i + k = n → ∀ (T : State) (locs : List Loc) (h : Heap) (g : Nat → Int32) (o6 : Slot), One o6 → Cx p l e R s m args below meth c Z "java/lang/StringUTF16" nm jdk_52_method_21_code 7 (some .int) T locs cells slots h → An Z h src .char n f → An Z h dst .byte n g → (∀ j, j < i → ¬ 255 < f j ∧ g j = (f j).toInt8.toInt32) → Keep h0 h [dst] →
      Go p e below (FinN s Z (QC Z h0 dst n f) ce sl) T m 3 #[.val (.ref src), .val (.int (Int32.ofNat i)), .val (.ref dst), .val (.int (Int32.ofNat i)), .val (.int (Int32.ofNat n)), .val (.int (Int32.ofNat i)), o6] [] := by
  intro k
  induction k with
  | zero =>
    intro i hi T locs h g o6 ho X0 A B hg K
    have hin : i = n := by omega
    subst hin
    refine Go.iload X0 5 dcmp5_3 rfl ?_
    refine Go.iload X0 7 dcmp5_5 rfl ?_
    refine Go.icmpY X0 44 dcmp5_7 (XT.ii_ge_t (n_nlt (Nat.le_refl _) A.1)) ?_
    refine Go.iload X0 46 dcmp5_44 rfl ?_
    exact Go.retI X0 rfl (by simp) rfl dcmp5_46 (X0.fin ⟨_, g, rfl, Nat.le_refl _, K, B, hg, Or.inl rfl⟩ hce hsl)
  | succ k ih =>
    intro i hi T locs h g o6 ho X0 A B hg K
    have hin : i < n := by omega
    refine Go.iload X0 5 dcmp5_3 rfl ?_
    refine Go.iload X0 7 dcmp5_5 rfl ?_
    refine Go.icmpN X0 10 dcmp5_7 (XT.ii_ge_f (n_lt hin A.1)) ?_
    refine Go.aloadN X0 11 dcmp5_10 rfl rfl ?_
    refine Go.iloadN X0 12 dcmp5_11 rfl ?_
    refine Go.caN X0 13 A i hin dcmp5_12 ?_
    refine Go.istore X0 15 #[.val (.ref src), .val (.int (Int32.ofNat i)), .val (.ref dst), .val (.int (Int32.ofNat i)), .val (.int (Int32.ofNat n)), .val (.int (Int32.ofNat i)), .val (.int (f i))] dcmp5_13 (XS.store1 rfl ho rfl) ?_
    refine Go.iload X0 17 dcmp5_15 rfl ?_
    refine Go.sipush X0 20 (255 : Int32) dcmp5_17 ?_
    by_cases c21 : (255 : Int32) < (f i)
    · skip
      refine Go.icmpN X0 23 dcmp5_20 (XT.ii_le_f c21) ?_
      refine Go.iload X0 25 dcmp5_23 rfl ?_
      exact Go.retI X0 rfl (by simp) rfl dcmp5_25 (X0.fin ⟨i, g, rfl, Nat.le_of_lt hin, K, B, hg, Or.inr ⟨hin, c21⟩⟩ hce hsl)
    · skip
      refine Go.icmpY X0 26 dcmp5_20 (XT.ii_le_t c21) ?_
      refine Go.aloadN X0 27 dcmp5_26 rfl rfl ?_
      refine Go.iloadN X0 28 dcmp5_27 rfl ?_
      refine Go.iload X0 30 dcmp5_28 rfl ?_
      refine Go.i2b X0 31 dcmp5_30 ?_
      refine Go.stBN X0 32 B i hin dcmp5_31 nd ?_
      intro T22 h22 w22 X22 W22 V22
      have F23 : An Z h22 src .char n f := A.other W22 hne
      have F24 : An Z h22 dst .byte n (upd g i (nar .byte ((f i).toInt8.toInt32))) := V22
      refine Go.iinc X22 35 (1 : Int32) #[.val (.ref src), .val (.int ((Int32.ofNat i) + (1 : Int32))), .val (.ref dst), .val (.int (Int32.ofNat i)), .val (.int (Int32.ofNat n)), .val (.int (Int32.ofNat i)), .val (.int (f i))] dcmp5_32 rfl rfl ?_
      refine Go.iinc X22 38 (1 : Int32) #[.val (.ref src), .val (.int ((Int32.ofNat i) + (1 : Int32))), .val (.ref dst), .val (.int ((Int32.ofNat i) + (1 : Int32))), .val (.int (Int32.ofNat n)), .val (.int (Int32.ofNat i)), .val (.int (f i))] dcmp5_35 rfl rfl ?_
      refine Go.iinc X22 41 (1 : Int32) #[.val (.ref src), .val (.int ((Int32.ofNat i) + (1 : Int32))), .val (.ref dst), .val (.int ((Int32.ofNat i) + (1 : Int32))), .val (.int (Int32.ofNat n)), .val (.int ((Int32.ofNat i) + (1 : Int32))), .val (.int (f i))] dcmp5_38 rfl rfl ?_
      refine Go.goto X22 3 dcmp5_41 ?_
      rw [n_succ]
      refine ih (i + 1) (by omega) _ _ _ _ _ (One.val rfl) X22 F23 F24 (fun j hj => ?_) (K.wr W22 (Or.inl (List.mem_of_getElem? (i := 0) rfl)))
      by_cases q : j = i
      · subst q
        exact ⟨c21, by simp only [upd, if_pos rfl]; exact n_b _⟩
      · obtain ⟨q1, q2⟩ := hg j (by omega)
        exact ⟨q1, by simp only [upd, if_neg q]; exact q2⟩
theorem ef_cmp5 (m : MethodId) (src : Addr) (z0 : Int32) (dst : Addr) (z1 : Int32) (z2 : Int32) : entryFrame m #[(.ref src), (.int z0), (.ref dst), (.int z1), (.int z2)] 7 = mkF m 0 #[.val (.ref src), .val (.int z0), .val (.ref dst), .val (.int z1), .val (.int z2), .unset, .unset] [] := by first | (simp [entryFrame, mkF, argsToLocals, Value.category]; done) | rfl
set_option maxRecDepth 65536 in
set_option maxHeartbeats 40000000 in
theorem rm_cmp5 (l : Launch) (Z : State) (a0 : Array Value) (hw : ∀ d ∈ tables_1, d.before a0 Z = true) (h0 : Heap) (src dst : Addr) (n : Nat) (f g : Nat → Int32) (hne : src ≠ dst) (nd : Z.heap.size ≤ dst) (A : An Z h0 src .char n f) (B : An Z h0 dst .byte n g) :
    Ct l Z [] (⟨"java/lang/StringUTF16", "compress", "([CI[BII)I"⟩ : MethodName) jdk_52_method_21_code 7 (some .int) (⟨0, 0, 0, 0⟩ : Room) #[(.ref src), (.int (0 : Int32)), (.ref dst), (.int (0 : Int32)), (.int (Int32.ofNat n))] h0 (QC Z h0 dst n f) := by
  refine Ct.of pn_java_lang_StringUTF16 (fun m => ef_cmp5 m src 0 dst 0 (Int32.ofNat n)) ?_
  intro p e s m below meth c s₁ X0
  refine Go.iconst X0 1 (0 : Int32) dcmp5_0 ?_
  refine Go.istore X0 3 #[.val (.ref src), .val (.int (0 : Int32)), .val (.ref dst), .val (.int (0 : Int32)), .val (.int (Int32.ofNat n)), .val (.int (0 : Int32)), .unset] dcmp5_1 rfl ?_
  exact lp_cmp (Nat.le_refl _) (Nat.le_refl _) h0 src dst n f hne nd n 0 (by omega) _ _ _ g _ One.u X0 A B (fun j hj => absurd hj (Nat.not_lt_zero j)) (Keep.refl _ _)
theorem n_cf0 (n : Nat) : (XT.ushr (Int32.ofNat n - Int32.ofNat n) (31 : Int32)).toInt8.toInt32 = 0 := by rw [Int32.sub_self]; decide
theorem n_cf1 {n : Nat} (h0 : 0 < n) (h1 : n < 1073741823) : (XT.ushr (Int32.ofNat n - Int32.ofNat (2 * n)) (31 : Int32)).toInt8.toInt32 = 1 := by
  have e := c_iushr (Int32.ofNat n - Int32.ofNat (2 * n)) 31 31 (by decide) (by decide)
  have d := c_isub (Int32.ofNat n) (Int32.ofNat (2 * n))
  have r := rng32 (Int32.ofNat n - Int32.ofNat (2 * n))
  rw [n_int (by omega), n_int (by omega)] at d
  have p : ((2 ^ 31 : Nat) : Int) = 2147483648 := by decide
  rw [p] at e
  have : XT.ushr (Int32.ofNat n - Int32.ofNat (2 * n)) (31 : Int32) = 1 := by
    apply Int32.toInt_inj.mp
    show ((Int32.ofNat n - Int32.ofNat (2 * n)).toUInt32 >>> ((31 : Int32) &&& 31).toUInt32).toInt32.toInt = (1 : Int32).toInt
    rw [e]
    have : (1 : Int32).toInt = 1 := by decide
    omega
  rw [this]
  decide
theorem dcfal_0 : decode jdk_52_method_15_code 0 = .ok (.iload_n 1, 1) := by decide +kernel
theorem dcfal_1 : decode jdk_52_method_15_code 1 = .ok (.aload_n 0, 1) := by decide +kernel
theorem dcfal_2 : decode jdk_52_method_15_code 2 = .ok (.arraylength, 1) := by decide +kernel
theorem dcfal_3 : decode jdk_52_method_15_code 3 = .ok (.isub, 1) := by decide +kernel
theorem dcfal_4 : decode jdk_52_method_15_code 4 = .ok (.bipush 31, 2) := by decide +kernel
theorem dcfal_6 : decode jdk_52_method_15_code 6 = .ok (.iushr, 1) := by decide +kernel
theorem dcfal_7 : decode jdk_52_method_15_code 7 = .ok (.i2b, 1) := by decide +kernel
theorem dcfal_8 : decode jdk_52_method_15_code 8 = .ok (.ireturn, 1) := by decide +kernel
theorem ef_cfal (m : MethodId) (t : Addr) (z : Int32) : entryFrame m #[(.ref t), (.int z)] 2 = mkF m 0 #[.val (.ref t), .val (.int z)] [] := by first | (simp [entryFrame, mkF, argsToLocals, Value.category]; done) | rfl
set_option maxRecDepth 65536 in
set_option maxHeartbeats 40000000 in
theorem rm_cfal (l : Launch) (Z : State) (a0 : Array Value) (hw : ∀ d ∈ tables_1, d.before a0 Z = true) (h0 : Heap) (t : Addr) (z : Int32) (n k : Nat) (g : Nat → Int32) (r : Int32) (hz : z = Int32.ofNat n) (A : An Z h0 t .byte k g) (hr : (k = n ∧ r = 0) ∨ (k = 2 * n ∧ 0 < n ∧ n < 1073741823 ∧ r = 1)) :
    Ct l Z [] (⟨"java/lang/StringUTF16", "coderFromArrayLen", "([BI)B"⟩ : MethodName) jdk_52_method_15_code 2 (some .byte) (⟨0, 0, 0, 0⟩ : Room) #[(.ref t), (.int z)] h0 (Pu h0 (.int r)) := by
  refine Ct.of pn_java_lang_StringUTF16 (fun m => ef_cfal m t z) ?_
  intro p e s m below meth c s₁ X0
  subst hz
  refine Go.iloadN X0 1 dcfal_0 rfl ?_
  refine Go.aloadN X0 2 dcfal_1 rfl rfl ?_
  refine Go.alenN X0 3 A dcfal_2 ?_
  refine Go.isub X0 4 dcfal_3 ?_
  refine Go.bipush X0 6 (31 : Int32) dcfal_4 ?_
  refine Go.iushr X0 7 dcfal_6 ?_
  refine Go.i2b X0 8 dcfal_7 ?_
  rcases hr with ⟨rfl, rfl⟩ | ⟨rfl, q1, q2, rfl⟩
  · rw [n_cf0]
    exact Go.retI X0 rfl (by simp) rfl dcfal_8 (X0.fin ⟨rfl, rfl⟩ (by decide) (by decide))
  · rw [n_cf1 q1 q2]
    exact Go.retI X0 rfl (by simp) rfl dcfal_8 (X0.fin ⟨rfl, rfl⟩ (by decide) (by decide))
theorem dcmp3_0 : decode jdk_52_method_16_code 0 = .ok (.iload_n 2, 1) := by decide +kernel
theorem dcmp3_1 : decode jdk_52_method_16_code 1 = .ok (.newarray .byte, 2) := by decide +kernel
theorem dcmp3_3 : decode jdk_52_method_16_code 3 = .ok (.astore_n 3, 1) := by decide +kernel
theorem dcmp3_4 : decode jdk_52_method_16_code 4 = .ok (.aload_n 0, 1) := by decide +kernel
theorem dcmp3_5 : decode jdk_52_method_16_code 5 = .ok (.iload_n 1, 1) := by decide +kernel
theorem dcmp3_6 : decode jdk_52_method_16_code 6 = .ok (.aload_n 3, 1) := by decide +kernel
theorem dcmp3_7 : decode jdk_52_method_16_code 7 = .ok (.iconst 0, 1) := by decide +kernel
theorem dcmp3_8 : decode jdk_52_method_16_code 8 = .ok (.iload_n 2, 1) := by decide +kernel
theorem dcmp3_9 : decode jdk_52_method_16_code 9 = .ok (.invokestatic 115, 3) := by decide +kernel
theorem dcmp3_12 : decode jdk_52_method_16_code 12 = .ok (.istore 4, 2) := by decide +kernel
theorem dcmp3_14 : decode jdk_52_method_16_code 14 = .ok (.iload 4, 2) := by decide +kernel
theorem dcmp3_16 : decode jdk_52_method_16_code 16 = .ok (.iload_n 2, 1) := by decide +kernel
theorem dcmp3_17 : decode jdk_52_method_16_code 17 = .ok (.if_icmp .eq 40, 3) := by decide +kernel
theorem dcmp3_20 : decode jdk_52_method_16_code 20 = .ok (.aload_n 0, 1) := by decide +kernel
theorem dcmp3_21 : decode jdk_52_method_16_code 21 = .ok (.iload_n 1, 1) := by decide +kernel
theorem dcmp3_22 : decode jdk_52_method_16_code 22 = .ok (.iload_n 2, 1) := by decide +kernel
theorem dcmp3_23 : decode jdk_52_method_16_code 23 = .ok (.invokestatic 119, 3) := by decide +kernel
theorem dcmp3_26 : decode jdk_52_method_16_code 26 = .ok (.astore 5, 2) := by decide +kernel
theorem dcmp3_28 : decode jdk_52_method_16_code 28 = .ok (.aload 5, 2) := by decide +kernel
theorem dcmp3_30 : decode jdk_52_method_16_code 30 = .ok (.iload 4, 2) := by decide +kernel
theorem dcmp3_32 : decode jdk_52_method_16_code 32 = .ok (.invokestatic 71, 3) := by decide +kernel
theorem dcmp3_35 : decode jdk_52_method_16_code 35 = .ok (.sipush 255, 3) := by decide +kernel
theorem dcmp3_38 : decode jdk_52_method_16_code 38 = .ok (.if_icmp .gt 16, 3) := by decide +kernel
theorem dcmp3_41 : decode jdk_52_method_16_code 41 = .ok (.aload 5, 2) := by decide +kernel
theorem dcmp3_43 : decode jdk_52_method_16_code 43 = .ok (.iconst 0, 1) := by decide +kernel
theorem dcmp3_44 : decode jdk_52_method_16_code 44 = .ok (.aload_n 3, 1) := by decide +kernel
theorem dcmp3_45 : decode jdk_52_method_16_code 45 = .ok (.iconst 0, 1) := by decide +kernel
theorem dcmp3_46 : decode jdk_52_method_16_code 46 = .ok (.iload_n 2, 1) := by decide +kernel
theorem dcmp3_47 : decode jdk_52_method_16_code 47 = .ok (.invokestatic 123, 3) := by decide +kernel
theorem dcmp3_50 : decode jdk_52_method_16_code 50 = .ok (.iload_n 2, 1) := by decide +kernel
theorem dcmp3_51 : decode jdk_52_method_16_code 51 = .ok (.if_icmp .eq 6, 3) := by decide +kernel
theorem dcmp3_54 : decode jdk_52_method_16_code 54 = .ok (.aload 5, 2) := by decide +kernel
theorem dcmp3_56 : decode jdk_52_method_16_code 56 = .ok (.areturn, 1) := by decide +kernel
theorem dcmp3_57 : decode jdk_52_method_16_code 57 = .ok (.aload_n 3, 1) := by decide +kernel
theorem dcmp3_58 : decode jdk_52_method_16_code 58 = .ok (.areturn, 1) := by decide +kernel
theorem ef_cmp3 (m : MethodId) (src : Addr) (z0 : Int32) (z1 : Int32) : entryFrame m #[(.ref src), (.int z0), (.int z1)] 6 = mkF m 0 #[.val (.ref src), .val (.int z0), .val (.int z1), .unset, .unset, .unset] [] := by first | (simp [entryFrame, mkF, argsToLocals, Value.category]; done) | rfl
set_option maxRecDepth 65536 in
set_option maxHeartbeats 40000000 in
theorem rm_cmp3 (l : Launch) (Z : State) (a0 : Array Value) (hw : ∀ d ∈ tables_1, d.before a0 Z = true) (h0 : Heap) (src : Addr) (z0 z1 : Int32) (n : Nat) (f : Nat → Int32) (hz0 : z0 = 0) (hz1 : z1 = Int32.ofNat n) (hcap : n ≤ 2) (A : An Z h0 src .char n f) (hl : ∀ j, j < n → ¬ 255 < f j) :
    Ct l Z [] (⟨"java/lang/StringUTF16", "compress", "([CII)[B"⟩ : MethodName) jdk_52_method_16_code 6 (some (.array .byte)) (⟨1, 1, 2, 18⟩ : Room) #[(.ref src), (.int z0), (.int z1)] h0 (fun v h' => ∃ t g, v = some (.ref t) ∧ Keep h0 h' [] ∧ h0.size ≤ t ∧ An Z h' t .byte n g ∧ ∀ j, j < n → ¬ 255 < f j ∧ g j = (f j).toInt8.toInt32) := by
  refine Ct.of pn_java_lang_StringUTF16 (fun m => ef_cmp3 m src z0 z1) ?_
  intro p e s m below meth c s₁ X0
  subst hz0 hz1
  have K1 : Keep h0 h0 [] := Keep.refl _ _
  refine Go.iloadN X0 1 dcmp3_0 rfl ?_
  refine Go.newB X0 3 (n := n) (hw _ (List.mem_of_getElem? (i := 27) rfl)) dcmp3_1 2 hcap (by decide) (by decide) (by decide) ?_
  intro T2 h2 a2 X2 E2 g2 V2
  have nw_a2 : Z.heap.size ≤ a2 := by rw [← g2]; exact X0.le
  have si_a2 : h0.size ≤ a2 := by rw [← g2]; exact K1.1
  have ne_src_a2 : src ≠ a2 := by rw [← g2]; exact Nat.ne_of_lt A.lt
  have K3 : Keep h0 h2 [] := K1.ext E2
  have F4 : An Z h2 src .char n f := A.ext E2
  refine Go.astoreN X2 4 #[.val (.ref src), .val (.int (0 : Int32)), .val (.int (Int32.ofNat n)), .val (.ref a2), .unset, .unset] dcmp3_3 rfl rfl ?_
  refine Go.aloadN X2 5 dcmp3_4 rfl rfl ?_
  refine Go.iloadN X2 6 dcmp3_5 rfl ?_
  refine Go.aloadN X2 7 dcmp3_6 rfl rfl ?_
  refine Go.iconst X2 8 (0 : Int32) dcmp3_7 ?_
  refine Go.iloadN X2 9 dcmp3_8 rfl ?_
  refine Go.callS X2 12 [(.ref src), (.int (0 : Int32)), (.ref a2), (.int (0 : Int32)), (.int (Int32.ofNat n))] [] 0 (hw _ (List.mem_of_getElem? (i := 28) rfl)) (hw _ (List.mem_of_getElem? (i := 29) rfl)) (hw _ (List.mem_of_getElem? (i := 25) rfl)) (by decide) (hw _ (List.mem_of_getElem? (i := 30) rfl)) pd_0 dcmp3_9 (rm_cmp5 l Z a0 hw h2 src a2 n f _ ne_src_a2 nw_a2 F4 V2) rfl rfl rfl (Nat.le_of_eq rfl) (by decide) (by decide) (by decide) (by decide) ?_
  rintro T5 v5 L5 X5 ⟨r, g, rfl, hr, K, B, hg, hx⟩
  show Go p e below _ T5 m 12 #[.val (.ref src), .val (.int (0 : Int32)), .val (.int (Int32.ofNat n)), .val (.ref a2), .unset, .unset] [(.int (Int32.ofNat r))]
  have K6 : Keep h0 T5.heap [] := K3.trans K (allS (Or.inr si_a2) all0)
  have F7 : An Z T5.heap src .char n f := F4.keep K (ninS ne_src_a2 nin0)
  have hrn : r = n := hx.elim id (fun q => absurd q.2 (hl r q.1))
  subst hrn
  refine Go.istore X5 14 #[.val (.ref src), .val (.int (0 : Int32)), .val (.int (Int32.ofNat r)), .val (.ref a2), .val (.int (Int32.ofNat r)), .unset] dcmp3_12 rfl ?_
  refine Go.iload X5 16 dcmp3_14 rfl ?_
  refine Go.iloadN X5 17 dcmp3_16 rfl ?_
  refine Go.icmpY X5 57 dcmp3_17 (XT.ii_eq_t rfl) ?_
  refine Go.aloadN X5 58 dcmp3_57 rfl rfl ?_
  exact Go.retA X5 rfl rfl rfl dcmp3_58 (X5.fin ⟨_, g, rfl, K6, si_a2, B, hg⟩ (by decide) (by decide))
theorem pn_java_lang_String : plainName "java/lang/String" = true := by first | (simp [plainName, overriddenIn]; done) | decide +kernel
theorem di4_0 : decode jdk_42_method_149_code 0 = .ok (.aload_n 0, 1) := by decide +kernel
theorem di4_1 : decode jdk_42_method_149_code 1 = .ok (.invokespecial 1, 3) := by decide +kernel
theorem di4_4 : decode jdk_42_method_149_code 4 = .ok (.iload_n 3, 1) := by decide +kernel
theorem di4_5 : decode jdk_42_method_149_code 5 = .ok (.ifCond .ne 22, 3) := by decide +kernel
theorem di4_8 : decode jdk_42_method_149_code 8 = .ok (.aload_n 0, 1) := by decide +kernel
theorem di4_9 : decode jdk_42_method_149_code 9 = .ok (.ldc 7, 2) := by decide +kernel
theorem di4_11 : decode jdk_42_method_149_code 11 = .ok (.getfield 9, 3) := by decide +kernel
theorem di4_14 : decode jdk_42_method_149_code 14 = .ok (.putfield 9, 3) := by decide +kernel
theorem di4_17 : decode jdk_42_method_149_code 17 = .ok (.aload_n 0, 1) := by decide +kernel
theorem di4_18 : decode jdk_42_method_149_code 18 = .ok (.ldc 7, 2) := by decide +kernel
theorem di4_20 : decode jdk_42_method_149_code 20 = .ok (.getfield 15, 3) := by decide +kernel
theorem di4_23 : decode jdk_42_method_149_code 23 = .ok (.putfield 15, 3) := by decide +kernel
theorem di4_26 : decode jdk_42_method_149_code 26 = .ok (.return_, 1) := by decide +kernel
theorem di4_27 : decode jdk_42_method_149_code 27 = .ok (.getstatic 38, 3) := by decide +kernel
theorem di4_30 : decode jdk_42_method_149_code 30 = .ok (.ifCond .eq 28, 3) := by decide +kernel
theorem di4_33 : decode jdk_42_method_149_code 33 = .ok (.aload_n 1, 1) := by decide +kernel
theorem di4_34 : decode jdk_42_method_149_code 34 = .ok (.iload_n 2, 1) := by decide +kernel
theorem di4_35 : decode jdk_42_method_149_code 35 = .ok (.iload_n 3, 1) := by decide +kernel
theorem di4_36 : decode jdk_42_method_149_code 36 = .ok (.invokestatic 177, 3) := by decide +kernel
theorem di4_39 : decode jdk_42_method_149_code 39 = .ok (.astore 5, 2) := by decide +kernel
theorem di4_41 : decode jdk_42_method_149_code 41 = .ok (.aload_n 0, 1) := by decide +kernel
theorem di4_42 : decode jdk_42_method_149_code 42 = .ok (.aload 5, 2) := by decide +kernel
theorem di4_44 : decode jdk_42_method_149_code 44 = .ok (.iload_n 3, 1) := by decide +kernel
theorem di4_45 : decode jdk_42_method_149_code 45 = .ok (.invokestatic 47, 3) := by decide +kernel
theorem di4_48 : decode jdk_42_method_149_code 48 = .ok (.putfield 15, 3) := by decide +kernel
theorem di4_51 : decode jdk_42_method_149_code 51 = .ok (.aload_n 0, 1) := by decide +kernel
theorem di4_52 : decode jdk_42_method_149_code 52 = .ok (.aload 5, 2) := by decide +kernel
theorem di4_54 : decode jdk_42_method_149_code 54 = .ok (.putfield 9, 3) := by decide +kernel
theorem di4_57 : decode jdk_42_method_149_code 57 = .ok (.return_, 1) := by decide +kernel
theorem di4_58 : decode jdk_42_method_149_code 58 = .ok (.aload_n 0, 1) := by decide +kernel
theorem di4_59 : decode jdk_42_method_149_code 59 = .ok (.iconst 1, 1) := by decide +kernel
theorem di4_60 : decode jdk_42_method_149_code 60 = .ok (.putfield 15, 3) := by decide +kernel
theorem di4_63 : decode jdk_42_method_149_code 63 = .ok (.aload_n 0, 1) := by decide +kernel
theorem di4_64 : decode jdk_42_method_149_code 64 = .ok (.aload_n 1, 1) := by decide +kernel
theorem di4_65 : decode jdk_42_method_149_code 65 = .ok (.iload_n 2, 1) := by decide +kernel
theorem di4_66 : decode jdk_42_method_149_code 66 = .ok (.iload_n 3, 1) := by decide +kernel
theorem di4_67 : decode jdk_42_method_149_code 67 = .ok (.invokestatic 180, 3) := by decide +kernel
theorem di4_70 : decode jdk_42_method_149_code 70 = .ok (.putfield 9, 3) := by decide +kernel
theorem di4_73 : decode jdk_42_method_149_code 73 = .ok (.return_, 1) := by decide +kernel
theorem ef_i4 (m : MethodId) (a : Addr) (src : Addr) (z0 : Int32) (z1 : Int32) : entryFrame m #[(.ref a), (.ref src), (.int z0), (.int z1), .null] 6 = mkF m 0 #[.val (.ref a), .val (.ref src), .val (.int z0), .val (.int z1), .val .null, .unset] [] := by first | (simp [entryFrame, mkF, argsToLocals, Value.category]; done) | rfl
set_option maxRecDepth 65536 in
set_option maxHeartbeats 40000000 in
theorem rm_i4 (l : Launch) (Z : State) (a0 : Array Value) (hw : ∀ d ∈ tables_1, d.before a0 Z = true) (h0 : Heap) (cz : Int32) (SC : Sta Z Z.heap "java/lang/String" "COMPACT_STRINGS" "Z" (.int cz)) (hcz : ¬ cz = 0) (a src : Addr) (n : Nat) (f : Nat → Int32) (hn : 0 < n) (hcap : n ≤ 2) (E : Exa Z h0 a "java/lang/String") (FV : Fld Z h0 a "java/lang/String" "value" "[B" .null) (FC : Fld Z h0 a "java/lang/String" "coder" "B" (.int 0)) (na : Z.heap.size ≤ a) (hne : src ≠ a) (A : An Z h0 src .char n f) (hf : ∀ j, j < n → 0 ≤ (f j).toInt ∧ (f j).toInt < 65536) (hl : ∀ j, j < n → ¬ 255 < f j) (z0 z1 : Int32) (hz0 : z0 = 0) (hz1 : z1 = Int32.ofNat n) :
    Ct l Z [] (⟨"java/lang/String", "<init>", "([CIILjava/lang/Void;)V"⟩ : MethodName) jdk_42_method_149_code 6 none (⟨2, 1, 2, 35⟩ : Room) #[(.ref a), (.ref src), (.int z0), (.int z1), .null] h0 (fun v h' => v = none ∧ ∃ t, Keep h0 h' [a] ∧ h0.size ≤ t ∧ Str Z h' a t n f) := by
  refine Ct.of pn_java_lang_String (fun m => ef_i4 m a src z0 z1) ?_
  intro p e s m below meth c s₁ X0
  subst hz0 hz1
  have K1 : Keep h0 h0 [a] := Keep.refl _ _
  refine Go.aloadN X0 1 di4_0 rfl rfl ?_
  refine Go.initO X0 4 (hw _ (List.mem_of_getElem? (i := 19) rfl)) (hw _ (List.mem_of_getElem? (i := 20) rfl)) (hw _ (List.mem_of_getElem? (i := 21) rfl)) 0 di4_1 rfl (by decide) (by decide) (by decide) ?_
  intro T2 X2
  refine Go.iloadN X2 5 di4_4 rfl ?_
  refine Go.if0Y X2 27 di4_5 (XT.i0_ne_t (n_ne0 hn (by omega))) ?_
  refine Go.getS X2 30 (hw _ (List.mem_of_getElem? (i := 22) rfl)) SC di4_27 ?_
  intro T3 X3
  refine Go.if0N X3 33 di4_30 (XT.i0_eq_f hcz) ?_
  refine Go.aloadN X3 34 di4_33 rfl rfl ?_
  refine Go.iloadN X3 35 di4_34 rfl ?_
  refine Go.iloadN X3 36 di4_35 rfl ?_
  refine Go.callS X3 39 [(.ref src), (.int (0 : Int32)), (.int (Int32.ofNat n))] [] 0 (hw _ (List.mem_of_getElem? (i := 23) rfl)) (hw _ (List.mem_of_getElem? (i := 24) rfl)) (hw _ (List.mem_of_getElem? (i := 25) rfl)) (by decide) (hw _ (List.mem_of_getElem? (i := 26) rfl)) pd_1 di4_36 (rm_cmp3 l Z a0 hw h0 src 0 (Int32.ofNat n) n f rfl rfl hcap A hl) rfl rfl rfl (Nat.le_of_eq rfl) (by decide) (by decide) (by decide) (by decide) ?_
  rintro T4 v4 L4 X4 ⟨t, g, rfl, K3, gt, B, hg⟩
  show Go p e below _ T4 m 39 #[.val (.ref a), .val (.ref src), .val (.int (0 : Int32)), .val (.int (Int32.ofNat n)), .val .null, .unset] [(.ref t)]
  have nw_t : Z.heap.size ≤ t := Nat.le_trans X3.le gt
  have ne_a_t : a ≠ t := Nat.ne_of_lt (Nat.lt_of_lt_of_le E.lt gt)
  have ne_src_t : src ≠ t := Nat.ne_of_lt (Nat.lt_of_lt_of_le A.lt gt)
  have si_t : h0.size ≤ t := Nat.le_trans K1.1 gt
  have K5 : Keep h0 T4.heap [a] := K1.trans K3 all0
  have F6 : Exa Z T4.heap a "java/lang/String" := E.keep K3
  have F7 : Fld Z T4.heap a "java/lang/String" "value" "[B" .null := FV.keep K3 nin0
  have F8 : Fld Z T4.heap a "java/lang/String" "coder" "B" (.int (0 : Int32)) := FC.keep K3 nin0
  have F9 : An Z T4.heap src .char n f := A.keep K3 nin0
  refine Go.astore X4 41 #[.val (.ref a), .val (.ref src), .val (.int (0 : Int32)), .val (.int (Int32.ofNat n)), .val .null, .val (.ref t)] di4_39 rfl rfl ?_
  refine Go.aloadN X4 42 di4_41 rfl rfl ?_
  refine Go.aload X4 44 di4_42 rfl rfl ?_
  refine Go.iloadN X4 45 di4_44 rfl ?_
  refine Go.callSP X4 48 [(.ref t), (.int (Int32.ofNat n))] [(.ref a)] 1 (hw _ (List.mem_of_getElem? (i := 31) rfl)) (hw _ (List.mem_of_getElem? (i := 32) rfl)) (hw _ (List.mem_of_getElem? (i := 25) rfl)) (by decide) (hw _ (List.mem_of_getElem? (i := 33) rfl)) pd_2 di4_45 (rm_cfal l Z a0 hw T4.heap t (Int32.ofNat n) n n g 0 rfl B (Or.inl ⟨rfl, rfl⟩)) rfl rfl rfl (Nat.le_of_eq rfl) (by decide) (by decide) (by decide) (by decide) ?_
  intro T10 L10 X10
  refine Go.putF X10 51 (hw _ (List.mem_of_getElem? (i := 34) rfl)) F8 F6 (Or.inr ⟨(hw _ (List.mem_of_getElem? (i := 35) rfl)), rfl, rfl⟩) (hw _ (List.mem_of_getElem? (i := 10) rfl)) (ty := .byte) (by decide) rfl rfl na di4_48 ?_
  intro T11 h11 X11 W11
  have K12 : Keep h0 h11 [a] := K5.wr W11 (Or.inl (List.mem_of_getElem? (i := 0) rfl))
  have F13 : Exa Z h11 a "java/lang/String" := F6.wr W11
  have F14 : Fld Z h11 a "java/lang/String" "value" "[B" .null := F7.other W11 (Or.inr (slot_ne (Or.inr (hw _ (List.mem_of_getElem? (i := 37) rfl))) (Or.inr (hw _ (List.mem_of_getElem? (i := 35) rfl))) (by decide) (t := (.array .byte)) (t' := .byte) (by decide) (by decide)))
  have F15 : Fld Z h11 a "java/lang/String" "coder" "B" (.int (0 : Int32)) := F8.same W11
  have F16 : An Z h11 src .char n f := F9.other W11 hne
  have F17 : An Z h11 t .byte n g := B.other W11 (Ne.symm ne_a_t)
  refine Go.aloadN X11 52 di4_51 rfl rfl ?_
  refine Go.aload X11 54 di4_52 rfl rfl ?_
  refine Go.putF X11 57 (hw _ (List.mem_of_getElem? (i := 36) rfl)) F14 F13 (Or.inr ⟨(hw _ (List.mem_of_getElem? (i := 37) rfl)), rfl, rfl⟩) (hw _ (List.mem_of_getElem? (i := 10) rfl)) (ty := (.array .byte)) (by decide) rfl rfl na di4_54 ?_
  intro T18 h18 X18 W18
  have K19 : Keep h0 h18 [a] := K12.wr W18 (Or.inl (List.mem_of_getElem? (i := 0) rfl))
  have F20 : Exa Z h18 a "java/lang/String" := F13.wr W18
  have F21 : Fld Z h18 a "java/lang/String" "value" "[B" (.ref t) := F14.same W18
  have F22 : Fld Z h18 a "java/lang/String" "coder" "B" (.int (0 : Int32)) := F15.other W18 (Or.inr (slot_ne (Or.inr (hw _ (List.mem_of_getElem? (i := 35) rfl))) (Or.inr (hw _ (List.mem_of_getElem? (i := 37) rfl))) (by decide) (t := .byte) (t' := (.array .byte)) (by decide) (by decide)))
  have F23 : An Z h18 src .char n f := F16.other W18 hne
  have F24 : An Z h18 t .byte n g := F17.other W18 (Ne.symm ne_a_t)
  exact Go.retV X18 rfl di4_57 (X18.fin ⟨rfl, t, K19, si_t, F20, F21, by omega, hf, Or.inl ⟨F22, g, F24, hg⟩⟩ (by decide) (by decide))
theorem di1_0 : decode jdk_42_method_3_code 0 = .ok (.aload_n 0, 1) := by decide +kernel
theorem di1_1 : decode jdk_42_method_3_code 1 = .ok (.aload_n 1, 1) := by decide +kernel
theorem di1_2 : decode jdk_42_method_3_code 2 = .ok (.iconst 0, 1) := by decide +kernel
theorem di1_3 : decode jdk_42_method_3_code 3 = .ok (.aload_n 1, 1) := by decide +kernel
theorem di1_4 : decode jdk_42_method_3_code 4 = .ok (.arraylength, 1) := by decide +kernel
theorem di1_5 : decode jdk_42_method_3_code 5 = .ok (.aconst_null, 1) := by decide +kernel
theorem di1_6 : decode jdk_42_method_3_code 6 = .ok (.invokespecial 27, 3) := by decide +kernel
theorem di1_9 : decode jdk_42_method_3_code 9 = .ok (.return_, 1) := by decide +kernel
theorem ef_i1 (m : MethodId) (a : Addr) (src : Addr) : entryFrame m #[(.ref a), (.ref src)] 2 = mkF m 0 #[.val (.ref a), .val (.ref src)] [] := by first | (simp [entryFrame, mkF, argsToLocals, Value.category]; done) | rfl
set_option maxRecDepth 65536 in
set_option maxHeartbeats 40000000 in
theorem rm_i1 (l : Launch) (Z : State) (a0 : Array Value) (hw : ∀ d ∈ tables_1, d.before a0 Z = true) (h0 : Heap) (cz : Int32) (SC : Sta Z Z.heap "java/lang/String" "COMPACT_STRINGS" "Z" (.int cz)) (hcz : ¬ cz = 0) (a src : Addr) (n : Nat) (f : Nat → Int32) (hn : 0 < n) (hcap : n ≤ 2) (E : Exa Z h0 a "java/lang/String") (FV : Fld Z h0 a "java/lang/String" "value" "[B" .null) (FC : Fld Z h0 a "java/lang/String" "coder" "B" (.int 0)) (na : Z.heap.size ≤ a) (hne : src ≠ a) (A : An Z h0 src .char n f) (hf : ∀ j, j < n → 0 ≤ (f j).toInt ∧ (f j).toInt < 65536) (hl : ∀ j, j < n → ¬ 255 < f j) :
    Ct l Z [] (⟨"java/lang/String", "<init>", "([C)V"⟩ : MethodName) jdk_42_method_3_code 2 none (⟨3, 1, 2, 52⟩ : Room) #[(.ref a), (.ref src)] h0 (fun v h' => v = none ∧ ∃ t, Keep h0 h' [a] ∧ h0.size ≤ t ∧ Str Z h' a t n f) := by
  refine Ct.of pn_java_lang_String (fun m => ef_i1 m a src) ?_
  intro p e s m below meth c s₁ X0
  refine Go.aloadN X0 1 di1_0 rfl rfl ?_
  refine Go.aloadN X0 2 di1_1 rfl rfl ?_
  refine Go.iconst X0 3 (0 : Int32) di1_2 ?_
  refine Go.aloadN X0 4 di1_3 rfl rfl ?_
  refine Go.alenN X0 5 A di1_4 ?_
  refine Go.aconst_null X0 6 di1_5 ?_
  refine Go.callI X0 9 [(.ref src), (.int (0 : Int32)), (.int (Int32.ofNat n)), .null] [] 0 rfl (hw _ (List.mem_of_getElem? (i := 15) rfl)) (hw _ (List.mem_of_getElem? (i := 16) rfl)) (hw _ (List.mem_of_getElem? (i := 11) rfl)) (by decide) rfl (hw _ (List.mem_of_getElem? (i := 18) rfl)) pd_3 di1_6 (rm_i4 l Z a0 hw h0 cz SC hcz a src n f hn hcap E FV FC na hne A hf hl 0 (Int32.ofNat n) rfl rfl) rfl rfl rfl (Nat.le_of_eq rfl) (by decide) (by decide) (by decide) (by decide) ?_
  rintro T1 v1 L1 X1 ⟨rfl, hq⟩
  show Go p e below _ T1 m 9 #[.val (.ref a), .val (.ref src)] []
  exact Go.retV X1 rfl di1_9 (X1.fin ⟨rfl, hq⟩ (by decide) (by decide))
theorem pn_java_lang_StringLatin1 : plainName "java/lang/StringLatin1" = true := by first | (simp [plainName, overriddenIn]; done) | decide +kernel
theorem dceC_0 : decode jdk_43_method_3_code 0 = .ok (.iload_n 0, 1) := by decide +kernel
theorem dceC_1 : decode jdk_43_method_3_code 1 = .ok (.sipush 255, 3) := by decide +kernel
theorem dceC_4 : decode jdk_43_method_3_code 4 = .ok (.if_icmp .gt 7, 3) := by decide +kernel
theorem dceC_7 : decode jdk_43_method_3_code 7 = .ok (.iconst 1, 1) := by decide +kernel
theorem dceC_8 : decode jdk_43_method_3_code 8 = .ok (.goto 4, 3) := by decide +kernel
theorem dceC_11 : decode jdk_43_method_3_code 11 = .ok (.iconst 0, 1) := by decide +kernel
theorem dceC_12 : decode jdk_43_method_3_code 12 = .ok (.ireturn, 1) := by decide +kernel
theorem ef_ceC (m : MethodId) (x : Int32) : entryFrame m #[(.int x)] 1 = mkF m 0 #[.val (.int x)] [] := by first | (simp [entryFrame, mkF, argsToLocals, Value.category]; done) | rfl
set_option maxRecDepth 65536 in
set_option maxHeartbeats 40000000 in
theorem rm_ceC (l : Launch) (Z : State) (a0 : Array Value) (hw : ∀ d ∈ tables_1, d.before a0 Z = true) (h0 : Heap) (x : Int32) (h2 : ¬ 255 < x) :
    Ct l Z [] (⟨"java/lang/StringLatin1", "canEncode", "(C)Z"⟩ : MethodName) jdk_43_method_3_code 1 (some .boolean) (⟨0, 0, 0, 0⟩ : Room) #[(.int x)] h0 (Pu h0 (.int 1)) := by
  refine Ct.of pn_java_lang_StringLatin1 (fun m => ef_ceC m x) ?_
  intro p e s m below meth c s₁ X0
  refine Go.iloadN X0 1 dceC_0 rfl ?_
  refine Go.sipush X0 4 (255 : Int32) dceC_1 ?_
  refine Go.icmpN X0 7 dceC_4 (XT.ii_gt_f h2) ?_
  refine Go.iconst X0 8 (1 : Int32) dceC_7 ?_
  refine Go.goto X0 12 dceC_8 ?_
  exact Go.retI X0 rfl (by simp) rfl dceC_12 (X0.fin ⟨rfl, rfl⟩ (by decide) (by decide))
theorem dtb1_0 : decode jdk_43_method_46_code 0 = .ok (.iconst 1, 1) := by decide +kernel
theorem dtb1_1 : decode jdk_43_method_46_code 1 = .ok (.newarray .byte, 2) := by decide +kernel
theorem dtb1_3 : decode jdk_43_method_46_code 3 = .ok (.dup, 1) := by decide +kernel
theorem dtb1_4 : decode jdk_43_method_46_code 4 = .ok (.iconst 0, 1) := by decide +kernel
theorem dtb1_5 : decode jdk_43_method_46_code 5 = .ok (.iload_n 0, 1) := by decide +kernel
theorem dtb1_6 : decode jdk_43_method_46_code 6 = .ok (.i2b, 1) := by decide +kernel
theorem dtb1_7 : decode jdk_43_method_46_code 7 = .ok (.bastore, 1) := by decide +kernel
theorem dtb1_8 : decode jdk_43_method_46_code 8 = .ok (.areturn, 1) := by decide +kernel
theorem ef_tb1 (m : MethodId) (x : Int32) : entryFrame m #[(.int x)] 1 = mkF m 0 #[.val (.int x)] [] := by first | (simp [entryFrame, mkF, argsToLocals, Value.category]; done) | rfl
set_option maxRecDepth 65536 in
set_option maxHeartbeats 40000000 in
theorem rm_tb1 (l : Launch) (Z : State) (a0 : Array Value) (hw : ∀ d ∈ tables_1, d.before a0 Z = true) (h0 : Heap) (x : Int32) :
    Ct l Z [] (⟨"java/lang/StringLatin1", "toBytes", "(C)[B"⟩ : MethodName) jdk_43_method_46_code 1 (some (.array .byte)) (⟨0, 1, 1, 0⟩ : Room) #[(.int x)] h0 (fun v h' => ∃ t, v = some (.ref t) ∧ Keep h0 h' [] ∧ h0.size ≤ t ∧ An Z h' t .byte 1 (fun _ => x.toInt8.toInt32)) := by
  refine Ct.of pn_java_lang_StringLatin1 (fun m => ef_tb1 m x) ?_
  intro p e s m below meth c s₁ X0
  have K1 : Keep h0 h0 [] := Keep.refl _ _
  refine Go.iconst X0 1 (1 : Int32) dtb1_0 ?_
  refine Go.newB X0 3 (n := 1) (hw _ (List.mem_of_getElem? (i := 27) rfl)) dtb1_1 1 (by decide) (by decide) (by decide) (by decide) ?_
  intro T2 h2 a2 X2 E2 g2 V2
  have nw_a2 : Z.heap.size ≤ a2 := by rw [← g2]; exact X0.le
  have si_a2 : h0.size ≤ a2 := by rw [← g2]; exact K1.1
  have K3 : Keep h0 h2 [] := K1.ext E2
  refine Go.dup X2 4 dtb1_3 rfl ?_
  refine Go.iconst X2 5 (0 : Int32) dtb1_4 ?_
  refine Go.iloadN X2 6 dtb1_5 rfl ?_
  refine Go.i2b X2 7 dtb1_6 ?_
  refine Go.stBN X2 8 V2 0 (by decide) dtb1_7 nw_a2 ?_
  intro T4 h4 w4 X4 W4 V4
  rw [n_nb x] at V4
  have K5 : Keep h0 h4 [] := K3.wr W4 (Or.inr si_a2)
  have F6 : An Z h4 a2 .byte 1 (upd (fun _ => (0 : Int32)) 0 x.toInt8.toInt32) := V4
  exact Go.retA X4 rfl rfl rfl dtb1_8 (X4.fin ⟨_, rfl, K5, si_a2, F6.congr (fun j hj => if_pos (by omega))⟩ (by decide) (by decide))
theorem di2_0 : decode jdk_42_method_151_code 0 = .ok (.aload_n 0, 1) := by decide +kernel
theorem di2_1 : decode jdk_42_method_151_code 1 = .ok (.invokespecial 1, 3) := by decide +kernel
theorem di2_4 : decode jdk_42_method_151_code 4 = .ok (.aload_n 0, 1) := by decide +kernel
theorem di2_5 : decode jdk_42_method_151_code 5 = .ok (.aload_n 1, 1) := by decide +kernel
theorem di2_6 : decode jdk_42_method_151_code 6 = .ok (.putfield 9, 3) := by decide +kernel
theorem di2_9 : decode jdk_42_method_151_code 9 = .ok (.aload_n 0, 1) := by decide +kernel
theorem di2_10 : decode jdk_42_method_151_code 10 = .ok (.iload_n 2, 1) := by decide +kernel
theorem di2_11 : decode jdk_42_method_151_code 11 = .ok (.putfield 15, 3) := by decide +kernel
theorem di2_14 : decode jdk_42_method_151_code 14 = .ok (.return_, 1) := by decide +kernel
theorem ef_i2 (m : MethodId) (a : Addr) (t : Addr) (z : Int32) : entryFrame m #[(.ref a), (.ref t), (.int z)] 3 = mkF m 0 #[.val (.ref a), .val (.ref t), .val (.int z)] [] := by first | (simp [entryFrame, mkF, argsToLocals, Value.category]; done) | rfl
set_option maxRecDepth 65536 in
set_option maxHeartbeats 40000000 in
theorem rm_i2 (l : Launch) (Z : State) (a0 : Array Value) (hw : ∀ d ∈ tables_1, d.before a0 Z = true) (h0 : Heap) (a t : Addr) (z : Int32) (hz : z = 0) (E : Exa Z h0 a "java/lang/String") (FV : Fld Z h0 a "java/lang/String" "value" "[B" .null) (FC : Fld Z h0 a "java/lang/String" "coder" "B" (.int 0)) (na : Z.heap.size ≤ a) :
    Ct l Z [] (⟨"java/lang/String", "<init>", "([BB)V"⟩ : MethodName) jdk_42_method_151_code 3 none (⟨1, 0, 0, 12⟩ : Room) #[(.ref a), (.ref t), (.int z)] h0 (fun v h' => v = none ∧ Keep h0 h' [a] ∧ Exa Z h' a "java/lang/String" ∧ Fld Z h' a "java/lang/String" "value" "[B" (.ref t) ∧ Fld Z h' a "java/lang/String" "coder" "B" (.int 0)) := by
  refine Ct.of pn_java_lang_String (fun m => ef_i2 m a t z) ?_
  intro p e s m below meth c s₁ X0
  subst hz
  have K1 : Keep h0 h0 [a] := Keep.refl _ _
  refine Go.aloadN X0 1 di2_0 rfl rfl ?_
  refine Go.initO X0 4 (hw _ (List.mem_of_getElem? (i := 19) rfl)) (hw _ (List.mem_of_getElem? (i := 20) rfl)) (hw _ (List.mem_of_getElem? (i := 21) rfl)) 0 di2_1 rfl (by decide) (by decide) (by decide) ?_
  intro T2 X2
  refine Go.aloadN X2 5 di2_4 rfl rfl ?_
  refine Go.aloadN X2 6 di2_5 rfl rfl ?_
  refine Go.putF X2 9 (hw _ (List.mem_of_getElem? (i := 36) rfl)) FV E (Or.inr ⟨(hw _ (List.mem_of_getElem? (i := 37) rfl)), rfl, rfl⟩) (hw _ (List.mem_of_getElem? (i := 10) rfl)) (ty := (.array .byte)) (by decide) rfl rfl na di2_6 ?_
  intro T3 h3 X3 W3
  have K4 : Keep h0 h3 [a] := K1.wr W3 (Or.inl (List.mem_of_getElem? (i := 0) rfl))
  have F5 : Exa Z h3 a "java/lang/String" := E.wr W3
  have F6 : Fld Z h3 a "java/lang/String" "value" "[B" (.ref t) := FV.same W3
  have F7 : Fld Z h3 a "java/lang/String" "coder" "B" (.int (0 : Int32)) := FC.other W3 (Or.inr (slot_ne (Or.inr (hw _ (List.mem_of_getElem? (i := 35) rfl))) (Or.inr (hw _ (List.mem_of_getElem? (i := 37) rfl))) (by decide) (t := .byte) (t' := (.array .byte)) (by decide) (by decide)))
  refine Go.aloadN X3 10 di2_9 rfl rfl ?_
  refine Go.iloadN X3 11 di2_10 rfl ?_
  refine Go.putF X3 14 (hw _ (List.mem_of_getElem? (i := 34) rfl)) F7 F5 (Or.inr ⟨(hw _ (List.mem_of_getElem? (i := 35) rfl)), rfl, rfl⟩) (hw _ (List.mem_of_getElem? (i := 10) rfl)) (ty := .byte) (by decide) rfl rfl na di2_11 ?_
  intro T8 h8 X8 W8
  have K9 : Keep h0 h8 [a] := K4.wr W8 (Or.inl (List.mem_of_getElem? (i := 0) rfl))
  have F10 : Exa Z h8 a "java/lang/String" := F5.wr W8
  have F11 : Fld Z h8 a "java/lang/String" "value" "[B" (.ref t) := F6.other W8 (Or.inr (slot_ne (Or.inr (hw _ (List.mem_of_getElem? (i := 37) rfl))) (Or.inr (hw _ (List.mem_of_getElem? (i := 35) rfl))) (by decide) (t := (.array .byte)) (t' := .byte) (by decide) (by decide)))
  have F12 : Fld Z h8 a "java/lang/String" "coder" "B" (.int (0 : Int32)) := F7.same W8
  exact Go.retV X8 rfl di2_14 (X8.fin ⟨rfl, K9, F10, F11, F12⟩ (by decide) (by decide))
theorem dvo_0 : decode jdk_42_method_139_code 0 = .ok (.getstatic 38, 3) := by decide +kernel
theorem dvo_3 : decode jdk_42_method_139_code 3 = .ok (.ifCond .eq 23, 3) := by decide +kernel
theorem dvo_6 : decode jdk_42_method_139_code 6 = .ok (.iload_n 0, 1) := by decide +kernel
theorem dvo_7 : decode jdk_42_method_139_code 7 = .ok (.invokestatic 1015, 3) := by decide +kernel
theorem dvo_10 : decode jdk_42_method_139_code 10 = .ok (.ifCond .eq 16, 3) := by decide +kernel
theorem dvo_13 : decode jdk_42_method_139_code 13 = .ok (.new 10, 3) := by decide +kernel
theorem dvo_16 : decode jdk_42_method_139_code 16 = .ok (.dup, 1) := by decide +kernel
theorem dvo_17 : decode jdk_42_method_139_code 17 = .ok (.iload_n 0, 1) := by decide +kernel
theorem dvo_18 : decode jdk_42_method_139_code 18 = .ok (.invokestatic 1018, 3) := by decide +kernel
theorem dvo_21 : decode jdk_42_method_139_code 21 = .ok (.iconst 0, 1) := by decide +kernel
theorem dvo_22 : decode jdk_42_method_139_code 22 = .ok (.invokespecial 209, 3) := by decide +kernel
theorem dvo_25 : decode jdk_42_method_139_code 25 = .ok (.areturn, 1) := by decide +kernel
theorem dvo_26 : decode jdk_42_method_139_code 26 = .ok (.new 10, 3) := by decide +kernel
theorem dvo_29 : decode jdk_42_method_139_code 29 = .ok (.dup, 1) := by decide +kernel
theorem dvo_30 : decode jdk_42_method_139_code 30 = .ok (.iload_n 0, 1) := by decide +kernel
theorem dvo_31 : decode jdk_42_method_139_code 31 = .ok (.invokestatic 1021, 3) := by decide +kernel
theorem dvo_34 : decode jdk_42_method_139_code 34 = .ok (.iconst 1, 1) := by decide +kernel
theorem dvo_35 : decode jdk_42_method_139_code 35 = .ok (.invokespecial 209, 3) := by decide +kernel
theorem dvo_38 : decode jdk_42_method_139_code 38 = .ok (.areturn, 1) := by decide +kernel
theorem ef_vo (m : MethodId) (x : Int32) : entryFrame m #[(.int x)] 1 = mkF m 0 #[.val (.int x)] [] := by first | (simp [entryFrame, mkF, argsToLocals, Value.category]; done) | rfl
set_option maxRecDepth 65536 in
set_option maxHeartbeats 40000000 in
theorem rm_vo (l : Launch) (Z : State) (a0 : Array Value) (hw : ∀ d ∈ tables_1, d.before a0 Z = true) (h0 : Heap) (cz : Int32) (SC : Sta Z Z.heap "java/lang/String" "COMPACT_STRINGS" "Z" (.int cz)) (hcz : ¬ cz = 0) (x : Int32) (hx0 : 0 ≤ x.toInt) (hx : ¬ 255 < x) :
    Ct l Z [] (⟨"java/lang/String", "valueOf", "(C)Ljava/lang/String;"⟩ : MethodName) jdk_42_method_139_code 1 (some (.object "java/lang/String")) (⟨2, 2, 5, 27⟩ : Room) #[(.int x)] h0 (fun v h' => ∃ a t, v = some (.ref a) ∧ Keep h0 h' [] ∧ h0.size ≤ a ∧ h0.size ≤ t ∧ Str Z h' a t 1 (fun _ => x)) := by
  refine Ct.of pn_java_lang_String (fun m => ef_vo m x) ?_
  intro p e s m below meth c s₁ X0
  have K1 : Keep h0 h0 [] := Keep.refl _ _
  refine Go.getS X0 3 (hw _ (List.mem_of_getElem? (i := 22) rfl)) SC dvo_0 ?_
  intro T2 X2
  refine Go.if0N X2 6 dvo_3 (XT.i0_eq_f hcz) ?_
  refine Go.iloadN X2 7 dvo_6 rfl ?_
  refine Go.callSP X2 10 [(.int x)] [] 0 (hw _ (List.mem_of_getElem? (i := 109) rfl)) (hw _ (List.mem_of_getElem? (i := 110) rfl)) (hw _ (List.mem_of_getElem? (i := 111) rfl)) (by decide) (hw _ (List.mem_of_getElem? (i := 112) rfl)) pd_4 dvo_7 (rm_ceC l Z a0 hw h0 x hx) rfl rfl rfl (Nat.le_of_eq rfl) (by decide) (by decide) (by decide) (by decide) ?_
  intro T3 L3 X3
  refine Go.if0N X3 13 dvo_10 (XT.i0_eq_f (by decide)) ?_
  refine Go.newO X3 16 (hw _ (List.mem_of_getElem? (i := 113) rfl)) (hw _ (List.mem_of_getElem? (i := 10) rfl)) (hw _ (List.mem_of_getElem? (i := 11) rfl)) dvo_13 (by decide) (by decide) ?_
  intro T4 h4 a4 X4 E4 g4 A4 D4
  have nw_a4 : Z.heap.size ≤ a4 := by rw [← g4]; exact X3.le
  have si_a4 : h0.size ≤ a4 := by rw [← g4]; exact K1.1
  have K5 : Keep h0 h4 [] := K1.ext E4
  have F6 : Fld Z h4 a4 "java/lang/String" "coder" "B" (.int (0 : Int32)) := D4 (Or.inr (hw _ (List.mem_of_getElem? (i := 35) rfl))) (ty := .byte) (by decide)
  have F7 : Fld Z h4 a4 "java/lang/String" "value" "[B" .null := D4 (Or.inr (hw _ (List.mem_of_getElem? (i := 37) rfl))) (ty := (.array .byte)) (by decide)
  refine Go.dup X4 17 dvo_16 rfl ?_
  refine Go.iloadN X4 18 dvo_17 rfl ?_
  refine Go.callS X4 21 [(.int x)] [(.ref a4), (.ref a4)] 2 (hw _ (List.mem_of_getElem? (i := 114) rfl)) (hw _ (List.mem_of_getElem? (i := 115) rfl)) (hw _ (List.mem_of_getElem? (i := 111) rfl)) (by decide) (hw _ (List.mem_of_getElem? (i := 116) rfl)) pd_5 dvo_18 (rm_tb1 l Z a0 hw h4 x) rfl rfl rfl (Nat.le_of_eq rfl) (by decide) (by decide) (by decide) (by decide) ?_
  rintro T8 v8 L8 X8 ⟨t, rfl, Kt, gt, B⟩
  show Go p e below _ T8 m 21 #[.val (.int x)] [(.ref t), (.ref a4), (.ref a4)]
  have nw_t : Z.heap.size ≤ t := Nat.le_trans X4.le gt
  have ne_a4_t : a4 ≠ t := Nat.ne_of_lt (Nat.lt_of_lt_of_le A4.lt gt)
  have si_t : h0.size ≤ t := Nat.le_trans K5.1 gt
  have K9 : Keep h0 T8.heap [] := K5.trans Kt all0
  have F10 : Exa Z T8.heap a4 "java/lang/String" := A4.keep Kt
  have F11 : Fld Z T8.heap a4 "java/lang/String" "coder" "B" (.int (0 : Int32)) := F6.keep Kt nin0
  have F12 : Fld Z T8.heap a4 "java/lang/String" "value" "[B" .null := F7.keep Kt nin0
  refine Go.iconst X8 22 (0 : Int32) dvo_21 ?_
  refine Go.callI X8 25 [(.ref t), (.int (0 : Int32))] [(.ref a4)] 1 rfl (hw _ (List.mem_of_getElem? (i := 117) rfl)) (hw _ (List.mem_of_getElem? (i := 118) rfl)) (hw _ (List.mem_of_getElem? (i := 11) rfl)) (by decide) rfl (hw _ (List.mem_of_getElem? (i := 119) rfl)) pd_6 dvo_22 (rm_i2 l Z a0 hw T8.heap a4 t 0 rfl F10 F12 F11 nw_a4) rfl rfl rfl (Nat.le_of_eq rfl) (by decide) (by decide) (by decide) (by decide) ?_
  rintro T13 v13 L13 X13 ⟨rfl, Ki, Ei, Vi, Ci⟩
  show Go p e below _ T13 m 25 #[.val (.int x)] [(.ref a4)]
  have K14 : Keep h0 T13.heap [] := K9.trans Ki (allS (Or.inr si_a4) all0)
  have F15 : Exa Z T13.heap a4 "java/lang/String" := F10.keep Ki
  have F16 : An Z T13.heap t .byte 1 (fun _ => x.toInt8.toInt32) := B.keep Ki (ninS (Ne.symm ne_a4_t) nin0)
  exact Go.retA X13 rfl rfl rfl dvo_25 (X13.fin ⟨_, t, rfl, K14, si_a4, si_t, Ei, Vi, by decide, fun j hj => ⟨hx0, n_le hx⟩, Or.inl ⟨Ci, _, F16, fun j hj => ⟨hx, rfl⟩⟩⟩ (by decide) (by decide))
theorem own_safe {Z : State} {EL : List (String × Nat)} {vm : Vm} {h : Heap} {x : Addr} (hal : Z.vm.Alike vm) (E : Exa Z h x "java/lang/String") (F : Fld Z h x "java/lang/String" "value" "[B" .null) : Safe Z EL vm h x := fun B => by
  obtain ⟨cell, k, e1, e2, e3, -, -⟩ := E
  obtain ⟨cell', cf, kf, i, f, f1, f2, -, -, -, -, f7⟩ := F
  cases e1.symm.trans f1
  obtain ⟨p, -, u, a, -, q, -, S, rfl | rfl⟩ := B
  · have hs : h[q.sa]? = some q.sC := S.ha
    cases hs.symm.trans e1
    obtain ⟨cS, ⟨⟨-, -, -, ⟨c1, k1, i1, g1, -⟩, -, -, -, v1, -⟩, -⟩, -⟩ := S
    obtain ⟨k2, g2, -⟩ := State.fieldFound?_setVm (s := Z) hal f2
    have g3 : (Wst Z vm h).fieldFound? "java/lang/String" "value" "[B" = some (cf, k2, i, f) := g2
    have g4 := g3.symm.trans g1
    simp only [Option.some.injEq, Prod.mk.injEq] at g4
    rw [← g4.2.2.2, f7] at v1
    cases v1
  · have hd : h[q.sd]? = some q.SA := S.hd
    cases hd.symm.trans e1
    obtain ⟨cS, -, -, f8, -⟩ := S
    have f9 : vm.findClass "[B" = some q.SA.cls := f8
    rw [hal.findClass] at f9
    obtain ⟨k1, q1, q2⟩ := Vm.findClass_spec f9
    obtain ⟨k2, q3, q4⟩ := Vm.findClass_spec e2
    cases q1.symm.trans q3
    exact absurd (q2.symm.trans q4) (by decide)
theorem own_an0 {Z : State} {h : Heap} {b : Addr} {k : ClassId} (V : Arv Z h b k .byte (0 : Int32) [] (.int 0)) : An Z h b .byte 0 (fun _ => (0 : Int32)) := ⟨by decide, k, [], .int 0, V, rfl, fun j hj => absurd hj (Nat.not_lt_zero j)⟩
theorem own_atoms {a0 : Array Value} {Z : State} (hw : ∀ d ∈ tables_1, d.before a0 Z = true) : ∀ a ∈ Bundle.stringAtoms, a.before a0 Z = true := fun a ha => hw a (List.all_eq_true.mp (show (Bundle.stringAtoms.all fun d => decide (d ∈ tables_1)) = true from by decide +kernel) a ha |> of_decide_eq_true)
theorem own_EW {a0 : Array Value} {Z : State} (hw : ∀ d ∈ tables_1, d.before a0 Z = true) : EW Z a0 consts_1 := EW.cons (hw _ (List.mem_of_getElem? (i := 122) rfl)) (by decide) EW.nil
set_option maxRecDepth 65536 in
set_option maxHeartbeats 40000000 in
theorem rm_i4e (l : Launch) (Z : State) (a0 : Array Value) (hw : ∀ d ∈ tables_1, d.before a0 Z = true) (h0 : Heap) (a src : Addr) (E : Exa Z h0 a "java/lang/String") (FV : Fld Z h0 a "java/lang/String" "value" "[B" .null) (FC : Fld Z h0 a "java/lang/String" "coder" "B" (.int 0)) (na : Z.heap.size ≤ a) :
    CtW l Z consts_1 [] (⟨"java/lang/String", "<init>", "([CIILjava/lang/Void;)V"⟩ : MethodName) jdk_42_method_149_code 6 none (⟨1, 4, 8, 12⟩ : Room) #[(.ref a), (.ref src), (.int (0 : Int32)), (.int (0 : Int32)), .null] h0 (fun v h' => v = none ∧ ∃ t, Keep h0 h' [a] ∧ ∀ f : Nat → Int32, Str Z h' a t 0 f) := by
  refine CtW.of pn_java_lang_String (fun m => ef_i4 m a src 0 0) ?_
  intro p e s m below meth c s₁ X0 ws0 C0
  have hEL := own_EW hw
  have hS0 : Safe Z consts_1 s.vm h0 a := own_safe X0.hZ.alike E FV
  have K1 : Keep h0 h0 [a] := Keep.refl _ _
  refine Go.aloadN X0 1 di4_0 rfl rfl ?_
  refine Go.initO X0 4 (hw _ (List.mem_of_getElem? (i := 19) rfl)) (hw _ (List.mem_of_getElem? (i := 20) rfl)) (hw _ (List.mem_of_getElem? (i := 21) rfl)) 0 di4_1 rfl (by decide) (by decide) (by decide) ?_
  intro T2 X2
  refine Go.iloadN X2 5 di4_4 rfl ?_
  refine Go.if0N X2 8 di4_5 (XT.i0_ne_f (by decide)) ?_
  refine Go.aloadN X2 9 di4_8 rfl rfl ?_
  refine Go.ldcW X2 11 hEL ws0 C0.1 (hw _ (List.mem_of_getElem? (i := 122) rfl)) (own_atoms hw) (by decide) (vs := []) (z := 0) ⟨by decide, rfl⟩ (by decide) rfl di4_9 (n := 0) (by decide) (by decide) (by decide) (by decide) ?_
  intro T3 h3 vm3 x3 b3 k3 X3 ws3 E3 R3 G3 C3 V3 A3 S3
  have sf3 : Safe Z consts_1 vm3 h3 a := R3.safe E.lt hS0
  have ch3 := C0.trans R3
  have nb3 : b3 ≠ a := Ne.symm (S3 a sf3).2
  have nx3 : x3 ≠ a := Ne.symm (S3 a sf3).1
  have K4 : Keep h0 h3 [a] := K1.ext E3
  have F5 : Exa Z h3 a "java/lang/String" := E.ext E3
  have F6 : Fld Z h3 a "java/lang/String" "value" "[B" .null := FV.ext E3
  have F7 : Fld Z h3 a "java/lang/String" "coder" "B" (.int (0 : Int32)) := FC.ext E3
  have F8 : An Z h3 b3 .byte 0 (fun _ => (0 : Int32)) := own_an0 A3
  refine Go.getF X3 14 (hw _ (List.mem_of_getElem? (i := 36) rfl)) V3 di4_11 ?_
  intro T9 X9
  refine Go.putF X9 17 (hw _ (List.mem_of_getElem? (i := 36) rfl)) F6 F5 (Or.inr ⟨(hw _ (List.mem_of_getElem? (i := 37) rfl)), rfl, rfl⟩) (hw _ (List.mem_of_getElem? (i := 10) rfl)) (ty := (.array .byte)) (by decide) rfl rfl na di4_14 ?_
  intro T10 h10 X10 W10
  have ws11 : WS s vm3 h10 := ws3.le (Nat.le_of_eq W10.size.symm)
  have K12 : Keep h0 h10 [a] := K4.wr W10 (Or.inl (List.mem_of_getElem? (i := 0) rfl))
  have F13 : Exa Z h10 a "java/lang/String" := F5.wr W10
  have F14 : Fld Z h10 a "java/lang/String" "value" "[B" (.ref b3) := F6.same W10
  have F15 : Fld Z h10 a "java/lang/String" "coder" "B" (.int (0 : Int32)) := F7.other W10 (Or.inr (slot_ne (Or.inr (hw _ (List.mem_of_getElem? (i := 35) rfl))) (Or.inr (hw _ (List.mem_of_getElem? (i := 37) rfl))) (by decide) (t := .byte) (t' := (.array .byte)) (by decide) (by decide)))
  have F16 : Fld Z h10 x3 "java/lang/String" "coder" "B" (.int (0 : Int32)) := C3.other W10 (Or.inl nx3)
  have F17 : Fld Z h10 x3 "java/lang/String" "value" "[B" (.ref b3) := V3.other W10 (Or.inl nx3)
  have F18 : An Z h10 b3 .byte 0 (fun _ => (0 : Int32)) := F8.other W10 nb3
  have cw10 := ch3.trans (CHr.wr W10 sf3 ch3.1)
  have sw10 := Safe.wr W10 sf3 ch3.1 sf3
  refine Go.aloadN X10 18 di4_17 rfl rfl ?_
  refine Go.ldcW X10 20 hEL ws11 cw10.1 (hw _ (List.mem_of_getElem? (i := 122) rfl)) (own_atoms hw) (by decide) (vs := []) (z := 0) ⟨by decide, rfl⟩ (by decide) rfl di4_18 (n := 0) (by decide) (by decide) (by decide) (by decide) ?_
  intro T19 h19 vm19 x19 b19 k19 X19 ws19 E19 R19 G19 C19 V19 A19 S19
  have sf19 : Safe Z consts_1 vm19 h19 a := R19.safe F13.lt sw10
  have ch19 := cw10.trans R19
  have nb19 : b19 ≠ a := Ne.symm (S19 a sf19).2
  have nx19 : x19 ≠ a := Ne.symm (S19 a sf19).1
  have K20 : Keep h0 h19 [a] := K12.ext E19
  have F21 : Exa Z h19 a "java/lang/String" := F13.ext E19
  have F22 : Fld Z h19 a "java/lang/String" "value" "[B" (.ref b3) := F14.ext E19
  have F23 : Fld Z h19 a "java/lang/String" "coder" "B" (.int (0 : Int32)) := F15.ext E19
  have F24 : Fld Z h19 x3 "java/lang/String" "coder" "B" (.int (0 : Int32)) := F16.ext E19
  have F25 : Fld Z h19 x3 "java/lang/String" "value" "[B" (.ref b3) := F17.ext E19
  have F26 : An Z h19 b3 .byte 0 (fun _ => (0 : Int32)) := F18.ext E19
  have F27 : An Z h19 b19 .byte 0 (fun _ => (0 : Int32)) := own_an0 A19
  refine Go.getF X19 23 (hw _ (List.mem_of_getElem? (i := 34) rfl)) C19 di4_20 ?_
  intro T28 X28
  refine Go.putF X28 26 (hw _ (List.mem_of_getElem? (i := 34) rfl)) F23 F21 (Or.inr ⟨(hw _ (List.mem_of_getElem? (i := 35) rfl)), rfl, rfl⟩) (hw _ (List.mem_of_getElem? (i := 10) rfl)) (ty := .byte) (by decide) rfl rfl na di4_23 ?_
  intro T29 h29 X29 W29
  have ws30 : WS s vm19 h29 := ws19.le (Nat.le_of_eq W29.size.symm)
  have K31 : Keep h0 h29 [a] := K20.wr W29 (Or.inl (List.mem_of_getElem? (i := 0) rfl))
  have F32 : Exa Z h29 a "java/lang/String" := F21.wr W29
  have F33 : Fld Z h29 a "java/lang/String" "value" "[B" (.ref b3) := F22.other W29 (Or.inr (slot_ne (Or.inr (hw _ (List.mem_of_getElem? (i := 37) rfl))) (Or.inr (hw _ (List.mem_of_getElem? (i := 35) rfl))) (by decide) (t := (.array .byte)) (t' := .byte) (by decide) (by decide)))
  have F34 : Fld Z h29 a "java/lang/String" "coder" "B" (.int (0 : Int32)) := F23.same W29
  have F35 : Fld Z h29 x3 "java/lang/String" "coder" "B" (.int (0 : Int32)) := F24.other W29 (Or.inl nx3)
  have F36 : Fld Z h29 x3 "java/lang/String" "value" "[B" (.ref b3) := F25.other W29 (Or.inl nx3)
  have F37 : An Z h29 b3 .byte 0 (fun _ => (0 : Int32)) := F26.other W29 nb3
  have F38 : Fld Z h29 x19 "java/lang/String" "coder" "B" (.int (0 : Int32)) := C19.other W29 (Or.inl nx19)
  have F39 : Fld Z h29 x19 "java/lang/String" "value" "[B" (.ref b19) := V19.other W29 (Or.inl nx19)
  have F40 : An Z h29 b19 .byte 0 (fun _ => (0 : Int32)) := F27.other W29 nb19
  have cw29 := ch19.trans (CHr.wr W29 sf19 ch19.1)
  have sw29 := Safe.wr W29 sf19 ch19.1 sf19
  exact Go.retV X29 rfl di4_26 (X29.finW hEL ws30 cw29 ⟨rfl, b3, K31, fun f => ⟨F32, F33, by decide, fun j hj => absurd hj (Nat.not_lt_zero j), Or.inl ⟨F34, _, F37, fun j hj => absurd hj (Nat.not_lt_zero j)⟩⟩⟩ (by decide) (by decide))
set_option maxRecDepth 65536 in
set_option maxHeartbeats 40000000 in
theorem rm_i1e (l : Launch) (Z : State) (a0 : Array Value) (hw : ∀ d ∈ tables_1, d.before a0 Z = true) (h0 : Heap) (a src : Addr) (E : Exa Z h0 a "java/lang/String") (FV : Fld Z h0 a "java/lang/String" "value" "[B" .null) (FC : Fld Z h0 a "java/lang/String" "coder" "B" (.int 0)) (na : Z.heap.size ≤ a) (A : An Z h0 src .char 0 (fun _ => (0 : Int32))) :
    CtW l Z consts_1 [] (⟨"java/lang/String", "<init>", "([C)V"⟩ : MethodName) jdk_42_method_3_code 2 none (⟨2, 4, 8, 29⟩ : Room) #[(.ref a), (.ref src)] h0 (fun v h' => v = none ∧ ∃ t, Keep h0 h' [a] ∧ ∀ f : Nat → Int32, Str Z h' a t 0 f) := by
  refine CtW.of pn_java_lang_String (fun m => ef_i1 m a src) ?_
  intro p e s m below meth c s₁ X0 ws0 C0
  have hEL := own_EW hw
  refine Go.aloadN X0 1 di1_0 rfl rfl ?_
  refine Go.aloadN X0 2 di1_1 rfl rfl ?_
  refine Go.iconst X0 3 (0 : Int32) di1_2 ?_
  refine Go.aloadN X0 4 di1_3 rfl rfl ?_
  refine Go.alenN X0 5 A di1_4 ?_
  refine Go.aconst_null X0 6 di1_5 ?_
  refine Go.callIW X0 9 hEL ws0 C0.1 [(.ref src), (.int (0 : Int32)), (.int (Int32.ofNat 0)), .null] [] 0 rfl (hw _ (List.mem_of_getElem? (i := 15) rfl)) (hw _ (List.mem_of_getElem? (i := 16) rfl)) (hw _ (List.mem_of_getElem? (i := 11) rfl)) (by decide) rfl (hw _ (List.mem_of_getElem? (i := 18) rfl)) pd_3 di1_6 (rm_i4e l Z a0 hw h0 a src E FV FC na) rfl rfl rfl (Nat.le_of_eq rfl) (by decide) (by decide) (by decide) (by decide) ?_
  rintro T1 v1 L1 vm1 X1 ws1 R1 ⟨rfl, hq⟩
  show Go p e below _ T1 m 9 #[.val (.ref a), .val (.ref src)] []
  have c9 := C0.trans R1
  exact Go.retV X1 rfl di1_9 (X1.finW hEL ws1 c9 ⟨rfl, hq⟩ (by decide) (by decide))
theorem own_le {x : Int32} (h1 : ¬ 255 < x) : x.toInt < 65536 := by
  rw [Int32.lt_iff_toInt_lt] at h1
  have e : (255 : Int32).toInt = 255 := by decide
  omega
theorem own_rng {x : Int32} (h0 : 0 ≤ x.toInt) (h1 : x.toInt < 256) : 0 ≤ x.toInt ∧ ¬ 255 < x := by
  refine ⟨h0, ?_⟩
  rw [Int32.lt_iff_toInt_lt]
  have e : (255 : Int32).toInt = 255 := by decide
  omega
theorem own_nr {x : Int32} (h0 : 0 ≤ x.toInt) (h1 : x.toInt < 65536) : nar .char x = x := n_chr h0 h1
theorem own_ne58 {x : Int32} (h1 : ¬ x.toInt = 58) : ¬ x = 58 := fun q => h1 (by rw [q]; decide)
def AllC (n : Nat) (f : Nat → Int32) : Prop := ∀ j, j < n → 0 ≤ (f j).toInt ∧ ¬ 255 < f j
theorem AllC.z {n : Nat} : AllC n (fun _ => (0 : Int32)) := fun j hj => ⟨(by decide : 0 ≤ (0 : Int32).toInt), (by decide : ¬ 255 < (0 : Int32))⟩
theorem AllC.u {n i : Nat} {f : Nat → Int32} {x : Int32} (A : AllC n f) (h : 0 ≤ x.toInt ∧ ¬ 255 < x) : AllC n (upd f i x) := fun j hj => by
  unfold upd
  split
  · exact h
  · exact A j hj
theorem NoC.z {n : Nat} : ∀ j, j < n → ¬ (fun _ => (0 : Int32)) j = 58 := fun j hj => (by decide : ¬ (0 : Int32) = 58)
theorem NoC.u {n i : Nat} {f : Nat → Int32} {x : Int32} (A : ∀ j, j < n → ¬ f j = 58) (h : ¬ x = 58) : ∀ j, j < n → ¬ upd f i x j = 58 := fun j hj => by
  unfold upd
  split
  · exact h
  · exact A j hj
theorem own_k5 (x : Int32) : (x &&& 2147483647) % 5 = 0 ∨ (x &&& 2147483647) % 5 = 1 ∨ (x &&& 2147483647) % 5 = 2 ∨ (x &&& 2147483647) % 5 = 3 ∨ (x &&& 2147483647) % 5 = 4 := by
  have h1 := c_mask x 2147483647 31 (by decide) (by decide)
  have h2 := (c_irem (x &&& 2147483647) 5 5 (by decide)).1 (by omega)
  simp only [← Int32.toInt_inj]
  have e0 : (0 : Int32).toInt = 0 := by decide
  have e1 : (1 : Int32).toInt = 1 := by decide
  have e2 : (2 : Int32).toInt = 2 := by decide
  have e3 : (3 : Int32).toInt = 3 := by decide
  have e4 : (4 : Int32).toInt = 4 := by decide
  rw [e0, e1, e2, e3, e4, h2]
  omega
theorem own_k4 (x : Int32) : (x &&& 3) = 0 ∨ (x &&& 3) = 1 ∨ (x &&& 3) = 2 ∨ (x &&& 3) = 3 := by
  have h1 := c_and x 3 (by decide)
  simp only [← Int32.toInt_inj]
  have e0 : (0 : Int32).toInt = 0 := by decide
  have e1 : (1 : Int32).toInt = 1 := by decide
  have e2 : (2 : Int32).toInt = 2 := by decide
  have e3 : (3 : Int32).toInt = 3 := by decide
  rw [e0, e1, e2, e3]
  rw [e3] at h1
  omega
theorem own_255 (x : Int32) : 0 ≤ (x &&& 255).toInt ∧ ¬ 255 < (x &&& 255) := by
  have e : (255 : Int32).toInt = 255 := by decide
  have := c_and x 255 (by decide)
  rw [Int32.lt_iff_toInt_lt, e]
  rw [e] at this
  omega
theorem pn_com_example_ripieno_ripieno_engine_VerdictTimedOutPinLaw : plainName "com/example/ripieno/ripieno/engine/VerdictTimedOutPinLaw" = true := by first | (simp [plainName, overriddenIn]; done) | decide +kernel
theorem dk_0 : decode method_2_code 0 = .ok (.iload_n 0, 1) := by decide +kernel
theorem dk_1 : decode method_2_code 1 = .ok (.ifCond .ne 7, 3) := by decide +kernel
theorem dk_4 : decode method_2_code 4 = .ok (.getstatic 7, 3) := by decide +kernel
theorem dk_7 : decode method_2_code 7 = .ok (.areturn, 1) := by decide +kernel
theorem dk_8 : decode method_2_code 8 = .ok (.iload_n 0, 1) := by decide +kernel
theorem dk_9 : decode method_2_code 9 = .ok (.iconst 1, 1) := by decide +kernel
theorem dk_10 : decode method_2_code 10 = .ok (.if_icmp .ne 7, 3) := by decide +kernel
theorem dk_13 : decode method_2_code 13 = .ok (.getstatic 13, 3) := by decide +kernel
theorem dk_16 : decode method_2_code 16 = .ok (.areturn, 1) := by decide +kernel
theorem dk_17 : decode method_2_code 17 = .ok (.iload_n 0, 1) := by decide +kernel
theorem dk_18 : decode method_2_code 18 = .ok (.iconst 2, 1) := by decide +kernel
theorem dk_19 : decode method_2_code 19 = .ok (.if_icmp .ne 7, 3) := by decide +kernel
theorem dk_22 : decode method_2_code 22 = .ok (.getstatic 16, 3) := by decide +kernel
theorem dk_25 : decode method_2_code 25 = .ok (.areturn, 1) := by decide +kernel
theorem dk_26 : decode method_2_code 26 = .ok (.iload_n 0, 1) := by decide +kernel
theorem dk_27 : decode method_2_code 27 = .ok (.iconst 3, 1) := by decide +kernel
theorem dk_28 : decode method_2_code 28 = .ok (.if_icmp .ne 7, 3) := by decide +kernel
theorem dk_31 : decode method_2_code 31 = .ok (.getstatic 19, 3) := by decide +kernel
theorem dk_34 : decode method_2_code 34 = .ok (.areturn, 1) := by decide +kernel
theorem dk_35 : decode method_2_code 35 = .ok (.getstatic 22, 3) := by decide +kernel
theorem dk_38 : decode method_2_code 38 = .ok (.areturn, 1) := by decide +kernel
theorem ef_k (m : MethodId) (z : Int32) : entryFrame m #[(.int z)] 1 = mkF m 0 #[.val (.int z)] [] := by first | (simp [entryFrame, mkF, argsToLocals, Value.category]; done) | rfl
set_option maxRecDepth 65536 in
set_option maxHeartbeats 40000000 in
theorem rm_k (l : Launch) (Z : State) (a0 : Array Value) (hw : ∀ d ∈ tables_1, d.before a0 Z = true) (h0 : Heap) (b0 : Addr) (b1 : Addr) (b2 : Addr) (b3 : Addr) (b4 : Addr) (B0 : Sta Z Z.heap "com/example/ripieno/ripieno/engine/Review$Verdict$Kind" "GO_ON" "Lcom/example/ripieno/ripieno/engine/Review$Verdict$Kind;" (.ref b0)) (B1 : Sta Z Z.heap "com/example/ripieno/ripieno/engine/Review$Verdict$Kind" "REPLACE" "Lcom/example/ripieno/ripieno/engine/Review$Verdict$Kind;" (.ref b1)) (B2 : Sta Z Z.heap "com/example/ripieno/ripieno/engine/Review$Verdict$Kind" "STOP" "Lcom/example/ripieno/ripieno/engine/Review$Verdict$Kind;" (.ref b2)) (B3 : Sta Z Z.heap "com/example/ripieno/ripieno/engine/Review$Verdict$Kind" "FAIL" "Lcom/example/ripieno/ripieno/engine/Review$Verdict$Kind;" (.ref b3)) (B4 : Sta Z Z.heap "com/example/ripieno/ripieno/engine/Review$Verdict$Kind" "WITHDRAWN" "Lcom/example/ripieno/ripieno/engine/Review$Verdict$Kind;" (.ref b4)) (z : Int32) :
    Ct l Z [] (⟨"com/example/ripieno/ripieno/engine/VerdictTimedOutPinLaw", "kindOf", "(I)Lcom/example/ripieno/ripieno/engine/Review$Verdict$Kind;"⟩ : MethodName) method_2_code 1 (some (.object "com/example/ripieno/ripieno/engine/Review$Verdict$Kind")) (⟨0, 0, 0, 0⟩ : Room) #[(.int z)] h0 (fun v h' => h' = h0 ∧ ∃ a, v = some (.ref a)) := by
  refine Ct.of pn_com_example_ripieno_ripieno_engine_VerdictTimedOutPinLaw (fun m => ef_k m z) ?_
  intro p e s m below meth c s₁ X0
  refine Go.iloadN X0 1 dk_0 rfl ?_
  by_cases c1 : z = 0
  · skip
    refine Go.if0N X0 4 dk_1 (XT.i0_ne_f c1) ?_
    refine Go.getS X0 7 (hw _ (List.mem_of_getElem? (i := 5) rfl)) B0 dk_4 ?_
    intro T2 X2
    exact Go.retA X2 rfl rfl rfl dk_7 (X2.fin ⟨rfl, _, rfl⟩ (by decide) (by decide))
  · skip
    refine Go.if0Y X0 8 dk_1 (XT.i0_ne_t c1) ?_
    refine Go.iloadN X0 9 dk_8 rfl ?_
    refine Go.iconst X0 10 (1 : Int32) dk_9 ?_
    by_cases c3 : z = (1 : Int32)
    · skip
      refine Go.icmpN X0 13 dk_10 (XT.ii_ne_f c3) ?_
      refine Go.getS X0 16 (hw _ (List.mem_of_getElem? (i := 120) rfl)) B1 dk_13 ?_
      intro T4 X4
      exact Go.retA X4 rfl rfl rfl dk_16 (X4.fin ⟨rfl, _, rfl⟩ (by decide) (by decide))
    · skip
      refine Go.icmpY X0 17 dk_10 (XT.ii_ne_t c3) ?_
      refine Go.iloadN X0 18 dk_17 rfl ?_
      refine Go.iconst X0 19 (2 : Int32) dk_18 ?_
      by_cases c5 : z = (2 : Int32)
      · skip
        refine Go.icmpN X0 22 dk_19 (XT.ii_ne_f c5) ?_
        refine Go.getS X0 25 (hw _ (List.mem_of_getElem? (i := 102) rfl)) B2 dk_22 ?_
        intro T6 X6
        exact Go.retA X6 rfl rfl rfl dk_25 (X6.fin ⟨rfl, _, rfl⟩ (by decide) (by decide))
      · skip
        refine Go.icmpY X0 26 dk_19 (XT.ii_ne_t c5) ?_
        refine Go.iloadN X0 27 dk_26 rfl ?_
        refine Go.iconst X0 28 (3 : Int32) dk_27 ?_
        by_cases c7 : z = (3 : Int32)
        · skip
          refine Go.icmpN X0 31 dk_28 (XT.ii_ne_f c7) ?_
          refine Go.getS X0 34 (hw _ (List.mem_of_getElem? (i := 100) rfl)) B3 dk_31 ?_
          intro T8 X8
          exact Go.retA X8 rfl rfl rfl dk_34 (X8.fin ⟨rfl, _, rfl⟩ (by decide) (by decide))
        · skip
          refine Go.icmpY X0 35 dk_28 (XT.ii_ne_t c7) ?_
          refine Go.getS X0 38 (hw _ (List.mem_of_getElem? (i := 104) rfl)) B4 dk_35 ?_
          intro T9 X9
          exact Go.retA X9 rfl rfl rfl dk_38 (X9.fin ⟨rfl, _, rfl⟩ (by decide) (by decide))
theorem pn_com_example_ripieno_ripieno_engine_Review_Verdict : plainName "com/example/ripieno/ripieno/engine/Review$Verdict" = true := by first | (simp [plainName, overriddenIn]; done) | decide +kernel
theorem dviN_0 : decode prog_50_method_2_code 0 = .ok (.aload_n 0, 1) := by decide +kernel
theorem dviN_1 : decode prog_50_method_2_code 1 = .ok (.invokespecial 7, 3) := by decide +kernel
theorem dviN_4 : decode prog_50_method_2_code 4 = .ok (.aload_n 0, 1) := by decide +kernel
theorem dviN_5 : decode prog_50_method_2_code 5 = .ok (.aload_n 1, 1) := by decide +kernel
theorem dviN_6 : decode prog_50_method_2_code 6 = .ok (.putfield 12, 3) := by decide +kernel
theorem dviN_9 : decode prog_50_method_2_code 9 = .ok (.aload_n 0, 1) := by decide +kernel
theorem dviN_10 : decode prog_50_method_2_code 10 = .ok (.aload_n 2, 1) := by decide +kernel
theorem dviN_11 : decode prog_50_method_2_code 11 = .ok (.putfield 16, 3) := by decide +kernel
theorem dviN_14 : decode prog_50_method_2_code 14 = .ok (.aload_n 0, 1) := by decide +kernel
theorem dviN_15 : decode prog_50_method_2_code 15 = .ok (.iload_n 3, 1) := by decide +kernel
theorem dviN_16 : decode prog_50_method_2_code 16 = .ok (.putfield 20, 3) := by decide +kernel
theorem dviN_19 : decode prog_50_method_2_code 19 = .ok (.aload_n 0, 1) := by decide +kernel
theorem dviN_20 : decode prog_50_method_2_code 20 = .ok (.aload 4, 2) := by decide +kernel
theorem dviN_22 : decode prog_50_method_2_code 22 = .ok (.putfield 24, 3) := by decide +kernel
theorem dviN_25 : decode prog_50_method_2_code 25 = .ok (.aload_n 0, 1) := by decide +kernel
theorem dviN_26 : decode prog_50_method_2_code 26 = .ok (.aload 5, 2) := by decide +kernel
theorem dviN_28 : decode prog_50_method_2_code 28 = .ok (.putfield 28, 3) := by decide +kernel
theorem dviN_31 : decode prog_50_method_2_code 31 = .ok (.return_, 1) := by decide +kernel
theorem ef_viN (m : MethodId) (a : Addr) (k : Addr) (z : Int32) : entryFrame m #[(.ref a), (.ref k), .null, (.int z), .null, .null] 6 = mkF m 0 #[.val (.ref a), .val (.ref k), .val .null, .val (.int z), .val .null, .val .null] [] := by first | (simp [entryFrame, mkF, argsToLocals, Value.category]; done) | rfl
set_option maxRecDepth 65536 in
set_option maxHeartbeats 40000000 in
theorem rm_viN (l : Launch) (Z : State) (a0 : Array Value) (hw : ∀ d ∈ tables_1, d.before a0 Z = true) (h0 : Heap) (a k : Addr) (z : Int32) (hz : z = 1) (E : Exa Z h0 a "com/example/ripieno/ripieno/engine/Review$Verdict") (F0 : Fld Z h0 a "com/example/ripieno/ripieno/engine/Review$Verdict" "kind" "Lcom/example/ripieno/ripieno/engine/Review$Verdict$Kind;" .null) (F1 : Fld Z h0 a "com/example/ripieno/ripieno/engine/Review$Verdict" "decision" "Lcom/example/ripieno/ripieno/engine/ReviewDecision;" .null) (F2 : Fld Z h0 a "com/example/ripieno/ripieno/engine/Review$Verdict" "timedOut" "Z" (.int 0)) (F3 : Fld Z h0 a "com/example/ripieno/ripieno/engine/Review$Verdict" "failure" "Ljava/lang/String;" .null) (F4 : Fld Z h0 a "com/example/ripieno/ripieno/engine/Review$Verdict" "cause" "Ljava/lang/Throwable;" .null) (na : Z.heap.size ≤ a) :
    Ct l Z [] (⟨"com/example/ripieno/ripieno/engine/Review$Verdict", "<init>", "(Lcom/example/ripieno/ripieno/engine/Review$Verdict$Kind;Lcom/example/ripieno/ripieno/engine/ReviewDecision;ZLjava/lang/String;Ljava/lang/Throwable;)V"⟩ : MethodName) prog_50_method_2_code 6 none (⟨1, 0, 0, 12⟩ : Room) #[(.ref a), (.ref k), .null, (.int z), .null, .null] h0 (fun v h' => v = none ∧ Keep h0 h' [a] ∧ Exa Z h' a "com/example/ripieno/ripieno/engine/Review$Verdict" ∧ Fld Z h' a "com/example/ripieno/ripieno/engine/Review$Verdict" "kind" "Lcom/example/ripieno/ripieno/engine/Review$Verdict$Kind;" (.ref k) ∧ Fld Z h' a "com/example/ripieno/ripieno/engine/Review$Verdict" "decision" "Lcom/example/ripieno/ripieno/engine/ReviewDecision;" .null ∧ Fld Z h' a "com/example/ripieno/ripieno/engine/Review$Verdict" "timedOut" "Z" (.int 1) ∧ Fld Z h' a "com/example/ripieno/ripieno/engine/Review$Verdict" "failure" "Ljava/lang/String;" .null ∧ Fld Z h' a "com/example/ripieno/ripieno/engine/Review$Verdict" "cause" "Ljava/lang/Throwable;" .null) := by
  refine Ct.of pn_com_example_ripieno_ripieno_engine_Review_Verdict (fun m => ef_viN m a k z) ?_
  intro p e s m below meth c s₁ X0
  subst hz
  have K11 : Keep h0 h0 [a] := Keep.refl _ _
  refine Go.aloadN X0 1 dviN_0 rfl rfl ?_
  refine Go.initO X0 4 (hw _ (List.mem_of_getElem? (i := 47) rfl)) (hw _ (List.mem_of_getElem? (i := 20) rfl)) (hw _ (List.mem_of_getElem? (i := 21) rfl)) 0 dviN_1 rfl (by decide) (by decide) (by decide) ?_
  intro T12 X12
  refine Go.aloadN X12 5 dviN_4 rfl rfl ?_
  refine Go.aloadN X12 6 dviN_5 rfl rfl ?_
  refine Go.putF X12 9 (hw _ (List.mem_of_getElem? (i := 48) rfl)) F0 E (Or.inr ⟨(hw _ (List.mem_of_getElem? (i := 49) rfl)), rfl, rfl⟩) (hw _ (List.mem_of_getElem? (i := 43) rfl)) (ty := (.object "com/example/ripieno/ripieno/engine/Review$Verdict$Kind")) (by decide) rfl rfl na dviN_6 ?_
  intro T13 h13 X13 W13
  have K14 : Keep h0 h13 [a] := K11.wr W13 (Or.inl (List.mem_of_getElem? (i := 0) rfl))
  have F15 : Exa Z h13 a "com/example/ripieno/ripieno/engine/Review$Verdict" := E.wr W13
  have F16 : Fld Z h13 a "com/example/ripieno/ripieno/engine/Review$Verdict" "kind" "Lcom/example/ripieno/ripieno/engine/Review$Verdict$Kind;" (.ref k) := F0.same W13
  have F17 : Fld Z h13 a "com/example/ripieno/ripieno/engine/Review$Verdict" "decision" "Lcom/example/ripieno/ripieno/engine/ReviewDecision;" .null := F1.other W13 (Or.inr (slot_ne (Or.inr (hw _ (List.mem_of_getElem? (i := 51) rfl))) (Or.inr (hw _ (List.mem_of_getElem? (i := 49) rfl))) (by decide) (t := (.object "com/example/ripieno/ripieno/engine/ReviewDecision")) (t' := (.object "com/example/ripieno/ripieno/engine/Review$Verdict$Kind")) (by decide) (by decide)))
  have F18 : Fld Z h13 a "com/example/ripieno/ripieno/engine/Review$Verdict" "timedOut" "Z" (.int (0 : Int32)) := F2.other W13 (Or.inr (slot_ne (Or.inr (hw _ (List.mem_of_getElem? (i := 53) rfl))) (Or.inr (hw _ (List.mem_of_getElem? (i := 49) rfl))) (by decide) (t := .boolean) (t' := (.object "com/example/ripieno/ripieno/engine/Review$Verdict$Kind")) (by decide) (by decide)))
  have F19 : Fld Z h13 a "com/example/ripieno/ripieno/engine/Review$Verdict" "failure" "Ljava/lang/String;" .null := F3.other W13 (Or.inr (slot_ne (Or.inr (hw _ (List.mem_of_getElem? (i := 55) rfl))) (Or.inr (hw _ (List.mem_of_getElem? (i := 49) rfl))) (by decide) (t := (.object "java/lang/String")) (t' := (.object "com/example/ripieno/ripieno/engine/Review$Verdict$Kind")) (by decide) (by decide)))
  have F20 : Fld Z h13 a "com/example/ripieno/ripieno/engine/Review$Verdict" "cause" "Ljava/lang/Throwable;" .null := F4.other W13 (Or.inr (slot_ne (Or.inr (hw _ (List.mem_of_getElem? (i := 57) rfl))) (Or.inr (hw _ (List.mem_of_getElem? (i := 49) rfl))) (by decide) (t := (.object "java/lang/Throwable")) (t' := (.object "com/example/ripieno/ripieno/engine/Review$Verdict$Kind")) (by decide) (by decide)))
  refine Go.aloadN X13 10 dviN_9 rfl rfl ?_
  refine Go.aloadN X13 11 dviN_10 rfl rfl ?_
  refine Go.putF X13 14 (hw _ (List.mem_of_getElem? (i := 50) rfl)) F17 F15 (Or.inr ⟨(hw _ (List.mem_of_getElem? (i := 51) rfl)), rfl, rfl⟩) (hw _ (List.mem_of_getElem? (i := 43) rfl)) (ty := (.object "com/example/ripieno/ripieno/engine/ReviewDecision")) (by decide) rfl rfl na dviN_11 ?_
  intro T21 h21 X21 W21
  have K22 : Keep h0 h21 [a] := K14.wr W21 (Or.inl (List.mem_of_getElem? (i := 0) rfl))
  have F23 : Exa Z h21 a "com/example/ripieno/ripieno/engine/Review$Verdict" := F15.wr W21
  have F24 : Fld Z h21 a "com/example/ripieno/ripieno/engine/Review$Verdict" "kind" "Lcom/example/ripieno/ripieno/engine/Review$Verdict$Kind;" (.ref k) := F16.other W21 (Or.inr (slot_ne (Or.inr (hw _ (List.mem_of_getElem? (i := 49) rfl))) (Or.inr (hw _ (List.mem_of_getElem? (i := 51) rfl))) (by decide) (t := (.object "com/example/ripieno/ripieno/engine/Review$Verdict$Kind")) (t' := (.object "com/example/ripieno/ripieno/engine/ReviewDecision")) (by decide) (by decide)))
  have F25 : Fld Z h21 a "com/example/ripieno/ripieno/engine/Review$Verdict" "decision" "Lcom/example/ripieno/ripieno/engine/ReviewDecision;" .null := F17.same W21
  have F26 : Fld Z h21 a "com/example/ripieno/ripieno/engine/Review$Verdict" "timedOut" "Z" (.int (0 : Int32)) := F18.other W21 (Or.inr (slot_ne (Or.inr (hw _ (List.mem_of_getElem? (i := 53) rfl))) (Or.inr (hw _ (List.mem_of_getElem? (i := 51) rfl))) (by decide) (t := .boolean) (t' := (.object "com/example/ripieno/ripieno/engine/ReviewDecision")) (by decide) (by decide)))
  have F27 : Fld Z h21 a "com/example/ripieno/ripieno/engine/Review$Verdict" "failure" "Ljava/lang/String;" .null := F19.other W21 (Or.inr (slot_ne (Or.inr (hw _ (List.mem_of_getElem? (i := 55) rfl))) (Or.inr (hw _ (List.mem_of_getElem? (i := 51) rfl))) (by decide) (t := (.object "java/lang/String")) (t' := (.object "com/example/ripieno/ripieno/engine/ReviewDecision")) (by decide) (by decide)))
  have F28 : Fld Z h21 a "com/example/ripieno/ripieno/engine/Review$Verdict" "cause" "Ljava/lang/Throwable;" .null := F20.other W21 (Or.inr (slot_ne (Or.inr (hw _ (List.mem_of_getElem? (i := 57) rfl))) (Or.inr (hw _ (List.mem_of_getElem? (i := 51) rfl))) (by decide) (t := (.object "java/lang/Throwable")) (t' := (.object "com/example/ripieno/ripieno/engine/ReviewDecision")) (by decide) (by decide)))
  refine Go.aloadN X21 15 dviN_14 rfl rfl ?_
  refine Go.iloadN X21 16 dviN_15 rfl ?_
  refine Go.putF X21 19 (hw _ (List.mem_of_getElem? (i := 52) rfl)) F26 F23 (Or.inr ⟨(hw _ (List.mem_of_getElem? (i := 53) rfl)), rfl, rfl⟩) (hw _ (List.mem_of_getElem? (i := 43) rfl)) (ty := .boolean) (by decide) rfl rfl na dviN_16 ?_
  intro T29 h29 X29 W29
  have K30 : Keep h0 h29 [a] := K22.wr W29 (Or.inl (List.mem_of_getElem? (i := 0) rfl))
  have F31 : Exa Z h29 a "com/example/ripieno/ripieno/engine/Review$Verdict" := F23.wr W29
  have F32 : Fld Z h29 a "com/example/ripieno/ripieno/engine/Review$Verdict" "kind" "Lcom/example/ripieno/ripieno/engine/Review$Verdict$Kind;" (.ref k) := F24.other W29 (Or.inr (slot_ne (Or.inr (hw _ (List.mem_of_getElem? (i := 49) rfl))) (Or.inr (hw _ (List.mem_of_getElem? (i := 53) rfl))) (by decide) (t := (.object "com/example/ripieno/ripieno/engine/Review$Verdict$Kind")) (t' := .boolean) (by decide) (by decide)))
  have F33 : Fld Z h29 a "com/example/ripieno/ripieno/engine/Review$Verdict" "decision" "Lcom/example/ripieno/ripieno/engine/ReviewDecision;" .null := F25.other W29 (Or.inr (slot_ne (Or.inr (hw _ (List.mem_of_getElem? (i := 51) rfl))) (Or.inr (hw _ (List.mem_of_getElem? (i := 53) rfl))) (by decide) (t := (.object "com/example/ripieno/ripieno/engine/ReviewDecision")) (t' := .boolean) (by decide) (by decide)))
  have F34 : Fld Z h29 a "com/example/ripieno/ripieno/engine/Review$Verdict" "timedOut" "Z" (.int (1 : Int32)) := F26.same W29
  have F35 : Fld Z h29 a "com/example/ripieno/ripieno/engine/Review$Verdict" "failure" "Ljava/lang/String;" .null := F27.other W29 (Or.inr (slot_ne (Or.inr (hw _ (List.mem_of_getElem? (i := 55) rfl))) (Or.inr (hw _ (List.mem_of_getElem? (i := 53) rfl))) (by decide) (t := (.object "java/lang/String")) (t' := .boolean) (by decide) (by decide)))
  have F36 : Fld Z h29 a "com/example/ripieno/ripieno/engine/Review$Verdict" "cause" "Ljava/lang/Throwable;" .null := F28.other W29 (Or.inr (slot_ne (Or.inr (hw _ (List.mem_of_getElem? (i := 57) rfl))) (Or.inr (hw _ (List.mem_of_getElem? (i := 53) rfl))) (by decide) (t := (.object "java/lang/Throwable")) (t' := .boolean) (by decide) (by decide)))
  refine Go.aloadN X29 20 dviN_19 rfl rfl ?_
  refine Go.aload X29 22 dviN_20 rfl rfl ?_
  refine Go.putF X29 25 (hw _ (List.mem_of_getElem? (i := 54) rfl)) F35 F31 (Or.inr ⟨(hw _ (List.mem_of_getElem? (i := 55) rfl)), rfl, rfl⟩) (hw _ (List.mem_of_getElem? (i := 43) rfl)) (ty := (.object "java/lang/String")) (by decide) rfl rfl na dviN_22 ?_
  intro T37 h37 X37 W37
  have K38 : Keep h0 h37 [a] := K30.wr W37 (Or.inl (List.mem_of_getElem? (i := 0) rfl))
  have F39 : Exa Z h37 a "com/example/ripieno/ripieno/engine/Review$Verdict" := F31.wr W37
  have F40 : Fld Z h37 a "com/example/ripieno/ripieno/engine/Review$Verdict" "kind" "Lcom/example/ripieno/ripieno/engine/Review$Verdict$Kind;" (.ref k) := F32.other W37 (Or.inr (slot_ne (Or.inr (hw _ (List.mem_of_getElem? (i := 49) rfl))) (Or.inr (hw _ (List.mem_of_getElem? (i := 55) rfl))) (by decide) (t := (.object "com/example/ripieno/ripieno/engine/Review$Verdict$Kind")) (t' := (.object "java/lang/String")) (by decide) (by decide)))
  have F41 : Fld Z h37 a "com/example/ripieno/ripieno/engine/Review$Verdict" "decision" "Lcom/example/ripieno/ripieno/engine/ReviewDecision;" .null := F33.other W37 (Or.inr (slot_ne (Or.inr (hw _ (List.mem_of_getElem? (i := 51) rfl))) (Or.inr (hw _ (List.mem_of_getElem? (i := 55) rfl))) (by decide) (t := (.object "com/example/ripieno/ripieno/engine/ReviewDecision")) (t' := (.object "java/lang/String")) (by decide) (by decide)))
  have F42 : Fld Z h37 a "com/example/ripieno/ripieno/engine/Review$Verdict" "timedOut" "Z" (.int (1 : Int32)) := F34.other W37 (Or.inr (slot_ne (Or.inr (hw _ (List.mem_of_getElem? (i := 53) rfl))) (Or.inr (hw _ (List.mem_of_getElem? (i := 55) rfl))) (by decide) (t := .boolean) (t' := (.object "java/lang/String")) (by decide) (by decide)))
  have F43 : Fld Z h37 a "com/example/ripieno/ripieno/engine/Review$Verdict" "failure" "Ljava/lang/String;" .null := F35.same W37
  have F44 : Fld Z h37 a "com/example/ripieno/ripieno/engine/Review$Verdict" "cause" "Ljava/lang/Throwable;" .null := F36.other W37 (Or.inr (slot_ne (Or.inr (hw _ (List.mem_of_getElem? (i := 57) rfl))) (Or.inr (hw _ (List.mem_of_getElem? (i := 55) rfl))) (by decide) (t := (.object "java/lang/Throwable")) (t' := (.object "java/lang/String")) (by decide) (by decide)))
  refine Go.aloadN X37 26 dviN_25 rfl rfl ?_
  refine Go.aload X37 28 dviN_26 rfl rfl ?_
  refine Go.putF X37 31 (hw _ (List.mem_of_getElem? (i := 56) rfl)) F44 F39 (Or.inr ⟨(hw _ (List.mem_of_getElem? (i := 57) rfl)), rfl, rfl⟩) (hw _ (List.mem_of_getElem? (i := 43) rfl)) (ty := (.object "java/lang/Throwable")) (by decide) rfl rfl na dviN_28 ?_
  intro T45 h45 X45 W45
  have K46 : Keep h0 h45 [a] := K38.wr W45 (Or.inl (List.mem_of_getElem? (i := 0) rfl))
  have F47 : Exa Z h45 a "com/example/ripieno/ripieno/engine/Review$Verdict" := F39.wr W45
  have F48 : Fld Z h45 a "com/example/ripieno/ripieno/engine/Review$Verdict" "kind" "Lcom/example/ripieno/ripieno/engine/Review$Verdict$Kind;" (.ref k) := F40.other W45 (Or.inr (slot_ne (Or.inr (hw _ (List.mem_of_getElem? (i := 49) rfl))) (Or.inr (hw _ (List.mem_of_getElem? (i := 57) rfl))) (by decide) (t := (.object "com/example/ripieno/ripieno/engine/Review$Verdict$Kind")) (t' := (.object "java/lang/Throwable")) (by decide) (by decide)))
  have F49 : Fld Z h45 a "com/example/ripieno/ripieno/engine/Review$Verdict" "decision" "Lcom/example/ripieno/ripieno/engine/ReviewDecision;" .null := F41.other W45 (Or.inr (slot_ne (Or.inr (hw _ (List.mem_of_getElem? (i := 51) rfl))) (Or.inr (hw _ (List.mem_of_getElem? (i := 57) rfl))) (by decide) (t := (.object "com/example/ripieno/ripieno/engine/ReviewDecision")) (t' := (.object "java/lang/Throwable")) (by decide) (by decide)))
  have F50 : Fld Z h45 a "com/example/ripieno/ripieno/engine/Review$Verdict" "timedOut" "Z" (.int (1 : Int32)) := F42.other W45 (Or.inr (slot_ne (Or.inr (hw _ (List.mem_of_getElem? (i := 53) rfl))) (Or.inr (hw _ (List.mem_of_getElem? (i := 57) rfl))) (by decide) (t := .boolean) (t' := (.object "java/lang/Throwable")) (by decide) (by decide)))
  have F51 : Fld Z h45 a "com/example/ripieno/ripieno/engine/Review$Verdict" "failure" "Ljava/lang/String;" .null := F43.other W45 (Or.inr (slot_ne (Or.inr (hw _ (List.mem_of_getElem? (i := 55) rfl))) (Or.inr (hw _ (List.mem_of_getElem? (i := 57) rfl))) (by decide) (t := (.object "java/lang/String")) (t' := (.object "java/lang/Throwable")) (by decide) (by decide)))
  have F52 : Fld Z h45 a "com/example/ripieno/ripieno/engine/Review$Verdict" "cause" "Ljava/lang/Throwable;" .null := F44.same W45
  exact Go.retV X45 rfl dviN_31 (X45.fin ⟨rfl, K46, F47, F48, F49, F50, F51, F52⟩ (by decide) (by decide))
theorem dtoN_0 : decode prog_50_method_3_code 0 = .ok (.new 2, 3) := by decide +kernel
theorem dtoN_3 : decode prog_50_method_3_code 3 = .ok (.dup, 1) := by decide +kernel
theorem dtoN_4 : decode prog_50_method_3_code 4 = .ok (.aload_n 0, 1) := by decide +kernel
theorem dtoN_5 : decode prog_50_method_3_code 5 = .ok (.aconst_null, 1) := by decide +kernel
theorem dtoN_6 : decode prog_50_method_3_code 6 = .ok (.iconst 1, 1) := by decide +kernel
theorem dtoN_7 : decode prog_50_method_3_code 7 = .ok (.aload_n 1, 1) := by decide +kernel
theorem dtoN_8 : decode prog_50_method_3_code 8 = .ok (.aconst_null, 1) := by decide +kernel
theorem dtoN_9 : decode prog_50_method_3_code 9 = .ok (.invokespecial 1, 3) := by decide +kernel
theorem dtoN_12 : decode prog_50_method_3_code 12 = .ok (.areturn, 1) := by decide +kernel
theorem ef_toN (m : MethodId) (k : Addr) : entryFrame m #[(.ref k), .null] 2 = mkF m 0 #[.val (.ref k), .val .null] [] := by first | (simp [entryFrame, mkF, argsToLocals, Value.category]; done) | rfl
set_option maxRecDepth 65536 in
set_option maxHeartbeats 40000000 in
theorem rm_toN (l : Launch) (Z : State) (a0 : Array Value) (hw : ∀ d ∈ tables_1, d.before a0 Z = true) (h0 : Heap) (k : Addr) :
    Ct l Z [] (⟨"com/example/ripieno/ripieno/engine/Review$Verdict", "timedOut", "(Lcom/example/ripieno/ripieno/engine/Review$Verdict$Kind;Ljava/lang/String;)Lcom/example/ripieno/ripieno/engine/Review$Verdict;"⟩ : MethodName) prog_50_method_3_code 2 (some (.object "com/example/ripieno/ripieno/engine/Review$Verdict")) (⟨2, 1, 5, 30⟩ : Room) #[(.ref k), .null] h0 (fun v h' => ∃ a, v = some (.ref a) ∧ Keep h0 h' [] ∧ h0.size ≤ a ∧ Exa Z h' a "com/example/ripieno/ripieno/engine/Review$Verdict" ∧ Fld Z h' a "com/example/ripieno/ripieno/engine/Review$Verdict" "kind" "Lcom/example/ripieno/ripieno/engine/Review$Verdict$Kind;" (.ref k) ∧ Fld Z h' a "com/example/ripieno/ripieno/engine/Review$Verdict" "decision" "Lcom/example/ripieno/ripieno/engine/ReviewDecision;" .null ∧ Fld Z h' a "com/example/ripieno/ripieno/engine/Review$Verdict" "timedOut" "Z" (.int 1) ∧ Fld Z h' a "com/example/ripieno/ripieno/engine/Review$Verdict" "failure" "Ljava/lang/String;" .null ∧ Fld Z h' a "com/example/ripieno/ripieno/engine/Review$Verdict" "cause" "Ljava/lang/Throwable;" .null) := by
  refine Ct.of pn_com_example_ripieno_ripieno_engine_Review_Verdict (fun m => ef_toN m k) ?_
  intro p e s m below meth c s₁ X0
  have K11 : Keep h0 h0 [] := Keep.refl _ _
  refine Go.newO X0 3 (hw _ (List.mem_of_getElem? (i := 42) rfl)) (hw _ (List.mem_of_getElem? (i := 43) rfl)) (hw _ (List.mem_of_getElem? (i := 40) rfl)) dtoN_0 (by decide) (by decide) ?_
  intro T12 h12 a12 X12 E12 g12 A12 D12
  have nw_a12 : Z.heap.size ≤ a12 := by rw [← g12]; exact X0.le
  have si_a12 : h0.size ≤ a12 := by rw [← g12]; exact K11.1
  have K13 : Keep h0 h12 [] := K11.ext E12
  have F14 : Fld Z h12 a12 "com/example/ripieno/ripieno/engine/Review$Verdict" "kind" "Lcom/example/ripieno/ripieno/engine/Review$Verdict$Kind;" .null := D12 (Or.inr (hw _ (List.mem_of_getElem? (i := 49) rfl))) (ty := (.object "com/example/ripieno/ripieno/engine/Review$Verdict$Kind")) (by decide)
  have F15 : Fld Z h12 a12 "com/example/ripieno/ripieno/engine/Review$Verdict" "decision" "Lcom/example/ripieno/ripieno/engine/ReviewDecision;" .null := D12 (Or.inr (hw _ (List.mem_of_getElem? (i := 51) rfl))) (ty := (.object "com/example/ripieno/ripieno/engine/ReviewDecision")) (by decide)
  have F16 : Fld Z h12 a12 "com/example/ripieno/ripieno/engine/Review$Verdict" "timedOut" "Z" (.int (0 : Int32)) := D12 (Or.inr (hw _ (List.mem_of_getElem? (i := 53) rfl))) (ty := .boolean) (by decide)
  have F17 : Fld Z h12 a12 "com/example/ripieno/ripieno/engine/Review$Verdict" "failure" "Ljava/lang/String;" .null := D12 (Or.inr (hw _ (List.mem_of_getElem? (i := 55) rfl))) (ty := (.object "java/lang/String")) (by decide)
  have F18 : Fld Z h12 a12 "com/example/ripieno/ripieno/engine/Review$Verdict" "cause" "Ljava/lang/Throwable;" .null := D12 (Or.inr (hw _ (List.mem_of_getElem? (i := 57) rfl))) (ty := (.object "java/lang/Throwable")) (by decide)
  refine Go.dup X12 4 dtoN_3 rfl ?_
  refine Go.aloadN X12 5 dtoN_4 rfl rfl ?_
  refine Go.aconst_null X12 6 dtoN_5 ?_
  refine Go.iconst X12 7 (1 : Int32) dtoN_6 ?_
  refine Go.aloadN X12 8 dtoN_7 rfl rfl ?_
  refine Go.aconst_null X12 9 dtoN_8 ?_
  refine Go.callI X12 12 [(.ref k), .null, (.int (1 : Int32)), .null, .null] [(.ref a12)] 1 rfl (hw _ (List.mem_of_getElem? (i := 44) rfl)) (hw _ (List.mem_of_getElem? (i := 45) rfl)) (hw _ (List.mem_of_getElem? (i := 40) rfl)) (by decide) rfl (hw _ (List.mem_of_getElem? (i := 46) rfl)) pd_7 dtoN_9 (rm_viN l Z a0 hw h12 a12 k 1 rfl A12 F14 F15 F16 F17 F18 nw_a12) rfl rfl rfl (Nat.le_of_eq rfl) (by decide) (by decide) (by decide) (by decide) ?_
  rintro T19 v19 L19 X19 ⟨rfl, K, hq⟩
  show Go p e below _ T19 m 12 #[.val (.ref k), .val .null] [(.ref a12)]
  have K20 : Keep h0 T19.heap [] := K13.trans K (allS (Or.inr si_a12) all0)
  exact Go.retA X19 rfl rfl rfl dtoN_12 (X19.fin ⟨_, rfl, K20, si_a12, hq⟩ (by decide) (by decide))
theorem dviR_0 : decode prog_50_method_2_code 0 = .ok (.aload_n 0, 1) := by decide +kernel
theorem dviR_1 : decode prog_50_method_2_code 1 = .ok (.invokespecial 7, 3) := by decide +kernel
theorem dviR_4 : decode prog_50_method_2_code 4 = .ok (.aload_n 0, 1) := by decide +kernel
theorem dviR_5 : decode prog_50_method_2_code 5 = .ok (.aload_n 1, 1) := by decide +kernel
theorem dviR_6 : decode prog_50_method_2_code 6 = .ok (.putfield 12, 3) := by decide +kernel
theorem dviR_9 : decode prog_50_method_2_code 9 = .ok (.aload_n 0, 1) := by decide +kernel
theorem dviR_10 : decode prog_50_method_2_code 10 = .ok (.aload_n 2, 1) := by decide +kernel
theorem dviR_11 : decode prog_50_method_2_code 11 = .ok (.putfield 16, 3) := by decide +kernel
theorem dviR_14 : decode prog_50_method_2_code 14 = .ok (.aload_n 0, 1) := by decide +kernel
theorem dviR_15 : decode prog_50_method_2_code 15 = .ok (.iload_n 3, 1) := by decide +kernel
theorem dviR_16 : decode prog_50_method_2_code 16 = .ok (.putfield 20, 3) := by decide +kernel
theorem dviR_19 : decode prog_50_method_2_code 19 = .ok (.aload_n 0, 1) := by decide +kernel
theorem dviR_20 : decode prog_50_method_2_code 20 = .ok (.aload 4, 2) := by decide +kernel
theorem dviR_22 : decode prog_50_method_2_code 22 = .ok (.putfield 24, 3) := by decide +kernel
theorem dviR_25 : decode prog_50_method_2_code 25 = .ok (.aload_n 0, 1) := by decide +kernel
theorem dviR_26 : decode prog_50_method_2_code 26 = .ok (.aload 5, 2) := by decide +kernel
theorem dviR_28 : decode prog_50_method_2_code 28 = .ok (.putfield 28, 3) := by decide +kernel
theorem dviR_31 : decode prog_50_method_2_code 31 = .ok (.return_, 1) := by decide +kernel
theorem ef_viR (m : MethodId) (a : Addr) (k : Addr) (z : Int32) (sa : Addr) : entryFrame m #[(.ref a), (.ref k), .null, (.int z), (.ref sa), .null] 6 = mkF m 0 #[.val (.ref a), .val (.ref k), .val .null, .val (.int z), .val (.ref sa), .val .null] [] := by first | (simp [entryFrame, mkF, argsToLocals, Value.category]; done) | rfl
set_option maxRecDepth 65536 in
set_option maxHeartbeats 40000000 in
theorem rm_viR (l : Launch) (Z : State) (a0 : Array Value) (hw : ∀ d ∈ tables_1, d.before a0 Z = true) (h0 : Heap) (a k : Addr) (z : Int32) (sa : Addr) (hz : z = 1) (E : Exa Z h0 a "com/example/ripieno/ripieno/engine/Review$Verdict") (F0 : Fld Z h0 a "com/example/ripieno/ripieno/engine/Review$Verdict" "kind" "Lcom/example/ripieno/ripieno/engine/Review$Verdict$Kind;" .null) (F1 : Fld Z h0 a "com/example/ripieno/ripieno/engine/Review$Verdict" "decision" "Lcom/example/ripieno/ripieno/engine/ReviewDecision;" .null) (F2 : Fld Z h0 a "com/example/ripieno/ripieno/engine/Review$Verdict" "timedOut" "Z" (.int 0)) (F3 : Fld Z h0 a "com/example/ripieno/ripieno/engine/Review$Verdict" "failure" "Ljava/lang/String;" .null) (F4 : Fld Z h0 a "com/example/ripieno/ripieno/engine/Review$Verdict" "cause" "Ljava/lang/Throwable;" .null) (na : Z.heap.size ≤ a) :
    Ct l Z [] (⟨"com/example/ripieno/ripieno/engine/Review$Verdict", "<init>", "(Lcom/example/ripieno/ripieno/engine/Review$Verdict$Kind;Lcom/example/ripieno/ripieno/engine/ReviewDecision;ZLjava/lang/String;Ljava/lang/Throwable;)V"⟩ : MethodName) prog_50_method_2_code 6 none (⟨1, 0, 0, 12⟩ : Room) #[(.ref a), (.ref k), .null, (.int z), (.ref sa), .null] h0 (fun v h' => v = none ∧ Keep h0 h' [a] ∧ Exa Z h' a "com/example/ripieno/ripieno/engine/Review$Verdict" ∧ Fld Z h' a "com/example/ripieno/ripieno/engine/Review$Verdict" "kind" "Lcom/example/ripieno/ripieno/engine/Review$Verdict$Kind;" (.ref k) ∧ Fld Z h' a "com/example/ripieno/ripieno/engine/Review$Verdict" "decision" "Lcom/example/ripieno/ripieno/engine/ReviewDecision;" .null ∧ Fld Z h' a "com/example/ripieno/ripieno/engine/Review$Verdict" "timedOut" "Z" (.int 1) ∧ Fld Z h' a "com/example/ripieno/ripieno/engine/Review$Verdict" "failure" "Ljava/lang/String;" (.ref sa) ∧ Fld Z h' a "com/example/ripieno/ripieno/engine/Review$Verdict" "cause" "Ljava/lang/Throwable;" .null) := by
  refine Ct.of pn_com_example_ripieno_ripieno_engine_Review_Verdict (fun m => ef_viR m a k z sa) ?_
  intro p e s m below meth c s₁ X0
  subst hz
  have K11 : Keep h0 h0 [a] := Keep.refl _ _
  refine Go.aloadN X0 1 dviR_0 rfl rfl ?_
  refine Go.initO X0 4 (hw _ (List.mem_of_getElem? (i := 47) rfl)) (hw _ (List.mem_of_getElem? (i := 20) rfl)) (hw _ (List.mem_of_getElem? (i := 21) rfl)) 0 dviR_1 rfl (by decide) (by decide) (by decide) ?_
  intro T12 X12
  refine Go.aloadN X12 5 dviR_4 rfl rfl ?_
  refine Go.aloadN X12 6 dviR_5 rfl rfl ?_
  refine Go.putF X12 9 (hw _ (List.mem_of_getElem? (i := 48) rfl)) F0 E (Or.inr ⟨(hw _ (List.mem_of_getElem? (i := 49) rfl)), rfl, rfl⟩) (hw _ (List.mem_of_getElem? (i := 43) rfl)) (ty := (.object "com/example/ripieno/ripieno/engine/Review$Verdict$Kind")) (by decide) rfl rfl na dviR_6 ?_
  intro T13 h13 X13 W13
  have K14 : Keep h0 h13 [a] := K11.wr W13 (Or.inl (List.mem_of_getElem? (i := 0) rfl))
  have F15 : Exa Z h13 a "com/example/ripieno/ripieno/engine/Review$Verdict" := E.wr W13
  have F16 : Fld Z h13 a "com/example/ripieno/ripieno/engine/Review$Verdict" "kind" "Lcom/example/ripieno/ripieno/engine/Review$Verdict$Kind;" (.ref k) := F0.same W13
  have F17 : Fld Z h13 a "com/example/ripieno/ripieno/engine/Review$Verdict" "decision" "Lcom/example/ripieno/ripieno/engine/ReviewDecision;" .null := F1.other W13 (Or.inr (slot_ne (Or.inr (hw _ (List.mem_of_getElem? (i := 51) rfl))) (Or.inr (hw _ (List.mem_of_getElem? (i := 49) rfl))) (by decide) (t := (.object "com/example/ripieno/ripieno/engine/ReviewDecision")) (t' := (.object "com/example/ripieno/ripieno/engine/Review$Verdict$Kind")) (by decide) (by decide)))
  have F18 : Fld Z h13 a "com/example/ripieno/ripieno/engine/Review$Verdict" "timedOut" "Z" (.int (0 : Int32)) := F2.other W13 (Or.inr (slot_ne (Or.inr (hw _ (List.mem_of_getElem? (i := 53) rfl))) (Or.inr (hw _ (List.mem_of_getElem? (i := 49) rfl))) (by decide) (t := .boolean) (t' := (.object "com/example/ripieno/ripieno/engine/Review$Verdict$Kind")) (by decide) (by decide)))
  have F19 : Fld Z h13 a "com/example/ripieno/ripieno/engine/Review$Verdict" "failure" "Ljava/lang/String;" .null := F3.other W13 (Or.inr (slot_ne (Or.inr (hw _ (List.mem_of_getElem? (i := 55) rfl))) (Or.inr (hw _ (List.mem_of_getElem? (i := 49) rfl))) (by decide) (t := (.object "java/lang/String")) (t' := (.object "com/example/ripieno/ripieno/engine/Review$Verdict$Kind")) (by decide) (by decide)))
  have F20 : Fld Z h13 a "com/example/ripieno/ripieno/engine/Review$Verdict" "cause" "Ljava/lang/Throwable;" .null := F4.other W13 (Or.inr (slot_ne (Or.inr (hw _ (List.mem_of_getElem? (i := 57) rfl))) (Or.inr (hw _ (List.mem_of_getElem? (i := 49) rfl))) (by decide) (t := (.object "java/lang/Throwable")) (t' := (.object "com/example/ripieno/ripieno/engine/Review$Verdict$Kind")) (by decide) (by decide)))
  refine Go.aloadN X13 10 dviR_9 rfl rfl ?_
  refine Go.aloadN X13 11 dviR_10 rfl rfl ?_
  refine Go.putF X13 14 (hw _ (List.mem_of_getElem? (i := 50) rfl)) F17 F15 (Or.inr ⟨(hw _ (List.mem_of_getElem? (i := 51) rfl)), rfl, rfl⟩) (hw _ (List.mem_of_getElem? (i := 43) rfl)) (ty := (.object "com/example/ripieno/ripieno/engine/ReviewDecision")) (by decide) rfl rfl na dviR_11 ?_
  intro T21 h21 X21 W21
  have K22 : Keep h0 h21 [a] := K14.wr W21 (Or.inl (List.mem_of_getElem? (i := 0) rfl))
  have F23 : Exa Z h21 a "com/example/ripieno/ripieno/engine/Review$Verdict" := F15.wr W21
  have F24 : Fld Z h21 a "com/example/ripieno/ripieno/engine/Review$Verdict" "kind" "Lcom/example/ripieno/ripieno/engine/Review$Verdict$Kind;" (.ref k) := F16.other W21 (Or.inr (slot_ne (Or.inr (hw _ (List.mem_of_getElem? (i := 49) rfl))) (Or.inr (hw _ (List.mem_of_getElem? (i := 51) rfl))) (by decide) (t := (.object "com/example/ripieno/ripieno/engine/Review$Verdict$Kind")) (t' := (.object "com/example/ripieno/ripieno/engine/ReviewDecision")) (by decide) (by decide)))
  have F25 : Fld Z h21 a "com/example/ripieno/ripieno/engine/Review$Verdict" "decision" "Lcom/example/ripieno/ripieno/engine/ReviewDecision;" .null := F17.same W21
  have F26 : Fld Z h21 a "com/example/ripieno/ripieno/engine/Review$Verdict" "timedOut" "Z" (.int (0 : Int32)) := F18.other W21 (Or.inr (slot_ne (Or.inr (hw _ (List.mem_of_getElem? (i := 53) rfl))) (Or.inr (hw _ (List.mem_of_getElem? (i := 51) rfl))) (by decide) (t := .boolean) (t' := (.object "com/example/ripieno/ripieno/engine/ReviewDecision")) (by decide) (by decide)))
  have F27 : Fld Z h21 a "com/example/ripieno/ripieno/engine/Review$Verdict" "failure" "Ljava/lang/String;" .null := F19.other W21 (Or.inr (slot_ne (Or.inr (hw _ (List.mem_of_getElem? (i := 55) rfl))) (Or.inr (hw _ (List.mem_of_getElem? (i := 51) rfl))) (by decide) (t := (.object "java/lang/String")) (t' := (.object "com/example/ripieno/ripieno/engine/ReviewDecision")) (by decide) (by decide)))
  have F28 : Fld Z h21 a "com/example/ripieno/ripieno/engine/Review$Verdict" "cause" "Ljava/lang/Throwable;" .null := F20.other W21 (Or.inr (slot_ne (Or.inr (hw _ (List.mem_of_getElem? (i := 57) rfl))) (Or.inr (hw _ (List.mem_of_getElem? (i := 51) rfl))) (by decide) (t := (.object "java/lang/Throwable")) (t' := (.object "com/example/ripieno/ripieno/engine/ReviewDecision")) (by decide) (by decide)))
  refine Go.aloadN X21 15 dviR_14 rfl rfl ?_
  refine Go.iloadN X21 16 dviR_15 rfl ?_
  refine Go.putF X21 19 (hw _ (List.mem_of_getElem? (i := 52) rfl)) F26 F23 (Or.inr ⟨(hw _ (List.mem_of_getElem? (i := 53) rfl)), rfl, rfl⟩) (hw _ (List.mem_of_getElem? (i := 43) rfl)) (ty := .boolean) (by decide) rfl rfl na dviR_16 ?_
  intro T29 h29 X29 W29
  have K30 : Keep h0 h29 [a] := K22.wr W29 (Or.inl (List.mem_of_getElem? (i := 0) rfl))
  have F31 : Exa Z h29 a "com/example/ripieno/ripieno/engine/Review$Verdict" := F23.wr W29
  have F32 : Fld Z h29 a "com/example/ripieno/ripieno/engine/Review$Verdict" "kind" "Lcom/example/ripieno/ripieno/engine/Review$Verdict$Kind;" (.ref k) := F24.other W29 (Or.inr (slot_ne (Or.inr (hw _ (List.mem_of_getElem? (i := 49) rfl))) (Or.inr (hw _ (List.mem_of_getElem? (i := 53) rfl))) (by decide) (t := (.object "com/example/ripieno/ripieno/engine/Review$Verdict$Kind")) (t' := .boolean) (by decide) (by decide)))
  have F33 : Fld Z h29 a "com/example/ripieno/ripieno/engine/Review$Verdict" "decision" "Lcom/example/ripieno/ripieno/engine/ReviewDecision;" .null := F25.other W29 (Or.inr (slot_ne (Or.inr (hw _ (List.mem_of_getElem? (i := 51) rfl))) (Or.inr (hw _ (List.mem_of_getElem? (i := 53) rfl))) (by decide) (t := (.object "com/example/ripieno/ripieno/engine/ReviewDecision")) (t' := .boolean) (by decide) (by decide)))
  have F34 : Fld Z h29 a "com/example/ripieno/ripieno/engine/Review$Verdict" "timedOut" "Z" (.int (1 : Int32)) := F26.same W29
  have F35 : Fld Z h29 a "com/example/ripieno/ripieno/engine/Review$Verdict" "failure" "Ljava/lang/String;" .null := F27.other W29 (Or.inr (slot_ne (Or.inr (hw _ (List.mem_of_getElem? (i := 55) rfl))) (Or.inr (hw _ (List.mem_of_getElem? (i := 53) rfl))) (by decide) (t := (.object "java/lang/String")) (t' := .boolean) (by decide) (by decide)))
  have F36 : Fld Z h29 a "com/example/ripieno/ripieno/engine/Review$Verdict" "cause" "Ljava/lang/Throwable;" .null := F28.other W29 (Or.inr (slot_ne (Or.inr (hw _ (List.mem_of_getElem? (i := 57) rfl))) (Or.inr (hw _ (List.mem_of_getElem? (i := 53) rfl))) (by decide) (t := (.object "java/lang/Throwable")) (t' := .boolean) (by decide) (by decide)))
  refine Go.aloadN X29 20 dviR_19 rfl rfl ?_
  refine Go.aload X29 22 dviR_20 rfl rfl ?_
  refine Go.putF X29 25 (hw _ (List.mem_of_getElem? (i := 54) rfl)) F35 F31 (Or.inr ⟨(hw _ (List.mem_of_getElem? (i := 55) rfl)), rfl, rfl⟩) (hw _ (List.mem_of_getElem? (i := 43) rfl)) (ty := (.object "java/lang/String")) (by decide) rfl rfl na dviR_22 ?_
  intro T37 h37 X37 W37
  have K38 : Keep h0 h37 [a] := K30.wr W37 (Or.inl (List.mem_of_getElem? (i := 0) rfl))
  have F39 : Exa Z h37 a "com/example/ripieno/ripieno/engine/Review$Verdict" := F31.wr W37
  have F40 : Fld Z h37 a "com/example/ripieno/ripieno/engine/Review$Verdict" "kind" "Lcom/example/ripieno/ripieno/engine/Review$Verdict$Kind;" (.ref k) := F32.other W37 (Or.inr (slot_ne (Or.inr (hw _ (List.mem_of_getElem? (i := 49) rfl))) (Or.inr (hw _ (List.mem_of_getElem? (i := 55) rfl))) (by decide) (t := (.object "com/example/ripieno/ripieno/engine/Review$Verdict$Kind")) (t' := (.object "java/lang/String")) (by decide) (by decide)))
  have F41 : Fld Z h37 a "com/example/ripieno/ripieno/engine/Review$Verdict" "decision" "Lcom/example/ripieno/ripieno/engine/ReviewDecision;" .null := F33.other W37 (Or.inr (slot_ne (Or.inr (hw _ (List.mem_of_getElem? (i := 51) rfl))) (Or.inr (hw _ (List.mem_of_getElem? (i := 55) rfl))) (by decide) (t := (.object "com/example/ripieno/ripieno/engine/ReviewDecision")) (t' := (.object "java/lang/String")) (by decide) (by decide)))
  have F42 : Fld Z h37 a "com/example/ripieno/ripieno/engine/Review$Verdict" "timedOut" "Z" (.int (1 : Int32)) := F34.other W37 (Or.inr (slot_ne (Or.inr (hw _ (List.mem_of_getElem? (i := 53) rfl))) (Or.inr (hw _ (List.mem_of_getElem? (i := 55) rfl))) (by decide) (t := .boolean) (t' := (.object "java/lang/String")) (by decide) (by decide)))
  have F43 : Fld Z h37 a "com/example/ripieno/ripieno/engine/Review$Verdict" "failure" "Ljava/lang/String;" (.ref sa) := F35.same W37
  have F44 : Fld Z h37 a "com/example/ripieno/ripieno/engine/Review$Verdict" "cause" "Ljava/lang/Throwable;" .null := F36.other W37 (Or.inr (slot_ne (Or.inr (hw _ (List.mem_of_getElem? (i := 57) rfl))) (Or.inr (hw _ (List.mem_of_getElem? (i := 55) rfl))) (by decide) (t := (.object "java/lang/Throwable")) (t' := (.object "java/lang/String")) (by decide) (by decide)))
  refine Go.aloadN X37 26 dviR_25 rfl rfl ?_
  refine Go.aload X37 28 dviR_26 rfl rfl ?_
  refine Go.putF X37 31 (hw _ (List.mem_of_getElem? (i := 56) rfl)) F44 F39 (Or.inr ⟨(hw _ (List.mem_of_getElem? (i := 57) rfl)), rfl, rfl⟩) (hw _ (List.mem_of_getElem? (i := 43) rfl)) (ty := (.object "java/lang/Throwable")) (by decide) rfl rfl na dviR_28 ?_
  intro T45 h45 X45 W45
  have K46 : Keep h0 h45 [a] := K38.wr W45 (Or.inl (List.mem_of_getElem? (i := 0) rfl))
  have F47 : Exa Z h45 a "com/example/ripieno/ripieno/engine/Review$Verdict" := F39.wr W45
  have F48 : Fld Z h45 a "com/example/ripieno/ripieno/engine/Review$Verdict" "kind" "Lcom/example/ripieno/ripieno/engine/Review$Verdict$Kind;" (.ref k) := F40.other W45 (Or.inr (slot_ne (Or.inr (hw _ (List.mem_of_getElem? (i := 49) rfl))) (Or.inr (hw _ (List.mem_of_getElem? (i := 57) rfl))) (by decide) (t := (.object "com/example/ripieno/ripieno/engine/Review$Verdict$Kind")) (t' := (.object "java/lang/Throwable")) (by decide) (by decide)))
  have F49 : Fld Z h45 a "com/example/ripieno/ripieno/engine/Review$Verdict" "decision" "Lcom/example/ripieno/ripieno/engine/ReviewDecision;" .null := F41.other W45 (Or.inr (slot_ne (Or.inr (hw _ (List.mem_of_getElem? (i := 51) rfl))) (Or.inr (hw _ (List.mem_of_getElem? (i := 57) rfl))) (by decide) (t := (.object "com/example/ripieno/ripieno/engine/ReviewDecision")) (t' := (.object "java/lang/Throwable")) (by decide) (by decide)))
  have F50 : Fld Z h45 a "com/example/ripieno/ripieno/engine/Review$Verdict" "timedOut" "Z" (.int (1 : Int32)) := F42.other W45 (Or.inr (slot_ne (Or.inr (hw _ (List.mem_of_getElem? (i := 53) rfl))) (Or.inr (hw _ (List.mem_of_getElem? (i := 57) rfl))) (by decide) (t := .boolean) (t' := (.object "java/lang/Throwable")) (by decide) (by decide)))
  have F51 : Fld Z h45 a "com/example/ripieno/ripieno/engine/Review$Verdict" "failure" "Ljava/lang/String;" (.ref sa) := F43.other W45 (Or.inr (slot_ne (Or.inr (hw _ (List.mem_of_getElem? (i := 55) rfl))) (Or.inr (hw _ (List.mem_of_getElem? (i := 57) rfl))) (by decide) (t := (.object "java/lang/String")) (t' := (.object "java/lang/Throwable")) (by decide) (by decide)))
  have F52 : Fld Z h45 a "com/example/ripieno/ripieno/engine/Review$Verdict" "cause" "Ljava/lang/Throwable;" .null := F44.same W45
  exact Go.retV X45 rfl dviR_31 (X45.fin ⟨rfl, K46, F47, F48, F49, F50, F51, F52⟩ (by decide) (by decide))
theorem dtoR_0 : decode prog_50_method_3_code 0 = .ok (.new 2, 3) := by decide +kernel
theorem dtoR_3 : decode prog_50_method_3_code 3 = .ok (.dup, 1) := by decide +kernel
theorem dtoR_4 : decode prog_50_method_3_code 4 = .ok (.aload_n 0, 1) := by decide +kernel
theorem dtoR_5 : decode prog_50_method_3_code 5 = .ok (.aconst_null, 1) := by decide +kernel
theorem dtoR_6 : decode prog_50_method_3_code 6 = .ok (.iconst 1, 1) := by decide +kernel
theorem dtoR_7 : decode prog_50_method_3_code 7 = .ok (.aload_n 1, 1) := by decide +kernel
theorem dtoR_8 : decode prog_50_method_3_code 8 = .ok (.aconst_null, 1) := by decide +kernel
theorem dtoR_9 : decode prog_50_method_3_code 9 = .ok (.invokespecial 1, 3) := by decide +kernel
theorem dtoR_12 : decode prog_50_method_3_code 12 = .ok (.areturn, 1) := by decide +kernel
theorem ef_toR (m : MethodId) (k : Addr) (sa : Addr) : entryFrame m #[(.ref k), (.ref sa)] 2 = mkF m 0 #[.val (.ref k), .val (.ref sa)] [] := by first | (simp [entryFrame, mkF, argsToLocals, Value.category]; done) | rfl
set_option maxRecDepth 65536 in
set_option maxHeartbeats 40000000 in
theorem rm_toR (l : Launch) (Z : State) (a0 : Array Value) (hw : ∀ d ∈ tables_1, d.before a0 Z = true) (h0 : Heap) (k : Addr) (sa : Addr) :
    Ct l Z [] (⟨"com/example/ripieno/ripieno/engine/Review$Verdict", "timedOut", "(Lcom/example/ripieno/ripieno/engine/Review$Verdict$Kind;Ljava/lang/String;)Lcom/example/ripieno/ripieno/engine/Review$Verdict;"⟩ : MethodName) prog_50_method_3_code 2 (some (.object "com/example/ripieno/ripieno/engine/Review$Verdict")) (⟨2, 1, 5, 30⟩ : Room) #[(.ref k), (.ref sa)] h0 (fun v h' => ∃ a, v = some (.ref a) ∧ Keep h0 h' [] ∧ h0.size ≤ a ∧ Exa Z h' a "com/example/ripieno/ripieno/engine/Review$Verdict" ∧ Fld Z h' a "com/example/ripieno/ripieno/engine/Review$Verdict" "kind" "Lcom/example/ripieno/ripieno/engine/Review$Verdict$Kind;" (.ref k) ∧ Fld Z h' a "com/example/ripieno/ripieno/engine/Review$Verdict" "decision" "Lcom/example/ripieno/ripieno/engine/ReviewDecision;" .null ∧ Fld Z h' a "com/example/ripieno/ripieno/engine/Review$Verdict" "timedOut" "Z" (.int 1) ∧ Fld Z h' a "com/example/ripieno/ripieno/engine/Review$Verdict" "failure" "Ljava/lang/String;" (.ref sa) ∧ Fld Z h' a "com/example/ripieno/ripieno/engine/Review$Verdict" "cause" "Ljava/lang/Throwable;" .null) := by
  refine Ct.of pn_com_example_ripieno_ripieno_engine_Review_Verdict (fun m => ef_toR m k sa) ?_
  intro p e s m below meth c s₁ X0
  have K11 : Keep h0 h0 [] := Keep.refl _ _
  refine Go.newO X0 3 (hw _ (List.mem_of_getElem? (i := 42) rfl)) (hw _ (List.mem_of_getElem? (i := 43) rfl)) (hw _ (List.mem_of_getElem? (i := 40) rfl)) dtoR_0 (by decide) (by decide) ?_
  intro T12 h12 a12 X12 E12 g12 A12 D12
  have nw_a12 : Z.heap.size ≤ a12 := by rw [← g12]; exact X0.le
  have si_a12 : h0.size ≤ a12 := by rw [← g12]; exact K11.1
  have K13 : Keep h0 h12 [] := K11.ext E12
  have F14 : Fld Z h12 a12 "com/example/ripieno/ripieno/engine/Review$Verdict" "kind" "Lcom/example/ripieno/ripieno/engine/Review$Verdict$Kind;" .null := D12 (Or.inr (hw _ (List.mem_of_getElem? (i := 49) rfl))) (ty := (.object "com/example/ripieno/ripieno/engine/Review$Verdict$Kind")) (by decide)
  have F15 : Fld Z h12 a12 "com/example/ripieno/ripieno/engine/Review$Verdict" "decision" "Lcom/example/ripieno/ripieno/engine/ReviewDecision;" .null := D12 (Or.inr (hw _ (List.mem_of_getElem? (i := 51) rfl))) (ty := (.object "com/example/ripieno/ripieno/engine/ReviewDecision")) (by decide)
  have F16 : Fld Z h12 a12 "com/example/ripieno/ripieno/engine/Review$Verdict" "timedOut" "Z" (.int (0 : Int32)) := D12 (Or.inr (hw _ (List.mem_of_getElem? (i := 53) rfl))) (ty := .boolean) (by decide)
  have F17 : Fld Z h12 a12 "com/example/ripieno/ripieno/engine/Review$Verdict" "failure" "Ljava/lang/String;" .null := D12 (Or.inr (hw _ (List.mem_of_getElem? (i := 55) rfl))) (ty := (.object "java/lang/String")) (by decide)
  have F18 : Fld Z h12 a12 "com/example/ripieno/ripieno/engine/Review$Verdict" "cause" "Ljava/lang/Throwable;" .null := D12 (Or.inr (hw _ (List.mem_of_getElem? (i := 57) rfl))) (ty := (.object "java/lang/Throwable")) (by decide)
  refine Go.dup X12 4 dtoR_3 rfl ?_
  refine Go.aloadN X12 5 dtoR_4 rfl rfl ?_
  refine Go.aconst_null X12 6 dtoR_5 ?_
  refine Go.iconst X12 7 (1 : Int32) dtoR_6 ?_
  refine Go.aloadN X12 8 dtoR_7 rfl rfl ?_
  refine Go.aconst_null X12 9 dtoR_8 ?_
  refine Go.callI X12 12 [(.ref k), .null, (.int (1 : Int32)), (.ref sa), .null] [(.ref a12)] 1 rfl (hw _ (List.mem_of_getElem? (i := 44) rfl)) (hw _ (List.mem_of_getElem? (i := 45) rfl)) (hw _ (List.mem_of_getElem? (i := 40) rfl)) (by decide) rfl (hw _ (List.mem_of_getElem? (i := 46) rfl)) pd_7 dtoR_9 (rm_viR l Z a0 hw h12 a12 k 1 sa rfl A12 F14 F15 F16 F17 F18 nw_a12) rfl rfl rfl (Nat.le_of_eq rfl) (by decide) (by decide) (by decide) (by decide) ?_
  rintro T19 v19 L19 X19 ⟨rfl, K, hq⟩
  show Go p e below _ T19 m 12 #[.val (.ref k), .val (.ref sa)] [(.ref a12)]
  have K20 : Keep h0 T19.heap [] := K13.trans K (allS (Or.inr si_a12) all0)
  exact Go.retA X19 rfl rfl rfl dtoR_12 (X19.fin ⟨_, rfl, K20, si_a12, hq⟩ (by decide) (by decide))
theorem dg_kind_0 : decode prog_50_method_6_code 0 = .ok (.aload_n 0, 1) := by decide +kernel
theorem dg_kind_1 : decode prog_50_method_6_code 1 = .ok (.getfield 12, 3) := by decide +kernel
theorem dg_kind_4 : decode prog_50_method_6_code 4 = .ok (.areturn, 1) := by decide +kernel
theorem ef_g_kind (m : MethodId) (a : Addr) : entryFrame m #[(.ref a)] 1 = mkF m 0 #[.val (.ref a)] [] := by first | (simp [entryFrame, mkF, argsToLocals, Value.category]; done) | rfl
set_option maxRecDepth 65536 in
set_option maxHeartbeats 40000000 in
theorem rm_g_kind (l : Launch) (Z : State) (a0 : Array Value) (hw : ∀ d ∈ tables_1, d.before a0 Z = true) (h0 : Heap) (a : Addr) (y : Value) (hy : y.isRef = true) (F : Fld Z h0 a "com/example/ripieno/ripieno/engine/Review$Verdict" "kind" "Lcom/example/ripieno/ripieno/engine/Review$Verdict$Kind;" y) :
    Ct l Z [] (⟨"com/example/ripieno/ripieno/engine/Review$Verdict", "kind", "()Lcom/example/ripieno/ripieno/engine/Review$Verdict$Kind;"⟩ : MethodName) prog_50_method_6_code 1 (some (.object "com/example/ripieno/ripieno/engine/Review$Verdict$Kind")) (⟨0, 0, 0, 0⟩ : Room) #[(.ref a)] h0 (Pu h0 y) := by
  refine Ct.of pn_com_example_ripieno_ripieno_engine_Review_Verdict (fun m => ef_g_kind m a) ?_
  intro p e s m below meth c s₁ X0
  refine Go.aloadN X0 1 dg_kind_0 rfl rfl ?_
  refine Go.getF X0 4 (hw _ (List.mem_of_getElem? (i := 48) rfl)) F dg_kind_1 ?_
  intro T1 X1
  exact Go.retA X1 rfl rfl hy dg_kind_4 (X1.fin ⟨rfl, rfl⟩ (by decide) (by decide))
theorem dg_decision_0 : decode prog_50_method_9_code 0 = .ok (.aload_n 0, 1) := by decide +kernel
theorem dg_decision_1 : decode prog_50_method_9_code 1 = .ok (.getfield 16, 3) := by decide +kernel
theorem dg_decision_4 : decode prog_50_method_9_code 4 = .ok (.areturn, 1) := by decide +kernel
theorem ef_g_decision (m : MethodId) (a : Addr) : entryFrame m #[(.ref a)] 1 = mkF m 0 #[.val (.ref a)] [] := by first | (simp [entryFrame, mkF, argsToLocals, Value.category]; done) | rfl
set_option maxRecDepth 65536 in
set_option maxHeartbeats 40000000 in
theorem rm_g_decision (l : Launch) (Z : State) (a0 : Array Value) (hw : ∀ d ∈ tables_1, d.before a0 Z = true) (h0 : Heap) (a : Addr) (y : Value) (hy : y.isRef = true) (F : Fld Z h0 a "com/example/ripieno/ripieno/engine/Review$Verdict" "decision" "Lcom/example/ripieno/ripieno/engine/ReviewDecision;" y) :
    Ct l Z [] (⟨"com/example/ripieno/ripieno/engine/Review$Verdict", "decision", "()Lcom/example/ripieno/ripieno/engine/ReviewDecision;"⟩ : MethodName) prog_50_method_9_code 1 (some (.object "com/example/ripieno/ripieno/engine/ReviewDecision")) (⟨0, 0, 0, 0⟩ : Room) #[(.ref a)] h0 (Pu h0 y) := by
  refine Ct.of pn_com_example_ripieno_ripieno_engine_Review_Verdict (fun m => ef_g_decision m a) ?_
  intro p e s m below meth c s₁ X0
  refine Go.aloadN X0 1 dg_decision_0 rfl rfl ?_
  refine Go.getF X0 4 (hw _ (List.mem_of_getElem? (i := 50) rfl)) F dg_decision_1 ?_
  intro T1 X1
  exact Go.retA X1 rfl rfl hy dg_decision_4 (X1.fin ⟨rfl, rfl⟩ (by decide) (by decide))
theorem dg_timedOut_0 : decode prog_50_method_10_code 0 = .ok (.aload_n 0, 1) := by decide +kernel
theorem dg_timedOut_1 : decode prog_50_method_10_code 1 = .ok (.getfield 20, 3) := by decide +kernel
theorem dg_timedOut_4 : decode prog_50_method_10_code 4 = .ok (.ireturn, 1) := by decide +kernel
theorem ef_g_timedOut (m : MethodId) (a : Addr) : entryFrame m #[(.ref a)] 1 = mkF m 0 #[.val (.ref a)] [] := by first | (simp [entryFrame, mkF, argsToLocals, Value.category]; done) | rfl
set_option maxRecDepth 65536 in
set_option maxHeartbeats 40000000 in
theorem rm_g_timedOut (l : Launch) (Z : State) (a0 : Array Value) (hw : ∀ d ∈ tables_1, d.before a0 Z = true) (h0 : Heap) (a : Addr) (F : Fld Z h0 a "com/example/ripieno/ripieno/engine/Review$Verdict" "timedOut" "Z" (.int 1)) :
    Ct l Z [] (⟨"com/example/ripieno/ripieno/engine/Review$Verdict", "timedOut", "()Z"⟩ : MethodName) prog_50_method_10_code 1 (some .boolean) (⟨0, 0, 0, 0⟩ : Room) #[(.ref a)] h0 (Pu h0 (.int 1)) := by
  refine Ct.of pn_com_example_ripieno_ripieno_engine_Review_Verdict (fun m => ef_g_timedOut m a) ?_
  intro p e s m below meth c s₁ X0
  refine Go.aloadN X0 1 dg_timedOut_0 rfl rfl ?_
  refine Go.getF X0 4 (hw _ (List.mem_of_getElem? (i := 52) rfl)) F dg_timedOut_1 ?_
  intro T1 X1
  exact Go.retI X1 rfl (by simp) rfl dg_timedOut_4 (X1.fin ⟨rfl, rfl⟩ (by decide) (by decide))
theorem dg_failure_0 : decode prog_50_method_11_code 0 = .ok (.aload_n 0, 1) := by decide +kernel
theorem dg_failure_1 : decode prog_50_method_11_code 1 = .ok (.getfield 24, 3) := by decide +kernel
theorem dg_failure_4 : decode prog_50_method_11_code 4 = .ok (.areturn, 1) := by decide +kernel
theorem ef_g_failure (m : MethodId) (a : Addr) : entryFrame m #[(.ref a)] 1 = mkF m 0 #[.val (.ref a)] [] := by first | (simp [entryFrame, mkF, argsToLocals, Value.category]; done) | rfl
set_option maxRecDepth 65536 in
set_option maxHeartbeats 40000000 in
theorem rm_g_failure (l : Launch) (Z : State) (a0 : Array Value) (hw : ∀ d ∈ tables_1, d.before a0 Z = true) (h0 : Heap) (a : Addr) (y : Value) (hy : y.isRef = true) (F : Fld Z h0 a "com/example/ripieno/ripieno/engine/Review$Verdict" "failure" "Ljava/lang/String;" y) :
    Ct l Z [] (⟨"com/example/ripieno/ripieno/engine/Review$Verdict", "failure", "()Ljava/lang/String;"⟩ : MethodName) prog_50_method_11_code 1 (some (.object "java/lang/String")) (⟨0, 0, 0, 0⟩ : Room) #[(.ref a)] h0 (Pu h0 y) := by
  refine Ct.of pn_com_example_ripieno_ripieno_engine_Review_Verdict (fun m => ef_g_failure m a) ?_
  intro p e s m below meth c s₁ X0
  refine Go.aloadN X0 1 dg_failure_0 rfl rfl ?_
  refine Go.getF X0 4 (hw _ (List.mem_of_getElem? (i := 54) rfl)) F dg_failure_1 ?_
  intro T1 X1
  exact Go.retA X1 rfl rfl hy dg_failure_4 (X1.fin ⟨rfl, rfl⟩ (by decide) (by decide))
theorem dg_cause_0 : decode prog_50_method_12_code 0 = .ok (.aload_n 0, 1) := by decide +kernel
theorem dg_cause_1 : decode prog_50_method_12_code 1 = .ok (.getfield 28, 3) := by decide +kernel
theorem dg_cause_4 : decode prog_50_method_12_code 4 = .ok (.areturn, 1) := by decide +kernel
theorem ef_g_cause (m : MethodId) (a : Addr) : entryFrame m #[(.ref a)] 1 = mkF m 0 #[.val (.ref a)] [] := by first | (simp [entryFrame, mkF, argsToLocals, Value.category]; done) | rfl
set_option maxRecDepth 65536 in
set_option maxHeartbeats 40000000 in
theorem rm_g_cause (l : Launch) (Z : State) (a0 : Array Value) (hw : ∀ d ∈ tables_1, d.before a0 Z = true) (h0 : Heap) (a : Addr) (y : Value) (hy : y.isRef = true) (F : Fld Z h0 a "com/example/ripieno/ripieno/engine/Review$Verdict" "cause" "Ljava/lang/Throwable;" y) :
    Ct l Z [] (⟨"com/example/ripieno/ripieno/engine/Review$Verdict", "cause", "()Ljava/lang/Throwable;"⟩ : MethodName) prog_50_method_12_code 1 (some (.object "java/lang/Throwable")) (⟨0, 0, 0, 0⟩ : Room) #[(.ref a)] h0 (Pu h0 y) := by
  refine Ct.of pn_com_example_ripieno_ripieno_engine_Review_Verdict (fun m => ef_g_cause m a) ?_
  intro p e s m below meth c s₁ X0
  refine Go.aloadN X0 1 dg_cause_0 rfl rfl ?_
  refine Go.getF X0 4 (hw _ (List.mem_of_getElem? (i := 56) rfl)) F dg_cause_1 ?_
  intro T1 X1
  exact Go.retA X1 rfl rfl hy dg_cause_4 (X1.fin ⟨rfl, rfl⟩ (by decide) (by decide))
theorem dre_0 : decode prog_50_method_8_code 0 = .ok (.aload_n 0, 1) := by decide +kernel
theorem dre_1 : decode prog_50_method_8_code 1 = .ok (.getfield 20, 3) := by decide +kernel
theorem dre_4 : decode prog_50_method_8_code 4 = .ok (.ifCond .eq 9, 3) := by decide +kernel
theorem dre_7 : decode prog_50_method_8_code 7 = .ok (.getstatic 54, 3) := by decide +kernel
theorem dre_10 : decode prog_50_method_8_code 10 = .ok (.goto 6, 3) := by decide +kernel
theorem dre_13 : decode prog_50_method_8_code 13 = .ok (.getstatic 60, 3) := by decide +kernel
theorem dre_16 : decode prog_50_method_8_code 16 = .ok (.areturn, 1) := by decide +kernel
theorem ef_re (m : MethodId) (a : Addr) : entryFrame m #[(.ref a)] 1 = mkF m 0 #[.val (.ref a)] [] := by first | (simp [entryFrame, mkF, argsToLocals, Value.category]; done) | rfl
set_option maxRecDepth 65536 in
set_option maxHeartbeats 40000000 in
theorem rm_re (l : Launch) (Z : State) (a0 : Array Value) (hw : ∀ d ∈ tables_1, d.before a0 Z = true) (h0 : Heap) (bT : Addr) (ST : Sta Z Z.heap "com/example/ripieno/ripieno/engine/ExitReason" "TIMEOUT" "Lcom/example/ripieno/ripieno/engine/ExitReason;" (.ref bT)) (a : Addr) (F : Fld Z h0 a "com/example/ripieno/ripieno/engine/Review$Verdict" "timedOut" "Z" (.int 1)) :
    Ct l Z [] (⟨"com/example/ripieno/ripieno/engine/Review$Verdict", "reason", "()Lcom/example/ripieno/ripieno/engine/ExitReason;"⟩ : MethodName) prog_50_method_8_code 1 (some (.object "com/example/ripieno/ripieno/engine/ExitReason")) (⟨0, 0, 0, 0⟩ : Room) #[(.ref a)] h0 (Pu h0 (.ref bT)) := by
  refine Ct.of pn_com_example_ripieno_ripieno_engine_Review_Verdict (fun m => ef_re m a) ?_
  intro p e s m below meth c s₁ X0
  refine Go.aloadN X0 1 dre_0 rfl rfl ?_
  refine Go.getF X0 4 (hw _ (List.mem_of_getElem? (i := 52) rfl)) F dre_1 ?_
  intro T1 X1
  refine Go.if0N X1 7 dre_4 (XT.i0_eq_f (by decide)) ?_
  refine Go.getS X1 10 (hw _ (List.mem_of_getElem? (i := 96) rfl)) ST dre_7 ?_
  intro T2 X2
  refine Go.goto X2 16 dre_10 ?_
  exact Go.retA X2 rfl rfl rfl dre_16 (X2.fin ⟨rfl, rfl⟩ (by decide) (by decide))
theorem dte_0 : decode prog_50_method_7_code 0 = .ok (.aload_n 0, 1) := by decide +kernel
theorem dte_1 : decode prog_50_method_7_code 1 = .ok (.getfield 12, 3) := by decide +kernel
theorem dte_4 : decode prog_50_method_7_code 4 = .ok (.getstatic 32, 3) := by decide +kernel
theorem dte_7 : decode prog_50_method_7_code 7 = .ok (.if_acmp .ne 10, 3) := by decide +kernel
theorem dte_10 : decode prog_50_method_7_code 10 = .ok (.aload_n 0, 1) := by decide +kernel
theorem dte_11 : decode prog_50_method_7_code 11 = .ok (.getfield 24, 3) := by decide +kernel
theorem dte_14 : decode prog_50_method_7_code 14 = .ok (.goto 16, 3) := by decide +kernel
theorem dte_17 : decode prog_50_method_7_code 17 = .ok (.aload_n 0, 1) := by decide +kernel
theorem dte_18 : decode prog_50_method_7_code 18 = .ok (.getfield 16, 3) := by decide +kernel
theorem dte_21 : decode prog_50_method_7_code 21 = .ok (.invokevirtual 40, 3) := by decide +kernel
theorem dte_24 : decode prog_50_method_7_code 24 = .ok (.invokevirtual 46, 3) := by decide +kernel
theorem dte_27 : decode prog_50_method_7_code 27 = .ok (.checkcast 52, 3) := by decide +kernel
theorem dte_30 : decode prog_50_method_7_code 30 = .ok (.areturn, 1) := by decide +kernel
theorem ef_te (m : MethodId) (a : Addr) : entryFrame m #[(.ref a)] 1 = mkF m 0 #[.val (.ref a)] [] := by first | (simp [entryFrame, mkF, argsToLocals, Value.category]; done) | rfl
set_option maxRecDepth 65536 in
set_option maxHeartbeats 40000000 in
theorem rm_te (l : Launch) (Z : State) (a0 : Array Value) (hw : ∀ d ∈ tables_1, d.before a0 Z = true) (h0 : Heap) (b3 : Addr) (B3 : Sta Z Z.heap "com/example/ripieno/ripieno/engine/Review$Verdict$Kind" "FAIL" "Lcom/example/ripieno/ripieno/engine/Review$Verdict$Kind;" (.ref b3)) (a : Addr) (y : Value) (hy : y.isRef = true) (F0 : Fld Z h0 a "com/example/ripieno/ripieno/engine/Review$Verdict" "kind" "Lcom/example/ripieno/ripieno/engine/Review$Verdict$Kind;" (.ref b3)) (F : Fld Z h0 a "com/example/ripieno/ripieno/engine/Review$Verdict" "failure" "Ljava/lang/String;" y) :
    Ct l Z [] (⟨"com/example/ripieno/ripieno/engine/Review$Verdict", "text", "()Ljava/lang/String;"⟩ : MethodName) prog_50_method_7_code 1 (some (.object "java/lang/String")) (⟨0, 0, 0, 0⟩ : Room) #[(.ref a)] h0 (Pu h0 y) := by
  refine Ct.of pn_com_example_ripieno_ripieno_engine_Review_Verdict (fun m => ef_te m a) ?_
  intro p e s m below meth c s₁ X0
  refine Go.aloadN X0 1 dte_0 rfl rfl ?_
  refine Go.getF X0 4 (hw _ (List.mem_of_getElem? (i := 48) rfl)) F0 dte_1 ?_
  intro T1 X1
  refine Go.getS X1 7 (hw _ (List.mem_of_getElem? (i := 130) rfl)) B3 dte_4 ?_
  intro T2 X2
  refine Go.acmpN X2 10 dte_7 rfl rfl (XT.aa_ne_f rfl) ?_
  refine Go.aloadN X2 11 dte_10 rfl rfl ?_
  refine Go.getF X2 14 (hw _ (List.mem_of_getElem? (i := 54) rfl)) F dte_11 ?_
  intro T3 X3
  refine Go.goto X3 30 dte_14 ?_
  exact Go.retA X3 rfl rfl hy dte_30 (X3.fin ⟨rfl, rfl⟩ (by decide) (by decide))
theorem deq1_0 : decode jdk_42_method_66_code 0 = .ok (.aload_n 0, 1) := by decide +kernel
theorem deq1_1 : decode jdk_42_method_66_code 1 = .ok (.aload_n 1, 1) := by decide +kernel
theorem deq1_2 : decode jdk_42_method_66_code 2 = .ok (.if_acmp .ne 5, 3) := by decide +kernel
theorem deq1_5 : decode jdk_42_method_66_code 5 = .ok (.iconst 1, 1) := by decide +kernel
theorem deq1_6 : decode jdk_42_method_66_code 6 = .ok (.ireturn, 1) := by decide +kernel
theorem deq1_7 : decode jdk_42_method_66_code 7 = .ok (.aload_n 1, 1) := by decide +kernel
theorem deq1_8 : decode jdk_42_method_66_code 8 = .ok (.instanceof 10, 3) := by decide +kernel
theorem deq1_11 : decode jdk_42_method_66_code 11 = .ok (.ifCond .eq 43, 3) := by decide +kernel
theorem deq1_14 : decode jdk_42_method_66_code 14 = .ok (.aload_n 1, 1) := by decide +kernel
theorem deq1_15 : decode jdk_42_method_66_code 15 = .ok (.checkcast 10, 3) := by decide +kernel
theorem deq1_18 : decode jdk_42_method_66_code 18 = .ok (.astore_n 2, 1) := by decide +kernel
theorem deq1_19 : decode jdk_42_method_66_code 19 = .ok (.getstatic 38, 3) := by decide +kernel
theorem deq1_22 : decode jdk_42_method_66_code 22 = .ok (.ifCond .eq 14, 3) := by decide +kernel
theorem deq1_25 : decode jdk_42_method_66_code 25 = .ok (.aload_n 0, 1) := by decide +kernel
theorem deq1_26 : decode jdk_42_method_66_code 26 = .ok (.getfield 15, 3) := by decide +kernel
theorem deq1_29 : decode jdk_42_method_66_code 29 = .ok (.aload_n 2, 1) := by decide +kernel
theorem deq1_30 : decode jdk_42_method_66_code 30 = .ok (.getfield 15, 3) := by decide +kernel
theorem deq1_33 : decode jdk_42_method_66_code 33 = .ok (.if_icmp .ne 21, 3) := by decide +kernel
theorem deq1_36 : decode jdk_42_method_66_code 36 = .ok (.aload_n 0, 1) := by decide +kernel
theorem deq1_37 : decode jdk_42_method_66_code 37 = .ok (.getfield 9, 3) := by decide +kernel
theorem deq1_40 : decode jdk_42_method_66_code 40 = .ok (.aload_n 2, 1) := by decide +kernel
theorem deq1_41 : decode jdk_42_method_66_code 41 = .ok (.getfield 9, 3) := by decide +kernel
theorem deq1_44 : decode jdk_42_method_66_code 44 = .ok (.invokestatic 541, 3) := by decide +kernel
theorem deq1_47 : decode jdk_42_method_66_code 47 = .ok (.ifCond .eq 7, 3) := by decide +kernel
theorem deq1_50 : decode jdk_42_method_66_code 50 = .ok (.iconst 1, 1) := by decide +kernel
theorem deq1_51 : decode jdk_42_method_66_code 51 = .ok (.goto 4, 3) := by decide +kernel
theorem deq1_54 : decode jdk_42_method_66_code 54 = .ok (.iconst 0, 1) := by decide +kernel
theorem deq1_55 : decode jdk_42_method_66_code 55 = .ok (.ireturn, 1) := by decide +kernel
theorem ef_eq1 (m : MethodId) (a : Addr) (b : Addr) : entryFrame m #[(.ref a), (.ref b)] 3 = mkF m 0 #[.val (.ref a), .val (.ref b), .unset] [] := by first | (simp [entryFrame, mkF, argsToLocals, Value.category]; done) | rfl
set_option maxRecDepth 65536 in
set_option maxHeartbeats 40000000 in
theorem rm_eq1 (l : Launch) (Z : State) (a0 : Array Value) (hw : ∀ d ∈ tables_1, d.before a0 Z = true) (h0 : Heap) (a b : Addr) (hab : a = b) :
    Ct l Z [] (⟨"java/lang/String", "equals", "(Ljava/lang/Object;)Z"⟩ : MethodName) jdk_42_method_66_code 3 (some .boolean) (⟨0, 0, 0, 0⟩ : Room) #[(.ref a), (.ref b)] h0 (Pu h0 (.int 1)) := by
  refine Ct.of pn_java_lang_String (fun m => ef_eq1 m a b) ?_
  intro p e s m below meth c s₁ X0
  subst hab
  refine Go.aloadN X0 1 deq1_0 rfl rfl ?_
  refine Go.aloadN X0 2 deq1_1 rfl rfl ?_
  refine Go.acmpN X0 5 deq1_2 rfl rfl (XT.aa_ne_f rfl) ?_
  refine Go.iconst X0 6 (1 : Int32) deq1_5 ?_
  exact Go.retI X0 rfl (by simp) rfl deq1_6 (X0.fin ⟨rfl, rfl⟩ (by decide) (by decide))
theorem dstN_0 : decode method_3_code 0 = .ok (.aload_n 0, 1) := by decide +kernel
theorem dstN_1 : decode method_3_code 1 = .ok (.ifnonnull 13, 3) := by decide +kernel
theorem dstN_4 : decode method_3_code 4 = .ok (.aload_n 1, 1) := by decide +kernel
theorem dstN_5 : decode method_3_code 5 = .ok (.ifnonnull 7, 3) := by decide +kernel
theorem dstN_8 : decode method_3_code 8 = .ok (.iconst 1, 1) := by decide +kernel
theorem dstN_9 : decode method_3_code 9 = .ok (.goto 4, 3) := by decide +kernel
theorem dstN_12 : decode method_3_code 12 = .ok (.iconst 0, 1) := by decide +kernel
theorem dstN_13 : decode method_3_code 13 = .ok (.ireturn, 1) := by decide +kernel
theorem dstN_14 : decode method_3_code 14 = .ok (.aload_n 0, 1) := by decide +kernel
theorem dstN_15 : decode method_3_code 15 = .ok (.aload_n 1, 1) := by decide +kernel
theorem dstN_16 : decode method_3_code 16 = .ok (.invokevirtual 25, 3) := by decide +kernel
theorem dstN_19 : decode method_3_code 19 = .ok (.ireturn, 1) := by decide +kernel
theorem ef_stN (m : MethodId)  : entryFrame m #[.null, .null] 2 = mkF m 0 #[.val .null, .val .null] [] := by first | (simp [entryFrame, mkF, argsToLocals, Value.category]; done) | rfl
set_option maxRecDepth 65536 in
set_option maxHeartbeats 40000000 in
theorem rm_stN (l : Launch) (Z : State) (a0 : Array Value) (hw : ∀ d ∈ tables_1, d.before a0 Z = true) (h0 : Heap)  :
    Ct l Z [] (⟨"com/example/ripieno/ripieno/engine/VerdictTimedOutPinLaw", "sameText", "(Ljava/lang/String;Ljava/lang/String;)Z"⟩ : MethodName) method_3_code 2 (some .boolean) (⟨0, 0, 0, 0⟩ : Room) #[.null, .null] h0 (Pu h0 (.int 1)) := by
  refine Ct.of pn_com_example_ripieno_ripieno_engine_VerdictTimedOutPinLaw (fun m => ef_stN m ) ?_
  intro p e s m below meth c s₁ X0
  refine Go.aloadN X0 1 dstN_0 rfl rfl ?_
  refine Go.ifnonnullN X0 4 dstN_1 ?_
  refine Go.aloadN X0 5 dstN_4 rfl rfl ?_
  refine Go.ifnonnullN X0 8 dstN_5 ?_
  refine Go.iconst X0 9 (1 : Int32) dstN_8 ?_
  refine Go.goto X0 13 dstN_9 ?_
  exact Go.retI X0 rfl (by simp) rfl dstN_13 (X0.fin ⟨rfl, rfl⟩ (by decide) (by decide))
theorem dstR_0 : decode method_3_code 0 = .ok (.aload_n 0, 1) := by decide +kernel
theorem dstR_1 : decode method_3_code 1 = .ok (.ifnonnull 13, 3) := by decide +kernel
theorem dstR_4 : decode method_3_code 4 = .ok (.aload_n 1, 1) := by decide +kernel
theorem dstR_5 : decode method_3_code 5 = .ok (.ifnonnull 7, 3) := by decide +kernel
theorem dstR_8 : decode method_3_code 8 = .ok (.iconst 1, 1) := by decide +kernel
theorem dstR_9 : decode method_3_code 9 = .ok (.goto 4, 3) := by decide +kernel
theorem dstR_12 : decode method_3_code 12 = .ok (.iconst 0, 1) := by decide +kernel
theorem dstR_13 : decode method_3_code 13 = .ok (.ireturn, 1) := by decide +kernel
theorem dstR_14 : decode method_3_code 14 = .ok (.aload_n 0, 1) := by decide +kernel
theorem dstR_15 : decode method_3_code 15 = .ok (.aload_n 1, 1) := by decide +kernel
theorem dstR_16 : decode method_3_code 16 = .ok (.invokevirtual 25, 3) := by decide +kernel
theorem dstR_19 : decode method_3_code 19 = .ok (.ireturn, 1) := by decide +kernel
theorem ef_stR (m : MethodId) (a : Addr) (b : Addr) : entryFrame m #[(.ref a), (.ref b)] 2 = mkF m 0 #[.val (.ref a), .val (.ref b)] [] := by first | (simp [entryFrame, mkF, argsToLocals, Value.category]; done) | rfl
set_option maxRecDepth 65536 in
set_option maxHeartbeats 40000000 in
theorem rm_stR (l : Launch) (Z : State) (a0 : Array Value) (hw : ∀ d ∈ tables_1, d.before a0 Z = true) (h0 : Heap) (a b : Addr) (hab : a = b) (E : Exa Z h0 a "java/lang/String") :
    Ct l Z [] (⟨"com/example/ripieno/ripieno/engine/VerdictTimedOutPinLaw", "sameText", "(Ljava/lang/String;Ljava/lang/String;)Z"⟩ : MethodName) method_3_code 2 (some .boolean) (⟨1, 0, 0, 14⟩ : Room) #[(.ref a), (.ref b)] h0 (Pu h0 (.int 1)) := by
  refine Ct.of pn_com_example_ripieno_ripieno_engine_VerdictTimedOutPinLaw (fun m => ef_stR m a b) ?_
  intro p e s m below meth c s₁ X0
  subst hab
  refine Go.aloadN X0 1 dstR_0 rfl rfl ?_
  refine Go.ifnonnullY X0 14 dstR_1 ?_
  refine Go.aloadN X0 15 dstR_14 rfl rfl ?_
  refine Go.aloadN X0 16 dstR_15 rfl rfl ?_
  refine Go.callVP X0 19 [(.ref a)] [] 0 (hw _ (List.mem_of_getElem? (i := 86) rfl)) (hw _ (List.mem_of_getElem? (i := 87) rfl)) (hw _ (List.mem_of_getElem? (i := 89) rfl)) (notFace_of_selects (args := #[]) (mvT X0.hZ (hw _ (List.mem_of_getElem? (i := 89) rfl)))) (hw _ (List.mem_of_getElem? (i := 88) rfl)) (hw _ (List.mem_of_getElem? (i := 11) rfl)) (by decide) E (hw _ (List.mem_of_getElem? (i := 90) rfl)) pd_8 dstR_16 (rm_eq1 l Z a0 hw h0 a a rfl) rfl rfl rfl (Nat.le_of_eq rfl) (by decide) (by decide) (by decide) (by decide) ?_
  intro T1 L1 X1
  exact Go.retI X1 rfl (by simp) rfl dstR_19 (X1.fin ⟨rfl, rfl⟩ (by decide) (by decide))
theorem ef_l (m : MethodId) (q0 : Int32) (q1 : Int32) (q2 : Int32) (q3 : Int32) : entryFrame m #[(.int q0), (.int q1), (.int q2), (.int q3)] maxLocals = mkF m 0 #[.val (.int q0), .val (.int q1), .val (.int q2), .val (.int q3), .unset, .unset, .unset, .unset, .unset, .unset, .unset] [] := by first | (simp [entryFrame, mkF, argsToLocals, Value.category, maxLocals]; done) | rfl
set_option maxRecDepth 65536 in
set_option maxHeartbeats 40000000 in
theorem rm_l (l : Launch) (Z : State) (a0 : Array Value) (hw : ∀ d ∈ tables_1, d.before a0 Z = true) (h0 : Heap) (cz : Int32) (SC : Sta Z Z.heap "java/lang/String" "COMPACT_STRINGS" "Z" (.int cz)) (hcz : ¬ cz = 0) (b0 : Addr) (b1 : Addr) (b2 : Addr) (b3 : Addr) (b4 : Addr) (B0 : Sta Z Z.heap "com/example/ripieno/ripieno/engine/Review$Verdict$Kind" "GO_ON" "Lcom/example/ripieno/ripieno/engine/Review$Verdict$Kind;" (.ref b0)) (B1 : Sta Z Z.heap "com/example/ripieno/ripieno/engine/Review$Verdict$Kind" "REPLACE" "Lcom/example/ripieno/ripieno/engine/Review$Verdict$Kind;" (.ref b1)) (B2 : Sta Z Z.heap "com/example/ripieno/ripieno/engine/Review$Verdict$Kind" "STOP" "Lcom/example/ripieno/ripieno/engine/Review$Verdict$Kind;" (.ref b2)) (B3 : Sta Z Z.heap "com/example/ripieno/ripieno/engine/Review$Verdict$Kind" "FAIL" "Lcom/example/ripieno/ripieno/engine/Review$Verdict$Kind;" (.ref b3)) (B4 : Sta Z Z.heap "com/example/ripieno/ripieno/engine/Review$Verdict$Kind" "WITHDRAWN" "Lcom/example/ripieno/ripieno/engine/Review$Verdict$Kind;" (.ref b4)) (bT : Addr) (ST : Sta Z Z.heap "com/example/ripieno/ripieno/engine/ExitReason" "TIMEOUT" "Lcom/example/ripieno/ripieno/engine/ExitReason;" (.ref bT)) (q0 q1 q2 q3 : Int32) :
    CtL l Z consts_1 tables_1 x code maxLocals ret room_1 #[(.int q0), (.int q1), (.int q2), (.int q3)] h0 (fun v _ => v = some (.int 1)) := by
  refine CtL.of pn_com_example_ripieno_ripieno_engine_VerdictTimedOutPinLaw (fun m => ef_l m q0 q1 q2 q3) ?_
  intro p e s m below meth c s₁ X0 ws0 H0
  have hEL := own_EW hw
  refine Go.iloadN X0 1 at_0 rfl ?_
  refine Go.ldcI X0 3 (hw _ (List.mem_of_getElem? (i := 0) rfl)) at_1 ?_
  refine Go.iand X0 4 at_3 ?_
  refine Go.iconst X0 5 (5 : Int32) at_4 ?_
  refine Go.irem X0 6 at_5 (by decide) ?_
  generalize ((q0 &&& (2147483647 : Int32)) % (5 : Int32)) = z0
  refine Go.callS X0 9 [(.int z0)] [] 0 (hw _ (List.mem_of_getElem? (i := 1) rfl)) (hw _ (List.mem_of_getElem? (i := 2) rfl)) (hw _ (List.mem_of_getElem? (i := 3) rfl)) (by decide) (hw _ (List.mem_of_getElem? (i := 4) rfl)) pd_9 at_6 (rm_k l Z a0 hw h0 b0 b1 b2 b3 b4 B0 B1 B2 B3 B4 z0) rfl rfl rfl (Nat.le_of_eq rfl) (by decide) (by decide) (by decide) (by decide) ?_
  rintro T21 v21 L21 X21 ⟨hhk, kd, rfl⟩
  rw [hhk] at X21
  show Go p e below _ T21 m 9 #[.val (.int q0), .val (.int q1), .val (.int q2), .val (.int q3), .unset, .unset, .unset, .unset, .unset, .unset, .unset] [(.ref kd)]
  refine Go.astore X21 11 #[.val (.int q0), .val (.int q1), .val (.int q2), .val (.int q3), .val (.ref kd), .unset, .unset, .unset, .unset, .unset, .unset] at_9 rfl rfl ?_
  refine Go.iloadN X21 12 at_11 rfl ?_
  refine Go.sipush X21 15 (255 : Int32) at_12 ?_
  refine Go.iand X21 16 at_15 ?_
  refine Go.i2c X21 17 at_16 ?_
  rw [i2c_mask q2]
  have rx0 := own_255 q2
  generalize (q2 &&& (255 : Int32)) = x0 at rx0 ⊢
  refine Go.istore X21 19 #[.val (.int q0), .val (.int q1), .val (.int q2), .val (.int q3), .val (.ref kd), .val (.int x0), .unset, .unset, .unset, .unset, .unset] at_17 rfl ?_
  refine Go.iloadN X21 20 at_19 rfl ?_
  refine Go.sipush X21 23 (255 : Int32) at_20 ?_
  refine Go.iand X21 24 at_23 ?_
  refine Go.i2c X21 25 at_24 ?_
  rw [i2c_mask q3]
  have rx1 := own_255 q3
  generalize (q3 &&& (255 : Int32)) = x1 at rx1 ⊢
  refine Go.istore X21 27 #[.val (.int q0), .val (.int q1), .val (.int q2), .val (.int q3), .val (.ref kd), .val (.int x0), .val (.int x1), .unset, .unset, .unset, .unset] at_25 rfl ?_
  refine Go.iloadN X21 28 at_27 rfl ?_
  refine Go.iconst X21 29 (3 : Int32) at_28 ?_
  refine Go.iand X21 30 at_29 ?_
  rcases own_k4 q1 with hk | hk | hk | hk
  · rw [hk]
    refine Go.istore X21 32 #[.val (.int q0), .val (.int q1), .val (.int q2), .val (.int q3), .val (.ref kd), .val (.int x0), .val (.int x1), .val (.int (0 : Int32)), .unset, .unset, .unset] at_30 rfl ?_
    refine Go.iload X21 34 at_32 rfl ?_
    refine Go.if0N X21 37 at_34 (XT.i0_ne_f (by decide)) ?_
    refine Go.aconst_null X21 38 at_37 ?_
    refine Go.astore X21 40 #[.val (.int q0), .val (.int q1), .val (.int q2), .val (.int q3), .val (.ref kd), .val (.int x0), .val (.int x1), .val (.int (0 : Int32)), .val .null, .unset, .unset] at_38 rfl rfl ?_
    refine Go.goto X21 108 at_40 ?_
    refine Go.aload X21 110 at_108 rfl rfl ?_
    refine Go.aload X21 112 at_110 rfl rfl ?_
    refine Go.callS X21 115 [(.ref kd), .null] [] 0 (hw _ (List.mem_of_getElem? (i := 38) rfl)) (hw _ (List.mem_of_getElem? (i := 39) rfl)) (hw _ (List.mem_of_getElem? (i := 40) rfl)) (by decide) (hw _ (List.mem_of_getElem? (i := 41) rfl)) pd_10 at_112 (rm_toN l Z a0 hw h0 kd) rfl rfl rfl (Nat.le_of_eq rfl) (by decide) (by decide) (by decide) (by decide) ?_
    rintro T22 v22 L22 X22 ⟨vd, rfl, Kv, gv, Ev, G0, G1, G2, G3, G4⟩
    show Go p e below _ T22 m 115 #[.val (.int q0), .val (.int q1), .val (.int q2), .val (.int q3), .val (.ref kd), .val (.int x0), .val (.int x1), .val (.int (0 : Int32)), .val .null, .unset, .unset] [(.ref vd)]
    have ws23 : WS s s.vm T22.heap := ws0.le Kv.1
    refine Go.astore X22 117 #[.val (.int q0), .val (.int q1), .val (.int q2), .val (.int q3), .val (.ref kd), .val (.int x0), .val (.int x1), .val (.int (0 : Int32)), .val .null, .val (.ref vd), .unset] at_115 rfl rfl ?_
    refine Go.aload X22 119 at_117 rfl rfl ?_
    refine Go.callVP X22 122 [] [] 0 (hw _ (List.mem_of_getElem? (i := 58) rfl)) (hw _ (List.mem_of_getElem? (i := 59) rfl)) (hw _ (List.mem_of_getElem? (i := 61) rfl)) (notFace_of_selects (args := #[]) (mvT X22.hZ (hw _ (List.mem_of_getElem? (i := 61) rfl)))) (hw _ (List.mem_of_getElem? (i := 60) rfl)) (hw _ (List.mem_of_getElem? (i := 40) rfl)) (by decide) Ev (hw _ (List.mem_of_getElem? (i := 62) rfl)) pd_11 at_119 (rm_g_kind l Z a0 hw T22.heap vd (.ref kd) rfl G0) rfl rfl rfl (Nat.le_of_eq rfl) (by decide) (by decide) (by decide) (by decide) ?_
    intro T24 L24 X24
    refine Go.aload X24 124 at_122 rfl rfl ?_
    refine Go.acmpN X24 127 at_124 rfl rfl (XT.aa_ne_f rfl) ?_
    refine Go.iconst X24 128 (1 : Int32) at_127 ?_
    refine Go.goto X24 132 at_128 ?_
    refine Go.istore X24 134 #[.val (.int q0), .val (.int q1), .val (.int q2), .val (.int q3), .val (.ref kd), .val (.int x0), .val (.int x1), .val (.int (0 : Int32)), .val .null, .val (.ref vd), .val (.int (1 : Int32))] at_132 rfl ?_
    refine Go.iload X24 136 at_134 rfl ?_
    refine Go.if0N X24 139 at_136 (XT.i0_eq_f (by decide)) ?_
    refine Go.aload X24 141 at_139 rfl rfl ?_
    refine Go.callVP X24 144 [] [] 0 (hw _ (List.mem_of_getElem? (i := 63) rfl)) (hw _ (List.mem_of_getElem? (i := 64) rfl)) (hw _ (List.mem_of_getElem? (i := 66) rfl)) (notFace_of_selects (args := #[]) (mvT X24.hZ (hw _ (List.mem_of_getElem? (i := 66) rfl)))) (hw _ (List.mem_of_getElem? (i := 65) rfl)) (hw _ (List.mem_of_getElem? (i := 40) rfl)) (by decide) Ev (hw _ (List.mem_of_getElem? (i := 67) rfl)) pd_12 at_141 (rm_g_timedOut l Z a0 hw T22.heap vd G2) rfl rfl rfl (Nat.le_of_eq rfl) (by decide) (by decide) (by decide) (by decide) ?_
    intro T25 L25 X25
    refine Go.if0N X25 147 at_144 (XT.i0_eq_f (by decide)) ?_
    refine Go.iconst X25 148 (1 : Int32) at_147 ?_
    refine Go.goto X25 152 at_148 ?_
    refine Go.istore X25 154 #[.val (.int q0), .val (.int q1), .val (.int q2), .val (.int q3), .val (.ref kd), .val (.int x0), .val (.int x1), .val (.int (0 : Int32)), .val .null, .val (.ref vd), .val (.int (1 : Int32))] at_152 rfl ?_
    refine Go.iload X25 156 at_154 rfl ?_
    refine Go.if0N X25 159 at_156 (XT.i0_eq_f (by decide)) ?_
    refine Go.aload X25 161 at_159 rfl rfl ?_
    refine Go.callVP X25 164 [] [] 0 (hw _ (List.mem_of_getElem? (i := 68) rfl)) (hw _ (List.mem_of_getElem? (i := 69) rfl)) (hw _ (List.mem_of_getElem? (i := 71) rfl)) (notFace_of_selects (args := #[]) (mvT X25.hZ (hw _ (List.mem_of_getElem? (i := 71) rfl)))) (hw _ (List.mem_of_getElem? (i := 70) rfl)) (hw _ (List.mem_of_getElem? (i := 40) rfl)) (by decide) Ev (hw _ (List.mem_of_getElem? (i := 72) rfl)) pd_13 at_161 (rm_g_decision l Z a0 hw T22.heap vd .null rfl G1) rfl rfl rfl (Nat.le_of_eq rfl) (by decide) (by decide) (by decide) (by decide) ?_
    intro T26 L26 X26
    refine Go.ifnonnullN X26 167 at_164 ?_
    refine Go.iconst X26 168 (1 : Int32) at_167 ?_
    refine Go.goto X26 172 at_168 ?_
    refine Go.istore X26 174 #[.val (.int q0), .val (.int q1), .val (.int q2), .val (.int q3), .val (.ref kd), .val (.int x0), .val (.int x1), .val (.int (0 : Int32)), .val .null, .val (.ref vd), .val (.int (1 : Int32))] at_172 rfl ?_
    refine Go.iload X26 176 at_174 rfl ?_
    refine Go.if0N X26 179 at_176 (XT.i0_eq_f (by decide)) ?_
    refine Go.aload X26 181 at_179 rfl rfl ?_
    refine Go.callVP X26 184 [] [] 0 (hw _ (List.mem_of_getElem? (i := 73) rfl)) (hw _ (List.mem_of_getElem? (i := 74) rfl)) (hw _ (List.mem_of_getElem? (i := 76) rfl)) (notFace_of_selects (args := #[]) (mvT X26.hZ (hw _ (List.mem_of_getElem? (i := 76) rfl)))) (hw _ (List.mem_of_getElem? (i := 75) rfl)) (hw _ (List.mem_of_getElem? (i := 40) rfl)) (by decide) Ev (hw _ (List.mem_of_getElem? (i := 77) rfl)) pd_14 at_181 (rm_g_cause l Z a0 hw T22.heap vd .null rfl G4) rfl rfl rfl (Nat.le_of_eq rfl) (by decide) (by decide) (by decide) (by decide) ?_
    intro T27 L27 X27
    refine Go.ifnonnullN X27 187 at_184 ?_
    refine Go.iconst X27 188 (1 : Int32) at_187 ?_
    refine Go.goto X27 192 at_188 ?_
    refine Go.istore X27 194 #[.val (.int q0), .val (.int q1), .val (.int q2), .val (.int q3), .val (.ref kd), .val (.int x0), .val (.int x1), .val (.int (0 : Int32)), .val .null, .val (.ref vd), .val (.int (1 : Int32))] at_192 rfl ?_
    refine Go.iload X27 196 at_194 rfl ?_
    refine Go.if0N X27 199 at_196 (XT.i0_eq_f (by decide)) ?_
    refine Go.aload X27 201 at_199 rfl rfl ?_
    refine Go.aload X27 203 at_201 rfl rfl ?_
    refine Go.callVP X27 206 [] [.null] 1 (hw _ (List.mem_of_getElem? (i := 78) rfl)) (hw _ (List.mem_of_getElem? (i := 79) rfl)) (hw _ (List.mem_of_getElem? (i := 81) rfl)) (notFace_of_selects (args := #[]) (mvT X27.hZ (hw _ (List.mem_of_getElem? (i := 81) rfl)))) (hw _ (List.mem_of_getElem? (i := 80) rfl)) (hw _ (List.mem_of_getElem? (i := 40) rfl)) (by decide) Ev (hw _ (List.mem_of_getElem? (i := 82) rfl)) pd_15 at_203 (rm_g_failure l Z a0 hw T22.heap vd .null rfl G3) rfl rfl rfl (Nat.le_of_eq rfl) (by decide) (by decide) (by decide) (by decide) ?_
    intro T28 L28 X28
    refine Go.callSP X28 209 [.null, .null] [] 0 (hw _ (List.mem_of_getElem? (i := 83) rfl)) (hw _ (List.mem_of_getElem? (i := 84) rfl)) (hw _ (List.mem_of_getElem? (i := 3) rfl)) (by decide) (hw _ (List.mem_of_getElem? (i := 85) rfl)) pd_16 at_206 (rm_stN l Z a0 hw T22.heap) rfl rfl rfl (Nat.le_of_eq rfl) (by decide) (by decide) (by decide) (by decide) ?_
    intro T29 L29 X29
    refine Go.if0N X29 212 at_209 (XT.i0_eq_f (by decide)) ?_
    refine Go.iconst X29 213 (1 : Int32) at_212 ?_
    refine Go.goto X29 217 at_213 ?_
    refine Go.istore X29 219 #[.val (.int q0), .val (.int q1), .val (.int q2), .val (.int q3), .val (.ref kd), .val (.int x0), .val (.int x1), .val (.int (0 : Int32)), .val .null, .val (.ref vd), .val (.int (1 : Int32))] at_217 rfl ?_
    refine Go.iload X29 221 at_219 rfl ?_
    refine Go.if0N X29 224 at_221 (XT.i0_eq_f (by decide)) ?_
    refine Go.aload X29 226 at_224 rfl rfl ?_
    refine Go.callVP X29 229 [] [] 0 (hw _ (List.mem_of_getElem? (i := 91) rfl)) (hw _ (List.mem_of_getElem? (i := 92) rfl)) (hw _ (List.mem_of_getElem? (i := 94) rfl)) (notFace_of_selects (args := #[]) (mvT X29.hZ (hw _ (List.mem_of_getElem? (i := 94) rfl)))) (hw _ (List.mem_of_getElem? (i := 93) rfl)) (hw _ (List.mem_of_getElem? (i := 40) rfl)) (by decide) Ev (hw _ (List.mem_of_getElem? (i := 95) rfl)) pd_17 at_226 (rm_re l Z a0 hw T22.heap bT ST vd G2) rfl rfl rfl (Nat.le_of_eq rfl) (by decide) (by decide) (by decide) (by decide) ?_
    intro T30 L30 X30
    refine Go.getS X30 232 (hw _ (List.mem_of_getElem? (i := 99) rfl)) ST at_229 ?_
    intro T31 X31
    refine Go.acmpN X31 235 at_232 rfl rfl (XT.aa_ne_f rfl) ?_
    refine Go.iconst X31 236 (1 : Int32) at_235 ?_
    refine Go.goto X31 240 at_236 ?_
    refine Go.istore X31 242 #[.val (.int q0), .val (.int q1), .val (.int q2), .val (.int q3), .val (.ref kd), .val (.int x0), .val (.int x1), .val (.int (0 : Int32)), .val .null, .val (.ref vd), .val (.int (1 : Int32))] at_240 rfl ?_
    refine Go.iload X31 244 at_242 rfl ?_
    refine Go.if0N X31 247 at_244 (XT.i0_eq_f (by decide)) ?_
    refine Go.aload X31 249 at_247 rfl rfl ?_
    refine Go.getS X31 252 (hw _ (List.mem_of_getElem? (i := 100) rfl)) B3 at_249 ?_
    intro T32 X32
    by_cases c33 : (.ref kd) = ((.ref b3) : Value)
    · skip
      refine Go.acmpN X32 255 at_252 rfl rfl (XT.aa_ne_f c33) ?_
      refine Go.aload X32 257 at_255 rfl rfl ?_
      refine Go.aload X32 259 at_257 rfl rfl ?_
      have G0' := G0
      rw [c33] at G0'
      refine Go.callVP X32 262 [] [.null] 1 (hw _ (List.mem_of_getElem? (i := 125) rfl)) (hw _ (List.mem_of_getElem? (i := 126) rfl)) (hw _ (List.mem_of_getElem? (i := 128) rfl)) (notFace_of_selects (args := #[]) (mvT X32.hZ (hw _ (List.mem_of_getElem? (i := 128) rfl)))) (hw _ (List.mem_of_getElem? (i := 127) rfl)) (hw _ (List.mem_of_getElem? (i := 40) rfl)) (by decide) Ev (hw _ (List.mem_of_getElem? (i := 129) rfl)) pd_15 at_259 (rm_te l Z a0 hw T22.heap b3 B3 vd .null rfl G0' G3) rfl rfl rfl (Nat.le_of_eq rfl) (by decide) (by decide) (by decide) (by decide) ?_
      intro T34 L34 X34
      refine Go.callSP X34 265 [.null, .null] [] 0 (hw _ (List.mem_of_getElem? (i := 83) rfl)) (hw _ (List.mem_of_getElem? (i := 84) rfl)) (hw _ (List.mem_of_getElem? (i := 3) rfl)) (by decide) (hw _ (List.mem_of_getElem? (i := 85) rfl)) pd_16 at_262 (rm_stN l Z a0 hw T22.heap) rfl rfl rfl (Nat.le_of_eq rfl) (by decide) (by decide) (by decide) (by decide) ?_
      intro T35 L35 X35
      refine Go.istore X35 267 #[.val (.int q0), .val (.int q1), .val (.int q2), .val (.int q3), .val (.ref kd), .val (.int x0), .val (.int x1), .val (.int (0 : Int32)), .val .null, .val (.ref vd), .val (.int (1 : Int32))] at_265 rfl ?_
      refine Go.iload X35 269 at_267 rfl ?_
      exact Go.retI X35 rfl (by simp) rfl at_269 (X35.finL ws23 rfl (by decide) (by decide))
    · skip
      refine Go.acmpY X32 267 at_252 rfl rfl (XT.aa_ne_t c33) ?_
      refine Go.iload X32 269 at_267 rfl ?_
      exact Go.retI X32 rfl (by simp) rfl at_269 (X32.finL ws23 rfl (by decide) (by decide))
  · rw [hk]
    refine Go.istore X21 32 #[.val (.int q0), .val (.int q1), .val (.int q2), .val (.int q3), .val (.ref kd), .val (.int x0), .val (.int x1), .val (.int (1 : Int32)), .unset, .unset, .unset] at_30 rfl ?_
    refine Go.iload X21 34 at_32 rfl ?_
    refine Go.if0Y X21 43 at_34 (XT.i0_ne_t (by decide)) ?_
    refine Go.iload X21 45 at_43 rfl ?_
    refine Go.iconst X21 46 (1 : Int32) at_45 ?_
    refine Go.icmpN X21 49 at_46 (XT.ii_ne_f (by decide)) ?_
    refine Go.newO X21 52 (hw _ (List.mem_of_getElem? (i := 9) rfl)) (hw _ (List.mem_of_getElem? (i := 10) rfl)) (hw _ (List.mem_of_getElem? (i := 11) rfl)) at_49 (by decide) (by decide) ?_
    intro T36 h36 a36 X36 E36 g36 A36 D36
    have nw_a36 : Z.heap.size ≤ a36 := by rw [← g36]; exact X21.le
    have ws37 : WS s s.vm h36 := ws0.le E36.1
    have F38 : Fld Z h36 a36 "java/lang/String" "coder" "B" (.int (0 : Int32)) := D36 (Or.inr (hw _ (List.mem_of_getElem? (i := 35) rfl))) (ty := .byte) (by decide)
    have F39 : Fld Z h36 a36 "java/lang/String" "value" "[B" .null := D36 (Or.inr (hw _ (List.mem_of_getElem? (i := 37) rfl))) (ty := (.array .byte)) (by decide)
    refine Go.dup X36 53 at_52 rfl ?_
    refine Go.iconst X36 54 (0 : Int32) at_53 ?_
    refine Go.newC X36 56 (n := 0) (hw _ (List.mem_of_getElem? (i := 8) rfl)) at_54 0 (by decide) (by decide) (by decide) (by decide) ?_
    intro T40 h40 a40 X40 E40 g40 V40
    have nw_a40 : Z.heap.size ≤ a40 := by rw [← g40]; exact X36.le
    have ne_a36_a40 : a36 ≠ a40 := by rw [← g40]; exact Nat.ne_of_lt A36.lt
    have ws41 : WS s s.vm h40 := ws37.le E40.1
    have F42 : Exa Z h40 a36 "java/lang/String" := A36.ext E40
    have F43 : Fld Z h40 a36 "java/lang/String" "coder" "B" (.int (0 : Int32)) := F38.ext E40
    have F44 : Fld Z h40 a36 "java/lang/String" "value" "[B" .null := F39.ext E40
    refine Go.callIW X40 59 hEL ws41 ((H0.ext E36).ext E40) [(.ref a40)] [(.ref a36)] 1 rfl (hw _ (List.mem_of_getElem? (i := 12) rfl)) (hw _ (List.mem_of_getElem? (i := 13) rfl)) (hw _ (List.mem_of_getElem? (i := 11) rfl)) (by decide) rfl (hw _ (List.mem_of_getElem? (i := 14) rfl)) pd_18 at_56 (rm_i1e l Z a0 hw h40 a36 a40 F42 F44 F43 nw_a36 V40) rfl rfl rfl (Nat.le_of_eq rfl) (by decide) (by decide) (by decide) (by decide) ?_
    rintro T45 v45 L45 vm45 X45 ws45 R45 ⟨rfl, t, K, S⟩
    show Go p e below _ T45 m 59 #[.val (.int q0), .val (.int q1), .val (.int q2), .val (.int q3), .val (.ref kd), .val (.int x0), .val (.int x1), .val (.int (1 : Int32)), .unset, .unset, .unset] [(.ref a36)]
    have S0 := S (fun _ => (0 : Int32))
    refine Go.astore X45 61 #[.val (.int q0), .val (.int q1), .val (.int q2), .val (.int q3), .val (.ref kd), .val (.int x0), .val (.int x1), .val (.int (1 : Int32)), .val (.ref a36), .unset, .unset] at_59 rfl rfl ?_
    refine Go.goto X45 108 at_61 ?_
    refine Go.aload X45 110 at_108 rfl rfl ?_
    refine Go.aload X45 112 at_110 rfl rfl ?_
    refine Go.callS X45 115 [(.ref kd), (.ref a36)] [] 0 (hw _ (List.mem_of_getElem? (i := 38) rfl)) (hw _ (List.mem_of_getElem? (i := 39) rfl)) (hw _ (List.mem_of_getElem? (i := 40) rfl)) (by decide) (hw _ (List.mem_of_getElem? (i := 41) rfl)) pd_10 at_112 (rm_toR l Z a0 hw T45.heap kd a36) rfl rfl rfl (Nat.le_of_eq rfl) (by decide) (by decide) (by decide) (by decide) ?_
    rintro T46 v46 L46 X46 ⟨vd, rfl, Kv, gv, Ev, G0, G1, G2, G3, G4⟩
    show Go p e below _ T46 m 115 #[.val (.int q0), .val (.int q1), .val (.int q2), .val (.int q3), .val (.ref kd), .val (.int x0), .val (.int x1), .val (.int (1 : Int32)), .val (.ref a36), .unset, .unset] [(.ref vd)]
    have ws47 : WS s vm45 T46.heap := ws45.le Kv.1
    have F48 : Str Z T46.heap a36 t 0 (fun _ => (0 : Int32)) := S0.keep Kv nin0 nin0
    refine Go.astore X46 117 #[.val (.int q0), .val (.int q1), .val (.int q2), .val (.int q3), .val (.ref kd), .val (.int x0), .val (.int x1), .val (.int (1 : Int32)), .val (.ref a36), .val (.ref vd), .unset] at_115 rfl rfl ?_
    refine Go.aload X46 119 at_117 rfl rfl ?_
    refine Go.callVP X46 122 [] [] 0 (hw _ (List.mem_of_getElem? (i := 58) rfl)) (hw _ (List.mem_of_getElem? (i := 59) rfl)) (hw _ (List.mem_of_getElem? (i := 61) rfl)) (notFace_of_selects (args := #[]) (mvT X46.hZ (hw _ (List.mem_of_getElem? (i := 61) rfl)))) (hw _ (List.mem_of_getElem? (i := 60) rfl)) (hw _ (List.mem_of_getElem? (i := 40) rfl)) (by decide) Ev (hw _ (List.mem_of_getElem? (i := 62) rfl)) pd_11 at_119 (rm_g_kind l Z a0 hw T46.heap vd (.ref kd) rfl G0) rfl rfl rfl (Nat.le_of_eq rfl) (by decide) (by decide) (by decide) (by decide) ?_
    intro T49 L49 X49
    refine Go.aload X49 124 at_122 rfl rfl ?_
    refine Go.acmpN X49 127 at_124 rfl rfl (XT.aa_ne_f rfl) ?_
    refine Go.iconst X49 128 (1 : Int32) at_127 ?_
    refine Go.goto X49 132 at_128 ?_
    refine Go.istore X49 134 #[.val (.int q0), .val (.int q1), .val (.int q2), .val (.int q3), .val (.ref kd), .val (.int x0), .val (.int x1), .val (.int (1 : Int32)), .val (.ref a36), .val (.ref vd), .val (.int (1 : Int32))] at_132 rfl ?_
    refine Go.iload X49 136 at_134 rfl ?_
    refine Go.if0N X49 139 at_136 (XT.i0_eq_f (by decide)) ?_
    refine Go.aload X49 141 at_139 rfl rfl ?_
    refine Go.callVP X49 144 [] [] 0 (hw _ (List.mem_of_getElem? (i := 63) rfl)) (hw _ (List.mem_of_getElem? (i := 64) rfl)) (hw _ (List.mem_of_getElem? (i := 66) rfl)) (notFace_of_selects (args := #[]) (mvT X49.hZ (hw _ (List.mem_of_getElem? (i := 66) rfl)))) (hw _ (List.mem_of_getElem? (i := 65) rfl)) (hw _ (List.mem_of_getElem? (i := 40) rfl)) (by decide) Ev (hw _ (List.mem_of_getElem? (i := 67) rfl)) pd_12 at_141 (rm_g_timedOut l Z a0 hw T46.heap vd G2) rfl rfl rfl (Nat.le_of_eq rfl) (by decide) (by decide) (by decide) (by decide) ?_
    intro T50 L50 X50
    refine Go.if0N X50 147 at_144 (XT.i0_eq_f (by decide)) ?_
    refine Go.iconst X50 148 (1 : Int32) at_147 ?_
    refine Go.goto X50 152 at_148 ?_
    refine Go.istore X50 154 #[.val (.int q0), .val (.int q1), .val (.int q2), .val (.int q3), .val (.ref kd), .val (.int x0), .val (.int x1), .val (.int (1 : Int32)), .val (.ref a36), .val (.ref vd), .val (.int (1 : Int32))] at_152 rfl ?_
    refine Go.iload X50 156 at_154 rfl ?_
    refine Go.if0N X50 159 at_156 (XT.i0_eq_f (by decide)) ?_
    refine Go.aload X50 161 at_159 rfl rfl ?_
    refine Go.callVP X50 164 [] [] 0 (hw _ (List.mem_of_getElem? (i := 68) rfl)) (hw _ (List.mem_of_getElem? (i := 69) rfl)) (hw _ (List.mem_of_getElem? (i := 71) rfl)) (notFace_of_selects (args := #[]) (mvT X50.hZ (hw _ (List.mem_of_getElem? (i := 71) rfl)))) (hw _ (List.mem_of_getElem? (i := 70) rfl)) (hw _ (List.mem_of_getElem? (i := 40) rfl)) (by decide) Ev (hw _ (List.mem_of_getElem? (i := 72) rfl)) pd_13 at_161 (rm_g_decision l Z a0 hw T46.heap vd .null rfl G1) rfl rfl rfl (Nat.le_of_eq rfl) (by decide) (by decide) (by decide) (by decide) ?_
    intro T51 L51 X51
    refine Go.ifnonnullN X51 167 at_164 ?_
    refine Go.iconst X51 168 (1 : Int32) at_167 ?_
    refine Go.goto X51 172 at_168 ?_
    refine Go.istore X51 174 #[.val (.int q0), .val (.int q1), .val (.int q2), .val (.int q3), .val (.ref kd), .val (.int x0), .val (.int x1), .val (.int (1 : Int32)), .val (.ref a36), .val (.ref vd), .val (.int (1 : Int32))] at_172 rfl ?_
    refine Go.iload X51 176 at_174 rfl ?_
    refine Go.if0N X51 179 at_176 (XT.i0_eq_f (by decide)) ?_
    refine Go.aload X51 181 at_179 rfl rfl ?_
    refine Go.callVP X51 184 [] [] 0 (hw _ (List.mem_of_getElem? (i := 73) rfl)) (hw _ (List.mem_of_getElem? (i := 74) rfl)) (hw _ (List.mem_of_getElem? (i := 76) rfl)) (notFace_of_selects (args := #[]) (mvT X51.hZ (hw _ (List.mem_of_getElem? (i := 76) rfl)))) (hw _ (List.mem_of_getElem? (i := 75) rfl)) (hw _ (List.mem_of_getElem? (i := 40) rfl)) (by decide) Ev (hw _ (List.mem_of_getElem? (i := 77) rfl)) pd_14 at_181 (rm_g_cause l Z a0 hw T46.heap vd .null rfl G4) rfl rfl rfl (Nat.le_of_eq rfl) (by decide) (by decide) (by decide) (by decide) ?_
    intro T52 L52 X52
    refine Go.ifnonnullN X52 187 at_184 ?_
    refine Go.iconst X52 188 (1 : Int32) at_187 ?_
    refine Go.goto X52 192 at_188 ?_
    refine Go.istore X52 194 #[.val (.int q0), .val (.int q1), .val (.int q2), .val (.int q3), .val (.ref kd), .val (.int x0), .val (.int x1), .val (.int (1 : Int32)), .val (.ref a36), .val (.ref vd), .val (.int (1 : Int32))] at_192 rfl ?_
    refine Go.iload X52 196 at_194 rfl ?_
    refine Go.if0N X52 199 at_196 (XT.i0_eq_f (by decide)) ?_
    refine Go.aload X52 201 at_199 rfl rfl ?_
    refine Go.aload X52 203 at_201 rfl rfl ?_
    refine Go.callVP X52 206 [] [(.ref a36)] 1 (hw _ (List.mem_of_getElem? (i := 78) rfl)) (hw _ (List.mem_of_getElem? (i := 79) rfl)) (hw _ (List.mem_of_getElem? (i := 81) rfl)) (notFace_of_selects (args := #[]) (mvT X52.hZ (hw _ (List.mem_of_getElem? (i := 81) rfl)))) (hw _ (List.mem_of_getElem? (i := 80) rfl)) (hw _ (List.mem_of_getElem? (i := 40) rfl)) (by decide) Ev (hw _ (List.mem_of_getElem? (i := 82) rfl)) pd_15 at_203 (rm_g_failure l Z a0 hw T46.heap vd (.ref a36) rfl G3) rfl rfl rfl (Nat.le_of_eq rfl) (by decide) (by decide) (by decide) (by decide) ?_
    intro T53 L53 X53
    refine Go.callSP X53 209 [(.ref a36), (.ref a36)] [] 0 (hw _ (List.mem_of_getElem? (i := 83) rfl)) (hw _ (List.mem_of_getElem? (i := 84) rfl)) (hw _ (List.mem_of_getElem? (i := 3) rfl)) (by decide) (hw _ (List.mem_of_getElem? (i := 85) rfl)) pd_16 at_206 (rm_stR l Z a0 hw T46.heap a36 a36 rfl F48.exa) rfl rfl rfl (Nat.le_of_eq rfl) (by decide) (by decide) (by decide) (by decide) ?_
    intro T54 L54 X54
    refine Go.if0N X54 212 at_209 (XT.i0_eq_f (by decide)) ?_
    refine Go.iconst X54 213 (1 : Int32) at_212 ?_
    refine Go.goto X54 217 at_213 ?_
    refine Go.istore X54 219 #[.val (.int q0), .val (.int q1), .val (.int q2), .val (.int q3), .val (.ref kd), .val (.int x0), .val (.int x1), .val (.int (1 : Int32)), .val (.ref a36), .val (.ref vd), .val (.int (1 : Int32))] at_217 rfl ?_
    refine Go.iload X54 221 at_219 rfl ?_
    refine Go.if0N X54 224 at_221 (XT.i0_eq_f (by decide)) ?_
    refine Go.aload X54 226 at_224 rfl rfl ?_
    refine Go.callVP X54 229 [] [] 0 (hw _ (List.mem_of_getElem? (i := 91) rfl)) (hw _ (List.mem_of_getElem? (i := 92) rfl)) (hw _ (List.mem_of_getElem? (i := 94) rfl)) (notFace_of_selects (args := #[]) (mvT X54.hZ (hw _ (List.mem_of_getElem? (i := 94) rfl)))) (hw _ (List.mem_of_getElem? (i := 93) rfl)) (hw _ (List.mem_of_getElem? (i := 40) rfl)) (by decide) Ev (hw _ (List.mem_of_getElem? (i := 95) rfl)) pd_17 at_226 (rm_re l Z a0 hw T46.heap bT ST vd G2) rfl rfl rfl (Nat.le_of_eq rfl) (by decide) (by decide) (by decide) (by decide) ?_
    intro T55 L55 X55
    refine Go.getS X55 232 (hw _ (List.mem_of_getElem? (i := 99) rfl)) ST at_229 ?_
    intro T56 X56
    refine Go.acmpN X56 235 at_232 rfl rfl (XT.aa_ne_f rfl) ?_
    refine Go.iconst X56 236 (1 : Int32) at_235 ?_
    refine Go.goto X56 240 at_236 ?_
    refine Go.istore X56 242 #[.val (.int q0), .val (.int q1), .val (.int q2), .val (.int q3), .val (.ref kd), .val (.int x0), .val (.int x1), .val (.int (1 : Int32)), .val (.ref a36), .val (.ref vd), .val (.int (1 : Int32))] at_240 rfl ?_
    refine Go.iload X56 244 at_242 rfl ?_
    refine Go.if0N X56 247 at_244 (XT.i0_eq_f (by decide)) ?_
    refine Go.aload X56 249 at_247 rfl rfl ?_
    refine Go.getS X56 252 (hw _ (List.mem_of_getElem? (i := 100) rfl)) B3 at_249 ?_
    intro T57 X57
    by_cases c58 : (.ref kd) = ((.ref b3) : Value)
    · skip
      refine Go.acmpN X57 255 at_252 rfl rfl (XT.aa_ne_f c58) ?_
      refine Go.aload X57 257 at_255 rfl rfl ?_
      refine Go.aload X57 259 at_257 rfl rfl ?_
      have G0' := G0
      rw [c58] at G0'
      refine Go.callVP X57 262 [] [(.ref a36)] 1 (hw _ (List.mem_of_getElem? (i := 125) rfl)) (hw _ (List.mem_of_getElem? (i := 126) rfl)) (hw _ (List.mem_of_getElem? (i := 128) rfl)) (notFace_of_selects (args := #[]) (mvT X57.hZ (hw _ (List.mem_of_getElem? (i := 128) rfl)))) (hw _ (List.mem_of_getElem? (i := 127) rfl)) (hw _ (List.mem_of_getElem? (i := 40) rfl)) (by decide) Ev (hw _ (List.mem_of_getElem? (i := 129) rfl)) pd_15 at_259 (rm_te l Z a0 hw T46.heap b3 B3 vd (.ref a36) rfl G0' G3) rfl rfl rfl (Nat.le_of_eq rfl) (by decide) (by decide) (by decide) (by decide) ?_
      intro T59 L59 X59
      refine Go.callSP X59 265 [(.ref a36), (.ref a36)] [] 0 (hw _ (List.mem_of_getElem? (i := 83) rfl)) (hw _ (List.mem_of_getElem? (i := 84) rfl)) (hw _ (List.mem_of_getElem? (i := 3) rfl)) (by decide) (hw _ (List.mem_of_getElem? (i := 85) rfl)) pd_16 at_262 (rm_stR l Z a0 hw T46.heap a36 a36 rfl F48.exa) rfl rfl rfl (Nat.le_of_eq rfl) (by decide) (by decide) (by decide) (by decide) ?_
      intro T60 L60 X60
      refine Go.istore X60 267 #[.val (.int q0), .val (.int q1), .val (.int q2), .val (.int q3), .val (.ref kd), .val (.int x0), .val (.int x1), .val (.int (1 : Int32)), .val (.ref a36), .val (.ref vd), .val (.int (1 : Int32))] at_265 rfl ?_
      refine Go.iload X60 269 at_267 rfl ?_
      exact Go.retI X60 rfl (by simp) rfl at_269 (X60.finL ws47 rfl (by decide) (by decide))
    · skip
      refine Go.acmpY X57 267 at_252 rfl rfl (XT.aa_ne_t c58) ?_
      refine Go.iload X57 269 at_267 rfl ?_
      exact Go.retI X57 rfl (by simp) rfl at_269 (X57.finL ws47 rfl (by decide) (by decide))
  · rw [hk]
    refine Go.istore X21 32 #[.val (.int q0), .val (.int q1), .val (.int q2), .val (.int q3), .val (.ref kd), .val (.int x0), .val (.int x1), .val (.int (2 : Int32)), .unset, .unset, .unset] at_30 rfl ?_
    refine Go.iload X21 34 at_32 rfl ?_
    refine Go.if0Y X21 43 at_34 (XT.i0_ne_t (by decide)) ?_
    refine Go.iload X21 45 at_43 rfl ?_
    refine Go.iconst X21 46 (1 : Int32) at_45 ?_
    refine Go.icmpY X21 64 at_46 (XT.ii_ne_t (by decide)) ?_
    refine Go.iload X21 66 at_64 rfl ?_
    refine Go.iconst X21 67 (2 : Int32) at_66 ?_
    refine Go.icmpN X21 70 at_67 (XT.ii_ne_f (by decide)) ?_
    refine Go.iload X21 72 at_70 rfl ?_
    refine Go.callS X21 75 [(.int x0)] [] 0 (hw _ (List.mem_of_getElem? (i := 106) rfl)) (hw _ (List.mem_of_getElem? (i := 107) rfl)) (hw _ (List.mem_of_getElem? (i := 11) rfl)) (by decide) (hw _ (List.mem_of_getElem? (i := 108) rfl)) pd_19 at_72 (rm_vo l Z a0 hw h0 cz SC hcz x0 rx0.1 rx0.2) rfl rfl rfl (Nat.le_of_eq rfl) (by decide) (by decide) (by decide) (by decide) ?_
    rintro T61 v61 L61 X61 ⟨sv, t, rfl, K, ga, gt, S⟩
    show Go p e below _ T61 m 75 #[.val (.int q0), .val (.int q1), .val (.int q2), .val (.int q3), .val (.ref kd), .val (.int x0), .val (.int x1), .val (.int (2 : Int32)), .unset, .unset, .unset] [(.ref sv)]
    have ws62 : WS s s.vm T61.heap := ws0.le K.1
    refine Go.astore X61 77 #[.val (.int q0), .val (.int q1), .val (.int q2), .val (.int q3), .val (.ref kd), .val (.int x0), .val (.int x1), .val (.int (2 : Int32)), .val (.ref sv), .unset, .unset] at_75 rfl rfl ?_
    refine Go.goto X61 108 at_77 ?_
    refine Go.aload X61 110 at_108 rfl rfl ?_
    refine Go.aload X61 112 at_110 rfl rfl ?_
    refine Go.callS X61 115 [(.ref kd), (.ref sv)] [] 0 (hw _ (List.mem_of_getElem? (i := 38) rfl)) (hw _ (List.mem_of_getElem? (i := 39) rfl)) (hw _ (List.mem_of_getElem? (i := 40) rfl)) (by decide) (hw _ (List.mem_of_getElem? (i := 41) rfl)) pd_10 at_112 (rm_toR l Z a0 hw T61.heap kd sv) rfl rfl rfl (Nat.le_of_eq rfl) (by decide) (by decide) (by decide) (by decide) ?_
    rintro T63 v63 L63 X63 ⟨vd, rfl, Kv, gv, Ev, G0, G1, G2, G3, G4⟩
    show Go p e below _ T63 m 115 #[.val (.int q0), .val (.int q1), .val (.int q2), .val (.int q3), .val (.ref kd), .val (.int x0), .val (.int x1), .val (.int (2 : Int32)), .val (.ref sv), .unset, .unset] [(.ref vd)]
    have ws64 : WS s s.vm T63.heap := ws62.le Kv.1
    have F65 : Str Z T63.heap sv t 1 (fun _ => x0) := S.keep Kv nin0 nin0
    refine Go.astore X63 117 #[.val (.int q0), .val (.int q1), .val (.int q2), .val (.int q3), .val (.ref kd), .val (.int x0), .val (.int x1), .val (.int (2 : Int32)), .val (.ref sv), .val (.ref vd), .unset] at_115 rfl rfl ?_
    refine Go.aload X63 119 at_117 rfl rfl ?_
    refine Go.callVP X63 122 [] [] 0 (hw _ (List.mem_of_getElem? (i := 58) rfl)) (hw _ (List.mem_of_getElem? (i := 59) rfl)) (hw _ (List.mem_of_getElem? (i := 61) rfl)) (notFace_of_selects (args := #[]) (mvT X63.hZ (hw _ (List.mem_of_getElem? (i := 61) rfl)))) (hw _ (List.mem_of_getElem? (i := 60) rfl)) (hw _ (List.mem_of_getElem? (i := 40) rfl)) (by decide) Ev (hw _ (List.mem_of_getElem? (i := 62) rfl)) pd_11 at_119 (rm_g_kind l Z a0 hw T63.heap vd (.ref kd) rfl G0) rfl rfl rfl (Nat.le_of_eq rfl) (by decide) (by decide) (by decide) (by decide) ?_
    intro T66 L66 X66
    refine Go.aload X66 124 at_122 rfl rfl ?_
    refine Go.acmpN X66 127 at_124 rfl rfl (XT.aa_ne_f rfl) ?_
    refine Go.iconst X66 128 (1 : Int32) at_127 ?_
    refine Go.goto X66 132 at_128 ?_
    refine Go.istore X66 134 #[.val (.int q0), .val (.int q1), .val (.int q2), .val (.int q3), .val (.ref kd), .val (.int x0), .val (.int x1), .val (.int (2 : Int32)), .val (.ref sv), .val (.ref vd), .val (.int (1 : Int32))] at_132 rfl ?_
    refine Go.iload X66 136 at_134 rfl ?_
    refine Go.if0N X66 139 at_136 (XT.i0_eq_f (by decide)) ?_
    refine Go.aload X66 141 at_139 rfl rfl ?_
    refine Go.callVP X66 144 [] [] 0 (hw _ (List.mem_of_getElem? (i := 63) rfl)) (hw _ (List.mem_of_getElem? (i := 64) rfl)) (hw _ (List.mem_of_getElem? (i := 66) rfl)) (notFace_of_selects (args := #[]) (mvT X66.hZ (hw _ (List.mem_of_getElem? (i := 66) rfl)))) (hw _ (List.mem_of_getElem? (i := 65) rfl)) (hw _ (List.mem_of_getElem? (i := 40) rfl)) (by decide) Ev (hw _ (List.mem_of_getElem? (i := 67) rfl)) pd_12 at_141 (rm_g_timedOut l Z a0 hw T63.heap vd G2) rfl rfl rfl (Nat.le_of_eq rfl) (by decide) (by decide) (by decide) (by decide) ?_
    intro T67 L67 X67
    refine Go.if0N X67 147 at_144 (XT.i0_eq_f (by decide)) ?_
    refine Go.iconst X67 148 (1 : Int32) at_147 ?_
    refine Go.goto X67 152 at_148 ?_
    refine Go.istore X67 154 #[.val (.int q0), .val (.int q1), .val (.int q2), .val (.int q3), .val (.ref kd), .val (.int x0), .val (.int x1), .val (.int (2 : Int32)), .val (.ref sv), .val (.ref vd), .val (.int (1 : Int32))] at_152 rfl ?_
    refine Go.iload X67 156 at_154 rfl ?_
    refine Go.if0N X67 159 at_156 (XT.i0_eq_f (by decide)) ?_
    refine Go.aload X67 161 at_159 rfl rfl ?_
    refine Go.callVP X67 164 [] [] 0 (hw _ (List.mem_of_getElem? (i := 68) rfl)) (hw _ (List.mem_of_getElem? (i := 69) rfl)) (hw _ (List.mem_of_getElem? (i := 71) rfl)) (notFace_of_selects (args := #[]) (mvT X67.hZ (hw _ (List.mem_of_getElem? (i := 71) rfl)))) (hw _ (List.mem_of_getElem? (i := 70) rfl)) (hw _ (List.mem_of_getElem? (i := 40) rfl)) (by decide) Ev (hw _ (List.mem_of_getElem? (i := 72) rfl)) pd_13 at_161 (rm_g_decision l Z a0 hw T63.heap vd .null rfl G1) rfl rfl rfl (Nat.le_of_eq rfl) (by decide) (by decide) (by decide) (by decide) ?_
    intro T68 L68 X68
    refine Go.ifnonnullN X68 167 at_164 ?_
    refine Go.iconst X68 168 (1 : Int32) at_167 ?_
    refine Go.goto X68 172 at_168 ?_
    refine Go.istore X68 174 #[.val (.int q0), .val (.int q1), .val (.int q2), .val (.int q3), .val (.ref kd), .val (.int x0), .val (.int x1), .val (.int (2 : Int32)), .val (.ref sv), .val (.ref vd), .val (.int (1 : Int32))] at_172 rfl ?_
    refine Go.iload X68 176 at_174 rfl ?_
    refine Go.if0N X68 179 at_176 (XT.i0_eq_f (by decide)) ?_
    refine Go.aload X68 181 at_179 rfl rfl ?_
    refine Go.callVP X68 184 [] [] 0 (hw _ (List.mem_of_getElem? (i := 73) rfl)) (hw _ (List.mem_of_getElem? (i := 74) rfl)) (hw _ (List.mem_of_getElem? (i := 76) rfl)) (notFace_of_selects (args := #[]) (mvT X68.hZ (hw _ (List.mem_of_getElem? (i := 76) rfl)))) (hw _ (List.mem_of_getElem? (i := 75) rfl)) (hw _ (List.mem_of_getElem? (i := 40) rfl)) (by decide) Ev (hw _ (List.mem_of_getElem? (i := 77) rfl)) pd_14 at_181 (rm_g_cause l Z a0 hw T63.heap vd .null rfl G4) rfl rfl rfl (Nat.le_of_eq rfl) (by decide) (by decide) (by decide) (by decide) ?_
    intro T69 L69 X69
    refine Go.ifnonnullN X69 187 at_184 ?_
    refine Go.iconst X69 188 (1 : Int32) at_187 ?_
    refine Go.goto X69 192 at_188 ?_
    refine Go.istore X69 194 #[.val (.int q0), .val (.int q1), .val (.int q2), .val (.int q3), .val (.ref kd), .val (.int x0), .val (.int x1), .val (.int (2 : Int32)), .val (.ref sv), .val (.ref vd), .val (.int (1 : Int32))] at_192 rfl ?_
    refine Go.iload X69 196 at_194 rfl ?_
    refine Go.if0N X69 199 at_196 (XT.i0_eq_f (by decide)) ?_
    refine Go.aload X69 201 at_199 rfl rfl ?_
    refine Go.aload X69 203 at_201 rfl rfl ?_
    refine Go.callVP X69 206 [] [(.ref sv)] 1 (hw _ (List.mem_of_getElem? (i := 78) rfl)) (hw _ (List.mem_of_getElem? (i := 79) rfl)) (hw _ (List.mem_of_getElem? (i := 81) rfl)) (notFace_of_selects (args := #[]) (mvT X69.hZ (hw _ (List.mem_of_getElem? (i := 81) rfl)))) (hw _ (List.mem_of_getElem? (i := 80) rfl)) (hw _ (List.mem_of_getElem? (i := 40) rfl)) (by decide) Ev (hw _ (List.mem_of_getElem? (i := 82) rfl)) pd_15 at_203 (rm_g_failure l Z a0 hw T63.heap vd (.ref sv) rfl G3) rfl rfl rfl (Nat.le_of_eq rfl) (by decide) (by decide) (by decide) (by decide) ?_
    intro T70 L70 X70
    refine Go.callSP X70 209 [(.ref sv), (.ref sv)] [] 0 (hw _ (List.mem_of_getElem? (i := 83) rfl)) (hw _ (List.mem_of_getElem? (i := 84) rfl)) (hw _ (List.mem_of_getElem? (i := 3) rfl)) (by decide) (hw _ (List.mem_of_getElem? (i := 85) rfl)) pd_16 at_206 (rm_stR l Z a0 hw T63.heap sv sv rfl F65.exa) rfl rfl rfl (Nat.le_of_eq rfl) (by decide) (by decide) (by decide) (by decide) ?_
    intro T71 L71 X71
    refine Go.if0N X71 212 at_209 (XT.i0_eq_f (by decide)) ?_
    refine Go.iconst X71 213 (1 : Int32) at_212 ?_
    refine Go.goto X71 217 at_213 ?_
    refine Go.istore X71 219 #[.val (.int q0), .val (.int q1), .val (.int q2), .val (.int q3), .val (.ref kd), .val (.int x0), .val (.int x1), .val (.int (2 : Int32)), .val (.ref sv), .val (.ref vd), .val (.int (1 : Int32))] at_217 rfl ?_
    refine Go.iload X71 221 at_219 rfl ?_
    refine Go.if0N X71 224 at_221 (XT.i0_eq_f (by decide)) ?_
    refine Go.aload X71 226 at_224 rfl rfl ?_
    refine Go.callVP X71 229 [] [] 0 (hw _ (List.mem_of_getElem? (i := 91) rfl)) (hw _ (List.mem_of_getElem? (i := 92) rfl)) (hw _ (List.mem_of_getElem? (i := 94) rfl)) (notFace_of_selects (args := #[]) (mvT X71.hZ (hw _ (List.mem_of_getElem? (i := 94) rfl)))) (hw _ (List.mem_of_getElem? (i := 93) rfl)) (hw _ (List.mem_of_getElem? (i := 40) rfl)) (by decide) Ev (hw _ (List.mem_of_getElem? (i := 95) rfl)) pd_17 at_226 (rm_re l Z a0 hw T63.heap bT ST vd G2) rfl rfl rfl (Nat.le_of_eq rfl) (by decide) (by decide) (by decide) (by decide) ?_
    intro T72 L72 X72
    refine Go.getS X72 232 (hw _ (List.mem_of_getElem? (i := 99) rfl)) ST at_229 ?_
    intro T73 X73
    refine Go.acmpN X73 235 at_232 rfl rfl (XT.aa_ne_f rfl) ?_
    refine Go.iconst X73 236 (1 : Int32) at_235 ?_
    refine Go.goto X73 240 at_236 ?_
    refine Go.istore X73 242 #[.val (.int q0), .val (.int q1), .val (.int q2), .val (.int q3), .val (.ref kd), .val (.int x0), .val (.int x1), .val (.int (2 : Int32)), .val (.ref sv), .val (.ref vd), .val (.int (1 : Int32))] at_240 rfl ?_
    refine Go.iload X73 244 at_242 rfl ?_
    refine Go.if0N X73 247 at_244 (XT.i0_eq_f (by decide)) ?_
    refine Go.aload X73 249 at_247 rfl rfl ?_
    refine Go.getS X73 252 (hw _ (List.mem_of_getElem? (i := 100) rfl)) B3 at_249 ?_
    intro T74 X74
    by_cases c75 : (.ref kd) = ((.ref b3) : Value)
    · skip
      refine Go.acmpN X74 255 at_252 rfl rfl (XT.aa_ne_f c75) ?_
      refine Go.aload X74 257 at_255 rfl rfl ?_
      refine Go.aload X74 259 at_257 rfl rfl ?_
      have G0' := G0
      rw [c75] at G0'
      refine Go.callVP X74 262 [] [(.ref sv)] 1 (hw _ (List.mem_of_getElem? (i := 125) rfl)) (hw _ (List.mem_of_getElem? (i := 126) rfl)) (hw _ (List.mem_of_getElem? (i := 128) rfl)) (notFace_of_selects (args := #[]) (mvT X74.hZ (hw _ (List.mem_of_getElem? (i := 128) rfl)))) (hw _ (List.mem_of_getElem? (i := 127) rfl)) (hw _ (List.mem_of_getElem? (i := 40) rfl)) (by decide) Ev (hw _ (List.mem_of_getElem? (i := 129) rfl)) pd_15 at_259 (rm_te l Z a0 hw T63.heap b3 B3 vd (.ref sv) rfl G0' G3) rfl rfl rfl (Nat.le_of_eq rfl) (by decide) (by decide) (by decide) (by decide) ?_
      intro T76 L76 X76
      refine Go.callSP X76 265 [(.ref sv), (.ref sv)] [] 0 (hw _ (List.mem_of_getElem? (i := 83) rfl)) (hw _ (List.mem_of_getElem? (i := 84) rfl)) (hw _ (List.mem_of_getElem? (i := 3) rfl)) (by decide) (hw _ (List.mem_of_getElem? (i := 85) rfl)) pd_16 at_262 (rm_stR l Z a0 hw T63.heap sv sv rfl F65.exa) rfl rfl rfl (Nat.le_of_eq rfl) (by decide) (by decide) (by decide) (by decide) ?_
      intro T77 L77 X77
      refine Go.istore X77 267 #[.val (.int q0), .val (.int q1), .val (.int q2), .val (.int q3), .val (.ref kd), .val (.int x0), .val (.int x1), .val (.int (2 : Int32)), .val (.ref sv), .val (.ref vd), .val (.int (1 : Int32))] at_265 rfl ?_
      refine Go.iload X77 269 at_267 rfl ?_
      exact Go.retI X77 rfl (by simp) rfl at_269 (X77.finL ws64 rfl (by decide) (by decide))
    · skip
      refine Go.acmpY X74 267 at_252 rfl rfl (XT.aa_ne_t c75) ?_
      refine Go.iload X74 269 at_267 rfl ?_
      exact Go.retI X74 rfl (by simp) rfl at_269 (X74.finL ws64 rfl (by decide) (by decide))
  · rw [hk]
    refine Go.istore X21 32 #[.val (.int q0), .val (.int q1), .val (.int q2), .val (.int q3), .val (.ref kd), .val (.int x0), .val (.int x1), .val (.int (3 : Int32)), .unset, .unset, .unset] at_30 rfl ?_
    refine Go.iload X21 34 at_32 rfl ?_
    refine Go.if0Y X21 43 at_34 (XT.i0_ne_t (by decide)) ?_
    refine Go.iload X21 45 at_43 rfl ?_
    refine Go.iconst X21 46 (1 : Int32) at_45 ?_
    refine Go.icmpY X21 64 at_46 (XT.ii_ne_t (by decide)) ?_
    refine Go.iload X21 66 at_64 rfl ?_
    refine Go.iconst X21 67 (2 : Int32) at_66 ?_
    refine Go.icmpY X21 80 at_67 (XT.ii_ne_t (by decide)) ?_
    refine Go.iconst X21 81 (2 : Int32) at_80 ?_
    refine Go.newC X21 83 (n := 2) (hw _ (List.mem_of_getElem? (i := 8) rfl)) at_81 2 (by decide) (by decide) (by decide) (by decide) ?_
    intro T78 h78 a78 X78 E78 g78 V78
    have nw_a78 : Z.heap.size ≤ a78 := by rw [← g78]; exact X21.le
    have ws79 : WS s s.vm h78 := ws0.le E78.1
    refine Go.astore X78 85 #[.val (.int q0), .val (.int q1), .val (.int q2), .val (.int q3), .val (.ref kd), .val (.int x0), .val (.int x1), .val (.int (3 : Int32)), .unset, .val (.ref a78), .unset] at_83 rfl rfl ?_
    refine Go.aload X78 87 at_85 rfl rfl ?_
    refine Go.iconst X78 88 (0 : Int32) at_87 ?_
    refine Go.iload X78 90 at_88 rfl ?_
    refine Go.stCN X78 91 V78 0 (by decide) at_90 nw_a78 ?_
    intro T80 h80 w80 X80 W80 V80
    rw [(own_nr rx0.1 (own_le rx0.2) : nar .char x0 = x0)] at V80
    have ws81 : WS s s.vm h80 := ws79.le (Nat.le_of_eq W80.size.symm)
    have F82 : An Z h80 a78 .char 2 (upd (fun _ => (0 : Int32)) 0 x0) := V80
    refine Go.aload X80 93 at_91 rfl rfl ?_
    refine Go.iconst X80 94 (1 : Int32) at_93 ?_
    refine Go.iload X80 96 at_94 rfl ?_
    refine Go.stCN X80 97 F82 1 (by decide) at_96 nw_a78 ?_
    intro T83 h83 w83 X83 W83 V83
    rw [(own_nr rx1.1 (own_le rx1.2) : nar .char x1 = x1)] at V83
    have ws84 : WS s s.vm h83 := ws81.le (Nat.le_of_eq W83.size.symm)
    have F85 : An Z h83 a78 .char 2 (upd (upd (fun _ => (0 : Int32)) 0 x0) 1 x1) := V83
    refine Go.newO X83 100 (hw _ (List.mem_of_getElem? (i := 9) rfl)) (hw _ (List.mem_of_getElem? (i := 10) rfl)) (hw _ (List.mem_of_getElem? (i := 11) rfl)) at_97 (by decide) (by decide) ?_
    intro T86 h86 a86 X86 E86 g86 A86 D86
    have nw_a86 : Z.heap.size ≤ a86 := by rw [← g86]; exact X83.le
    have ne_a78_a86 : a78 ≠ a86 := by rw [← g86]; exact Nat.ne_of_lt F85.lt
    have ws87 : WS s s.vm h86 := ws84.le E86.1
    have F88 : An Z h86 a78 .char 2 (upd (upd (fun _ => (0 : Int32)) 0 x0) 1 x1) := F85.ext E86
    have F89 : Fld Z h86 a86 "java/lang/String" "coder" "B" (.int (0 : Int32)) := D86 (Or.inr (hw _ (List.mem_of_getElem? (i := 35) rfl))) (ty := .byte) (by decide)
    have F90 : Fld Z h86 a86 "java/lang/String" "value" "[B" .null := D86 (Or.inr (hw _ (List.mem_of_getElem? (i := 37) rfl))) (ty := (.array .byte)) (by decide)
    refine Go.dup X86 101 at_100 rfl ?_
    refine Go.aload X86 103 at_101 rfl rfl ?_
    have hall : AllC 2 (upd (upd (fun _ => (0 : Int32)) 0 x0) 1 x1) := (AllC.u (AllC.u AllC.z rx0) rx1)
    refine Go.callI X86 106 [(.ref a78)] [(.ref a86)] 1 rfl (hw _ (List.mem_of_getElem? (i := 12) rfl)) (hw _ (List.mem_of_getElem? (i := 13) rfl)) (hw _ (List.mem_of_getElem? (i := 11) rfl)) (by decide) rfl (hw _ (List.mem_of_getElem? (i := 14) rfl)) pd_18 at_103 (rm_i1 l Z a0 hw h86 cz SC hcz a86 a78 2 (upd (upd (fun _ => (0 : Int32)) 0 x0) 1 x1) (by decide) (by decide) A86 F90 F89 nw_a86 ne_a78_a86 F88 (fun j hj => ⟨(hall j hj).1, own_le (hall j hj).2⟩) (fun j hj => (hall j hj).2)) rfl rfl rfl (Nat.le_of_eq rfl) (by decide) (by decide) (by decide) (by decide) ?_
    rintro T91 v91 L91 X91 ⟨rfl, t, K, gt, S⟩
    show Go p e below _ T91 m 106 #[.val (.int q0), .val (.int q1), .val (.int q2), .val (.int q3), .val (.ref kd), .val (.int x0), .val (.int x1), .val (.int (3 : Int32)), .unset, .val (.ref a78), .unset] [(.ref a86)]
    have ws92 : WS s s.vm T91.heap := ws87.le K.1
    refine Go.astore X91 108 #[.val (.int q0), .val (.int q1), .val (.int q2), .val (.int q3), .val (.ref kd), .val (.int x0), .val (.int x1), .val (.int (3 : Int32)), .val (.ref a86), .val (.ref a78), .unset] at_106 rfl rfl ?_
    refine Go.aload X91 110 at_108 rfl rfl ?_
    refine Go.aload X91 112 at_110 rfl rfl ?_
    refine Go.callS X91 115 [(.ref kd), (.ref a86)] [] 0 (hw _ (List.mem_of_getElem? (i := 38) rfl)) (hw _ (List.mem_of_getElem? (i := 39) rfl)) (hw _ (List.mem_of_getElem? (i := 40) rfl)) (by decide) (hw _ (List.mem_of_getElem? (i := 41) rfl)) pd_10 at_112 (rm_toR l Z a0 hw T91.heap kd a86) rfl rfl rfl (Nat.le_of_eq rfl) (by decide) (by decide) (by decide) (by decide) ?_
    rintro T93 v93 L93 X93 ⟨vd, rfl, Kv, gv, Ev, G0, G1, G2, G3, G4⟩
    show Go p e below _ T93 m 115 #[.val (.int q0), .val (.int q1), .val (.int q2), .val (.int q3), .val (.ref kd), .val (.int x0), .val (.int x1), .val (.int (3 : Int32)), .val (.ref a86), .val (.ref a78), .unset] [(.ref vd)]
    have ws94 : WS s s.vm T93.heap := ws92.le Kv.1
    have F95 : Str Z T93.heap a86 t 2 (upd (upd (fun _ => (0 : Int32)) 0 x0) 1 x1) := S.keep Kv nin0 nin0
    refine Go.astore X93 117 #[.val (.int q0), .val (.int q1), .val (.int q2), .val (.int q3), .val (.ref kd), .val (.int x0), .val (.int x1), .val (.int (3 : Int32)), .val (.ref a86), .val (.ref vd), .unset] at_115 rfl rfl ?_
    refine Go.aload X93 119 at_117 rfl rfl ?_
    refine Go.callVP X93 122 [] [] 0 (hw _ (List.mem_of_getElem? (i := 58) rfl)) (hw _ (List.mem_of_getElem? (i := 59) rfl)) (hw _ (List.mem_of_getElem? (i := 61) rfl)) (notFace_of_selects (args := #[]) (mvT X93.hZ (hw _ (List.mem_of_getElem? (i := 61) rfl)))) (hw _ (List.mem_of_getElem? (i := 60) rfl)) (hw _ (List.mem_of_getElem? (i := 40) rfl)) (by decide) Ev (hw _ (List.mem_of_getElem? (i := 62) rfl)) pd_11 at_119 (rm_g_kind l Z a0 hw T93.heap vd (.ref kd) rfl G0) rfl rfl rfl (Nat.le_of_eq rfl) (by decide) (by decide) (by decide) (by decide) ?_
    intro T96 L96 X96
    refine Go.aload X96 124 at_122 rfl rfl ?_
    refine Go.acmpN X96 127 at_124 rfl rfl (XT.aa_ne_f rfl) ?_
    refine Go.iconst X96 128 (1 : Int32) at_127 ?_
    refine Go.goto X96 132 at_128 ?_
    refine Go.istore X96 134 #[.val (.int q0), .val (.int q1), .val (.int q2), .val (.int q3), .val (.ref kd), .val (.int x0), .val (.int x1), .val (.int (3 : Int32)), .val (.ref a86), .val (.ref vd), .val (.int (1 : Int32))] at_132 rfl ?_
    refine Go.iload X96 136 at_134 rfl ?_
    refine Go.if0N X96 139 at_136 (XT.i0_eq_f (by decide)) ?_
    refine Go.aload X96 141 at_139 rfl rfl ?_
    refine Go.callVP X96 144 [] [] 0 (hw _ (List.mem_of_getElem? (i := 63) rfl)) (hw _ (List.mem_of_getElem? (i := 64) rfl)) (hw _ (List.mem_of_getElem? (i := 66) rfl)) (notFace_of_selects (args := #[]) (mvT X96.hZ (hw _ (List.mem_of_getElem? (i := 66) rfl)))) (hw _ (List.mem_of_getElem? (i := 65) rfl)) (hw _ (List.mem_of_getElem? (i := 40) rfl)) (by decide) Ev (hw _ (List.mem_of_getElem? (i := 67) rfl)) pd_12 at_141 (rm_g_timedOut l Z a0 hw T93.heap vd G2) rfl rfl rfl (Nat.le_of_eq rfl) (by decide) (by decide) (by decide) (by decide) ?_
    intro T97 L97 X97
    refine Go.if0N X97 147 at_144 (XT.i0_eq_f (by decide)) ?_
    refine Go.iconst X97 148 (1 : Int32) at_147 ?_
    refine Go.goto X97 152 at_148 ?_
    refine Go.istore X97 154 #[.val (.int q0), .val (.int q1), .val (.int q2), .val (.int q3), .val (.ref kd), .val (.int x0), .val (.int x1), .val (.int (3 : Int32)), .val (.ref a86), .val (.ref vd), .val (.int (1 : Int32))] at_152 rfl ?_
    refine Go.iload X97 156 at_154 rfl ?_
    refine Go.if0N X97 159 at_156 (XT.i0_eq_f (by decide)) ?_
    refine Go.aload X97 161 at_159 rfl rfl ?_
    refine Go.callVP X97 164 [] [] 0 (hw _ (List.mem_of_getElem? (i := 68) rfl)) (hw _ (List.mem_of_getElem? (i := 69) rfl)) (hw _ (List.mem_of_getElem? (i := 71) rfl)) (notFace_of_selects (args := #[]) (mvT X97.hZ (hw _ (List.mem_of_getElem? (i := 71) rfl)))) (hw _ (List.mem_of_getElem? (i := 70) rfl)) (hw _ (List.mem_of_getElem? (i := 40) rfl)) (by decide) Ev (hw _ (List.mem_of_getElem? (i := 72) rfl)) pd_13 at_161 (rm_g_decision l Z a0 hw T93.heap vd .null rfl G1) rfl rfl rfl (Nat.le_of_eq rfl) (by decide) (by decide) (by decide) (by decide) ?_
    intro T98 L98 X98
    refine Go.ifnonnullN X98 167 at_164 ?_
    refine Go.iconst X98 168 (1 : Int32) at_167 ?_
    refine Go.goto X98 172 at_168 ?_
    refine Go.istore X98 174 #[.val (.int q0), .val (.int q1), .val (.int q2), .val (.int q3), .val (.ref kd), .val (.int x0), .val (.int x1), .val (.int (3 : Int32)), .val (.ref a86), .val (.ref vd), .val (.int (1 : Int32))] at_172 rfl ?_
    refine Go.iload X98 176 at_174 rfl ?_
    refine Go.if0N X98 179 at_176 (XT.i0_eq_f (by decide)) ?_
    refine Go.aload X98 181 at_179 rfl rfl ?_
    refine Go.callVP X98 184 [] [] 0 (hw _ (List.mem_of_getElem? (i := 73) rfl)) (hw _ (List.mem_of_getElem? (i := 74) rfl)) (hw _ (List.mem_of_getElem? (i := 76) rfl)) (notFace_of_selects (args := #[]) (mvT X98.hZ (hw _ (List.mem_of_getElem? (i := 76) rfl)))) (hw _ (List.mem_of_getElem? (i := 75) rfl)) (hw _ (List.mem_of_getElem? (i := 40) rfl)) (by decide) Ev (hw _ (List.mem_of_getElem? (i := 77) rfl)) pd_14 at_181 (rm_g_cause l Z a0 hw T93.heap vd .null rfl G4) rfl rfl rfl (Nat.le_of_eq rfl) (by decide) (by decide) (by decide) (by decide) ?_
    intro T99 L99 X99
    refine Go.ifnonnullN X99 187 at_184 ?_
    refine Go.iconst X99 188 (1 : Int32) at_187 ?_
    refine Go.goto X99 192 at_188 ?_
    refine Go.istore X99 194 #[.val (.int q0), .val (.int q1), .val (.int q2), .val (.int q3), .val (.ref kd), .val (.int x0), .val (.int x1), .val (.int (3 : Int32)), .val (.ref a86), .val (.ref vd), .val (.int (1 : Int32))] at_192 rfl ?_
    refine Go.iload X99 196 at_194 rfl ?_
    refine Go.if0N X99 199 at_196 (XT.i0_eq_f (by decide)) ?_
    refine Go.aload X99 201 at_199 rfl rfl ?_
    refine Go.aload X99 203 at_201 rfl rfl ?_
    refine Go.callVP X99 206 [] [(.ref a86)] 1 (hw _ (List.mem_of_getElem? (i := 78) rfl)) (hw _ (List.mem_of_getElem? (i := 79) rfl)) (hw _ (List.mem_of_getElem? (i := 81) rfl)) (notFace_of_selects (args := #[]) (mvT X99.hZ (hw _ (List.mem_of_getElem? (i := 81) rfl)))) (hw _ (List.mem_of_getElem? (i := 80) rfl)) (hw _ (List.mem_of_getElem? (i := 40) rfl)) (by decide) Ev (hw _ (List.mem_of_getElem? (i := 82) rfl)) pd_15 at_203 (rm_g_failure l Z a0 hw T93.heap vd (.ref a86) rfl G3) rfl rfl rfl (Nat.le_of_eq rfl) (by decide) (by decide) (by decide) (by decide) ?_
    intro T100 L100 X100
    refine Go.callSP X100 209 [(.ref a86), (.ref a86)] [] 0 (hw _ (List.mem_of_getElem? (i := 83) rfl)) (hw _ (List.mem_of_getElem? (i := 84) rfl)) (hw _ (List.mem_of_getElem? (i := 3) rfl)) (by decide) (hw _ (List.mem_of_getElem? (i := 85) rfl)) pd_16 at_206 (rm_stR l Z a0 hw T93.heap a86 a86 rfl F95.exa) rfl rfl rfl (Nat.le_of_eq rfl) (by decide) (by decide) (by decide) (by decide) ?_
    intro T101 L101 X101
    refine Go.if0N X101 212 at_209 (XT.i0_eq_f (by decide)) ?_
    refine Go.iconst X101 213 (1 : Int32) at_212 ?_
    refine Go.goto X101 217 at_213 ?_
    refine Go.istore X101 219 #[.val (.int q0), .val (.int q1), .val (.int q2), .val (.int q3), .val (.ref kd), .val (.int x0), .val (.int x1), .val (.int (3 : Int32)), .val (.ref a86), .val (.ref vd), .val (.int (1 : Int32))] at_217 rfl ?_
    refine Go.iload X101 221 at_219 rfl ?_
    refine Go.if0N X101 224 at_221 (XT.i0_eq_f (by decide)) ?_
    refine Go.aload X101 226 at_224 rfl rfl ?_
    refine Go.callVP X101 229 [] [] 0 (hw _ (List.mem_of_getElem? (i := 91) rfl)) (hw _ (List.mem_of_getElem? (i := 92) rfl)) (hw _ (List.mem_of_getElem? (i := 94) rfl)) (notFace_of_selects (args := #[]) (mvT X101.hZ (hw _ (List.mem_of_getElem? (i := 94) rfl)))) (hw _ (List.mem_of_getElem? (i := 93) rfl)) (hw _ (List.mem_of_getElem? (i := 40) rfl)) (by decide) Ev (hw _ (List.mem_of_getElem? (i := 95) rfl)) pd_17 at_226 (rm_re l Z a0 hw T93.heap bT ST vd G2) rfl rfl rfl (Nat.le_of_eq rfl) (by decide) (by decide) (by decide) (by decide) ?_
    intro T102 L102 X102
    refine Go.getS X102 232 (hw _ (List.mem_of_getElem? (i := 99) rfl)) ST at_229 ?_
    intro T103 X103
    refine Go.acmpN X103 235 at_232 rfl rfl (XT.aa_ne_f rfl) ?_
    refine Go.iconst X103 236 (1 : Int32) at_235 ?_
    refine Go.goto X103 240 at_236 ?_
    refine Go.istore X103 242 #[.val (.int q0), .val (.int q1), .val (.int q2), .val (.int q3), .val (.ref kd), .val (.int x0), .val (.int x1), .val (.int (3 : Int32)), .val (.ref a86), .val (.ref vd), .val (.int (1 : Int32))] at_240 rfl ?_
    refine Go.iload X103 244 at_242 rfl ?_
    refine Go.if0N X103 247 at_244 (XT.i0_eq_f (by decide)) ?_
    refine Go.aload X103 249 at_247 rfl rfl ?_
    refine Go.getS X103 252 (hw _ (List.mem_of_getElem? (i := 100) rfl)) B3 at_249 ?_
    intro T104 X104
    by_cases c105 : (.ref kd) = ((.ref b3) : Value)
    · skip
      refine Go.acmpN X104 255 at_252 rfl rfl (XT.aa_ne_f c105) ?_
      refine Go.aload X104 257 at_255 rfl rfl ?_
      refine Go.aload X104 259 at_257 rfl rfl ?_
      have G0' := G0
      rw [c105] at G0'
      refine Go.callVP X104 262 [] [(.ref a86)] 1 (hw _ (List.mem_of_getElem? (i := 125) rfl)) (hw _ (List.mem_of_getElem? (i := 126) rfl)) (hw _ (List.mem_of_getElem? (i := 128) rfl)) (notFace_of_selects (args := #[]) (mvT X104.hZ (hw _ (List.mem_of_getElem? (i := 128) rfl)))) (hw _ (List.mem_of_getElem? (i := 127) rfl)) (hw _ (List.mem_of_getElem? (i := 40) rfl)) (by decide) Ev (hw _ (List.mem_of_getElem? (i := 129) rfl)) pd_15 at_259 (rm_te l Z a0 hw T93.heap b3 B3 vd (.ref a86) rfl G0' G3) rfl rfl rfl (Nat.le_of_eq rfl) (by decide) (by decide) (by decide) (by decide) ?_
      intro T106 L106 X106
      refine Go.callSP X106 265 [(.ref a86), (.ref a86)] [] 0 (hw _ (List.mem_of_getElem? (i := 83) rfl)) (hw _ (List.mem_of_getElem? (i := 84) rfl)) (hw _ (List.mem_of_getElem? (i := 3) rfl)) (by decide) (hw _ (List.mem_of_getElem? (i := 85) rfl)) pd_16 at_262 (rm_stR l Z a0 hw T93.heap a86 a86 rfl F95.exa) rfl rfl rfl (Nat.le_of_eq rfl) (by decide) (by decide) (by decide) (by decide) ?_
      intro T107 L107 X107
      refine Go.istore X107 267 #[.val (.int q0), .val (.int q1), .val (.int q2), .val (.int q3), .val (.ref kd), .val (.int x0), .val (.int x1), .val (.int (3 : Int32)), .val (.ref a86), .val (.ref vd), .val (.int (1 : Int32))] at_265 rfl ?_
      refine Go.iload X107 269 at_267 rfl ?_
      exact Go.retI X107 rfl (by simp) rfl at_269 (X107.finL ws94 rfl (by decide) (by decide))
    · skip
      refine Go.acmpY X104 267 at_252 rfl rfl (XT.aa_ne_t c105) ?_
      refine Go.iload X104 269 at_267 rfl ?_
      exact Go.retI X104 rfl (by simp) rfl at_269 (X104.finL ws94 rfl (by decide) (by decide))
theorem eq_I {a b : Term} {args : Array Value} {s : State} {x y : Int32} (ha : a.eval args s none [] s = some (.int x)) (hb : b.eval args s none [] s = some (.int y)) : (Jvm.Cond.eq a b).value args s none s [] = some (decide (x = y)) := by simp [Cond.value, ha, hb]
theorem own_eqI {t : Term} {args : Array Value} {s : State} {z : Int32} (h : (Jvm.Cond.eq t (.int z)).value args s none s [] = some true) : t.eval args s none [] s = some (.int z) := by
  obtain ⟨x, y, e1, e2, -, k⟩ := cmp_v (Or.inl h)
  have e3 : y = .int z := Option.some.inj (e2.symm.trans (Term.int_eval z))
  subst e3
  obtain ⟨w, rfl⟩ := k
  have := gotT (eq_I e1 e2) h
  rw [this] at e1
  exact e1
theorem own_sta {C n d : String} {args : Array Value} {s : State} (hx : (Jvm.Cond.exactly (.static C n d) C).value args s none s [] = some true) (wi : (Jvm.Cond.initialized C).before args s = true) (wl : (Jvm.Cond.laysStatic C n d).before args s = true) : ∃ a, Sta s s.heap C n d (.ref a) ∧ Exa s s.heap a C ∧ (Term.static C n d).eval args s none [] s = some (.ref a) := by
  obtain ⟨a, ev⟩ := exa_v hx
  exact ⟨a, Sta.start ev (Or.inr ⟨wi, wl⟩), Exa.start ev hx, ev⟩
theorem own_fldI {t : Term} {C n d : String} {args : Array Value} {s : State} {a : Addr} {z : Int32} (ev : t.eval args s none [] s = some (.ref a)) (hz : (Jvm.Cond.eq (.field t C n d) (.int z)).value args s none s [] = some true) : Fld s s.heap a C n d (.int z) := by
  have := own_eqI hz
  rw [fld_at ev] at this
  exact Fld.start this
theorem own_nz {t : Term} {args : Array Value} {s : State} {z : Int32} (ev : t.eval args s none [] s = some (.int z)) (h : (Jvm.Cond.not (.eq t (.int 0))).value args s none s [] = some true) : ¬ z = 0 := by
  have h1 := not_v h
  exact gotF (eq_I ev (Term.int_eval 0)) h1
theorem own_held {tb : Tables} {e : Env} {args : Array Value} {s : State} (h : call_1_1 tb e args s) : ∀ p ∈ consts_1, Jvm.Lit.constHeld s p.1 p.2 := h
set_option maxRecDepth 65536 in
set_option maxHeartbeats 40000000 in
theorem comes_1 {Post : Tables → Env → Array Value → State → Outcome → State → Prop} (hpost : ∀ tb e args s v u, (limb_1_1.after args s (.returned v) u = true ∧ limb_1_2.after args s (.returned v) u = true ∧ True) → ReturnedEndW s (.returned v) u (Jvm.fieldLocs frame_1_writes args s ++ Jvm.arrayLocs frame_1_arrays args s ++ Jvm.staticLocs frame_1_statics s) 24 1152 → Post tb e args s (.returned v) u) :
    ArmFor flags0 classFile x code maxLocals ret World_1 tables_1 room_1 Calls_1 rest_1 Pre_1 Post := by
  intro l hfl _ _ p e ha hc hk s m args below hf hA hF happ hP
  obtain ⟨hcalls, hrest, hpre⟩ := hP
  obtain ⟨-, -, -, hnamed, -, -, -, hat⟩ := (Spec.applies_iff hf).mp happ
  obtain ⟨hg, hn⟩ := and_e (Cond.before_iff.mp (show (Jvm.Cond.and given_1 narrow_1).before args s = true from hpre))
  obtain ⟨hcount, hr_hcount⟩ := and_e hg
  obtain ⟨hk0, hr_hk0⟩ := and_e hr_hcount
  obtain ⟨hk1, hr_hk1⟩ := and_e hr_hk0
  obtain ⟨hk2, hr_hk2⟩ := and_e hr_hk1
  have hk3 := hr_hk2
  obtain ⟨w0, w1, w2, w3, rfl⟩ : ∃ w0 w1 w2 w3 : Value, args = #[w0, w1, w2, w3] := by
    have hs : args.size = 4 := by simpa [Cond.value, given_1] using hcount
    obtain ⟨L⟩ := args
    match L, hs with
    | [w0, w1, w2, w3], _ => exact ⟨w0, w1, w2, w3, rfl⟩
  have hw := fun d (hd : d ∈ tables_1) => atoms_spec (ws := Jvm.Cond.code x code maxLocals ret :: tables_1) hat d (List.mem_cons_of_mem _ hd)
  obtain ⟨i0, e0⟩ := is_v hk0
  obtain rfl : w0 = (.int i0) := Option.some.inj e0
  obtain ⟨i1, e1⟩ := is_v hk1
  obtain rfl : w1 = (.int i1) := Option.some.inj e1
  obtain ⟨i2, e2⟩ := is_v hk2
  obtain rfl : w2 = (.int i2) := Option.some.inj e2
  obtain ⟨i3, e3⟩ := is_v hk3
  obtain rfl : w3 = (.int i3) := Option.some.inj e3
  obtain ⟨xG, hr_xG⟩ := and_e hn
  obtain ⟨xT, hr_xT⟩ := and_e hr_xG
  obtain ⟨xF, hr_xF⟩ := and_e hr_xT
  obtain ⟨zG, hr_zG⟩ := and_e hr_xF
  obtain ⟨zF, hr_zF⟩ := and_e hr_zG
  obtain ⟨xS, hr_xS⟩ := and_e hr_zF
  obtain ⟨zS, hr_zS⟩ := and_e hr_xS
  obtain ⟨xW, hr_xW⟩ := and_e hr_zS
  obtain ⟨zW, hr_zW⟩ := and_e hr_xW
  obtain ⟨xR, hr_xR⟩ := and_e hr_zW
  have zR := hr_xR
  obtain ⟨b0, B0, -, -⟩ := own_sta xG (hw _ (List.mem_of_getElem? (i := 6) rfl)) (hw _ (List.mem_of_getElem? (i := 7) rfl))
  obtain ⟨bT, ST, -, -⟩ := own_sta xT (hw _ (List.mem_of_getElem? (i := 97) rfl)) (hw _ (List.mem_of_getElem? (i := 98) rfl))
  obtain ⟨b3, B3, -, -⟩ := own_sta xF (hw _ (List.mem_of_getElem? (i := 6) rfl)) (hw _ (List.mem_of_getElem? (i := 101) rfl))
  obtain ⟨b2, B2, -, -⟩ := own_sta xS (hw _ (List.mem_of_getElem? (i := 6) rfl)) (hw _ (List.mem_of_getElem? (i := 103) rfl))
  obtain ⟨b4, B4, -, -⟩ := own_sta xW (hw _ (List.mem_of_getElem? (i := 6) rfl)) (hw _ (List.mem_of_getElem? (i := 105) rfl))
  obtain ⟨b1, B1, -, -⟩ := own_sta xR (hw _ (List.mem_of_getElem? (i := 6) rfl)) (hw _ (List.mem_of_getElem? (i := 121) rfl))
  have hsets := (atoms_of jdkStatics_1 (rest_1_c_eq ▸ (show rest_1_c.before _ s = true from hrest))).1
  obtain ⟨cz, evc⟩ := is_v (Cond.before_iff.mp (hsets _ (List.mem_of_getElem? (i := 1) rfl)))
  have SC := Sta.start evc (Or.inl (hsets _ (List.mem_of_getElem? (i := 0) rfl)))
  have hcz := own_nz evc (Cond.before_iff.mp (hsets _ (List.mem_of_getElem? (i := 2) rfl)))
  have hCH : CHv s consts_1 s.vm s.heap := CHv.start (own_EW hw) (own_held hcalls.1) (hsets _ (List.mem_of_getElem? (i := 2) rfl)) (hw _ (List.mem_of_getElem? (i := 27) rfl)) (hw _ (List.mem_of_getElem? (i := 10) rfl))
  obtain ⟨n, o, h1, h2, h3, _, L, rfl, ⟨N, -, rfl⟩, hq⟩ := rm_l l s _ hw s.heap cz SC hcz b0 b1 b2 b3 b4 B0 B1 B2 B3 B4 bT ST i0 i1 i2 i3 (Ext.rf _) p e ha hc hk s m _ below hf ((Spec.applies_iff_loose hf).mp happ).1 ⟨rfl, State.Warmed39.refl s, rfl, hCH⟩ trivial
  refine ⟨n, _, h1, h2, h3, hpost _ _ _ _ _ _ ⟨Cond.after_iff.mpr rfl, Cond.after_iff.mpr (eq_i res_at (Term.int_eval (1)) rfl), trivial⟩ ⟨hq.1, hq.2.1, hq.2.2.1, (hq.2.2.2.sift fun y hy => Or.inr (N y hy)).mono (by decide) (by decide)⟩⟩
theorem main_1_1 : Claimed_1_1 := comes_1 fun _ _ _ _ _ _ h hF => ⟨h.1, hF⟩
theorem main_1_2 : Claimed_1_2 := comes_1 fun _ _ _ _ _ _ h hF => ⟨h.2.1, hF⟩
end Jvm.Pilot.@@N@@
namespace Jvm.Pilot.@@N@@
open Jvm Jvm.ClassFile Sem Op Lib Jvm.Free Jvm.Stand Jvm.Pilot.@@N@@.Jvm.D
/-! MADE BY PROGRAM (witnessworld.py) out of the Statement's table words and the real class files: 23 classes; the members and pool entries that the words name. The judged class is class 1, her method 3. -/
namespace start1
open Jvm.ClassFile
def u (s : String) : CpInfo := .utf8 (stringToUtf16 s)
/-- a pool by its gaps: so many unusable entries, then the entry; so many at the end -/
def gap : Nat → List CpInfo → List CpInfo
  | 0, r => r
  | n + 1, r => .unusable :: gap n r
def poolList (es : List (Nat × CpInfo)) (last : Nat) : List CpInfo := es.foldr (fun e r => gap e.1 (e.2 :: r)) (gap last [])
def pool (es : List (Nat × CpInfo)) (last : Nat) : Array CpInfo := ⟨poolList es last⟩
def fileOf (pool : Array CpInfo) (this : Nat) (attrs : Array Attribute := #[]) (ms : Array MethodInfo := #[]) (fl : Nat := 33) (sup : Nat := 0) (ifs : Array Nat := #[]) (fds : Array FieldInfo := #[]) : ClassFile where
  minorVersion := 0
  majorVersion := 65
  constantPool := pool
  accessFlags := fl
  thisClass := this
  superClass := sup
  interfaces := ifs
  fields := fds
  methods := ms
  attributes := attrs
def plain (name : String) (sup : Option ClassId) : Class where
  name := name
  kind := .ordinary
  loader := none
  accessFlags := 33
  super := sup
  interfaces := #[]
  cf := none
  fields := #[]
  methods := #[]
  instanceTypes := #[]
  staticTypes := #[]
  resolved := #[]
  callSites := []
  init := .initialized
  statics := none
  mirror := none

def pool0 : Array CpInfo := pool [(5, u "<init>"), (0, u "()V"), (1, .class_ 10), (1, u "java/lang/Object")] 113

def k0c0 : Code := { maxStack := 0, maxLocals := 1, code := object_method_1_code, exceptionTable := #[], attributes := #[] }
def k0m0 : Method := { name := "<init>", desc := "()V", sig := { parameters := [], returnType := none }, accessFlags := 1, code := some k0c0 }
/-- java/lang/Object -/
def k0 : Class := { plain "java/lang/Object" none with
  accessFlags := 33
  interfaces := #[]
  cf := some (fileOf pool0 8 #[] #[{ accessFlags := 1, nameIndex := 5, descriptorIndex := 6, attributes := #[] }] 33 0 #[] #[])
  fields := #[]
  methods := #[k0m0]
  instanceTypes := #[]
  staticTypes := #[]
  resolved := Array.replicate 124 none
  statics := none }

def pool1 : Array CpInfo := pool [(2, .class_ 4), (1, u "java/lang/Object"), (0, u "<init>"), (0, u "()V"), (0, .fieldref 8 9), (0, .class_ 10), (0, .nameAndType 11 12), (0, u "com/example/ripieno/ripieno/engine/Review$Verdict$Kind"), (0, u "GO_ON"), (0, u "Lcom/example/ripieno/ripieno/engine/Review$Verdict$Kind;"), (0, .fieldref 8 14), (0, .nameAndType 15 12), (0, u "REPLACE"), (0, .fieldref 8 17), (0, .nameAndType 18 12), (0, u "STOP"), (0, .fieldref 8 20), (0, .nameAndType 21 12), (0, u "FAIL"), (0, .fieldref 8 23), (0, .nameAndType 24 12), (0, u "WITHDRAWN"), (0, .methodref 26 27), (0, .class_ 28), (0, .nameAndType 29 30), (0, u "java/lang/String"), (0, u "equals"), (0, u "(Ljava/lang/Object;)Z"), (0, .integer 2147483647), (0, .methodref 33 34), (0, .class_ 35), (0, .nameAndType 36 37), (0, u "com/example/ripieno/ripieno/engine/VerdictTimedOutPinLaw"), (0, u "kindOf"), (0, u "(I)Lcom/example/ripieno/ripieno/engine/Review$Verdict$Kind;"), (0, .methodref 26 39), (0, .nameAndType 5 40), (0, u "([C)V"), (0, .methodref 26 42), (0, .nameAndType 43 44), (0, u "valueOf"), (0, u "(C)Ljava/lang/String;"), (0, .methodref 46 47), (0, .class_ 48), (0, .nameAndType 49 50), (0, u "com/example/ripieno/ripieno/engine/Review$Verdict"), (0, u "timedOut"), (0, u "(Lcom/example/ripieno/ripieno/engine/Review$Verdict$Kind;Ljava/lang/String;)Lcom/example/ripieno/ripieno/engine/Review$Verdict;"), (0, .methodref 46 52), (0, .nameAndType 53 54), (0, u "kind"), (0, u "()Lcom/example/ripieno/ripieno/engine/Review$Verdict$Kind;"), (0, .methodref 46 56), (0, .nameAndType 49 57), (0, u "()Z"), (0, .methodref 46 59), (0, .nameAndType 60 61), (0, u "decision"), (0, u "()Lcom/example/ripieno/ripieno/engine/ReviewDecision;"), (0, .methodref 46 63), (0, .nameAndType 64 65), (0, u "cause"), (0, u "()Ljava/lang/Throwable;"), (0, .methodref 46 67), (0, .nameAndType 68 69), (0, u "failure"), (0, u "()Ljava/lang/String;"), (0, .methodref 33 71), (0, .nameAndType 72 73), (0, u "sameText"), (0, u "(Ljava/lang/String;Ljava/lang/String;)Z"), (0, .methodref 46 75), (0, .nameAndType 76 77), (0, u "reason"), (0, u "()Lcom/example/ripieno/ripieno/engine/ExitReason;"), (0, .fieldref 79 80), (0, .class_ 81), (0, .nameAndType 82 83), (0, u "com/example/ripieno/ripieno/engine/ExitReason"), (0, u "TIMEOUT"), (0, u "Lcom/example/ripieno/ripieno/engine/ExitReason;"), (0, .methodref 46 85), (0, .nameAndType 86 69), (0, u "text"), (3, u "law"), (0, u "(IIII)Z")] 7

def k1m0 : Method := { name := "<init>", desc := "()V", sig := { parameters := [], returnType := none }, accessFlags := 1, code := none }
def k1c1 : Code := { maxStack := 2, maxLocals := 1, code := method_2_code, exceptionTable := #[], attributes := #[] }
def k1m1 : Method := { name := "kindOf", desc := "(I)Lcom/example/ripieno/ripieno/engine/Review$Verdict$Kind;", sig := { parameters := [.int], returnType := some (.object "com/example/ripieno/ripieno/engine/Review$Verdict$Kind") }, accessFlags := 10, code := some k1c1 }
def k1c2 : Code := { maxStack := 2, maxLocals := 2, code := method_3_code, exceptionTable := #[], attributes := #[] }
def k1m2 : Method := { name := "sameText", desc := "(Ljava/lang/String;Ljava/lang/String;)Z", sig := { parameters := [(.object "java/lang/String"), (.object "java/lang/String")], returnType := some .boolean }, accessFlags := 10, code := some k1c2 }
def k1c3 : Code := { maxStack := 3, maxLocals := 11, code := code, exceptionTable := #[], attributes := #[] }
def k1m3 : Method := { name := "law", desc := "(IIII)Z", sig := { parameters := [.int, .int, .int, .int], returnType := some .boolean }, accessFlags := 9, code := some k1c3 }
/-- com/example/ripieno/ripieno/engine/VerdictTimedOutPinLaw -/
def k1 : Class := { plain "com/example/ripieno/ripieno/engine/VerdictTimedOutPinLaw" (some 0) with
  accessFlags := 49
  interfaces := #[]
  cf := some (fileOf pool1 33 #[] #[{ accessFlags := 1, nameIndex := 5, descriptorIndex := 6, attributes := #[] }, { accessFlags := 10, nameIndex := 36, descriptorIndex := 37, attributes := #[] }, { accessFlags := 10, nameIndex := 72, descriptorIndex := 73, attributes := #[] }, { accessFlags := 9, nameIndex := 90, descriptorIndex := 91, attributes := #[] }] 49 2 #[] #[])
  fields := #[]
  methods := #[k1m0, k1m1, k1m2, k1m3]
  instanceTypes := #[]
  staticTypes := #[]
  resolved := Array.replicate 99 none
  statics := none }

def pool2 : Array CpInfo := pool [(1, .class_ 2), (0, u "java/lang/constant/Constable"), (0, .class_ 4), (0, u "java/lang/Object")] 6

/-- java/lang/constant/Constable -/
def k2 : Class := { plain "java/lang/constant/Constable" (some 0) with
  accessFlags := 1537
  interfaces := #[]
  cf := some (fileOf pool2 1 #[] #[] 1537 3 #[] #[])
  fields := #[]
  methods := #[]
  instanceTypes := #[]
  staticTypes := #[]
  resolved := Array.replicate 11 none
  statics := none }

def pool3 : Array CpInfo := pool [(1, .class_ 2), (0, u "java/lang/Comparable"), (0, .class_ 4), (0, u "java/lang/Object")] 7

/-- java/lang/Comparable -/
def k3 : Class := { plain "java/lang/Comparable" (some 0) with
  accessFlags := 1537
  interfaces := #[]
  cf := some (fileOf pool3 1 #[] #[] 1537 3 #[] #[])
  fields := #[]
  methods := #[]
  instanceTypes := #[]
  staticTypes := #[]
  resolved := Array.replicate 12 none
  statics := none }

def pool4 : Array CpInfo := pool [(1, .class_ 2), (0, u "java/io/Serializable"), (0, .class_ 4), (0, u "java/lang/Object")] 2

/-- java/io/Serializable -/
def k4 : Class := { plain "java/io/Serializable" (some 0) with
  accessFlags := 1537
  interfaces := #[]
  cf := some (fileOf pool4 1 #[] #[] 1537 3 #[] #[])
  fields := #[]
  methods := #[]
  instanceTypes := #[]
  staticTypes := #[]
  resolved := Array.replicate 7 none
  statics := none }

def pool5 : Array CpInfo := pool [(2, .class_ 4), (1, u "java/lang/Enum"), (0, u "name"), (0, u "Ljava/lang/String;"), (2, u "ordinal"), (0, u "I"), (1, .class_ 14), (1, u "java/lang/Object"), (4, u "hash"), (86, .class_ 108), (1, u "java/lang/Enum$EnumDesc"), (2, .class_ 112), (0, u "java/lang/constant/Constable"), (0, .class_ 114), (0, u "java/lang/Comparable"), (0, .class_ 116), (0, u "java/io/Serializable")] 87

/-- java/lang/Enum -/
def k5 : Class := { plain "java/lang/Enum" (some 0) with
  accessFlags := 1057
  interfaces := #[2, 3, 4]
  cf := some (fileOf pool5 2 #[.nestMembers #[106]] #[] 1057 12 #[111, 113, 115] #[{ accessFlags := 18, nameIndex := 5, descriptorIndex := 6, attributes := #[] }, { accessFlags := 18, nameIndex := 9, descriptorIndex := 10, attributes := #[] }, { accessFlags := 2, nameIndex := 19, descriptorIndex := 10, attributes := #[] }])
  fields := #[{ name := "name", type := (.object "java/lang/String"), accessFlags := 18, slot := 0, constantValue := 0 }, { name := "ordinal", type := .int, accessFlags := 18, slot := 1, constantValue := 0 }, { name := "hash", type := .int, accessFlags := 2, slot := 2, constantValue := 0 }]
  methods := #[]
  instanceTypes := #[(.object "java/lang/String"), .int, .int]
  staticTypes := #[]
  resolved := Array.replicate 204 none
  statics := none }

def pool6 : Array CpInfo := pool [(1, .class_ 2), (0, u "com/example/ripieno/ripieno/engine/Review$Verdict$Kind"), (2, u "GO_ON"), (0, u "Lcom/example/ripieno/ripieno/engine/Review$Verdict$Kind;"), (2, u "REPLACE"), (2, u "STOP"), (2, u "FAIL"), (2, u "WITHDRAWN"), (2, u "$VALUES"), (0, u "[Lcom/example/ripieno/ripieno/engine/Review$Verdict$Kind;"), (6, .class_ 31), (1, u "java/lang/Enum"), (28, .class_ 61), (0, u "com/example/ripieno/ripieno/engine/Review")] 5

/-- com/example/ripieno/ripieno/engine/Review$Verdict$Kind -/
def k6 : Class := { plain "com/example/ripieno/ripieno/engine/Review$Verdict$Kind" (some 5) with
  accessFlags := 16432
  interfaces := #[]
  cf := some (fileOf pool6 1 #[.nestHost 60] #[] 16432 29 #[] #[{ accessFlags := 16409, nameIndex := 5, descriptorIndex := 6, attributes := #[] }, { accessFlags := 16409, nameIndex := 9, descriptorIndex := 6, attributes := #[] }, { accessFlags := 16409, nameIndex := 12, descriptorIndex := 6, attributes := #[] }, { accessFlags := 16409, nameIndex := 15, descriptorIndex := 6, attributes := #[] }, { accessFlags := 16409, nameIndex := 18, descriptorIndex := 6, attributes := #[] }, { accessFlags := 4122, nameIndex := 21, descriptorIndex := 22, attributes := #[] }])
  fields := #[{ name := "GO_ON", type := (.object "com/example/ripieno/ripieno/engine/Review$Verdict$Kind"), accessFlags := 16409, slot := 0, constantValue := 0 }, { name := "REPLACE", type := (.object "com/example/ripieno/ripieno/engine/Review$Verdict$Kind"), accessFlags := 16409, slot := 1, constantValue := 0 }, { name := "STOP", type := (.object "com/example/ripieno/ripieno/engine/Review$Verdict$Kind"), accessFlags := 16409, slot := 2, constantValue := 0 }, { name := "FAIL", type := (.object "com/example/ripieno/ripieno/engine/Review$Verdict$Kind"), accessFlags := 16409, slot := 3, constantValue := 0 }, { name := "WITHDRAWN", type := (.object "com/example/ripieno/ripieno/engine/Review$Verdict$Kind"), accessFlags := 16409, slot := 4, constantValue := 0 }, { name := "$VALUES", type := (.array (.object "com/example/ripieno/ripieno/engine/Review$Verdict$Kind")), accessFlags := 4122, slot := 5, constantValue := 0 }]
  methods := #[]
  instanceTypes := #[(.object "java/lang/String"), .int, .int]
  staticTypes := #[(.object "com/example/ripieno/ripieno/engine/Review$Verdict$Kind"), (.object "com/example/ripieno/ripieno/engine/Review$Verdict$Kind"), (.object "com/example/ripieno/ripieno/engine/Review$Verdict$Kind"), (.object "com/example/ripieno/ripieno/engine/Review$Verdict$Kind"), (.object "com/example/ripieno/ripieno/engine/Review$Verdict$Kind"), (.array (.object "com/example/ripieno/ripieno/engine/Review$Verdict$Kind"))]
  resolved := Array.replicate 67 none
  statics := some 0 }

def pool7 : Array CpInfo := pool [(2, .class_ 4), (1, u "java/lang/CharSequence"), (42, .class_ 48), (0, u "java/lang/CharSequence$1CodePointIterator"), (10, .class_ 60), (0, u "java/lang/CharSequence$1CharIterator"), (5, .class_ 67), (0, u "java/lang/Object")] 63

/-- java/lang/CharSequence -/
def k7 : Class := { plain "java/lang/CharSequence" (some 0) with
  accessFlags := 1537
  interfaces := #[]
  cf := some (fileOf pool7 2 #[.nestMembers #[47, 59]] #[] 1537 66 #[] #[])
  fields := #[]
  methods := #[]
  instanceTypes := #[]
  staticTypes := #[]
  resolved := Array.replicate 131 none
  statics := none }

def pool8 : Array CpInfo := pool [(1, .class_ 2), (0, u "java/lang/constant/ConstantDesc"), (0, .class_ 4), (0, u "java/lang/Object")] 32

/-- java/lang/constant/ConstantDesc -/
def k8 : Class := { plain "java/lang/constant/ConstantDesc" (some 0) with
  accessFlags := 1537
  interfaces := #[]
  cf := some (fileOf pool8 1 #[] #[] 1537 3 #[] #[])
  fields := #[]
  methods := #[]
  instanceTypes := #[]
  staticTypes := #[]
  resolved := Array.replicate 37 none
  statics := none }

def pool9 : Array CpInfo := pool [(1, .methodref 2 3), (0, .class_ 4), (0, .nameAndType 5 6), (0, u "java/lang/Object"), (0, u "<init>"), (0, u "()V"), (0, .string 8), (0, u ""), (0, .fieldref 10 11), (0, .class_ 12), (0, .nameAndType 13 14), (0, u "java/lang/String"), (0, u "value"), (0, u "[B"), (0, .fieldref 10 16), (0, .nameAndType 17 18), (0, u "coder"), (0, u "B"), (2, u "hash"), (0, u "I"), (2, u "hashIsZero"), (0, u "Z"), (0, .methodref 10 28), (0, .nameAndType 5 29), (0, u "([CIILjava/lang/Void;)V"), (8, .fieldref 10 39), (0, .nameAndType 40 26), (0, u "COMPACT_STRINGS"), (1, .class_ 44), (1, u "java/lang/StringUTF16"), (0, u "compress"), (1, .methodref 42 48), (0, .nameAndType 49 50), (0, u "coderFromArrayLen"), (0, u "([BI)B"), (2, u "toBytes"), (53, .class_ 109), (1, u "java/lang/StringLatin1"), (67, .methodref 42 178), (0, .nameAndType 45 179), (0, u "([CII)[B"), (29, .methodref 10 210), (0, .nameAndType 5 211), (0, u "([BB)V"), (157, u "(C)Z"), (173, u "equals"), (29, u "(Ljava/lang/Object;)Z"), (1, .class_ 576), (0, u "java/lang/CharSequence"), (22, u "CASE_INSENSITIVE_ORDER"), (0, u "Ljava/util/Comparator;"), (181, u "valueOf"), (0, u "(C)Ljava/lang/String;"), (226, u "([C)V"), (4, .methodref 107 1016), (0, .nameAndType 1017 369), (0, u "canEncode"), (0, .methodref 107 1019), (0, .nameAndType 53 1020), (0, u "(C)[B"), (80, u "serialPersistentFields"), (0, u "[Ljava/io/ObjectStreamField;"), (0, .class_ 1104), (0, u "java/lang/String$CaseInsensitiveComparator"), (1, .class_ 1107), (0, u "java/io/Serializable"), (0, .class_ 1109), (0, u "java/lang/Comparable"), (0, .class_ 1111), (0, u "java/lang/constant/Constable"), (0, .class_ 1113), (0, u "java/lang/constant/ConstantDesc"), (2, u "serialVersionUID"), (0, u "J"), (3, u "REPL"), (0, u "C"), (2, u "LATIN1"), (1, u "UTF16")] 323

def k9m0 : Method := { name := "<init>", desc := "()V", sig := { parameters := [], returnType := none }, accessFlags := 1, code := none }
def k9c1 : Code := { maxStack := 5, maxLocals := 2, code := jdk_42_method_3_code, exceptionTable := #[], attributes := #[] }
def k9m1 : Method := { name := "<init>", desc := "([C)V", sig := { parameters := [(.array .char)], returnType := none }, accessFlags := 1, code := some k9c1 }
def k9c2 : Code := { maxStack := 2, maxLocals := 3, code := jdk_42_method_66_code, exceptionTable := #[], attributes := #[] }
def k9m2 : Method := { name := "equals", desc := "(Ljava/lang/Object;)Z", sig := { parameters := [(.object "java/lang/Object")], returnType := some .boolean }, accessFlags := 1, code := some k9c2 }
def k9c3 : Code := { maxStack := 4, maxLocals := 1, code := jdk_42_method_139_code, exceptionTable := #[], attributes := #[] }
def k9m3 : Method := { name := "valueOf", desc := "(C)Ljava/lang/String;", sig := { parameters := [.char], returnType := some (.object "java/lang/String") }, accessFlags := 9, code := some k9c3 }
def k9c4 : Code := { maxStack := 4, maxLocals := 6, code := jdk_42_method_149_code, exceptionTable := #[], attributes := #[] }
def k9m4 : Method := { name := "<init>", desc := "([CIILjava/lang/Void;)V", sig := { parameters := [(.array .char), .int, .int, (.object "java/lang/Void")], returnType := none }, accessFlags := 2, code := some k9c4 }
def k9c5 : Code := { maxStack := 2, maxLocals := 3, code := jdk_42_method_151_code, exceptionTable := #[], attributes := #[] }
def k9m5 : Method := { name := "<init>", desc := "([BB)V", sig := { parameters := [(.array .byte), .byte], returnType := none }, accessFlags := 0, code := some k9c5 }
/-- java/lang/String -/
def k9 : Class := { plain "java/lang/String" (some 0) with
  accessFlags := 49
  interfaces := #[4, 3, 7, 2, 8]
  cf := some (fileOf pool9 10 #[.nestMembers #[1103]] #[{ accessFlags := 1, nameIndex := 5, descriptorIndex := 6, attributes := #[] }, { accessFlags := 1, nameIndex := 5, descriptorIndex := 1010, attributes := #[] }, { accessFlags := 1, nameIndex := 543, descriptorIndex := 573, attributes := #[] }, { accessFlags := 9, nameIndex := 782, descriptorIndex := 783, attributes := #[] }, { accessFlags := 2, nameIndex := 5, descriptorIndex := 29, attributes := #[] }, { accessFlags := 0, nameIndex := 5, descriptorIndex := 211, attributes := #[] }] 49 2 #[1106, 1108, 575, 1110, 1112] #[{ accessFlags := 18, nameIndex := 13, descriptorIndex := 14, attributes := #[] }, { accessFlags := 18, nameIndex := 17, descriptorIndex := 18, attributes := #[] }, { accessFlags := 2, nameIndex := 21, descriptorIndex := 22, attributes := #[] }, { accessFlags := 2, nameIndex := 25, descriptorIndex := 26, attributes := #[] }, { accessFlags := 26, nameIndex := 1116, descriptorIndex := 1117, attributes := #[] }, { accessFlags := 24, nameIndex := 40, descriptorIndex := 26, attributes := #[] }, { accessFlags := 26, nameIndex := 1101, descriptorIndex := 1102, attributes := #[] }, { accessFlags := 26, nameIndex := 1121, descriptorIndex := 1122, attributes := #[] }, { accessFlags := 25, nameIndex := 599, descriptorIndex := 600, attributes := #[] }, { accessFlags := 24, nameIndex := 1125, descriptorIndex := 18, attributes := #[] }, { accessFlags := 24, nameIndex := 1127, descriptorIndex := 18, attributes := #[] }])
  fields := #[{ name := "value", type := (.array .byte), accessFlags := 18, slot := 0, constantValue := 0 }, { name := "coder", type := .byte, accessFlags := 18, slot := 1, constantValue := 0 }, { name := "hash", type := .int, accessFlags := 2, slot := 2, constantValue := 0 }, { name := "hashIsZero", type := .boolean, accessFlags := 2, slot := 3, constantValue := 0 }, { name := "serialVersionUID", type := .long, accessFlags := 26, slot := 0, constantValue := 0 }, { name := "COMPACT_STRINGS", type := .boolean, accessFlags := 24, slot := 1, constantValue := 0 }, { name := "serialPersistentFields", type := (.array (.object "java/io/ObjectStreamField")), accessFlags := 26, slot := 2, constantValue := 0 }, { name := "REPL", type := .char, accessFlags := 26, slot := 3, constantValue := 0 }, { name := "CASE_INSENSITIVE_ORDER", type := (.object "java/util/Comparator"), accessFlags := 25, slot := 4, constantValue := 0 }, { name := "LATIN1", type := .byte, accessFlags := 24, slot := 5, constantValue := 0 }, { name := "UTF16", type := .byte, accessFlags := 24, slot := 6, constantValue := 0 }]
  methods := #[k9m0, k9m1, k9m2, k9m3, k9m4, k9m5]
  instanceTypes := #[(.array .byte), .byte, .int, .boolean]
  staticTypes := #[.long, .boolean, (.array (.object "java/io/ObjectStreamField")), .char, (.object "java/util/Comparator"), .byte, .byte]
  resolved := Array.replicate 1451 none
  statics := some 1 }

def pool10 : Array CpInfo := pool [(6, .class_ 8), (1, u "java/lang/Object"), (0, u "<init>"), (0, u "()V"), (1, .class_ 14), (1, u "java/lang/StringUTF16"), (31, u "$assertionsDisabled"), (0, u "Z"), (13, u "HI_BYTE_SHIFT"), (0, u "I"), (2, u "LO_BYTE_SHIFT"), (49, .methodref 12 116), (0, .nameAndType 117 118), (0, u "compress"), (0, u "([CI[BII)I"), (3, u "([CII)[B"), (138, u "coderFromArrayLen"), (0, u "([BI)B"), (106, .class_ 371), (1, u "java/lang/StringUTF16$LinesSpliterator"), (58, u "MAX_LENGTH"), (196, .class_ 628), (0, u "java/lang/StringUTF16$CodePointsSpliterator"), (0, .class_ 630), (0, u "java/lang/StringUTF16$CharsSpliterator")] 4

def k10m0 : Method := { name := "<init>", desc := "()V", sig := { parameters := [], returnType := none }, accessFlags := 0, code := none }
def k10c1 : Code := { maxStack := 2, maxLocals := 2, code := jdk_52_method_15_code, exceptionTable := #[], attributes := #[] }
def k10m1 : Method := { name := "coderFromArrayLen", desc := "([BI)B", sig := { parameters := [(.array .byte), .int], returnType := some .byte }, accessFlags := 8, code := some k10c1 }
def k10c2 : Code := { maxStack := 5, maxLocals := 6, code := jdk_52_method_16_code, exceptionTable := #[], attributes := #[] }
def k10m2 : Method := { name := "compress", desc := "([CII)[B", sig := { parameters := [(.array .char), .int, .int], returnType := some (.array .byte) }, accessFlags := 9, code := some k10c2 }
def k10c3 : Code := { maxStack := 3, maxLocals := 7, code := jdk_52_method_21_code, exceptionTable := #[], attributes := #[] }
def k10m3 : Method := { name := "compress", desc := "([CI[BII)I", sig := { parameters := [(.array .char), .int, (.array .byte), .int, .int], returnType := some .int }, accessFlags := 9, code := some k10c3 }
/-- java/lang/StringUTF16 -/
def k10 : Class := { plain "java/lang/StringUTF16" (some 0) with
  accessFlags := 48
  interfaces := #[]
  cf := some (fileOf pool10 12 #[.nestMembers #[627, 629, 369]] #[{ accessFlags := 0, nameIndex := 9, descriptorIndex := 10, attributes := #[] }, { accessFlags := 8, nameIndex := 261, descriptorIndex := 262, attributes := #[] }, { accessFlags := 9, nameIndex := 117, descriptorIndex := 122, attributes := #[] }, { accessFlags := 9, nameIndex := 117, descriptorIndex := 118, attributes := #[] }] 48 6 #[] #[{ accessFlags := 26, nameIndex := 61, descriptorIndex := 62, attributes := #[] }, { accessFlags := 26, nameIndex := 65, descriptorIndex := 62, attributes := #[] }, { accessFlags := 24, nameIndex := 430, descriptorIndex := 62, attributes := #[] }, { accessFlags := 4120, nameIndex := 46, descriptorIndex := 47, attributes := #[] }])
  fields := #[{ name := "HI_BYTE_SHIFT", type := .int, accessFlags := 26, slot := 0, constantValue := 0 }, { name := "LO_BYTE_SHIFT", type := .int, accessFlags := 26, slot := 1, constantValue := 0 }, { name := "MAX_LENGTH", type := .int, accessFlags := 24, slot := 2, constantValue := 0 }, { name := "$assertionsDisabled", type := .boolean, accessFlags := 4120, slot := 3, constantValue := 0 }]
  methods := #[k10m0, k10m1, k10m2, k10m3]
  instanceTypes := #[]
  staticTypes := #[.int, .int, .int, .boolean]
  resolved := Array.replicate 635 none
  statics := none }

def pool11 : Array CpInfo := pool [(1, .methodref 2 3), (0, .class_ 4), (0, .nameAndType 5 6), (0, u "com/example/ripieno/ripieno/engine/Review$Verdict"), (0, u "<init>"), (0, u "(Lcom/example/ripieno/ripieno/engine/Review$Verdict$Kind;Lcom/example/ripieno/ripieno/engine/ReviewDecision;ZLjava/lang/String;Ljava/lang/Throwable;)V"), (0, .methodref 8 9), (0, .class_ 10), (0, .nameAndType 5 11), (0, u "java/lang/Object"), (0, u "()V"), (0, .fieldref 2 13), (0, .nameAndType 14 15), (0, u "kind"), (0, u "Lcom/example/ripieno/ripieno/engine/Review$Verdict$Kind;"), (0, .fieldref 2 17), (0, .nameAndType 18 19), (0, u "decision"), (0, u "Lcom/example/ripieno/ripieno/engine/ReviewDecision;"), (0, .fieldref 2 21), (0, .nameAndType 22 23), (0, u "timedOut"), (0, u "Z"), (0, .fieldref 2 25), (0, .nameAndType 26 27), (0, u "failure"), (0, u "Ljava/lang/String;"), (0, .fieldref 2 29), (0, .nameAndType 30 31), (0, u "cause"), (0, u "Ljava/lang/Throwable;"), (0, .fieldref 33 34), (0, .class_ 35), (0, .nameAndType 36 15), (0, u "com/example/ripieno/ripieno/engine/Review$Verdict$Kind"), (0, u "FAIL"), (7, u "text"), (9, .fieldref 55 56), (0, .class_ 57), (0, .nameAndType 58 59), (0, u "com/example/ripieno/ripieno/engine/ExitReason"), (0, u "TIMEOUT"), (0, u "Lcom/example/ripieno/ripieno/engine/ExitReason;"), (6, u "(Lcom/example/ripieno/ripieno/engine/Review$Verdict$Kind;Ljava/lang/String;)Lcom/example/ripieno/ripieno/engine/Review$Verdict;"), (4, u "()Lcom/example/ripieno/ripieno/engine/Review$Verdict$Kind;"), (0, u "()Ljava/lang/String;"), (1, u "reason"), (0, u "()Lcom/example/ripieno/ripieno/engine/ExitReason;"), (0, u "()Lcom/example/ripieno/ripieno/engine/ReviewDecision;"), (0, u "()Z"), (0, u "()Ljava/lang/Throwable;"), (3, .class_ 83), (0, u "com/example/ripieno/ripieno/engine/Review")] 3

def k11c0 : Code := { maxStack := 2, maxLocals := 6, code := prog_50_method_2_code, exceptionTable := #[], attributes := #[] }
def k11m0 : Method := { name := "<init>", desc := "(Lcom/example/ripieno/ripieno/engine/Review$Verdict$Kind;Lcom/example/ripieno/ripieno/engine/ReviewDecision;ZLjava/lang/String;Ljava/lang/Throwable;)V", sig := { parameters := [(.object "com/example/ripieno/ripieno/engine/Review$Verdict$Kind"), (.object "com/example/ripieno/ripieno/engine/ReviewDecision"), .boolean, (.object "java/lang/String"), (.object "java/lang/Throwable")], returnType := none }, accessFlags := 2, code := some k11c0 }
def k11c1 : Code := { maxStack := 7, maxLocals := 2, code := prog_50_method_3_code, exceptionTable := #[], attributes := #[] }
def k11m1 : Method := { name := "timedOut", desc := "(Lcom/example/ripieno/ripieno/engine/Review$Verdict$Kind;Ljava/lang/String;)Lcom/example/ripieno/ripieno/engine/Review$Verdict;", sig := { parameters := [(.object "com/example/ripieno/ripieno/engine/Review$Verdict$Kind"), (.object "java/lang/String")], returnType := some (.object "com/example/ripieno/ripieno/engine/Review$Verdict") }, accessFlags := 8, code := some k11c1 }
def k11c2 : Code := { maxStack := 1, maxLocals := 1, code := prog_50_method_6_code, exceptionTable := #[], attributes := #[] }
def k11m2 : Method := { name := "kind", desc := "()Lcom/example/ripieno/ripieno/engine/Review$Verdict$Kind;", sig := { parameters := [], returnType := some (.object "com/example/ripieno/ripieno/engine/Review$Verdict$Kind") }, accessFlags := 0, code := some k11c2 }
def k11c3 : Code := { maxStack := 2, maxLocals := 1, code := prog_50_method_7_code, exceptionTable := #[], attributes := #[] }
def k11m3 : Method := { name := "text", desc := "()Ljava/lang/String;", sig := { parameters := [], returnType := some (.object "java/lang/String") }, accessFlags := 0, code := some k11c3 }
def k11c4 : Code := { maxStack := 1, maxLocals := 1, code := prog_50_method_8_code, exceptionTable := #[], attributes := #[] }
def k11m4 : Method := { name := "reason", desc := "()Lcom/example/ripieno/ripieno/engine/ExitReason;", sig := { parameters := [], returnType := some (.object "com/example/ripieno/ripieno/engine/ExitReason") }, accessFlags := 0, code := some k11c4 }
def k11c5 : Code := { maxStack := 1, maxLocals := 1, code := prog_50_method_9_code, exceptionTable := #[], attributes := #[] }
def k11m5 : Method := { name := "decision", desc := "()Lcom/example/ripieno/ripieno/engine/ReviewDecision;", sig := { parameters := [], returnType := some (.object "com/example/ripieno/ripieno/engine/ReviewDecision") }, accessFlags := 0, code := some k11c5 }
def k11c6 : Code := { maxStack := 1, maxLocals := 1, code := prog_50_method_10_code, exceptionTable := #[], attributes := #[] }
def k11m6 : Method := { name := "timedOut", desc := "()Z", sig := { parameters := [], returnType := some .boolean }, accessFlags := 0, code := some k11c6 }
def k11c7 : Code := { maxStack := 1, maxLocals := 1, code := prog_50_method_11_code, exceptionTable := #[], attributes := #[] }
def k11m7 : Method := { name := "failure", desc := "()Ljava/lang/String;", sig := { parameters := [], returnType := some (.object "java/lang/String") }, accessFlags := 0, code := some k11c7 }
def k11c8 : Code := { maxStack := 1, maxLocals := 1, code := prog_50_method_12_code, exceptionTable := #[], attributes := #[] }
def k11m8 : Method := { name := "cause", desc := "()Ljava/lang/Throwable;", sig := { parameters := [], returnType := some (.object "java/lang/Throwable") }, accessFlags := 0, code := some k11c8 }
/-- com/example/ripieno/ripieno/engine/Review$Verdict -/
def k11 : Class := { plain "com/example/ripieno/ripieno/engine/Review$Verdict" (some 0) with
  accessFlags := 48
  interfaces := #[]
  cf := some (fileOf pool11 2 #[.nestHost 82] #[{ accessFlags := 2, nameIndex := 5, descriptorIndex := 6, attributes := #[] }, { accessFlags := 8, nameIndex := 22, descriptorIndex := 66, attributes := #[] }, { accessFlags := 0, nameIndex := 14, descriptorIndex := 71, attributes := #[] }, { accessFlags := 0, nameIndex := 44, descriptorIndex := 72, attributes := #[] }, { accessFlags := 0, nameIndex := 74, descriptorIndex := 75, attributes := #[] }, { accessFlags := 0, nameIndex := 18, descriptorIndex := 76, attributes := #[] }, { accessFlags := 0, nameIndex := 22, descriptorIndex := 77, attributes := #[] }, { accessFlags := 0, nameIndex := 26, descriptorIndex := 72, attributes := #[] }, { accessFlags := 0, nameIndex := 30, descriptorIndex := 78, attributes := #[] }] 48 8 #[] #[{ accessFlags := 18, nameIndex := 14, descriptorIndex := 15, attributes := #[] }, { accessFlags := 18, nameIndex := 18, descriptorIndex := 19, attributes := #[] }, { accessFlags := 18, nameIndex := 22, descriptorIndex := 23, attributes := #[] }, { accessFlags := 18, nameIndex := 26, descriptorIndex := 27, attributes := #[] }, { accessFlags := 18, nameIndex := 30, descriptorIndex := 31, attributes := #[] }])
  fields := #[{ name := "kind", type := (.object "com/example/ripieno/ripieno/engine/Review$Verdict$Kind"), accessFlags := 18, slot := 0, constantValue := 0 }, { name := "decision", type := (.object "com/example/ripieno/ripieno/engine/ReviewDecision"), accessFlags := 18, slot := 1, constantValue := 0 }, { name := "timedOut", type := .boolean, accessFlags := 18, slot := 2, constantValue := 0 }, { name := "failure", type := (.object "java/lang/String"), accessFlags := 18, slot := 3, constantValue := 0 }, { name := "cause", type := (.object "java/lang/Throwable"), accessFlags := 18, slot := 4, constantValue := 0 }]
  methods := #[k11m0, k11m1, k11m2, k11m3, k11m4, k11m5, k11m6, k11m7, k11m8]
  instanceTypes := #[(.object "com/example/ripieno/ripieno/engine/Review$Verdict$Kind"), (.object "com/example/ripieno/ripieno/engine/ReviewDecision"), .boolean, (.object "java/lang/String"), (.object "java/lang/Throwable")]
  staticTypes := #[]
  resolved := Array.replicate 87 none
  statics := none }

def pool12 : Array CpInfo := pool [(1, .class_ 2), (0, u "com/example/ripieno/ripieno/engine/ExitReason"), (2, u "COMPLETED"), (0, u "Lcom/example/ripieno/ripieno/engine/ExitReason;"), (2, u "ERROR"), (2, u "USER_EXIT_EARLY"), (2, u "TIMEOUT"), (2, u "$VALUES"), (0, u "[Lcom/example/ripieno/ripieno/engine/ExitReason;"), (6, .class_ 28), (1, u "java/lang/Enum")] 26

/-- com/example/ripieno/ripieno/engine/ExitReason -/
def k12 : Class := { plain "com/example/ripieno/ripieno/engine/ExitReason" (some 5) with
  accessFlags := 16433
  interfaces := #[]
  cf := some (fileOf pool12 1 #[] #[] 16433 26 #[] #[{ accessFlags := 16409, nameIndex := 5, descriptorIndex := 6, attributes := #[] }, { accessFlags := 16409, nameIndex := 9, descriptorIndex := 6, attributes := #[] }, { accessFlags := 16409, nameIndex := 12, descriptorIndex := 6, attributes := #[] }, { accessFlags := 16409, nameIndex := 15, descriptorIndex := 6, attributes := #[] }, { accessFlags := 4122, nameIndex := 18, descriptorIndex := 19, attributes := #[] }])
  fields := #[{ name := "COMPLETED", type := (.object "com/example/ripieno/ripieno/engine/ExitReason"), accessFlags := 16409, slot := 0, constantValue := 0 }, { name := "ERROR", type := (.object "com/example/ripieno/ripieno/engine/ExitReason"), accessFlags := 16409, slot := 1, constantValue := 0 }, { name := "USER_EXIT_EARLY", type := (.object "com/example/ripieno/ripieno/engine/ExitReason"), accessFlags := 16409, slot := 2, constantValue := 0 }, { name := "TIMEOUT", type := (.object "com/example/ripieno/ripieno/engine/ExitReason"), accessFlags := 16409, slot := 3, constantValue := 0 }, { name := "$VALUES", type := (.array (.object "com/example/ripieno/ripieno/engine/ExitReason")), accessFlags := 4122, slot := 4, constantValue := 0 }]
  methods := #[]
  instanceTypes := #[(.object "java/lang/String"), .int, .int]
  staticTypes := #[(.object "com/example/ripieno/ripieno/engine/ExitReason"), (.object "com/example/ripieno/ripieno/engine/ExitReason"), (.object "com/example/ripieno/ripieno/engine/ExitReason"), (.object "com/example/ripieno/ripieno/engine/ExitReason"), (.array (.object "com/example/ripieno/ripieno/engine/ExitReason"))]
  resolved := Array.replicate 55 none
  statics := some 2 }

def pool13 : Array CpInfo := pool [(4, .class_ 6), (1, u "java/lang/Object"), (0, u "<init>"), (0, u "()V"), (5, .class_ 16), (1, u "java/lang/StringLatin1"), (73, u "canEncode"), (14, u "(C)Z"), (15, u "$assertionsDisabled"), (0, u "Z"), (98, .class_ 223), (1, u "java/lang/StringLatin1$LinesSpliterator"), (156, u "toBytes"), (1, u "(C)[B"), (7, .class_ 391), (0, u "java/lang/StringLatin1$CharsSpliterator")] 3

def k13m0 : Method := { name := "<init>", desc := "()V", sig := { parameters := [], returnType := none }, accessFlags := 0, code := none }
def k13c1 : Code := { maxStack := 2, maxLocals := 1, code := jdk_43_method_3_code, exceptionTable := #[], attributes := #[] }
def k13m1 : Method := { name := "canEncode", desc := "(C)Z", sig := { parameters := [.char], returnType := some .boolean }, accessFlags := 9, code := some k13c1 }
def k13c2 : Code := { maxStack := 4, maxLocals := 1, code := jdk_43_method_46_code, exceptionTable := #[], attributes := #[] }
def k13m2 : Method := { name := "toBytes", desc := "(C)[B", sig := { parameters := [.char], returnType := some (.array .byte) }, accessFlags := 9, code := some k13c2 }
/-- java/lang/StringLatin1 -/
def k13 : Class := { plain "java/lang/StringLatin1" (some 0) with
  accessFlags := 48
  interfaces := #[]
  cf := some (fileOf pool13 14 #[.nestMembers #[390, 221]] #[{ accessFlags := 0, nameIndex := 7, descriptorIndex := 8, attributes := #[] }, { accessFlags := 9, nameIndex := 90, descriptorIndex := 105, attributes := #[] }, { accessFlags := 9, nameIndex := 380, descriptorIndex := 382, attributes := #[] }] 48 4 #[] #[{ accessFlags := 4120, nameIndex := 121, descriptorIndex := 122, attributes := #[] }])
  fields := #[{ name := "$assertionsDisabled", type := .boolean, accessFlags := 4120, slot := 0, constantValue := 0 }]
  methods := #[k13m0, k13m1, k13m2]
  instanceTypes := #[]
  staticTypes := #[.boolean]
  resolved := Array.replicate 395 none
  statics := none }

def pool14 : Array CpInfo := pool [(2, .class_ 4), (1, u "java/lang/Object"), (0, u "<init>"), (0, u "()V"), (17, .class_ 26), (1, u "jdk/internal/util/Preconditions"), (28, .class_ 56), (0, u "jdk/internal/util/Preconditions$4"), (57, .class_ 115), (0, u "jdk/internal/util/Preconditions$1"), (7, u "SIOOBE_FORMATTER"), (0, u "Ljava/util/function/BiFunction;"), (0, .class_ 126), (0, u "jdk/internal/util/Preconditions$2"), (3, u "AIOOBE_FORMATTER"), (0, .class_ 132), (0, u "jdk/internal/util/Preconditions$3"), (3, u "IOOBE_FORMATTER")] 57

def k14m0 : Method := { name := "<init>", desc := "()V", sig := { parameters := [], returnType := none }, accessFlags := 1, code := none }
/-- jdk/internal/util/Preconditions -/
def k14 : Class := { plain "jdk/internal/util/Preconditions" (some 0) with
  accessFlags := 33
  interfaces := #[]
  cf := some (fileOf pool14 24 #[.nestMembers #[55, 131, 125, 114]] #[{ accessFlags := 1, nameIndex := 5, descriptorIndex := 6, attributes := #[] }] 33 2 #[] #[{ accessFlags := 25, nameIndex := 123, descriptorIndex := 124, attributes := #[] }, { accessFlags := 25, nameIndex := 130, descriptorIndex := 124, attributes := #[] }, { accessFlags := 25, nameIndex := 136, descriptorIndex := 124, attributes := #[] }])
  fields := #[{ name := "SIOOBE_FORMATTER", type := (.object "java/util/function/BiFunction"), accessFlags := 25, slot := 0, constantValue := 0 }, { name := "AIOOBE_FORMATTER", type := (.object "java/util/function/BiFunction"), accessFlags := 25, slot := 1, constantValue := 0 }, { name := "IOOBE_FORMATTER", type := (.object "java/util/function/BiFunction"), accessFlags := 25, slot := 2, constantValue := 0 }]
  methods := #[k14m0]
  instanceTypes := #[]
  staticTypes := #[(.object "java/util/function/BiFunction"), (.object "java/util/function/BiFunction"), (.object "java/util/function/BiFunction")]
  resolved := Array.replicate 194 none
  statics := some 3 }

def pool15 : Array CpInfo := pool [(9, u "<init>"), (6, .class_ 18), (1, u "java/lang/Object"), (0, u "()V"), (1, .class_ 23), (1, u "jdk/internal/util/ArraysSupport"), (0, u "LOG2_ARRAY_LONG_INDEX_SCALE"), (0, u "I"), (2, u "U"), (0, u "Ljdk/internal/misc/Unsafe;"), (8, u "BIG_ENDIAN"), (0, u "Z"), (8, u "LOG2_BYTE_BIT_SIZE"), (4, u "LOG2_ARRAY_INT_INDEX_SCALE"), (54, u "JLA"), (0, u "Ljdk/internal/access/JavaLangAccess;"), (11, u "LOG2_ARRAY_BOOLEAN_INDEX_SCALE"), (9, u "LOG2_ARRAY_BYTE_INDEX_SCALE"), (5, u "LOG2_ARRAY_CHAR_INDEX_SCALE"), (5, u "LOG2_ARRAY_SHORT_INDEX_SCALE"), (18, u "LOG2_ARRAY_FLOAT_INDEX_SCALE"), (24, u "LOG2_ARRAY_DOUBLE_INDEX_SCALE"), (89, u "T_BOOLEAN"), (2, u "T_CHAR"), (1, u "T_FLOAT"), (1, u "T_DOUBLE"), (1, u "T_BYTE"), (1, u "T_SHORT"), (1, u "T_INT"), (1, u "T_LONG"), (1, u "SOFT_MAX_ARRAY_LENGTH")] 83

def k15m0 : Method := { name := "<init>", desc := "()V", sig := { parameters := [], returnType := none }, accessFlags := 2, code := none }
/-- jdk/internal/util/ArraysSupport -/
def k15 : Class := { plain "jdk/internal/util/ArraysSupport" (some 0) with
  accessFlags := 33
  interfaces := #[]
  cf := some (fileOf pool15 21 #[] #[{ accessFlags := 2, nameIndex := 9, descriptorIndex := 19, attributes := #[] }] 33 16 #[] #[{ accessFlags := 24, nameIndex := 28, descriptorIndex := 29, attributes := #[] }, { accessFlags := 26, nameIndex := 38, descriptorIndex := 39, attributes := #[] }, { accessFlags := 25, nameIndex := 121, descriptorIndex := 25, attributes := #[] }, { accessFlags := 25, nameIndex := 131, descriptorIndex := 25, attributes := #[] }, { accessFlags := 25, nameIndex := 137, descriptorIndex := 25, attributes := #[] }, { accessFlags := 25, nameIndex := 143, descriptorIndex := 25, attributes := #[] }, { accessFlags := 25, nameIndex := 53, descriptorIndex := 25, attributes := #[] }, { accessFlags := 25, nameIndex := 24, descriptorIndex := 25, attributes := #[] }, { accessFlags := 25, nameIndex := 162, descriptorIndex := 25, attributes := #[] }, { accessFlags := 25, nameIndex := 187, descriptorIndex := 25, attributes := #[] }, { accessFlags := 26, nameIndex := 48, descriptorIndex := 25, attributes := #[] }, { accessFlags := 25, nameIndex := 277, descriptorIndex := 25, attributes := #[] }, { accessFlags := 25, nameIndex := 280, descriptorIndex := 25, attributes := #[] }, { accessFlags := 25, nameIndex := 282, descriptorIndex := 25, attributes := #[] }, { accessFlags := 25, nameIndex := 284, descriptorIndex := 25, attributes := #[] }, { accessFlags := 25, nameIndex := 286, descriptorIndex := 25, attributes := #[] }, { accessFlags := 25, nameIndex := 288, descriptorIndex := 25, attributes := #[] }, { accessFlags := 25, nameIndex := 290, descriptorIndex := 25, attributes := #[] }, { accessFlags := 25, nameIndex := 292, descriptorIndex := 25, attributes := #[] }, { accessFlags := 26, nameIndex := 108, descriptorIndex := 109, attributes := #[] }, { accessFlags := 25, nameIndex := 294, descriptorIndex := 25, attributes := #[] }])
  fields := #[{ name := "U", type := (.object "jdk/internal/misc/Unsafe"), accessFlags := 24, slot := 0, constantValue := 0 }, { name := "BIG_ENDIAN", type := .boolean, accessFlags := 26, slot := 1, constantValue := 0 }, { name := "LOG2_ARRAY_BOOLEAN_INDEX_SCALE", type := .int, accessFlags := 25, slot := 2, constantValue := 0 }, { name := "LOG2_ARRAY_BYTE_INDEX_SCALE", type := .int, accessFlags := 25, slot := 3, constantValue := 0 }, { name := "LOG2_ARRAY_CHAR_INDEX_SCALE", type := .int, accessFlags := 25, slot := 4, constantValue := 0 }, { name := "LOG2_ARRAY_SHORT_INDEX_SCALE", type := .int, accessFlags := 25, slot := 5, constantValue := 0 }, { name := "LOG2_ARRAY_INT_INDEX_SCALE", type := .int, accessFlags := 25, slot := 6, constantValue := 0 }, { name := "LOG2_ARRAY_LONG_INDEX_SCALE", type := .int, accessFlags := 25, slot := 7, constantValue := 0 }, { name := "LOG2_ARRAY_FLOAT_INDEX_SCALE", type := .int, accessFlags := 25, slot := 8, constantValue := 0 }, { name := "LOG2_ARRAY_DOUBLE_INDEX_SCALE", type := .int, accessFlags := 25, slot := 9, constantValue := 0 }, { name := "LOG2_BYTE_BIT_SIZE", type := .int, accessFlags := 26, slot := 10, constantValue := 0 }, { name := "T_BOOLEAN", type := .int, accessFlags := 25, slot := 11, constantValue := 0 }, { name := "T_CHAR", type := .int, accessFlags := 25, slot := 12, constantValue := 0 }, { name := "T_FLOAT", type := .int, accessFlags := 25, slot := 13, constantValue := 0 }, { name := "T_DOUBLE", type := .int, accessFlags := 25, slot := 14, constantValue := 0 }, { name := "T_BYTE", type := .int, accessFlags := 25, slot := 15, constantValue := 0 }, { name := "T_SHORT", type := .int, accessFlags := 25, slot := 16, constantValue := 0 }, { name := "T_INT", type := .int, accessFlags := 25, slot := 17, constantValue := 0 }, { name := "T_LONG", type := .int, accessFlags := 25, slot := 18, constantValue := 0 }, { name := "JLA", type := (.object "jdk/internal/access/JavaLangAccess"), accessFlags := 26, slot := 19, constantValue := 0 }, { name := "SOFT_MAX_ARRAY_LENGTH", type := .int, accessFlags := 25, slot := 20, constantValue := 0 }]
  methods := #[k15m0]
  instanceTypes := #[]
  staticTypes := #[(.object "jdk/internal/misc/Unsafe"), .boolean, .int, .int, .int, .int, .int, .int, .int, .int, .int, .int, .int, .int, .int, .int, .int, .int, .int, (.object "jdk/internal/access/JavaLangAccess"), .int]
  resolved := Array.replicate 378 none
  statics := none }

def pool16 : Array CpInfo := pool [(1, u "java/lang/Cloneable"), (0, .class_ 1), (0, u "java/lang/Object"), (0, .class_ 3)] 3

/-- java/lang/Cloneable -/
def k16 : Class := { plain "java/lang/Cloneable" (some 0) with
  accessFlags := 1537
  interfaces := #[]
  cf := some (fileOf pool16 2 #[] #[] 1537 4 #[] #[])
  fields := #[]
  methods := #[]
  instanceTypes := #[]
  staticTypes := #[]
  resolved := Array.replicate 8 none
  statics := none }

/-- the primitive byte -/
def k17 : Class := { plain "byte" none with kind := .primitive 'B', accessFlags := 0x411 }
/-- [B -/
def k18 : Class := { plain "[B" (some 0) with kind := .array 17 .byte, interfaces := #[16, 4], accessFlags := 1041 }

/-- the primitive char -/
def k19 : Class := { plain "char" none with kind := .primitive 'C', accessFlags := 0x411 }
/-- [C -/
def k20 : Class := { plain "[C" (some 0) with kind := .array 19 .char, interfaces := #[16, 4], accessFlags := 1041 }

/-- the primitive int -/
def k21 : Class := { plain "int" none with kind := .primitive 'I', accessFlags := 0x411 }
/-- [I -/
def k22 : Class := { plain "[I" (some 0) with kind := .array 21 .int, interfaces := #[16, 4], accessFlags := 1041 }

def heap : Heap := #[{ cls := 6, slots := #[.ref 4, .ref 9, .ref 7, .ref 6, .ref 8, .null], vm := .statics 6 },
  { cls := 9, slots := #[.long 0, .int 1, .null, .int 0, .null, .int 0, .int 0], vm := .statics 9 },
  { cls := 12, slots := #[.null, .null, .null, .ref 5, .null], vm := .statics 12 },
  { cls := 14, slots := #[.null, .null, .null], vm := .statics 14 },
  { cls := 6, slots := #[.null, .int 0, .int 0], vm := .none },
  { cls := 12, slots := #[.null, .int 0, .int 0], vm := .none },
  { cls := 6, slots := #[.null, .int 3, .int 0], vm := .none },
  { cls := 6, slots := #[.null, .int 2, .int 0], vm := .none },
  { cls := 6, slots := #[.null, .int 4, .int 0], vm := .none },
  { cls := 6, slots := #[.null, .int 1, .int 0], vm := .none }]
def classes : Array Class := #[k0, k1, k2, k3, k4, k5, k6, k7, k8, k9, k10, k11, k12, k13, k14, k15, k16, k17, k18, k19, k20, k21, k22]
def interned : List (Array UInt16 × Addr) := []
def slotsUsed : Nat := 39
def theMethod : MethodId := ⟨1, 3⟩
def args0 : Array Value := #[.int 5, .int 6, .int 7, .int 8]
def aboutOver (below : List Frame) : State where
  vm := { classes := classes, interned := interned.toArray }
  heap := heap
  slotsUsed := slotsUsed
  threads := #[{ frames := .invoking theMethod args0 :: below }]
def below0 : List Frame := [.native { method := ⟨0, 0⟩, args := #[] }]
def about1 : State := aboutOver below0
def p0 : Program := .bare "" "" ""
def e0 : Env := launch0.env 0 0 0
theorem w_frames : about1.frames = Frame.invoking theMethod args0 :: below0 := rfl
set_option maxRecDepth 65536 in
theorem w_args : argsFit about1.vm theMethod args0 = true := by decide +kernel
set_option maxRecDepth 65536 in
theorem w_heap : heapFits about1 = true := by decide +kernel
set_option maxRecDepth 65536 in
theorem w_runnable : about1.curStatus? = some .runnable := by decide +kernel
set_option maxRecDepth 65536 in
theorem w_alone : about1.alone = true := by decide +kernel
set_option maxRecDepth 65536 in
theorem w_named : about1.methodNamed? x = some theMethod := by decide +kernel
set_option maxRecDepth 65536 in
theorem w_hears : about1.hears theMethod below0 = true := by decide +kernel
set_option maxRecDepth 65536 in
theorem w_ripe : about1.ripe theMethod args0 below0 = true := by decide +kernel
theorem w_running : about1.status = .running := rfl
set_option maxRecDepth 65536 in
theorem w_room : about1.hasRoom e0.platform room_1 = true :=
  launch0.hasRoom_least _ room_1 (by decide +kernel) (by decide +kernel) (by decide +kernel) (by decide +kernel) (by decide +kernel) (by decide +kernel)
theorem allAtoms_all (ts : List Jvm.Cond) (a : Array Jvm.Value) (st : Jvm.State) : (allAtoms ts).before a st = ts.all (fun c => c.before a st) := by
  induction ts with
  | nil => rfl
  | cons c t ih =>
    show (Jvm.Cond.and c (allAtoms t)).before a st = _
    rw [Jvm.Cond.before_and, ih, List.all_cons]
def words1 : List Jvm.Cond := Jvm.Cond.code x code maxLocals ret :: tables_1
/-- a 'code' word, met by the world's own term for the bytes: nothing is compared byte by byte -/
theorem code_word {y : MethodName} {bytes : ByteArray} {mx : Nat} {rt : Option FieldType} {a : Array Value} {s : State} {m : MethodId} {meth : Method} {c : Code} (h1 : s.methodNamed? y = some m) (h2 : s.vm.method? m = some meth) (h3 : meth.code = some c) (h4 : c.code = bytes)
    (h5 : (c.maxLocals == mx && c.exceptionTable.isEmpty && decide (c.maxStack ≤ mostOperands) && decide (meth.sig.returnType = rt) && !meth.locks && decide (parseMethodDescriptor y.desc = some meth.sig)) = true) : (Jvm.Cond.code y bytes mx rt).before a s = true := by
  simp only [Bool.and_eq_true, beq_iff_eq, Bool.not_eq_true', decide_eq_true_eq] at h5
  obtain ⟨⟨⟨⟨⟨g1, g2⟩, g3⟩, g4⟩, g5⟩, g6⟩ := h5
  simp [Cond.before, Cond.holds, Cond.value, h1, h2, h3, h4, g1, g2, g3, g4, g5, g6]
def isCode : Jvm.Cond → Bool
  | .code _ _ _ _ => true
  | _ => false
theorem all_split {L : List Jvm.Cond} {P : Jvm.Cond → Bool} (h1 : L.all (fun c => isCode c || P c) = true) (h2 : ∀ c ∈ L.filter isCode, P c = true) : L.all P = true := by
  refine List.all_eq_true.mpr fun c hc => ?_
  have h := List.all_eq_true.mp h1 c hc
  rcases Bool.eq_false_or_eq_true (isCode c) with hi | hi
  · exact h2 c (List.mem_filter.mpr ⟨hc, hi⟩)
  · simpa [hi] using h
set_option maxRecDepth 65536 in
theorem w_c0 : (Jvm.Cond.code x code maxLocals ret).before args0 about1 = true := code_word (m := ⟨1, 3⟩) (meth := k1m3) (c := k1c3) (by decide +kernel) rfl rfl rfl (by decide +kernel)
set_option maxRecDepth 65536 in
theorem w_c1 : (Jvm.Cond.code ({ cls := "com/example/ripieno/ripieno/engine/VerdictTimedOutPinLaw", name := "kindOf", desc := "(I)Lcom/example/ripieno/ripieno/engine/Review$Verdict$Kind;" } : Jvm.MethodName) method_2_code (1 : Nat) (Option.some (Jvm.ClassFile.FieldType.object "com/example/ripieno/ripieno/engine/Review$Verdict$Kind"))).before args0 about1 = true := code_word (m := ⟨1, 1⟩) (meth := k1m1) (c := k1c1) (by decide +kernel) rfl rfl rfl (by decide +kernel)
set_option maxRecDepth 65536 in
theorem w_c2 : (Jvm.Cond.code ({ cls := "java/lang/String", name := "<init>", desc := "([C)V" } : Jvm.MethodName) jdk_42_method_3_code (2 : Nat) (Option.none : Option Jvm.ClassFile.FieldType)).before args0 about1 = true := code_word (m := ⟨9, 1⟩) (meth := k9m1) (c := k9c1) (by decide +kernel) rfl rfl rfl (by decide +kernel)
set_option maxRecDepth 65536 in
theorem w_c3 : (Jvm.Cond.code ({ cls := "java/lang/String", name := "<init>", desc := "([CIILjava/lang/Void;)V" } : Jvm.MethodName) jdk_42_method_149_code (6 : Nat) (Option.none : Option Jvm.ClassFile.FieldType)).before args0 about1 = true := code_word (m := ⟨9, 4⟩) (meth := k9m4) (c := k9c4) (by decide +kernel) rfl rfl rfl (by decide +kernel)
set_option maxRecDepth 65536 in
theorem w_c4 : (Jvm.Cond.code ({ cls := "java/lang/Object", name := "<init>", desc := "()V" } : Jvm.MethodName) object_method_1_code (1 : Nat) (Option.none : Option Jvm.ClassFile.FieldType)).before args0 about1 = true := code_word (m := ⟨0, 0⟩) (meth := k0m0) (c := k0c0) (by decide +kernel) rfl rfl rfl (by decide +kernel)
set_option maxRecDepth 65536 in
theorem w_c5 : (Jvm.Cond.code ({ cls := "java/lang/StringUTF16", name := "compress", desc := "([CII)[B" } : Jvm.MethodName) jdk_52_method_16_code (6 : Nat) (Option.some (Jvm.ClassFile.FieldType.array Jvm.ClassFile.FieldType.byte))).before args0 about1 = true := code_word (m := ⟨10, 2⟩) (meth := k10m2) (c := k10c2) (by decide +kernel) rfl rfl rfl (by decide +kernel)
set_option maxRecDepth 65536 in
theorem w_c6 : (Jvm.Cond.code ({ cls := "java/lang/StringUTF16", name := "compress", desc := "([CI[BII)I" } : Jvm.MethodName) jdk_52_method_21_code (7 : Nat) (Option.some Jvm.ClassFile.FieldType.int)).before args0 about1 = true := code_word (m := ⟨10, 3⟩) (meth := k10m3) (c := k10c3) (by decide +kernel) rfl rfl rfl (by decide +kernel)
set_option maxRecDepth 65536 in
theorem w_c7 : (Jvm.Cond.code ({ cls := "java/lang/StringUTF16", name := "coderFromArrayLen", desc := "([BI)B" } : Jvm.MethodName) jdk_52_method_15_code (2 : Nat) (Option.some Jvm.ClassFile.FieldType.byte)).before args0 about1 = true := code_word (m := ⟨10, 1⟩) (meth := k10m1) (c := k10c1) (by decide +kernel) rfl rfl rfl (by decide +kernel)
set_option maxRecDepth 65536 in
theorem w_c8 : (Jvm.Cond.code ({ cls := "com/example/ripieno/ripieno/engine/Review$Verdict", name := "timedOut", desc := "(Lcom/example/ripieno/ripieno/engine/Review$Verdict$Kind;Ljava/lang/String;)Lcom/example/ripieno/ripieno/engine/Review$Verdict;" } : Jvm.MethodName) prog_50_method_3_code (2 : Nat) (Option.some (Jvm.ClassFile.FieldType.object "com/example/ripieno/ripieno/engine/Review$Verdict"))).before args0 about1 = true := code_word (m := ⟨11, 1⟩) (meth := k11m1) (c := k11c1) (by decide +kernel) rfl rfl rfl (by decide +kernel)
set_option maxRecDepth 65536 in
theorem w_c9 : (Jvm.Cond.code ({ cls := "com/example/ripieno/ripieno/engine/Review$Verdict", name := "<init>", desc := "(Lcom/example/ripieno/ripieno/engine/Review$Verdict$Kind;Lcom/example/ripieno/ripieno/engine/ReviewDecision;ZLjava/lang/String;Ljava/lang/Throwable;)V" } : Jvm.MethodName) prog_50_method_2_code (6 : Nat) (Option.none : Option Jvm.ClassFile.FieldType)).before args0 about1 = true := code_word (m := ⟨11, 0⟩) (meth := k11m0) (c := k11c0) (by decide +kernel) rfl rfl rfl (by decide +kernel)
set_option maxRecDepth 65536 in
theorem w_c10 : (Jvm.Cond.code ({ cls := "com/example/ripieno/ripieno/engine/Review$Verdict", name := "kind", desc := "()Lcom/example/ripieno/ripieno/engine/Review$Verdict$Kind;" } : Jvm.MethodName) prog_50_method_6_code (1 : Nat) (Option.some (Jvm.ClassFile.FieldType.object "com/example/ripieno/ripieno/engine/Review$Verdict$Kind"))).before args0 about1 = true := code_word (m := ⟨11, 2⟩) (meth := k11m2) (c := k11c2) (by decide +kernel) rfl rfl rfl (by decide +kernel)
set_option maxRecDepth 65536 in
theorem w_c11 : (Jvm.Cond.code ({ cls := "com/example/ripieno/ripieno/engine/Review$Verdict", name := "timedOut", desc := "()Z" } : Jvm.MethodName) prog_50_method_10_code (1 : Nat) (Option.some Jvm.ClassFile.FieldType.boolean)).before args0 about1 = true := code_word (m := ⟨11, 6⟩) (meth := k11m6) (c := k11c6) (by decide +kernel) rfl rfl rfl (by decide +kernel)
set_option maxRecDepth 65536 in
theorem w_c12 : (Jvm.Cond.code ({ cls := "com/example/ripieno/ripieno/engine/Review$Verdict", name := "decision", desc := "()Lcom/example/ripieno/ripieno/engine/ReviewDecision;" } : Jvm.MethodName) prog_50_method_9_code (1 : Nat) (Option.some (Jvm.ClassFile.FieldType.object "com/example/ripieno/ripieno/engine/ReviewDecision"))).before args0 about1 = true := code_word (m := ⟨11, 5⟩) (meth := k11m5) (c := k11c5) (by decide +kernel) rfl rfl rfl (by decide +kernel)
set_option maxRecDepth 65536 in
theorem w_c13 : (Jvm.Cond.code ({ cls := "com/example/ripieno/ripieno/engine/Review$Verdict", name := "cause", desc := "()Ljava/lang/Throwable;" } : Jvm.MethodName) prog_50_method_12_code (1 : Nat) (Option.some (Jvm.ClassFile.FieldType.object "java/lang/Throwable"))).before args0 about1 = true := code_word (m := ⟨11, 8⟩) (meth := k11m8) (c := k11c8) (by decide +kernel) rfl rfl rfl (by decide +kernel)
set_option maxRecDepth 65536 in
theorem w_c14 : (Jvm.Cond.code ({ cls := "com/example/ripieno/ripieno/engine/Review$Verdict", name := "failure", desc := "()Ljava/lang/String;" } : Jvm.MethodName) prog_50_method_11_code (1 : Nat) (Option.some (Jvm.ClassFile.FieldType.object "java/lang/String"))).before args0 about1 = true := code_word (m := ⟨11, 7⟩) (meth := k11m7) (c := k11c7) (by decide +kernel) rfl rfl rfl (by decide +kernel)
set_option maxRecDepth 65536 in
theorem w_c15 : (Jvm.Cond.code ({ cls := "com/example/ripieno/ripieno/engine/VerdictTimedOutPinLaw", name := "sameText", desc := "(Ljava/lang/String;Ljava/lang/String;)Z" } : Jvm.MethodName) method_3_code (2 : Nat) (Option.some Jvm.ClassFile.FieldType.boolean)).before args0 about1 = true := code_word (m := ⟨1, 2⟩) (meth := k1m2) (c := k1c2) (by decide +kernel) rfl rfl rfl (by decide +kernel)
set_option maxRecDepth 65536 in
theorem w_c16 : (Jvm.Cond.code ({ cls := "java/lang/String", name := "equals", desc := "(Ljava/lang/Object;)Z" } : Jvm.MethodName) jdk_42_method_66_code (3 : Nat) (Option.some Jvm.ClassFile.FieldType.boolean)).before args0 about1 = true := code_word (m := ⟨9, 2⟩) (meth := k9m2) (c := k9c2) (by decide +kernel) rfl rfl rfl (by decide +kernel)
set_option maxRecDepth 65536 in
theorem w_c17 : (Jvm.Cond.code ({ cls := "com/example/ripieno/ripieno/engine/Review$Verdict", name := "reason", desc := "()Lcom/example/ripieno/ripieno/engine/ExitReason;" } : Jvm.MethodName) prog_50_method_8_code (1 : Nat) (Option.some (Jvm.ClassFile.FieldType.object "com/example/ripieno/ripieno/engine/ExitReason"))).before args0 about1 = true := code_word (m := ⟨11, 4⟩) (meth := k11m4) (c := k11c4) (by decide +kernel) rfl rfl rfl (by decide +kernel)
set_option maxRecDepth 65536 in
theorem w_c18 : (Jvm.Cond.code ({ cls := "java/lang/String", name := "valueOf", desc := "(C)Ljava/lang/String;" } : Jvm.MethodName) jdk_42_method_139_code (1 : Nat) (Option.some (Jvm.ClassFile.FieldType.object "java/lang/String"))).before args0 about1 = true := code_word (m := ⟨9, 3⟩) (meth := k9m3) (c := k9c3) (by decide +kernel) rfl rfl rfl (by decide +kernel)
set_option maxRecDepth 65536 in
theorem w_c19 : (Jvm.Cond.code ({ cls := "java/lang/StringLatin1", name := "canEncode", desc := "(C)Z" } : Jvm.MethodName) jdk_43_method_3_code (1 : Nat) (Option.some Jvm.ClassFile.FieldType.boolean)).before args0 about1 = true := code_word (m := ⟨13, 1⟩) (meth := k13m1) (c := k13c1) (by decide +kernel) rfl rfl rfl (by decide +kernel)
set_option maxRecDepth 65536 in
theorem w_c20 : (Jvm.Cond.code ({ cls := "java/lang/StringLatin1", name := "toBytes", desc := "(C)[B" } : Jvm.MethodName) jdk_43_method_46_code (1 : Nat) (Option.some (Jvm.ClassFile.FieldType.array Jvm.ClassFile.FieldType.byte))).before args0 about1 = true := code_word (m := ⟨13, 2⟩) (meth := k13m2) (c := k13c2) (by decide +kernel) rfl rfl rfl (by decide +kernel)
set_option maxRecDepth 65536 in
theorem w_c21 : (Jvm.Cond.code ({ cls := "java/lang/String", name := "<init>", desc := "([BB)V" } : Jvm.MethodName) jdk_42_method_151_code (3 : Nat) (Option.none : Option Jvm.ClassFile.FieldType)).before args0 about1 = true := code_word (m := ⟨9, 5⟩) (meth := k9m5) (c := k9c5) (by decide +kernel) rfl rfl rfl (by decide +kernel)
set_option maxRecDepth 65536 in
theorem w_c22 : (Jvm.Cond.code ({ cls := "com/example/ripieno/ripieno/engine/Review$Verdict", name := "text", desc := "()Ljava/lang/String;" } : Jvm.MethodName) prog_50_method_7_code (1 : Nat) (Option.some (Jvm.ClassFile.FieldType.object "java/lang/String"))).before args0 about1 = true := code_word (m := ⟨11, 3⟩) (meth := k11m3) (c := k11c3) (by decide +kernel) rfl rfl rfl (by decide +kernel)
def codes1 : List Jvm.Cond := [Jvm.Cond.code x code maxLocals ret, Jvm.Cond.code ({ cls := "com/example/ripieno/ripieno/engine/VerdictTimedOutPinLaw", name := "kindOf", desc := "(I)Lcom/example/ripieno/ripieno/engine/Review$Verdict$Kind;" } : Jvm.MethodName) method_2_code (1 : Nat) (Option.some (Jvm.ClassFile.FieldType.object "com/example/ripieno/ripieno/engine/Review$Verdict$Kind")), Jvm.Cond.code ({ cls := "java/lang/String", name := "<init>", desc := "([C)V" } : Jvm.MethodName) jdk_42_method_3_code (2 : Nat) (Option.none : Option Jvm.ClassFile.FieldType), Jvm.Cond.code ({ cls := "java/lang/String", name := "<init>", desc := "([CIILjava/lang/Void;)V" } : Jvm.MethodName) jdk_42_method_149_code (6 : Nat) (Option.none : Option Jvm.ClassFile.FieldType), Jvm.Cond.code ({ cls := "java/lang/Object", name := "<init>", desc := "()V" } : Jvm.MethodName) object_method_1_code (1 : Nat) (Option.none : Option Jvm.ClassFile.FieldType), Jvm.Cond.code ({ cls := "java/lang/StringUTF16", name := "compress", desc := "([CII)[B" } : Jvm.MethodName) jdk_52_method_16_code (6 : Nat) (Option.some (Jvm.ClassFile.FieldType.array Jvm.ClassFile.FieldType.byte)), Jvm.Cond.code ({ cls := "java/lang/StringUTF16", name := "compress", desc := "([CI[BII)I" } : Jvm.MethodName) jdk_52_method_21_code (7 : Nat) (Option.some Jvm.ClassFile.FieldType.int), Jvm.Cond.code ({ cls := "java/lang/StringUTF16", name := "coderFromArrayLen", desc := "([BI)B" } : Jvm.MethodName) jdk_52_method_15_code (2 : Nat) (Option.some Jvm.ClassFile.FieldType.byte), Jvm.Cond.code ({ cls := "com/example/ripieno/ripieno/engine/Review$Verdict", name := "timedOut", desc := "(Lcom/example/ripieno/ripieno/engine/Review$Verdict$Kind;Ljava/lang/String;)Lcom/example/ripieno/ripieno/engine/Review$Verdict;" } : Jvm.MethodName) prog_50_method_3_code (2 : Nat) (Option.some (Jvm.ClassFile.FieldType.object "com/example/ripieno/ripieno/engine/Review$Verdict")), Jvm.Cond.code ({ cls := "com/example/ripieno/ripieno/engine/Review$Verdict", name := "<init>", desc := "(Lcom/example/ripieno/ripieno/engine/Review$Verdict$Kind;Lcom/example/ripieno/ripieno/engine/ReviewDecision;ZLjava/lang/String;Ljava/lang/Throwable;)V" } : Jvm.MethodName) prog_50_method_2_code (6 : Nat) (Option.none : Option Jvm.ClassFile.FieldType), Jvm.Cond.code ({ cls := "com/example/ripieno/ripieno/engine/Review$Verdict", name := "kind", desc := "()Lcom/example/ripieno/ripieno/engine/Review$Verdict$Kind;" } : Jvm.MethodName) prog_50_method_6_code (1 : Nat) (Option.some (Jvm.ClassFile.FieldType.object "com/example/ripieno/ripieno/engine/Review$Verdict$Kind")), Jvm.Cond.code ({ cls := "com/example/ripieno/ripieno/engine/Review$Verdict", name := "timedOut", desc := "()Z" } : Jvm.MethodName) prog_50_method_10_code (1 : Nat) (Option.some Jvm.ClassFile.FieldType.boolean), Jvm.Cond.code ({ cls := "com/example/ripieno/ripieno/engine/Review$Verdict", name := "decision", desc := "()Lcom/example/ripieno/ripieno/engine/ReviewDecision;" } : Jvm.MethodName) prog_50_method_9_code (1 : Nat) (Option.some (Jvm.ClassFile.FieldType.object "com/example/ripieno/ripieno/engine/ReviewDecision")), Jvm.Cond.code ({ cls := "com/example/ripieno/ripieno/engine/Review$Verdict", name := "cause", desc := "()Ljava/lang/Throwable;" } : Jvm.MethodName) prog_50_method_12_code (1 : Nat) (Option.some (Jvm.ClassFile.FieldType.object "java/lang/Throwable")), Jvm.Cond.code ({ cls := "com/example/ripieno/ripieno/engine/Review$Verdict", name := "failure", desc := "()Ljava/lang/String;" } : Jvm.MethodName) prog_50_method_11_code (1 : Nat) (Option.some (Jvm.ClassFile.FieldType.object "java/lang/String")), Jvm.Cond.code ({ cls := "com/example/ripieno/ripieno/engine/VerdictTimedOutPinLaw", name := "sameText", desc := "(Ljava/lang/String;Ljava/lang/String;)Z" } : Jvm.MethodName) method_3_code (2 : Nat) (Option.some Jvm.ClassFile.FieldType.boolean), Jvm.Cond.code ({ cls := "java/lang/String", name := "equals", desc := "(Ljava/lang/Object;)Z" } : Jvm.MethodName) jdk_42_method_66_code (3 : Nat) (Option.some Jvm.ClassFile.FieldType.boolean), Jvm.Cond.code ({ cls := "com/example/ripieno/ripieno/engine/Review$Verdict", name := "reason", desc := "()Lcom/example/ripieno/ripieno/engine/ExitReason;" } : Jvm.MethodName) prog_50_method_8_code (1 : Nat) (Option.some (Jvm.ClassFile.FieldType.object "com/example/ripieno/ripieno/engine/ExitReason")), Jvm.Cond.code ({ cls := "java/lang/String", name := "valueOf", desc := "(C)Ljava/lang/String;" } : Jvm.MethodName) jdk_42_method_139_code (1 : Nat) (Option.some (Jvm.ClassFile.FieldType.object "java/lang/String")), Jvm.Cond.code ({ cls := "java/lang/StringLatin1", name := "canEncode", desc := "(C)Z" } : Jvm.MethodName) jdk_43_method_3_code (1 : Nat) (Option.some Jvm.ClassFile.FieldType.boolean), Jvm.Cond.code ({ cls := "java/lang/StringLatin1", name := "toBytes", desc := "(C)[B" } : Jvm.MethodName) jdk_43_method_46_code (1 : Nat) (Option.some (Jvm.ClassFile.FieldType.array Jvm.ClassFile.FieldType.byte)), Jvm.Cond.code ({ cls := "java/lang/String", name := "<init>", desc := "([BB)V" } : Jvm.MethodName) jdk_42_method_151_code (3 : Nat) (Option.none : Option Jvm.ClassFile.FieldType), Jvm.Cond.code ({ cls := "com/example/ripieno/ripieno/engine/Review$Verdict", name := "text", desc := "()Ljava/lang/String;" } : Jvm.MethodName) prog_50_method_7_code (1 : Nat) (Option.some (Jvm.ClassFile.FieldType.object "java/lang/String"))]
set_option maxRecDepth 65536 in
theorem codes_eq : words1.filter isCode = codes1 := rfl
theorem w_codes : ∀ c ∈ words1.filter isCode, c.before args0 about1 = true := by
  rw [codes_eq]
  intro c hc
  simp only [codes1, List.mem_cons, List.not_mem_nil, or_false] at hc
  rcases hc with rfl | rfl | rfl | rfl | rfl | rfl | rfl | rfl | rfl | rfl | rfl | rfl | rfl | rfl | rfl | rfl | rfl | rfl | rfl | rfl | rfl | rfl | rfl
  · exact w_c0
  · exact w_c1
  · exact w_c2
  · exact w_c3
  · exact w_c4
  · exact w_c5
  · exact w_c6
  · exact w_c7
  · exact w_c8
  · exact w_c9
  · exact w_c10
  · exact w_c11
  · exact w_c12
  · exact w_c13
  · exact w_c14
  · exact w_c15
  · exact w_c16
  · exact w_c17
  · exact w_c18
  · exact w_c19
  · exact w_c20
  · exact w_c21
  · exact w_c22
set_option maxRecDepth 65536 in
theorem w_t1 : (words1.take 24).all (fun c => isCode c || c.before args0 about1) = true := by decide +kernel
set_option maxRecDepth 65536 in
theorem w_t2 : ((words1.drop 24).take 24).all (fun c => isCode c || c.before args0 about1) = true := by decide +kernel
set_option maxRecDepth 65536 in
theorem w_t3 : (((words1.drop 24).drop 24).take 24).all (fun c => isCode c || c.before args0 about1) = true := by decide +kernel
set_option maxRecDepth 65536 in
theorem w_t4 : ((((words1.drop 24).drop 24).drop 24).take 24).all (fun c => isCode c || c.before args0 about1) = true := by decide +kernel
set_option maxRecDepth 65536 in
theorem w_t5 : (((((words1.drop 24).drop 24).drop 24).drop 24).take 24).all (fun c => isCode c || c.before args0 about1) = true := by decide +kernel
set_option maxRecDepth 65536 in
theorem w_t6 : (((((words1.drop 24).drop 24).drop 24).drop 24).drop 24).all (fun c => isCode c || c.before args0 about1) = true := by decide +kernel
theorem w_tables : (allAtoms (Jvm.Cond.code x code maxLocals ret :: tables_1)).before args0 about1 = true := by
  rw [allAtoms_all]
  show words1.all (fun c => c.before args0 about1) = true
  refine all_split ?_ w_codes
  rw [← List.take_append_drop 24 words1, List.all_append, w_t1, ← List.take_append_drop 24 (words1.drop 24), List.all_append, w_t2, ← List.take_append_drop 24 ((words1.drop 24).drop 24), List.all_append, w_t3, ← List.take_append_drop 24 (((words1.drop 24).drop 24).drop 24), List.all_append, w_t4, ← List.take_append_drop 24 ((((words1.drop 24).drop 24).drop 24).drop 24), List.all_append, w_t5, w_t6]
  rfl
set_option maxRecDepth 65536 in
theorem w_rest : rest_1_c.before args0 about1 = true := by decide +kernel
set_option maxRecDepth 65536 in
theorem w_case : (Jvm.Cond.and given_1 narrow_1).before args0 about1 = true := by decide +kernel
set_option maxRecDepth 65536 in
theorem w_consts : constsHeld consts_1 about1 := Jvm.Lit.constsHeldB_iff.mp (by decide +kernel)
theorem w_applies : (headSpec (Jvm.Cond.code x code maxLocals ret :: tables_1) room_1).applies x e0.platform about1 = true :=
  (Spec.applies_iff w_frames).mpr ⟨w_running, w_runnable, w_alone, w_named, w_hears, w_ripe, w_room, w_tables⟩
theorem atStart : AtStart classFile x code maxLocals ret World_1 tables_1 room_1 Calls_1 rest_1 Pre_1 launch0 p0 e0 about1 theMethod args0 below0 :=
  ⟨lists_1, trivial, launch0.admits_env _ _ _, launch0.least_env, fairChoices_fair.cas, fairChoices_fair.clock, w_frames, w_args, w_heap, w_applies, ⟨w_consts, trivial⟩, w_rest, w_case⟩
end start1
theorem witness_1 : WitnessClaimed_1 := ⟨start1.p0, start1.e0, start1.about1, start1.theMethod, start1.args0, start1.below0, start1.atStart⟩
end Jvm.Pilot.@@N@@
