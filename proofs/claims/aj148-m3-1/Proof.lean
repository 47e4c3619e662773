import JvmDerived
import JvmDerived.Pilot.@@N@@Statement
import JvmDerived.Pilot.@@N@@Code
set_option linter.unusedVariables false
set_option linter.unusedSimpArgs false
namespace Jvm.Pilot.@@N@@
open Jvm Jvm.ClassFile Sem Op Lib Jvm.Free Jvm.Stand Jvm.LawKit Jvm.RoadKit Bundle Jvm.Pilot.@@N@@.Jvm.D
section Kit
variable {p : Program} {l : Launch} {e : Env} {R : Room} {s : State} {m : MethodId} {args : Array Value} {below : List Frame} {meth : Method} {c : Code} {T : State} {locs : List Loc} {cells slots : Nat} {Z : State} {a0 : Array Value} {h : Heap} {own nm : String} {bytes : ByteArray} {maxL : Nat} {rt : Option FieldType} {Q : Option Value → Heap → Prop} {ce sl : Nat} {En : Option Value → State → Prop} {pc : Nat} {Ls : Array Slot} {st : List Value}
/-- where a walk stands: the state T, its heap h; all that lay in the heap at the start Z is there unchanged, and all that was written is new -/
def Cx (p : Program) (l : Launch) (e : Env) (R : Room) (s : State) (m : MethodId) (args : Array Value) (below : List Frame) (meth : Method) (c : Code) (Z : State) (own nm : String) (bytes : ByteArray) (maxL : Nat) (rt : Option FieldType) (T : State) (locs : List Loc) (cells slots : Nat) (h : Heap) : Prop :=
  Stand p l e R s m args below meth c T locs cells slots ∧ p.tables.exec = Jvm.exec ∧ Z.Warmed39 s.vm ∧ s.vm.findClass own = some m.cls ∧ c.code = bytes ∧ c.maxLocals = maxL ∧ meth.sig.returnType = rt ∧ meth.name = nm ∧ meth.locks = false ∧ T.heap = h ∧ Fr Z.heap.size locs ∧ Ext Z.heap h
/-- from this frame the body comes to its end, and En holds of what it returns and of the state there -/
def Go (p : Program) (e : Env) (below : List Frame) (En : Option Value → State → Prop) (T : State) (m : MethodId) (pc : Nat) (Ls : Array Slot) (st : List Value) : Prop :=
  ∃ s₂ v, Steps p.tables e below (T.setTop (mkF m pc Ls st)) s₂ ∧ s₂.status = .running ∧ Ended s₂ below (.returned v) ∧ En v s₂
/-- a return of v from here: where it leads, and that En holds there -/
def Lv (e : Env) (below : List Frame) (En : Option Value → State → Prop) (T : State) (m : MethodId) (v : Option Value) : Prop :=
  ∃ fs, (∀ (f : JFrame) (acts : List Action), f.method = m → f.locked = none → f.entered = [] → (doReturn e (T.setTop f) acts v).1 = T.setFrames fs) ∧ (T.setFrames fs).status = .running ∧ Ended (T.setFrames fs) below (.returned v) ∧ En v (T.setFrames fs)
/-- the end of a body that interns nothing -/
def FinN (s Z : State) (Q : Option Value → Heap → Prop) (ce sl : Nat) : Option Value → State → Prop := fun v t => ∃ L, (Fr Z.heap.size L ∧ Ext Z.heap t.heap ∧ Q v t.heap) ∧ FrameEnd s (.returned v) t L ce sl
/-- the contract of a method called with the arguments as' over the heap h -/
def Ct (l : Launch) (Z : State) (ws : List Jvm.Cond) (y : MethodName) (bytes : ByteArray) (maxL : Nat) (rt : Option FieldType) (rm : Room) (as' : Array Value) (h : Heap) (Q : Option Value → Heap → Prop) : Prop :=
  Ext Z.heap h → MetFree l y (head1 (Jvm.Cond.code y bytes maxL rt :: ws) rm) (fun a U => a = as' ∧ Z.Warmed39 U.vm ∧ U.heap = h) (fun _ _ _ _ _ => True) (fun _ U o U' => ∃ v L, o = .returned v ∧ (Fr Z.heap.size L ∧ Ext Z.heap U'.heap ∧ Q v U'.heap) ∧ FrameEnd U o U' L rm.cells rm.slots)
/-- it returns v and leaves the heap as it was -/
def Pu (h : Heap) (v : Value) : Option Value → Heap → Prop := fun w h' => w = some v ∧ h' = h
theorem Ext.rf (h : Heap) : Ext h h := ⟨Nat.le_refl _, fun _ _ q => q⟩
theorem Ext.tr {h1 h2 h3 : Heap} (E : Ext h1 h2) (F : Ext h2 h3) : Ext h1 h3 := ⟨Nat.le_trans E.1 F.1, fun a c q => F.2 a c (E.2 a c q)⟩
theorem Ext.kp {h1 h2 h3 : Heap} {ws : List Addr} (E : Ext h1 h2) (K : Keep h2 h3 ws) (q : ∀ x ∈ ws, h1.size ≤ x) : Ext h1 h3 := ⟨Nat.le_trans E.1 K.1, fun a c r => K.2.1 a c (E.2 a c r) fun z => absurd (Array.getElem?_eq_some_iff.mp r).1 (Nat.not_lt.mpr (q a z))⟩
theorem Ext.wr {h1 h2 h3 : Heap} {a : Addr} {k : Nat} {v : Value} (E : Ext h1 h2) (W : Wr h2 h3 a k v) (q : h1.size ≤ a) : Ext h1 h3 := Ext.kp E (Keep.of_wr W) (allS q all0)
theorem Ext.keep {h1 h2 : Heap} (E : Ext h1 h2) (ws : List Addr) : Keep h1 h2 ws := (Keep.refl _ _).ext E
theorem Cx.sd (X : Cx p l e R s m args below meth c Z own nm bytes maxL rt T locs cells slots h) : Stand p l e R s m args below meth c T locs cells slots := X.1
theorem Cx.here (X : Cx p l e R s m args below meth c Z own nm bytes maxL rt T locs cells slots h) : At T m c below := X.1.here
theorem Cx.hx (X : Cx p l e R s m args below meth c Z own nm bytes maxL rt T locs cells slots h) : p.tables.exec = Jvm.exec := X.2.1
theorem Cx.hZ (X : Cx p l e R s m args below meth c Z own nm bytes maxL rt T locs cells slots h) : Z.Warmed39 s.vm := X.2.2.1
theorem Cx.hown (X : Cx p l e R s m args below meth c Z own nm bytes maxL rt T locs cells slots h) : s.vm.findClass own = some m.cls := X.2.2.2.1
theorem Cx.hby (X : Cx p l e R s m args below meth c Z own nm bytes maxL rt T locs cells slots h) : c.code = bytes := X.2.2.2.2.1
theorem Cx.hml (X : Cx p l e R s m args below meth c Z own nm bytes maxL rt T locs cells slots h) : c.maxLocals = maxL := X.2.2.2.2.2.1
theorem Cx.hrt (X : Cx p l e R s m args below meth c Z own nm bytes maxL rt T locs cells slots h) : meth.sig.returnType = rt := X.2.2.2.2.2.2.1
theorem Cx.hnm (X : Cx p l e R s m args below meth c Z own nm bytes maxL rt T locs cells slots h) : meth.name = nm := X.2.2.2.2.2.2.2.1
theorem Cx.hlk (X : Cx p l e R s m args below meth c Z own nm bytes maxL rt T locs cells slots h) : meth.locks = false := X.2.2.2.2.2.2.2.2.1
theorem Cx.eq (X : Cx p l e R s m args below meth c Z own nm bytes maxL rt T locs cells slots h) : T.heap = h := X.2.2.2.2.2.2.2.2.2.1
theorem Cx.fr (X : Cx p l e R s m args below meth c Z own nm bytes maxL rt T locs cells slots h) : Fr Z.heap.size locs := X.2.2.2.2.2.2.2.2.2.2.1
theorem Cx.old (X : Cx p l e R s m args below meth c Z own nm bytes maxL rt T locs cells slots h) : Ext Z.heap h := X.2.2.2.2.2.2.2.2.2.2.2
theorem Cx.le (X : Cx p l e R s m args below meth c Z own nm bytes maxL rt T locs cells slots h) : Z.heap.size ≤ h.size := X.old.1
theorem Cx.mk' {T' : State} {locs' : List Loc} {cells' slots' : Nat} {h' : Heap} (X : Cx p l e R s m args below meth c Z own nm bytes maxL rt T locs cells slots h) (Y : Stand p l e R s m args below meth c T' locs' cells' slots') (q : T'.heap = h') (f : Fr Z.heap.size locs') (o : Ext Z.heap h') : Cx p l e R s m args below meth c Z own nm bytes maxL rt T' locs' cells' slots' h' := ⟨Y, X.hx, X.hZ, X.hown, X.hby, X.hml, X.hrt, X.hnm, X.hlk, q, f, o⟩
theorem Go.step {T' : State} {pc' : Nat} {Ls' : Array Slot} {st' : List Value} (f : ∀ t, Steps p.tables e below (T'.setTop (mkF m pc' Ls' st')) t → Steps p.tables e below (T.setTop (mkF m pc Ls st)) t) (k : Go p e below En T' m pc' Ls' st') : Go p e below En T m pc Ls st := by
  obtain ⟨s₂, v, k1, k2⟩ := k
  exact ⟨s₂, v, f _ k1, k2⟩
theorem Ct.ofF {y : MethodName} {ws : List Jvm.Cond} {rm : Room} {as' : Array Value} {Ls0 : Array Slot} (pn : plainFor y = true) (ef : ∀ m, entryFrame m as' maxL = mkF m 0 Ls0 [])
    (body : ∀ p e s m below meth c s₁, Cx p l e rm s m as' below meth c Z y.cls y.name bytes maxL rt s₁ [] 0 0 h → Go p e below (FinN s Z Q rm.cells rm.slots) s₁ m 0 Ls0 []) : Ct l Z ws y bytes maxL rt rm as' h Q := by
  intro hE
  refine MetFree.of_bodySF pn hisR ?_
  intro p e s m args below meth c s₁ Bd hml0 hP hK
  obtain ⟨rfl, hZ, hh⟩ := hP
  have hown : s.vm.findClass y.cls = some m.cls := findClass_of_methodNamed Bd.named
  have hnm := (name_of_methodNamed Bd.named Bd.method).1
  have X0 : Stand p l e rm s m args below meth c s₁ [] 0 0 := Stand.of_body Bd
  have e0 : s₁.heap = h := by rw [← hh, Bd.state]; rfl
  obtain ⟨s₂, v, k1, k2, k3, L, k5, k6⟩ := body p e s m below meth c s₁ ⟨X0, Bd.exec, hZ, hown, Bd.bytes, hml0, Bd.returns, hnm, Bd.notSynchronized, e0, Fr.nil _, hE⟩
  exact ⟨s₂, _, castTop (ef m) k1, k2, k3, v, L, rfl, k5, k6⟩
theorem Ct.of {y : MethodName} {ws : List Jvm.Cond} {rm : Room} {as' : Array Value} {Ls0 : Array Slot} (pn : plainName y.cls = true) (ef : ∀ m, entryFrame m as' maxL = mkF m 0 Ls0 [])
    (body : ∀ p e s m below meth c s₁, Cx p l e rm s m as' below meth c Z y.cls y.name bytes maxL rt s₁ [] 0 0 h → Go p e below (FinN s Z Q rm.cells rm.slots) s₁ m 0 Ls0 []) : Ct l Z ws y bytes maxL rt rm as' h Q := Ct.ofF (plainFor_of_name pn) ef body
theorem Cx.fin (X : Cx p l e R s m args below meth c Z own nm bytes maxL rt T locs cells slots h) {v : Option Value} (hQ : Q v h) (hc : cells ≤ ce) (hs : slots ≤ sl) (hv : rt = none → v = none := by (intro q; first | rfl | (cases q; done))) : Lv e below (FinN s Z Q ce sl) T m v := by
  have hlk := X.hlk
  obtain ⟨fs, hr, hrun, hended, hW, hsame⟩ := X.sd.leave (v := v) (fun q => hv (X.hrt ▸ q)) hlk
  have q : (T.setFrames fs).heap = h := X.eq
  exact ⟨fs, hr, hrun, hended, locs, ⟨X.fr, by rw [q]; exact X.old, by rw [q]; exact hQ⟩, ⟨_, rfl⟩, hW, hsame.mono hc hs⟩
theorem Go.ret0 (X : Cx p l e R s m args below meth c Z own nm bytes maxL rt T locs cells slots h) {v : Option Value}
    (f : ∀ fs, (∀ (f : JFrame) (acts : List Action), f.method = m → f.locked = none → f.entered = [] → (doReturn e (T.setTop f) acts v).1 = T.setFrames fs) → Steps p.tables e below (T.setTop (mkF m pc Ls st)) (T.setFrames fs)) (hF : Lv e below En T m v) : Go p e below En T m pc Ls st := by
  obtain ⟨fs, hr, hrun, hended, hq⟩ := hF
  exact ⟨_, _, f fs hr, hrun, hended, hq⟩
theorem Go.ret (X : Cx p l e R s m args below meth c Z own nm bytes maxL rt T locs cells slots h) {t : FieldType} {i : Instr} {w : Value} {rest : List Value} (hret : rt = some t) (hn : narrow t w = w)
    (hi : (i = .ireturn ∧ (t = .int ∨ t = .boolean ∨ t = .byte ∨ t = .char ∨ t = .short) ∧ ∃ z, w = .int z) ∨ (i = .lreturn ∧ t = .long ∧ ∃ z, w = .long z) ∨ (i = .dreturn ∧ t = .double ∧ ∃ z, w = .double z) ∨ (i = .freturn ∧ t = .float ∧ ∃ z, w = .float z) ∨ (i = .areturn ∧ t.isReference = true ∧ w.isRef = true))
    (hd : decode bytes pc = .ok (i, 1)) (hF : Lv e below En T m (some w)) : Go p e below En T m pc Ls (w :: rest) :=
  Go.ret0 X (fun fs hr => retOut X.sd X.hx (X.hrt.trans hret) hn hi (hb X.hby hd) hr) hF
theorem Go.retI (X : Cx p l e R s m args below meth c Z own nm bytes maxL rt T locs cells slots h) {t : FieldType} {z : Int32} {rest : List Value} (hret : rt = some t) (ht : t = .int ∨ t = .boolean ∨ t = .byte ∨ t = .char ∨ t = .short) (hn : narrow t (.int z) = .int z) (hd : decode bytes pc = .ok (.ireturn, 1)) (hF : Lv e below En T m (some (.int z))) : Go p e below En T m pc Ls (.int z :: rest) :=
  Go.ret X hret hn (Or.inl ⟨rfl, ht, z, rfl⟩) hd hF
theorem Go.retJ (X : Cx p l e R s m args below meth c Z own nm bytes maxL rt T locs cells slots h) {z : Int64} {rest : List Value} (hret : rt = some .long) (hd : decode bytes pc = .ok (.lreturn, 1)) (hF : Lv e below En T m (some (.long z))) : Go p e below En T m pc Ls (.long z :: rest) :=
  Go.ret X hret rfl (Or.inr (Or.inl ⟨rfl, rfl, z, rfl⟩)) hd hF
theorem Go.retA (X : Cx p l e R s m args below meth c Z own nm bytes maxL rt T locs cells slots h) {t : FieldType} {w : Value} {rest : List Value} (hret : rt = some t) (ht : t.isReference = true) (hw : w.isRef = true) (hd : decode bytes pc = .ok (.areturn, 1)) (hF : Lv e below En T m (some w)) : Go p e below En T m pc Ls (w :: rest) :=
  Go.ret X hret (by cases t <;> first | rfl | (cases ht; done)) (Or.inr (Or.inr (Or.inr (Or.inr ⟨rfl, ht, hw⟩)))) hd hF
theorem Go.retV (X : Cx p l e R s m args below meth c Z own nm bytes maxL rt T locs cells slots h) (hret : rt = none) (hd : decode bytes pc = .ok (.return_, 1)) (hF : Lv e below En T m none) : Go p e below En T m pc Ls [] :=
  Go.ret0 X (fun fs hr => X.sd.returnOut X.hx (X.hrt.trans hret) (hb X.hby hd) hr) hF
theorem Go.aloadN (X : Cx p l e R s m args below meth c Z own nm bytes maxL rt T locs cells slots h) (pc' : Nat) {i : Fin 4} {v : Value} (hd : decode bytes pc = .ok (.aload_n i, 1)) (hl : Ls[i.val]? = some (.val v)) (hv : v.isRef = true) (k : Go p e below En T m pc' Ls (v :: st)) (hp : pc + 1 = pc' := by rfl) : Go p e below En T m pc Ls st := by
  subst hp
  exact Go.step (fun _ hr => XS.aloadN X.here X.hx rfl (hb X.hby hd) hl hv hr) k
theorem Go.aload (X : Cx p l e R s m args below meth c Z own nm bytes maxL rt T locs cells slots h) (pc' : Nat) {i : Nat} {v : Value} (hd : decode bytes pc = .ok (.aload i, 2)) (hl : Ls[i]? = some (.val v)) (hv : v.isRef = true) (k : Go p e below En T m pc' Ls (v :: st)) (hp : pc + 2 = pc' := by rfl) : Go p e below En T m pc Ls st := by
  subst hp
  exact Go.step (fun _ hr => XS.aload X.here X.hx rfl (hb X.hby hd) hl hv hr) k
theorem Go.iloadN (X : Cx p l e R s m args below meth c Z own nm bytes maxL rt T locs cells slots h) (pc' : Nat) {i : Fin 4} {v : Int32} (hd : decode bytes pc = .ok (.iload_n i, 1)) (hl : Ls[i.val]? = some (.val (.int v))) (k : Go p e below En T m pc' Ls (.int v :: st)) (hp : pc + 1 = pc' := by rfl) : Go p e below En T m pc Ls st := by
  subst hp
  exact Go.step (fun _ hr => XS.iloadN X.here X.hx rfl (hb X.hby hd) hl hr) k
theorem Go.iload (X : Cx p l e R s m args below meth c Z own nm bytes maxL rt T locs cells slots h) (pc' : Nat) {i : Nat} {v : Int32} (hd : decode bytes pc = .ok (.iload i, 2)) (hl : Ls[i]? = some (.val (.int v))) (k : Go p e below En T m pc' Ls (.int v :: st)) (hp : pc + 2 = pc' := by rfl) : Go p e below En T m pc Ls st := by
  subst hp
  exact Go.step (fun _ hr => XS.iload X.here X.hx rfl (hb X.hby hd) hl hr) k
theorem Go.lloadN (X : Cx p l e R s m args below meth c Z own nm bytes maxL rt T locs cells slots h) (pc' : Nat) {i : Fin 4} {v : Int64} (hd : decode bytes pc = .ok (.lload_n i, 1)) (hl : Ls[i.val]? = some (.val (.long v))) (k : Go p e below En T m pc' Ls (.long v :: st)) (hp : pc + 1 = pc' := by rfl) : Go p e below En T m pc Ls st := by
  subst hp
  exact Go.step (fun _ hr => XT.lloadN X.here X.hx rfl (hb X.hby hd) hl hr) k
theorem Go.lload (X : Cx p l e R s m args below meth c Z own nm bytes maxL rt T locs cells slots h) (pc' : Nat) {i : Nat} {v : Int64} (hd : decode bytes pc = .ok (.lload i, 2)) (hl : Ls[i]? = some (.val (.long v))) (k : Go p e below En T m pc' Ls (.long v :: st)) (hp : pc + 2 = pc' := by rfl) : Go p e below En T m pc Ls st := by
  subst hp
  exact Go.step (fun _ hr => XT.lload X.here X.hx rfl (hb X.hby hd) hl hr) k
theorem Go.iconst (X : Cx p l e R s m args below meth c Z own nm bytes maxL rt T locs cells slots h) (pc' : Nat) {i : Int} (z : Int32) (hd : decode bytes pc = .ok (.iconst i, 1)) (k : Go p e below En T m pc' Ls (.int z :: st)) (hp : pc + 1 = pc' := by rfl) (hv : Int32.ofInt i = z := by rfl) : Go p e below En T m pc Ls st := by
  subst hp
  exact Go.step (fun _ hr => XT.iconstV X.here X.hx rfl z (hb X.hby hd) hv hr) k
theorem Go.bipush (X : Cx p l e R s m args below meth c Z own nm bytes maxL rt T locs cells slots h) (pc' : Nat) {i : Int} (z : Int32) (hd : decode bytes pc = .ok (.bipush i, 2)) (k : Go p e below En T m pc' Ls (.int z :: st)) (hp : pc + 2 = pc' := by rfl) (hv : (Int8.ofInt i).toInt32 = z := by rfl) : Go p e below En T m pc Ls st := by
  subst hp
  exact Go.step (fun _ hr => XT.bipushV X.here X.hx rfl z (hb X.hby hd) hv hr) k
theorem Go.sipush (X : Cx p l e R s m args below meth c Z own nm bytes maxL rt T locs cells slots h) (pc' : Nat) {i : Int} (z : Int32) (hd : decode bytes pc = .ok (.sipush i, 3)) (k : Go p e below En T m pc' Ls (.int z :: st)) (hp : pc + 3 = pc' := by rfl) (hv : (Int16.ofInt i).toInt32 = z := by rfl) : Go p e below En T m pc Ls st := by
  subst hp
  exact Go.step (fun _ hr => XT.sipushV X.here X.hx rfl z (hb X.hby hd) hv hr) k
theorem Go.lconst (X : Cx p l e R s m args below meth c Z own nm bytes maxL rt T locs cells slots h) (pc' : Nat) {i : Fin 2} (z : Int64) (hd : decode bytes pc = .ok (.lconst i, 1)) (k : Go p e below En T m pc' Ls (.long z :: st)) (hp : pc + 1 = pc' := by rfl) (hv : Int64.ofNat i = z := by rfl) : Go p e below En T m pc Ls st := by
  subst hp
  exact Go.step (fun _ hr => XT.lconstV X.here X.hx rfl z (hb X.hby hd) hv hr) k
theorem Go.aconst_null (X : Cx p l e R s m args below meth c Z own nm bytes maxL rt T locs cells slots h) (pc' : Nat)  (hd : decode bytes pc = .ok (.aconst_null, 1))  (k : Go p e below En T m pc' Ls (.null :: st)) (hp : pc + 1 = pc' := by rfl) : Go p e below En T m pc Ls st := by
  subst hp
  exact Go.step (fun _ hr => XS.aconstNull X.here X.hx rfl (hb X.hby hd)  hr) k
theorem Go.iadd (X : Cx p l e R s m args below meth c Z own nm bytes maxL rt T locs cells slots h) (pc' : Nat) {x y : Int32} (hd : decode bytes pc = .ok (.iadd, 1))  (k : Go p e below En T m pc' Ls (.int (x + y) :: st)) (hp : pc + 1 = pc' := by rfl) : Go p e below En T m pc Ls (.int y :: .int x :: st) := by
  subst hp
  exact Go.step (fun _ hr => XS.iadd X.here X.hx rfl (hb X.hby hd) rfl hr) k
theorem Go.isub (X : Cx p l e R s m args below meth c Z own nm bytes maxL rt T locs cells slots h) (pc' : Nat) {x y : Int32} (hd : decode bytes pc = .ok (.isub, 1))  (k : Go p e below En T m pc' Ls (.int (x - y) :: st)) (hp : pc + 1 = pc' := by rfl) : Go p e below En T m pc Ls (.int y :: .int x :: st) := by
  subst hp
  exact Go.step (fun _ hr => XS.isub X.here X.hx rfl (hb X.hby hd) rfl hr) k
theorem Go.imul (X : Cx p l e R s m args below meth c Z own nm bytes maxL rt T locs cells slots h) (pc' : Nat) {x y : Int32} (hd : decode bytes pc = .ok (.imul, 1))  (k : Go p e below En T m pc' Ls (.int (x * y) :: st)) (hp : pc + 1 = pc' := by rfl) : Go p e below En T m pc Ls (.int y :: .int x :: st) := by
  subst hp
  exact Go.step (fun _ hr => XS.imul X.here X.hx rfl (hb X.hby hd) rfl hr) k
theorem Go.iand (X : Cx p l e R s m args below meth c Z own nm bytes maxL rt T locs cells slots h) (pc' : Nat) {x y : Int32} (hd : decode bytes pc = .ok (.iand, 1))  (k : Go p e below En T m pc' Ls (.int (x &&& y) :: st)) (hp : pc + 1 = pc' := by rfl) : Go p e below En T m pc Ls (.int y :: .int x :: st) := by
  subst hp
  exact Go.step (fun _ hr => XS.iand X.here X.hx rfl (hb X.hby hd) rfl hr) k
theorem Go.ior (X : Cx p l e R s m args below meth c Z own nm bytes maxL rt T locs cells slots h) (pc' : Nat) {x y : Int32} (hd : decode bytes pc = .ok (.ior, 1))  (k : Go p e below En T m pc' Ls (.int (x ||| y) :: st)) (hp : pc + 1 = pc' := by rfl) : Go p e below En T m pc Ls (.int y :: .int x :: st) := by
  subst hp
  exact Go.step (fun _ hr => XT.ior X.here X.hx rfl (hb X.hby hd) rfl hr) k
theorem Go.ixor (X : Cx p l e R s m args below meth c Z own nm bytes maxL rt T locs cells slots h) (pc' : Nat) {x y : Int32} (hd : decode bytes pc = .ok (.ixor, 1))  (k : Go p e below En T m pc' Ls (.int (x ^^^ y) :: st)) (hp : pc + 1 = pc' := by rfl) : Go p e below En T m pc Ls (.int y :: .int x :: st) := by
  subst hp
  exact Go.step (fun _ hr => XT.ixor X.here X.hx rfl (hb X.hby hd) rfl hr) k
theorem Go.idiv (X : Cx p l e R s m args below meth c Z own nm bytes maxL rt T locs cells slots h) (pc' : Nat) {x y : Int32} (hd : decode bytes pc = .ok (.idiv, 1)) (hy : y ≠ 0) (k : Go p e below En T m pc' Ls (.int (x / y) :: st)) (hp : pc + 1 = pc' := by rfl) : Go p e below En T m pc Ls (.int y :: .int x :: st) := by
  subst hp
  exact Go.step (fun _ hr => XS.idiv X.here X.hx rfl (hb X.hby hd) rfl hy hr) k
theorem Go.irem (X : Cx p l e R s m args below meth c Z own nm bytes maxL rt T locs cells slots h) (pc' : Nat) {x y : Int32} (hd : decode bytes pc = .ok (.irem, 1)) (hy : y ≠ 0) (k : Go p e below En T m pc' Ls (.int (x % y) :: st)) (hp : pc + 1 = pc' := by rfl) : Go p e below En T m pc Ls (.int y :: .int x :: st) := by
  subst hp
  exact Go.step (fun _ hr => iremM X.sd X.hx rfl (hb X.hby hd) rfl hy hr) k
theorem Go.ishl (X : Cx p l e R s m args below meth c Z own nm bytes maxL rt T locs cells slots h) (pc' : Nat) {x y : Int32} (hd : decode bytes pc = .ok (.ishl, 1))  (k : Go p e below En T m pc' Ls (.int (x <<< (y &&& 31)) :: st)) (hp : pc + 1 = pc' := by rfl) : Go p e below En T m pc Ls (.int y :: .int x :: st) := by
  subst hp
  exact Go.step (fun _ hr => XT.ishl X.here X.hx rfl (hb X.hby hd) rfl hr) k
theorem Go.ishr (X : Cx p l e R s m args below meth c Z own nm bytes maxL rt T locs cells slots h) (pc' : Nat) {x y : Int32} (hd : decode bytes pc = .ok (.ishr, 1))  (k : Go p e below En T m pc' Ls (.int (x >>> (y &&& 31)) :: st)) (hp : pc + 1 = pc' := by rfl) : Go p e below En T m pc Ls (.int y :: .int x :: st) := by
  subst hp
  exact Go.step (fun _ hr => XT.ishr X.here X.hx rfl (hb X.hby hd) rfl hr) k
theorem Go.iushr (X : Cx p l e R s m args below meth c Z own nm bytes maxL rt T locs cells slots h) (pc' : Nat) {x y : Int32} (hd : decode bytes pc = .ok (.iushr, 1))  (k : Go p e below En T m pc' Ls (.int (XT.ushr x y) :: st)) (hp : pc + 1 = pc' := by rfl) : Go p e below En T m pc Ls (.int y :: .int x :: st) := by
  subst hp
  exact Go.step (fun _ hr => XT.iushr X.here X.hx rfl (hb X.hby hd) rfl hr) k
theorem Go.ladd (X : Cx p l e R s m args below meth c Z own nm bytes maxL rt T locs cells slots h) (pc' : Nat) {x y : Int64} (hd : decode bytes pc = .ok (.ladd, 1))  (k : Go p e below En T m pc' Ls (.long (x + y) :: st)) (hp : pc + 1 = pc' := by rfl) : Go p e below En T m pc Ls (.long y :: .long x :: st) := by
  subst hp
  exact Go.step (fun _ hr => XT.ladd X.here X.hx rfl (hb X.hby hd) rfl hr) k
theorem Go.lsub (X : Cx p l e R s m args below meth c Z own nm bytes maxL rt T locs cells slots h) (pc' : Nat) {x y : Int64} (hd : decode bytes pc = .ok (.lsub, 1))  (k : Go p e below En T m pc' Ls (.long (x - y) :: st)) (hp : pc + 1 = pc' := by rfl) : Go p e below En T m pc Ls (.long y :: .long x :: st) := by
  subst hp
  exact Go.step (fun _ hr => XT.lsub X.here X.hx rfl (hb X.hby hd) rfl hr) k
theorem Go.lmul (X : Cx p l e R s m args below meth c Z own nm bytes maxL rt T locs cells slots h) (pc' : Nat) {x y : Int64} (hd : decode bytes pc = .ok (.lmul, 1))  (k : Go p e below En T m pc' Ls (.long (x * y) :: st)) (hp : pc + 1 = pc' := by rfl) : Go p e below En T m pc Ls (.long y :: .long x :: st) := by
  subst hp
  exact Go.step (fun _ hr => XT.lmul X.here X.hx rfl (hb X.hby hd) rfl hr) k
theorem Go.land (X : Cx p l e R s m args below meth c Z own nm bytes maxL rt T locs cells slots h) (pc' : Nat) {x y : Int64} (hd : decode bytes pc = .ok (.land, 1))  (k : Go p e below En T m pc' Ls (.long (x &&& y) :: st)) (hp : pc + 1 = pc' := by rfl) : Go p e below En T m pc Ls (.long y :: .long x :: st) := by
  subst hp
  exact Go.step (fun _ hr => XT.land X.here X.hx rfl (hb X.hby hd) rfl hr) k
theorem Go.lor (X : Cx p l e R s m args below meth c Z own nm bytes maxL rt T locs cells slots h) (pc' : Nat) {x y : Int64} (hd : decode bytes pc = .ok (.lor, 1))  (k : Go p e below En T m pc' Ls (.long (x ||| y) :: st)) (hp : pc + 1 = pc' := by rfl) : Go p e below En T m pc Ls (.long y :: .long x :: st) := by
  subst hp
  exact Go.step (fun _ hr => XT.lor X.here X.hx rfl (hb X.hby hd) rfl hr) k
theorem Go.lxor (X : Cx p l e R s m args below meth c Z own nm bytes maxL rt T locs cells slots h) (pc' : Nat) {x y : Int64} (hd : decode bytes pc = .ok (.lxor, 1))  (k : Go p e below En T m pc' Ls (.long (x ^^^ y) :: st)) (hp : pc + 1 = pc' := by rfl) : Go p e below En T m pc Ls (.long y :: .long x :: st) := by
  subst hp
  exact Go.step (fun _ hr => XT.lxor X.here X.hx rfl (hb X.hby hd) rfl hr) k
theorem Go.lcmp (X : Cx p l e R s m args below meth c Z own nm bytes maxL rt T locs cells slots h) (pc' : Nat) {x y : Int64} (hd : decode bytes pc = .ok (.lcmp, 1))  (k : Go p e below En T m pc' Ls (.int (XT.cmpL x y) :: st)) (hp : pc + 1 = pc' := by rfl) : Go p e below En T m pc Ls (.long y :: .long x :: st) := by
  subst hp
  exact Go.step (fun _ hr => XT.lcmp X.here X.hx rfl (hb X.hby hd) rfl hr) k
theorem Go.ldiv (X : Cx p l e R s m args below meth c Z own nm bytes maxL rt T locs cells slots h) (pc' : Nat) {x y : Int64} (hd : decode bytes pc = .ok (.ldiv, 1)) (hy : y ≠ 0) (k : Go p e below En T m pc' Ls (.long (x / y) :: st)) (hp : pc + 1 = pc' := by rfl) : Go p e below En T m pc Ls (.long y :: .long x :: st) := by
  subst hp
  exact Go.step (fun _ hr => XT.ldiv X.here X.hx rfl (hb X.hby hd) rfl hy hr) k
theorem Go.lrem (X : Cx p l e R s m args below meth c Z own nm bytes maxL rt T locs cells slots h) (pc' : Nat) {x y : Int64} (hd : decode bytes pc = .ok (.lrem, 1)) (hy : y ≠ 0) (k : Go p e below En T m pc' Ls (.long (x - (x / y) * y) :: st)) (hp : pc + 1 = pc' := by rfl) : Go p e below En T m pc Ls (.long y :: .long x :: st) := by
  subst hp
  exact Go.step (fun _ hr => XT.lrem X.here X.hx rfl (hb X.hby hd) rfl hy hr) k
theorem Go.lshl (X : Cx p l e R s m args below meth c Z own nm bytes maxL rt T locs cells slots h) (pc' : Nat) {x : Int64} {y : Int32} (hd : decode bytes pc = .ok (.lshl, 1))  (k : Go p e below En T m pc' Ls (.long (x <<< (y.toInt64 &&& 63)) :: st)) (hp : pc + 1 = pc' := by rfl) : Go p e below En T m pc Ls (.int y :: .long x :: st) := by
  subst hp
  exact Go.step (fun _ hr => XT.lshl X.here X.hx rfl (hb X.hby hd) rfl hr) k
theorem Go.lshr (X : Cx p l e R s m args below meth c Z own nm bytes maxL rt T locs cells slots h) (pc' : Nat) {x : Int64} {y : Int32} (hd : decode bytes pc = .ok (.lshr, 1))  (k : Go p e below En T m pc' Ls (.long (x >>> (y.toInt64 &&& 63)) :: st)) (hp : pc + 1 = pc' := by rfl) : Go p e below En T m pc Ls (.int y :: .long x :: st) := by
  subst hp
  exact Go.step (fun _ hr => XT.lshr X.here X.hx rfl (hb X.hby hd) rfl hr) k
theorem Go.lushr (X : Cx p l e R s m args below meth c Z own nm bytes maxL rt T locs cells slots h) (pc' : Nat) {x : Int64} {y : Int32} (hd : decode bytes pc = .ok (.lushr, 1))  (k : Go p e below En T m pc' Ls (.long (XT.ushrL x y) :: st)) (hp : pc + 1 = pc' := by rfl) : Go p e below En T m pc Ls (.int y :: .long x :: st) := by
  subst hp
  exact Go.step (fun _ hr => XT.lushr X.here X.hx rfl (hb X.hby hd) rfl hr) k
theorem Go.i2l (X : Cx p l e R s m args below meth c Z own nm bytes maxL rt T locs cells slots h) (pc' : Nat) {x : Int32} (hd : decode bytes pc = .ok (.i2l, 1))  (k : Go p e below En T m pc' Ls (.long (x.toInt64) :: st)) (hp : pc + 1 = pc' := by rfl) : Go p e below En T m pc Ls (.int x :: st) := by
  subst hp
  exact Go.step (fun _ hr => XT.i2l X.here X.hx rfl (hb X.hby hd) rfl hr) k
theorem Go.i2b (X : Cx p l e R s m args below meth c Z own nm bytes maxL rt T locs cells slots h) (pc' : Nat) {x : Int32} (hd : decode bytes pc = .ok (.i2b, 1))  (k : Go p e below En T m pc' Ls (.int (x.toInt8.toInt32) :: st)) (hp : pc + 1 = pc' := by rfl) : Go p e below En T m pc Ls (.int x :: st) := by
  subst hp
  exact Go.step (fun _ hr => XT.i2b X.here X.hx rfl (hb X.hby hd) rfl hr) k
theorem Go.i2c (X : Cx p l e R s m args below meth c Z own nm bytes maxL rt T locs cells slots h) (pc' : Nat) {x : Int32} (hd : decode bytes pc = .ok (.i2c, 1))  (k : Go p e below En T m pc' Ls (.int (x.toUInt32.toUInt16.toUInt32.toInt32) :: st)) (hp : pc + 1 = pc' := by rfl) : Go p e below En T m pc Ls (.int x :: st) := by
  subst hp
  exact Go.step (fun _ hr => XT.i2c X.here X.hx rfl (hb X.hby hd) rfl hr) k
theorem Go.i2s (X : Cx p l e R s m args below meth c Z own nm bytes maxL rt T locs cells slots h) (pc' : Nat) {x : Int32} (hd : decode bytes pc = .ok (.i2s, 1))  (k : Go p e below En T m pc' Ls (.int (x.toInt16.toInt32) :: st)) (hp : pc + 1 = pc' := by rfl) : Go p e below En T m pc Ls (.int x :: st) := by
  subst hp
  exact Go.step (fun _ hr => XT.i2s X.here X.hx rfl (hb X.hby hd) rfl hr) k
theorem Go.l2i (X : Cx p l e R s m args below meth c Z own nm bytes maxL rt T locs cells slots h) (pc' : Nat) {x : Int64} (hd : decode bytes pc = .ok (.l2i, 1))  (k : Go p e below En T m pc' Ls (.int (x.toInt32) :: st)) (hp : pc + 1 = pc' := by rfl) : Go p e below En T m pc Ls (.long x :: st) := by
  subst hp
  exact Go.step (fun _ hr => XT.l2i X.here X.hx rfl (hb X.hby hd) rfl hr) k
theorem Go.dup (X : Cx p l e R s m args below meth c Z own nm bytes maxL rt T locs cells slots h) (pc' : Nat) {v : Value} (hd : decode bytes pc = .ok (.dup, 1)) (hc : v.category = 1) (k : Go p e below En T m pc' Ls (v :: v :: st)) (hp : pc + 1 = pc' := by rfl) : Go p e below En T m pc Ls (v :: st) := by
  subst hp
  exact Go.step (fun _ hr => XS.dup X.here X.hx rfl (hb X.hby hd) rfl hc hr) k
theorem Go.pop (X : Cx p l e R s m args below meth c Z own nm bytes maxL rt T locs cells slots h) (pc' : Nat) {v : Value} (hd : decode bytes pc = .ok (.pop, 1)) (hc : v.category = 1) (k : Go p e below En T m pc' Ls st) (hp : pc + 1 = pc' := by rfl) : Go p e below En T m pc Ls (v :: st) := by
  subst hp
  exact Go.step (fun _ hr => XT.pop X.here X.hx rfl (hb X.hby hd) rfl hc hr) k
theorem Go.dup_x1 (X : Cx p l e R s m args below meth c Z own nm bytes maxL rt T locs cells slots h) (pc' : Nat) {v w : Value} (hd : decode bytes pc = .ok (.dup_x1, 1)) (hc : v.category = 1) (hc' : w.category = 1) (k : Go p e below En T m pc' Ls (v :: w :: v :: st)) (hp : pc + 1 = pc' := by rfl) : Go p e below En T m pc Ls (v :: w :: st) := by
  subst hp
  exact Go.step (fun _ hr => XT.dupX1 X.here X.hx rfl (hb X.hby hd) rfl hc hc' hr) k
theorem Go.dup2 (X : Cx p l e R s m args below meth c Z own nm bytes maxL rt T locs cells slots h) (pc' : Nat) {v w : Value} (hd : decode bytes pc = .ok (.dup2, 1)) (hc : v.category = 1) (hc' : w.category = 1) (k : Go p e below En T m pc' Ls (v :: w :: v :: w :: st)) (hp : pc + 1 = pc' := by rfl) : Go p e below En T m pc Ls (v :: w :: st) := by
  subst hp
  exact Go.step (fun _ hr => XT.dup2 X.here X.hx rfl (hb X.hby hd) rfl hc hc' hr) k
theorem Go.istoreN (X : Cx p l e R s m args below meth c Z own nm bytes maxL rt T locs cells slots h) (pc' : Nat) {i : Fin 4} {z : Int32} (Ls' : Array Slot) (hd : decode bytes pc = .ok (.istore_n i, 1))  (hl : storeLocals Ls i.val (.int z) = some Ls') (k : Go p e below En T m pc' Ls' st) (hp : pc + 1 = pc' := by rfl) : Go p e below En T m pc Ls (.int z :: st) := by
  subst hp
  exact Go.step (fun _ hr => XS.istoreN X.here X.hx rfl (hb X.hby hd) rfl  hl hr) k
theorem Go.istore (X : Cx p l e R s m args below meth c Z own nm bytes maxL rt T locs cells slots h) (pc' : Nat) {i : Nat} {z : Int32} (Ls' : Array Slot) (hd : decode bytes pc = .ok (.istore i, 2))  (hl : storeLocals Ls i (.int z) = some Ls') (k : Go p e below En T m pc' Ls' st) (hp : pc + 2 = pc' := by rfl) : Go p e below En T m pc Ls (.int z :: st) := by
  subst hp
  exact Go.step (fun _ hr => XS.istore X.here X.hx rfl (hb X.hby hd) rfl  hl hr) k
theorem Go.lstoreN (X : Cx p l e R s m args below meth c Z own nm bytes maxL rt T locs cells slots h) (pc' : Nat) {i : Fin 4} {z : Int64} (Ls' : Array Slot) (hd : decode bytes pc = .ok (.lstore_n i, 1))  (hl : storeLocals Ls i.val (.long z) = some Ls') (k : Go p e below En T m pc' Ls' st) (hp : pc + 1 = pc' := by rfl) : Go p e below En T m pc Ls (.long z :: st) := by
  subst hp
  exact Go.step (fun _ hr => XT.lstoreN X.here X.hx rfl (hb X.hby hd) rfl  hl hr) k
theorem Go.lstore (X : Cx p l e R s m args below meth c Z own nm bytes maxL rt T locs cells slots h) (pc' : Nat) {i : Nat} {z : Int64} (Ls' : Array Slot) (hd : decode bytes pc = .ok (.lstore i, 2))  (hl : storeLocals Ls i (.long z) = some Ls') (k : Go p e below En T m pc' Ls' st) (hp : pc + 2 = pc' := by rfl) : Go p e below En T m pc Ls (.long z :: st) := by
  subst hp
  exact Go.step (fun _ hr => XT.lstore X.here X.hx rfl (hb X.hby hd) rfl  hl hr) k
theorem Go.astoreN (X : Cx p l e R s m args below meth c Z own nm bytes maxL rt T locs cells slots h) (pc' : Nat) {i : Fin 4} {v : Value} (Ls' : Array Slot) (hd : decode bytes pc = .ok (.astore_n i, 1)) (hv : v.isRef = true) (hl : storeLocals Ls i.val (v) = some Ls') (k : Go p e below En T m pc' Ls' st) (hp : pc + 1 = pc' := by rfl) : Go p e below En T m pc Ls (v :: st) := by
  subst hp
  exact Go.step (fun _ hr => XS.astoreN X.here X.hx rfl (hb X.hby hd) rfl hv hl hr) k
theorem Go.astore (X : Cx p l e R s m args below meth c Z own nm bytes maxL rt T locs cells slots h) (pc' : Nat) {i : Nat} {v : Value} (Ls' : Array Slot) (hd : decode bytes pc = .ok (.astore i, 2)) (hv : v.isRef = true) (hl : storeLocals Ls i (v) = some Ls') (k : Go p e below En T m pc' Ls' st) (hp : pc + 2 = pc' := by rfl) : Go p e below En T m pc Ls (v :: st) := by
  subst hp
  exact Go.step (fun _ hr => XS.astore X.here X.hx rfl (hb X.hby hd) rfl hv hl hr) k
theorem Go.iinc (X : Cx p l e R s m args below meth c Z own nm bytes maxL rt T locs cells slots h) (pc' : Nat) {i : Nat} {x : Int32} {cst : Int} (z : Int32) (Ls' : Array Slot) (hd : decode bytes pc = .ok (.iinc i cst, 3)) (hl0 : Ls[i]? = some (.val (.int x))) (hl : storeLocals Ls i (.int (x + z)) = some Ls') (k : Go p e below En T m pc' Ls' st) (hp : pc + 3 = pc' := by rfl) (hv : Int32.ofInt cst = z := by rfl) : Go p e below En T m pc Ls st := by
  subst hp
  exact Go.step (fun _ hr => XT.iincV X.here X.hx rfl z (hb X.hby hd) hv hl0 hl hr) k
theorem Go.goto (X : Cx p l e R s m args below meth c Z own nm bytes maxL rt T locs cells slots h) (pc' : Nat) {o : Int} (hd : decode bytes pc = .ok (.goto o, 3)) (k : Go p e below En T m pc' Ls st) (ho : 0 ≤ (pc : Int) + o := by decide) (hp : ((pc : Int) + o).toNat = pc' := by decide) : Go p e below En T m pc Ls st :=
  Go.step (fun _ hr => XS.goto X.here X.hx rfl rfl (hb X.hby hd) ho hp hr) k
theorem Go.if0Y (X : Cx p l e R s m args below meth c Z own nm bytes maxL rt T locs cells slots h) (pc' : Nat) {cd : ClassFile.Cond} {x : Int32} {o : Int} (hd : decode bytes pc = .ok (.ifCond cd o, 3)) (hc : ifCond.holds cd x = true) (k : Go p e below En T m pc' Ls st) (ho : 0 ≤ (pc : Int) + o := by decide) (hp : ((pc : Int) + o).toNat = pc' := by decide) : Go p e below En T m pc Ls (.int x :: st) :=
  Go.step (fun _ hr => XS.ifYes X.here X.hx rfl rfl (hb X.hby hd) rfl hc ho hp hr) k
theorem Go.if0N (X : Cx p l e R s m args below meth c Z own nm bytes maxL rt T locs cells slots h) (pc' : Nat) {cd : ClassFile.Cond} {x : Int32} {o : Int} (hd : decode bytes pc = .ok (.ifCond cd o, 3)) (hc : ifCond.holds cd x = false) (k : Go p e below En T m pc' Ls st) (hp : pc + 3 = pc' := by rfl) : Go p e below En T m pc Ls (.int x :: st) := by
  subst hp
  exact Go.step (fun _ hr => XS.ifNo X.here X.hx rfl (hb X.hby hd) rfl hc hr) k
theorem Go.icmpY (X : Cx p l e R s m args below meth c Z own nm bytes maxL rt T locs cells slots h) (pc' : Nat) {cd : ClassFile.Cond} {x y : Int32} {o : Int} (hd : decode bytes pc = .ok (.if_icmp cd o, 3)) (hc : if_icmp.holds cd x y = true) (k : Go p e below En T m pc' Ls st) (ho : 0 ≤ (pc : Int) + o := by decide) (hp : ((pc : Int) + o).toNat = pc' := by decide) : Go p e below En T m pc Ls (.int y :: .int x :: st) :=
  Go.step (fun _ hr => XS.icmpYes X.here X.hx rfl rfl (hb X.hby hd) rfl hc ho hp hr) k
theorem Go.icmpN (X : Cx p l e R s m args below meth c Z own nm bytes maxL rt T locs cells slots h) (pc' : Nat) {cd : ClassFile.Cond} {x y : Int32} {o : Int} (hd : decode bytes pc = .ok (.if_icmp cd o, 3)) (hc : if_icmp.holds cd x y = false) (k : Go p e below En T m pc' Ls st) (hp : pc + 3 = pc' := by rfl) : Go p e below En T m pc Ls (.int y :: .int x :: st) := by
  subst hp
  exact Go.step (fun _ hr => XS.icmpNo X.here X.hx rfl (hb X.hby hd) rfl hc hr) k
theorem Go.acmpY (X : Cx p l e R s m args below meth c Z own nm bytes maxL rt T locs cells slots h) (pc' : Nat) {cd : ClassFile.ACond} {x y : Value} {o : Int} (hd : decode bytes pc = .ok (.if_acmp cd o, 3)) (hx' : x.isRef = true) (hy' : y.isRef = true) (hc : XT.acmp cd x y = true) (k : Go p e below En T m pc' Ls st) (ho : 0 ≤ (pc : Int) + o := by decide) (hp : ((pc : Int) + o).toNat = pc' := by decide) : Go p e below En T m pc Ls (y :: x :: st) :=
  Go.step (fun _ hr => XT.acmpYes X.here X.hx rfl rfl (hb X.hby hd) rfl hx' hy' hc ho hp hr) k
theorem Go.acmpN (X : Cx p l e R s m args below meth c Z own nm bytes maxL rt T locs cells slots h) (pc' : Nat) {cd : ClassFile.ACond} {x y : Value} {o : Int} (hd : decode bytes pc = .ok (.if_acmp cd o, 3)) (hx' : x.isRef = true) (hy' : y.isRef = true) (hc : XT.acmp cd x y = false) (k : Go p e below En T m pc' Ls st) (hp : pc + 3 = pc' := by rfl) : Go p e below En T m pc Ls (y :: x :: st) := by
  subst hp
  exact Go.step (fun _ hr => XT.acmpNo X.here X.hx rfl (hb X.hby hd) rfl hx' hy' hc hr) k
theorem Go.ifnullY (X : Cx p l e R s m args below meth c Z own nm bytes maxL rt T locs cells slots h) (pc' : Nat) {o : Int} (hd : decode bytes pc = .ok (.ifnull o, 3)) (k : Go p e below En T m pc' Ls st) (ho : 0 ≤ (pc : Int) + o := by decide) (hp : ((pc : Int) + o).toNat = pc' := by decide) : Go p e below En T m pc Ls (.null :: st) :=
  Go.step (fun _ hr => XS.ifnullYes X.here X.hx rfl rfl (hb X.hby hd) rfl ho hp hr) k
theorem Go.ifnullN (X : Cx p l e R s m args below meth c Z own nm bytes maxL rt T locs cells slots h) (pc' : Nat) {a : Addr} {o : Int} (hd : decode bytes pc = .ok (.ifnull o, 3)) (k : Go p e below En T m pc' Ls st) (hp : pc + 3 = pc' := by rfl) : Go p e below En T m pc Ls (.ref a :: st) := by
  subst hp
  exact Go.step (fun _ hr => XS.ifnullNo X.here X.hx rfl (hb X.hby hd) rfl hr) k
theorem Go.ifnonnullY (X : Cx p l e R s m args below meth c Z own nm bytes maxL rt T locs cells slots h) (pc' : Nat) {a : Addr} {o : Int} (hd : decode bytes pc = .ok (.ifnonnull o, 3)) (k : Go p e below En T m pc' Ls st) (ho : 0 ≤ (pc : Int) + o := by decide) (hp : ((pc : Int) + o).toNat = pc' := by decide) : Go p e below En T m pc Ls (.ref a :: st) :=
  Go.step (fun _ hr => XT.ifnonnullYes X.here X.hx rfl rfl (hb X.hby hd) rfl ho hp hr) k
theorem Go.ifnonnullN (X : Cx p l e R s m args below meth c Z own nm bytes maxL rt T locs cells slots h) (pc' : Nat) {o : Int} (hd : decode bytes pc = .ok (.ifnonnull o, 3)) (k : Go p e below En T m pc' Ls st) (hp : pc + 3 = pc' := by rfl) : Go p e below En T m pc Ls (.null :: st) := by
  subst hp
  exact Go.step (fun _ hr => XT.ifnonnullNo X.here X.hx rfl (hb X.hby hd) rfl hr) k
theorem Go.tsw (X : Cx p l e R s m args below meth c Z own nm bytes maxL rt T locs cells slots h) (pc' : Nat) {dflt low high o : Int} {offs : Array Int} {len : Nat} {i : Int32} (hd : decode bytes pc = .ok (.tableswitch dflt low high offs, len)) (hin : ¬ (i.toInt < low ∨ i.toInt > high)) (hoff : offs[(i.toInt - low).toNat]? = some o) (k : Go p e below En T m pc' Ls st) (ho : 0 ≤ (pc : Int) + o := by decide) (hp : ((pc : Int) + o).toNat = pc' := by decide) : Go p e below En T m pc Ls (.int i :: st) :=
  Go.step (fun _ hr => XS.tswIn X.here X.hx rfl rfl (hb X.hby hd) rfl hin hoff ho hp hr) k
theorem Go.ldcI (X : Cx p l e R s m args below meth c Z own nm bytes maxL rt T locs cells slots h) (pc' : Nat) {idx : Nat} {v : Int32} (w : (Jvm.Cond.constant own idx v).before a0 Z = true) (hd : decode bytes pc = .ok (.ldc idx, 2)) (k : Go p e below En T m pc' Ls (.int v :: st)) (hp : pc + 2 = pc' := by rfl) : Go p e below En T m pc Ls st := by
  subst hp
  exact Go.step (fun _ hr => X.sd.ldcI X.hx X.hown (mvT X.hZ w) rfl (hb X.hby hd) hr) k
theorem Go.ldcJ (X : Cx p l e R s m args below meth c Z own nm bytes maxL rt T locs cells slots h) (pc' : Nat) {idx : Nat} {v : Int64} (w : (Jvm.Cond.constantLong own idx v).before a0 Z = true) (hd : decode bytes pc = .ok (.ldc2_w idx, 3)) (k : Go p e below En T m pc' Ls (.long v :: st)) (hp : pc + 3 = pc' := by rfl) : Go p e below En T m pc Ls st := by
  subst hp
  exact Go.step (fun _ hr => X.sd.ldc2J X.hx X.hown (mvT X.hZ w) rfl (hb X.hby hd) hr) k
theorem Go.getS (X : Cx p l e R s m args below meth c Z own nm bytes maxL rt T locs cells slots h) (pc' : Nat) {O n d : String} {idx : Nat} {v : Value} (w : (Jvm.Cond.fieldLink own idx O n d).before a0 Z = true) (F : Sta Z Z.heap O n d v) (hd : decode bytes pc = .ok (.getstatic idx, 3)) (k : ∀ T', Cx p l e R s m args below meth c Z own nm bytes maxL rt T' locs cells slots h → Go p e below En T' m pc' Ls (v :: st)) (hp : pc + 3 = pc' := by rfl) : Go p e below En T m pc Ls st := by
  subst hp
  obtain ⟨T', X', e', st'⟩ := RoadKit.getS (host := "") X.sd X.hx X.hZ X.hown w Via.refl X.eq (F.ext X.old) (g := mkF m pc Ls st) rfl (hb X.hby hd)
  exact Go.step st' (k T' (X.mk' X' e' X.fr X.old))
theorem Go.getF (X : Cx p l e R s m args below meth c Z own nm bytes maxL rt T locs cells slots h) (pc' : Nat) {O n d : String} {idx : Nat} {a : Addr} {v : Value} (w : (Jvm.Cond.fieldLink own idx O n d).before a0 Z = true) (F : Fld Z h a O n d v) (hd : decode bytes pc = .ok (.getfield idx, 3)) (k : ∀ T', Cx p l e R s m args below meth c Z own nm bytes maxL rt T' locs cells slots h → Go p e below En T' m pc' Ls (v :: st)) (hp : pc + 3 = pc' := by rfl) : Go p e below En T m pc Ls (.ref a :: st) := by
  subst hp
  obtain ⟨T', X', e', st'⟩ := RoadKit.getF (host := "") X.sd X.hx X.hZ X.hown (Or.inl w) Via.refl X.eq F (g := mkF m pc Ls (.ref a :: st)) rfl rfl (hb X.hby hd)
  exact Go.step st' (k T' (X.mk' X' e' X.fr X.old))
theorem Go.getFN (X : Cx p l e R s m args below meth c Z own nm bytes maxL rt T locs cells slots h) (pc' : Nat) {O n d host : String} {idx : Nat} {a : Addr} {v : Value} (w : (Jvm.Cond.fieldLinkNest own idx O n d host).before a0 Z = true) (F : Fld Z h a O n d v) (hd : decode bytes pc = .ok (.getfield idx, 3)) (k : ∀ T', Cx p l e R s m args below meth c Z own nm bytes maxL rt T' locs cells slots h → Go p e below En T' m pc' Ls (v :: st)) (hp : pc + 3 = pc' := by rfl) : Go p e below En T m pc Ls (.ref a :: st) := by
  subst hp
  obtain ⟨T', X', e', st'⟩ := RoadKit.getF X.sd X.hx X.hZ X.hown (Or.inr w) Via.refl X.eq F (g := mkF m pc Ls (.ref a :: st)) rfl rfl (hb X.hby hd)
  exact Go.step st' (k T' (X.mk' X' e' X.fr X.old))
theorem Go.putF (X : Cx p l e R s m args below meth c Z own nm bytes maxL rt T locs cells slots h) (pc' : Nat) {O n d C : String} {idx kk : Nat} {ty : FieldType} {a : Addr} {v old : Value} (w : (Jvm.Cond.fieldLink own idx O n d).before a0 Z = true) (F : Fld Z h a O n d old) (E : Exa Z h a C) (L : (Jvm.Cond.lays C O n d).before a0 Z = true ∨ ((Jvm.Cond.laysFinal C O n d).before a0 Z = true ∧ own = O ∧ nm = "<init>")) (wi : (Jvm.Cond.instantiable C kk).before a0 Z = true) (hty : parseFieldDescriptor d = some ty) (hn : narrow ty v = v) (hf : fits ty v = true) (ha : Z.heap.size ≤ a) (hd : decode bytes pc = .ok (.putfield idx, 3))
    (k : ∀ T' h', Cx p l e R s m args below meth c Z own nm bytes maxL rt T' (locs ++ [⟨a, RoadKit.slotOf Z O n d⟩]) cells slots h' → Wr h h' a (RoadKit.slotOf Z O n d) v → Go p e below En T' m pc' Ls st) (hp : pc + 3 = pc' := by rfl) : Go p e below En T m pc Ls (v :: .ref a :: st) := by
  subst hp
  obtain ⟨T', h', X', e', W, st'⟩ := RoadKit.putF (host := "") X.sd X.hx X.hZ X.hown (Or.inl w) Via.refl X.eq F E (L.imp id fun q => ⟨q.1, q.2.1, X.hnm.trans q.2.2⟩) wi hty hn hf (g := mkF m pc Ls (v :: .ref a :: st)) rfl rfl (hb X.hby hd)
  exact Go.step st' (k T' h' (X.mk' X' e' (Fr.snoc X' X.fr ha) (Ext.wr X.old W ha)) W)
theorem Go.newO (X : Cx p l e R s m args below meth c Z own nm bytes maxL rt T locs cells slots h) (pc' : Nat) {C : String} {idx n : Nat} (w : (Jvm.Cond.classLink own idx C).before a0 Z = true) (wi : (Jvm.Cond.instantiable C n).before a0 Z = true) (wz : (Jvm.Cond.initialized C).before a0 Z = true) (hd : decode bytes pc = .ok (.new idx, 3)) (hc : cells + 1 ≤ R.cells) (hl : slots + n ≤ R.slots)
    (k : ∀ T' h' a, Cx p l e R s m args below meth c Z own nm bytes maxL rt T' locs (cells + 1) (slots + n) h' → Ext h h' → h.size = a → Exa Z h' a C → (∀ {O nm d : String} {ty : FieldType}, Laid Z a0 C O nm d → parseFieldDescriptor d = some ty → Fld Z h' a O nm d (defaultValue ty)) → Go p e below En T' m pc' Ls (.ref a :: st)) (hp : pc + 3 = pc' := by rfl) : Go p e below En T m pc Ls st := by
  subst hp
  obtain ⟨T', h', X', e', E, A, D, -, st'⟩ := RoadKit.newO X.sd X.hx X.hZ X.hown w wi wz X.eq (g := mkF m pc Ls st) rfl (hb X.hby hd) hc hl
  exact Go.step st' (k T' h' _ (X.mk' X' e' X.fr (Ext.tr X.old E)) E rfl A D)
theorem Go.initO (X : Cx p l e R s m args below meth c Z own nm bytes maxL rt T locs cells slots h) (pc' : Nat) {idx : Nat} {a : Addr} (w1 : (Jvm.Cond.methodLink own idx Lib.objectInit).before a0 Z = true) (w2 : (Jvm.Cond.instanceMethod Lib.objectInit).before a0 Z = true) (w3 : (Jvm.Cond.code Lib.objectInit ⟨#[0xb1]⟩ 1 none).before a0 Z = true) (W : Nat) (hd : decode bytes pc = .ok (.invokespecial idx, 3)) (hsz : Ls.size = maxL) (hf : 1 ≤ R.frames) (hW : (st.map fun v => v.category).sum ≤ W) (hl : W + 12 ≤ R.locals)
    (k : ∀ T', Cx p l e R s m args below meth c Z own nm bytes maxL rt T' locs cells slots h → Go p e below En T' m pc' Ls st) (hp : pc + 3 = pc' := by rfl) : Go p e below En T m pc Ls (.ref a :: st) := by
  subst hp
  obtain ⟨T', X', e', st'⟩ := RoadKit.initO X.sd X.hx X.hZ X.hown w1 w2 w3 X.eq (g := mkF m pc Ls (.ref a :: st)) rfl (hsz.trans X.hml.symm) rfl (hb X.hby hd) hf (W := W) (by simpa using hW) hl
  exact Go.step st' (k T' (X.mk' X' e' X.fr X.old))
theorem Go.newP (X : Cx p l e R s m args below meth c Z own nm bytes maxL rt T locs cells slots h) (pc' : Nat) {aty : ArrayType} {n : Int32} (w : (Jvm.Cond.arrayClass (newarray.typeOf aty)).before a0 Z = true) (hd : decode bytes pc = .ok (.newarray aty, 2)) (cap : Nat) (hn : ¬ n < 0) (hcap : n.toNatClampNeg ≤ cap) (hb' : cap * 8 ≤ 536870912) (hc : cells + 1 ≤ R.cells) (hl : slots + cap ≤ R.slots)
    (k : ∀ T' h' a kA, Cx p l e R s m args below meth c Z own nm bytes maxL rt T' locs (cells + 1) (slots + cap) h' → Ext h h' → h.size = a → Arv Z h' a kA (newarray.typeOf aty) n [] (defaultValue (newarray.typeOf aty)) → Go p e below En T' m pc' Ls (.ref a :: st)) (hp : pc + 2 = pc' := by rfl) : Go p e below En T m pc Ls (.int n :: st) := by
  subst hp
  obtain ⟨T', h', kA, X', e', E, A, st'⟩ := RoadKit.newP X.sd X.hx X.hZ w X.eq (g := mkF m pc Ls (.int n :: st)) rfl (hb X.hby hd) rfl hn hcap hb' hc hl
  exact Go.step st' (k T' h' _ kA (X.mk' X' e' X.fr (Ext.tr X.old E)) E rfl (Arv.new A hn))
theorem Go.newR (X : Cx p l e R s m args below meth c Z own nm bytes maxL rt T locs cells slots h) (pc' : Nat) {D : String} {idx : Nat} {n : Int32} (w1 : (Jvm.Cond.classLink own idx D).before a0 Z = true) (w2 : (Jvm.Cond.arrayOver (.object D)).before a0 Z = true) (hd : decode bytes pc = .ok (.anewarray idx, 3)) (cap : Nat) (hn : ¬ n < 0) (hcap : n.toNatClampNeg ≤ cap) (hb' : cap * 8 ≤ 536870912) (hc : cells + 1 ≤ R.cells) (hl : slots + cap ≤ R.slots)
    (k : ∀ T' h' a kA, Cx p l e R s m args below meth c Z own nm bytes maxL rt T' locs (cells + 1) (slots + cap) h' → Ext h h' → h.size = a → Ovr Z kA D → Arv Z h' a kA (.object D) n [] .null → Go p e below En T' m pc' Ls (.ref a :: st)) (hp : pc + 3 = pc' := by rfl) : Go p e below En T m pc Ls (.int n :: st) := by
  subst hp
  obtain ⟨T', h', kA, X', e', E, A, O, st'⟩ := RoadKit.newR X.sd X.hx X.hZ X.hown w1 w2 X.eq (g := mkF m pc Ls (.int n :: st)) rfl (hb X.hby hd) rfl hn hcap hb' hc hl
  exact Go.step st' (k T' h' _ kA (X.mk' X' e' X.fr (Ext.tr X.old E)) E rfl O (Arv.new A hn))
theorem Go.stC (X : Cx p l e R s m args below meth c Z own nm bytes maxL rt T locs cells slots h) (pc' : Nat) {a : Addr} {kA : ClassId} {n j x : Int32} {vs : List Value} {d : Value} (V : Arv Z h a kA .char n vs d) (hd : decode bytes pc = .ok (.castore, 1)) (hj : ¬ j < 0 ∧ j < n) (i : Nat) (hi : j.toNatClampNeg = i) (hlt : i < vs.length) (ha : Z.heap.size ≤ a)
    (k : ∀ T' h', Cx p l e R s m args below meth c Z own nm bytes maxL rt T' (locs ++ [⟨a, j.toNatClampNeg⟩]) cells slots h' → Wr h h' a j.toNatClampNeg (.int (nar .char x)) → Arv Z h' a kA .char n (vs.set i (.int (nar .char x))) d → Go p e below En T' m pc' Ls st) (hp : pc + 1 = pc' := by rfl) : Go p e below En T m pc Ls (.int x :: .int j :: .ref a :: st) := by
  subst hp
  obtain ⟨cl, A, q1, S, q3, H, G⟩ := V
  obtain ⟨T', h', X', e', W, st'⟩ := RoadKit.stC X.sd X.hx X.hZ X.eq A (inb_of S hj) (g := mkF m pc Ls (.int x :: .int j :: .ref a :: st)) rfl rfl (hb X.hby hd)
  exact Go.step st' (k T' h' (X.mk' X' e' (Fr.snoc X' X.fr ha) (Ext.wr X.old W ha)) W (Arv.set A q1 S q3 H G (fits_nar_char x) W i hi hlt))
theorem Go.stB (X : Cx p l e R s m args below meth c Z own nm bytes maxL rt T locs cells slots h) (pc' : Nat) {a : Addr} {kA : ClassId} {n j x : Int32} {vs : List Value} {d : Value} (V : Arv Z h a kA .byte n vs d) (hd : decode bytes pc = .ok (.bastore, 1)) (hj : ¬ j < 0 ∧ j < n) (i : Nat) (hi : j.toNatClampNeg = i) (hlt : i < vs.length) (ha : Z.heap.size ≤ a)
    (k : ∀ T' h', Cx p l e R s m args below meth c Z own nm bytes maxL rt T' (locs ++ [⟨a, j.toNatClampNeg⟩]) cells slots h' → Wr h h' a j.toNatClampNeg (.int (nar .byte x)) → Arv Z h' a kA .byte n (vs.set i (.int (nar .byte x))) d → Go p e below En T' m pc' Ls st) (hp : pc + 1 = pc' := by rfl) : Go p e below En T m pc Ls (.int x :: .int j :: .ref a :: st) := by
  subst hp
  obtain ⟨cl, A, q1, S, q3, H, G⟩ := V
  obtain ⟨T', h', X', e', W, st'⟩ := RoadKit.stB X.sd X.hx X.hZ X.eq A (inb_of S hj) (g := mkF m pc Ls (.int x :: .int j :: .ref a :: st)) rfl rfl (hb X.hby hd)
  exact Go.step st' (k T' h' (X.mk' X' e' (Fr.snoc X' X.fr ha) (Ext.wr X.old W ha)) W (Arv.set A q1 S q3 H G (fits_nar_byte x) W i hi hlt))
theorem Go.stR (X : Cx p l e R s m args below meth c Z own nm bytes maxL rt T locs cells slots h) (pc' : Nat) {a y : Addr} {kA : ClassId} {D : String} {n j : Int32} {vs : List Value} {d : Value} (V : Arv Z h a kA (.object D) n vs d) (O : Ovr Z kA D) (I : Ins Z h y D true) (hd : decode bytes pc = .ok (.aastore, 1)) (hj : ¬ j < 0 ∧ j < n) (i : Nat) (hi : j.toNatClampNeg = i) (hlt : i < vs.length) (ha : Z.heap.size ≤ a)
    (k : ∀ T' h', Cx p l e R s m args below meth c Z own nm bytes maxL rt T' (locs ++ [⟨a, j.toNatClampNeg⟩]) cells slots h' → Wr h h' a j.toNatClampNeg (.ref y) → Arv Z h' a kA (.object D) n (vs.set i (.ref y)) d → Go p e below En T' m pc' Ls st) (hp : pc + 1 = pc' := by rfl) : Go p e below En T m pc Ls (.ref y :: .int j :: .ref a :: st) := by
  subst hp
  obtain ⟨cl, A, q1, S, q3, H, G⟩ := V
  obtain ⟨T', h', X', e', W, st'⟩ := RoadKit.stR X.sd X.hx X.hZ X.eq A (inb_of S hj) rfl (Sto.ofV A q1 O I) (g := mkF m pc Ls (.ref y :: .int j :: .ref a :: st)) rfl rfl (hb X.hby hd)
  exact Go.step st' (k T' h' (X.mk' X' e' (Fr.snoc X' X.fr ha) (Ext.wr X.old W ha)) W (Arv.set A q1 S q3 H G rfl W i hi hlt))
theorem Go.alen (X : Cx p l e R s m args below meth c Z own nm bytes maxL rt T locs cells slots h) (pc' : Nat) {a : Addr} {kA : ClassId} {ty : FieldType} {n : Int32} {vs : List Value} {d : Value} (V : Arv Z h a kA ty n vs d) (hd : decode bytes pc = .ok (.arraylength, 1)) (k : Go p e below En T m pc' Ls (.int n :: st)) (hp : pc + 1 = pc' := by rfl) : Go p e below En T m pc Ls (.ref a :: st) := by
  subst hp
  obtain ⟨cl, A, q1, S, q3, H, G⟩ := V
  refine Go.step (fun _ hr => X.sd.arraylength X.hx (by rw [X.eq]; exact A.1) (State.isArrayOf_alike X.hZ.alike A.2.1) (g := mkF m pc Ls (.ref a :: st)) rfl rfl (hb X.hby hd) _ hr) ?_
  rw [len_of S q3]; exact k
theorem Go.caload (X : Cx p l e R s m args below meth c Z own nm bytes maxL rt T locs cells slots h) (pc' : Nat) {a : Addr} {kA : ClassId} {n j : Int32} {vs : List Value} {d v : Value} (V : Arv Z h a kA .char n vs d) (hd : decode bytes pc = .ok (.caload, 1)) (hj : ¬ j < 0 ∧ j < n) (u : vs.getD j.toNatClampNeg d = v) (k : Go p e below En T m pc' Ls (v :: st)) (hp : pc + 1 = pc' := by rfl) : Go p e below En T m pc Ls (.int j :: .ref a :: st) := by
  subst hp
  obtain ⟨cl, A, q1, S, q3, H, G⟩ := V
  exact Go.step (fun _ hr => X.sd.caload X.hx (by rw [X.eq]; exact A.1) (State.isArrayOf_alike X.hZ.alike A.2.1) A.2.2 (inb_of S hj) (H.at (inb_of S hj) u) (g := mkF m pc Ls (.int j :: .ref a :: st)) rfl rfl (hb X.hby hd) _ hr) k
theorem Go.baload (X : Cx p l e R s m args below meth c Z own nm bytes maxL rt T locs cells slots h) (pc' : Nat) {a : Addr} {kA : ClassId} {n j : Int32} {vs : List Value} {d v : Value} (V : Arv Z h a kA .byte n vs d) (hd : decode bytes pc = .ok (.baload, 1)) (hj : ¬ j < 0 ∧ j < n) (u : vs.getD j.toNatClampNeg d = v) (k : Go p e below En T m pc' Ls (v :: st)) (hp : pc + 1 = pc' := by rfl) : Go p e below En T m pc Ls (.int j :: .ref a :: st) := by
  subst hp
  obtain ⟨cl, A, q1, S, q3, H, G⟩ := V
  exact Go.step (fun _ hr => X.sd.baloadBytes X.hx (by rw [X.eq]; exact A.1) (State.isArrayOf_alike X.hZ.alike A.2.1) A.2.2 (inb_of S hj) (H.at (inb_of S hj) u) (g := mkF m pc Ls (.int j :: .ref a :: st)) rfl rfl (hb X.hby hd) _ hr) k
theorem Go.aaload (X : Cx p l e R s m args below meth c Z own nm bytes maxL rt T locs cells slots h) (pc' : Nat) {a : Addr} {kA : ClassId} {ty : FieldType} {n j : Int32} {vs : List Value} {d v : Value} (V : Arv Z h a kA ty n vs d) (hty : ty.isReference = true) (hd : decode bytes pc = .ok (.aaload, 1)) (hj : ¬ j < 0 ∧ j < n) (u : vs.getD j.toNatClampNeg d = v) (k : Go p e below En T m pc' Ls (v :: st)) (hp : pc + 1 = pc' := by rfl) : Go p e below En T m pc Ls (.int j :: .ref a :: st) := by
  subst hp
  obtain ⟨cl, A, q1, S, q3, H, G⟩ := V
  exact Go.step (fun _ hr => X.sd.aaload X.hx (by rw [X.eq]; exact A.1) (State.isArrayOf_alike X.hZ.alike A.2.1) hty A.2.2 (inb_of S hj) (H.at (inb_of S hj) u) (g := mkF m pc Ls (.int j :: .ref a :: st)) rfl rfl (hb X.hby hd) _ hr) k
theorem Go.castY (X : Cx p l e R s m args below meth c Z own nm bytes maxL rt T locs cells slots h) (pc' : Nat) {K : String} {idx : Nat} {a : Addr} (w : (Jvm.Cond.classLink own idx K).before a0 Z = true) (F : Ins Z h a K true) (hd : decode bytes pc = .ok (.checkcast idx, 3)) (k : ∀ T', Cx p l e R s m args below meth c Z own nm bytes maxL rt T' locs cells slots h → Go p e below En T' m pc' Ls (.ref a :: st)) (hp : pc + 3 = pc' := by rfl) : Go p e below En T m pc Ls (.ref a :: st) := by
  subst hp
  obtain ⟨T', X', e', st'⟩ := RoadKit.castY X.sd X.hx X.hZ X.hown w X.eq F (g := mkF m pc Ls (.ref a :: st)) rfl rfl (hb X.hby hd)
  exact Go.step st' (k T' (X.mk' X' e' X.fr X.old))
theorem Go.instY (X : Cx p l e R s m args below meth c Z own nm bytes maxL rt T locs cells slots h) (pc' : Nat) {K : String} {idx : Nat} {a : Addr} (w : (Jvm.Cond.classLink own idx K).before a0 Z = true) (F : Ins Z h a K true) (hd : decode bytes pc = .ok (.instanceof idx, 3)) (k : ∀ T', Cx p l e R s m args below meth c Z own nm bytes maxL rt T' locs cells slots h → Go p e below En T' m pc' Ls (.int 1 :: st)) (hp : pc + 3 = pc' := by rfl) : Go p e below En T m pc Ls (.ref a :: st) := by
  subst hp
  obtain ⟨T', X', e', st'⟩ := RoadKit.instY X.sd X.hx X.hZ X.hown w X.eq F (g := mkF m pc Ls (.ref a :: st)) rfl rfl (hb X.hby hd)
  exact Go.step st' (k T' (X.mk' X' e' X.fr X.old))
theorem Go.instNo (X : Cx p l e R s m args below meth c Z own nm bytes maxL rt T locs cells slots h) (pc' : Nat) {K D : String} {idx : Nat} {a : Addr} (w : (Jvm.Cond.classLink own idx K).before a0 Z = true) (E : Exa Z h a D) (F : ∃ c t, Z.vm.findClass D = some c ∧ Z.vm.findClass K = some t ∧ Z.vm.assignable c t = false) (hd : decode bytes pc = .ok (.instanceof idx, 3)) (k : ∀ T', Cx p l e R s m args below meth c Z own nm bytes maxL rt T' locs cells slots h → Go p e below En T' m pc' Ls (.int 0 :: st)) (hp : pc + 3 = pc' := by rfl) : Go p e below En T m pc Ls (.ref a :: st) := by
  subst hp
  obtain ⟨T', X', e', st'⟩ := RoadKit.instNo X.sd X.hx X.hZ X.hown w X.eq E F (g := mkF m pc Ls (.ref a :: st)) rfl rfl (hb X.hby hd)
  exact Go.step st' (k T' (X.mk' X' e' X.fr X.old))
theorem Go.instNull (X : Cx p l e R s m args below meth c Z own nm bytes maxL rt T locs cells slots h) (pc' : Nat) {idx : Nat} (hd : decode bytes pc = .ok (.instanceof idx, 3)) (k : Go p e below En T m pc' Ls (.int 0 :: st)) (hp : pc + 3 = pc' := by rfl) : Go p e below En T m pc Ls (.null :: st) := by
  subst hp
  exact Go.step (Jvm.Stand.instanceofNull X.sd X.hx (g := mkF m pc Ls (.null :: st)) rfl rfl (hb X.hby hd)) k
theorem own_noSub {C S K : String} {n : Nat} (w : (Jvm.Cond.superclass C S).before a0 Z = true) (wk : (Jvm.Cond.instantiable K n).before a0 Z = true) (wr : (Jvm.Cond.noSuperclass S).before a0 Z = true) (h1 : C ≠ K) (h2 : S ≠ K) : ∃ c t, Z.vm.findClass C = some c ∧ Z.vm.findClass K = some t ∧ Z.vm.assignable c t = false := by
  obtain ⟨t, kt, g1, g2, g3, g4, -⟩ := Cond.instantiable_spec wk
  have hi : kt.isInterface = false := by rw [Bool.or_eq_false_iff] at g4; exact g4.1
  have nr : NS Z S K := by
    obtain ⟨c, k, r1, r2, r3, -, -⟩ := Cond.noSuperclass_spec wr
    refine ⟨c, t, r1, g1, fun fuel => ?_⟩
    have ne := ids_ne r1 g1 h2
    cases fuel with
    | zero => rfl
    | succ f => simp [Vm.isSubclassAux, ne, r2, r3]
  obtain ⟨c, t', h0, g0, n3⟩ := NS.step w nr h1
  cases g1.symm.trans g0
  obtain ⟨p, k, kp, -, k2, -, -, k5, -, -⟩ := Cond.superclass_spec h0 w
  have ne := ids_ne h0 g1 h1
  refine ⟨c, t, h0, g1, ?_⟩
  show Z.vm.assignableAux (255 + 1) c t = false
  simp [Vm.assignableAux, ne, k2, g2, k5, g3, hi, Vm.isSubclass, n3]
theorem Go.mono {En' : Option Value → State → Prop} (f : ∀ v t, En' v t → En v t) (k : Go p e below En' T m pc Ls st) : Go p e below En T m pc Ls st := by
  obtain ⟨s₂, v, k1, k2, k3, k4⟩ := k
  exact ⟨s₂, v, k1, k2, k3, f _ _ k4⟩
theorem Cx.back (X : Cx p l e R s m args below meth c Z own nm bytes maxL rt T locs cells slots h) {y : MethodName} {by' : ByteArray} {ml' : Nat} {rt' : Option FieldType} {rm : Room} {as' : Array Value} {Q' : Option Value → Heap → Prop} {len W : Nat} (ct : Ct l Z [] y by' ml' rt' rm as' h Q') (wc : (Jvm.Cond.code y by' ml' rt').before a0 Z = true) (wz : (Jvm.Cond.initialized y.cls).before a0 Z = true) (hf : rm.frames + 1 ≤ R.frames) (hl : W + (ml' + 11) + rm.locals ≤ R.locals) :
    Back l R p e below s args y len W (fun A a => a = as' ∧ A.U.heap = h ∧ A.cells + rm.cells ≤ R.cells ∧ A.slots + rm.slots ≤ R.slots) (fun A _ v B => ∃ L, (Fr Z.heap.size L ∧ Ext Z.heap B.U.heap ∧ Q' v B.U.heap) ∧ B.locs = A.locs ++ L ∧ B.cells = A.cells + rm.cells ∧ B.slots = A.slots + rm.slots) :=
  backOf (Q := fun v hh L => Fr Z.heap.size L ∧ Ext Z.heap hh ∧ Q' v hh) (ct X.old) X.hZ wc wz hf hl
theorem Go.callS (X : Cx p l e R s m args below meth c Z own nm bytes maxL rt T locs cells slots h) (pc' : Nat) {idx : Nat} {y : MethodName} {by' : ByteArray} {ml' : Nat} {rt' : Option FieldType} {rm : Room} {ps : List FieldType} {rr : Option FieldType} {Q' : Option Value → Heap → Prop} (argsL rest : List Value) (W : Nat) (wl : (Jvm.Cond.methodLink own idx y).before a0 Z = true) (ws : (Jvm.Cond.static y).before a0 Z = true) (wz : (Jvm.Cond.initialized y.cls).before a0 Z = true) (hy : y.cls ≠ "java/lang/invoke/MethodHandle" ∧ y.cls ≠ "java/lang/invoke/VarHandle") (wc : (Jvm.Cond.code y by' ml' rt').before a0 Z = true) (pd : parseMethodDescriptor y.desc = some ⟨ps, rr⟩) (hd : decode bytes pc = .ok (.invokestatic idx, 3)) (ct : Ct l Z [] y by' ml' rt' rm (argsL.toArray) h Q') (hlen : argsL.length = ps.length) (hst : st = argsL.reverse ++ rest) (hsz : Ls.size = maxL) (hW : (rest.map fun v => v.category).sum ≤ W) (hf : rm.frames + 1 ≤ R.frames) (hl : W + (ml' + 11) + rm.locals ≤ R.locals) (hce : cells + rm.cells ≤ R.cells) (hsl : slots + rm.slots ≤ R.slots)
    (k : ∀ T' v L, Cx p l e R s m args below meth c Z own nm bytes maxL rt T' (locs ++ L) (cells + rm.cells) (slots + rm.slots) T'.heap → Q' v T'.heap → Go p e below En T' m pc' Ls (v.toList ++ rest)) (hp : pc + 3 = pc' := by rfl) : Go p e below En T m pc Ls st := by
  subst hp
  obtain ⟨v, _, ⟨T', L', k', n'⟩, -, X', ⟨L, hq, e1, e2, e3⟩, st'⟩ := Jvm.LawKit.callS X.sd X.hx (y := y) X.hown (mvT X.hZ wl) (mvT X.hZ ws) (mvT X.hZ wz) (mvT X.hZ wc) hy (X.back (W := W) ct wc wz hf hl) (g := mkF m pc Ls st) rfl (hsz.trans X.hml.symm) (argsL := argsL) (rest := rest) (lenOf pd hlen) hst (by simpa using hW) (hb X.hby hd) (fun _ _ => ⟨rfl, X.eq, hce, hsl⟩)
  dsimp only [Pt.U, Pt.locs, Pt.cells, Pt.slots] at X' e1 e2 e3 st' hq
  subst e1 e2 e3
  exact Go.step st' (k T' v L (X.mk' X' rfl (X.fr.app hq.1) hq.2.1) hq.2.2)
theorem Go.callSP (X : Cx p l e R s m args below meth c Z own nm bytes maxL rt T locs cells slots h) (pc' : Nat) {idx : Nat} {y : MethodName} {by' : ByteArray} {ml' : Nat} {rt' : Option FieldType} {rm : Room} {ps : List FieldType} {rr : Option FieldType} {v : Value} (argsL rest : List Value) (W : Nat) (wl : (Jvm.Cond.methodLink own idx y).before a0 Z = true) (ws : (Jvm.Cond.static y).before a0 Z = true) (wz : (Jvm.Cond.initialized y.cls).before a0 Z = true) (hy : y.cls ≠ "java/lang/invoke/MethodHandle" ∧ y.cls ≠ "java/lang/invoke/VarHandle") (wc : (Jvm.Cond.code y by' ml' rt').before a0 Z = true) (pd : parseMethodDescriptor y.desc = some ⟨ps, rr⟩) (hd : decode bytes pc = .ok (.invokestatic idx, 3)) (ct : Ct l Z [] y by' ml' rt' rm (argsL.toArray) h (Pu h v)) (hlen : argsL.length = ps.length) (hst : st = argsL.reverse ++ rest) (hsz : Ls.size = maxL) (hW : (rest.map fun v => v.category).sum ≤ W) (hf : rm.frames + 1 ≤ R.frames) (hl : W + (ml' + 11) + rm.locals ≤ R.locals) (hce : cells + rm.cells ≤ R.cells) (hsl : slots + rm.slots ≤ R.slots)
    (k : ∀ T' L, Cx p l e R s m args below meth c Z own nm bytes maxL rt T' (locs ++ L) (cells + rm.cells) (slots + rm.slots) h → Go p e below En T' m pc' Ls (v :: rest)) (hp : pc + 3 = pc' := by rfl) : Go p e below En T m pc Ls st :=
  Go.callS X pc' argsL rest W wl ws wz hy wc pd hd ct hlen hst hsz hW hf hl hce hsl (fun T' v' L X' q => by
    obtain ⟨rfl, q2⟩ := q
    rw [q2] at X'
    exact k T' L X') hp
theorem Go.callI (X : Cx p l e R s m args below meth c Z own nm bytes maxL rt T locs cells slots h) (pc' : Nat) {idx : Nat} {y : MethodName} {by' : ByteArray} {ml' : Nat} {rt' : Option FieldType} {rm : Room} {ps : List FieldType} {rr : Option FieldType} {a : Addr} {Q' : Option Value → Heap → Prop} (argsL rest : List Value) (W : Nat) (hy1 : y.name = "<init>") (wl : (Jvm.Cond.methodLink own idx y).before a0 Z = true) (wm : (Jvm.Cond.instanceMethod y).before a0 Z = true) (wz : (Jvm.Cond.initialized y.cls).before a0 Z = true) (hy : y.cls ≠ "java/lang/invoke/MethodHandle" ∧ y.cls ≠ "java/lang/invoke/VarHandle") (hrn : rt' = none) (wc : (Jvm.Cond.code y by' ml' rt').before a0 Z = true) (pd : parseMethodDescriptor y.desc = some ⟨ps, rr⟩) (hd : decode bytes pc = .ok (.invokespecial idx, 3)) (ct : Ct l Z [] y by' ml' rt' rm ((Value.ref a :: argsL).toArray) h Q') (hlen : argsL.length = ps.length) (hst : st = argsL.reverse ++ .ref a :: rest) (hsz : Ls.size = maxL) (hW : (rest.map fun v => v.category).sum ≤ W) (hf : rm.frames + 1 ≤ R.frames) (hl : W + (ml' + 11) + rm.locals ≤ R.locals) (hce : cells + rm.cells ≤ R.cells) (hsl : slots + rm.slots ≤ R.slots)
    (k : ∀ T' v L, Cx p l e R s m args below meth c Z own nm bytes maxL rt T' (locs ++ L) (cells + rm.cells) (slots + rm.slots) T'.heap → Q' v T'.heap → Go p e below En T' m pc' Ls (v.toList ++ rest)) (hp : pc + 3 = pc' := by rfl) : Go p e below En T m pc Ls st := by
  subst hp
  subst hrn
  obtain ⟨v, _, ⟨T', L', k', n'⟩, -, X', ⟨L, hq, e1, e2, e3⟩, st'⟩ := X.sd.specialBack X.hx (y := y) hy1 X.hown (mvT X.hZ wl) (mvT X.hZ wm) (mvT X.hZ wc) hy (X.back (W := W) ct wc wz hf hl) (g := mkF m pc Ls st) rfl (hsz.trans X.hml.symm) (Steps.refl _) (a := a) (argsL := argsL) (rest := rest) (lenOf pd hlen) hst (by simpa using hW) (hb X.hby hd) (fun _ _ => ⟨rfl, X.eq, hce, hsl⟩)
  dsimp only [Pt.U, Pt.locs, Pt.cells, Pt.slots] at X' e1 e2 e3 st' hq
  subst e1 e2 e3
  exact Go.step (fun _ hr => Steps.trans st' hr) (k T' v L (X.mk' X' rfl (X.fr.app hq.1) hq.2.1) hq.2.2)
theorem Go.callIP (X : Cx p l e R s m args below meth c Z own nm bytes maxL rt T locs cells slots h) (pc' : Nat) {idx : Nat} {y : MethodName} {by' : ByteArray} {ml' : Nat} {rt' : Option FieldType} {rm : Room} {ps : List FieldType} {rr : Option FieldType} {a : Addr} {v : Value} (argsL rest : List Value) (W : Nat) (hy1 : y.name = "<init>") (wl : (Jvm.Cond.methodLink own idx y).before a0 Z = true) (wm : (Jvm.Cond.instanceMethod y).before a0 Z = true) (wz : (Jvm.Cond.initialized y.cls).before a0 Z = true) (hy : y.cls ≠ "java/lang/invoke/MethodHandle" ∧ y.cls ≠ "java/lang/invoke/VarHandle") (hrn : rt' = none) (wc : (Jvm.Cond.code y by' ml' rt').before a0 Z = true) (pd : parseMethodDescriptor y.desc = some ⟨ps, rr⟩) (hd : decode bytes pc = .ok (.invokespecial idx, 3)) (ct : Ct l Z [] y by' ml' rt' rm ((Value.ref a :: argsL).toArray) h (Pu h v)) (hlen : argsL.length = ps.length) (hst : st = argsL.reverse ++ .ref a :: rest) (hsz : Ls.size = maxL) (hW : (rest.map fun v => v.category).sum ≤ W) (hf : rm.frames + 1 ≤ R.frames) (hl : W + (ml' + 11) + rm.locals ≤ R.locals) (hce : cells + rm.cells ≤ R.cells) (hsl : slots + rm.slots ≤ R.slots)
    (k : ∀ T' L, Cx p l e R s m args below meth c Z own nm bytes maxL rt T' (locs ++ L) (cells + rm.cells) (slots + rm.slots) h → Go p e below En T' m pc' Ls (v :: rest)) (hp : pc + 3 = pc' := by rfl) : Go p e below En T m pc Ls st :=
  Go.callI X pc' argsL rest W hy1 wl wm wz hy hrn wc pd hd ct hlen hst hsz hW hf hl hce hsl (fun T' v' L X' q => by
    obtain ⟨rfl, q2⟩ := q
    rw [q2] at X'
    exact k T' L X') hp
theorem Go.callV (X : Cx p l e R s m args below meth c Z own nm bytes maxL rt T locs cells slots h) (pc' : Nat) {idx : Nat} {y z : MethodName} {C : String} {by' : ByteArray} {ml' : Nat} {rt' : Option FieldType} {rm : Room} {ps : List FieldType} {rr : Option FieldType} {a : Addr} {Q' : Option Value → Heap → Prop} (argsL rest : List Value) (W : Nat) (wl : (Jvm.Cond.methodLink own idx y).before a0 Z = true) (wd : (Jvm.Cond.declares y).before a0 Z = true) (wf : (Jvm.Cond.selects C y z).before a0 Z = true) (nf : NotFace s y) (wm : (Jvm.Cond.instanceMethod z).before a0 Z = true) (wz : (Jvm.Cond.initialized z.cls).before a0 Z = true) (hy : y.cls ≠ "java/lang/invoke/MethodHandle" ∧ y.cls ≠ "java/lang/invoke/VarHandle") (E : Exa Z h a C) (wc : (Jvm.Cond.code z by' ml' rt').before a0 Z = true) (pd : parseMethodDescriptor y.desc = some ⟨ps, rr⟩) (hd : decode bytes pc = .ok (.invokevirtual idx, 3)) (ct : Ct l Z [] z by' ml' rt' rm ((Value.ref a :: argsL).toArray) h Q') (hlen : argsL.length = ps.length) (hst : st = argsL.reverse ++ .ref a :: rest) (hsz : Ls.size = maxL) (hW : (rest.map fun v => v.category).sum ≤ W) (hf : rm.frames + 1 ≤ R.frames) (hl : W + (ml' + 11) + rm.locals ≤ R.locals) (hce : cells + rm.cells ≤ R.cells) (hsl : slots + rm.slots ≤ R.slots)
    (k : ∀ T' v L, Cx p l e R s m args below meth c Z own nm bytes maxL rt T' (locs ++ L) (cells + rm.cells) (slots + rm.slots) T'.heap → Q' v T'.heap → Go p e below En T' m pc' Ls (v.toList ++ rest)) (hp : pc + 3 = pc' := by rfl) : Go p e below En T m pc Ls st := by
  subst hp
  obtain ⟨cq, kq, qa, qb, qc⟩ := isOf X.hZ X.eq E
  obtain ⟨v, _, ⟨T', L', k', n'⟩, -, X', ⟨L, hq, e1, e2, e3⟩, st'⟩ := X.sd.virtualBack X.hx (y := y) (z := z) X.hown (mvT X.hZ wl) (mvT X.hZ wd) nf (mvT X.hZ wf) (mvT X.hZ wm) hy (X.back (W := W) ct wc wz hf hl) qa qc (g := mkF m pc Ls st) rfl (hsz.trans X.hml.symm) (Steps.refl _) (argsL := argsL) (rest := rest) (lenOf pd hlen) hst (by simpa using hW) (hb X.hby hd) (fun _ _ => ⟨rfl, X.eq, hce, hsl⟩)
  dsimp only [Pt.U, Pt.locs, Pt.cells, Pt.slots] at X' e1 e2 e3 st' hq
  subst e1 e2 e3
  exact Go.step (fun _ hr => Steps.trans st' hr) (k T' v L (X.mk' X' rfl (X.fr.app hq.1) hq.2.1) hq.2.2)
theorem Go.callVP (X : Cx p l e R s m args below meth c Z own nm bytes maxL rt T locs cells slots h) (pc' : Nat) {idx : Nat} {y z : MethodName} {C : String} {by' : ByteArray} {ml' : Nat} {rt' : Option FieldType} {rm : Room} {ps : List FieldType} {rr : Option FieldType} {a : Addr} {v : Value} (argsL rest : List Value) (W : Nat) (wl : (Jvm.Cond.methodLink own idx y).before a0 Z = true) (wd : (Jvm.Cond.declares y).before a0 Z = true) (wf : (Jvm.Cond.selects C y z).before a0 Z = true) (nf : NotFace s y) (wm : (Jvm.Cond.instanceMethod z).before a0 Z = true) (wz : (Jvm.Cond.initialized z.cls).before a0 Z = true) (hy : y.cls ≠ "java/lang/invoke/MethodHandle" ∧ y.cls ≠ "java/lang/invoke/VarHandle") (E : Exa Z h a C) (wc : (Jvm.Cond.code z by' ml' rt').before a0 Z = true) (pd : parseMethodDescriptor y.desc = some ⟨ps, rr⟩) (hd : decode bytes pc = .ok (.invokevirtual idx, 3)) (ct : Ct l Z [] z by' ml' rt' rm ((Value.ref a :: argsL).toArray) h (Pu h v)) (hlen : argsL.length = ps.length) (hst : st = argsL.reverse ++ .ref a :: rest) (hsz : Ls.size = maxL) (hW : (rest.map fun v => v.category).sum ≤ W) (hf : rm.frames + 1 ≤ R.frames) (hl : W + (ml' + 11) + rm.locals ≤ R.locals) (hce : cells + rm.cells ≤ R.cells) (hsl : slots + rm.slots ≤ R.slots)
    (k : ∀ T' L, Cx p l e R s m args below meth c Z own nm bytes maxL rt T' (locs ++ L) (cells + rm.cells) (slots + rm.slots) h → Go p e below En T' m pc' Ls (v :: rest)) (hp : pc + 3 = pc' := by rfl) : Go p e below En T m pc Ls st :=
  Go.callV X pc' argsL rest W wl wd wf nf wm wz hy E wc pd hd ct hlen hst hsz hW hf hl hce hsl (fun T' v' L X' q => by
    obtain ⟨rfl, q2⟩ := q
    rw [q2] at X'
    exact k T' L X') hp
theorem Go.callU (X : Cx p l e R s m args below meth c Z own nm bytes maxL rt T locs cells slots h) (pc' : Nat) {idx : Nat} {y z : MethodName} {C owner : String} {by' : ByteArray} {ml' : Nat} {rt' : Option FieldType} {rm : Room} {ps : List FieldType} {rr : Option FieldType} {a : Addr} {Q' : Option Value → Heap → Prop} (argsL rest : List Value) (W : Nat) (wl : (Jvm.Cond.methodLink own idx y).before a0 Z = true) (wsm : (Jvm.Cond.sameMethod y.cls owner y.name y.desc).before a0 Z = true) (wd : (Jvm.Cond.declares ⟨owner, y.name, y.desc⟩).before a0 Z = true) (wf : (Jvm.Cond.selects C y z).before a0 Z = true) (wm : (Jvm.Cond.instanceMethod z).before a0 Z = true) (wz : (Jvm.Cond.initialized z.cls).before a0 Z = true) (hy : owner ≠ "java/lang/invoke/MethodHandle" ∧ owner ≠ "java/lang/invoke/VarHandle") (E : Exa Z h a C) (wc : (Jvm.Cond.code z by' ml' rt').before a0 Z = true) (pd : parseMethodDescriptor y.desc = some ⟨ps, rr⟩) (hd : decode bytes pc = .ok (.invokevirtual idx, 3)) (ct : Ct l Z [] z by' ml' rt' rm ((Value.ref a :: argsL).toArray) h Q') (hlen : argsL.length = ps.length) (hst : st = argsL.reverse ++ .ref a :: rest) (hsz : Ls.size = maxL) (hW : (rest.map fun v => v.category).sum ≤ W) (hf : rm.frames + 1 ≤ R.frames) (hl : W + (ml' + 11) + rm.locals ≤ R.locals) (hce : cells + rm.cells ≤ R.cells) (hsl : slots + rm.slots ≤ R.slots)
    (k : ∀ T' v L, Cx p l e R s m args below meth c Z own nm bytes maxL rt T' (locs ++ L) (cells + rm.cells) (slots + rm.slots) T'.heap → Q' v T'.heap → Go p e below En T' m pc' Ls (v.toList ++ rest)) (hp : pc + 3 = pc' := by rfl) : Go p e below En T m pc Ls st := by
  subst hp
  obtain ⟨cq, kq, qa, qb, qc⟩ := isOf X.hZ X.eq E
  obtain ⟨v, _, ⟨T', L', k', n'⟩, -, X', ⟨L, hq, e1, e2, e3⟩, st'⟩ := X.sd.virtualBackUp X.hx (x := y) (y := z) X.hown (mvT X.hZ wl) (mvT X.hZ wsm) (mvT X.hZ wd) hy (mvT X.hZ wf) (mvT X.hZ wm) (X.back (W := W) ct wc wz hf hl) qa qc (g := mkF m pc Ls st) rfl (hsz.trans X.hml.symm) (Steps.refl _) (argsL := argsL) (rest := rest) (lenOf pd hlen) hst (by simpa using hW) (hb X.hby hd) (fun _ _ => ⟨rfl, X.eq, hce, hsl⟩)
  dsimp only [Pt.U, Pt.locs, Pt.cells, Pt.slots] at X' e1 e2 e3 st' hq
  subst e1 e2 e3
  exact Go.step (fun _ hr => Steps.trans st' hr) (k T' v L (X.mk' X' rfl (X.fr.app hq.1) hq.2.1) hq.2.2)
theorem Go.callUP (X : Cx p l e R s m args below meth c Z own nm bytes maxL rt T locs cells slots h) (pc' : Nat) {idx : Nat} {y z : MethodName} {C owner : String} {by' : ByteArray} {ml' : Nat} {rt' : Option FieldType} {rm : Room} {ps : List FieldType} {rr : Option FieldType} {a : Addr} {v : Value} (argsL rest : List Value) (W : Nat) (wl : (Jvm.Cond.methodLink own idx y).before a0 Z = true) (wsm : (Jvm.Cond.sameMethod y.cls owner y.name y.desc).before a0 Z = true) (wd : (Jvm.Cond.declares ⟨owner, y.name, y.desc⟩).before a0 Z = true) (wf : (Jvm.Cond.selects C y z).before a0 Z = true) (wm : (Jvm.Cond.instanceMethod z).before a0 Z = true) (wz : (Jvm.Cond.initialized z.cls).before a0 Z = true) (hy : owner ≠ "java/lang/invoke/MethodHandle" ∧ owner ≠ "java/lang/invoke/VarHandle") (E : Exa Z h a C) (wc : (Jvm.Cond.code z by' ml' rt').before a0 Z = true) (pd : parseMethodDescriptor y.desc = some ⟨ps, rr⟩) (hd : decode bytes pc = .ok (.invokevirtual idx, 3)) (ct : Ct l Z [] z by' ml' rt' rm ((Value.ref a :: argsL).toArray) h (Pu h v)) (hlen : argsL.length = ps.length) (hst : st = argsL.reverse ++ .ref a :: rest) (hsz : Ls.size = maxL) (hW : (rest.map fun v => v.category).sum ≤ W) (hf : rm.frames + 1 ≤ R.frames) (hl : W + (ml' + 11) + rm.locals ≤ R.locals) (hce : cells + rm.cells ≤ R.cells) (hsl : slots + rm.slots ≤ R.slots)
    (k : ∀ T' L, Cx p l e R s m args below meth c Z own nm bytes maxL rt T' (locs ++ L) (cells + rm.cells) (slots + rm.slots) h → Go p e below En T' m pc' Ls (v :: rest)) (hp : pc + 3 = pc' := by rfl) : Go p e below En T m pc Ls st :=
  Go.callU X pc' argsL rest W wl wsm wd wf wm wz hy E wc pd hd ct hlen hst hsz hW hf hl hce hsl (fun T' v' L X' q => by
    obtain ⟨rfl, q2⟩ := q
    rw [q2] at X'
    exact k T' L X') hp
theorem Cx.more {cells' slots' : Nat} (X : Cx p l e R s m args below meth c Z own nm bytes maxL rt T locs cells slots h) (q : cells ≤ cells' := by decide) (r : slots ≤ slots' := by decide) : Cx p l e R s m args below meth c Z own nm bytes maxL rt T locs cells' slots' h := X.mk' (X.sd.more q r) X.eq X.fr X.old
theorem Go.join (X : Cx p l e R s m args below meth c Z own nm bytes maxL rt T locs cells slots h) {α : Type} (P : α → Heap → Prop) (pc1 : Nat) (Ls1 : α → Array Slot) (st1 : α → List Value) (c1 s1 : Nat)
    (tail : ∀ T' locs' h' a, Cx p l e R s m args below meth c Z own nm bytes maxL rt T' locs' c1 s1 h' → P a h' → Go p e below En T' m pc1 (Ls1 a) (st1 a))
    (heads : (∀ T' locs' h' a, Cx p l e R s m args below meth c Z own nm bytes maxL rt T' locs' c1 s1 h' → P a h' → Go p e below En T' m pc1 (Ls1 a) (st1 a)) → Go p e below En T m pc Ls st) : Go p e below En T m pc Ls st := heads tail
end Kit

section Ankit
variable {p : Program} {l : Launch} {e : Env} {R : Room} {s : State} {m : MethodId} {args : Array Value} {below : List Frame} {meth : Method} {c : Code} {T : State} {locs : List Loc} {cells slots : Nat} {Z : State} {a0 : Array Value} {h h' : Heap} {own nm : String} {bytes : ByteArray} {maxL : Nat} {rt : Option FieldType} {En : Option Value → State → Prop} {pc : Nat} {Ls : Array Slot} {st : List Value}
theorem n_int {n : Nat} (hn : n < 2147483648) : (Int32.ofNat n).toInt = n := len_toInt hn
theorem n_succ (i : Nat) : Int32.ofNat i + 1 = Int32.ofNat (i + 1) := by rw [Int32.ofNat_add]; rfl
theorem n_lt {i n : Nat} (hi : i < n) (hn : n < 2147483648) : Int32.ofNat i < Int32.ofNat n := by rw [Int32.lt_iff_toInt_lt, n_int hn, n_int (by omega)]; omega
theorem n_nlt {i n : Nat} (hi : n ≤ i) (hn : i < 2147483648) : ¬ Int32.ofNat i < Int32.ofNat n := by rw [Int32.lt_iff_toInt_lt, n_int hn, n_int (by omega)]; omega
theorem n_nn {n : Nat} (hn : n < 2147483648) : ¬ Int32.ofNat n < 0 := by rw [Int32.lt_iff_toInt_lt, n_int hn]; simp
theorem n_cl {n : Nat} (hn : n < 2147483648) : (Int32.ofNat n).toNatClampNeg = n := by simp [Int32.toNatClampNeg, n_int hn]
theorem n_inj {i n : Nat} (hi : i < 2147483648) (hn : n < 2147483648) (q : Int32.ofNat i = Int32.ofNat n) : i = n := by
  have := congrArg Int32.toInt q
  rw [n_int hi, n_int hn] at this
  omega
theorem n_b (x : Int32) : x.toInt8.toInt32.toInt8.toInt32 = x.toInt8.toInt32 := by simp
theorem n_nb (x : Int32) : nar .byte x.toInt8.toInt32 = x.toInt8.toInt32 := n_b x
/-- an array of n ints (bytes, chars ..) that holds f 0, f 1, .. -/
def An (Z : State) (h : Heap) (a : Addr) (ty : FieldType) (n : Nat) (f : Nat → Int32) : Prop := n < 2147483648 ∧ ∃ k vs d, Arv Z h a k ty (Int32.ofNat n) vs d ∧ vs.length = n ∧ ∀ j, j < n → vs.getD j d = Value.int (f j)
def upd (f : Nat → Int32) (i : Nat) (x : Int32) : Nat → Int32 := fun j => if j = i then x else f j
variable {a b : Addr} {ty : FieldType} {n : Nat} {f g : Nat → Int32}
theorem An.len (A : An Z h a ty n f) : n < 2147483648 := A.1
theorem An.lt (A : An Z h a ty n f) : a < h.size := by obtain ⟨-, k, vs, d, V, -⟩ := A; exact V.lt
theorem An.ext (A : An Z h a ty n f) (E : Ext h h') : An Z h' a ty n f := by obtain ⟨q, k, vs, d, V, r⟩ := A; exact ⟨q, k, vs, d, V.ext E, r⟩
theorem An.other {i : Nat} {x : Value} (A : An Z h b ty n f) (W : Wr h h' a i x) (q : b ≠ a) : An Z h' b ty n f := by obtain ⟨q0, k, vs, d, V, r⟩ := A; exact ⟨q0, k, vs, d, V.other W q, r⟩
theorem An.keep {ws : List Addr} (A : An Z h a ty n f) (K : Keep h h' ws) (q : a ∉ ws) : An Z h' a ty n f := by obtain ⟨q0, k, vs, d, V, r⟩ := A; exact ⟨q0, k, vs, d, V.keep K q, r⟩
theorem An.congr (A : An Z h a ty n f) (q : ∀ j, j < n → f j = g j) : An Z h a ty n g := by obtain ⟨q0, k, vs, d, V, r1, r2⟩ := A; exact ⟨q0, k, vs, d, V, r1, fun j hj => by rw [r2 j hj, q j hj]⟩
theorem An.new {k : ClassId} (V : Arv Z h a k ty (Int32.ofNat n) [] (.int 0)) (hn : n < 2147483648) : An Z h a ty n (fun _ => 0) := by
  refine ⟨hn, k, List.replicate n (.int 0), .int 0, V.pad (pad_rep [] (.int 0) n), by simp, fun j hj => ?_⟩
  rw [List.getD_eq_getElem?_getD, List.getElem?_replicate]
  simp [hj]
theorem An.inb (A : An Z h a ty n f) {i : Nat} (hi : i < n) : ¬ Int32.ofNat i < 0 ∧ Int32.ofNat i < Int32.ofNat n := ⟨n_nn (Nat.lt_trans hi A.1), n_lt hi A.1⟩
theorem An.sets {k : ClassId} {vs : List Value} {d : Value} {i : Nat} {x : Int32} (V : Arv Z h a k ty (Int32.ofNat n) (vs.set i (.int x)) d) (hn : n < 2147483648) (hl : vs.length = n) (hi : i < n) (r : ∀ j, j < n → vs.getD j d = Value.int (f j)) : An Z h a ty n (upd f i x) := by
  refine ⟨hn, k, vs.set i (.int x), d, V, by simp [hl], fun j hj => ?_⟩
  unfold upd
  rw [List.getD_eq_getElem?_getD]
  by_cases q : j = i
  · subst q
    rw [List.getElem?_set_self (by omega), if_pos rfl]; rfl
  · rw [List.getElem?_set_ne (Ne.symm q), if_neg q, ← List.getD_eq_getElem?_getD]; exact r j hj
theorem Go.alenN (X : Cx p l e R s m args below meth c Z own nm bytes maxL rt T locs cells slots h) (pc' : Nat) (A : An Z h a ty n f) (hd : decode bytes pc = .ok (.arraylength, 1)) (k : Go p e below En T m pc' Ls (.int (Int32.ofNat n) :: st)) (hp : pc + 1 = pc' := by rfl) : Go p e below En T m pc Ls (.ref a :: st) := by
  obtain ⟨q, kA, vs, d, V, r1, r2⟩ := A
  exact Go.alen X pc' V hd k hp
theorem Go.caN (X : Cx p l e R s m args below meth c Z own nm bytes maxL rt T locs cells slots h) (pc' : Nat) (A : An Z h a .char n f) (i : Nat) (hi : i < n) (hd : decode bytes pc = .ok (.caload, 1)) (k : Go p e below En T m pc' Ls (.int (f i) :: st)) (hp : pc + 1 = pc' := by rfl) : Go p e below En T m pc Ls (.int (Int32.ofNat i) :: .ref a :: st) := by
  have hj := A.inb hi
  obtain ⟨q, kA, vs, d, V, r1, r2⟩ := A
  exact Go.caload X pc' V hd hj (by rw [n_cl (Nat.lt_trans hi q)]; exact r2 i hi) k hp
theorem Go.baN (X : Cx p l e R s m args below meth c Z own nm bytes maxL rt T locs cells slots h) (pc' : Nat) (A : An Z h a .byte n f) (i : Nat) (hi : i < n) (hd : decode bytes pc = .ok (.baload, 1)) (k : Go p e below En T m pc' Ls (.int (f i) :: st)) (hp : pc + 1 = pc' := by rfl) : Go p e below En T m pc Ls (.int (Int32.ofNat i) :: .ref a :: st) := by
  have hj := A.inb hi
  obtain ⟨q, kA, vs, d, V, r1, r2⟩ := A
  exact Go.baload X pc' V hd hj (by rw [n_cl (Nat.lt_trans hi q)]; exact r2 i hi) k hp
theorem Go.stCN (X : Cx p l e R s m args below meth c Z own nm bytes maxL rt T locs cells slots h) (pc' : Nat) {x : Int32} (A : An Z h a .char n f) (i : Nat) (hi : i < n) (hd : decode bytes pc = .ok (.castore, 1)) (ha : Z.heap.size ≤ a)
    (k : ∀ T' h' w, Cx p l e R s m args below meth c Z own nm bytes maxL rt T' (locs ++ [⟨a, w⟩]) cells slots h' → Wr h h' a w (.int (nar .char x)) → An Z h' a .char n (upd f i (nar .char x)) → Go p e below En T' m pc' Ls st) (hp : pc + 1 = pc' := by rfl) : Go p e below En T m pc Ls (.int x :: .int (Int32.ofNat i) :: .ref a :: st) := by
  have hj := A.inb hi
  obtain ⟨q, kA, vs, d, V, r1, r2⟩ := A
  exact Go.stC X pc' V hd hj i (n_cl (Nat.lt_trans hi q)) (by omega) ha (fun T' h' X' W V' => k T' h' _ X' W (An.sets V' q r1 hi r2)) hp
theorem Go.stBN (X : Cx p l e R s m args below meth c Z own nm bytes maxL rt T locs cells slots h) (pc' : Nat) {x : Int32} (A : An Z h a .byte n f) (i : Nat) (hi : i < n) (hd : decode bytes pc = .ok (.bastore, 1)) (ha : Z.heap.size ≤ a)
    (k : ∀ T' h' w, Cx p l e R s m args below meth c Z own nm bytes maxL rt T' (locs ++ [⟨a, w⟩]) cells slots h' → Wr h h' a w (.int (nar .byte x)) → An Z h' a .byte n (upd f i (nar .byte x)) → Go p e below En T' m pc' Ls st) (hp : pc + 1 = pc' := by rfl) : Go p e below En T m pc Ls (.int x :: .int (Int32.ofNat i) :: .ref a :: st) := by
  have hj := A.inb hi
  obtain ⟨q, kA, vs, d, V, r1, r2⟩ := A
  exact Go.stB X pc' V hd hj i (n_cl (Nat.lt_trans hi q)) (by omega) ha (fun T' h' X' W V' => k T' h' _ X' W (An.sets V' q r1 hi r2)) hp
theorem Go.newC (X : Cx p l e R s m args below meth c Z own nm bytes maxL rt T locs cells slots h) (pc' : Nat) (w : (Jvm.Cond.arrayClass .char).before a0 Z = true) (hd : decode bytes pc = .ok (.newarray .char, 2)) (cap : Nat) (hcap : n ≤ cap) (hcp : cap ≤ 67108864) (hc : cells + 1 ≤ R.cells) (hl : slots + cap ≤ R.slots)
    (k : ∀ T' h' a, Cx p l e R s m args below meth c Z own nm bytes maxL rt T' locs (cells + 1) (slots + cap) h' → Ext h h' → h.size = a → An Z h' a .char n (fun _ => 0) → Go p e below En T' m pc' Ls (.ref a :: st)) (hp : pc + 2 = pc' := by rfl) : Go p e below En T m pc Ls (.int (Int32.ofNat n) :: st) := by
  have hn : n < 2147483648 := by omega
  exact Go.newP X pc' (aty := .char) w hd cap (n_nn hn) (by rw [n_cl hn]; exact hcap) (by omega) hc hl (fun T' h' a kA X' E q V => k T' h' a X' E q (An.new V hn)) hp
theorem Go.newB (X : Cx p l e R s m args below meth c Z own nm bytes maxL rt T locs cells slots h) (pc' : Nat) (w : (Jvm.Cond.arrayClass .byte).before a0 Z = true) (hd : decode bytes pc = .ok (.newarray .byte, 2)) (cap : Nat) (hcap : n ≤ cap) (hcp : cap ≤ 67108864) (hc : cells + 1 ≤ R.cells) (hl : slots + cap ≤ R.slots)
    (k : ∀ T' h' a, Cx p l e R s m args below meth c Z own nm bytes maxL rt T' locs (cells + 1) (slots + cap) h' → Ext h h' → h.size = a → An Z h' a .byte n (fun _ => 0) → Go p e below En T' m pc' Ls (.ref a :: st)) (hp : pc + 2 = pc' := by rfl) : Go p e below En T m pc Ls (.int (Int32.ofNat n) :: st) := by
  have hn : n < 2147483648 := by omega
  exact Go.newP X pc' (aty := .byte) w hd cap (n_nn hn) (by rw [n_cl hn]; exact hcap) (by omega) hc hl (fun T' h' a kA X' E q V => k T' h' a X' E q (An.new V hn)) hp
end Ankit
section Wide
variable {p : Program} {l : Launch} {e : Env} {R : Room} {s : State} {m : MethodId} {args : Array Value} {below : List Frame} {meth : Method} {c : Code} {T : State} {locs : List Loc} {cells slots : Nat} {Z : State} {a0 : Array Value} {h h' : Heap} {own nm : String} {bytes : ByteArray} {maxL : Nat} {rt : Option FieldType} {Q : Option Value → Heap → Prop} {ce sl : Nat} {En : Option Value → State → Prop} {pc : Nat} {Ls : Array Slot} {st : List Value} {vm0 : Vm} {EL : List (String × Nat)}
/-- the tables vm0 since the start s -/
def WS (s : State) (vm0 : Vm) (h : Heap) : Prop := ∃ k0, s.Since vm0 k0 ∧ k0 ≤ h.size
theorem WS.le (q : h.size ≤ h'.size) (H : WS s vm0 h) : WS s vm0 h' := by obtain ⟨k, k1, k2⟩ := H; exact ⟨k, k1, Nat.le_trans k2 q⟩
def FinW (s Z : State) (EL : List (String × Nat)) (Q : Option Value → Heap → Prop) (ce sl : Nat) : Option Value → State → Prop := fun v t => ∃ L, (Fr Z.heap.size L ∧ Ext Z.heap t.heap ∧ Q v t.heap) ∧ CHr Z EL s.vm s.heap t.vm t.heap ∧ ReturnedEndW s (.returned v) t L ce sl
def FinL (s Z : State) (Q : Option Value → Heap → Prop) (ce sl : Nat) : Option Value → State → Prop := fun v t => ∃ L, (Fr Z.heap.size L ∧ Ext Z.heap t.heap ∧ Q v t.heap) ∧ ReturnedEndW s (.returned v) t L ce sl
def CtW (l : Launch) (Z : State) (EL : List (String × Nat)) (ws : List Jvm.Cond) (y : MethodName) (bytes : ByteArray) (maxL : Nat) (rt : Option FieldType) (rm : Room) (as' : Array Value) (h : Heap) (Q : Option Value → Heap → Prop) : Prop :=
  Ext Z.heap h → MetFree l y (head1 (Jvm.Cond.code y bytes maxL rt :: ws) rm) (fun a U => a = as' ∧ Z.Warmed39 U.vm ∧ U.heap = h ∧ CHv Z EL U.vm h) (fun _ _ _ _ _ => True) (fun _ U o U' => ∃ v L, o = .returned v ∧ (Fr Z.heap.size L ∧ Ext Z.heap U'.heap ∧ Q v U'.heap) ∧ CHr Z EL U.vm U.heap U'.vm U'.heap ∧ ReturnedEndW U o U' L rm.cells rm.slots)
/-- the law's own contract: at its start the constants' words hold -/
def CtL (l : Launch) (Z : State) (EL : List (String × Nat)) (ws : List Jvm.Cond) (y : MethodName) (bytes : ByteArray) (maxL : Nat) (rt : Option FieldType) (rm : Room) (as' : Array Value) (h : Heap) (Q : Option Value → Heap → Prop) : Prop :=
  Ext Z.heap h → MetFree l y (head1 (Jvm.Cond.code y bytes maxL rt :: ws) rm) (fun a U => a = as' ∧ Z.Warmed39 U.vm ∧ U.heap = h ∧ CHv Z EL U.vm h) (fun _ _ _ _ _ => True) (fun _ U o U' => ∃ v L, o = .returned v ∧ (Fr Z.heap.size L ∧ Ext Z.heap U'.heap ∧ Q v U'.heap) ∧ ReturnedEndW U o U' L rm.cells rm.slots)
theorem CtW.of {y : MethodName} {ws : List Jvm.Cond} {rm : Room} {as' : Array Value} {Ls0 : Array Slot} (pn : plainName y.cls = true) (ef : ∀ m, entryFrame m as' maxL = mkF m 0 Ls0 [])
    (body : ∀ p e s m below meth c s₁, Cx p l e rm (s.setVm s.vm) m as' below meth c Z y.cls y.name bytes maxL rt s₁ [] 0 0 h → WS s s.vm h → CHr Z EL s.vm s.heap s.vm h → Go p e below (FinW s Z EL Q rm.cells rm.slots) s₁ m 0 Ls0 []) : CtW l Z EL ws y bytes maxL rt rm as' h Q := by
  intro hE
  refine MetFree.of_bodySF (plainFor_of_name pn) hisR ?_
  intro p e s m args below meth c s₁ Bd hml0 hP hK
  obtain ⟨rfl, hZ, hh, hC⟩ := hP
  have hown : s.vm.findClass y.cls = some m.cls := findClass_of_methodNamed Bd.named
  have hnm := (name_of_methodNamed Bd.named Bd.method).1
  have X0 : Stand p l e rm s m args below meth c s₁ [] 0 0 := Stand.of_body Bd
  have e0 : s₁.heap = h := by rw [← hh, Bd.state]; rfl
  obtain ⟨s₂, v, k1, k2, k3, L, k5, k6, k7⟩ := body p e s m below meth c s₁ ⟨X0, Bd.exec, hZ, hown, Bd.bytes, hml0, Bd.returns, hnm, Bd.notSynchronized, e0, Fr.nil _, hE⟩ ⟨0, (State.WarmedH.refl s).since 0, Nat.zero_le _⟩ (by rw [hh]; exact CHr.refl hC)
  exact ⟨s₂, _, castTop (ef m) k1, k2, k3, v, L, rfl, k5, k6, k7⟩
theorem CtL.of {y : MethodName} {ws : List Jvm.Cond} {rm : Room} {as' : Array Value} {Ls0 : Array Slot} (pn : plainName y.cls = true) (ef : ∀ m, entryFrame m as' maxL = mkF m 0 Ls0 [])
    (body : ∀ p e s m below meth c s₁, Cx p l e rm (s.setVm s.vm) m as' below meth c Z y.cls y.name bytes maxL rt s₁ [] 0 0 h → WS s s.vm h → CHv Z EL s.vm h → Go p e below (FinL s Z Q rm.cells rm.slots) s₁ m 0 Ls0 []) : CtL l Z EL ws y bytes maxL rt rm as' h Q := by
  intro hE
  refine MetFree.of_bodySF (plainFor_of_name pn) hisR ?_
  intro p e s m args below meth c s₁ Bd hml0 hP hK
  obtain ⟨rfl, hZ, hh, hC⟩ := hP
  have hown : s.vm.findClass y.cls = some m.cls := findClass_of_methodNamed Bd.named
  have hnm := (name_of_methodNamed Bd.named Bd.method).1
  have X0 : Stand p l e rm s m args below meth c s₁ [] 0 0 := Stand.of_body Bd
  have e0 : s₁.heap = h := by rw [← hh, Bd.state]; rfl
  obtain ⟨s₂, v, k1, k2, k3, L, k5, k6⟩ := body p e s m below meth c s₁ ⟨X0, Bd.exec, hZ, hown, Bd.bytes, hml0, Bd.returns, hnm, Bd.notSynchronized, e0, Fr.nil _, hE⟩ ⟨0, (State.WarmedH.refl s).since 0, Nat.zero_le _⟩ hC
  exact ⟨s₂, _, castTop (ef m) k1, k2, k3, v, L, rfl, k5, k6⟩
theorem Cx.finL (X : Cx p l e R (s.setVm vm0) m args below meth c Z own nm bytes maxL rt T locs cells slots h) (hS : WS s vm0 h) {v : Option Value} (hQ : Q v h) (hc : cells ≤ ce) (hs : slots ≤ sl) (hv : rt = none → v = none := by (intro q; first | rfl | (cases q; done))) : Lv e below (FinL s Z Q ce sl) T m v := by
  have hlk := X.hlk
  obtain ⟨k0, hk1, hk2⟩ := hS
  obtain ⟨fs, hr, hrun, hended, r1, r2, r3, r4⟩ := X.sd.leaveW hk1 (by rw [X.eq]; exact hk2) (v := v) (fun q => hv (X.hrt ▸ q)) hlk
  have q : (T.setFrames fs).heap = h := X.eq
  exact ⟨fs, hr, hrun, hended, locs, ⟨X.fr, by rw [q]; exact X.old, by rw [q]; exact hQ⟩, r1, r2, r3, r4.mono hc hs⟩
theorem Cx.finW (X : Cx p l e R (s.setVm vm0) m args below meth c Z own nm bytes maxL rt T locs cells slots h) (hEL : EW Z a0 EL) (hS : WS s vm0 h) (H : CHr Z EL s.vm s.heap vm0 h) {v : Option Value} (hQ : Q v h) (hc : cells ≤ ce) (hs : slots ≤ sl) (hv : rt = none → v = none := by (intro q; first | rfl | (cases q; done))) : Lv e below (FinW s Z EL Q ce sl) T m v := by
  have hlk := X.hlk
  obtain ⟨k0, hk1, hk2⟩ := hS
  obtain ⟨fs, hr, hrun, hended, r1, r2, r3, r4⟩ := X.sd.leaveW hk1 (by rw [X.eq]; exact hk2) (v := v) (fun q => hv (X.hrt ▸ q)) hlk
  have q : (T.setFrames fs).heap = h := X.eq
  have hAt : CHr Z EL vm0 h T.vm h := CHv.at X.sd X.hZ hEL H.1
  exact ⟨fs, hr, hrun, hended, locs, ⟨X.fr, by rw [q]; exact X.old, by rw [q]; exact hQ⟩, by rw [q]; exact H.trans hAt, r1, r2, r3, r4.mono hc hs⟩
theorem Cx.backW (X : Cx p l e R (s.setVm vm0) m args below meth c Z own nm bytes maxL rt T locs cells slots h) {y : MethodName} {by' : ByteArray} {ml' : Nat} {rt' : Option FieldType} {rm : Room} {as' : Array Value} {Q' : Option Value → Heap → Prop} {len W : Nat} (hEL : EW Z a0 EL) (H : CHv Z EL vm0 h) (ct : CtW l Z EL [] y by' ml' rt' rm as' h Q') (wc : (Jvm.Cond.code y by' ml' rt').before a0 Z = true) (wz : (Jvm.Cond.initialized y.cls).before a0 Z = true) (hf : rm.frames + 1 ≤ R.frames) (hl : W + (ml' + 11) + rm.locals ≤ R.locals) :
    BackS l R p e below (s.setVm vm0) args y len W (fun A a => a = as' ∧ A.U.heap = h ∧ A.cells + rm.cells ≤ R.cells ∧ A.slots + rm.slots ≤ R.slots) (fun A _ v B => ∃ L, (Fr Z.heap.size L ∧ Ext Z.heap B.U.heap ∧ Q' v B.U.heap) ∧ B.locs = A.locs ++ L ∧ B.cells = A.cells + rm.cells ∧ B.slots = A.slots + rm.slots ∧ CHr Z EL vm0 h B.U.vm B.U.heap) :=
  backOfSH (Q := fun v hh L => Fr Z.heap.size L ∧ Ext Z.heap hh ∧ Q' v hh) (ct X.old) X.hZ wc wz hf hl hEL H
theorem Go.ldcW (X : Cx p l e R (s.setVm vm0) m args below meth c Z own nm bytes maxL rt T locs cells slots h) (pc' : Nat) {idx : Nat} {text : String} (hEL : EW Z a0 EL) (hS : WS s vm0 h) (H : CHv Z EL vm0 h) (w : (Jvm.Cond.stringLink own idx text).before a0 Z = true) (wS : ∀ a ∈ Bundle.stringAtoms, a.before a0 Z = true) (hmem : (own, idx) ∈ EL) {vs : List Value} {z : Int32} (ht : (∀ c ∈ text.toList, c.toNat < 256) ∧ text.toList.map (fun c => Value.int (Jvm.Lit.byteI c.toNat.toUInt16)) = vs) (hz : ¬ z < 0) (hl : z.toNatClampNeg = vs.length) (hd : decode bytes pc = .ok (.ldc idx, 2)) {n : Nat} (hn : 4 * text.toList.length ≤ n) (hbig : n ≤ 536870912) (hc : cells + 2 ≤ R.cells) (hl' : slots + (n + 4) ≤ R.slots)
    (k : ∀ T' h' vm1 a b kA, Cx p l e R (s.setVm vm1) m args below meth c Z own nm bytes maxL rt T' locs (cells + 2) (slots + (n + 4)) h' → WS s vm1 h' → Ext h h' → CHr Z EL vm0 h vm1 h' → Exa Z h' a "java/lang/String" → Fld Z h' a "java/lang/String" "coder" "B" (.int 0) → Fld Z h' a "java/lang/String" "value" "[B" (.ref b) → Arv Z h' b kA .byte z vs (.int 0) → (∀ x, Safe Z EL vm1 h' x → x ≠ a ∧ x ≠ b) → Go p e below En T' m pc' Ls (.ref a :: st)) (hp : pc + 2 = pc' := by rfl) : Go p e below En T m pc Ls st := by
  subst hp
  obtain ⟨k0, hk1, hk2⟩ := hS
  obtain ⟨a, T', h', k1, b, kA, Y, e', E, y1, y2, y3, y4, r1, r2, r3, r4, -, -, r5, -, r6, st'⟩ := ldcCH X.sd X.hx X.hZ X.hown w wS X.eq hk1 hk2 hEL hmem H ht hz hl (g := mkF m pc Ls st) rfl (hb X.hby hd) hn hbig hc hl'
  exact Go.step st' (k T' h' T'.vm a b kA ⟨Y, X.hx, y3, y4, X.hby, X.hml, X.hrt, X.hnm, X.hlk, e', X.fr, Ext.tr X.old E⟩ ⟨_, y1, y2⟩ E r5 r1 r2 r3 r4 r6)
theorem Go.callIW (X : Cx p l e R (s.setVm vm0) m args below meth c Z own nm bytes maxL rt T locs cells slots h) (pc' : Nat) {idx : Nat} {y : MethodName} {by' : ByteArray} {ml' : Nat} {rt' : Option FieldType} {rm : Room} {ps : List FieldType} {rr : Option FieldType} {a : Addr} {Q' : Option Value → Heap → Prop} (hEL : EW Z a0 EL) (hS : WS s vm0 h) (H : CHv Z EL vm0 h) (argsL rest : List Value) (W : Nat) (hy1 : y.name = "<init>") (wl : (Jvm.Cond.methodLink own idx y).before a0 Z = true) (wm : (Jvm.Cond.instanceMethod y).before a0 Z = true) (wz : (Jvm.Cond.initialized y.cls).before a0 Z = true) (hy : y.cls ≠ "java/lang/invoke/MethodHandle" ∧ y.cls ≠ "java/lang/invoke/VarHandle") (hrn : rt' = none) (wc : (Jvm.Cond.code y by' ml' rt').before a0 Z = true) (pd : parseMethodDescriptor y.desc = some ⟨ps, rr⟩) (hd : decode bytes pc = .ok (.invokespecial idx, 3)) (ct : CtW l Z EL [] y by' ml' rt' rm ((Value.ref a :: argsL).toArray) h Q') (hlen : argsL.length = ps.length) (hst : st = argsL.reverse ++ .ref a :: rest) (hsz : Ls.size = maxL) (hW : (rest.map fun v => v.category).sum ≤ W) (hf : rm.frames + 1 ≤ R.frames) (hl : W + (ml' + 11) + rm.locals ≤ R.locals) (hce : cells + rm.cells ≤ R.cells) (hsl : slots + rm.slots ≤ R.slots)
    (k : ∀ T' v L vm1, Cx p l e R (s.setVm vm1) m args below meth c Z own nm bytes maxL rt T' (locs ++ L) (cells + rm.cells) (slots + rm.slots) T'.heap → WS s vm1 T'.heap → CHr Z EL vm0 h vm1 T'.heap → Q' v T'.heap → Go p e below En T' m pc' Ls (v.toList ++ rest)) (hp : pc + 3 = pc' := by rfl) : Go p e below En T m pc Ls st := by
  subst hp
  subst hrn
  obtain ⟨v, _, ⟨T', L', k', n'⟩, -, X', hS2, hg, ⟨L, hq, e1, e2, e3, hr⟩, st'⟩ := X.sd.specialBackS X.hx (y := y) hy1 X.hown (mvT X.hZ wl) (mvT X.hZ wm) (mvT X.hZ wc) hy (X.backW (W := W) hEL H ct wc wz hf hl) (g := mkF m pc Ls st) rfl (hsz.trans X.hml.symm) (Steps.refl _) (a := a) (argsL := argsL) (rest := rest) (lenOf pd hlen) hst (by simpa using hW) (hb X.hby hd) (fun _ _ => ⟨rfl, X.eq, hce, hsl⟩)
  dsimp only [Pt.U, Pt.locs, Pt.cells, Pt.slots] at X' e1 e2 e3 st' hq hg hS2 hr
  subst e1 e2 e3
  obtain ⟨k0, hk1, hk2⟩ := hS
  rw [X.eq] at hg
  obtain ⟨Y, y2, y3, y4⟩ := rebS (Z := Z) (own := own) hk1 hk2 X' hS2 hg X.hZ X.hown
  exact Go.step (fun _ hz => Steps.trans st' hz) (k T' v L T'.vm ⟨Y, X.hx, y3, y4, X.hby, X.hml, X.hrt, X.hnm, X.hlk, rfl, X.fr.app hq.1, hq.2.1⟩ ⟨_, y2, Nat.le_refl _⟩ hr hq.2.2)
theorem Go.callSW (X : Cx p l e R (s.setVm vm0) m args below meth c Z own nm bytes maxL rt T locs cells slots h) (pc' : Nat) {idx : Nat} {y : MethodName} {by' : ByteArray} {ml' : Nat} {rt' : Option FieldType} {rm : Room} {ps : List FieldType} {rr : Option FieldType} {Q' : Option Value → Heap → Prop} (hEL : EW Z a0 EL) (hS : WS s vm0 h) (H : CHv Z EL vm0 h) (argsL rest : List Value) (W : Nat) (wl : (Jvm.Cond.methodLink own idx y).before a0 Z = true) (ws : (Jvm.Cond.static y).before a0 Z = true) (wz : (Jvm.Cond.initialized y.cls).before a0 Z = true) (hy : y.cls ≠ "java/lang/invoke/MethodHandle" ∧ y.cls ≠ "java/lang/invoke/VarHandle") (wc : (Jvm.Cond.code y by' ml' rt').before a0 Z = true) (pd : parseMethodDescriptor y.desc = some ⟨ps, rr⟩) (hd : decode bytes pc = .ok (.invokestatic idx, 3)) (ct : CtW l Z EL [] y by' ml' rt' rm (argsL.toArray) h Q') (hlen : argsL.length = ps.length) (hst : st = argsL.reverse ++ rest) (hsz : Ls.size = maxL) (hW : (rest.map fun v => v.category).sum ≤ W) (hf : rm.frames + 1 ≤ R.frames) (hl : W + (ml' + 11) + rm.locals ≤ R.locals) (hce : cells + rm.cells ≤ R.cells) (hsl : slots + rm.slots ≤ R.slots)
    (k : ∀ T' v L vm1, Cx p l e R (s.setVm vm1) m args below meth c Z own nm bytes maxL rt T' (locs ++ L) (cells + rm.cells) (slots + rm.slots) T'.heap → WS s vm1 T'.heap → CHr Z EL vm0 h vm1 T'.heap → Q' v T'.heap → Go p e below En T' m pc' Ls (v.toList ++ rest)) (hp : pc + 3 = pc' := by rfl) : Go p e below En T m pc Ls st := by
  subst hp
  obtain ⟨v, _, ⟨T', L', k', n'⟩, -, X', hS2, hg, ⟨L, hq, e1, e2, e3, hr⟩, st'⟩ := callSS X.sd X.hx (y := y) X.hown (mvT X.hZ wl) (mvT X.hZ ws) (mvT X.hZ wz) (mvT X.hZ wc) hy (X.backW (W := W) hEL H ct wc wz hf hl) (g := mkF m pc Ls st) rfl (hsz.trans X.hml.symm) (argsL := argsL) (rest := rest) (lenOf pd hlen) hst (by simpa using hW) (hb X.hby hd) (fun _ _ => ⟨rfl, X.eq, hce, hsl⟩)
  dsimp only [Pt.U, Pt.locs, Pt.cells, Pt.slots] at X' e1 e2 e3 st' hq hg hS2 hr
  subst e1 e2 e3
  obtain ⟨k0, hk1, hk2⟩ := hS
  rw [X.eq] at hg
  obtain ⟨Y, y2, y3, y4⟩ := rebS (Z := Z) (own := own) hk1 hk2 X' hS2 hg X.hZ X.hown
  exact Go.step (fun _ hz => Steps.trans st' hz) (k T' v L T'.vm ⟨Y, X.hx, y3, y4, X.hby, X.hml, X.hrt, X.hnm, X.hlk, rfl, X.fr.app hq.1, hq.2.1⟩ ⟨_, y2, Nat.le_refl _⟩ hr hq.2.2)
theorem Go.callVW (X : Cx p l e R (s.setVm vm0) m args below meth c Z own nm bytes maxL rt T locs cells slots h) (pc' : Nat) {idx : Nat} {y : MethodName} {C : String} {by' : ByteArray} {ml' : Nat} {rt' : Option FieldType} {rm : Room} {ps : List FieldType} {rr : Option FieldType} {a : Addr} {Q' : Option Value → Heap → Prop} (hEL : EW Z a0 EL) (hS : WS s vm0 h) (H : CHv Z EL vm0 h) (argsL rest : List Value) (W : Nat) (wl : (Jvm.Cond.methodLink own idx y).before a0 Z = true) (wd : (Jvm.Cond.declares y).before a0 Z = true) (wf : (Jvm.Cond.selects C y y).before a0 Z = true) (wm : (Jvm.Cond.instanceMethod y).before a0 Z = true) (wz : (Jvm.Cond.initialized y.cls).before a0 Z = true) (hy : y.cls ≠ "java/lang/invoke/MethodHandle" ∧ y.cls ≠ "java/lang/invoke/VarHandle") (E : Exa Z h a C) (wc : (Jvm.Cond.code y by' ml' rt').before a0 Z = true) (pd : parseMethodDescriptor y.desc = some ⟨ps, rr⟩) (hd : decode bytes pc = .ok (.invokevirtual idx, 3)) (ct : CtW l Z EL [] y by' ml' rt' rm ((Value.ref a :: argsL).toArray) h Q') (hlen : argsL.length = ps.length) (hst : st = argsL.reverse ++ .ref a :: rest) (hsz : Ls.size = maxL) (hW : (rest.map fun v => v.category).sum ≤ W) (hf : rm.frames + 1 ≤ R.frames) (hl : W + (ml' + 11) + rm.locals ≤ R.locals) (hce : cells + rm.cells ≤ R.cells) (hsl : slots + rm.slots ≤ R.slots)
    (k : ∀ T' v L vm1, Cx p l e R (s.setVm vm1) m args below meth c Z own nm bytes maxL rt T' (locs ++ L) (cells + rm.cells) (slots + rm.slots) T'.heap → WS s vm1 T'.heap → CHr Z EL vm0 h vm1 T'.heap → Q' v T'.heap → Go p e below En T' m pc' Ls (v.toList ++ rest)) (hp : pc + 3 = pc' := by rfl) : Go p e below En T m pc Ls st := by
  subst hp
  obtain ⟨cq, kq, qa, qb, qc⟩ := isOf X.hZ X.eq E
  obtain ⟨v, _, ⟨T', L', k', n'⟩, -, X', hS2, hg, ⟨L, hq, e1, e2, e3, hr⟩, st'⟩ := X.sd.virtualBackS X.hx (y := y) (z := y) X.hown (mvT X.hZ wl) (mvT X.hZ wd) (notFace_of_selects (args := #[]) (mvT X.hZ wf)) (mvT X.hZ wf) (mvT X.hZ wm) hy (X.backW (W := W) hEL H ct wc wz hf hl) qa qc (g := mkF m pc Ls st) rfl (hsz.trans X.hml.symm) (Steps.refl _) (argsL := argsL) (rest := rest) (lenOf pd hlen) hst (by simpa using hW) (hb X.hby hd) (fun _ _ => ⟨rfl, X.eq, hce, hsl⟩)
  dsimp only [Pt.U, Pt.locs, Pt.cells, Pt.slots] at X' e1 e2 e3 st' hq hg hS2 hr
  subst e1 e2 e3
  obtain ⟨k0, hk1, hk2⟩ := hS
  rw [X.eq] at hg
  obtain ⟨Y, y2, y3, y4⟩ := rebS (Z := Z) (own := own) hk1 hk2 X' hS2 hg X.hZ X.hown
  exact Go.step (fun _ hz => Steps.trans st' hz) (k T' v L T'.vm ⟨Y, X.hx, y3, y4, X.hby, X.hml, X.hrt, X.hnm, X.hlk, rfl, X.fr.app hq.1, hq.2.1⟩ ⟨_, y2, Nat.le_refl _⟩ hr hq.2.2)
end Wide
section Boxkit
variable {p : Program} {l : Launch} {e : Env} {R : Room} {s : State} {m : MethodId} {args : Array Value} {below : List Frame} {meth : Method} {c : Code} {T : State} {locs : List Loc} {cells slots : Nat} {Z : State} {a0 : Array Value} {h h' : Heap} {own nm : String} {bytes : ByteArray} {maxL : Nat} {rt : Option FieldType} {En : Option Value → State → Prop} {pc : Nat} {Ls : Array Slot} {st : List Value}
theorem Go.aaloadA (X : Cx p l e R s m args below meth c Z own nm bytes maxL rt T locs cells slots h) (pc' : Nat) {a : Addr} {cl : Cell} {ty : FieldType} {j : Int32} {v : Value} (A : Arr Z h a cl ty) (hty : ty.isReference = true) (hd : decode bytes pc = .ok (.aaload, 1)) (hj : ¬ (j < 0 ∨ cl.slots.size ≤ j.toNatClampNeg)) (u : cl.slots[j.toNatClampNeg]? = some v) (k : Go p e below En T m pc' Ls (v :: st)) (hp : pc + 1 = pc' := by rfl) : Go p e below En T m pc Ls (.int j :: .ref a :: st) := by
  subst hp
  exact Go.step (fun _ hr => X.sd.aaload X.hx (by rw [X.eq]; exact A.1) (State.isArrayOf_alike X.hZ.alike A.2.1) hty A.2.2 hj u (g := mkF m pc Ls (.int j :: .ref a :: st)) rfl rfl (hb X.hby hd) _ hr) k
theorem own_len {t : Term} {args : Array Value} {s : State} {a : Addr} {cl : Cell} {ty : FieldType} {z : Int32} (et : t.eval args s none [] s = some (.ref a)) (A : Arr s s.heap a cl ty) (hL : (Term.length t).eval args s none [] s = some (.int z)) : cl.slots.size < 2 ^ 31 ∧ cl.slots.size.toInt32 = z := by
  obtain ⟨b, c', e1, e2, e3, e4⟩ := Lib.length_spec hL
  cases et.symm.trans e1
  have e5 : c' = cl := Option.some.inj (e2.symm.trans (A.fin (Vm.Alike.refl _)))
  subst e5
  exact ⟨e3, (Value.int.inj e4).symm⟩
theorem own_sub {args : Array Value} {s : State} {j : Int32} (hj : ¬ j < 0) : (Term.sub (.index 0) (.int 128)).eval args s none [j.toNatClampNeg] s = some (.int (j - 128)) := by
  have h1 : (Term.index 0).eval args s none [j.toNatClampNeg] s = some (.int j) := idx_at hj
  have h2 : (Term.int 128).eval args s none [j.toNatClampNeg] s = some (.int 128) := Term.int_eval 128
  simp [Term.eval] at h1 h2 ⊢
  simp [h1]
theorem own_cI {x : Int32} (h1 : ¬ x < -128) (h2 : ¬ 127 < x) : ¬ (x + 128 < 0 ∨ 256 ≤ (x + 128).toNatClampNeg) := by
  have e1 : (-128 : Int32).toInt = -128 := by decide
  have e2 : (127 : Int32).toInt = 127 := by decide
  have e3 : (128 : Int32).toInt = 128 := by decide
  have e0 : (0 : Int32).toInt = 0 := by decide
  have a := c_iadd x 128
  have r := rng32 (x + 128)
  rw [Int32.lt_iff_toInt_lt, e1] at h1
  rw [Int32.lt_iff_toInt_lt, e2] at h2
  rw [e3] at a
  rw [Int32.lt_iff_toInt_lt, e0, Int32.toNatClampNeg]
  omega
theorem own_cJ {q : Int64} (h1 : ¬ q < -128) (h2 : ¬ 127 < q) : ¬ (q.toInt32 + 128 < 0 ∨ 256 ≤ (q.toInt32 + 128).toNatClampNeg) := by
  have e1 : (-128 : Int64).toInt = -128 := by decide
  have e2 : (127 : Int64).toInt = 127 := by decide
  have f1 : (-128 : Int32).toInt = -128 := by decide
  have f2 : (127 : Int32).toInt = 127 := by decide
  have a := c_l2i q
  have r := rng32 q.toInt32
  rw [Int64.lt_iff_toInt_lt, e1] at h1
  rw [Int64.lt_iff_toInt_lt, e2] at h2
  apply own_cI
  · rw [Int32.lt_iff_toInt_lt, f1]
    omega
  · rw [Int32.lt_iff_toInt_lt, f2]
    omega
end Boxkit
theorem pd_0 : parseMethodDescriptor "([CI[BII)I" = some ⟨[(.array .char), .int, (.array .byte), .int, .int], some .int⟩ := by decide +kernel
theorem pd_1 : parseMethodDescriptor "([CII)[B" = some ⟨[(.array .char), .int, .int], some (.array .byte)⟩ := by decide +kernel
theorem pd_2 : parseMethodDescriptor "([BI)B" = some ⟨[(.array .byte), .int], some .byte⟩ := by decide +kernel
theorem pd_3 : parseMethodDescriptor "([CIILjava/lang/Void;)V" = some ⟨[(.array .char), .int, .int, (.object "java/lang/Void")], none⟩ := by decide +kernel
theorem pd_4 : parseMethodDescriptor "([C)V" = some ⟨[(.array .char)], none⟩ := by decide +kernel
theorem pd_5 : parseMethodDescriptor "()V" = some ⟨[], none⟩ := by decide +kernel
theorem pd_6 : parseMethodDescriptor "(I)V" = some ⟨[.int], none⟩ := by decide +kernel
theorem pd_7 : parseMethodDescriptor "(J)V" = some ⟨[.long], none⟩ := by decide +kernel
theorem pd_8 : parseMethodDescriptor "(Ljava/lang/Object;Ljava/lang/String;)Ljava/lang/Object;" = some ⟨[(.object "java/lang/Object"), (.object "java/lang/String")], some (.object "java/lang/Object")⟩ := by decide +kernel
theorem pd_9 : parseMethodDescriptor "(ZLjava/lang/String;Ljava/lang/Object;Ljava/lang/Exception;)V" = some ⟨[.boolean, (.object "java/lang/String"), (.object "java/lang/Object"), (.object "java/lang/Exception")], none⟩ := by decide +kernel
theorem pd_10 : parseMethodDescriptor "(Ljava/lang/Object;)V" = some ⟨[(.object "java/lang/Object")], none⟩ := by decide +kernel
theorem pd_11 : parseMethodDescriptor "(Ljava/lang/Object;)Ljava/util/Optional;" = some ⟨[(.object "java/lang/Object")], some (.object "java/util/Optional")⟩ := by decide +kernel
theorem pd_12 : parseMethodDescriptor "(ICCC)Ljava/lang/String;" = some ⟨[.int, .char, .char, .char], some (.object "java/lang/String")⟩ := by decide +kernel
theorem pd_13 : parseMethodDescriptor "(J)Ljava/lang/Long;" = some ⟨[.long], some (.object "java/lang/Long")⟩ := by decide +kernel
theorem pd_14 : parseMethodDescriptor "(Ljava/lang/String;Ljava/lang/Object;)Lcom/example/ripieno/ripieno/engine/HandlerResult;" = some ⟨[(.object "java/lang/String"), (.object "java/lang/Object")], some (.object "com/example/ripieno/ripieno/engine/HandlerResult")⟩ := by decide +kernel
theorem pd_15 : parseMethodDescriptor "()Z" = some ⟨[], some .boolean⟩ := by decide +kernel
theorem pd_16 : parseMethodDescriptor "()Ljava/lang/String;" = some ⟨[], some (.object "java/lang/String")⟩ := by decide +kernel
theorem pd_17 : parseMethodDescriptor "()Ljava/util/Optional;" = some ⟨[], some (.object "java/util/Optional")⟩ := by decide +kernel
theorem pd_18 : parseMethodDescriptor "()Ljava/lang/Object;" = some ⟨[], some (.object "java/lang/Object")⟩ := by decide +kernel
theorem pd_19 : parseMethodDescriptor "(I)Ljava/lang/Integer;" = some ⟨[.int], some (.object "java/lang/Integer")⟩ := by decide +kernel
def lo8 (x : Int32) : Int32 := (x >>> ((0 : Int32) &&& 31)).toInt8.toInt32
def hi8 (x : Int32) : Int32 := (x >>> ((8 : Int32) &&& 31)).toInt8.toInt32
/-- the String at a, its bytes at t, spells the n chars f 0, f 1, .. -/
def Str (Z : State) (h : Heap) (a t : Addr) (n : Nat) (f : Nat → Int32) : Prop :=
  Exa Z h a "java/lang/String" ∧ Fld Z h a "java/lang/String" "value" "[B" (.ref t) ∧ n < 1073741823 ∧ (∀ j, j < n → 0 ≤ (f j).toInt ∧ (f j).toInt < 65536) ∧
  ((Fld Z h a "java/lang/String" "coder" "B" (.int 0) ∧ ∃ g, An Z h t .byte n g ∧ ∀ j, j < n → ¬ 255 < f j ∧ g j = (f j).toInt8.toInt32) ∨
   (Fld Z h a "java/lang/String" "coder" "B" (.int 1) ∧ (∃ j, j < n ∧ 255 < f j) ∧ ∃ g, An Z h t .byte (2 * n) g ∧ ∀ j, j < n → g (2 * j) = lo8 (f j) ∧ g (2 * j + 1) = hi8 (f j)))
section Strings
variable {Z : State} {h h' : Heap} {a t b : Addr} {n : Nat} {f g : Nat → Int32}
theorem Str.exa (S : Str Z h a t n f) : Exa Z h a "java/lang/String" := S.1
theorem Str.lt (S : Str Z h a t n f) : a < h.size := S.1.lt
theorem Str.ltT (S : Str Z h a t n f) : t < h.size := by
  obtain ⟨-, -, -, -, ⟨-, g, A, -⟩ | ⟨-, -, g, A, -⟩⟩ := S
  · exact A.lt
  · exact A.lt
theorem Str.map (S : Str Z h a t n f) (p1 : ∀ {C}, Exa Z h a C → Exa Z h' a C) (p2 : ∀ {C m d v}, Fld Z h a C m d v → Fld Z h' a C m d v) (p3 : ∀ {k g}, An Z h t .byte k g → An Z h' t .byte k g) : Str Z h' a t n f := by
  obtain ⟨S1, S2, S3, S4, ⟨S5, g, A, G⟩ | ⟨S5, S6, g, A, G⟩⟩ := S
  · exact ⟨p1 S1, p2 S2, S3, S4, Or.inl ⟨p2 S5, g, p3 A, G⟩⟩
  · exact ⟨p1 S1, p2 S2, S3, S4, Or.inr ⟨p2 S5, S6, g, p3 A, G⟩⟩
theorem Str.ext (S : Str Z h a t n f) (E : Ext h h') : Str Z h' a t n f := S.map (fun F => F.ext E) (fun F => F.ext E) (fun F => F.ext E)
theorem Str.other {i : Nat} {v : Value} (S : Str Z h a t n f) (W : Wr h h' b i v) (q : a ≠ b) (r : t ≠ b) : Str Z h' a t n f := S.map (fun F => F.wr W) (fun F => F.other W (Or.inl q)) (fun F => F.other W r)
theorem Str.keep {ws : List Addr} (S : Str Z h a t n f) (K : Keep h h' ws) (q : a ∉ ws) (r : t ∉ ws) : Str Z h' a t n f := S.map (fun F => F.keep K) (fun F => F.keep K q) (fun F => F.keep K r)
theorem Str.lat (S : Str Z h a t n f) (hl : ∀ j, j < n → ¬ 255 < f j) : Fld Z h a "java/lang/String" "coder" "B" (.int 0) ∧ ∃ g, An Z h t .byte n g ∧ ∀ j, j < n → ¬ 255 < f j ∧ g j = (f j).toInt8.toInt32 := by
  obtain ⟨-, -, -, -, r | ⟨-, ⟨j, j1, j2⟩, -⟩⟩ := S
  · exact r
  · exact absurd j2 (hl j j1)
theorem Str.congr (S : Str Z h a t n f) (q : ∀ j, j < n → f j = g j) : Str Z h a t n g := by
  obtain ⟨S1, S2, S3, S4, ⟨S5, k, A, G⟩ | ⟨S5, ⟨j, j1, j2⟩, k, A, G⟩⟩ := S
  · exact ⟨S1, S2, S3, fun j hj => q j hj ▸ S4 j hj, Or.inl ⟨S5, k, A, fun j hj => q j hj ▸ G j hj⟩⟩
  · exact ⟨S1, S2, S3, fun j hj => q j hj ▸ S4 j hj, Or.inr ⟨S5, ⟨j, j1, q j j1 ▸ j2⟩, k, A, fun j hj => q j hj ▸ G j hj⟩⟩
theorem n_ge {x : Int32} (h : ¬ x < 0) : 0 ≤ x.toInt := by
  rw [Int32.lt_iff_toInt_lt] at h
  have e0 : (0 : Int32).toInt = 0 := by decide
  omega
/-- a char read back from its low byte -/
theorem n_low {x : Int32} (h0 : 0 ≤ x.toInt) (h1 : ¬ 255 < x) : (x.toInt8.toInt32 &&& 255) = x := by
  apply Int32.toInt_inj.mp
  have e := c_mask x.toInt8.toInt32 255 8 (by decide) (by decide)
  have b := c_i2b x
  rw [Int32.lt_iff_toInt_lt] at h1
  have e2 : (255 : Int32).toInt = 255 := by decide
  rw [e2] at h1
  rw [e]
  have : ((2 ^ 8 : Nat) : Int) = 256 := by decide
  rw [this]
  omega
theorem n_chr {x : Int32} (h0 : 0 ≤ x.toInt) (h1 : x.toInt < 65536) : x.toUInt32.toUInt16.toUInt32.toInt32 = x := by
  apply Int32.toInt_inj.mp
  have := c_i2c x
  omega
theorem n_le {x : Int32} (h : ¬ 255 < x) : x.toInt < 65536 := by
  rw [Int32.lt_iff_toInt_lt] at h
  have e : (255 : Int32).toInt = 255 := by decide
  omega
theorem n_nar {x : Int32} (h0 : 0 ≤ x.toInt) (h1 : x.toInt < 65536) : narrow .char (.int x) = .int x := by
  have := XT.narrow_c x
  rw [n_chr h0 h1] at this
  exact this
theorem n_ne0 {n : Nat} (h : 0 < n) (hn : n < 2147483648) : ¬ Int32.ofNat n = 0 := fun q => by
  have := n_inj hn (by decide) (show Int32.ofNat n = Int32.ofNat 0 from q)
  omega
theorem n_eqb {x y : Int32} (hx : 0 ≤ x.toInt) (hx' : ¬ 255 < x) (hy : 0 ≤ y.toInt) (hy' : ¬ 255 < y) (q : x.toInt8.toInt32 = y.toInt8.toInt32) : x = y := by
  rw [← n_low hx hx', q, n_low hy hy']
end Strings
theorem pn_java_lang_StringUTF16 : plainName "java/lang/StringUTF16" = true := by first | (simp [plainName, overriddenIn]; done) | decide +kernel
theorem dcmp5_0 : decode jdk_52_method_21_code 0 = .ok (.iconst 0, 1) := by decide +kernel
theorem dcmp5_1 : decode jdk_52_method_21_code 1 = .ok (.istore 5, 2) := by decide +kernel
theorem dcmp5_3 : decode jdk_52_method_21_code 3 = .ok (.iload 5, 2) := by decide +kernel
theorem dcmp5_5 : decode jdk_52_method_21_code 5 = .ok (.iload 4, 2) := by decide +kernel
theorem dcmp5_7 : decode jdk_52_method_21_code 7 = .ok (.if_icmp .ge 37, 3) := by decide +kernel
theorem dcmp5_10 : decode jdk_52_method_21_code 10 = .ok (.aload_n 0, 1) := by decide +kernel
theorem dcmp5_11 : decode jdk_52_method_21_code 11 = .ok (.iload_n 1, 1) := by decide +kernel
theorem dcmp5_12 : decode jdk_52_method_21_code 12 = .ok (.caload, 1) := by decide +kernel
theorem dcmp5_13 : decode jdk_52_method_21_code 13 = .ok (.istore 6, 2) := by decide +kernel
theorem dcmp5_15 : decode jdk_52_method_21_code 15 = .ok (.iload 6, 2) := by decide +kernel
theorem dcmp5_17 : decode jdk_52_method_21_code 17 = .ok (.sipush 255, 3) := by decide +kernel
theorem dcmp5_20 : decode jdk_52_method_21_code 20 = .ok (.if_icmp .le 6, 3) := by decide +kernel
theorem dcmp5_23 : decode jdk_52_method_21_code 23 = .ok (.iload 5, 2) := by decide +kernel
theorem dcmp5_25 : decode jdk_52_method_21_code 25 = .ok (.ireturn, 1) := by decide +kernel
theorem dcmp5_26 : decode jdk_52_method_21_code 26 = .ok (.aload_n 2, 1) := by decide +kernel
theorem dcmp5_27 : decode jdk_52_method_21_code 27 = .ok (.iload_n 3, 1) := by decide +kernel
theorem dcmp5_28 : decode jdk_52_method_21_code 28 = .ok (.iload 6, 2) := by decide +kernel
theorem dcmp5_30 : decode jdk_52_method_21_code 30 = .ok (.i2b, 1) := by decide +kernel
theorem dcmp5_31 : decode jdk_52_method_21_code 31 = .ok (.bastore, 1) := by decide +kernel
theorem dcmp5_32 : decode jdk_52_method_21_code 32 = .ok (.iinc 1 1, 3) := by decide +kernel
theorem dcmp5_35 : decode jdk_52_method_21_code 35 = .ok (.iinc 3 1, 3) := by decide +kernel
theorem dcmp5_38 : decode jdk_52_method_21_code 38 = .ok (.iinc 5 1, 3) := by decide +kernel
theorem dcmp5_41 : decode jdk_52_method_21_code 41 = .ok (.goto (-38), 3) := by decide +kernel
theorem dcmp5_44 : decode jdk_52_method_21_code 44 = .ok (.iload 4, 2) := by decide +kernel
theorem dcmp5_46 : decode jdk_52_method_21_code 46 = .ok (.ireturn, 1) := by decide +kernel
def QC (Z : State) (h0 : Heap) (dst : Addr) (n : Nat) (f : Nat → Int32) : Option Value → Heap → Prop := fun v h' => ∃ r g, v = some (.int (Int32.ofNat r)) ∧ r ≤ n ∧ Keep h0 h' [dst] ∧ An Z h' dst .byte n g ∧ (∀ j, j < r → ¬ 255 < f j ∧ g j = (f j).toInt8.toInt32) ∧ (r = n ∨ (r < n ∧ 255 < f r))
set_option maxRecDepth 65536 in
set_option maxHeartbeats 40000000 in
theorem lp_cmp {p : Program} {l : Launch} {e : Env} {R : Room} {s : State} {m : MethodId} {args : Array Value} {below : List Frame} {meth : Method} {c : Code} {Z : State} {nm : String} {ce sl cells slots : Nat} (hce : cells ≤ ce) (hsl : slots ≤ sl) (h0 : Heap) (src dst : Addr) (n : Nat) (f : Nat → Int32) (hne : src ≠ dst) (nd : Z.heap.size ≤ dst) :
    ∀ (k i : Nat), i + k = n → ∀ (T : State) (locs : List Loc) (h : Heap) (g : Nat → Int32) (o6 : Slot), One o6 → Cx p l e R s m args below meth c Z "java/lang/StringUTF16" nm jdk_52_method_21_code 7 (some .int) T locs cells slots h → An Z h src .char n f → An Z h dst .byte n g → (∀ j, j < i → ¬ 255 < f j ∧ g j = (f j).toInt8.toInt32) → Keep h0 h [dst] →
      Go p e below (FinN s Z (QC Z h0 dst n f) ce sl) T m 3 #[.val (.ref src), .val (.int (Int32.ofNat i)), .val (.ref dst), .val (.int (Int32.ofNat i)), .val (.int (Int32.ofNat n)), .val (.int (Int32.ofNat i)), o6] [] := by
  intro k
  induction k with
  | zero =>
    intro i hi T locs h g o6 ho X0 A B hg K
    have hin : i = n := by omega
    subst hin
    refine Go.iload X0 5 dcmp5_3 rfl ?_
    refine Go.iload X0 7 dcmp5_5 rfl ?_
    refine Go.icmpY X0 44 dcmp5_7 (XT.ii_ge_t (n_nlt (Nat.le_refl _) A.1)) ?_
    refine Go.iload X0 46 dcmp5_44 rfl ?_
    exact Go.retI X0 rfl (by simp) rfl dcmp5_46 (X0.fin ⟨_, g, rfl, Nat.le_refl _, K, B, hg, Or.inl rfl⟩ hce hsl)
  | succ k ih =>
    intro i hi T locs h g o6 ho X0 A B hg K
    have hin : i < n := by omega
    refine Go.iload X0 5 dcmp5_3 rfl ?_
    refine Go.iload X0 7 dcmp5_5 rfl ?_
    refine Go.icmpN X0 10 dcmp5_7 (XT.ii_ge_f (n_lt hin A.1)) ?_
    refine Go.aloadN X0 11 dcmp5_10 rfl rfl ?_
    refine Go.iloadN X0 12 dcmp5_11 rfl ?_
    refine Go.caN X0 13 A i hin dcmp5_12 ?_
    refine Go.istore X0 15 #[.val (.ref src), .val (.int (Int32.ofNat i)), .val (.ref dst), .val (.int (Int32.ofNat i)), .val (.int (Int32.ofNat n)), .val (.int (Int32.ofNat i)), .val (.int (f i))] dcmp5_13 (XS.store1 rfl ho rfl) ?_
    refine Go.iload X0 17 dcmp5_15 rfl ?_
    refine Go.sipush X0 20 (255 : Int32) dcmp5_17 ?_
    by_cases c21 : (255 : Int32) < (f i)
    · skip
      refine Go.icmpN X0 23 dcmp5_20 (XT.ii_le_f c21) ?_
      refine Go.iload X0 25 dcmp5_23 rfl ?_
      exact Go.retI X0 rfl (by simp) rfl dcmp5_25 (X0.fin ⟨i, g, rfl, Nat.le_of_lt hin, K, B, hg, Or.inr ⟨hin, c21⟩⟩ hce hsl)
    · skip
      refine Go.icmpY X0 26 dcmp5_20 (XT.ii_le_t c21) ?_
      refine Go.aloadN X0 27 dcmp5_26 rfl rfl ?_
      refine Go.iloadN X0 28 dcmp5_27 rfl ?_
      refine Go.iload X0 30 dcmp5_28 rfl ?_
      refine Go.i2b X0 31 dcmp5_30 ?_
      refine Go.stBN X0 32 B i hin dcmp5_31 nd ?_
      intro T22 h22 w22 X22 W22 V22
      have F23 : An Z h22 src .char n f := A.other W22 hne
      have F24 : An Z h22 dst .byte n (upd g i (nar .byte ((f i).toInt8.toInt32))) := V22
      refine Go.iinc X22 35 (1 : Int32) #[.val (.ref src), .val (.int ((Int32.ofNat i) + (1 : Int32))), .val (.ref dst), .val (.int (Int32.ofNat i)), .val (.int (Int32.ofNat n)), .val (.int (Int32.ofNat i)), .val (.int (f i))] dcmp5_32 rfl rfl ?_
      refine Go.iinc X22 38 (1 : Int32) #[.val (.ref src), .val (.int ((Int32.ofNat i) + (1 : Int32))), .val (.ref dst), .val (.int ((Int32.ofNat i) + (1 : Int32))), .val (.int (Int32.ofNat n)), .val (.int (Int32.ofNat i)), .val (.int (f i))] dcmp5_35 rfl rfl ?_
      refine Go.iinc X22 41 (1 : Int32) #[.val (.ref src), .val (.int ((Int32.ofNat i) + (1 : Int32))), .val (.ref dst), .val (.int ((Int32.ofNat i) + (1 : Int32))), .val (.int (Int32.ofNat n)), .val (.int ((Int32.ofNat i) + (1 : Int32))), .val (.int (f i))] dcmp5_38 rfl rfl ?_
      refine Go.goto X22 3 dcmp5_41 ?_
      rw [n_succ]
      refine ih (i + 1) (by omega) _ _ _ _ _ (One.val rfl) X22 F23 F24 (fun j hj => ?_) (K.wr W22 (Or.inl (List.mem_of_getElem? (i := 0) rfl)))
      by_cases q : j = i
      · subst q
        exact ⟨c21, by simp only [upd, if_pos rfl]; exact n_b _⟩
      · obtain ⟨q1, q2⟩ := hg j (by omega)
        exact ⟨q1, by simp only [upd, if_neg q]; exact q2⟩
theorem ef_cmp5 (m : MethodId) (src : Addr) (z0 : Int32) (dst : Addr) (z1 : Int32) (z2 : Int32) : entryFrame m #[(.ref src), (.int z0), (.ref dst), (.int z1), (.int z2)] 7 = mkF m 0 #[.val (.ref src), .val (.int z0), .val (.ref dst), .val (.int z1), .val (.int z2), .unset, .unset] [] := by first | (simp [entryFrame, mkF, argsToLocals, Value.category]; done) | rfl
set_option maxRecDepth 65536 in
set_option maxHeartbeats 40000000 in
theorem rm_cmp5 (l : Launch) (Z : State) (a0 : Array Value) (hw : ∀ d ∈ tables_1, d.before a0 Z = true) (h0 : Heap) (src dst : Addr) (n : Nat) (f g : Nat → Int32) (hne : src ≠ dst) (nd : Z.heap.size ≤ dst) (A : An Z h0 src .char n f) (B : An Z h0 dst .byte n g) :
    Ct l Z [] (⟨"java/lang/StringUTF16", "compress", "([CI[BII)I"⟩ : MethodName) jdk_52_method_21_code 7 (some .int) (⟨0, 0, 0, 0⟩ : Room) #[(.ref src), (.int (0 : Int32)), (.ref dst), (.int (0 : Int32)), (.int (Int32.ofNat n))] h0 (QC Z h0 dst n f) := by
  refine Ct.of pn_java_lang_StringUTF16 (fun m => ef_cmp5 m src 0 dst 0 (Int32.ofNat n)) ?_
  intro p e s m below meth c s₁ X0
  refine Go.iconst X0 1 (0 : Int32) dcmp5_0 ?_
  refine Go.istore X0 3 #[.val (.ref src), .val (.int (0 : Int32)), .val (.ref dst), .val (.int (0 : Int32)), .val (.int (Int32.ofNat n)), .val (.int (0 : Int32)), .unset] dcmp5_1 rfl ?_
  exact lp_cmp (Nat.le_refl _) (Nat.le_refl _) h0 src dst n f hne nd n 0 (by omega) _ _ _ g _ One.u X0 A B (fun j hj => absurd hj (Nat.not_lt_zero j)) (Keep.refl _ _)
theorem n_cf0 (n : Nat) : (XT.ushr (Int32.ofNat n - Int32.ofNat n) (31 : Int32)).toInt8.toInt32 = 0 := by rw [Int32.sub_self]; decide
theorem n_cf1 {n : Nat} (h0 : 0 < n) (h1 : n < 1073741823) : (XT.ushr (Int32.ofNat n - Int32.ofNat (2 * n)) (31 : Int32)).toInt8.toInt32 = 1 := by
  have e := c_iushr (Int32.ofNat n - Int32.ofNat (2 * n)) 31 31 (by decide) (by decide)
  have d := c_isub (Int32.ofNat n) (Int32.ofNat (2 * n))
  have r := rng32 (Int32.ofNat n - Int32.ofNat (2 * n))
  rw [n_int (by omega), n_int (by omega)] at d
  have p : ((2 ^ 31 : Nat) : Int) = 2147483648 := by decide
  rw [p] at e
  have : XT.ushr (Int32.ofNat n - Int32.ofNat (2 * n)) (31 : Int32) = 1 := by
    apply Int32.toInt_inj.mp
    show ((Int32.ofNat n - Int32.ofNat (2 * n)).toUInt32 >>> ((31 : Int32) &&& 31).toUInt32).toInt32.toInt = (1 : Int32).toInt
    rw [e]
    have : (1 : Int32).toInt = 1 := by decide
    omega
  rw [this]
  decide
theorem dcfal_0 : decode jdk_52_method_15_code 0 = .ok (.iload_n 1, 1) := by decide +kernel
theorem dcfal_1 : decode jdk_52_method_15_code 1 = .ok (.aload_n 0, 1) := by decide +kernel
theorem dcfal_2 : decode jdk_52_method_15_code 2 = .ok (.arraylength, 1) := by decide +kernel
theorem dcfal_3 : decode jdk_52_method_15_code 3 = .ok (.isub, 1) := by decide +kernel
theorem dcfal_4 : decode jdk_52_method_15_code 4 = .ok (.bipush 31, 2) := by decide +kernel
theorem dcfal_6 : decode jdk_52_method_15_code 6 = .ok (.iushr, 1) := by decide +kernel
theorem dcfal_7 : decode jdk_52_method_15_code 7 = .ok (.i2b, 1) := by decide +kernel
theorem dcfal_8 : decode jdk_52_method_15_code 8 = .ok (.ireturn, 1) := by decide +kernel
theorem ef_cfal (m : MethodId) (t : Addr) (z : Int32) : entryFrame m #[(.ref t), (.int z)] 2 = mkF m 0 #[.val (.ref t), .val (.int z)] [] := by first | (simp [entryFrame, mkF, argsToLocals, Value.category]; done) | rfl
set_option maxRecDepth 65536 in
set_option maxHeartbeats 40000000 in
theorem rm_cfal (l : Launch) (Z : State) (a0 : Array Value) (hw : ∀ d ∈ tables_1, d.before a0 Z = true) (h0 : Heap) (t : Addr) (z : Int32) (n k : Nat) (g : Nat → Int32) (r : Int32) (hz : z = Int32.ofNat n) (A : An Z h0 t .byte k g) (hr : (k = n ∧ r = 0) ∨ (k = 2 * n ∧ 0 < n ∧ n < 1073741823 ∧ r = 1)) :
    Ct l Z [] (⟨"java/lang/StringUTF16", "coderFromArrayLen", "([BI)B"⟩ : MethodName) jdk_52_method_15_code 2 (some .byte) (⟨0, 0, 0, 0⟩ : Room) #[(.ref t), (.int z)] h0 (Pu h0 (.int r)) := by
  refine Ct.of pn_java_lang_StringUTF16 (fun m => ef_cfal m t z) ?_
  intro p e s m below meth c s₁ X0
  subst hz
  refine Go.iloadN X0 1 dcfal_0 rfl ?_
  refine Go.aloadN X0 2 dcfal_1 rfl rfl ?_
  refine Go.alenN X0 3 A dcfal_2 ?_
  refine Go.isub X0 4 dcfal_3 ?_
  refine Go.bipush X0 6 (31 : Int32) dcfal_4 ?_
  refine Go.iushr X0 7 dcfal_6 ?_
  refine Go.i2b X0 8 dcfal_7 ?_
  rcases hr with ⟨rfl, rfl⟩ | ⟨rfl, q1, q2, rfl⟩
  · rw [n_cf0]
    exact Go.retI X0 rfl (by simp) rfl dcfal_8 (X0.fin ⟨rfl, rfl⟩ (by decide) (by decide))
  · rw [n_cf1 q1 q2]
    exact Go.retI X0 rfl (by simp) rfl dcfal_8 (X0.fin ⟨rfl, rfl⟩ (by decide) (by decide))
theorem dcmp3_0 : decode jdk_52_method_16_code 0 = .ok (.iload_n 2, 1) := by decide +kernel
theorem dcmp3_1 : decode jdk_52_method_16_code 1 = .ok (.newarray .byte, 2) := by decide +kernel
theorem dcmp3_3 : decode jdk_52_method_16_code 3 = .ok (.astore_n 3, 1) := by decide +kernel
theorem dcmp3_4 : decode jdk_52_method_16_code 4 = .ok (.aload_n 0, 1) := by decide +kernel
theorem dcmp3_5 : decode jdk_52_method_16_code 5 = .ok (.iload_n 1, 1) := by decide +kernel
theorem dcmp3_6 : decode jdk_52_method_16_code 6 = .ok (.aload_n 3, 1) := by decide +kernel
theorem dcmp3_7 : decode jdk_52_method_16_code 7 = .ok (.iconst 0, 1) := by decide +kernel
theorem dcmp3_8 : decode jdk_52_method_16_code 8 = .ok (.iload_n 2, 1) := by decide +kernel
theorem dcmp3_9 : decode jdk_52_method_16_code 9 = .ok (.invokestatic 115, 3) := by decide +kernel
theorem dcmp3_12 : decode jdk_52_method_16_code 12 = .ok (.istore 4, 2) := by decide +kernel
theorem dcmp3_14 : decode jdk_52_method_16_code 14 = .ok (.iload 4, 2) := by decide +kernel
theorem dcmp3_16 : decode jdk_52_method_16_code 16 = .ok (.iload_n 2, 1) := by decide +kernel
theorem dcmp3_17 : decode jdk_52_method_16_code 17 = .ok (.if_icmp .eq 40, 3) := by decide +kernel
theorem dcmp3_20 : decode jdk_52_method_16_code 20 = .ok (.aload_n 0, 1) := by decide +kernel
theorem dcmp3_21 : decode jdk_52_method_16_code 21 = .ok (.iload_n 1, 1) := by decide +kernel
theorem dcmp3_22 : decode jdk_52_method_16_code 22 = .ok (.iload_n 2, 1) := by decide +kernel
theorem dcmp3_23 : decode jdk_52_method_16_code 23 = .ok (.invokestatic 119, 3) := by decide +kernel
theorem dcmp3_26 : decode jdk_52_method_16_code 26 = .ok (.astore 5, 2) := by decide +kernel
theorem dcmp3_28 : decode jdk_52_method_16_code 28 = .ok (.aload 5, 2) := by decide +kernel
theorem dcmp3_30 : decode jdk_52_method_16_code 30 = .ok (.iload 4, 2) := by decide +kernel
theorem dcmp3_32 : decode jdk_52_method_16_code 32 = .ok (.invokestatic 71, 3) := by decide +kernel
theorem dcmp3_35 : decode jdk_52_method_16_code 35 = .ok (.sipush 255, 3) := by decide +kernel
theorem dcmp3_38 : decode jdk_52_method_16_code 38 = .ok (.if_icmp .gt 16, 3) := by decide +kernel
theorem dcmp3_41 : decode jdk_52_method_16_code 41 = .ok (.aload 5, 2) := by decide +kernel
theorem dcmp3_43 : decode jdk_52_method_16_code 43 = .ok (.iconst 0, 1) := by decide +kernel
theorem dcmp3_44 : decode jdk_52_method_16_code 44 = .ok (.aload_n 3, 1) := by decide +kernel
theorem dcmp3_45 : decode jdk_52_method_16_code 45 = .ok (.iconst 0, 1) := by decide +kernel
theorem dcmp3_46 : decode jdk_52_method_16_code 46 = .ok (.iload_n 2, 1) := by decide +kernel
theorem dcmp3_47 : decode jdk_52_method_16_code 47 = .ok (.invokestatic 123, 3) := by decide +kernel
theorem dcmp3_50 : decode jdk_52_method_16_code 50 = .ok (.iload_n 2, 1) := by decide +kernel
theorem dcmp3_51 : decode jdk_52_method_16_code 51 = .ok (.if_icmp .eq 6, 3) := by decide +kernel
theorem dcmp3_54 : decode jdk_52_method_16_code 54 = .ok (.aload 5, 2) := by decide +kernel
theorem dcmp3_56 : decode jdk_52_method_16_code 56 = .ok (.areturn, 1) := by decide +kernel
theorem dcmp3_57 : decode jdk_52_method_16_code 57 = .ok (.aload_n 3, 1) := by decide +kernel
theorem dcmp3_58 : decode jdk_52_method_16_code 58 = .ok (.areturn, 1) := by decide +kernel
theorem ef_cmp3 (m : MethodId) (src : Addr) (z0 : Int32) (z1 : Int32) : entryFrame m #[(.ref src), (.int z0), (.int z1)] 6 = mkF m 0 #[.val (.ref src), .val (.int z0), .val (.int z1), .unset, .unset, .unset] [] := by first | (simp [entryFrame, mkF, argsToLocals, Value.category]; done) | rfl
set_option maxRecDepth 65536 in
set_option maxHeartbeats 40000000 in
theorem rm_cmp3 (l : Launch) (Z : State) (a0 : Array Value) (hw : ∀ d ∈ tables_1, d.before a0 Z = true) (h0 : Heap) (src : Addr) (z0 z1 : Int32) (n : Nat) (f : Nat → Int32) (hz0 : z0 = 0) (hz1 : z1 = Int32.ofNat n) (hcap : n ≤ 3) (A : An Z h0 src .char n f) (hl : ∀ j, j < n → ¬ 255 < f j) :
    Ct l Z [] (⟨"java/lang/StringUTF16", "compress", "([CII)[B"⟩ : MethodName) jdk_52_method_16_code 6 (some (.array .byte)) (⟨1, 1, 3, 18⟩ : Room) #[(.ref src), (.int z0), (.int z1)] h0 (fun v h' => ∃ t g, v = some (.ref t) ∧ Keep h0 h' [] ∧ h0.size ≤ t ∧ An Z h' t .byte n g ∧ ∀ j, j < n → ¬ 255 < f j ∧ g j = (f j).toInt8.toInt32) := by
  refine Ct.of pn_java_lang_StringUTF16 (fun m => ef_cmp3 m src z0 z1) ?_
  intro p e s m below meth c s₁ X0
  subst hz0 hz1
  have K1 : Keep h0 h0 [] := Keep.refl _ _
  refine Go.iloadN X0 1 dcmp3_0 rfl ?_
  refine Go.newB X0 3 (n := n) (hw _ (List.mem_of_getElem? (i := 19) rfl)) dcmp3_1 3 hcap (by decide) (by decide) (by decide) ?_
  intro T2 h2 a2 X2 E2 g2 V2
  have nw_a2 : Z.heap.size ≤ a2 := by rw [← g2]; exact X0.le
  have si_a2 : h0.size ≤ a2 := by rw [← g2]; exact K1.1
  have ne_src_a2 : src ≠ a2 := by rw [← g2]; exact Nat.ne_of_lt A.lt
  have K3 : Keep h0 h2 [] := K1.ext E2
  have F4 : An Z h2 src .char n f := A.ext E2
  refine Go.astoreN X2 4 #[.val (.ref src), .val (.int (0 : Int32)), .val (.int (Int32.ofNat n)), .val (.ref a2), .unset, .unset] dcmp3_3 rfl rfl ?_
  refine Go.aloadN X2 5 dcmp3_4 rfl rfl ?_
  refine Go.iloadN X2 6 dcmp3_5 rfl ?_
  refine Go.aloadN X2 7 dcmp3_6 rfl rfl ?_
  refine Go.iconst X2 8 (0 : Int32) dcmp3_7 ?_
  refine Go.iloadN X2 9 dcmp3_8 rfl ?_
  refine Go.callS X2 12 [(.ref src), (.int (0 : Int32)), (.ref a2), (.int (0 : Int32)), (.int (Int32.ofNat n))] [] 0 (hw _ (List.mem_of_getElem? (i := 115) rfl)) (hw _ (List.mem_of_getElem? (i := 116) rfl)) (hw _ (List.mem_of_getElem? (i := 113) rfl)) (by decide) (hw _ (List.mem_of_getElem? (i := 117) rfl)) pd_0 dcmp3_9 (rm_cmp5 l Z a0 hw h2 src a2 n f _ ne_src_a2 nw_a2 F4 V2) rfl rfl rfl (Nat.le_of_eq rfl) (by decide) (by decide) (by decide) (by decide) ?_
  rintro T5 v5 L5 X5 ⟨r, g, rfl, hr, K, B, hg, hx⟩
  show Go p e below _ T5 m 12 #[.val (.ref src), .val (.int (0 : Int32)), .val (.int (Int32.ofNat n)), .val (.ref a2), .unset, .unset] [(.int (Int32.ofNat r))]
  have K6 : Keep h0 T5.heap [] := K3.trans K (allS (Or.inr si_a2) all0)
  have F7 : An Z T5.heap src .char n f := F4.keep K (ninS ne_src_a2 nin0)
  have hrn : r = n := hx.elim id (fun q => absurd q.2 (hl r q.1))
  subst hrn
  refine Go.istore X5 14 #[.val (.ref src), .val (.int (0 : Int32)), .val (.int (Int32.ofNat r)), .val (.ref a2), .val (.int (Int32.ofNat r)), .unset] dcmp3_12 rfl ?_
  refine Go.iload X5 16 dcmp3_14 rfl ?_
  refine Go.iloadN X5 17 dcmp3_16 rfl ?_
  refine Go.icmpY X5 57 dcmp3_17 (XT.ii_eq_t rfl) ?_
  refine Go.aloadN X5 58 dcmp3_57 rfl rfl ?_
  exact Go.retA X5 rfl rfl rfl dcmp3_58 (X5.fin ⟨_, g, rfl, K6, si_a2, B, hg⟩ (by decide) (by decide))
theorem pn_java_lang_String : plainName "java/lang/String" = true := by first | (simp [plainName, overriddenIn]; done) | decide +kernel
theorem di4_0 : decode jdk_42_method_149_code 0 = .ok (.aload_n 0, 1) := by decide +kernel
theorem di4_1 : decode jdk_42_method_149_code 1 = .ok (.invokespecial 1, 3) := by decide +kernel
theorem di4_4 : decode jdk_42_method_149_code 4 = .ok (.iload_n 3, 1) := by decide +kernel
theorem di4_5 : decode jdk_42_method_149_code 5 = .ok (.ifCond .ne 22, 3) := by decide +kernel
theorem di4_8 : decode jdk_42_method_149_code 8 = .ok (.aload_n 0, 1) := by decide +kernel
theorem di4_9 : decode jdk_42_method_149_code 9 = .ok (.ldc 7, 2) := by decide +kernel
theorem di4_11 : decode jdk_42_method_149_code 11 = .ok (.getfield 9, 3) := by decide +kernel
theorem di4_14 : decode jdk_42_method_149_code 14 = .ok (.putfield 9, 3) := by decide +kernel
theorem di4_17 : decode jdk_42_method_149_code 17 = .ok (.aload_n 0, 1) := by decide +kernel
theorem di4_18 : decode jdk_42_method_149_code 18 = .ok (.ldc 7, 2) := by decide +kernel
theorem di4_20 : decode jdk_42_method_149_code 20 = .ok (.getfield 15, 3) := by decide +kernel
theorem di4_23 : decode jdk_42_method_149_code 23 = .ok (.putfield 15, 3) := by decide +kernel
theorem di4_26 : decode jdk_42_method_149_code 26 = .ok (.return_, 1) := by decide +kernel
theorem di4_27 : decode jdk_42_method_149_code 27 = .ok (.getstatic 38, 3) := by decide +kernel
theorem di4_30 : decode jdk_42_method_149_code 30 = .ok (.ifCond .eq 28, 3) := by decide +kernel
theorem di4_33 : decode jdk_42_method_149_code 33 = .ok (.aload_n 1, 1) := by decide +kernel
theorem di4_34 : decode jdk_42_method_149_code 34 = .ok (.iload_n 2, 1) := by decide +kernel
theorem di4_35 : decode jdk_42_method_149_code 35 = .ok (.iload_n 3, 1) := by decide +kernel
theorem di4_36 : decode jdk_42_method_149_code 36 = .ok (.invokestatic 177, 3) := by decide +kernel
theorem di4_39 : decode jdk_42_method_149_code 39 = .ok (.astore 5, 2) := by decide +kernel
theorem di4_41 : decode jdk_42_method_149_code 41 = .ok (.aload_n 0, 1) := by decide +kernel
theorem di4_42 : decode jdk_42_method_149_code 42 = .ok (.aload 5, 2) := by decide +kernel
theorem di4_44 : decode jdk_42_method_149_code 44 = .ok (.iload_n 3, 1) := by decide +kernel
theorem di4_45 : decode jdk_42_method_149_code 45 = .ok (.invokestatic 47, 3) := by decide +kernel
theorem di4_48 : decode jdk_42_method_149_code 48 = .ok (.putfield 15, 3) := by decide +kernel
theorem di4_51 : decode jdk_42_method_149_code 51 = .ok (.aload_n 0, 1) := by decide +kernel
theorem di4_52 : decode jdk_42_method_149_code 52 = .ok (.aload 5, 2) := by decide +kernel
theorem di4_54 : decode jdk_42_method_149_code 54 = .ok (.putfield 9, 3) := by decide +kernel
theorem di4_57 : decode jdk_42_method_149_code 57 = .ok (.return_, 1) := by decide +kernel
theorem di4_58 : decode jdk_42_method_149_code 58 = .ok (.aload_n 0, 1) := by decide +kernel
theorem di4_59 : decode jdk_42_method_149_code 59 = .ok (.iconst 1, 1) := by decide +kernel
theorem di4_60 : decode jdk_42_method_149_code 60 = .ok (.putfield 15, 3) := by decide +kernel
theorem di4_63 : decode jdk_42_method_149_code 63 = .ok (.aload_n 0, 1) := by decide +kernel
theorem di4_64 : decode jdk_42_method_149_code 64 = .ok (.aload_n 1, 1) := by decide +kernel
theorem di4_65 : decode jdk_42_method_149_code 65 = .ok (.iload_n 2, 1) := by decide +kernel
theorem di4_66 : decode jdk_42_method_149_code 66 = .ok (.iload_n 3, 1) := by decide +kernel
theorem di4_67 : decode jdk_42_method_149_code 67 = .ok (.invokestatic 180, 3) := by decide +kernel
theorem di4_70 : decode jdk_42_method_149_code 70 = .ok (.putfield 9, 3) := by decide +kernel
theorem di4_73 : decode jdk_42_method_149_code 73 = .ok (.return_, 1) := by decide +kernel
theorem ef_i4 (m : MethodId) (a : Addr) (src : Addr) (z0 : Int32) (z1 : Int32) : entryFrame m #[(.ref a), (.ref src), (.int z0), (.int z1), .null] 6 = mkF m 0 #[.val (.ref a), .val (.ref src), .val (.int z0), .val (.int z1), .val .null, .unset] [] := by first | (simp [entryFrame, mkF, argsToLocals, Value.category]; done) | rfl
set_option maxRecDepth 65536 in
set_option maxHeartbeats 40000000 in
theorem rm_i4 (l : Launch) (Z : State) (a0 : Array Value) (hw : ∀ d ∈ tables_1, d.before a0 Z = true) (h0 : Heap) (cz : Int32) (SC : Sta Z Z.heap "java/lang/String" "COMPACT_STRINGS" "Z" (.int cz)) (hcz : ¬ cz = 0) (a src : Addr) (n : Nat) (f : Nat → Int32) (hn : 0 < n) (hcap : n ≤ 3) (E : Exa Z h0 a "java/lang/String") (FV : Fld Z h0 a "java/lang/String" "value" "[B" .null) (FC : Fld Z h0 a "java/lang/String" "coder" "B" (.int 0)) (na : Z.heap.size ≤ a) (hne : src ≠ a) (A : An Z h0 src .char n f) (hf : ∀ j, j < n → 0 ≤ (f j).toInt ∧ (f j).toInt < 65536) (hl : ∀ j, j < n → ¬ 255 < f j) (z0 z1 : Int32) (hz0 : z0 = 0) (hz1 : z1 = Int32.ofNat n) :
    Ct l Z [] (⟨"java/lang/String", "<init>", "([CIILjava/lang/Void;)V"⟩ : MethodName) jdk_42_method_149_code 6 none (⟨2, 1, 3, 35⟩ : Room) #[(.ref a), (.ref src), (.int z0), (.int z1), .null] h0 (fun v h' => v = none ∧ ∃ t, Keep h0 h' [a] ∧ h0.size ≤ t ∧ Str Z h' a t n f) := by
  refine Ct.of pn_java_lang_String (fun m => ef_i4 m a src z0 z1) ?_
  intro p e s m below meth c s₁ X0
  subst hz0 hz1
  have K1 : Keep h0 h0 [a] := Keep.refl _ _
  refine Go.aloadN X0 1 di4_0 rfl rfl ?_
  refine Go.initO X0 4 (hw _ (List.mem_of_getElem? (i := 15) rfl)) (hw _ (List.mem_of_getElem? (i := 16) rfl)) (hw _ (List.mem_of_getElem? (i := 17) rfl)) 0 di4_1 rfl (by decide) (by decide) (by decide) ?_
  intro T2 X2
  refine Go.iloadN X2 5 di4_4 rfl ?_
  refine Go.if0Y X2 27 di4_5 (XT.i0_ne_t (n_ne0 hn (by omega))) ?_
  refine Go.getS X2 30 (hw _ (List.mem_of_getElem? (i := 110) rfl)) SC di4_27 ?_
  intro T3 X3
  refine Go.if0N X3 33 di4_30 (XT.i0_eq_f hcz) ?_
  refine Go.aloadN X3 34 di4_33 rfl rfl ?_
  refine Go.iloadN X3 35 di4_34 rfl ?_
  refine Go.iloadN X3 36 di4_35 rfl ?_
  refine Go.callS X3 39 [(.ref src), (.int (0 : Int32)), (.int (Int32.ofNat n))] [] 0 (hw _ (List.mem_of_getElem? (i := 111) rfl)) (hw _ (List.mem_of_getElem? (i := 112) rfl)) (hw _ (List.mem_of_getElem? (i := 113) rfl)) (by decide) (hw _ (List.mem_of_getElem? (i := 114) rfl)) pd_1 di4_36 (rm_cmp3 l Z a0 hw h0 src 0 (Int32.ofNat n) n f rfl rfl hcap A hl) rfl rfl rfl (Nat.le_of_eq rfl) (by decide) (by decide) (by decide) (by decide) ?_
  rintro T4 v4 L4 X4 ⟨t, g, rfl, K3, gt, B, hg⟩
  show Go p e below _ T4 m 39 #[.val (.ref a), .val (.ref src), .val (.int (0 : Int32)), .val (.int (Int32.ofNat n)), .val .null, .unset] [(.ref t)]
  have nw_t : Z.heap.size ≤ t := Nat.le_trans X3.le gt
  have ne_a_t : a ≠ t := Nat.ne_of_lt (Nat.lt_of_lt_of_le E.lt gt)
  have ne_src_t : src ≠ t := Nat.ne_of_lt (Nat.lt_of_lt_of_le A.lt gt)
  have si_t : h0.size ≤ t := Nat.le_trans K1.1 gt
  have K5 : Keep h0 T4.heap [a] := K1.trans K3 all0
  have F6 : Exa Z T4.heap a "java/lang/String" := E.keep K3
  have F7 : Fld Z T4.heap a "java/lang/String" "value" "[B" .null := FV.keep K3 nin0
  have F8 : Fld Z T4.heap a "java/lang/String" "coder" "B" (.int (0 : Int32)) := FC.keep K3 nin0
  have F9 : An Z T4.heap src .char n f := A.keep K3 nin0
  refine Go.astore X4 41 #[.val (.ref a), .val (.ref src), .val (.int (0 : Int32)), .val (.int (Int32.ofNat n)), .val .null, .val (.ref t)] di4_39 rfl rfl ?_
  refine Go.aloadN X4 42 di4_41 rfl rfl ?_
  refine Go.aload X4 44 di4_42 rfl rfl ?_
  refine Go.iloadN X4 45 di4_44 rfl ?_
  refine Go.callSP X4 48 [(.ref t), (.int (Int32.ofNat n))] [(.ref a)] 1 (hw _ (List.mem_of_getElem? (i := 118) rfl)) (hw _ (List.mem_of_getElem? (i := 119) rfl)) (hw _ (List.mem_of_getElem? (i := 113) rfl)) (by decide) (hw _ (List.mem_of_getElem? (i := 120) rfl)) pd_2 di4_45 (rm_cfal l Z a0 hw T4.heap t (Int32.ofNat n) n n g 0 rfl B (Or.inl ⟨rfl, rfl⟩)) rfl rfl rfl (Nat.le_of_eq rfl) (by decide) (by decide) (by decide) (by decide) ?_
  intro T10 L10 X10
  refine Go.putF X10 51 (hw _ (List.mem_of_getElem? (i := 25) rfl)) F8 F6 (Or.inr ⟨(hw _ (List.mem_of_getElem? (i := 21) rfl)), rfl, rfl⟩) (hw _ (List.mem_of_getElem? (i := 5) rfl)) (ty := .byte) (by decide) rfl rfl na di4_48 ?_
  intro T11 h11 X11 W11
  have K12 : Keep h0 h11 [a] := K5.wr W11 (Or.inl (List.mem_of_getElem? (i := 0) rfl))
  have F13 : Exa Z h11 a "java/lang/String" := F6.wr W11
  have F14 : Fld Z h11 a "java/lang/String" "value" "[B" .null := F7.other W11 (Or.inr (slot_ne (Or.inr (hw _ (List.mem_of_getElem? (i := 20) rfl))) (Or.inr (hw _ (List.mem_of_getElem? (i := 21) rfl))) (by decide) (t := (.array .byte)) (t' := .byte) (by decide) (by decide)))
  have F15 : Fld Z h11 a "java/lang/String" "coder" "B" (.int (0 : Int32)) := F8.same W11
  have F16 : An Z h11 src .char n f := F9.other W11 hne
  have F17 : An Z h11 t .byte n g := B.other W11 (Ne.symm ne_a_t)
  refine Go.aloadN X11 52 di4_51 rfl rfl ?_
  refine Go.aload X11 54 di4_52 rfl rfl ?_
  refine Go.putF X11 57 (hw _ (List.mem_of_getElem? (i := 24) rfl)) F14 F13 (Or.inr ⟨(hw _ (List.mem_of_getElem? (i := 20) rfl)), rfl, rfl⟩) (hw _ (List.mem_of_getElem? (i := 5) rfl)) (ty := (.array .byte)) (by decide) rfl rfl na di4_54 ?_
  intro T18 h18 X18 W18
  have K19 : Keep h0 h18 [a] := K12.wr W18 (Or.inl (List.mem_of_getElem? (i := 0) rfl))
  have F20 : Exa Z h18 a "java/lang/String" := F13.wr W18
  have F21 : Fld Z h18 a "java/lang/String" "value" "[B" (.ref t) := F14.same W18
  have F22 : Fld Z h18 a "java/lang/String" "coder" "B" (.int (0 : Int32)) := F15.other W18 (Or.inr (slot_ne (Or.inr (hw _ (List.mem_of_getElem? (i := 21) rfl))) (Or.inr (hw _ (List.mem_of_getElem? (i := 20) rfl))) (by decide) (t := .byte) (t' := (.array .byte)) (by decide) (by decide)))
  have F23 : An Z h18 src .char n f := F16.other W18 hne
  have F24 : An Z h18 t .byte n g := F17.other W18 (Ne.symm ne_a_t)
  exact Go.retV X18 rfl di4_57 (X18.fin ⟨rfl, t, K19, si_t, F20, F21, by omega, hf, Or.inl ⟨F22, g, F24, hg⟩⟩ (by decide) (by decide))
theorem di1_0 : decode jdk_42_method_3_code 0 = .ok (.aload_n 0, 1) := by decide +kernel
theorem di1_1 : decode jdk_42_method_3_code 1 = .ok (.aload_n 1, 1) := by decide +kernel
theorem di1_2 : decode jdk_42_method_3_code 2 = .ok (.iconst 0, 1) := by decide +kernel
theorem di1_3 : decode jdk_42_method_3_code 3 = .ok (.aload_n 1, 1) := by decide +kernel
theorem di1_4 : decode jdk_42_method_3_code 4 = .ok (.arraylength, 1) := by decide +kernel
theorem di1_5 : decode jdk_42_method_3_code 5 = .ok (.aconst_null, 1) := by decide +kernel
theorem di1_6 : decode jdk_42_method_3_code 6 = .ok (.invokespecial 27, 3) := by decide +kernel
theorem di1_9 : decode jdk_42_method_3_code 9 = .ok (.return_, 1) := by decide +kernel
theorem ef_i1 (m : MethodId) (a : Addr) (src : Addr) : entryFrame m #[(.ref a), (.ref src)] 2 = mkF m 0 #[.val (.ref a), .val (.ref src)] [] := by first | (simp [entryFrame, mkF, argsToLocals, Value.category]; done) | rfl
set_option maxRecDepth 65536 in
set_option maxHeartbeats 40000000 in
theorem rm_i1 (l : Launch) (Z : State) (a0 : Array Value) (hw : ∀ d ∈ tables_1, d.before a0 Z = true) (h0 : Heap) (cz : Int32) (SC : Sta Z Z.heap "java/lang/String" "COMPACT_STRINGS" "Z" (.int cz)) (hcz : ¬ cz = 0) (a src : Addr) (n : Nat) (f : Nat → Int32) (hn : 0 < n) (hcap : n ≤ 3) (E : Exa Z h0 a "java/lang/String") (FV : Fld Z h0 a "java/lang/String" "value" "[B" .null) (FC : Fld Z h0 a "java/lang/String" "coder" "B" (.int 0)) (na : Z.heap.size ≤ a) (hne : src ≠ a) (A : An Z h0 src .char n f) (hf : ∀ j, j < n → 0 ≤ (f j).toInt ∧ (f j).toInt < 65536) (hl : ∀ j, j < n → ¬ 255 < f j) :
    Ct l Z [] (⟨"java/lang/String", "<init>", "([C)V"⟩ : MethodName) jdk_42_method_3_code 2 none (⟨3, 1, 3, 52⟩ : Room) #[(.ref a), (.ref src)] h0 (fun v h' => v = none ∧ ∃ t, Keep h0 h' [a] ∧ h0.size ≤ t ∧ Str Z h' a t n f) := by
  refine Ct.of pn_java_lang_String (fun m => ef_i1 m a src) ?_
  intro p e s m below meth c s₁ X0
  refine Go.aloadN X0 1 di1_0 rfl rfl ?_
  refine Go.aloadN X0 2 di1_1 rfl rfl ?_
  refine Go.iconst X0 3 (0 : Int32) di1_2 ?_
  refine Go.aloadN X0 4 di1_3 rfl rfl ?_
  refine Go.alenN X0 5 A di1_4 ?_
  refine Go.aconst_null X0 6 di1_5 ?_
  refine Go.callI X0 9 [(.ref src), (.int (0 : Int32)), (.int (Int32.ofNat n)), .null] [] 0 rfl (hw _ (List.mem_of_getElem? (i := 11) rfl)) (hw _ (List.mem_of_getElem? (i := 12) rfl)) (hw _ (List.mem_of_getElem? (i := 6) rfl)) (by decide) rfl (hw _ (List.mem_of_getElem? (i := 14) rfl)) pd_3 di1_6 (rm_i4 l Z a0 hw h0 cz SC hcz a src n f hn hcap E FV FC na hne A hf hl 0 (Int32.ofNat n) rfl rfl) rfl rfl rfl (Nat.le_of_eq rfl) (by decide) (by decide) (by decide) (by decide) ?_
  rintro T1 v1 L1 X1 ⟨rfl, hq⟩
  show Go p e below _ T1 m 9 #[.val (.ref a), .val (.ref src)] []
  exact Go.retV X1 rfl di1_9 (X1.fin ⟨rfl, hq⟩ (by decide) (by decide))
theorem own_an0 {Z : State} {h : Heap} {b : Addr} {k : ClassId} (V : Arv Z h b k .byte (0 : Int32) [] (.int 0)) : An Z h b .byte 0 (fun _ => (0 : Int32)) := ⟨by decide, k, [], .int 0, V, rfl, fun j hj => absurd hj (Nat.not_lt_zero j)⟩
theorem own_atoms {a0 : Array Value} {Z : State} (hw : ∀ d ∈ tables_1, d.before a0 Z = true) : ∀ a ∈ Bundle.stringAtoms, a.before a0 Z = true := fun a ha => hw a (List.all_eq_true.mp (show (Bundle.stringAtoms.all fun d => decide (d ∈ tables_1)) = true from by decide +kernel) a ha |> of_decide_eq_true)
theorem own_EW {a0 : Array Value} {Z : State} (hw : ∀ d ∈ tables_1, d.before a0 Z = true) : EW Z a0 consts_1 := (EW.cons (hw _ (List.mem_of_getElem? (i := 40) rfl)) (by decide) (EW.cons (hw _ (List.mem_of_getElem? (i := 46) rfl)) (by decide) (EW.cons (hw _ (List.mem_of_getElem? (i := 18) rfl)) (by decide) EW.nil)))
theorem own_safe {Z : State} {EL : List (String × Nat)} {vm : Vm} {h : Heap} {x : Addr} (hal : Z.vm.Alike vm) (E : Exa Z h x "java/lang/String") (F : Fld Z h x "java/lang/String" "value" "[B" .null) : Safe Z EL vm h x := fun B => by
  obtain ⟨cell, k, e1, e2, e3, -, -⟩ := E
  obtain ⟨cell', cf, kf, i, f, f1, f2, -, -, -, -, f7⟩ := F
  cases e1.symm.trans f1
  obtain ⟨p, -, u, a, -, q, -, S, rfl | rfl⟩ := B
  · have hs : h[q.sa]? = some q.sC := S.ha
    cases hs.symm.trans e1
    obtain ⟨cS, ⟨⟨-, -, -, ⟨c1, k1, i1, g1, -⟩, -, -, -, v1, -⟩, -⟩, -⟩ := S
    obtain ⟨k2, g2, -⟩ := State.fieldFound?_setVm (s := Z) hal f2
    have g3 : (Wst Z vm h).fieldFound? "java/lang/String" "value" "[B" = some (cf, k2, i, f) := g2
    have g4 := g3.symm.trans g1
    simp only [Option.some.injEq, Prod.mk.injEq] at g4
    rw [← g4.2.2.2, f7] at v1
    cases v1
  · have hd : h[q.sd]? = some q.SA := S.hd
    cases hd.symm.trans e1
    obtain ⟨cS, -, -, f8, -⟩ := S
    have f9 : vm.findClass "[B" = some q.SA.cls := f8
    rw [hal.findClass] at f9
    obtain ⟨k1, q1, q2⟩ := Vm.findClass_spec f9
    obtain ⟨k2, q3, q4⟩ := Vm.findClass_spec e2
    cases q1.symm.trans q3
    exact absurd (q2.symm.trans q4) (by decide)
set_option maxRecDepth 65536 in
set_option maxHeartbeats 40000000 in
theorem rm_i4e (l : Launch) (Z : State) (a0 : Array Value) (hw : ∀ d ∈ tables_1, d.before a0 Z = true) (h0 : Heap) (a src : Addr) (E : Exa Z h0 a "java/lang/String") (FV : Fld Z h0 a "java/lang/String" "value" "[B" .null) (FC : Fld Z h0 a "java/lang/String" "coder" "B" (.int 0)) (na : Z.heap.size ≤ a) :
    CtW l Z consts_1 [] (⟨"java/lang/String", "<init>", "([CIILjava/lang/Void;)V"⟩ : MethodName) jdk_42_method_149_code 6 none (⟨1, 4, 8, 12⟩ : Room) #[(.ref a), (.ref src), (.int (0 : Int32)), (.int (0 : Int32)), .null] h0 (fun v h' => v = none ∧ ∃ t, Keep h0 h' [a] ∧ ∀ f : Nat → Int32, Str Z h' a t 0 f) := by
  refine CtW.of pn_java_lang_String (fun m => ef_i4 m a src 0 0) ?_
  intro p e s m below meth c s₁ X0 ws0 C0
  have hEL := own_EW hw
  have hS0 : Safe Z consts_1 s.vm h0 a := own_safe X0.hZ.alike E FV
  have K1 : Keep h0 h0 [a] := Keep.refl _ _
  refine Go.aloadN X0 1 di4_0 rfl rfl ?_
  refine Go.initO X0 4 (hw _ (List.mem_of_getElem? (i := 15) rfl)) (hw _ (List.mem_of_getElem? (i := 16) rfl)) (hw _ (List.mem_of_getElem? (i := 17) rfl)) 0 di4_1 rfl (by decide) (by decide) (by decide) ?_
  intro T2 X2
  refine Go.iloadN X2 5 di4_4 rfl ?_
  refine Go.if0N X2 8 di4_5 (XT.i0_ne_f (by decide)) ?_
  refine Go.aloadN X2 9 di4_8 rfl rfl ?_
  refine Go.ldcW X2 11 hEL ws0 C0.1 (hw _ (List.mem_of_getElem? (i := 18) rfl)) (own_atoms hw) (by decide) (vs := []) (z := 0) ⟨by decide, rfl⟩ (by decide) rfl di4_9 (n := 0) (by decide) (by decide) (by decide) (by decide) ?_
  intro T3 h3 vm3 x3 b3 k3 X3 ws3 E3 R3 G3 C3 V3 A3 S3
  have sf3 : Safe Z consts_1 vm3 h3 a := R3.safe E.lt hS0
  have ch3 := C0.trans R3
  have nb3 : b3 ≠ a := Ne.symm (S3 a sf3).2
  have nx3 : x3 ≠ a := Ne.symm (S3 a sf3).1
  have K4 : Keep h0 h3 [a] := K1.ext E3
  have F5 : Exa Z h3 a "java/lang/String" := E.ext E3
  have F6 : Fld Z h3 a "java/lang/String" "value" "[B" .null := FV.ext E3
  have F7 : Fld Z h3 a "java/lang/String" "coder" "B" (.int (0 : Int32)) := FC.ext E3
  have F8 : An Z h3 b3 .byte 0 (fun _ => (0 : Int32)) := own_an0 A3
  refine Go.getF X3 14 (hw _ (List.mem_of_getElem? (i := 24) rfl)) V3 di4_11 ?_
  intro T9 X9
  refine Go.putF X9 17 (hw _ (List.mem_of_getElem? (i := 24) rfl)) F6 F5 (Or.inr ⟨(hw _ (List.mem_of_getElem? (i := 20) rfl)), rfl, rfl⟩) (hw _ (List.mem_of_getElem? (i := 5) rfl)) (ty := (.array .byte)) (by decide) rfl rfl na di4_14 ?_
  intro T10 h10 X10 W10
  have ws11 : WS s vm3 h10 := ws3.le (Nat.le_of_eq W10.size.symm)
  have K12 : Keep h0 h10 [a] := K4.wr W10 (Or.inl (List.mem_of_getElem? (i := 0) rfl))
  have F13 : Exa Z h10 a "java/lang/String" := F5.wr W10
  have F14 : Fld Z h10 a "java/lang/String" "value" "[B" (.ref b3) := F6.same W10
  have F15 : Fld Z h10 a "java/lang/String" "coder" "B" (.int (0 : Int32)) := F7.other W10 (Or.inr (slot_ne (Or.inr (hw _ (List.mem_of_getElem? (i := 21) rfl))) (Or.inr (hw _ (List.mem_of_getElem? (i := 20) rfl))) (by decide) (t := .byte) (t' := (.array .byte)) (by decide) (by decide)))
  have F16 : Fld Z h10 x3 "java/lang/String" "coder" "B" (.int (0 : Int32)) := C3.other W10 (Or.inl nx3)
  have F17 : Fld Z h10 x3 "java/lang/String" "value" "[B" (.ref b3) := V3.other W10 (Or.inl nx3)
  have F18 : An Z h10 b3 .byte 0 (fun _ => (0 : Int32)) := F8.other W10 nb3
  have cw10 := ch3.trans (CHr.wr W10 sf3 ch3.1)
  have sw10 := Safe.wr W10 sf3 ch3.1 sf3
  refine Go.aloadN X10 18 di4_17 rfl rfl ?_
  refine Go.ldcW X10 20 hEL ws11 cw10.1 (hw _ (List.mem_of_getElem? (i := 18) rfl)) (own_atoms hw) (by decide) (vs := []) (z := 0) ⟨by decide, rfl⟩ (by decide) rfl di4_18 (n := 0) (by decide) (by decide) (by decide) (by decide) ?_
  intro T19 h19 vm19 x19 b19 k19 X19 ws19 E19 R19 G19 C19 V19 A19 S19
  have sf19 : Safe Z consts_1 vm19 h19 a := R19.safe F13.lt sw10
  have ch19 := cw10.trans R19
  have nb19 : b19 ≠ a := Ne.symm (S19 a sf19).2
  have nx19 : x19 ≠ a := Ne.symm (S19 a sf19).1
  have K20 : Keep h0 h19 [a] := K12.ext E19
  have F21 : Exa Z h19 a "java/lang/String" := F13.ext E19
  have F22 : Fld Z h19 a "java/lang/String" "value" "[B" (.ref b3) := F14.ext E19
  have F23 : Fld Z h19 a "java/lang/String" "coder" "B" (.int (0 : Int32)) := F15.ext E19
  have F24 : Fld Z h19 x3 "java/lang/String" "coder" "B" (.int (0 : Int32)) := F16.ext E19
  have F25 : Fld Z h19 x3 "java/lang/String" "value" "[B" (.ref b3) := F17.ext E19
  have F26 : An Z h19 b3 .byte 0 (fun _ => (0 : Int32)) := F18.ext E19
  have F27 : An Z h19 b19 .byte 0 (fun _ => (0 : Int32)) := own_an0 A19
  refine Go.getF X19 23 (hw _ (List.mem_of_getElem? (i := 25) rfl)) C19 di4_20 ?_
  intro T28 X28
  refine Go.putF X28 26 (hw _ (List.mem_of_getElem? (i := 25) rfl)) F23 F21 (Or.inr ⟨(hw _ (List.mem_of_getElem? (i := 21) rfl)), rfl, rfl⟩) (hw _ (List.mem_of_getElem? (i := 5) rfl)) (ty := .byte) (by decide) rfl rfl na di4_23 ?_
  intro T29 h29 X29 W29
  have ws30 : WS s vm19 h29 := ws19.le (Nat.le_of_eq W29.size.symm)
  have K31 : Keep h0 h29 [a] := K20.wr W29 (Or.inl (List.mem_of_getElem? (i := 0) rfl))
  have F32 : Exa Z h29 a "java/lang/String" := F21.wr W29
  have F33 : Fld Z h29 a "java/lang/String" "value" "[B" (.ref b3) := F22.other W29 (Or.inr (slot_ne (Or.inr (hw _ (List.mem_of_getElem? (i := 20) rfl))) (Or.inr (hw _ (List.mem_of_getElem? (i := 21) rfl))) (by decide) (t := (.array .byte)) (t' := .byte) (by decide) (by decide)))
  have F34 : Fld Z h29 a "java/lang/String" "coder" "B" (.int (0 : Int32)) := F23.same W29
  have F35 : Fld Z h29 x3 "java/lang/String" "coder" "B" (.int (0 : Int32)) := F24.other W29 (Or.inl nx3)
  have F36 : Fld Z h29 x3 "java/lang/String" "value" "[B" (.ref b3) := F25.other W29 (Or.inl nx3)
  have F37 : An Z h29 b3 .byte 0 (fun _ => (0 : Int32)) := F26.other W29 nb3
  have F38 : Fld Z h29 x19 "java/lang/String" "coder" "B" (.int (0 : Int32)) := C19.other W29 (Or.inl nx19)
  have F39 : Fld Z h29 x19 "java/lang/String" "value" "[B" (.ref b19) := V19.other W29 (Or.inl nx19)
  have F40 : An Z h29 b19 .byte 0 (fun _ => (0 : Int32)) := F27.other W29 nb19
  have cw29 := ch19.trans (CHr.wr W29 sf19 ch19.1)
  have sw29 := Safe.wr W29 sf19 ch19.1 sf19
  exact Go.retV X29 rfl di4_26 (X29.finW hEL ws30 cw29 ⟨rfl, b3, K31, fun f => ⟨F32, F33, by decide, fun j hj => absurd hj (Nat.not_lt_zero j), Or.inl ⟨F34, _, F37, fun j hj => absurd hj (Nat.not_lt_zero j)⟩⟩⟩ (by decide) (by decide))
set_option maxRecDepth 65536 in
set_option maxHeartbeats 40000000 in
theorem rm_i1e (l : Launch) (Z : State) (a0 : Array Value) (hw : ∀ d ∈ tables_1, d.before a0 Z = true) (h0 : Heap) (a src : Addr) (E : Exa Z h0 a "java/lang/String") (FV : Fld Z h0 a "java/lang/String" "value" "[B" .null) (FC : Fld Z h0 a "java/lang/String" "coder" "B" (.int 0)) (na : Z.heap.size ≤ a) (A : An Z h0 src .char 0 (fun _ => (0 : Int32))) :
    CtW l Z consts_1 [] (⟨"java/lang/String", "<init>", "([C)V"⟩ : MethodName) jdk_42_method_3_code 2 none (⟨2, 4, 8, 29⟩ : Room) #[(.ref a), (.ref src)] h0 (fun v h' => v = none ∧ ∃ t, Keep h0 h' [a] ∧ ∀ f : Nat → Int32, Str Z h' a t 0 f) := by
  refine CtW.of pn_java_lang_String (fun m => ef_i1 m a src) ?_
  intro p e s m below meth c s₁ X0 ws0 C0
  have hEL := own_EW hw
  refine Go.aloadN X0 1 di1_0 rfl rfl ?_
  refine Go.aloadN X0 2 di1_1 rfl rfl ?_
  refine Go.iconst X0 3 (0 : Int32) di1_2 ?_
  refine Go.aloadN X0 4 di1_3 rfl rfl ?_
  refine Go.alenN X0 5 A di1_4 ?_
  refine Go.aconst_null X0 6 di1_5 ?_
  refine Go.callIW X0 9 hEL ws0 C0.1 [(.ref src), (.int (0 : Int32)), (.int (Int32.ofNat 0)), .null] [] 0 rfl (hw _ (List.mem_of_getElem? (i := 11) rfl)) (hw _ (List.mem_of_getElem? (i := 12) rfl)) (hw _ (List.mem_of_getElem? (i := 6) rfl)) (by decide) rfl (hw _ (List.mem_of_getElem? (i := 14) rfl)) pd_3 di1_6 (rm_i4e l Z a0 hw h0 a src E FV FC na) rfl rfl rfl (Nat.le_of_eq rfl) (by decide) (by decide) (by decide) (by decide) ?_
  rintro T1 v1 L1 vm1 X1 ws1 R1 ⟨rfl, hq⟩
  show Go p e below _ T1 m 9 #[.val (.ref a), .val (.ref src)] []
  have c9 := C0.trans R1
  exact Go.retV X1 rfl di1_9 (X1.finW hEL ws1 c9 ⟨rfl, hq⟩ (by decide) (by decide))
theorem own_le {x : Int32} (h1 : ¬ 255 < x) : x.toInt < 65536 := by
  rw [Int32.lt_iff_toInt_lt] at h1
  have e : (255 : Int32).toInt = 255 := by decide
  omega
theorem own_rng {x : Int32} (h0 : 0 ≤ x.toInt) (h1 : x.toInt < 256) : 0 ≤ x.toInt ∧ ¬ 255 < x := by
  refine ⟨h0, ?_⟩
  rw [Int32.lt_iff_toInt_lt]
  have e : (255 : Int32).toInt = 255 := by decide
  omega
theorem own_nr {x : Int32} (h0 : 0 ≤ x.toInt) (h1 : x.toInt < 65536) : nar .char x = x := n_chr h0 h1
theorem own_ne58 {x : Int32} (h1 : ¬ x.toInt = 58) : ¬ x = 58 := fun q => h1 (by rw [q]; decide)
def AllC (n : Nat) (f : Nat → Int32) : Prop := ∀ j, j < n → 0 ≤ (f j).toInt ∧ ¬ 255 < f j
theorem AllC.z {n : Nat} : AllC n (fun _ => (0 : Int32)) := fun j hj => ⟨(by decide : 0 ≤ (0 : Int32).toInt), (by decide : ¬ 255 < (0 : Int32))⟩
theorem AllC.u {n i : Nat} {f : Nat → Int32} {x : Int32} (A : AllC n f) (h : 0 ≤ x.toInt ∧ ¬ 255 < x) : AllC n (upd f i x) := fun j hj => by
  unfold upd
  split
  · exact h
  · exact A j hj
theorem NoC.z {n : Nat} : ∀ j, j < n → ¬ (fun _ => (0 : Int32)) j = 58 := fun j hj => (by decide : ¬ (0 : Int32) = 58)
theorem NoC.u {n i : Nat} {f : Nat → Int32} {x : Int32} (A : ∀ j, j < n → ¬ f j = 58) (h : ¬ x = 58) : ∀ j, j < n → ¬ upd f i x j = 58 := fun j hj => by
  unfold upd
  split
  · exact h
  · exact A j hj
theorem own_k4 (x : Int32) : (x &&& 3) = 0 ∨ (x &&& 3) = 1 ∨ (x &&& 3) = 2 ∨ (x &&& 3) = 3 := by
  have h1 := c_and x 3 (by decide)
  simp only [← Int32.toInt_inj]
  have e0 : (0 : Int32).toInt = 0 := by decide
  have e1 : (1 : Int32).toInt = 1 := by decide
  have e2 : (2 : Int32).toInt = 2 := by decide
  have e3 : (3 : Int32).toInt = 3 := by decide
  rw [e0, e1, e2, e3]
  rw [e3] at h1
  omega
theorem own_255 (x : Int32) : 0 ≤ (x &&& 255).toInt ∧ ¬ 255 < (x &&& 255) := by
  have e : (255 : Int32).toInt = 255 := by decide
  have := c_and x 255 (by decide)
  rw [Int32.lt_iff_toInt_lt, e]
  rw [e] at this
  omega
theorem pn_com_example_ripieno_ripieno_engine_HandlerResultSuccessPinLaw : plainName "com/example/ripieno/ripieno/engine/HandlerResultSuccessPinLaw" = true := by first | (simp [plainName, overriddenIn]; done) | decide +kernel
theorem dt_0 : decode method_2_code 0 = .ok (.iload_n 0, 1) := by decide +kernel
theorem dt_1 : decode method_2_code 1 = .ok (.ifCond .ne 14, 3) := by decide +kernel
theorem dt_4 : decode method_2_code 4 = .ok (.new 7, 3) := by decide +kernel
theorem dt_7 : decode method_2_code 7 = .ok (.dup, 1) := by decide +kernel
theorem dt_8 : decode method_2_code 8 = .ok (.iconst 0, 1) := by decide +kernel
theorem dt_9 : decode method_2_code 9 = .ok (.newarray .char, 2) := by decide +kernel
theorem dt_11 : decode method_2_code 11 = .ok (.invokespecial 9, 3) := by decide +kernel
theorem dt_14 : decode method_2_code 14 = .ok (.areturn, 1) := by decide +kernel
theorem dt_15 : decode method_2_code 15 = .ok (.iload_n 0, 1) := by decide +kernel
theorem dt_16 : decode method_2_code 16 = .ok (.iconst 1, 1) := by decide +kernel
theorem dt_17 : decode method_2_code 17 = .ok (.if_icmp .ne 18, 3) := by decide +kernel
theorem dt_20 : decode method_2_code 20 = .ok (.new 7, 3) := by decide +kernel
theorem dt_23 : decode method_2_code 23 = .ok (.dup, 1) := by decide +kernel
theorem dt_24 : decode method_2_code 24 = .ok (.iconst 1, 1) := by decide +kernel
theorem dt_25 : decode method_2_code 25 = .ok (.newarray .char, 2) := by decide +kernel
theorem dt_27 : decode method_2_code 27 = .ok (.dup, 1) := by decide +kernel
theorem dt_28 : decode method_2_code 28 = .ok (.iconst 0, 1) := by decide +kernel
theorem dt_29 : decode method_2_code 29 = .ok (.iload_n 1, 1) := by decide +kernel
theorem dt_30 : decode method_2_code 30 = .ok (.castore, 1) := by decide +kernel
theorem dt_31 : decode method_2_code 31 = .ok (.invokespecial 9, 3) := by decide +kernel
theorem dt_34 : decode method_2_code 34 = .ok (.areturn, 1) := by decide +kernel
theorem dt_35 : decode method_2_code 35 = .ok (.iload_n 0, 1) := by decide +kernel
theorem dt_36 : decode method_2_code 36 = .ok (.iconst 2, 1) := by decide +kernel
theorem dt_37 : decode method_2_code 37 = .ok (.if_icmp .ne 22, 3) := by decide +kernel
theorem dt_40 : decode method_2_code 40 = .ok (.new 7, 3) := by decide +kernel
theorem dt_43 : decode method_2_code 43 = .ok (.dup, 1) := by decide +kernel
theorem dt_44 : decode method_2_code 44 = .ok (.iconst 2, 1) := by decide +kernel
theorem dt_45 : decode method_2_code 45 = .ok (.newarray .char, 2) := by decide +kernel
theorem dt_47 : decode method_2_code 47 = .ok (.dup, 1) := by decide +kernel
theorem dt_48 : decode method_2_code 48 = .ok (.iconst 0, 1) := by decide +kernel
theorem dt_49 : decode method_2_code 49 = .ok (.iload_n 1, 1) := by decide +kernel
theorem dt_50 : decode method_2_code 50 = .ok (.castore, 1) := by decide +kernel
theorem dt_51 : decode method_2_code 51 = .ok (.dup, 1) := by decide +kernel
theorem dt_52 : decode method_2_code 52 = .ok (.iconst 1, 1) := by decide +kernel
theorem dt_53 : decode method_2_code 53 = .ok (.iload_n 2, 1) := by decide +kernel
theorem dt_54 : decode method_2_code 54 = .ok (.castore, 1) := by decide +kernel
theorem dt_55 : decode method_2_code 55 = .ok (.invokespecial 9, 3) := by decide +kernel
theorem dt_58 : decode method_2_code 58 = .ok (.areturn, 1) := by decide +kernel
theorem dt_59 : decode method_2_code 59 = .ok (.new 7, 3) := by decide +kernel
theorem dt_62 : decode method_2_code 62 = .ok (.dup, 1) := by decide +kernel
theorem dt_63 : decode method_2_code 63 = .ok (.iconst 3, 1) := by decide +kernel
theorem dt_64 : decode method_2_code 64 = .ok (.newarray .char, 2) := by decide +kernel
theorem dt_66 : decode method_2_code 66 = .ok (.dup, 1) := by decide +kernel
theorem dt_67 : decode method_2_code 67 = .ok (.iconst 0, 1) := by decide +kernel
theorem dt_68 : decode method_2_code 68 = .ok (.iload_n 1, 1) := by decide +kernel
theorem dt_69 : decode method_2_code 69 = .ok (.castore, 1) := by decide +kernel
theorem dt_70 : decode method_2_code 70 = .ok (.dup, 1) := by decide +kernel
theorem dt_71 : decode method_2_code 71 = .ok (.iconst 1, 1) := by decide +kernel
theorem dt_72 : decode method_2_code 72 = .ok (.iload_n 2, 1) := by decide +kernel
theorem dt_73 : decode method_2_code 73 = .ok (.castore, 1) := by decide +kernel
theorem dt_74 : decode method_2_code 74 = .ok (.dup, 1) := by decide +kernel
theorem dt_75 : decode method_2_code 75 = .ok (.iconst 2, 1) := by decide +kernel
theorem dt_76 : decode method_2_code 76 = .ok (.iload_n 3, 1) := by decide +kernel
theorem dt_77 : decode method_2_code 77 = .ok (.castore, 1) := by decide +kernel
theorem dt_78 : decode method_2_code 78 = .ok (.invokespecial 9, 3) := by decide +kernel
theorem dt_81 : decode method_2_code 81 = .ok (.areturn, 1) := by decide +kernel
theorem ef_t (m : MethodId) (z : Int32) (x0 : Int32) (x1 : Int32) (x2 : Int32) : entryFrame m #[(.int z), (.int x0), (.int x1), (.int x2)] 4 = mkF m 0 #[.val (.int z), .val (.int x0), .val (.int x1), .val (.int x2)] [] := by first | (simp [entryFrame, mkF, argsToLocals, Value.category]; done) | rfl
set_option maxRecDepth 65536 in
set_option maxHeartbeats 40000000 in
theorem rm_t (l : Launch) (Z : State) (a0 : Array Value) (hw : ∀ d ∈ tables_1, d.before a0 Z = true) (h0 : Heap) (cz : Int32) (SC : Sta Z Z.heap "java/lang/String" "COMPACT_STRINGS" "Z" (.int cz)) (hcz : ¬ cz = 0) (z x0 x1 x2 : Int32) (hz : z = 0 ∨ z = 1 ∨ z = 2 ∨ z = 3) (hx0 : 0 ≤ x0.toInt ∧ ¬ 255 < x0) (hx1 : 0 ≤ x1.toInt ∧ ¬ 255 < x1) (hx2 : 0 ≤ x2.toInt ∧ ¬ 255 < x2) :
    CtW l Z consts_1 [] (⟨"com/example/ripieno/ripieno/engine/HandlerResultSuccessPinLaw", "text", "(ICCC)Ljava/lang/String;"⟩ : MethodName) method_2_code 4 (some (.object "java/lang/String")) (⟨4, 6, 15, 66⟩ : Room) #[(.int z), (.int x0), (.int x1), (.int x2)] h0 (fun v h' => ∃ a, v = some (.ref a) ∧ Keep h0 h' [] ∧ h0.size ≤ a ∧ Exa Z h' a "java/lang/String") := by
  refine CtW.of pn_com_example_ripieno_ripieno_engine_HandlerResultSuccessPinLaw (fun m => ef_t m z x0 x1 x2) ?_
  intro p e s m below meth c s₁ X0 ws0 C0
  have hEL := own_EW hw
  have K1 : Keep h0 h0 [] := Keep.refl _ _
  rcases hz with rfl | rfl | rfl | rfl
  · skip
    refine Go.iloadN X0 1 dt_0 rfl ?_
    refine Go.if0N X0 4 dt_1 (XT.i0_ne_f (by decide)) ?_
    refine Go.newO X0 7 (hw _ (List.mem_of_getElem? (i := 4) rfl)) (hw _ (List.mem_of_getElem? (i := 5) rfl)) (hw _ (List.mem_of_getElem? (i := 6) rfl)) dt_4 (by decide) (by decide) ?_
    intro T2 h2 a2 X2 E2 g2 A2 D2
    have nw_a2 : Z.heap.size ≤ a2 := by rw [← g2]; exact X0.le
    have si_a2 : h0.size ≤ a2 := by rw [← g2]; exact K1.1
    have ws3 : WS s s.vm h2 := ws0.le E2.1
    have K4 : Keep h0 h2 [] := K1.ext E2
    have F5 : Fld Z h2 a2 "java/lang/String" "value" "[B" .null := D2 (Or.inr (hw _ (List.mem_of_getElem? (i := 20) rfl))) (ty := (.array .byte)) (by decide)
    have F6 : Fld Z h2 a2 "java/lang/String" "coder" "B" (.int (0 : Int32)) := D2 (Or.inr (hw _ (List.mem_of_getElem? (i := 21) rfl))) (ty := .byte) (by decide)
    refine Go.dup X2 8 dt_7 rfl ?_
    refine Go.iconst X2 9 (0 : Int32) dt_8 ?_
    refine Go.newC X2 11 (n := 0) (hw _ (List.mem_of_getElem? (i := 7) rfl)) dt_9 0 (by decide) (by decide) (by decide) (by decide) ?_
    intro T7 h7 a7 X7 E7 g7 V7
    have nw_a7 : Z.heap.size ≤ a7 := by rw [← g7]; exact X2.le
    have si_a7 : h0.size ≤ a7 := by rw [← g7]; exact K4.1
    have ne_a2_a7 : a2 ≠ a7 := by rw [← g7]; exact Nat.ne_of_lt A2.lt
    have ws8 : WS s s.vm h7 := ws3.le E7.1
    have K9 : Keep h0 h7 [] := K4.ext E7
    have F10 : Exa Z h7 a2 "java/lang/String" := A2.ext E7
    have F11 : Fld Z h7 a2 "java/lang/String" "value" "[B" .null := F5.ext E7
    have F12 : Fld Z h7 a2 "java/lang/String" "coder" "B" (.int (0 : Int32)) := F6.ext E7
    refine Go.callIW X7 14 hEL ws8 ((C0.1.ext E2).ext E7) [(.ref a7)] [(.ref a2)] 1 rfl (hw _ (List.mem_of_getElem? (i := 8) rfl)) (hw _ (List.mem_of_getElem? (i := 9) rfl)) (hw _ (List.mem_of_getElem? (i := 6) rfl)) (by decide) rfl (hw _ (List.mem_of_getElem? (i := 10) rfl)) pd_4 dt_11 (rm_i1e l Z a0 hw h7 a2 a7 F10 F11 F12 nw_a2 V7) rfl rfl rfl (Nat.le_of_eq rfl) (by decide) (by decide) (by decide) (by decide) ?_
    rintro T13 v13 L13 vm13 X13 ws13 R13 ⟨rfl, t, K, S⟩
    show Go p e below _ T13 m 14 #[.val (.int (0 : Int32)), .val (.int x0), .val (.int x1), .val (.int x2)] [(.ref a2)]
    have K14 : Keep h0 T13.heap [] := K9.trans K (allS (Or.inr si_a2) all0)
    have F15 : Exa Z T13.heap a2 "java/lang/String" := F10.keep K
    have F16 : An Z T13.heap a7 .char 0 (fun _ => (0 : Int32)) := V7.keep K (ninS (Ne.symm ne_a2_a7) nin0)
    have c9 := (C0.trans ((CHr.ext E2 C0.1).trans (CHr.ext E7 (C0.1.ext E2)))).trans R13
    exact Go.retA X13 rfl rfl rfl dt_14 (X13.finW hEL ws13 c9 ⟨_, rfl, K14, si_a2, (S (fun _ => (0 : Int32))).exa⟩ (by decide) (by decide))
  · skip
    refine Go.iloadN X0 1 dt_0 rfl ?_
    refine Go.if0Y X0 15 dt_1 (XT.i0_ne_t (by decide)) ?_
    refine Go.iloadN X0 16 dt_15 rfl ?_
    refine Go.iconst X0 17 (1 : Int32) dt_16 ?_
    refine Go.icmpN X0 20 dt_17 (XT.ii_ne_f (by decide)) ?_
    refine Go.newO X0 23 (hw _ (List.mem_of_getElem? (i := 4) rfl)) (hw _ (List.mem_of_getElem? (i := 5) rfl)) (hw _ (List.mem_of_getElem? (i := 6) rfl)) dt_20 (by decide) (by decide) ?_
    intro T17 h17 a17 X17 E17 g17 A17 D17
    have nw_a17 : Z.heap.size ≤ a17 := by rw [← g17]; exact X0.le
    have si_a17 : h0.size ≤ a17 := by rw [← g17]; exact K1.1
    have ws18 : WS s s.vm h17 := ws0.le E17.1
    have K19 : Keep h0 h17 [] := K1.ext E17
    have F20 : Fld Z h17 a17 "java/lang/String" "value" "[B" .null := D17 (Or.inr (hw _ (List.mem_of_getElem? (i := 20) rfl))) (ty := (.array .byte)) (by decide)
    have F21 : Fld Z h17 a17 "java/lang/String" "coder" "B" (.int (0 : Int32)) := D17 (Or.inr (hw _ (List.mem_of_getElem? (i := 21) rfl))) (ty := .byte) (by decide)
    refine Go.dup X17 24 dt_23 rfl ?_
    refine Go.iconst X17 25 (1 : Int32) dt_24 ?_
    refine Go.newC X17 27 (n := 1) (hw _ (List.mem_of_getElem? (i := 7) rfl)) dt_25 1 (by decide) (by decide) (by decide) (by decide) ?_
    intro T22 h22 a22 X22 E22 g22 V22
    have nw_a22 : Z.heap.size ≤ a22 := by rw [← g22]; exact X17.le
    have si_a22 : h0.size ≤ a22 := by rw [← g22]; exact K19.1
    have ne_a17_a22 : a17 ≠ a22 := by rw [← g22]; exact Nat.ne_of_lt A17.lt
    have ws23 : WS s s.vm h22 := ws18.le E22.1
    have K24 : Keep h0 h22 [] := K19.ext E22
    have F25 : Exa Z h22 a17 "java/lang/String" := A17.ext E22
    have F26 : Fld Z h22 a17 "java/lang/String" "value" "[B" .null := F20.ext E22
    have F27 : Fld Z h22 a17 "java/lang/String" "coder" "B" (.int (0 : Int32)) := F21.ext E22
    refine Go.dup X22 28 dt_27 rfl ?_
    refine Go.iconst X22 29 (0 : Int32) dt_28 ?_
    refine Go.iloadN X22 30 dt_29 rfl ?_
    refine Go.stCN X22 31 V22 0 (by decide) dt_30 nw_a22 ?_
    intro T28 h28 w28 X28 W28 V28
    rw [(own_nr hx0.1 (own_le hx0.2) : nar .char x0 = x0)] at V28
    have ws29 : WS s s.vm h28 := ws23.le (Nat.le_of_eq W28.size.symm)
    have K30 : Keep h0 h28 [] := K24.wr W28 (Or.inr si_a22)
    have F31 : Exa Z h28 a17 "java/lang/String" := F25.wr W28
    have F32 : Fld Z h28 a17 "java/lang/String" "value" "[B" .null := F26.other W28 (Or.inl ne_a17_a22)
    have F33 : Fld Z h28 a17 "java/lang/String" "coder" "B" (.int (0 : Int32)) := F27.other W28 (Or.inl ne_a17_a22)
    have F34 : An Z h28 a22 .char 1 (upd (fun _ => (0 : Int32)) 0 x0) := V28
    have hall : AllC 1 (upd (fun _ => (0 : Int32)) 0 x0) := (AllC.u AllC.z hx0)
    refine Go.callI X28 34 [(.ref a22)] [(.ref a17)] 1 rfl (hw _ (List.mem_of_getElem? (i := 8) rfl)) (hw _ (List.mem_of_getElem? (i := 9) rfl)) (hw _ (List.mem_of_getElem? (i := 6) rfl)) (by decide) rfl (hw _ (List.mem_of_getElem? (i := 10) rfl)) pd_4 dt_31 (rm_i1 l Z a0 hw h28 cz SC hcz a17 a22 1 (upd (fun _ => (0 : Int32)) 0 x0) (by decide) (by decide) F31 F32 F33 nw_a17 (Ne.symm ne_a17_a22) F34 (fun j hj => ⟨(hall j hj).1, own_le (hall j hj).2⟩) (fun j hj => (hall j hj).2)) rfl rfl rfl (Nat.le_of_eq rfl) (by decide) (by decide) (by decide) (by decide) ?_
    rintro T35 v35 L35 X35 ⟨rfl, t, K, gt, S⟩
    show Go p e below _ T35 m 34 #[.val (.int (1 : Int32)), .val (.int x0), .val (.int x1), .val (.int x2)] [(.ref a17)]
    have ws36 : WS s s.vm T35.heap := ws29.le K.1
    have K37 : Keep h0 T35.heap [] := K30.trans K (allS (Or.inr si_a17) all0)
    have F38 : Exa Z T35.heap a17 "java/lang/String" := F31.keep K
    have F39 : An Z T35.heap a22 .char 1 (upd (fun _ => (0 : Int32)) 0 x0) := F34.keep K (ninS (Ne.symm ne_a17_a22) nin0)
    exact Go.retA X35 rfl rfl rfl dt_34 (X35.finW hEL ws36 (C0.trans (CHr.keep K37 sf0 C0.1)) ⟨_, rfl, K37, si_a17, S.exa⟩ (by decide) (by decide))
  · skip
    refine Go.iloadN X0 1 dt_0 rfl ?_
    refine Go.if0Y X0 15 dt_1 (XT.i0_ne_t (by decide)) ?_
    refine Go.iloadN X0 16 dt_15 rfl ?_
    refine Go.iconst X0 17 (1 : Int32) dt_16 ?_
    refine Go.icmpY X0 35 dt_17 (XT.ii_ne_t (by decide)) ?_
    refine Go.iloadN X0 36 dt_35 rfl ?_
    refine Go.iconst X0 37 (2 : Int32) dt_36 ?_
    refine Go.icmpN X0 40 dt_37 (XT.ii_ne_f (by decide)) ?_
    refine Go.newO X0 43 (hw _ (List.mem_of_getElem? (i := 4) rfl)) (hw _ (List.mem_of_getElem? (i := 5) rfl)) (hw _ (List.mem_of_getElem? (i := 6) rfl)) dt_40 (by decide) (by decide) ?_
    intro T40 h40 a40 X40 E40 g40 A40 D40
    have nw_a40 : Z.heap.size ≤ a40 := by rw [← g40]; exact X0.le
    have si_a40 : h0.size ≤ a40 := by rw [← g40]; exact K1.1
    have ws41 : WS s s.vm h40 := ws0.le E40.1
    have K42 : Keep h0 h40 [] := K1.ext E40
    have F43 : Fld Z h40 a40 "java/lang/String" "value" "[B" .null := D40 (Or.inr (hw _ (List.mem_of_getElem? (i := 20) rfl))) (ty := (.array .byte)) (by decide)
    have F44 : Fld Z h40 a40 "java/lang/String" "coder" "B" (.int (0 : Int32)) := D40 (Or.inr (hw _ (List.mem_of_getElem? (i := 21) rfl))) (ty := .byte) (by decide)
    refine Go.dup X40 44 dt_43 rfl ?_
    refine Go.iconst X40 45 (2 : Int32) dt_44 ?_
    refine Go.newC X40 47 (n := 2) (hw _ (List.mem_of_getElem? (i := 7) rfl)) dt_45 2 (by decide) (by decide) (by decide) (by decide) ?_
    intro T45 h45 a45 X45 E45 g45 V45
    have nw_a45 : Z.heap.size ≤ a45 := by rw [← g45]; exact X40.le
    have si_a45 : h0.size ≤ a45 := by rw [← g45]; exact K42.1
    have ne_a40_a45 : a40 ≠ a45 := by rw [← g45]; exact Nat.ne_of_lt A40.lt
    have ws46 : WS s s.vm h45 := ws41.le E45.1
    have K47 : Keep h0 h45 [] := K42.ext E45
    have F48 : Exa Z h45 a40 "java/lang/String" := A40.ext E45
    have F49 : Fld Z h45 a40 "java/lang/String" "value" "[B" .null := F43.ext E45
    have F50 : Fld Z h45 a40 "java/lang/String" "coder" "B" (.int (0 : Int32)) := F44.ext E45
    refine Go.dup X45 48 dt_47 rfl ?_
    refine Go.iconst X45 49 (0 : Int32) dt_48 ?_
    refine Go.iloadN X45 50 dt_49 rfl ?_
    refine Go.stCN X45 51 V45 0 (by decide) dt_50 nw_a45 ?_
    intro T51 h51 w51 X51 W51 V51
    rw [(own_nr hx0.1 (own_le hx0.2) : nar .char x0 = x0)] at V51
    have ws52 : WS s s.vm h51 := ws46.le (Nat.le_of_eq W51.size.symm)
    have K53 : Keep h0 h51 [] := K47.wr W51 (Or.inr si_a45)
    have F54 : Exa Z h51 a40 "java/lang/String" := F48.wr W51
    have F55 : Fld Z h51 a40 "java/lang/String" "value" "[B" .null := F49.other W51 (Or.inl ne_a40_a45)
    have F56 : Fld Z h51 a40 "java/lang/String" "coder" "B" (.int (0 : Int32)) := F50.other W51 (Or.inl ne_a40_a45)
    have F57 : An Z h51 a45 .char 2 (upd (fun _ => (0 : Int32)) 0 x0) := V51
    refine Go.dup X51 52 dt_51 rfl ?_
    refine Go.iconst X51 53 (1 : Int32) dt_52 ?_
    refine Go.iloadN X51 54 dt_53 rfl ?_
    refine Go.stCN X51 55 F57 1 (by decide) dt_54 nw_a45 ?_
    intro T58 h58 w58 X58 W58 V58
    rw [(own_nr hx1.1 (own_le hx1.2) : nar .char x1 = x1)] at V58
    have ws59 : WS s s.vm h58 := ws52.le (Nat.le_of_eq W58.size.symm)
    have K60 : Keep h0 h58 [] := K53.wr W58 (Or.inr si_a45)
    have F61 : Exa Z h58 a40 "java/lang/String" := F54.wr W58
    have F62 : Fld Z h58 a40 "java/lang/String" "value" "[B" .null := F55.other W58 (Or.inl ne_a40_a45)
    have F63 : Fld Z h58 a40 "java/lang/String" "coder" "B" (.int (0 : Int32)) := F56.other W58 (Or.inl ne_a40_a45)
    have F64 : An Z h58 a45 .char 2 (upd (upd (fun _ => (0 : Int32)) 0 x0) 1 x1) := V58
    have hall : AllC 2 (upd (upd (fun _ => (0 : Int32)) 0 x0) 1 x1) := (AllC.u (AllC.u AllC.z hx0) hx1)
    refine Go.callI X58 58 [(.ref a45)] [(.ref a40)] 1 rfl (hw _ (List.mem_of_getElem? (i := 8) rfl)) (hw _ (List.mem_of_getElem? (i := 9) rfl)) (hw _ (List.mem_of_getElem? (i := 6) rfl)) (by decide) rfl (hw _ (List.mem_of_getElem? (i := 10) rfl)) pd_4 dt_55 (rm_i1 l Z a0 hw h58 cz SC hcz a40 a45 2 (upd (upd (fun _ => (0 : Int32)) 0 x0) 1 x1) (by decide) (by decide) F61 F62 F63 nw_a40 (Ne.symm ne_a40_a45) F64 (fun j hj => ⟨(hall j hj).1, own_le (hall j hj).2⟩) (fun j hj => (hall j hj).2)) rfl rfl rfl (Nat.le_of_eq rfl) (by decide) (by decide) (by decide) (by decide) ?_
    rintro T65 v65 L65 X65 ⟨rfl, t, K, gt, S⟩
    show Go p e below _ T65 m 58 #[.val (.int (2 : Int32)), .val (.int x0), .val (.int x1), .val (.int x2)] [(.ref a40)]
    have ws66 : WS s s.vm T65.heap := ws59.le K.1
    have K67 : Keep h0 T65.heap [] := K60.trans K (allS (Or.inr si_a40) all0)
    have F68 : Exa Z T65.heap a40 "java/lang/String" := F61.keep K
    have F69 : An Z T65.heap a45 .char 2 (upd (upd (fun _ => (0 : Int32)) 0 x0) 1 x1) := F64.keep K (ninS (Ne.symm ne_a40_a45) nin0)
    exact Go.retA X65 rfl rfl rfl dt_58 (X65.finW hEL ws66 (C0.trans (CHr.keep K67 sf0 C0.1)) ⟨_, rfl, K67, si_a40, S.exa⟩ (by decide) (by decide))
  · skip
    refine Go.iloadN X0 1 dt_0 rfl ?_
    refine Go.if0Y X0 15 dt_1 (XT.i0_ne_t (by decide)) ?_
    refine Go.iloadN X0 16 dt_15 rfl ?_
    refine Go.iconst X0 17 (1 : Int32) dt_16 ?_
    refine Go.icmpY X0 35 dt_17 (XT.ii_ne_t (by decide)) ?_
    refine Go.iloadN X0 36 dt_35 rfl ?_
    refine Go.iconst X0 37 (2 : Int32) dt_36 ?_
    refine Go.icmpY X0 59 dt_37 (XT.ii_ne_t (by decide)) ?_
    refine Go.newO X0 62 (hw _ (List.mem_of_getElem? (i := 4) rfl)) (hw _ (List.mem_of_getElem? (i := 5) rfl)) (hw _ (List.mem_of_getElem? (i := 6) rfl)) dt_59 (by decide) (by decide) ?_
    intro T70 h70 a70 X70 E70 g70 A70 D70
    have nw_a70 : Z.heap.size ≤ a70 := by rw [← g70]; exact X0.le
    have si_a70 : h0.size ≤ a70 := by rw [← g70]; exact K1.1
    have ws71 : WS s s.vm h70 := ws0.le E70.1
    have K72 : Keep h0 h70 [] := K1.ext E70
    have F73 : Fld Z h70 a70 "java/lang/String" "value" "[B" .null := D70 (Or.inr (hw _ (List.mem_of_getElem? (i := 20) rfl))) (ty := (.array .byte)) (by decide)
    have F74 : Fld Z h70 a70 "java/lang/String" "coder" "B" (.int (0 : Int32)) := D70 (Or.inr (hw _ (List.mem_of_getElem? (i := 21) rfl))) (ty := .byte) (by decide)
    refine Go.dup X70 63 dt_62 rfl ?_
    refine Go.iconst X70 64 (3 : Int32) dt_63 ?_
    refine Go.newC X70 66 (n := 3) (hw _ (List.mem_of_getElem? (i := 7) rfl)) dt_64 3 (by decide) (by decide) (by decide) (by decide) ?_
    intro T75 h75 a75 X75 E75 g75 V75
    have nw_a75 : Z.heap.size ≤ a75 := by rw [← g75]; exact X70.le
    have si_a75 : h0.size ≤ a75 := by rw [← g75]; exact K72.1
    have ne_a70_a75 : a70 ≠ a75 := by rw [← g75]; exact Nat.ne_of_lt A70.lt
    have ws76 : WS s s.vm h75 := ws71.le E75.1
    have K77 : Keep h0 h75 [] := K72.ext E75
    have F78 : Exa Z h75 a70 "java/lang/String" := A70.ext E75
    have F79 : Fld Z h75 a70 "java/lang/String" "value" "[B" .null := F73.ext E75
    have F80 : Fld Z h75 a70 "java/lang/String" "coder" "B" (.int (0 : Int32)) := F74.ext E75
    refine Go.dup X75 67 dt_66 rfl ?_
    refine Go.iconst X75 68 (0 : Int32) dt_67 ?_
    refine Go.iloadN X75 69 dt_68 rfl ?_
    refine Go.stCN X75 70 V75 0 (by decide) dt_69 nw_a75 ?_
    intro T81 h81 w81 X81 W81 V81
    rw [(own_nr hx0.1 (own_le hx0.2) : nar .char x0 = x0)] at V81
    have ws82 : WS s s.vm h81 := ws76.le (Nat.le_of_eq W81.size.symm)
    have K83 : Keep h0 h81 [] := K77.wr W81 (Or.inr si_a75)
    have F84 : Exa Z h81 a70 "java/lang/String" := F78.wr W81
    have F85 : Fld Z h81 a70 "java/lang/String" "value" "[B" .null := F79.other W81 (Or.inl ne_a70_a75)
    have F86 : Fld Z h81 a70 "java/lang/String" "coder" "B" (.int (0 : Int32)) := F80.other W81 (Or.inl ne_a70_a75)
    have F87 : An Z h81 a75 .char 3 (upd (fun _ => (0 : Int32)) 0 x0) := V81
    refine Go.dup X81 71 dt_70 rfl ?_
    refine Go.iconst X81 72 (1 : Int32) dt_71 ?_
    refine Go.iloadN X81 73 dt_72 rfl ?_
    refine Go.stCN X81 74 F87 1 (by decide) dt_73 nw_a75 ?_
    intro T88 h88 w88 X88 W88 V88
    rw [(own_nr hx1.1 (own_le hx1.2) : nar .char x1 = x1)] at V88
    have ws89 : WS s s.vm h88 := ws82.le (Nat.le_of_eq W88.size.symm)
    have K90 : Keep h0 h88 [] := K83.wr W88 (Or.inr si_a75)
    have F91 : Exa Z h88 a70 "java/lang/String" := F84.wr W88
    have F92 : Fld Z h88 a70 "java/lang/String" "value" "[B" .null := F85.other W88 (Or.inl ne_a70_a75)
    have F93 : Fld Z h88 a70 "java/lang/String" "coder" "B" (.int (0 : Int32)) := F86.other W88 (Or.inl ne_a70_a75)
    have F94 : An Z h88 a75 .char 3 (upd (upd (fun _ => (0 : Int32)) 0 x0) 1 x1) := V88
    refine Go.dup X88 75 dt_74 rfl ?_
    refine Go.iconst X88 76 (2 : Int32) dt_75 ?_
    refine Go.iloadN X88 77 dt_76 rfl ?_
    refine Go.stCN X88 78 F94 2 (by decide) dt_77 nw_a75 ?_
    intro T95 h95 w95 X95 W95 V95
    rw [(own_nr hx2.1 (own_le hx2.2) : nar .char x2 = x2)] at V95
    have ws96 : WS s s.vm h95 := ws89.le (Nat.le_of_eq W95.size.symm)
    have K97 : Keep h0 h95 [] := K90.wr W95 (Or.inr si_a75)
    have F98 : Exa Z h95 a70 "java/lang/String" := F91.wr W95
    have F99 : Fld Z h95 a70 "java/lang/String" "value" "[B" .null := F92.other W95 (Or.inl ne_a70_a75)
    have F100 : Fld Z h95 a70 "java/lang/String" "coder" "B" (.int (0 : Int32)) := F93.other W95 (Or.inl ne_a70_a75)
    have F101 : An Z h95 a75 .char 3 (upd (upd (upd (fun _ => (0 : Int32)) 0 x0) 1 x1) 2 x2) := V95
    have hall : AllC 3 (upd (upd (upd (fun _ => (0 : Int32)) 0 x0) 1 x1) 2 x2) := (AllC.u (AllC.u (AllC.u AllC.z hx0) hx1) hx2)
    refine Go.callI X95 81 [(.ref a75)] [(.ref a70)] 1 rfl (hw _ (List.mem_of_getElem? (i := 8) rfl)) (hw _ (List.mem_of_getElem? (i := 9) rfl)) (hw _ (List.mem_of_getElem? (i := 6) rfl)) (by decide) rfl (hw _ (List.mem_of_getElem? (i := 10) rfl)) pd_4 dt_78 (rm_i1 l Z a0 hw h95 cz SC hcz a70 a75 3 (upd (upd (upd (fun _ => (0 : Int32)) 0 x0) 1 x1) 2 x2) (by decide) (by decide) F98 F99 F100 nw_a70 (Ne.symm ne_a70_a75) F101 (fun j hj => ⟨(hall j hj).1, own_le (hall j hj).2⟩) (fun j hj => (hall j hj).2)) rfl rfl rfl (Nat.le_of_eq rfl) (by decide) (by decide) (by decide) (by decide) ?_
    rintro T102 v102 L102 X102 ⟨rfl, t, K, gt, S⟩
    show Go p e below _ T102 m 81 #[.val (.int (3 : Int32)), .val (.int x0), .val (.int x1), .val (.int x2)] [(.ref a70)]
    have ws103 : WS s s.vm T102.heap := ws96.le K.1
    have K104 : Keep h0 T102.heap [] := K97.trans K (allS (Or.inr si_a70) all0)
    have F105 : Exa Z T102.heap a70 "java/lang/String" := F98.keep K
    have F106 : An Z T102.heap a75 .char 3 (upd (upd (upd (fun _ => (0 : Int32)) 0 x0) 1 x1) 2 x2) := F101.keep K (ninS (Ne.symm ne_a70_a75) nin0)
    exact Go.retA X102 rfl rfl rfl dt_81 (X102.finW hEL ws103 (C0.trans (CHr.keep K104 sf0 C0.1)) ⟨_, rfl, K104, si_a70, S.exa⟩ (by decide) (by decide))
theorem pn_java_lang_Number : plainName "java/lang/Number" = true := by first | (simp [plainName, overriddenIn]; done) | decide +kernel
theorem dnum_0 : decode jdk_18_method_1_code 0 = .ok (.aload_n 0, 1) := by decide +kernel
theorem dnum_1 : decode jdk_18_method_1_code 1 = .ok (.invokespecial 1, 3) := by decide +kernel
theorem dnum_4 : decode jdk_18_method_1_code 4 = .ok (.return_, 1) := by decide +kernel
theorem ef_num (m : MethodId) (a : Addr) : entryFrame m #[(.ref a)] 1 = mkF m 0 #[.val (.ref a)] [] := by first | (simp [entryFrame, mkF, argsToLocals, Value.category]; done) | rfl
set_option maxRecDepth 65536 in
set_option maxHeartbeats 40000000 in
theorem rm_num (l : Launch) (Z : State) (a0 : Array Value) (hw : ∀ d ∈ tables_1, d.before a0 Z = true) (h0 : Heap) (a : Addr) :
    Ct l Z [] (⟨"java/lang/Number", "<init>", "()V"⟩ : MethodName) jdk_18_method_1_code 1 none (⟨1, 0, 0, 12⟩ : Room) #[(.ref a)] h0 (fun v h' => v = none ∧ h' = h0) := by
  refine Ct.of pn_java_lang_Number (fun m => ef_num m a) ?_
  intro p e s m below meth c s₁ X0
  refine Go.aloadN X0 1 dnum_0 rfl rfl ?_
  refine Go.initO X0 4 (hw _ (List.mem_of_getElem? (i := 133) rfl)) (hw _ (List.mem_of_getElem? (i := 16) rfl)) (hw _ (List.mem_of_getElem? (i := 17) rfl)) 0 dnum_1 rfl (by decide) (by decide) (by decide) ?_
  intro T1 X1
  exact Go.retV X1 rfl dnum_4 (X1.fin ⟨rfl, rfl⟩ (by decide) (by decide))
theorem pn_java_lang_Integer : plainName "java/lang/Integer" = true := by first | (simp [plainName, overriddenIn]; done) | decide +kernel
theorem dnI_0 : decode jdk_33_method_23_code 0 = .ok (.aload_n 0, 1) := by decide +kernel
theorem dnI_1 : decode jdk_33_method_23_code 1 = .ok (.invokespecial 202, 3) := by decide +kernel
theorem dnI_4 : decode jdk_33_method_23_code 4 = .ok (.aload_n 0, 1) := by decide +kernel
theorem dnI_5 : decode jdk_33_method_23_code 5 = .ok (.iload_n 1, 1) := by decide +kernel
theorem dnI_6 : decode jdk_33_method_23_code 6 = .ok (.putfield 205, 3) := by decide +kernel
theorem dnI_9 : decode jdk_33_method_23_code 9 = .ok (.return_, 1) := by decide +kernel
theorem ef_nI (m : MethodId) (a : Addr) (y : Int32) : entryFrame m #[(.ref a), (.int y)] 2 = mkF m 0 #[.val (.ref a), .val (.int y)] [] := by first | (simp [entryFrame, mkF, argsToLocals, Value.category]; done) | rfl
set_option maxRecDepth 65536 in
set_option maxHeartbeats 40000000 in
theorem rm_nI (l : Launch) (Z : State) (a0 : Array Value) (hw : ∀ d ∈ tables_1, d.before a0 Z = true) (h0 : Heap) (a : Addr) (y : Int32) (E : Exa Z h0 a "java/lang/Integer") (F : Fld Z h0 a "java/lang/Integer" "value" "I" (.int 0)) (na : Z.heap.size ≤ a) :
    Ct l Z [] (⟨"java/lang/Integer", "<init>", "(I)V"⟩ : MethodName) jdk_33_method_23_code 2 none (⟨2, 0, 0, 24⟩ : Room) #[(.ref a), (.int y)] h0 (fun v h' => v = none ∧ Keep h0 h' [a]) := by
  refine Ct.of pn_java_lang_Integer (fun m => ef_nI m a y) ?_
  intro p e s m below meth c s₁ X0
  have K11 : Keep h0 h0 [a] := Keep.refl _ _
  refine Go.aloadN X0 1 dnI_0 rfl rfl ?_
  refine Go.callI X0 4 [] [] 0 rfl (hw _ (List.mem_of_getElem? (i := 127) rfl)) (hw _ (List.mem_of_getElem? (i := 128) rfl)) (hw _ (List.mem_of_getElem? (i := 131) rfl)) (by decide) rfl (hw _ (List.mem_of_getElem? (i := 132) rfl)) pd_5 dnI_1 (rm_num l Z a0 hw h0 a) rfl rfl rfl (Nat.le_of_eq rfl) (by decide) (by decide) (by decide) (by decide) ?_
  rintro T12 v12 L12 X12 ⟨rfl, hh⟩
  rw [hh] at X12
  show Go p e below _ T12 m 4 #[.val (.ref a), .val (.int y)] []
  refine Go.aloadN X12 5 dnI_4 rfl rfl ?_
  refine Go.iloadN X12 6 dnI_5 rfl ?_
  refine Go.putF X12 9 (hw _ (List.mem_of_getElem? (i := 134) rfl)) F E (Or.inr ⟨(hw _ (List.mem_of_getElem? (i := 135) rfl)), rfl, rfl⟩) (hw _ (List.mem_of_getElem? (i := 122) rfl)) (ty := .int) (by decide) rfl rfl na dnI_6 ?_
  intro T13 h13 X13 W13
  have K14 : Keep h0 h13 [a] := K11.wr W13 (Or.inl (List.mem_of_getElem? (i := 0) rfl))
  have F15 : Exa Z h13 a "java/lang/Integer" := E.wr W13
  have F16 : Fld Z h13 a "java/lang/Integer" "value" "I" (.int y) := F.same W13
  exact Go.retV X13 rfl dnI_9 (X13.fin ⟨rfl, K14⟩ (by decide) (by decide))
theorem dvI_0 : decode jdk_33_method_22_code 0 = .ok (.iload_n 0, 1) := by decide +kernel
theorem dvI_1 : decode jdk_33_method_22_code 1 = .ok (.bipush (-128), 2) := by decide +kernel
theorem dvI_3 : decode jdk_33_method_22_code 3 = .ok (.if_icmp .lt 20, 3) := by decide +kernel
theorem dvI_6 : decode jdk_33_method_22_code 6 = .ok (.iload_n 0, 1) := by decide +kernel
theorem dvI_7 : decode jdk_33_method_22_code 7 = .ok (.getstatic 191, 3) := by decide +kernel
theorem dvI_10 : decode jdk_33_method_22_code 10 = .ok (.if_icmp .gt 13, 3) := by decide +kernel
theorem dvI_13 : decode jdk_33_method_22_code 13 = .ok (.getstatic 195, 3) := by decide +kernel
theorem dvI_16 : decode jdk_33_method_22_code 16 = .ok (.iload_n 0, 1) := by decide +kernel
theorem dvI_17 : decode jdk_33_method_22_code 17 = .ok (.sipush 128, 3) := by decide +kernel
theorem dvI_20 : decode jdk_33_method_22_code 20 = .ok (.iadd, 1) := by decide +kernel
theorem dvI_21 : decode jdk_33_method_22_code 21 = .ok (.aaload, 1) := by decide +kernel
theorem dvI_22 : decode jdk_33_method_22_code 22 = .ok (.areturn, 1) := by decide +kernel
theorem dvI_23 : decode jdk_33_method_22_code 23 = .ok (.new 1, 3) := by decide +kernel
theorem dvI_26 : decode jdk_33_method_22_code 26 = .ok (.dup, 1) := by decide +kernel
theorem dvI_27 : decode jdk_33_method_22_code 27 = .ok (.iload_n 0, 1) := by decide +kernel
theorem dvI_28 : decode jdk_33_method_22_code 28 = .ok (.invokespecial 199, 3) := by decide +kernel
theorem dvI_31 : decode jdk_33_method_22_code 31 = .ok (.areturn, 1) := by decide +kernel
theorem ef_vI (m : MethodId) (y : Int32) : entryFrame m #[(.int y)] 1 = mkF m 0 #[.val (.int y)] [] := by first | (simp [entryFrame, mkF, argsToLocals, Value.category]; done) | rfl
set_option maxRecDepth 65536 in
set_option maxHeartbeats 40000000 in
theorem rm_vI (l : Launch) (Z : State) (a0 : Array Value) (hw : ∀ d ∈ tables_1, d.before a0 Z = true) (h0 : Heap) (bc : Addr) (BC : Sta Z Z.heap "java/lang/Integer$IntegerCache" "cache" "[Ljava/lang/Integer;" (.ref bc)) (cB : Cell) (vB : Int32 → Value) (CB : Bxs Z bc cB "java/lang/Integer" "I" 256 vB) (HI : Sta Z Z.heap "java/lang/Integer$IntegerCache" "high" "I" (.int 127)) (y : Int32) :
    Ct l Z [] (⟨"java/lang/Integer", "valueOf", "(I)Ljava/lang/Integer;"⟩ : MethodName) jdk_33_method_22_code 1 (some (.object "java/lang/Integer")) (⟨3, 1, 1, 38⟩ : Room) #[(.int y)] h0 (fun v h' => ∃ a, v = some (.ref a) ∧ Keep h0 h' []) := by
  refine Ct.of pn_java_lang_Integer (fun m => ef_vI m y) ?_
  intro p e s m below meth c s₁ X0
  have K11 : Keep h0 h0 [] := Keep.refl _ _
  refine Go.iloadN X0 1 dvI_0 rfl ?_
  refine Go.bipush X0 3 (-128 : Int32) dvI_1 ?_
  by_cases c12 : y < (-128 : Int32)
  · skip
    refine Go.icmpY X0 23 dvI_3 (XT.ii_lt_t c12) ?_
    refine Go.newO X0 26 (hw _ (List.mem_of_getElem? (i := 121) rfl)) (hw _ (List.mem_of_getElem? (i := 122) rfl)) (hw _ (List.mem_of_getElem? (i := 105) rfl)) dvI_23 (by decide) (by decide) ?_
    intro T13 h13 a13 X13 E13 g13 A13 D13
    have nw_a13 : Z.heap.size ≤ a13 := by rw [← g13]; exact X0.le
    have si_a13 : h0.size ≤ a13 := by rw [← g13]; exact K11.1
    have K14 : Keep h0 h13 [] := K11.ext E13
    have F15 : Fld Z h13 a13 "java/lang/Integer" "value" "I" (.int (0 : Int32)) := D13 (Or.inr (hw _ (List.mem_of_getElem? (i := 135) rfl))) (ty := .int) (by decide)
    refine Go.dup X13 27 dvI_26 rfl ?_
    refine Go.iloadN X13 28 dvI_27 rfl ?_
    refine Go.callI X13 31 [(.int y)] [(.ref a13)] 1 rfl (hw _ (List.mem_of_getElem? (i := 123) rfl)) (hw _ (List.mem_of_getElem? (i := 124) rfl)) (hw _ (List.mem_of_getElem? (i := 105) rfl)) (by decide) rfl (hw _ (List.mem_of_getElem? (i := 126) rfl)) pd_6 dvI_28 (rm_nI l Z a0 hw h13 a13 y A13 F15 nw_a13) rfl rfl rfl (Nat.le_of_eq rfl) (by decide) (by decide) (by decide) (by decide) ?_
    rintro T16 v16 L16 X16 ⟨rfl, K⟩
    show Go p e below _ T16 m 31 #[.val (.int y)] [(.ref a13)]
    have K17 : Keep h0 T16.heap [] := K14.trans K (allS (Or.inr si_a13) all0)
    exact Go.retA X16 rfl rfl rfl dvI_31 (X16.fin ⟨_, rfl, K17⟩ (by decide) (by decide))
  · skip
    refine Go.icmpN X0 6 dvI_3 (XT.ii_lt_f c12) ?_
    refine Go.iloadN X0 7 dvI_6 rfl ?_
    refine Go.getS X0 10 (hw _ (List.mem_of_getElem? (i := 107) rfl)) HI dvI_7 ?_
    intro T18 X18
    by_cases c19 : (127 : Int32) < y
    · skip
      refine Go.icmpY X18 23 dvI_10 (XT.ii_gt_t c19) ?_
      refine Go.newO X18 26 (hw _ (List.mem_of_getElem? (i := 121) rfl)) (hw _ (List.mem_of_getElem? (i := 122) rfl)) (hw _ (List.mem_of_getElem? (i := 105) rfl)) dvI_23 (by decide) (by decide) ?_
      intro T20 h20 a20 X20 E20 g20 A20 D20
      have nw_a20 : Z.heap.size ≤ a20 := by rw [← g20]; exact X18.le
      have si_a20 : h0.size ≤ a20 := by rw [← g20]; exact K11.1
      have K21 : Keep h0 h20 [] := K11.ext E20
      have F22 : Fld Z h20 a20 "java/lang/Integer" "value" "I" (.int (0 : Int32)) := D20 (Or.inr (hw _ (List.mem_of_getElem? (i := 135) rfl))) (ty := .int) (by decide)
      refine Go.dup X20 27 dvI_26 rfl ?_
      refine Go.iloadN X20 28 dvI_27 rfl ?_
      refine Go.callI X20 31 [(.int y)] [(.ref a20)] 1 rfl (hw _ (List.mem_of_getElem? (i := 123) rfl)) (hw _ (List.mem_of_getElem? (i := 124) rfl)) (hw _ (List.mem_of_getElem? (i := 105) rfl)) (by decide) rfl (hw _ (List.mem_of_getElem? (i := 126) rfl)) pd_6 dvI_28 (rm_nI l Z a0 hw h20 a20 y A20 F22 nw_a20) rfl rfl rfl (Nat.le_of_eq rfl) (by decide) (by decide) (by decide) (by decide) ?_
      rintro T23 v23 L23 X23 ⟨rfl, K⟩
      show Go p e below _ T23 m 31 #[.val (.int y)] [(.ref a20)]
      have K24 : Keep h0 T23.heap [] := K21.trans K (allS (Or.inr si_a20) all0)
      exact Go.retA X23 rfl rfl rfl dvI_31 (X23.fin ⟨_, rfl, K24⟩ (by decide) (by decide))
    · skip
      refine Go.icmpN X18 13 dvI_10 (XT.ii_gt_f c19) ?_
      refine Go.getS X18 16 (hw _ (List.mem_of_getElem? (i := 109) rfl)) BC dvI_13 ?_
      intro T25 X25
      refine Go.iloadN X25 17 dvI_16 rfl ?_
      refine Go.sipush X25 20 (128 : Int32) dvI_17 ?_
      refine Go.iadd X25 21 dvI_20 ?_
      have hj9 := own_cI c12 c19
      have zB : cB.slots.size = 256 := CB.2.1.trans (by decide)
      rw [← zB] at hj9
      obtain ⟨b9, u9, -, -⟩ := CB.2.2.2 _ hj9
      refine Go.aaloadA X25 22 (CB.1.ext X25.old) rfl dvI_21 hj9 u9 ?_
      exact Go.retA X25 rfl rfl rfl dvI_22 (X25.fin ⟨_, rfl, K11⟩ (by decide) (by decide))
theorem pn_java_lang_Long : plainName "java/lang/Long" = true := by first | (simp [plainName, overriddenIn]; done) | decide +kernel
theorem dnJ_0 : decode jdk_35_method_26_code 0 = .ok (.aload_n 0, 1) := by decide +kernel
theorem dnJ_1 : decode jdk_35_method_26_code 1 = .ok (.invokespecial 270, 3) := by decide +kernel
theorem dnJ_4 : decode jdk_35_method_26_code 4 = .ok (.aload_n 0, 1) := by decide +kernel
theorem dnJ_5 : decode jdk_35_method_26_code 5 = .ok (.lload_n 1, 1) := by decide +kernel
theorem dnJ_6 : decode jdk_35_method_26_code 6 = .ok (.putfield 273, 3) := by decide +kernel
theorem dnJ_9 : decode jdk_35_method_26_code 9 = .ok (.return_, 1) := by decide +kernel
theorem ef_nJ (m : MethodId) (a : Addr) (y : Int64) : entryFrame m #[(.ref a), (.long y)] 3 = mkF m 0 #[.val (.ref a), .val (.long y), .second] [] := by first | (simp [entryFrame, mkF, argsToLocals, Value.category]; done) | rfl
set_option maxRecDepth 65536 in
set_option maxHeartbeats 40000000 in
theorem rm_nJ (l : Launch) (Z : State) (a0 : Array Value) (hw : ∀ d ∈ tables_1, d.before a0 Z = true) (h0 : Heap) (a : Addr) (y : Int64) (E : Exa Z h0 a "java/lang/Long") (F : Fld Z h0 a "java/lang/Long" "value" "J" (.long 0)) (na : Z.heap.size ≤ a) :
    Ct l Z [] (⟨"java/lang/Long", "<init>", "(J)V"⟩ : MethodName) jdk_35_method_26_code 3 none (⟨2, 0, 0, 24⟩ : Room) #[(.ref a), (.long y)] h0 (fun v h' => v = none ∧ Keep h0 h' [a]) := by
  refine Ct.of pn_java_lang_Long (fun m => ef_nJ m a y) ?_
  intro p e s m below meth c s₁ X0
  have K11 : Keep h0 h0 [a] := Keep.refl _ _
  refine Go.aloadN X0 1 dnJ_0 rfl rfl ?_
  refine Go.callI X0 4 [] [] 0 rfl (hw _ (List.mem_of_getElem? (i := 142) rfl)) (hw _ (List.mem_of_getElem? (i := 128) rfl)) (hw _ (List.mem_of_getElem? (i := 131) rfl)) (by decide) rfl (hw _ (List.mem_of_getElem? (i := 132) rfl)) pd_5 dnJ_1 (rm_num l Z a0 hw h0 a) rfl rfl rfl (Nat.le_of_eq rfl) (by decide) (by decide) (by decide) (by decide) ?_
  rintro T12 v12 L12 X12 ⟨rfl, hh⟩
  rw [hh] at X12
  show Go p e below _ T12 m 4 #[.val (.ref a), .val (.long y), .second] []
  refine Go.aloadN X12 5 dnJ_4 rfl rfl ?_
  refine Go.lloadN X12 6 dnJ_5 rfl ?_
  refine Go.putF X12 9 (hw _ (List.mem_of_getElem? (i := 144) rfl)) F E (Or.inr ⟨(hw _ (List.mem_of_getElem? (i := 145) rfl)), rfl, rfl⟩) (hw _ (List.mem_of_getElem? (i := 137) rfl)) (ty := .long) (by decide) rfl rfl na dnJ_6 ?_
  intro T13 h13 X13 W13
  have K14 : Keep h0 h13 [a] := K11.wr W13 (Or.inl (List.mem_of_getElem? (i := 0) rfl))
  have F15 : Exa Z h13 a "java/lang/Long" := E.wr W13
  have F16 : Fld Z h13 a "java/lang/Long" "value" "J" (.long y) := F.same W13
  exact Go.retV X13 rfl dnJ_9 (X13.fin ⟨rfl, K14⟩ (by decide) (by decide))
theorem dvJ_0 : decode jdk_35_method_24_code 0 = .ok (.sipush 128, 3) := by decide +kernel
theorem dvJ_3 : decode jdk_35_method_24_code 3 = .ok (.istore_n 2, 1) := by decide +kernel
theorem dvJ_4 : decode jdk_35_method_24_code 4 = .ok (.lload_n 0, 1) := by decide +kernel
theorem dvJ_5 : decode jdk_35_method_24_code 5 = .ok (.ldc2_w 230, 3) := by decide +kernel
theorem dvJ_8 : decode jdk_35_method_24_code 8 = .ok (.lcmp, 1) := by decide +kernel
theorem dvJ_9 : decode jdk_35_method_24_code 9 = .ok (.ifCond .lt 22, 3) := by decide +kernel
theorem dvJ_12 : decode jdk_35_method_24_code 12 = .ok (.lload_n 0, 1) := by decide +kernel
theorem dvJ_13 : decode jdk_35_method_24_code 13 = .ok (.ldc2_w 232, 3) := by decide +kernel
theorem dvJ_16 : decode jdk_35_method_24_code 16 = .ok (.lcmp, 1) := by decide +kernel
theorem dvJ_17 : decode jdk_35_method_24_code 17 = .ok (.ifCond .gt 14, 3) := by decide +kernel
theorem dvJ_20 : decode jdk_35_method_24_code 20 = .ok (.getstatic 234, 3) := by decide +kernel
theorem dvJ_23 : decode jdk_35_method_24_code 23 = .ok (.lload_n 0, 1) := by decide +kernel
theorem dvJ_24 : decode jdk_35_method_24_code 24 = .ok (.l2i, 1) := by decide +kernel
theorem dvJ_25 : decode jdk_35_method_24_code 25 = .ok (.sipush 128, 3) := by decide +kernel
theorem dvJ_28 : decode jdk_35_method_24_code 28 = .ok (.iadd, 1) := by decide +kernel
theorem dvJ_29 : decode jdk_35_method_24_code 29 = .ok (.aaload, 1) := by decide +kernel
theorem dvJ_30 : decode jdk_35_method_24_code 30 = .ok (.areturn, 1) := by decide +kernel
theorem dvJ_31 : decode jdk_35_method_24_code 31 = .ok (.new 1, 3) := by decide +kernel
theorem dvJ_34 : decode jdk_35_method_24_code 34 = .ok (.dup, 1) := by decide +kernel
theorem dvJ_35 : decode jdk_35_method_24_code 35 = .ok (.lload_n 0, 1) := by decide +kernel
theorem dvJ_36 : decode jdk_35_method_24_code 36 = .ok (.invokespecial 240, 3) := by decide +kernel
theorem dvJ_39 : decode jdk_35_method_24_code 39 = .ok (.areturn, 1) := by decide +kernel
theorem ef_vJ (m : MethodId) (y : Int64) : entryFrame m #[(.long y)] 3 = mkF m 0 #[.val (.long y), .second, .unset] [] := by first | (simp [entryFrame, mkF, argsToLocals, Value.category]; done) | rfl
set_option maxRecDepth 65536 in
set_option maxHeartbeats 40000000 in
theorem rm_vJ (l : Launch) (Z : State) (a0 : Array Value) (hw : ∀ d ∈ tables_1, d.before a0 Z = true) (h0 : Heap) (bc : Addr) (BC : Sta Z Z.heap "java/lang/Long$LongCache" "cache" "[Ljava/lang/Long;" (.ref bc)) (cB : Cell) (vB : Int32 → Value) (CB : Bxs Z bc cB "java/lang/Long" "J" 256 vB) (y : Int64) :
    Ct l Z [] (⟨"java/lang/Long", "valueOf", "(J)Ljava/lang/Long;"⟩ : MethodName) jdk_35_method_24_code 3 (some (.object "java/lang/Long")) (⟨3, 1, 1, 39⟩ : Room) #[(.long y)] h0 (fun v h' => ∃ a, v = some (.ref a) ∧ Keep h0 h' []) := by
  refine Ct.of pn_java_lang_Long (fun m => ef_vJ m y) ?_
  intro p e s m below meth c s₁ X0
  have K11 : Keep h0 h0 [] := Keep.refl _ _
  refine Go.sipush X0 3 (128 : Int32) dvJ_0 ?_
  refine Go.istoreN X0 4 #[.val (.long y), .second, .val (.int (128 : Int32))] dvJ_3 rfl ?_
  refine Go.lloadN X0 5 dvJ_4 rfl ?_
  refine Go.ldcJ X0 8 (hw _ (List.mem_of_getElem? (i := 30) rfl)) dvJ_5 ?_
  refine Go.lcmp X0 9 dvJ_8 ?_
  by_cases c12 : y < (-128 : Int64)
  · skip
    refine Go.if0Y X0 31 dvJ_9 (XT.ll_lt_t c12) ?_
    refine Go.newO X0 34 (hw _ (List.mem_of_getElem? (i := 136) rfl)) (hw _ (List.mem_of_getElem? (i := 137) rfl)) (hw _ (List.mem_of_getElem? (i := 28) rfl)) dvJ_31 (by decide) (by decide) ?_
    intro T13 h13 a13 X13 E13 g13 A13 D13
    have nw_a13 : Z.heap.size ≤ a13 := by rw [← g13]; exact X0.le
    have si_a13 : h0.size ≤ a13 := by rw [← g13]; exact K11.1
    have K14 : Keep h0 h13 [] := K11.ext E13
    have F15 : Fld Z h13 a13 "java/lang/Long" "value" "J" (.long (0 : Int64)) := D13 (Or.inr (hw _ (List.mem_of_getElem? (i := 145) rfl))) (ty := .long) (by decide)
    refine Go.dup X13 35 dvJ_34 rfl ?_
    refine Go.lloadN X13 36 dvJ_35 rfl ?_
    refine Go.callI X13 39 [(.long y)] [(.ref a13)] 1 rfl (hw _ (List.mem_of_getElem? (i := 138) rfl)) (hw _ (List.mem_of_getElem? (i := 139) rfl)) (hw _ (List.mem_of_getElem? (i := 28) rfl)) (by decide) rfl (hw _ (List.mem_of_getElem? (i := 141) rfl)) pd_7 dvJ_36 (rm_nJ l Z a0 hw h13 a13 y A13 F15 nw_a13) rfl rfl rfl (Nat.le_of_eq rfl) (by decide) (by decide) (by decide) (by decide) ?_
    rintro T16 v16 L16 X16 ⟨rfl, K⟩
    show Go p e below _ T16 m 39 #[.val (.long y), .second, .val (.int (128 : Int32))] [(.ref a13)]
    have K17 : Keep h0 T16.heap [] := K14.trans K (allS (Or.inr si_a13) all0)
    exact Go.retA X16 rfl rfl rfl dvJ_39 (X16.fin ⟨_, rfl, K17⟩ (by decide) (by decide))
  · skip
    refine Go.if0N X0 12 dvJ_9 (XT.ll_lt_f c12) ?_
    refine Go.lloadN X0 13 dvJ_12 rfl ?_
    refine Go.ldcJ X0 16 (hw _ (List.mem_of_getElem? (i := 31) rfl)) dvJ_13 ?_
    refine Go.lcmp X0 17 dvJ_16 ?_
    by_cases c18 : (127 : Int64) < y
    · skip
      refine Go.if0Y X0 31 dvJ_17 (XT.ll_gt_t c18) ?_
      refine Go.newO X0 34 (hw _ (List.mem_of_getElem? (i := 136) rfl)) (hw _ (List.mem_of_getElem? (i := 137) rfl)) (hw _ (List.mem_of_getElem? (i := 28) rfl)) dvJ_31 (by decide) (by decide) ?_
      intro T19 h19 a19 X19 E19 g19 A19 D19
      have nw_a19 : Z.heap.size ≤ a19 := by rw [← g19]; exact X0.le
      have si_a19 : h0.size ≤ a19 := by rw [← g19]; exact K11.1
      have K20 : Keep h0 h19 [] := K11.ext E19
      have F21 : Fld Z h19 a19 "java/lang/Long" "value" "J" (.long (0 : Int64)) := D19 (Or.inr (hw _ (List.mem_of_getElem? (i := 145) rfl))) (ty := .long) (by decide)
      refine Go.dup X19 35 dvJ_34 rfl ?_
      refine Go.lloadN X19 36 dvJ_35 rfl ?_
      refine Go.callI X19 39 [(.long y)] [(.ref a19)] 1 rfl (hw _ (List.mem_of_getElem? (i := 138) rfl)) (hw _ (List.mem_of_getElem? (i := 139) rfl)) (hw _ (List.mem_of_getElem? (i := 28) rfl)) (by decide) rfl (hw _ (List.mem_of_getElem? (i := 141) rfl)) pd_7 dvJ_36 (rm_nJ l Z a0 hw h19 a19 y A19 F21 nw_a19) rfl rfl rfl (Nat.le_of_eq rfl) (by decide) (by decide) (by decide) (by decide) ?_
      rintro T22 v22 L22 X22 ⟨rfl, K⟩
      show Go p e below _ T22 m 39 #[.val (.long y), .second, .val (.int (128 : Int32))] [(.ref a19)]
      have K23 : Keep h0 T22.heap [] := K20.trans K (allS (Or.inr si_a19) all0)
      exact Go.retA X22 rfl rfl rfl dvJ_39 (X22.fin ⟨_, rfl, K23⟩ (by decide) (by decide))
    · skip
      refine Go.if0N X0 20 dvJ_17 (XT.ll_gt_f c18) ?_
      refine Go.getS X0 23 (hw _ (List.mem_of_getElem? (i := 32) rfl)) BC dvJ_20 ?_
      intro T24 X24
      refine Go.lloadN X24 24 dvJ_23 rfl ?_
      refine Go.l2i X24 25 dvJ_24 ?_
      refine Go.sipush X24 28 (128 : Int32) dvJ_25 ?_
      refine Go.iadd X24 29 dvJ_28 ?_
      have hj9 := own_cJ c12 c18
      have zB : cB.slots.size = 256 := CB.2.1.trans (by decide)
      rw [← zB] at hj9
      obtain ⟨b9, u9, -, -⟩ := CB.2.2.2 _ hj9
      refine Go.aaloadA X24 30 (CB.1.ext X24.old) rfl dvJ_29 hj9 u9 ?_
      exact Go.retA X24 rfl rfl rfl dvJ_30 (X24.fin ⟨_, rfl, K11⟩ (by decide) (by decide))
theorem pn_java_util_Objects : plainName "java/util/Objects" = true := by first | (simp [plainName, overriddenIn]; done) | decide +kernel
theorem dreq_0 : decode jdk_31_method_11_code 0 = .ok (.aload_n 0, 1) := by decide +kernel
theorem dreq_1 : decode jdk_31_method_11_code 1 = .ok (.ifnonnull 12, 3) := by decide +kernel
theorem dreq_4 : decode jdk_31_method_11_code 4 = .ok (.new 84, 3) := by decide +kernel
theorem dreq_7 : decode jdk_31_method_11_code 7 = .ok (.dup, 1) := by decide +kernel
theorem dreq_8 : decode jdk_31_method_11_code 8 = .ok (.aload_n 1, 1) := by decide +kernel
theorem dreq_9 : decode jdk_31_method_11_code 9 = .ok (.invokespecial 87, 3) := by decide +kernel
theorem dreq_12 : decode jdk_31_method_11_code 12 = .ok (.athrow, 1) := by decide +kernel
theorem dreq_13 : decode jdk_31_method_11_code 13 = .ok (.aload_n 0, 1) := by decide +kernel
theorem dreq_14 : decode jdk_31_method_11_code 14 = .ok (.areturn, 1) := by decide +kernel
theorem ef_req (m : MethodId) (a : Addr) (b : Addr) : entryFrame m #[(.ref a), (.ref b)] 2 = mkF m 0 #[.val (.ref a), .val (.ref b)] [] := by first | (simp [entryFrame, mkF, argsToLocals, Value.category]; done) | rfl
set_option maxRecDepth 65536 in
set_option maxHeartbeats 40000000 in
theorem rm_req (l : Launch) (Z : State) (a0 : Array Value) (hw : ∀ d ∈ tables_1, d.before a0 Z = true) (h0 : Heap) (a b : Addr) :
    Ct l Z [] (⟨"java/util/Objects", "requireNonNull", "(Ljava/lang/Object;Ljava/lang/String;)Ljava/lang/Object;"⟩ : MethodName) jdk_31_method_11_code 2 (some (.object "java/lang/Object")) (⟨0, 0, 0, 0⟩ : Room) #[(.ref a), (.ref b)] h0 (Pu h0 (.ref a)) := by
  refine Ct.of pn_java_util_Objects (fun m => ef_req m a b) ?_
  intro p e s m below meth c s₁ X0
  refine Go.aloadN X0 1 dreq_0 rfl rfl ?_
  refine Go.ifnonnullY X0 13 dreq_1 ?_
  refine Go.aloadN X0 14 dreq_13 rfl rfl ?_
  exact Go.retA X0 rfl rfl rfl dreq_14 (X0.fin ⟨rfl, rfl⟩ (by decide) (by decide))
theorem pn_com_example_ripieno_ripieno_engine_HandlerResult : plainName "com/example/ripieno/ripieno/engine/HandlerResult" = true := by first | (simp [plainName, overriddenIn]; done) | decide +kernel
theorem dhi_0 : decode prog_33_method_1_code 0 = .ok (.aload_n 0, 1) := by decide +kernel
theorem dhi_1 : decode prog_33_method_1_code 1 = .ok (.invokespecial 1, 3) := by decide +kernel
theorem dhi_4 : decode prog_33_method_1_code 4 = .ok (.aload_n 0, 1) := by decide +kernel
theorem dhi_5 : decode prog_33_method_1_code 5 = .ok (.iload_n 1, 1) := by decide +kernel
theorem dhi_6 : decode prog_33_method_1_code 6 = .ok (.putfield 7, 3) := by decide +kernel
theorem dhi_9 : decode prog_33_method_1_code 9 = .ok (.aload_n 0, 1) := by decide +kernel
theorem dhi_10 : decode prog_33_method_1_code 10 = .ok (.aload_n 2, 1) := by decide +kernel
theorem dhi_11 : decode prog_33_method_1_code 11 = .ok (.putfield 13, 3) := by decide +kernel
theorem dhi_14 : decode prog_33_method_1_code 14 = .ok (.aload_n 0, 1) := by decide +kernel
theorem dhi_15 : decode prog_33_method_1_code 15 = .ok (.aload_n 3, 1) := by decide +kernel
theorem dhi_16 : decode prog_33_method_1_code 16 = .ok (.putfield 17, 3) := by decide +kernel
theorem dhi_19 : decode prog_33_method_1_code 19 = .ok (.aload_n 0, 1) := by decide +kernel
theorem dhi_20 : decode prog_33_method_1_code 20 = .ok (.aload 4, 2) := by decide +kernel
theorem dhi_22 : decode prog_33_method_1_code 22 = .ok (.putfield 21, 3) := by decide +kernel
theorem dhi_25 : decode prog_33_method_1_code 25 = .ok (.return_, 1) := by decide +kernel
theorem ef_hi (m : MethodId) (a : Addr) (z : Int32) (tx : Addr) (vl : Addr) : entryFrame m #[(.ref a), (.int z), (.ref tx), (.ref vl), .null] 5 = mkF m 0 #[.val (.ref a), .val (.int z), .val (.ref tx), .val (.ref vl), .val .null] [] := by first | (simp [entryFrame, mkF, argsToLocals, Value.category]; done) | rfl
set_option maxRecDepth 65536 in
set_option maxHeartbeats 40000000 in
theorem rm_hi (l : Launch) (Z : State) (a0 : Array Value) (hw : ∀ d ∈ tables_1, d.before a0 Z = true) (h0 : Heap) (a : Addr) (z : Int32) (tx vl : Addr) (hz : z = 1) (E : Exa Z h0 a "com/example/ripieno/ripieno/engine/HandlerResult") (F0 : Fld Z h0 a "com/example/ripieno/ripieno/engine/HandlerResult" "success" "Z" (.int 0)) (F1 : Fld Z h0 a "com/example/ripieno/ripieno/engine/HandlerResult" "text" "Ljava/lang/String;" .null) (F2 : Fld Z h0 a "com/example/ripieno/ripieno/engine/HandlerResult" "value" "Ljava/lang/Object;" .null) (F3 : Fld Z h0 a "com/example/ripieno/ripieno/engine/HandlerResult" "cause" "Ljava/lang/Exception;" .null) (na : Z.heap.size ≤ a) :
    Ct l Z [] (⟨"com/example/ripieno/ripieno/engine/HandlerResult", "<init>", "(ZLjava/lang/String;Ljava/lang/Object;Ljava/lang/Exception;)V"⟩ : MethodName) prog_33_method_1_code 5 none (⟨1, 0, 0, 12⟩ : Room) #[(.ref a), (.int z), (.ref tx), (.ref vl), .null] h0 (fun v h' => v = none ∧ Keep h0 h' [a] ∧ Exa Z h' a "com/example/ripieno/ripieno/engine/HandlerResult" ∧ Fld Z h' a "com/example/ripieno/ripieno/engine/HandlerResult" "success" "Z" (.int 1) ∧ Fld Z h' a "com/example/ripieno/ripieno/engine/HandlerResult" "text" "Ljava/lang/String;" (.ref tx) ∧ Fld Z h' a "com/example/ripieno/ripieno/engine/HandlerResult" "value" "Ljava/lang/Object;" (.ref vl) ∧ Fld Z h' a "com/example/ripieno/ripieno/engine/HandlerResult" "cause" "Ljava/lang/Exception;" .null) := by
  refine Ct.of pn_com_example_ripieno_ripieno_engine_HandlerResult (fun m => ef_hi m a z tx vl) ?_
  intro p e s m below meth c s₁ X0
  subst hz
  have K11 : Keep h0 h0 [a] := Keep.refl _ _
  refine Go.aloadN X0 1 dhi_0 rfl rfl ?_
  refine Go.initO X0 4 (hw _ (List.mem_of_getElem? (i := 50) rfl)) (hw _ (List.mem_of_getElem? (i := 16) rfl)) (hw _ (List.mem_of_getElem? (i := 17) rfl)) 0 dhi_1 rfl (by decide) (by decide) (by decide) ?_
  intro T12 X12
  refine Go.aloadN X12 5 dhi_4 rfl rfl ?_
  refine Go.iloadN X12 6 dhi_5 rfl ?_
  refine Go.putF X12 9 (hw _ (List.mem_of_getElem? (i := 51) rfl)) F0 E (Or.inr ⟨(hw _ (List.mem_of_getElem? (i := 52) rfl)), rfl, rfl⟩) (hw _ (List.mem_of_getElem? (i := 39) rfl)) (ty := .boolean) (by decide) rfl rfl na dhi_6 ?_
  intro T13 h13 X13 W13
  have K14 : Keep h0 h13 [a] := K11.wr W13 (Or.inl (List.mem_of_getElem? (i := 0) rfl))
  have F15 : Exa Z h13 a "com/example/ripieno/ripieno/engine/HandlerResult" := E.wr W13
  have F16 : Fld Z h13 a "com/example/ripieno/ripieno/engine/HandlerResult" "success" "Z" (.int (1 : Int32)) := F0.same W13
  have F17 : Fld Z h13 a "com/example/ripieno/ripieno/engine/HandlerResult" "text" "Ljava/lang/String;" .null := F1.other W13 (Or.inr (slot_ne (Or.inr (hw _ (List.mem_of_getElem? (i := 54) rfl))) (Or.inr (hw _ (List.mem_of_getElem? (i := 52) rfl))) (by decide) (t := (.object "java/lang/String")) (t' := .boolean) (by decide) (by decide)))
  have F18 : Fld Z h13 a "com/example/ripieno/ripieno/engine/HandlerResult" "value" "Ljava/lang/Object;" .null := F2.other W13 (Or.inr (slot_ne (Or.inr (hw _ (List.mem_of_getElem? (i := 56) rfl))) (Or.inr (hw _ (List.mem_of_getElem? (i := 52) rfl))) (by decide) (t := (.object "java/lang/Object")) (t' := .boolean) (by decide) (by decide)))
  have F19 : Fld Z h13 a "com/example/ripieno/ripieno/engine/HandlerResult" "cause" "Ljava/lang/Exception;" .null := F3.other W13 (Or.inr (slot_ne (Or.inr (hw _ (List.mem_of_getElem? (i := 58) rfl))) (Or.inr (hw _ (List.mem_of_getElem? (i := 52) rfl))) (by decide) (t := (.object "java/lang/Exception")) (t' := .boolean) (by decide) (by decide)))
  refine Go.aloadN X13 10 dhi_9 rfl rfl ?_
  refine Go.aloadN X13 11 dhi_10 rfl rfl ?_
  refine Go.putF X13 14 (hw _ (List.mem_of_getElem? (i := 53) rfl)) F17 F15 (Or.inr ⟨(hw _ (List.mem_of_getElem? (i := 54) rfl)), rfl, rfl⟩) (hw _ (List.mem_of_getElem? (i := 39) rfl)) (ty := (.object "java/lang/String")) (by decide) rfl rfl na dhi_11 ?_
  intro T20 h20 X20 W20
  have K21 : Keep h0 h20 [a] := K14.wr W20 (Or.inl (List.mem_of_getElem? (i := 0) rfl))
  have F22 : Exa Z h20 a "com/example/ripieno/ripieno/engine/HandlerResult" := F15.wr W20
  have F23 : Fld Z h20 a "com/example/ripieno/ripieno/engine/HandlerResult" "success" "Z" (.int (1 : Int32)) := F16.other W20 (Or.inr (slot_ne (Or.inr (hw _ (List.mem_of_getElem? (i := 52) rfl))) (Or.inr (hw _ (List.mem_of_getElem? (i := 54) rfl))) (by decide) (t := .boolean) (t' := (.object "java/lang/String")) (by decide) (by decide)))
  have F24 : Fld Z h20 a "com/example/ripieno/ripieno/engine/HandlerResult" "text" "Ljava/lang/String;" (.ref tx) := F17.same W20
  have F25 : Fld Z h20 a "com/example/ripieno/ripieno/engine/HandlerResult" "value" "Ljava/lang/Object;" .null := F18.other W20 (Or.inr (slot_ne (Or.inr (hw _ (List.mem_of_getElem? (i := 56) rfl))) (Or.inr (hw _ (List.mem_of_getElem? (i := 54) rfl))) (by decide) (t := (.object "java/lang/Object")) (t' := (.object "java/lang/String")) (by decide) (by decide)))
  have F26 : Fld Z h20 a "com/example/ripieno/ripieno/engine/HandlerResult" "cause" "Ljava/lang/Exception;" .null := F19.other W20 (Or.inr (slot_ne (Or.inr (hw _ (List.mem_of_getElem? (i := 58) rfl))) (Or.inr (hw _ (List.mem_of_getElem? (i := 54) rfl))) (by decide) (t := (.object "java/lang/Exception")) (t' := (.object "java/lang/String")) (by decide) (by decide)))
  refine Go.aloadN X20 15 dhi_14 rfl rfl ?_
  refine Go.aloadN X20 16 dhi_15 rfl rfl ?_
  refine Go.putF X20 19 (hw _ (List.mem_of_getElem? (i := 55) rfl)) F25 F22 (Or.inr ⟨(hw _ (List.mem_of_getElem? (i := 56) rfl)), rfl, rfl⟩) (hw _ (List.mem_of_getElem? (i := 39) rfl)) (ty := (.object "java/lang/Object")) (by decide) rfl rfl na dhi_16 ?_
  intro T27 h27 X27 W27
  have K28 : Keep h0 h27 [a] := K21.wr W27 (Or.inl (List.mem_of_getElem? (i := 0) rfl))
  have F29 : Exa Z h27 a "com/example/ripieno/ripieno/engine/HandlerResult" := F22.wr W27
  have F30 : Fld Z h27 a "com/example/ripieno/ripieno/engine/HandlerResult" "success" "Z" (.int (1 : Int32)) := F23.other W27 (Or.inr (slot_ne (Or.inr (hw _ (List.mem_of_getElem? (i := 52) rfl))) (Or.inr (hw _ (List.mem_of_getElem? (i := 56) rfl))) (by decide) (t := .boolean) (t' := (.object "java/lang/Object")) (by decide) (by decide)))
  have F31 : Fld Z h27 a "com/example/ripieno/ripieno/engine/HandlerResult" "text" "Ljava/lang/String;" (.ref tx) := F24.other W27 (Or.inr (slot_ne (Or.inr (hw _ (List.mem_of_getElem? (i := 54) rfl))) (Or.inr (hw _ (List.mem_of_getElem? (i := 56) rfl))) (by decide) (t := (.object "java/lang/String")) (t' := (.object "java/lang/Object")) (by decide) (by decide)))
  have F32 : Fld Z h27 a "com/example/ripieno/ripieno/engine/HandlerResult" "value" "Ljava/lang/Object;" (.ref vl) := F25.same W27
  have F33 : Fld Z h27 a "com/example/ripieno/ripieno/engine/HandlerResult" "cause" "Ljava/lang/Exception;" .null := F26.other W27 (Or.inr (slot_ne (Or.inr (hw _ (List.mem_of_getElem? (i := 58) rfl))) (Or.inr (hw _ (List.mem_of_getElem? (i := 56) rfl))) (by decide) (t := (.object "java/lang/Exception")) (t' := (.object "java/lang/Object")) (by decide) (by decide)))
  refine Go.aloadN X27 20 dhi_19 rfl rfl ?_
  refine Go.aload X27 22 dhi_20 rfl rfl ?_
  refine Go.putF X27 25 (hw _ (List.mem_of_getElem? (i := 57) rfl)) F33 F29 (Or.inr ⟨(hw _ (List.mem_of_getElem? (i := 58) rfl)), rfl, rfl⟩) (hw _ (List.mem_of_getElem? (i := 39) rfl)) (ty := (.object "java/lang/Exception")) (by decide) rfl rfl na dhi_22 ?_
  intro T34 h34 X34 W34
  have K35 : Keep h0 h34 [a] := K28.wr W34 (Or.inl (List.mem_of_getElem? (i := 0) rfl))
  have F36 : Exa Z h34 a "com/example/ripieno/ripieno/engine/HandlerResult" := F29.wr W34
  have F37 : Fld Z h34 a "com/example/ripieno/ripieno/engine/HandlerResult" "success" "Z" (.int (1 : Int32)) := F30.other W34 (Or.inr (slot_ne (Or.inr (hw _ (List.mem_of_getElem? (i := 52) rfl))) (Or.inr (hw _ (List.mem_of_getElem? (i := 58) rfl))) (by decide) (t := .boolean) (t' := (.object "java/lang/Exception")) (by decide) (by decide)))
  have F38 : Fld Z h34 a "com/example/ripieno/ripieno/engine/HandlerResult" "text" "Ljava/lang/String;" (.ref tx) := F31.other W34 (Or.inr (slot_ne (Or.inr (hw _ (List.mem_of_getElem? (i := 54) rfl))) (Or.inr (hw _ (List.mem_of_getElem? (i := 58) rfl))) (by decide) (t := (.object "java/lang/String")) (t' := (.object "java/lang/Exception")) (by decide) (by decide)))
  have F39 : Fld Z h34 a "com/example/ripieno/ripieno/engine/HandlerResult" "value" "Ljava/lang/Object;" (.ref vl) := F32.other W34 (Or.inr (slot_ne (Or.inr (hw _ (List.mem_of_getElem? (i := 56) rfl))) (Or.inr (hw _ (List.mem_of_getElem? (i := 58) rfl))) (by decide) (t := (.object "java/lang/Object")) (t' := (.object "java/lang/Exception")) (by decide) (by decide)))
  have F40 : Fld Z h34 a "com/example/ripieno/ripieno/engine/HandlerResult" "cause" "Ljava/lang/Exception;" .null := F33.same W34
  exact Go.retV X34 rfl dhi_25 (X34.fin ⟨rfl, K35, F36, F37, F38, F39, F40⟩ (by decide) (by decide))
theorem dsu_0 : decode prog_33_method_3_code 0 = .ok (.new 8, 3) := by decide +kernel
theorem dsu_3 : decode prog_33_method_3_code 3 = .ok (.dup, 1) := by decide +kernel
theorem dsu_4 : decode prog_33_method_3_code 4 = .ok (.iconst 1, 1) := by decide +kernel
theorem dsu_5 : decode prog_33_method_3_code 5 = .ok (.aload_n 0, 1) := by decide +kernel
theorem dsu_6 : decode prog_33_method_3_code 6 = .ok (.ldc 25, 2) := by decide +kernel
theorem dsu_8 : decode prog_33_method_3_code 8 = .ok (.invokestatic 26, 3) := by decide +kernel
theorem dsu_11 : decode prog_33_method_3_code 11 = .ok (.checkcast 32, 3) := by decide +kernel
theorem dsu_14 : decode prog_33_method_3_code 14 = .ok (.aload_n 1, 1) := by decide +kernel
theorem dsu_15 : decode prog_33_method_3_code 15 = .ok (.ldc 37, 2) := by decide +kernel
theorem dsu_17 : decode prog_33_method_3_code 17 = .ok (.invokestatic 26, 3) := by decide +kernel
theorem dsu_20 : decode prog_33_method_3_code 20 = .ok (.aconst_null, 1) := by decide +kernel
theorem dsu_21 : decode prog_33_method_3_code 21 = .ok (.invokespecial 34, 3) := by decide +kernel
theorem dsu_24 : decode prog_33_method_3_code 24 = .ok (.areturn, 1) := by decide +kernel
theorem ef_su (m : MethodId) (tx : Addr) (vl : Addr) : entryFrame m #[(.ref tx), (.ref vl)] 2 = mkF m 0 #[.val (.ref tx), .val (.ref vl)] [] := by first | (simp [entryFrame, mkF, argsToLocals, Value.category]; done) | rfl
set_option maxRecDepth 65536 in
set_option maxHeartbeats 40000000 in
theorem rm_su (l : Launch) (Z : State) (a0 : Array Value) (hw : ∀ d ∈ tables_1, d.before a0 Z = true) (h0 : Heap) (tx vl : Addr) (ET : Exa Z h0 tx "java/lang/String") :
    CtW l Z consts_1 [] (⟨"com/example/ripieno/ripieno/engine/HandlerResult", "success", "(Ljava/lang/String;Ljava/lang/Object;)Lcom/example/ripieno/ripieno/engine/HandlerResult;"⟩ : MethodName) prog_33_method_3_code 2 (some (.object "com/example/ripieno/ripieno/engine/HandlerResult")) (⟨2, 5, 48, 29⟩ : Room) #[(.ref tx), (.ref vl)] h0 (fun v h' => ∃ a, v = some (.ref a) ∧ Keep h0 h' [] ∧ h0.size ≤ a ∧ Exa Z h' a "com/example/ripieno/ripieno/engine/HandlerResult" ∧ Fld Z h' a "com/example/ripieno/ripieno/engine/HandlerResult" "success" "Z" (.int 1) ∧ Fld Z h' a "com/example/ripieno/ripieno/engine/HandlerResult" "text" "Ljava/lang/String;" (.ref tx) ∧ Fld Z h' a "com/example/ripieno/ripieno/engine/HandlerResult" "value" "Ljava/lang/Object;" (.ref vl) ∧ Fld Z h' a "com/example/ripieno/ripieno/engine/HandlerResult" "cause" "Ljava/lang/Exception;" .null) := by
  refine CtW.of pn_com_example_ripieno_ripieno_engine_HandlerResult (fun m => ef_su m tx vl) ?_
  intro p e s m below meth c s₁ X0 ws0 C0
  have hEL := own_EW hw
  have K11 : Keep h0 h0 [] := Keep.refl _ _
  refine Go.newO X0 3 (hw _ (List.mem_of_getElem? (i := 38) rfl)) (hw _ (List.mem_of_getElem? (i := 39) rfl)) (hw _ (List.mem_of_getElem? (i := 36) rfl)) dsu_0 (by decide) (by decide) ?_
  intro T12 h12 a12 X12 E12 g12 A12 D12
  have nw_a12 : Z.heap.size ≤ a12 := by rw [← g12]; exact X0.le
  have si_a12 : h0.size ≤ a12 := by rw [← g12]; exact K11.1
  have ne_tx_a12 : tx ≠ a12 := by rw [← g12]; exact Nat.ne_of_lt ET.lt
  have ws13 : WS s s.vm h12 := ws0.le E12.1
  have K14 : Keep h0 h12 [] := K11.ext E12
  have F15 : Exa Z h12 tx "java/lang/String" := ET.ext E12
  have F16 : Fld Z h12 a12 "com/example/ripieno/ripieno/engine/HandlerResult" "success" "Z" (.int (0 : Int32)) := D12 (Or.inr (hw _ (List.mem_of_getElem? (i := 52) rfl))) (ty := .boolean) (by decide)
  have F17 : Fld Z h12 a12 "com/example/ripieno/ripieno/engine/HandlerResult" "text" "Ljava/lang/String;" .null := D12 (Or.inr (hw _ (List.mem_of_getElem? (i := 54) rfl))) (ty := (.object "java/lang/String")) (by decide)
  have F18 : Fld Z h12 a12 "com/example/ripieno/ripieno/engine/HandlerResult" "value" "Ljava/lang/Object;" .null := D12 (Or.inr (hw _ (List.mem_of_getElem? (i := 56) rfl))) (ty := (.object "java/lang/Object")) (by decide)
  have F19 : Fld Z h12 a12 "com/example/ripieno/ripieno/engine/HandlerResult" "cause" "Ljava/lang/Exception;" .null := D12 (Or.inr (hw _ (List.mem_of_getElem? (i := 58) rfl))) (ty := (.object "java/lang/Exception")) (by decide)
  have cn12 := C0.trans (CHr.ext E12 C0.1)
  refine Go.dup X12 4 dsu_3 rfl ?_
  refine Go.iconst X12 5 (1 : Int32) dsu_4 ?_
  refine Go.aloadN X12 6 dsu_5 rfl rfl ?_
  refine Go.ldcW X12 8 hEL ws13 cn12.1 (hw _ (List.mem_of_getElem? (i := 40) rfl)) (own_atoms hw) (by decide) (vs := [.int 116, .int 101, .int 120, .int 116]) (z := 4) ⟨by decide, rfl⟩ (by decide) rfl dsu_6 (n := 16) (by decide) (by decide) (by decide) (by decide) ?_
  intro T20 h20 vm20 x20 b20 k20 X20 ws20 E20 R20 G20 C20 V20 A20 S20
  have ch20 := cn12.trans R20
  have K21 : Keep h0 h20 [] := K14.ext E20
  have F22 : Exa Z h20 tx "java/lang/String" := F15.ext E20
  have F23 : Exa Z h20 a12 "com/example/ripieno/ripieno/engine/HandlerResult" := A12.ext E20
  have F24 : Fld Z h20 a12 "com/example/ripieno/ripieno/engine/HandlerResult" "success" "Z" (.int (0 : Int32)) := F16.ext E20
  have F25 : Fld Z h20 a12 "com/example/ripieno/ripieno/engine/HandlerResult" "text" "Ljava/lang/String;" .null := F17.ext E20
  have F26 : Fld Z h20 a12 "com/example/ripieno/ripieno/engine/HandlerResult" "value" "Ljava/lang/Object;" .null := F18.ext E20
  have F27 : Fld Z h20 a12 "com/example/ripieno/ripieno/engine/HandlerResult" "cause" "Ljava/lang/Exception;" .null := F19.ext E20
  refine Go.callSP X20 11 [(.ref tx), (.ref x20)] [(.int (1 : Int32)), (.ref a12), (.ref a12)] 3 (hw _ (List.mem_of_getElem? (i := 41) rfl)) (hw _ (List.mem_of_getElem? (i := 42) rfl)) (hw _ (List.mem_of_getElem? (i := 43) rfl)) (by decide) (hw _ (List.mem_of_getElem? (i := 44) rfl)) pd_8 dsu_8 (rm_req l Z a0 hw h20 tx x20) rfl rfl rfl (Nat.le_of_eq rfl) (by decide) (by decide) (by decide) (by decide) ?_
  intro T28 L28 X28
  refine Go.castY X28 14 (hw _ (List.mem_of_getElem? (i := 45) rfl)) (Ins.self F22) dsu_11 ?_
  intro T29 X29
  refine Go.aloadN X29 15 dsu_14 rfl rfl ?_
  refine Go.ldcW X29 17 hEL ws20 ch20.1 (hw _ (List.mem_of_getElem? (i := 46) rfl)) (own_atoms hw) (by decide) (vs := [.int 118, .int 97, .int 108, .int 117, .int 101]) (z := 5) ⟨by decide, rfl⟩ (by decide) rfl dsu_15 (n := 20) (by decide) (by decide) (by decide) (by decide) ?_
  intro T30 h30 vm30 x30 b30 k30 X30 ws30 E30 R30 G30 C30 V30 A30 S30
  have ch30 := ch20.trans R30
  have K31 : Keep h0 h30 [] := K21.ext E30
  have F32 : Exa Z h30 tx "java/lang/String" := F22.ext E30
  have F33 : Exa Z h30 a12 "com/example/ripieno/ripieno/engine/HandlerResult" := F23.ext E30
  have F34 : Fld Z h30 a12 "com/example/ripieno/ripieno/engine/HandlerResult" "success" "Z" (.int (0 : Int32)) := F24.ext E30
  have F35 : Fld Z h30 a12 "com/example/ripieno/ripieno/engine/HandlerResult" "text" "Ljava/lang/String;" .null := F25.ext E30
  have F36 : Fld Z h30 a12 "com/example/ripieno/ripieno/engine/HandlerResult" "value" "Ljava/lang/Object;" .null := F26.ext E30
  have F37 : Fld Z h30 a12 "com/example/ripieno/ripieno/engine/HandlerResult" "cause" "Ljava/lang/Exception;" .null := F27.ext E30
  refine Go.callSP X30 20 [(.ref vl), (.ref x30)] [(.ref tx), (.int (1 : Int32)), (.ref a12), (.ref a12)] 4 (hw _ (List.mem_of_getElem? (i := 41) rfl)) (hw _ (List.mem_of_getElem? (i := 42) rfl)) (hw _ (List.mem_of_getElem? (i := 43) rfl)) (by decide) (hw _ (List.mem_of_getElem? (i := 44) rfl)) pd_8 dsu_17 (rm_req l Z a0 hw h30 vl x30) rfl rfl rfl (Nat.le_of_eq rfl) (by decide) (by decide) (by decide) (by decide) ?_
  intro T38 L38 X38
  refine Go.aconst_null X38 21 dsu_20 ?_
  have sfA : Safe Z consts_1 vm30 h30 a12 := Safe.exa X38.hZ.alike F33 (by decide) (by decide)
  refine Go.callI X38 24 [(.int (1 : Int32)), (.ref tx), (.ref vl), .null] [(.ref a12)] 1 rfl (hw _ (List.mem_of_getElem? (i := 47) rfl)) (hw _ (List.mem_of_getElem? (i := 48) rfl)) (hw _ (List.mem_of_getElem? (i := 36) rfl)) (by decide) rfl (hw _ (List.mem_of_getElem? (i := 49) rfl)) pd_9 dsu_21 (rm_hi l Z a0 hw h30 a12 1 tx vl rfl F33 F34 F35 F36 F37 nw_a12) rfl rfl rfl (Nat.le_of_eq rfl) (by decide) (by decide) (by decide) (by decide) ?_
  rintro T39 v39 L39 X39 ⟨rfl, K, hq⟩
  show Go p e below _ T39 m 24 #[.val (.ref tx), .val (.ref vl)] [(.ref a12)]
  have cz9 := ch30.trans (CHr.keep K (allS sfA all0) ch30.1)
  have ws40 : WS s vm30 T39.heap := ws30.le K.1
  have K41 : Keep h0 T39.heap [] := K31.trans K (allS (Or.inr si_a12) all0)
  exact Go.retA X39 rfl rfl rfl dsu_24 (X39.finW hEL ws40 cz9 ⟨_, rfl, K41, si_a12, hq⟩ (by decide) (by decide))
theorem dis_0 : decode prog_33_method_7_code 0 = .ok (.aload_n 0, 1) := by decide +kernel
theorem dis_1 : decode prog_33_method_7_code 1 = .ok (.getfield 7, 3) := by decide +kernel
theorem dis_4 : decode prog_33_method_7_code 4 = .ok (.ireturn, 1) := by decide +kernel
theorem ef_is (m : MethodId) (a : Addr) : entryFrame m #[(.ref a)] 1 = mkF m 0 #[.val (.ref a)] [] := by first | (simp [entryFrame, mkF, argsToLocals, Value.category]; done) | rfl
set_option maxRecDepth 65536 in
set_option maxHeartbeats 40000000 in
theorem rm_is (l : Launch) (Z : State) (a0 : Array Value) (hw : ∀ d ∈ tables_1, d.before a0 Z = true) (h0 : Heap) (a : Addr) (F : Fld Z h0 a "com/example/ripieno/ripieno/engine/HandlerResult" "success" "Z" (.int 1)) :
    Ct l Z [] (⟨"com/example/ripieno/ripieno/engine/HandlerResult", "isSuccess", "()Z"⟩ : MethodName) prog_33_method_7_code 1 (some .boolean) (⟨0, 0, 0, 0⟩ : Room) #[(.ref a)] h0 (Pu h0 (.int 1)) := by
  refine Ct.of pn_com_example_ripieno_ripieno_engine_HandlerResult (fun m => ef_is m a) ?_
  intro p e s m below meth c s₁ X0
  refine Go.aloadN X0 1 dis_0 rfl rfl ?_
  refine Go.getF X0 4 (hw _ (List.mem_of_getElem? (i := 51) rfl)) F dis_1 ?_
  intro T1 X1
  exact Go.retI X1 rfl (by simp) rfl dis_4 (X1.fin ⟨rfl, rfl⟩ (by decide) (by decide))
theorem dtx_0 : decode prog_33_method_8_code 0 = .ok (.aload_n 0, 1) := by decide +kernel
theorem dtx_1 : decode prog_33_method_8_code 1 = .ok (.getfield 13, 3) := by decide +kernel
theorem dtx_4 : decode prog_33_method_8_code 4 = .ok (.areturn, 1) := by decide +kernel
theorem ef_tx (m : MethodId) (a : Addr) : entryFrame m #[(.ref a)] 1 = mkF m 0 #[.val (.ref a)] [] := by first | (simp [entryFrame, mkF, argsToLocals, Value.category]; done) | rfl
set_option maxRecDepth 65536 in
set_option maxHeartbeats 40000000 in
theorem rm_tx (l : Launch) (Z : State) (a0 : Array Value) (hw : ∀ d ∈ tables_1, d.before a0 Z = true) (h0 : Heap) (a tx : Addr) (F : Fld Z h0 a "com/example/ripieno/ripieno/engine/HandlerResult" "text" "Ljava/lang/String;" (.ref tx)) :
    Ct l Z [] (⟨"com/example/ripieno/ripieno/engine/HandlerResult", "text", "()Ljava/lang/String;"⟩ : MethodName) prog_33_method_8_code 1 (some (.object "java/lang/String")) (⟨0, 0, 0, 0⟩ : Room) #[(.ref a)] h0 (Pu h0 (.ref tx)) := by
  refine Ct.of pn_com_example_ripieno_ripieno_engine_HandlerResult (fun m => ef_tx m a) ?_
  intro p e s m below meth c s₁ X0
  refine Go.aloadN X0 1 dtx_0 rfl rfl ?_
  refine Go.getF X0 4 (hw _ (List.mem_of_getElem? (i := 53) rfl)) F dtx_1 ?_
  intro T1 X1
  exact Go.retA X1 rfl rfl rfl dtx_4 (X1.fin ⟨rfl, rfl⟩ (by decide) (by decide))
theorem pn_java_util_Optional : plainName "java/util/Optional" = true := by first | (simp [plainName, overriddenIn]; done) | decide +kernel
theorem doi_0 : decode jdk_32_method_2_code 0 = .ok (.aload_n 0, 1) := by decide +kernel
theorem doi_1 : decode jdk_32_method_2_code 1 = .ok (.invokespecial 7, 3) := by decide +kernel
theorem doi_4 : decode jdk_32_method_2_code 4 = .ok (.aload_n 0, 1) := by decide +kernel
theorem doi_5 : decode jdk_32_method_2_code 5 = .ok (.aload_n 1, 1) := by decide +kernel
theorem doi_6 : decode jdk_32_method_2_code 6 = .ok (.putfield 13, 3) := by decide +kernel
theorem doi_9 : decode jdk_32_method_2_code 9 = .ok (.return_, 1) := by decide +kernel
theorem ef_oi (m : MethodId) (a : Addr) (vl : Addr) : entryFrame m #[(.ref a), (.ref vl)] 2 = mkF m 0 #[.val (.ref a), .val (.ref vl)] [] := by first | (simp [entryFrame, mkF, argsToLocals, Value.category]; done) | rfl
set_option maxRecDepth 65536 in
set_option maxHeartbeats 40000000 in
theorem rm_oi (l : Launch) (Z : State) (a0 : Array Value) (hw : ∀ d ∈ tables_1, d.before a0 Z = true) (h0 : Heap) (a vl : Addr) (E : Exa Z h0 a "java/util/Optional") (F : Fld Z h0 a "java/util/Optional" "value" "Ljava/lang/Object;" .null) (na : Z.heap.size ≤ a) :
    Ct l Z [] (⟨"java/util/Optional", "<init>", "(Ljava/lang/Object;)V"⟩ : MethodName) jdk_32_method_2_code 2 none (⟨1, 0, 0, 12⟩ : Room) #[(.ref a), (.ref vl)] h0 (fun v h' => v = none ∧ Keep h0 h' [a] ∧ Exa Z h' a "java/util/Optional" ∧ Fld Z h' a "java/util/Optional" "value" "Ljava/lang/Object;" (.ref vl)) := by
  refine Ct.of pn_java_util_Optional (fun m => ef_oi m a vl) ?_
  intro p e s m below meth c s₁ X0
  have K11 : Keep h0 h0 [a] := Keep.refl _ _
  refine Go.aloadN X0 1 doi_0 rfl rfl ?_
  refine Go.initO X0 4 (hw _ (List.mem_of_getElem? (i := 84) rfl)) (hw _ (List.mem_of_getElem? (i := 16) rfl)) (hw _ (List.mem_of_getElem? (i := 17) rfl)) 0 doi_1 rfl (by decide) (by decide) (by decide) ?_
  intro T12 X12
  refine Go.aloadN X12 5 doi_4 rfl rfl ?_
  refine Go.aloadN X12 6 doi_5 rfl rfl ?_
  refine Go.putF X12 9 (hw _ (List.mem_of_getElem? (i := 85) rfl)) F E (Or.inr ⟨(hw _ (List.mem_of_getElem? (i := 86) rfl)), rfl, rfl⟩) (hw _ (List.mem_of_getElem? (i := 79) rfl)) (ty := (.object "java/lang/Object")) (by decide) rfl rfl na doi_6 ?_
  intro T13 h13 X13 W13
  have K14 : Keep h0 h13 [a] := K11.wr W13 (Or.inl (List.mem_of_getElem? (i := 0) rfl))
  have F15 : Exa Z h13 a "java/util/Optional" := E.wr W13
  have F16 : Fld Z h13 a "java/util/Optional" "value" "Ljava/lang/Object;" (.ref vl) := F.same W13
  exact Go.retV X13 rfl doi_9 (X13.fin ⟨rfl, K14, F15, F16⟩ (by decide) (by decide))
theorem donR_0 : decode jdk_32_method_4_code 0 = .ok (.aload_n 0, 1) := by decide +kernel
theorem donR_1 : decode jdk_32_method_4_code 1 = .ok (.ifnonnull 9, 3) := by decide +kernel
theorem donR_4 : decode jdk_32_method_4_code 4 = .ok (.getstatic 1, 3) := by decide +kernel
theorem donR_7 : decode jdk_32_method_4_code 7 = .ok (.goto 11, 3) := by decide +kernel
theorem donR_10 : decode jdk_32_method_4_code 10 = .ok (.new 2, 3) := by decide +kernel
theorem donR_13 : decode jdk_32_method_4_code 13 = .ok (.dup, 1) := by decide +kernel
theorem donR_14 : decode jdk_32_method_4_code 14 = .ok (.aload_n 0, 1) := by decide +kernel
theorem donR_15 : decode jdk_32_method_4_code 15 = .ok (.invokespecial 23, 3) := by decide +kernel
theorem donR_18 : decode jdk_32_method_4_code 18 = .ok (.areturn, 1) := by decide +kernel
theorem ef_onR (m : MethodId) (vl : Addr) : entryFrame m #[(.ref vl)] 1 = mkF m 0 #[.val (.ref vl)] [] := by first | (simp [entryFrame, mkF, argsToLocals, Value.category]; done) | rfl
set_option maxRecDepth 65536 in
set_option maxHeartbeats 40000000 in
theorem rm_onR (l : Launch) (Z : State) (a0 : Array Value) (hw : ∀ d ∈ tables_1, d.before a0 Z = true) (h0 : Heap) (vl : Addr) :
    Ct l Z [] (⟨"java/util/Optional", "ofNullable", "(Ljava/lang/Object;)Ljava/util/Optional;"⟩ : MethodName) jdk_32_method_4_code 1 (some (.object "java/util/Optional")) (⟨2, 1, 1, 26⟩ : Room) #[(.ref vl)] h0 (fun v h' => ∃ o, v = some (.ref o) ∧ Keep h0 h' [] ∧ Exa Z h' o "java/util/Optional" ∧ Fld Z h' o "java/util/Optional" "value" "Ljava/lang/Object;" (.ref vl)) := by
  refine Ct.of pn_java_util_Optional (fun m => ef_onR m vl) ?_
  intro p e s m below meth c s₁ X0
  have K11 : Keep h0 h0 [] := Keep.refl _ _
  refine Go.aloadN X0 1 donR_0 rfl rfl ?_
  refine Go.ifnonnullY X0 10 donR_1 ?_
  refine Go.newO X0 13 (hw _ (List.mem_of_getElem? (i := 78) rfl)) (hw _ (List.mem_of_getElem? (i := 79) rfl)) (hw _ (List.mem_of_getElem? (i := 76) rfl)) donR_10 (by decide) (by decide) ?_
  intro T12 h12 a12 X12 E12 g12 A12 D12
  have nw_a12 : Z.heap.size ≤ a12 := by rw [← g12]; exact X0.le
  have si_a12 : h0.size ≤ a12 := by rw [← g12]; exact K11.1
  have K13 : Keep h0 h12 [] := K11.ext E12
  have F14 : Fld Z h12 a12 "java/util/Optional" "value" "Ljava/lang/Object;" .null := D12 (Or.inr (hw _ (List.mem_of_getElem? (i := 86) rfl))) (ty := (.object "java/lang/Object")) (by decide)
  refine Go.dup X12 14 donR_13 rfl ?_
  refine Go.aloadN X12 15 donR_14 rfl rfl ?_
  refine Go.callI X12 18 [(.ref vl)] [(.ref a12)] 1 rfl (hw _ (List.mem_of_getElem? (i := 80) rfl)) (hw _ (List.mem_of_getElem? (i := 81) rfl)) (hw _ (List.mem_of_getElem? (i := 76) rfl)) (by decide) rfl (hw _ (List.mem_of_getElem? (i := 83) rfl)) pd_10 donR_15 (rm_oi l Z a0 hw h12 a12 vl A12 F14 nw_a12) rfl rfl rfl (Nat.le_of_eq rfl) (by decide) (by decide) (by decide) (by decide) ?_
  rintro T15 v15 L15 X15 ⟨rfl, K, hq⟩
  show Go p e below _ T15 m 18 #[.val (.ref vl)] [(.ref a12)]
  have K16 : Keep h0 T15.heap [] := K13.trans K (allS (Or.inr si_a12) all0)
  exact Go.retA X15 rfl rfl rfl donR_18 (X15.fin ⟨_, rfl, K16, hq⟩ (by decide) (by decide))
theorem donN_0 : decode jdk_32_method_4_code 0 = .ok (.aload_n 0, 1) := by decide +kernel
theorem donN_1 : decode jdk_32_method_4_code 1 = .ok (.ifnonnull 9, 3) := by decide +kernel
theorem donN_4 : decode jdk_32_method_4_code 4 = .ok (.getstatic 1, 3) := by decide +kernel
theorem donN_7 : decode jdk_32_method_4_code 7 = .ok (.goto 11, 3) := by decide +kernel
theorem donN_10 : decode jdk_32_method_4_code 10 = .ok (.new 2, 3) := by decide +kernel
theorem donN_13 : decode jdk_32_method_4_code 13 = .ok (.dup, 1) := by decide +kernel
theorem donN_14 : decode jdk_32_method_4_code 14 = .ok (.aload_n 0, 1) := by decide +kernel
theorem donN_15 : decode jdk_32_method_4_code 15 = .ok (.invokespecial 23, 3) := by decide +kernel
theorem donN_18 : decode jdk_32_method_4_code 18 = .ok (.areturn, 1) := by decide +kernel
theorem ef_onN (m : MethodId)  : entryFrame m #[.null] 1 = mkF m 0 #[.val .null] [] := by first | (simp [entryFrame, mkF, argsToLocals, Value.category]; done) | rfl
set_option maxRecDepth 65536 in
set_option maxHeartbeats 40000000 in
theorem rm_onN (l : Launch) (Z : State) (a0 : Array Value) (hw : ∀ d ∈ tables_1, d.before a0 Z = true) (h0 : Heap) (em : Addr) (SE : Sta Z Z.heap "java/util/Optional" "EMPTY" "Ljava/util/Optional;" (.ref em)) :
    Ct l Z [] (⟨"java/util/Optional", "ofNullable", "(Ljava/lang/Object;)Ljava/util/Optional;"⟩ : MethodName) jdk_32_method_4_code 1 (some (.object "java/util/Optional")) (⟨0, 0, 0, 0⟩ : Room) #[.null] h0 (Pu h0 (.ref em)) := by
  refine Ct.of pn_java_util_Optional (fun m => ef_onN m ) ?_
  intro p e s m below meth c s₁ X0
  refine Go.aloadN X0 1 donN_0 rfl rfl ?_
  refine Go.ifnonnullN X0 4 donN_1 ?_
  refine Go.getS X0 7 (hw _ (List.mem_of_getElem? (i := 102) rfl)) SE donN_4 ?_
  intro T1 X1
  refine Go.goto X1 18 donN_7 ?_
  exact Go.retA X1 rfl rfl rfl donN_18 (X1.fin ⟨rfl, rfl⟩ (by decide) (by decide))
theorem dva_0 : decode prog_33_method_9_code 0 = .ok (.aload_n 0, 1) := by decide +kernel
theorem dva_1 : decode prog_33_method_9_code 1 = .ok (.getfield 17, 3) := by decide +kernel
theorem dva_4 : decode prog_33_method_9_code 4 = .ok (.invokestatic 64, 3) := by decide +kernel
theorem dva_7 : decode prog_33_method_9_code 7 = .ok (.areturn, 1) := by decide +kernel
theorem ef_va (m : MethodId) (a : Addr) : entryFrame m #[(.ref a)] 1 = mkF m 0 #[.val (.ref a)] [] := by first | (simp [entryFrame, mkF, argsToLocals, Value.category]; done) | rfl
set_option maxRecDepth 65536 in
set_option maxHeartbeats 40000000 in
theorem rm_va (l : Launch) (Z : State) (a0 : Array Value) (hw : ∀ d ∈ tables_1, d.before a0 Z = true) (h0 : Heap) (a vl : Addr) (F : Fld Z h0 a "com/example/ripieno/ripieno/engine/HandlerResult" "value" "Ljava/lang/Object;" (.ref vl)) :
    Ct l Z [] (⟨"com/example/ripieno/ripieno/engine/HandlerResult", "value", "()Ljava/util/Optional;"⟩ : MethodName) prog_33_method_9_code 1 (some (.object "java/util/Optional")) (⟨3, 1, 1, 38⟩ : Room) #[(.ref a)] h0 (fun v h' => ∃ o, v = some (.ref o) ∧ Keep h0 h' [] ∧ Exa Z h' o "java/util/Optional" ∧ Fld Z h' o "java/util/Optional" "value" "Ljava/lang/Object;" (.ref vl)) := by
  refine Ct.of pn_com_example_ripieno_ripieno_engine_HandlerResult (fun m => ef_va m a) ?_
  intro p e s m below meth c s₁ X0
  refine Go.aloadN X0 1 dva_0 rfl rfl ?_
  refine Go.getF X0 4 (hw _ (List.mem_of_getElem? (i := 55) rfl)) F dva_1 ?_
  intro T1 X1
  refine Go.callS X1 7 [(.ref vl)] [] 0 (hw _ (List.mem_of_getElem? (i := 74) rfl)) (hw _ (List.mem_of_getElem? (i := 75) rfl)) (hw _ (List.mem_of_getElem? (i := 76) rfl)) (by decide) (hw _ (List.mem_of_getElem? (i := 77) rfl)) pd_11 dva_4 (rm_onR l Z a0 hw h0 vl) rfl rfl rfl (Nat.le_of_eq rfl) (by decide) (by decide) (by decide) (by decide) ?_
  rintro T2 v2 L2 X2 ⟨o, rfl, hq⟩
  show Go p e below _ T2 m 7 #[.val (.ref a)] [(.ref o)]
  exact Go.retA X2 rfl rfl rfl dva_7 (X2.fin ⟨o, rfl, hq⟩ (by decide) (by decide))
theorem dca_0 : decode prog_33_method_10_code 0 = .ok (.aload_n 0, 1) := by decide +kernel
theorem dca_1 : decode prog_33_method_10_code 1 = .ok (.getfield 21, 3) := by decide +kernel
theorem dca_4 : decode prog_33_method_10_code 4 = .ok (.invokestatic 64, 3) := by decide +kernel
theorem dca_7 : decode prog_33_method_10_code 7 = .ok (.areturn, 1) := by decide +kernel
theorem ef_ca (m : MethodId) (a : Addr) : entryFrame m #[(.ref a)] 1 = mkF m 0 #[.val (.ref a)] [] := by first | (simp [entryFrame, mkF, argsToLocals, Value.category]; done) | rfl
set_option maxRecDepth 65536 in
set_option maxHeartbeats 40000000 in
theorem rm_ca (l : Launch) (Z : State) (a0 : Array Value) (hw : ∀ d ∈ tables_1, d.before a0 Z = true) (h0 : Heap) (em : Addr) (SE : Sta Z Z.heap "java/util/Optional" "EMPTY" "Ljava/util/Optional;" (.ref em)) (a : Addr) (F : Fld Z h0 a "com/example/ripieno/ripieno/engine/HandlerResult" "cause" "Ljava/lang/Exception;" .null) :
    Ct l Z [] (⟨"com/example/ripieno/ripieno/engine/HandlerResult", "cause", "()Ljava/util/Optional;"⟩ : MethodName) prog_33_method_10_code 1 (some (.object "java/util/Optional")) (⟨1, 0, 0, 12⟩ : Room) #[(.ref a)] h0 (Pu h0 (.ref em)) := by
  refine Ct.of pn_com_example_ripieno_ripieno_engine_HandlerResult (fun m => ef_ca m a) ?_
  intro p e s m below meth c s₁ X0
  refine Go.aloadN X0 1 dca_0 rfl rfl ?_
  refine Go.getF X0 4 (hw _ (List.mem_of_getElem? (i := 57) rfl)) F dca_1 ?_
  intro T1 X1
  refine Go.callSP X1 7 [.null] [] 0 (hw _ (List.mem_of_getElem? (i := 74) rfl)) (hw _ (List.mem_of_getElem? (i := 75) rfl)) (hw _ (List.mem_of_getElem? (i := 76) rfl)) (by decide) (hw _ (List.mem_of_getElem? (i := 77) rfl)) pd_11 dca_4 (rm_onN l Z a0 hw h0 em SE) rfl rfl rfl (Nat.le_of_eq rfl) (by decide) (by decide) (by decide) (by decide) ?_
  intro T2 L2 X2
  exact Go.retA X2 rfl rfl rfl dca_7 (X2.fin ⟨rfl, rfl⟩ (by decide) (by decide))
theorem dprR_0 : decode jdk_32_method_6_code 0 = .ok (.aload_n 0, 1) := by decide +kernel
theorem dprR_1 : decode jdk_32_method_6_code 1 = .ok (.getfield 13, 3) := by decide +kernel
theorem dprR_4 : decode jdk_32_method_6_code 4 = .ok (.ifnull 7, 3) := by decide +kernel
theorem dprR_7 : decode jdk_32_method_6_code 7 = .ok (.iconst 1, 1) := by decide +kernel
theorem dprR_8 : decode jdk_32_method_6_code 8 = .ok (.goto 4, 3) := by decide +kernel
theorem dprR_11 : decode jdk_32_method_6_code 11 = .ok (.iconst 0, 1) := by decide +kernel
theorem dprR_12 : decode jdk_32_method_6_code 12 = .ok (.ireturn, 1) := by decide +kernel
theorem ef_prR (m : MethodId) (a : Addr) : entryFrame m #[(.ref a)] 1 = mkF m 0 #[.val (.ref a)] [] := by first | (simp [entryFrame, mkF, argsToLocals, Value.category]; done) | rfl
set_option maxRecDepth 65536 in
set_option maxHeartbeats 40000000 in
theorem rm_prR (l : Launch) (Z : State) (a0 : Array Value) (hw : ∀ d ∈ tables_1, d.before a0 Z = true) (h0 : Heap) (a vl : Addr) (F : Fld Z h0 a "java/util/Optional" "value" "Ljava/lang/Object;" (.ref vl)) :
    Ct l Z [] (⟨"java/util/Optional", "isPresent", "()Z"⟩ : MethodName) jdk_32_method_6_code 1 (some .boolean) (⟨0, 0, 0, 0⟩ : Room) #[(.ref a)] h0 (Pu h0 (.int 1)) := by
  refine Ct.of pn_java_util_Optional (fun m => ef_prR m a) ?_
  intro p e s m below meth c s₁ X0
  refine Go.aloadN X0 1 dprR_0 rfl rfl ?_
  refine Go.getF X0 4 (hw _ (List.mem_of_getElem? (i := 85) rfl)) F dprR_1 ?_
  intro T1 X1
  refine Go.ifnullN X1 7 dprR_4 ?_
  refine Go.iconst X1 8 (1 : Int32) dprR_7 ?_
  refine Go.goto X1 12 dprR_8 ?_
  exact Go.retI X1 rfl (by simp) rfl dprR_12 (X1.fin ⟨rfl, rfl⟩ (by decide) (by decide))
theorem dprN_0 : decode jdk_32_method_6_code 0 = .ok (.aload_n 0, 1) := by decide +kernel
theorem dprN_1 : decode jdk_32_method_6_code 1 = .ok (.getfield 13, 3) := by decide +kernel
theorem dprN_4 : decode jdk_32_method_6_code 4 = .ok (.ifnull 7, 3) := by decide +kernel
theorem dprN_7 : decode jdk_32_method_6_code 7 = .ok (.iconst 1, 1) := by decide +kernel
theorem dprN_8 : decode jdk_32_method_6_code 8 = .ok (.goto 4, 3) := by decide +kernel
theorem dprN_11 : decode jdk_32_method_6_code 11 = .ok (.iconst 0, 1) := by decide +kernel
theorem dprN_12 : decode jdk_32_method_6_code 12 = .ok (.ireturn, 1) := by decide +kernel
theorem ef_prN (m : MethodId) (a : Addr) : entryFrame m #[(.ref a)] 1 = mkF m 0 #[.val (.ref a)] [] := by first | (simp [entryFrame, mkF, argsToLocals, Value.category]; done) | rfl
set_option maxRecDepth 65536 in
set_option maxHeartbeats 40000000 in
theorem rm_prN (l : Launch) (Z : State) (a0 : Array Value) (hw : ∀ d ∈ tables_1, d.before a0 Z = true) (h0 : Heap) (a vl : Addr) (F : Fld Z h0 a "java/util/Optional" "value" "Ljava/lang/Object;" .null) :
    Ct l Z [] (⟨"java/util/Optional", "isPresent", "()Z"⟩ : MethodName) jdk_32_method_6_code 1 (some .boolean) (⟨0, 0, 0, 0⟩ : Room) #[(.ref a)] h0 (Pu h0 (.int 0)) := by
  refine Ct.of pn_java_util_Optional (fun m => ef_prN m a) ?_
  intro p e s m below meth c s₁ X0
  refine Go.aloadN X0 1 dprN_0 rfl rfl ?_
  refine Go.getF X0 4 (hw _ (List.mem_of_getElem? (i := 85) rfl)) F dprN_1 ?_
  intro T1 X1
  refine Go.ifnullY X1 11 dprN_4 ?_
  refine Go.iconst X1 12 (0 : Int32) dprN_11 ?_
  exact Go.retI X1 rfl (by simp) rfl dprN_12 (X1.fin ⟨rfl, rfl⟩ (by decide) (by decide))
theorem dge_0 : decode jdk_32_method_5_code 0 = .ok (.aload_n 0, 1) := by decide +kernel
theorem dge_1 : decode jdk_32_method_5_code 1 = .ok (.getfield 13, 3) := by decide +kernel
theorem dge_4 : decode jdk_32_method_5_code 4 = .ok (.ifnonnull 13, 3) := by decide +kernel
theorem dge_7 : decode jdk_32_method_5_code 7 = .ok (.new 26, 3) := by decide +kernel
theorem dge_10 : decode jdk_32_method_5_code 10 = .ok (.dup, 1) := by decide +kernel
theorem dge_11 : decode jdk_32_method_5_code 11 = .ok (.ldc 28, 2) := by decide +kernel
theorem dge_13 : decode jdk_32_method_5_code 13 = .ok (.invokespecial 30, 3) := by decide +kernel
theorem dge_16 : decode jdk_32_method_5_code 16 = .ok (.athrow, 1) := by decide +kernel
theorem dge_17 : decode jdk_32_method_5_code 17 = .ok (.aload_n 0, 1) := by decide +kernel
theorem dge_18 : decode jdk_32_method_5_code 18 = .ok (.getfield 13, 3) := by decide +kernel
theorem dge_21 : decode jdk_32_method_5_code 21 = .ok (.areturn, 1) := by decide +kernel
theorem ef_ge (m : MethodId) (a : Addr) : entryFrame m #[(.ref a)] 1 = mkF m 0 #[.val (.ref a)] [] := by first | (simp [entryFrame, mkF, argsToLocals, Value.category]; done) | rfl
set_option maxRecDepth 65536 in
set_option maxHeartbeats 40000000 in
theorem rm_ge (l : Launch) (Z : State) (a0 : Array Value) (hw : ∀ d ∈ tables_1, d.before a0 Z = true) (h0 : Heap) (a vl : Addr) (F : Fld Z h0 a "java/util/Optional" "value" "Ljava/lang/Object;" (.ref vl)) :
    Ct l Z [] (⟨"java/util/Optional", "get", "()Ljava/lang/Object;"⟩ : MethodName) jdk_32_method_5_code 1 (some (.object "java/lang/Object")) (⟨0, 0, 0, 0⟩ : Room) #[(.ref a)] h0 (Pu h0 (.ref vl)) := by
  refine Ct.of pn_java_util_Optional (fun m => ef_ge m a) ?_
  intro p e s m below meth c s₁ X0
  refine Go.aloadN X0 1 dge_0 rfl rfl ?_
  refine Go.getF X0 4 (hw _ (List.mem_of_getElem? (i := 85) rfl)) F dge_1 ?_
  intro T1 X1
  refine Go.ifnonnullY X1 17 dge_4 ?_
  refine Go.aloadN X1 18 dge_17 rfl rfl ?_
  refine Go.getF X1 21 (hw _ (List.mem_of_getElem? (i := 85) rfl)) F dge_18 ?_
  intro T2 X2
  exact Go.retA X2 rfl rfl rfl dge_21 (X2.fin ⟨rfl, rfl⟩ (by decide) (by decide))
theorem ef_l (m : MethodId) (q0 : Int32) (q1 : Int32) (q2 : Int64) : entryFrame m #[(.int q0), (.int q1), (.long q2)] maxLocals = mkF m 0 #[.val (.int q0), .val (.int q1), .val (.long q2), .second, .unset, .unset, .unset, .unset, .unset, .unset, .unset] [] := by first | (simp [entryFrame, mkF, argsToLocals, Value.category, maxLocals]; done) | rfl
set_option maxRecDepth 65536 in
set_option maxHeartbeats 40000000 in
theorem rm_l (l : Launch) (Z : State) (a0 : Array Value) (hw : ∀ d ∈ tables_1, d.before a0 Z = true) (h0 : Heap) (cz : Int32) (SC : Sta Z Z.heap "java/lang/String" "COMPACT_STRINGS" "Z" (.int cz)) (hcz : ¬ cz = 0) (bi : Addr) (BI : Sta Z Z.heap "java/lang/Integer$IntegerCache" "cache" "[Ljava/lang/Integer;" (.ref bi)) (cI : Cell) (vI : Int32 → Value) (CI : Bxs Z bi cI "java/lang/Integer" "I" 256 vI) (HI : Sta Z Z.heap "java/lang/Integer$IntegerCache" "high" "I" (.int 127)) (bj : Addr) (BJ : Sta Z Z.heap "java/lang/Long$LongCache" "cache" "[Ljava/lang/Long;" (.ref bj)) (cJ : Cell) (vJ : Int32 → Value) (CJ : Bxs Z bj cJ "java/lang/Long" "J" 256 vJ) (em : Addr) (SE : Sta Z Z.heap "java/util/Optional" "EMPTY" "Ljava/util/Optional;" (.ref em)) (EE : Exa Z Z.heap em "java/util/Optional") (FE : Fld Z Z.heap em "java/util/Optional" "value" "Ljava/lang/Object;" .null) (q0 q1 : Int32) (q2 : Int64) :
    CtL l Z consts_1 tables_1 x code maxLocals ret room_1 #[(.int q0), (.int q1), (.long q2)] h0 (fun v _ => v = some (.int 1)) := by
  refine CtL.of pn_com_example_ripieno_ripieno_engine_HandlerResultSuccessPinLaw (fun m => ef_l m q0 q1 q2) ?_
  intro p e s m below meth c s₁ X0 ws0 H0
  have hEL := own_EW hw
  refine Go.iloadN X0 1 at_0 rfl ?_
  refine Go.iconst X0 2 (3 : Int32) at_1 ?_
  refine Go.iand X0 3 at_2 ?_
  have hz := own_k4 q0
  generalize (q0 &&& (3 : Int32)) = z0 at hz ⊢
  refine Go.istore X0 5 #[.val (.int q0), .val (.int q1), .val (.long q2), .second, .val (.int z0), .unset, .unset, .unset, .unset, .unset, .unset] at_3 rfl ?_
  refine Go.iloadN X0 6 at_5 rfl ?_
  refine Go.sipush X0 9 (255 : Int32) at_6 ?_
  refine Go.iand X0 10 at_9 ?_
  refine Go.i2c X0 11 at_10 ?_
  rw [i2c_mask q1]
  have rx0 := own_255 q1
  generalize (q1 &&& (255 : Int32)) = x0 at rx0 ⊢
  refine Go.istore X0 13 #[.val (.int q0), .val (.int q1), .val (.long q2), .second, .val (.int z0), .val (.int x0), .unset, .unset, .unset, .unset, .unset] at_11 rfl ?_
  refine Go.iloadN X0 14 at_13 rfl ?_
  refine Go.bipush X0 16 (8 : Int32) at_14 ?_
  refine Go.iushr X0 17 at_16 ?_
  refine Go.sipush X0 20 (255 : Int32) at_17 ?_
  refine Go.iand X0 21 at_20 ?_
  refine Go.i2c X0 22 at_21 ?_
  rw [i2c_mask (XT.ushr q1 (8 : Int32))]
  have rx1 := own_255 (XT.ushr q1 (8 : Int32))
  generalize ((XT.ushr q1 (8 : Int32)) &&& (255 : Int32)) = x1 at rx1 ⊢
  refine Go.istore X0 24 #[.val (.int q0), .val (.int q1), .val (.long q2), .second, .val (.int z0), .val (.int x0), .val (.int x1), .unset, .unset, .unset, .unset] at_22 rfl ?_
  refine Go.iloadN X0 25 at_24 rfl ?_
  refine Go.bipush X0 27 (16 : Int32) at_25 ?_
  refine Go.iushr X0 28 at_27 ?_
  refine Go.sipush X0 31 (255 : Int32) at_28 ?_
  refine Go.iand X0 32 at_31 ?_
  refine Go.i2c X0 33 at_32 ?_
  rw [i2c_mask (XT.ushr q1 (16 : Int32))]
  have rx2 := own_255 (XT.ushr q1 (16 : Int32))
  generalize ((XT.ushr q1 (16 : Int32)) &&& (255 : Int32)) = x2 at rx2 ⊢
  refine Go.istore X0 35 #[.val (.int q0), .val (.int q1), .val (.long q2), .second, .val (.int z0), .val (.int x0), .val (.int x1), .val (.int x2), .unset, .unset, .unset] at_33 rfl ?_
  refine Go.iload X0 37 at_35 rfl ?_
  refine Go.iload X0 39 at_37 rfl ?_
  refine Go.iload X0 41 at_39 rfl ?_
  refine Go.iload X0 43 at_41 rfl ?_
  refine Go.callSW X0 46 hEL ws0 H0 [(.int z0), (.int x0), (.int x1), (.int x2)] [] 0 (hw _ (List.mem_of_getElem? (i := 0) rfl)) (hw _ (List.mem_of_getElem? (i := 1) rfl)) (hw _ (List.mem_of_getElem? (i := 2) rfl)) (by decide) (hw _ (List.mem_of_getElem? (i := 3) rfl)) pd_12 at_43 (rm_t l Z a0 hw h0 cz SC hcz z0 x0 x1 x2 hz rx0 rx1 rx2) rfl rfl rfl (Nat.le_of_eq rfl) (by decide) (by decide) (by decide) (by decide) ?_
  rintro T21 v21 L21 vm21 X21 ws21 R21 ⟨tx, rfl, Kt, gt, ET⟩
  show Go p e below _ T21 m 46 #[.val (.int q0), .val (.int q1), .val (.long q2), .second, .val (.int z0), .val (.int x0), .val (.int x1), .val (.int x2), .unset, .unset, .unset] [(.ref tx)]
  have H1 := R21.1
  refine Go.astore X21 48 #[.val (.int q0), .val (.int q1), .val (.long q2), .second, .val (.int z0), .val (.int x0), .val (.int x1), .val (.int x2), .val (.ref tx), .unset, .unset] at_46 rfl rfl ?_
  refine Go.iloadN X21 49 at_48 rfl ?_
  refine Go.iconst X21 50 (4 : Int32) at_49 ?_
  refine Go.iand X21 51 at_50 ?_
  by_cases c22 : (q0 &&& (4 : Int32)) = 0
  · skip
    refine Go.if0Y X21 64 at_51 (XT.i0_eq_t c22) ?_
    refine Go.lloadN X21 65 at_64 rfl ?_
    refine Go.callS X21 68 [(.long q2)] [] 0 (hw _ (List.mem_of_getElem? (i := 26) rfl)) (hw _ (List.mem_of_getElem? (i := 27) rfl)) (hw _ (List.mem_of_getElem? (i := 28) rfl)) (by decide) (hw _ (List.mem_of_getElem? (i := 29) rfl)) pd_13 at_65 (rm_vJ l Z a0 hw T21.heap bj BJ cJ vJ CJ q2) rfl rfl rfl (Nat.le_of_eq rfl) (by decide) (by decide) (by decide) (by decide) ?_
    rintro T23 v23 L23 X23 ⟨vl, rfl, Kv⟩
    show Go p e below _ T23 m 68 #[.val (.int q0), .val (.int q1), .val (.long q2), .second, .val (.int z0), .val (.int x0), .val (.int x1), .val (.int x2), .val (.ref tx), .unset, .unset] [(.ref vl)]
    have H2 := H1.keep Kv sf0
    have ws24 : WS s vm21 T23.heap := ws21.le Kv.1
    have F25 : Exa Z T23.heap tx "java/lang/String" := ET.keep Kv
    refine Go.astore X23 70 #[.val (.int q0), .val (.int q1), .val (.long q2), .second, .val (.int z0), .val (.int x0), .val (.int x1), .val (.int x2), .val (.ref tx), .val (.ref vl), .unset] at_68 rfl rfl ?_
    refine Go.aload X23 72 at_70 rfl rfl ?_
    refine Go.aload X23 74 at_72 rfl rfl ?_
    refine Go.callSW X23 77 hEL ws24 H2 [(.ref tx), (.ref vl)] [] 0 (hw _ (List.mem_of_getElem? (i := 34) rfl)) (hw _ (List.mem_of_getElem? (i := 35) rfl)) (hw _ (List.mem_of_getElem? (i := 36) rfl)) (by decide) (hw _ (List.mem_of_getElem? (i := 37) rfl)) pd_14 at_74 (rm_su l Z a0 hw T23.heap tx vl F25) rfl rfl rfl (Nat.le_of_eq rfl) (by decide) (by decide) (by decide) (by decide) ?_
    rintro T26 v26 L26 vm26 X26 ws26 R26 ⟨hr, rfl, Ks, gs, EH, G0, G1, G2, G3⟩
    show Go p e below _ T26 m 77 #[.val (.int q0), .val (.int q1), .val (.long q2), .second, .val (.int z0), .val (.int x0), .val (.int x1), .val (.int x2), .val (.ref tx), .val (.ref vl), .unset] [(.ref hr)]
    refine Go.astore X26 79 #[.val (.int q0), .val (.int q1), .val (.long q2), .second, .val (.int z0), .val (.int x0), .val (.int x1), .val (.int x2), .val (.ref tx), .val (.ref vl), .val (.ref hr)] at_77 rfl rfl ?_
    refine Go.aload X26 81 at_79 rfl rfl ?_
    refine Go.callVP X26 84 [] [] 0 (hw _ (List.mem_of_getElem? (i := 59) rfl)) (hw _ (List.mem_of_getElem? (i := 60) rfl)) (hw _ (List.mem_of_getElem? (i := 62) rfl)) (notFace_of_selects (args := #[]) (mvT X26.hZ (hw _ (List.mem_of_getElem? (i := 62) rfl)))) (hw _ (List.mem_of_getElem? (i := 61) rfl)) (hw _ (List.mem_of_getElem? (i := 36) rfl)) (by decide) EH (hw _ (List.mem_of_getElem? (i := 63) rfl)) pd_15 at_81 (rm_is l Z a0 hw T26.heap hr G0) rfl rfl rfl (Nat.le_of_eq rfl) (by decide) (by decide) (by decide) (by decide) ?_
    intro T27 L27 X27
    refine Go.if0Y X27 89 at_84 (XT.i0_ne_t (by decide)) ?_
    refine Go.aload X27 91 at_89 rfl rfl ?_
    refine Go.callVP X27 94 [] [] 0 (hw _ (List.mem_of_getElem? (i := 64) rfl)) (hw _ (List.mem_of_getElem? (i := 65) rfl)) (hw _ (List.mem_of_getElem? (i := 67) rfl)) (notFace_of_selects (args := #[]) (mvT X27.hZ (hw _ (List.mem_of_getElem? (i := 67) rfl)))) (hw _ (List.mem_of_getElem? (i := 66) rfl)) (hw _ (List.mem_of_getElem? (i := 36) rfl)) (by decide) EH (hw _ (List.mem_of_getElem? (i := 68) rfl)) pd_16 at_91 (rm_tx l Z a0 hw T26.heap hr tx G1) rfl rfl rfl (Nat.le_of_eq rfl) (by decide) (by decide) (by decide) (by decide) ?_
    intro T28 L28 X28
    refine Go.aload X28 96 at_94 rfl rfl ?_
    refine Go.acmpY X28 101 at_96 rfl rfl (XT.aa_eq_t rfl) ?_
    refine Go.aload X28 103 at_101 rfl rfl ?_
    refine Go.callV X28 106 [] [] 0 (hw _ (List.mem_of_getElem? (i := 69) rfl)) (hw _ (List.mem_of_getElem? (i := 70) rfl)) (hw _ (List.mem_of_getElem? (i := 72) rfl)) (notFace_of_selects (args := #[]) (mvT X28.hZ (hw _ (List.mem_of_getElem? (i := 72) rfl)))) (hw _ (List.mem_of_getElem? (i := 71) rfl)) (hw _ (List.mem_of_getElem? (i := 36) rfl)) (by decide) EH (hw _ (List.mem_of_getElem? (i := 73) rfl)) pd_17 at_103 (rm_va l Z a0 hw T26.heap hr vl G2) rfl rfl rfl (Nat.le_of_eq rfl) (by decide) (by decide) (by decide) (by decide) ?_
    rintro T29 v29 L29 X29 ⟨o1, rfl, Ko1, Eo1, Fo1⟩
    show Go p e below _ T29 m 106 #[.val (.int q0), .val (.int q1), .val (.long q2), .second, .val (.int z0), .val (.int x0), .val (.int x1), .val (.int x2), .val (.ref tx), .val (.ref vl), .val (.ref hr)] [(.ref o1)]
    have ws30 : WS s vm26 T29.heap := ws26.le Ko1.1
    have F31 : Exa Z T29.heap hr "com/example/ripieno/ripieno/engine/HandlerResult" := EH.keep Ko1
    have F32 : Fld Z T29.heap hr "com/example/ripieno/ripieno/engine/HandlerResult" "success" "Z" (.int (1 : Int32)) := G0.keep Ko1 nin0
    have F33 : Fld Z T29.heap hr "com/example/ripieno/ripieno/engine/HandlerResult" "text" "Ljava/lang/String;" (.ref tx) := G1.keep Ko1 nin0
    have F34 : Fld Z T29.heap hr "com/example/ripieno/ripieno/engine/HandlerResult" "value" "Ljava/lang/Object;" (.ref vl) := G2.keep Ko1 nin0
    have F35 : Fld Z T29.heap hr "com/example/ripieno/ripieno/engine/HandlerResult" "cause" "Ljava/lang/Exception;" .null := G3.keep Ko1 nin0
    refine Go.callVP X29 109 [] [] 0 (hw _ (List.mem_of_getElem? (i := 87) rfl)) (hw _ (List.mem_of_getElem? (i := 88) rfl)) (hw _ (List.mem_of_getElem? (i := 90) rfl)) (notFace_of_selects (args := #[]) (mvT X29.hZ (hw _ (List.mem_of_getElem? (i := 90) rfl)))) (hw _ (List.mem_of_getElem? (i := 89) rfl)) (hw _ (List.mem_of_getElem? (i := 76) rfl)) (by decide) Eo1 (hw _ (List.mem_of_getElem? (i := 91) rfl)) pd_15 at_106 (rm_prR l Z a0 hw T29.heap o1 vl Fo1) rfl rfl rfl (Nat.le_of_eq rfl) (by decide) (by decide) (by decide) (by decide) ?_
    intro T36 L36 X36
    refine Go.if0Y X36 114 at_109 (XT.i0_ne_t (by decide)) ?_
    refine Go.aload X36 116 at_114 rfl rfl ?_
    refine Go.callV X36 119 [] [] 0 (hw _ (List.mem_of_getElem? (i := 69) rfl)) (hw _ (List.mem_of_getElem? (i := 70) rfl)) (hw _ (List.mem_of_getElem? (i := 72) rfl)) (notFace_of_selects (args := #[]) (mvT X36.hZ (hw _ (List.mem_of_getElem? (i := 72) rfl)))) (hw _ (List.mem_of_getElem? (i := 71) rfl)) (hw _ (List.mem_of_getElem? (i := 36) rfl)) (by decide) F31 (hw _ (List.mem_of_getElem? (i := 73) rfl)) pd_17 at_116 (rm_va l Z a0 hw T29.heap hr vl F34) rfl rfl rfl (Nat.le_of_eq rfl) (by decide) (by decide) (by decide) (by decide) ?_
    rintro T37 v37 L37 X37 ⟨o2, rfl, Ko2, Eo2, Fo2⟩
    show Go p e below _ T37 m 119 #[.val (.int q0), .val (.int q1), .val (.long q2), .second, .val (.int z0), .val (.int x0), .val (.int x1), .val (.int x2), .val (.ref tx), .val (.ref vl), .val (.ref hr)] [(.ref o2)]
    have ws38 : WS s vm26 T37.heap := ws30.le Ko2.1
    have F39 : Exa Z T37.heap hr "com/example/ripieno/ripieno/engine/HandlerResult" := F31.keep Ko2
    have F40 : Fld Z T37.heap hr "com/example/ripieno/ripieno/engine/HandlerResult" "success" "Z" (.int (1 : Int32)) := F32.keep Ko2 nin0
    have F41 : Fld Z T37.heap hr "com/example/ripieno/ripieno/engine/HandlerResult" "text" "Ljava/lang/String;" (.ref tx) := F33.keep Ko2 nin0
    have F42 : Fld Z T37.heap hr "com/example/ripieno/ripieno/engine/HandlerResult" "value" "Ljava/lang/Object;" (.ref vl) := F34.keep Ko2 nin0
    have F43 : Fld Z T37.heap hr "com/example/ripieno/ripieno/engine/HandlerResult" "cause" "Ljava/lang/Exception;" .null := F35.keep Ko2 nin0
    have F44 : Exa Z T37.heap o1 "java/util/Optional" := Eo1.keep Ko2
    have F45 : Fld Z T37.heap o1 "java/util/Optional" "value" "Ljava/lang/Object;" (.ref vl) := Fo1.keep Ko2 nin0
    refine Go.callVP X37 122 [] [] 0 (hw _ (List.mem_of_getElem? (i := 92) rfl)) (hw _ (List.mem_of_getElem? (i := 93) rfl)) (hw _ (List.mem_of_getElem? (i := 95) rfl)) (notFace_of_selects (args := #[]) (mvT X37.hZ (hw _ (List.mem_of_getElem? (i := 95) rfl)))) (hw _ (List.mem_of_getElem? (i := 94) rfl)) (hw _ (List.mem_of_getElem? (i := 76) rfl)) (by decide) Eo2 (hw _ (List.mem_of_getElem? (i := 96) rfl)) pd_18 at_119 (rm_ge l Z a0 hw T37.heap o2 vl Fo2) rfl rfl rfl (Nat.le_of_eq rfl) (by decide) (by decide) (by decide) (by decide) ?_
    intro T46 L46 X46
    refine Go.aload X46 124 at_122 rfl rfl ?_
    refine Go.acmpY X46 129 at_124 rfl rfl (XT.aa_eq_t rfl) ?_
    refine Go.aload X46 131 at_129 rfl rfl ?_
    refine Go.callVP X46 134 [] [] 0 (hw _ (List.mem_of_getElem? (i := 97) rfl)) (hw _ (List.mem_of_getElem? (i := 98) rfl)) (hw _ (List.mem_of_getElem? (i := 100) rfl)) (notFace_of_selects (args := #[]) (mvT X46.hZ (hw _ (List.mem_of_getElem? (i := 100) rfl)))) (hw _ (List.mem_of_getElem? (i := 99) rfl)) (hw _ (List.mem_of_getElem? (i := 36) rfl)) (by decide) F39 (hw _ (List.mem_of_getElem? (i := 101) rfl)) pd_17 at_131 (rm_ca l Z a0 hw T37.heap em SE hr F43) rfl rfl rfl (Nat.le_of_eq rfl) (by decide) (by decide) (by decide) (by decide) ?_
    intro T47 L47 X47
    refine Go.callVP X47 137 [] [] 0 (hw _ (List.mem_of_getElem? (i := 87) rfl)) (hw _ (List.mem_of_getElem? (i := 88) rfl)) (hw _ (List.mem_of_getElem? (i := 90) rfl)) (notFace_of_selects (args := #[]) (mvT X47.hZ (hw _ (List.mem_of_getElem? (i := 90) rfl)))) (hw _ (List.mem_of_getElem? (i := 89) rfl)) (hw _ (List.mem_of_getElem? (i := 76) rfl)) (by decide) (EE.ext X47.old) (hw _ (List.mem_of_getElem? (i := 91) rfl)) pd_15 at_134 (rm_prN l Z a0 hw T37.heap em em (FE.ext X47.old)) rfl rfl rfl (Nat.le_of_eq rfl) (by decide) (by decide) (by decide) (by decide) ?_
    intro T48 L48 X48
    refine Go.if0Y X48 142 at_137 (XT.i0_eq_t (by decide)) ?_
    refine Go.iconst X48 143 (1 : Int32) at_142 ?_
    exact Go.retI X48 rfl (by simp) rfl at_143 (X48.finL ws38 rfl (by decide) (by decide))
  · skip
    refine Go.if0N X21 54 at_51 (XT.i0_eq_f c22) ?_
    refine Go.lloadN X21 55 at_54 rfl ?_
    refine Go.l2i X21 56 at_55 ?_
    refine Go.callS X21 59 [(.int q2.toInt32)] [] 0 (hw _ (List.mem_of_getElem? (i := 103) rfl)) (hw _ (List.mem_of_getElem? (i := 104) rfl)) (hw _ (List.mem_of_getElem? (i := 105) rfl)) (by decide) (hw _ (List.mem_of_getElem? (i := 106) rfl)) pd_19 at_56 (rm_vI l Z a0 hw T21.heap bi BI cI vI CI HI q2.toInt32) rfl rfl rfl (Nat.le_of_eq rfl) (by decide) (by decide) (by decide) (by decide) ?_
    rintro T49 v49 L49 X49 ⟨vl, rfl, Kv⟩
    show Go p e below _ T49 m 59 #[.val (.int q0), .val (.int q1), .val (.long q2), .second, .val (.int z0), .val (.int x0), .val (.int x1), .val (.int x2), .val (.ref tx), .unset, .unset] [(.ref vl)]
    have H2 := H1.keep Kv sf0
    have ws50 : WS s vm21 T49.heap := ws21.le Kv.1
    have F51 : Exa Z T49.heap tx "java/lang/String" := ET.keep Kv
    refine Go.astore X49 61 #[.val (.int q0), .val (.int q1), .val (.long q2), .second, .val (.int z0), .val (.int x0), .val (.int x1), .val (.int x2), .val (.ref tx), .val (.ref vl), .unset] at_59 rfl rfl ?_
    refine Go.goto X49 70 at_61 ?_
    refine Go.aload X49 72 at_70 rfl rfl ?_
    refine Go.aload X49 74 at_72 rfl rfl ?_
    refine Go.callSW X49 77 hEL ws50 H2 [(.ref tx), (.ref vl)] [] 0 (hw _ (List.mem_of_getElem? (i := 34) rfl)) (hw _ (List.mem_of_getElem? (i := 35) rfl)) (hw _ (List.mem_of_getElem? (i := 36) rfl)) (by decide) (hw _ (List.mem_of_getElem? (i := 37) rfl)) pd_14 at_74 (rm_su l Z a0 hw T49.heap tx vl F51) rfl rfl rfl (Nat.le_of_eq rfl) (by decide) (by decide) (by decide) (by decide) ?_
    rintro T52 v52 L52 vm52 X52 ws52 R52 ⟨hr, rfl, Ks, gs, EH, G0, G1, G2, G3⟩
    show Go p e below _ T52 m 77 #[.val (.int q0), .val (.int q1), .val (.long q2), .second, .val (.int z0), .val (.int x0), .val (.int x1), .val (.int x2), .val (.ref tx), .val (.ref vl), .unset] [(.ref hr)]
    refine Go.astore X52 79 #[.val (.int q0), .val (.int q1), .val (.long q2), .second, .val (.int z0), .val (.int x0), .val (.int x1), .val (.int x2), .val (.ref tx), .val (.ref vl), .val (.ref hr)] at_77 rfl rfl ?_
    refine Go.aload X52 81 at_79 rfl rfl ?_
    refine Go.callVP X52 84 [] [] 0 (hw _ (List.mem_of_getElem? (i := 59) rfl)) (hw _ (List.mem_of_getElem? (i := 60) rfl)) (hw _ (List.mem_of_getElem? (i := 62) rfl)) (notFace_of_selects (args := #[]) (mvT X52.hZ (hw _ (List.mem_of_getElem? (i := 62) rfl)))) (hw _ (List.mem_of_getElem? (i := 61) rfl)) (hw _ (List.mem_of_getElem? (i := 36) rfl)) (by decide) EH (hw _ (List.mem_of_getElem? (i := 63) rfl)) pd_15 at_81 (rm_is l Z a0 hw T52.heap hr G0) rfl rfl rfl (Nat.le_of_eq rfl) (by decide) (by decide) (by decide) (by decide) ?_
    intro T53 L53 X53
    refine Go.if0Y X53 89 at_84 (XT.i0_ne_t (by decide)) ?_
    refine Go.aload X53 91 at_89 rfl rfl ?_
    refine Go.callVP X53 94 [] [] 0 (hw _ (List.mem_of_getElem? (i := 64) rfl)) (hw _ (List.mem_of_getElem? (i := 65) rfl)) (hw _ (List.mem_of_getElem? (i := 67) rfl)) (notFace_of_selects (args := #[]) (mvT X53.hZ (hw _ (List.mem_of_getElem? (i := 67) rfl)))) (hw _ (List.mem_of_getElem? (i := 66) rfl)) (hw _ (List.mem_of_getElem? (i := 36) rfl)) (by decide) EH (hw _ (List.mem_of_getElem? (i := 68) rfl)) pd_16 at_91 (rm_tx l Z a0 hw T52.heap hr tx G1) rfl rfl rfl (Nat.le_of_eq rfl) (by decide) (by decide) (by decide) (by decide) ?_
    intro T54 L54 X54
    refine Go.aload X54 96 at_94 rfl rfl ?_
    refine Go.acmpY X54 101 at_96 rfl rfl (XT.aa_eq_t rfl) ?_
    refine Go.aload X54 103 at_101 rfl rfl ?_
    refine Go.callV X54 106 [] [] 0 (hw _ (List.mem_of_getElem? (i := 69) rfl)) (hw _ (List.mem_of_getElem? (i := 70) rfl)) (hw _ (List.mem_of_getElem? (i := 72) rfl)) (notFace_of_selects (args := #[]) (mvT X54.hZ (hw _ (List.mem_of_getElem? (i := 72) rfl)))) (hw _ (List.mem_of_getElem? (i := 71) rfl)) (hw _ (List.mem_of_getElem? (i := 36) rfl)) (by decide) EH (hw _ (List.mem_of_getElem? (i := 73) rfl)) pd_17 at_103 (rm_va l Z a0 hw T52.heap hr vl G2) rfl rfl rfl (Nat.le_of_eq rfl) (by decide) (by decide) (by decide) (by decide) ?_
    rintro T55 v55 L55 X55 ⟨o1, rfl, Ko1, Eo1, Fo1⟩
    show Go p e below _ T55 m 106 #[.val (.int q0), .val (.int q1), .val (.long q2), .second, .val (.int z0), .val (.int x0), .val (.int x1), .val (.int x2), .val (.ref tx), .val (.ref vl), .val (.ref hr)] [(.ref o1)]
    have ws56 : WS s vm52 T55.heap := ws52.le Ko1.1
    have F57 : Exa Z T55.heap hr "com/example/ripieno/ripieno/engine/HandlerResult" := EH.keep Ko1
    have F58 : Fld Z T55.heap hr "com/example/ripieno/ripieno/engine/HandlerResult" "success" "Z" (.int (1 : Int32)) := G0.keep Ko1 nin0
    have F59 : Fld Z T55.heap hr "com/example/ripieno/ripieno/engine/HandlerResult" "text" "Ljava/lang/String;" (.ref tx) := G1.keep Ko1 nin0
    have F60 : Fld Z T55.heap hr "com/example/ripieno/ripieno/engine/HandlerResult" "value" "Ljava/lang/Object;" (.ref vl) := G2.keep Ko1 nin0
    have F61 : Fld Z T55.heap hr "com/example/ripieno/ripieno/engine/HandlerResult" "cause" "Ljava/lang/Exception;" .null := G3.keep Ko1 nin0
    refine Go.callVP X55 109 [] [] 0 (hw _ (List.mem_of_getElem? (i := 87) rfl)) (hw _ (List.mem_of_getElem? (i := 88) rfl)) (hw _ (List.mem_of_getElem? (i := 90) rfl)) (notFace_of_selects (args := #[]) (mvT X55.hZ (hw _ (List.mem_of_getElem? (i := 90) rfl)))) (hw _ (List.mem_of_getElem? (i := 89) rfl)) (hw _ (List.mem_of_getElem? (i := 76) rfl)) (by decide) Eo1 (hw _ (List.mem_of_getElem? (i := 91) rfl)) pd_15 at_106 (rm_prR l Z a0 hw T55.heap o1 vl Fo1) rfl rfl rfl (Nat.le_of_eq rfl) (by decide) (by decide) (by decide) (by decide) ?_
    intro T62 L62 X62
    refine Go.if0Y X62 114 at_109 (XT.i0_ne_t (by decide)) ?_
    refine Go.aload X62 116 at_114 rfl rfl ?_
    refine Go.callV X62 119 [] [] 0 (hw _ (List.mem_of_getElem? (i := 69) rfl)) (hw _ (List.mem_of_getElem? (i := 70) rfl)) (hw _ (List.mem_of_getElem? (i := 72) rfl)) (notFace_of_selects (args := #[]) (mvT X62.hZ (hw _ (List.mem_of_getElem? (i := 72) rfl)))) (hw _ (List.mem_of_getElem? (i := 71) rfl)) (hw _ (List.mem_of_getElem? (i := 36) rfl)) (by decide) F57 (hw _ (List.mem_of_getElem? (i := 73) rfl)) pd_17 at_116 (rm_va l Z a0 hw T55.heap hr vl F60) rfl rfl rfl (Nat.le_of_eq rfl) (by decide) (by decide) (by decide) (by decide) ?_
    rintro T63 v63 L63 X63 ⟨o2, rfl, Ko2, Eo2, Fo2⟩
    show Go p e below _ T63 m 119 #[.val (.int q0), .val (.int q1), .val (.long q2), .second, .val (.int z0), .val (.int x0), .val (.int x1), .val (.int x2), .val (.ref tx), .val (.ref vl), .val (.ref hr)] [(.ref o2)]
    have ws64 : WS s vm52 T63.heap := ws56.le Ko2.1
    have F65 : Exa Z T63.heap hr "com/example/ripieno/ripieno/engine/HandlerResult" := F57.keep Ko2
    have F66 : Fld Z T63.heap hr "com/example/ripieno/ripieno/engine/HandlerResult" "success" "Z" (.int (1 : Int32)) := F58.keep Ko2 nin0
    have F67 : Fld Z T63.heap hr "com/example/ripieno/ripieno/engine/HandlerResult" "text" "Ljava/lang/String;" (.ref tx) := F59.keep Ko2 nin0
    have F68 : Fld Z T63.heap hr "com/example/ripieno/ripieno/engine/HandlerResult" "value" "Ljava/lang/Object;" (.ref vl) := F60.keep Ko2 nin0
    have F69 : Fld Z T63.heap hr "com/example/ripieno/ripieno/engine/HandlerResult" "cause" "Ljava/lang/Exception;" .null := F61.keep Ko2 nin0
    have F70 : Exa Z T63.heap o1 "java/util/Optional" := Eo1.keep Ko2
    have F71 : Fld Z T63.heap o1 "java/util/Optional" "value" "Ljava/lang/Object;" (.ref vl) := Fo1.keep Ko2 nin0
    refine Go.callVP X63 122 [] [] 0 (hw _ (List.mem_of_getElem? (i := 92) rfl)) (hw _ (List.mem_of_getElem? (i := 93) rfl)) (hw _ (List.mem_of_getElem? (i := 95) rfl)) (notFace_of_selects (args := #[]) (mvT X63.hZ (hw _ (List.mem_of_getElem? (i := 95) rfl)))) (hw _ (List.mem_of_getElem? (i := 94) rfl)) (hw _ (List.mem_of_getElem? (i := 76) rfl)) (by decide) Eo2 (hw _ (List.mem_of_getElem? (i := 96) rfl)) pd_18 at_119 (rm_ge l Z a0 hw T63.heap o2 vl Fo2) rfl rfl rfl (Nat.le_of_eq rfl) (by decide) (by decide) (by decide) (by decide) ?_
    intro T72 L72 X72
    refine Go.aload X72 124 at_122 rfl rfl ?_
    refine Go.acmpY X72 129 at_124 rfl rfl (XT.aa_eq_t rfl) ?_
    refine Go.aload X72 131 at_129 rfl rfl ?_
    refine Go.callVP X72 134 [] [] 0 (hw _ (List.mem_of_getElem? (i := 97) rfl)) (hw _ (List.mem_of_getElem? (i := 98) rfl)) (hw _ (List.mem_of_getElem? (i := 100) rfl)) (notFace_of_selects (args := #[]) (mvT X72.hZ (hw _ (List.mem_of_getElem? (i := 100) rfl)))) (hw _ (List.mem_of_getElem? (i := 99) rfl)) (hw _ (List.mem_of_getElem? (i := 36) rfl)) (by decide) F65 (hw _ (List.mem_of_getElem? (i := 101) rfl)) pd_17 at_131 (rm_ca l Z a0 hw T63.heap em SE hr F69) rfl rfl rfl (Nat.le_of_eq rfl) (by decide) (by decide) (by decide) (by decide) ?_
    intro T73 L73 X73
    refine Go.callVP X73 137 [] [] 0 (hw _ (List.mem_of_getElem? (i := 87) rfl)) (hw _ (List.mem_of_getElem? (i := 88) rfl)) (hw _ (List.mem_of_getElem? (i := 90) rfl)) (notFace_of_selects (args := #[]) (mvT X73.hZ (hw _ (List.mem_of_getElem? (i := 90) rfl)))) (hw _ (List.mem_of_getElem? (i := 89) rfl)) (hw _ (List.mem_of_getElem? (i := 76) rfl)) (by decide) (EE.ext X73.old) (hw _ (List.mem_of_getElem? (i := 91) rfl)) pd_15 at_134 (rm_prN l Z a0 hw T63.heap em em (FE.ext X73.old)) rfl rfl rfl (Nat.le_of_eq rfl) (by decide) (by decide) (by decide) (by decide) ?_
    intro T74 L74 X74
    refine Go.if0Y X74 142 at_137 (XT.i0_eq_t (by decide)) ?_
    refine Go.iconst X74 143 (1 : Int32) at_142 ?_
    exact Go.retI X74 rfl (by simp) rfl at_143 (X74.finL ws64 rfl (by decide) (by decide))
theorem eq_I {a b : Term} {args : Array Value} {s : State} {x y : Int32} (ha : a.eval args s none [] s = some (.int x)) (hb : b.eval args s none [] s = some (.int y)) : (Jvm.Cond.eq a b).value args s none s [] = some (decide (x = y)) := by simp [Cond.value, ha, hb]
theorem own_eqI {t : Term} {args : Array Value} {s : State} {z : Int32} (h : (Jvm.Cond.eq t (.int z)).value args s none s [] = some true) : t.eval args s none [] s = some (.int z) := by
  obtain ⟨x, y, e1, e2, -, k⟩ := cmp_v (Or.inl h)
  have e3 : y = .int z := Option.some.inj (e2.symm.trans (Term.int_eval z))
  subst e3
  obtain ⟨w, rfl⟩ := k
  have := gotT (eq_I e1 e2) h
  rw [this] at e1
  exact e1
theorem own_sta {C n d : String} {args : Array Value} {s : State} (hx : (Jvm.Cond.exactly (.static C n d) C).value args s none s [] = some true) (wi : (Jvm.Cond.initialized C).before args s = true) (wl : (Jvm.Cond.laysStatic C n d).before args s = true) : ∃ a, Sta s s.heap C n d (.ref a) ∧ Exa s s.heap a C ∧ (Term.static C n d).eval args s none [] s = some (.ref a) := by
  obtain ⟨a, ev⟩ := exa_v hx
  exact ⟨a, Sta.start ev (Or.inr ⟨wi, wl⟩), Exa.start ev hx, ev⟩
theorem own_fldI {t : Term} {C n d : String} {args : Array Value} {s : State} {a : Addr} {z : Int32} (ev : t.eval args s none [] s = some (.ref a)) (hz : (Jvm.Cond.eq (.field t C n d) (.int z)).value args s none s [] = some true) : Fld s s.heap a C n d (.int z) := by
  have := own_eqI hz
  rw [fld_at ev] at this
  exact Fld.start this
theorem own_nz {t : Term} {args : Array Value} {s : State} {z : Int32} (ev : t.eval args s none [] s = some (.int z)) (h : (Jvm.Cond.not (.eq t (.int 0))).value args s none s [] = some true) : ¬ z = 0 := by
  have h1 := not_v h
  exact gotF (eq_I ev (Term.int_eval 0)) h1
theorem own_held {tb : Tables} {e : Env} {args : Array Value} {s : State} (h : call_1_1 tb e args s) : ∀ p ∈ consts_1, Jvm.Lit.constHeld s p.1 p.2 := h
set_option maxRecDepth 65536 in
set_option maxHeartbeats 40000000 in
theorem comes_1 {Post : Tables → Env → Array Value → State → Outcome → State → Prop} (hpost : ∀ tb e args s v u, (limb_1_1.after args s (.returned v) u = true ∧ limb_1_2.after args s (.returned v) u = true ∧ True) → ReturnedEndW s (.returned v) u (Jvm.fieldLocs frame_1_writes args s ++ Jvm.arrayLocs frame_1_arrays args s ++ Jvm.staticLocs frame_1_statics s) 32 3200 → Post tb e args s (.returned v) u) :
    ArmFor flags0 classFile x code maxLocals ret World_1 tables_1 room_1 Calls_1 rest_1 Pre_1 Post := by
  intro l hfl _ _ p e ha hc hk s m args below hf hA hF happ hP
  obtain ⟨hcalls, hrest, hpre⟩ := hP
  obtain ⟨-, -, -, hnamed, -, -, -, hat⟩ := (Spec.applies_iff hf).mp happ
  obtain ⟨hg, hn⟩ := and_e (Cond.before_iff.mp (show (Jvm.Cond.and given_1 narrow_1).before args s = true from hpre))
  obtain ⟨hcount, hr_hcount⟩ := and_e hg
  obtain ⟨hk0, hr_hk0⟩ := and_e hr_hcount
  obtain ⟨hk1, hr_hk1⟩ := and_e hr_hk0
  have hk2 := hr_hk1
  obtain ⟨w0, w1, w2, rfl⟩ : ∃ w0 w1 w2 : Value, args = #[w0, w1, w2] := by
    have hs : args.size = 3 := by simpa [Cond.value, given_1] using hcount
    obtain ⟨L⟩ := args
    match L, hs with
    | [w0, w1, w2], _ => exact ⟨w0, w1, w2, rfl⟩
  have hw := fun d (hd : d ∈ tables_1) => atoms_spec (ws := Jvm.Cond.code x code maxLocals ret :: tables_1) hat d (List.mem_cons_of_mem _ hd)
  obtain ⟨i0, e0⟩ := is_v hk0
  obtain rfl : w0 = (.int i0) := Option.some.inj e0
  obtain ⟨i1, e1⟩ := is_v hk1
  obtain rfl : w1 = (.int i1) := Option.some.inj e1
  obtain ⟨i2, e2⟩ := isL_v hk2
  obtain rfl : w2 = (.long i2) := Option.some.inj e2
  have hsets := (atoms_of jdkStatics_1 (rest_1_c_eq ▸ (show rest_1_c.before _ s = true from hrest))).1
  obtain ⟨cz, evc⟩ := is_v (Cond.before_iff.mp (hsets _ (List.mem_of_getElem? (i := 19) rfl)))
  have SC := Sta.start evc (Or.inl (hsets _ (List.mem_of_getElem? (i := 18) rfl)))
  have hcz := own_nz evc (Cond.before_iff.mp (hsets _ (List.mem_of_getElem? (i := 20) rfl)))
  obtain ⟨bi, evbi⟩ := arr_v (Cond.before_iff.mp (hsets _ (List.mem_of_getElem? (i := 14) rfl)))
  have BI := Sta.start evbi (Or.inr ⟨(hw _ (List.mem_of_getElem? (i := 108) rfl)), (hsets _ (List.mem_of_getElem? (i := 12) rfl))⟩)
  obtain ⟨cI, AcI⟩ := Arr.start evbi (Cond.before_iff.mp (hsets _ (List.mem_of_getElem? (i := 14) rfl)))
  have qcI := own_len evbi AcI (own_eqI (Cond.before_iff.mp (hsets _ (List.mem_of_getElem? (i := 16) rfl))))
  have CI : Bxs s bi cI "java/lang/Integer" "I" 256 (fun j => .int (j - 128)) := Bxs.start (fun _ => evbi) AcI qcI.1 qcI.2 (by decide) (Cond.before_iff.mp (hsets _ (List.mem_of_getElem? (i := 17) rfl))) (fun X j hj h => eqv_i (own_sub hj) h)
  obtain ⟨bj, evbj⟩ := arr_v (Cond.before_iff.mp (hsets _ (List.mem_of_getElem? (i := 2) rfl)))
  have BJ := Sta.start evbj (Or.inr ⟨(hw _ (List.mem_of_getElem? (i := 33) rfl)), (hsets _ (List.mem_of_getElem? (i := 0) rfl))⟩)
  obtain ⟨cJ, AcJ⟩ := Arr.start evbj (Cond.before_iff.mp (hsets _ (List.mem_of_getElem? (i := 2) rfl)))
  have qcJ := own_len evbj AcJ (own_eqI (Cond.before_iff.mp (hsets _ (List.mem_of_getElem? (i := 4) rfl))))
  have CJ : Bxs s bj cJ "java/lang/Long" "J" 256 (fun j => .long (j - 128).toInt64) := Bxs.start (fun _ => evbj) AcJ qcJ.1 qcJ.2 (by decide) (Cond.before_iff.mp (hsets _ (List.mem_of_getElem? (i := 5) rfl))) (fun X j hj h => eqv_l (i2l_at (own_sub hj)) h)
  have HI := Sta.start (own_eqI (Cond.before_iff.mp (hsets _ (List.mem_of_getElem? (i := 13) rfl)))) (Or.inr ⟨(hw _ (List.mem_of_getElem? (i := 108) rfl)), (hsets _ (List.mem_of_getElem? (i := 10) rfl))⟩)
  obtain ⟨em, SE, EE, evE⟩ := own_sta (Cond.before_iff.mp (hsets _ (List.mem_of_getElem? (i := 8) rfl))) (hw _ (List.mem_of_getElem? (i := 76) rfl)) (hsets _ (List.mem_of_getElem? (i := 6) rfl))
  have FE : Fld s s.heap em "java/util/Optional" "value" "Ljava/lang/Object;" .null := Fld.start ((fld_at evE).symm.trans (null_v (Cond.before_iff.mp (hsets _ (List.mem_of_getElem? (i := 9) rfl)))))
  have hCH : CHv s consts_1 s.vm s.heap := CHv.start (own_EW hw) (own_held hcalls.1) (hsets _ (List.mem_of_getElem? (i := 20) rfl)) (hw _ (List.mem_of_getElem? (i := 19) rfl)) (hw _ (List.mem_of_getElem? (i := 5) rfl))
  obtain ⟨n, o, h1, h2, h3, _, L, rfl, ⟨N, -, rfl⟩, hq⟩ := rm_l l s _ hw s.heap cz SC hcz bi BI cI _ CI HI bj BJ cJ _ CJ em SE EE FE i0 i1 i2 (Ext.rf _) p e ha hc hk s m _ below hf ((Spec.applies_iff_loose hf).mp happ).1 ⟨rfl, State.Warmed39.refl s, rfl, hCH⟩ trivial
  refine ⟨n, _, h1, h2, h3, hpost _ _ _ _ _ _ ⟨Cond.after_iff.mpr rfl, Cond.after_iff.mpr (eq_i res_at (Term.int_eval (1)) rfl), trivial⟩ ⟨hq.1, hq.2.1, hq.2.2.1, (hq.2.2.2.sift fun y hy => Or.inr (N y hy)).mono (by decide) (by decide)⟩⟩
theorem main_1_1 : Claimed_1_1 := comes_1 fun _ _ _ _ _ _ h hF => ⟨h.1, hF⟩
theorem main_1_2 : Claimed_1_2 := comes_1 fun _ _ _ _ _ _ h hF => ⟨h.2.1, hF⟩
end Jvm.Pilot.@@N@@
namespace Jvm.Pilot.@@N@@
open Jvm Jvm.ClassFile Sem Op Lib Jvm.Free Jvm.Stand Jvm.Pilot.@@N@@.Jvm.D
/-! MADE BY PROGRAM (witnessworld.py) out of the Statement's table words and the real class files: 29 classes; the members and pool entries that the words name. The judged class is class 1, her method 2. -/
namespace start1
open Jvm.ClassFile
def u (s : String) : CpInfo := .utf8 (stringToUtf16 s)
/-- a pool by its gaps: so many unusable entries, then the entry; so many at the end -/
def gap : Nat → List CpInfo → List CpInfo
  | 0, r => r
  | n + 1, r => .unusable :: gap n r
def poolList (es : List (Nat × CpInfo)) (last : Nat) : List CpInfo := es.foldr (fun e r => gap e.1 (e.2 :: r)) (gap last [])
def pool (es : List (Nat × CpInfo)) (last : Nat) : Array CpInfo := ⟨poolList es last⟩
def fileOf (pool : Array CpInfo) (this : Nat) (attrs : Array Attribute := #[]) (ms : Array MethodInfo := #[]) (fl : Nat := 33) (sup : Nat := 0) (ifs : Array Nat := #[]) (fds : Array FieldInfo := #[]) : ClassFile where
  minorVersion := 0
  majorVersion := 65
  constantPool := pool
  accessFlags := fl
  thisClass := this
  superClass := sup
  interfaces := ifs
  fields := fds
  methods := ms
  attributes := attrs
def plain (name : String) (sup : Option ClassId) : Class where
  name := name
  kind := .ordinary
  loader := none
  accessFlags := 33
  super := sup
  interfaces := #[]
  cf := none
  fields := #[]
  methods := #[]
  instanceTypes := #[]
  staticTypes := #[]
  resolved := #[]
  callSites := []
  init := .initialized
  statics := none
  mirror := none

def pool0 : Array CpInfo := pool [(5, u "<init>"), (0, u "()V"), (1, .class_ 10), (1, u "java/lang/Object")] 113

def k0c0 : Code := { maxStack := 0, maxLocals := 1, code := object_method_1_code, exceptionTable := #[], attributes := #[] }
def k0m0 : Method := { name := "<init>", desc := "()V", sig := { parameters := [], returnType := none }, accessFlags := 1, code := some k0c0 }
/-- java/lang/Object -/
def k0 : Class := { plain "java/lang/Object" none with
  accessFlags := 33
  interfaces := #[]
  cf := some (fileOf pool0 8 #[] #[{ accessFlags := 1, nameIndex := 5, descriptorIndex := 6, attributes := #[] }] 33 0 #[] #[])
  fields := #[]
  methods := #[k0m0]
  instanceTypes := #[]
  staticTypes := #[]
  resolved := Array.replicate 124 none
  statics := none }

def pool1 : Array CpInfo := pool [(2, .class_ 4), (1, u "java/lang/Object"), (0, u "<init>"), (0, u "()V"), (0, .class_ 8), (0, u "java/lang/String"), (0, .methodref 7 10), (0, .nameAndType 5 11), (0, u "([C)V"), (0, .methodref 13 14), (0, .class_ 15), (0, .nameAndType 16 17), (0, u "com/example/ripieno/ripieno/engine/HandlerResultSuccessPinLaw"), (0, u "text"), (0, u "(ICCC)Ljava/lang/String;"), (0, .methodref 19 20), (0, .class_ 21), (0, .nameAndType 22 23), (0, u "java/lang/Integer"), (0, u "valueOf"), (0, u "(I)Ljava/lang/Integer;"), (0, .methodref 25 26), (0, .class_ 27), (0, .nameAndType 22 28), (0, u "java/lang/Long"), (0, u "(J)Ljava/lang/Long;"), (0, .methodref 30 31), (0, .class_ 32), (0, .nameAndType 33 34), (0, u "com/example/ripieno/ripieno/engine/HandlerResult"), (0, u "success"), (0, u "(Ljava/lang/String;Ljava/lang/Object;)Lcom/example/ripieno/ripieno/engine/HandlerResult;"), (0, .methodref 30 36), (0, .nameAndType 37 38), (0, u "isSuccess"), (0, u "()Z"), (0, .methodref 30 40), (0, .nameAndType 16 41), (0, u "()Ljava/lang/String;"), (0, .methodref 30 43), (0, .nameAndType 44 45), (0, u "value"), (0, u "()Ljava/util/Optional;"), (0, .methodref 47 48), (0, .class_ 49), (0, .nameAndType 50 38), (0, u "java/util/Optional"), (0, u "isPresent"), (0, .methodref 47 52), (0, .nameAndType 53 54), (0, u "get"), (0, u "()Ljava/lang/Object;"), (0, .methodref 30 56), (0, .nameAndType 57 45), (0, u "cause"), (3, u "law"), (0, u "(IIJ)Z")] 2

def k1m0 : Method := { name := "<init>", desc := "()V", sig := { parameters := [], returnType := none }, accessFlags := 1, code := none }
def k1c1 : Code := { maxStack := 6, maxLocals := 4, code := method_2_code, exceptionTable := #[], attributes := #[] }
def k1m1 : Method := { name := "text", desc := "(ICCC)Ljava/lang/String;", sig := { parameters := [.int, .char, .char, .char], returnType := some (.object "java/lang/String") }, accessFlags := 10, code := some k1c1 }
def k1c2 : Code := { maxStack := 4, maxLocals := 11, code := code, exceptionTable := #[], attributes := #[] }
def k1m2 : Method := { name := "law", desc := "(IIJ)Z", sig := { parameters := [.int, .int, .long], returnType := some .boolean }, accessFlags := 9, code := some k1c2 }
/-- com/example/ripieno/ripieno/engine/HandlerResultSuccessPinLaw -/
def k1 : Class := { plain "com/example/ripieno/ripieno/engine/HandlerResultSuccessPinLaw" (some 0) with
  accessFlags := 49
  interfaces := #[]
  cf := some (fileOf pool1 13 #[] #[{ accessFlags := 1, nameIndex := 5, descriptorIndex := 6, attributes := #[] }, { accessFlags := 10, nameIndex := 16, descriptorIndex := 17, attributes := #[] }, { accessFlags := 9, nameIndex := 61, descriptorIndex := 62, attributes := #[] }] 49 2 #[] #[])
  fields := #[]
  methods := #[k1m0, k1m1, k1m2]
  instanceTypes := #[]
  staticTypes := #[]
  resolved := Array.replicate 65 none
  statics := none }

def pool2 : Array CpInfo := pool [(1, .class_ 2), (0, u "java/io/Serializable"), (0, .class_ 4), (0, u "java/lang/Object")] 2

/-- java/io/Serializable -/
def k2 : Class := { plain "java/io/Serializable" (some 0) with
  accessFlags := 1537
  interfaces := #[]
  cf := some (fileOf pool2 1 #[] #[] 1537 3 #[] #[])
  fields := #[]
  methods := #[]
  instanceTypes := #[]
  staticTypes := #[]
  resolved := Array.replicate 7 none
  statics := none }

def pool3 : Array CpInfo := pool [(1, .class_ 2), (0, u "java/lang/Comparable"), (0, .class_ 4), (0, u "java/lang/Object")] 7

/-- java/lang/Comparable -/
def k3 : Class := { plain "java/lang/Comparable" (some 0) with
  accessFlags := 1537
  interfaces := #[]
  cf := some (fileOf pool3 1 #[] #[] 1537 3 #[] #[])
  fields := #[]
  methods := #[]
  instanceTypes := #[]
  staticTypes := #[]
  resolved := Array.replicate 12 none
  statics := none }

def pool4 : Array CpInfo := pool [(2, .class_ 4), (1, u "java/lang/CharSequence"), (42, .class_ 48), (0, u "java/lang/CharSequence$1CodePointIterator"), (10, .class_ 60), (0, u "java/lang/CharSequence$1CharIterator"), (5, .class_ 67), (0, u "java/lang/Object")] 63

/-- java/lang/CharSequence -/
def k4 : Class := { plain "java/lang/CharSequence" (some 0) with
  accessFlags := 1537
  interfaces := #[]
  cf := some (fileOf pool4 2 #[.nestMembers #[47, 59]] #[] 1537 66 #[] #[])
  fields := #[]
  methods := #[]
  instanceTypes := #[]
  staticTypes := #[]
  resolved := Array.replicate 131 none
  statics := none }

def pool5 : Array CpInfo := pool [(1, .class_ 2), (0, u "java/lang/constant/Constable"), (0, .class_ 4), (0, u "java/lang/Object")] 6

/-- java/lang/constant/Constable -/
def k5 : Class := { plain "java/lang/constant/Constable" (some 0) with
  accessFlags := 1537
  interfaces := #[]
  cf := some (fileOf pool5 1 #[] #[] 1537 3 #[] #[])
  fields := #[]
  methods := #[]
  instanceTypes := #[]
  staticTypes := #[]
  resolved := Array.replicate 11 none
  statics := none }

def pool6 : Array CpInfo := pool [(1, .class_ 2), (0, u "java/lang/constant/ConstantDesc"), (0, .class_ 4), (0, u "java/lang/Object")] 32

/-- java/lang/constant/ConstantDesc -/
def k6 : Class := { plain "java/lang/constant/ConstantDesc" (some 0) with
  accessFlags := 1537
  interfaces := #[]
  cf := some (fileOf pool6 1 #[] #[] 1537 3 #[] #[])
  fields := #[]
  methods := #[]
  instanceTypes := #[]
  staticTypes := #[]
  resolved := Array.replicate 37 none
  statics := none }

def pool7 : Array CpInfo := pool [(1, .methodref 2 3), (0, .class_ 4), (0, .nameAndType 5 6), (0, u "java/lang/Object"), (0, u "<init>"), (0, u "()V"), (0, .string 8), (0, u ""), (0, .fieldref 10 11), (0, .class_ 12), (0, .nameAndType 13 14), (0, u "java/lang/String"), (0, u "value"), (0, u "[B"), (0, .fieldref 10 16), (0, .nameAndType 17 18), (0, u "coder"), (0, u "B"), (2, u "hash"), (0, u "I"), (2, u "hashIsZero"), (0, u "Z"), (0, .methodref 10 28), (0, .nameAndType 5 29), (0, u "([CIILjava/lang/Void;)V"), (8, .fieldref 10 39), (0, .nameAndType 40 26), (0, u "COMPACT_STRINGS"), (1, .class_ 44), (1, u "java/lang/StringUTF16"), (0, u "compress"), (1, .methodref 42 48), (0, .nameAndType 49 50), (0, u "coderFromArrayLen"), (0, u "([BI)B"), (126, .methodref 42 178), (0, .nameAndType 45 179), (0, u "([CII)[B"), (395, .class_ 576), (0, u "java/lang/CharSequence"), (22, u "CASE_INSENSITIVE_ORDER"), (0, u "Ljava/util/Comparator;"), (409, u "([C)V"), (90, u "serialPersistentFields"), (0, u "[Ljava/io/ObjectStreamField;"), (0, .class_ 1104), (0, u "java/lang/String$CaseInsensitiveComparator"), (1, .class_ 1107), (0, u "java/io/Serializable"), (0, .class_ 1109), (0, u "java/lang/Comparable"), (0, .class_ 1111), (0, u "java/lang/constant/Constable"), (0, .class_ 1113), (0, u "java/lang/constant/ConstantDesc"), (2, u "serialVersionUID"), (0, u "J"), (3, u "REPL"), (0, u "C"), (2, u "LATIN1"), (1, u "UTF16")] 323

def k7m0 : Method := { name := "<init>", desc := "()V", sig := { parameters := [], returnType := none }, accessFlags := 1, code := none }
def k7c1 : Code := { maxStack := 5, maxLocals := 2, code := jdk_42_method_3_code, exceptionTable := #[], attributes := #[] }
def k7m1 : Method := { name := "<init>", desc := "([C)V", sig := { parameters := [(.array .char)], returnType := none }, accessFlags := 1, code := some k7c1 }
def k7c2 : Code := { maxStack := 4, maxLocals := 6, code := jdk_42_method_149_code, exceptionTable := #[], attributes := #[] }
def k7m2 : Method := { name := "<init>", desc := "([CIILjava/lang/Void;)V", sig := { parameters := [(.array .char), .int, .int, (.object "java/lang/Void")], returnType := none }, accessFlags := 2, code := some k7c2 }
/-- java/lang/String -/
def k7 : Class := { plain "java/lang/String" (some 0) with
  accessFlags := 49
  interfaces := #[2, 3, 4, 5, 6]
  cf := some (fileOf pool7 10 #[.nestMembers #[1103]] #[{ accessFlags := 1, nameIndex := 5, descriptorIndex := 6, attributes := #[] }, { accessFlags := 1, nameIndex := 5, descriptorIndex := 1010, attributes := #[] }, { accessFlags := 2, nameIndex := 5, descriptorIndex := 29, attributes := #[] }] 49 2 #[1106, 1108, 575, 1110, 1112] #[{ accessFlags := 18, nameIndex := 13, descriptorIndex := 14, attributes := #[] }, { accessFlags := 18, nameIndex := 17, descriptorIndex := 18, attributes := #[] }, { accessFlags := 2, nameIndex := 21, descriptorIndex := 22, attributes := #[] }, { accessFlags := 2, nameIndex := 25, descriptorIndex := 26, attributes := #[] }, { accessFlags := 26, nameIndex := 1116, descriptorIndex := 1117, attributes := #[] }, { accessFlags := 24, nameIndex := 40, descriptorIndex := 26, attributes := #[] }, { accessFlags := 26, nameIndex := 1101, descriptorIndex := 1102, attributes := #[] }, { accessFlags := 26, nameIndex := 1121, descriptorIndex := 1122, attributes := #[] }, { accessFlags := 25, nameIndex := 599, descriptorIndex := 600, attributes := #[] }, { accessFlags := 24, nameIndex := 1125, descriptorIndex := 18, attributes := #[] }, { accessFlags := 24, nameIndex := 1127, descriptorIndex := 18, attributes := #[] }])
  fields := #[{ name := "value", type := (.array .byte), accessFlags := 18, slot := 0, constantValue := 0 }, { name := "coder", type := .byte, accessFlags := 18, slot := 1, constantValue := 0 }, { name := "hash", type := .int, accessFlags := 2, slot := 2, constantValue := 0 }, { name := "hashIsZero", type := .boolean, accessFlags := 2, slot := 3, constantValue := 0 }, { name := "serialVersionUID", type := .long, accessFlags := 26, slot := 0, constantValue := 0 }, { name := "COMPACT_STRINGS", type := .boolean, accessFlags := 24, slot := 1, constantValue := 0 }, { name := "serialPersistentFields", type := (.array (.object "java/io/ObjectStreamField")), accessFlags := 26, slot := 2, constantValue := 0 }, { name := "REPL", type := .char, accessFlags := 26, slot := 3, constantValue := 0 }, { name := "CASE_INSENSITIVE_ORDER", type := (.object "java/util/Comparator"), accessFlags := 25, slot := 4, constantValue := 0 }, { name := "LATIN1", type := .byte, accessFlags := 24, slot := 5, constantValue := 0 }, { name := "UTF16", type := .byte, accessFlags := 24, slot := 6, constantValue := 0 }]
  methods := #[k7m0, k7m1, k7m2]
  instanceTypes := #[(.array .byte), .byte, .int, .boolean]
  staticTypes := #[.long, .boolean, (.array (.object "java/io/ObjectStreamField")), .char, (.object "java/util/Comparator"), .byte, .byte]
  resolved := Array.replicate 1451 none
  statics := some 0 }

def pool8 : Array CpInfo := pool [(1, .methodref 2 3), (0, .class_ 4), (0, .nameAndType 5 6), (0, u "java/lang/Object"), (0, u "<init>"), (0, u "()V"), (1, .class_ 10), (1, u "java/lang/Number"), (2, .class_ 14), (0, u "java/io/Serializable"), (0, u "serialVersionUID"), (0, u "J")] 20

def k8c0 : Code := { maxStack := 1, maxLocals := 1, code := jdk_18_method_1_code, exceptionTable := #[], attributes := #[] }
def k8m0 : Method := { name := "<init>", desc := "()V", sig := { parameters := [], returnType := none }, accessFlags := 1, code := some k8c0 }
/-- java/lang/Number -/
def k8 : Class := { plain "java/lang/Number" (some 0) with
  accessFlags := 1057
  interfaces := #[2]
  cf := some (fileOf pool8 8 #[] #[{ accessFlags := 1, nameIndex := 5, descriptorIndex := 6, attributes := #[] }] 1057 2 #[13] #[{ accessFlags := 26, nameIndex := 15, descriptorIndex := 16, attributes := #[] }])
  fields := #[{ name := "serialVersionUID", type := .long, accessFlags := 26, slot := 0, constantValue := 0 }]
  methods := #[k8m0]
  instanceTypes := #[]
  staticTypes := #[.long]
  resolved := Array.replicate 37 none
  statics := none }

def pool9 : Array CpInfo := pool [(1, .class_ 2), (0, u "java/lang/Long"), (55, .nameAndType 59 60), (0, u "<init>"), (0, u "()V"), (24, u "valueOf"), (143, u "(J)Ljava/lang/Long;"), (0, .long 18446744073709551488), (1, .long 127), (1, .fieldref 235 236), (0, .class_ 237), (0, .nameAndType 238 239), (0, u "java/lang/Long$LongCache"), (0, u "cache"), (0, u "[Ljava/lang/Long;"), (0, .methodref 1 241), (0, .nameAndType 59 242), (0, u "(J)V"), (27, .methodref 271 58), (0, .class_ 272), (0, u "java/lang/Number"), (0, .fieldref 1 274), (0, .nameAndType 275 276), (0, u "value"), (0, u "J"), (84, u "TYPE"), (0, u "Ljava/lang/Class;"), (0, .class_ 364), (0, u "java/lang/Comparable"), (0, .class_ 366), (0, u "java/lang/constant/Constable"), (0, .class_ 368), (0, u "java/lang/constant/ConstantDesc"), (0, u "MIN_VALUE"), (1, u "MAX_VALUE"), (4, u "SIZE"), (0, u "I"), (1, u "BYTES"), (1, u "serialVersionUID")] 142

def k9c0 : Code := { maxStack := 4, maxLocals := 3, code := jdk_35_method_24_code, exceptionTable := #[], attributes := #[] }
def k9m0 : Method := { name := "valueOf", desc := "(J)Ljava/lang/Long;", sig := { parameters := [.long], returnType := some (.object "java/lang/Long") }, accessFlags := 9, code := some k9c0 }
def k9c1 : Code := { maxStack := 3, maxLocals := 3, code := jdk_35_method_26_code, exceptionTable := #[], attributes := #[] }
def k9m1 : Method := { name := "<init>", desc := "(J)V", sig := { parameters := [.long], returnType := none }, accessFlags := 1, code := some k9c1 }
/-- java/lang/Long -/
def k9 : Class := { plain "java/lang/Long" (some 8) with
  accessFlags := 49
  interfaces := #[3, 5, 6]
  cf := some (fileOf pool9 1 #[.nestMembers #[235]] #[{ accessFlags := 9, nameIndex := 85, descriptorIndex := 229, attributes := #[] }, { accessFlags := 1, nameIndex := 59, descriptorIndex := 242, attributes := #[] }] 49 271 #[363, 365, 367] #[{ accessFlags := 25, nameIndex := 369, descriptorIndex := 276, attributes := #[] }, { accessFlags := 25, nameIndex := 371, descriptorIndex := 276, attributes := #[] }, { accessFlags := 25, nameIndex := 361, descriptorIndex := 362, attributes := #[] }, { accessFlags := 18, nameIndex := 275, descriptorIndex := 276, attributes := #[] }, { accessFlags := 25, nameIndex := 376, descriptorIndex := 377, attributes := #[] }, { accessFlags := 25, nameIndex := 379, descriptorIndex := 377, attributes := #[] }, { accessFlags := 26, nameIndex := 381, descriptorIndex := 276, attributes := #[] }])
  fields := #[{ name := "MIN_VALUE", type := .long, accessFlags := 25, slot := 0, constantValue := 0 }, { name := "MAX_VALUE", type := .long, accessFlags := 25, slot := 1, constantValue := 0 }, { name := "TYPE", type := (.object "java/lang/Class"), accessFlags := 25, slot := 2, constantValue := 0 }, { name := "value", type := .long, accessFlags := 18, slot := 0, constantValue := 0 }, { name := "SIZE", type := .int, accessFlags := 25, slot := 3, constantValue := 0 }, { name := "BYTES", type := .int, accessFlags := 25, slot := 4, constantValue := 0 }, { name := "serialVersionUID", type := .long, accessFlags := 26, slot := 5, constantValue := 0 }]
  methods := #[k9m0, k9m1]
  instanceTypes := #[.long]
  staticTypes := #[.long, .long, (.object "java/lang/Class"), .int, .int, .long]
  resolved := Array.replicate 524 none
  statics := none }

def pool10 : Array CpInfo := pool [(2, .class_ 4), (1, u "java/lang/Object"), (0, u "<init>"), (0, u "()V"), (0, .class_ 8), (0, u "java/lang/Long"), (7, .class_ 18), (1, u "java/lang/Long$LongCache"), (0, u "$assertionsDisabled"), (0, u "Z"), (8, u "archivedCache"), (0, u "[Ljava/lang/Long;"), (7, u "cache")] 24

def k10m0 : Method := { name := "<init>", desc := "()V", sig := { parameters := [], returnType := none }, accessFlags := 2, code := none }
/-- java/lang/Long$LongCache -/
def k10 : Class := { plain "java/lang/Long$LongCache" (some 0) with
  accessFlags := 48
  interfaces := #[]
  cf := some (fileOf pool10 16 #[.nestHost 7] #[{ accessFlags := 2, nameIndex := 5, descriptorIndex := 6, attributes := #[] }] 48 2 #[] #[{ accessFlags := 24, nameIndex := 38, descriptorIndex := 30, attributes := #[] }, { accessFlags := 8, nameIndex := 29, descriptorIndex := 30, attributes := #[] }, { accessFlags := 4120, nameIndex := 19, descriptorIndex := 20, attributes := #[] }])
  fields := #[{ name := "cache", type := (.array (.object "java/lang/Long")), accessFlags := 24, slot := 0, constantValue := 0 }, { name := "archivedCache", type := (.array (.object "java/lang/Long")), accessFlags := 8, slot := 1, constantValue := 0 }, { name := "$assertionsDisabled", type := .boolean, accessFlags := 4120, slot := 2, constantValue := 0 }]
  methods := #[k10m0]
  instanceTypes := #[]
  staticTypes := #[(.array (.object "java/lang/Long")), (.array (.object "java/lang/Long")), .boolean]
  resolved := Array.replicate 63 none
  statics := some 1 }

def pool11 : Array CpInfo := pool [(1, .methodref 2 3), (0, .class_ 4), (0, .nameAndType 5 6), (0, u "java/lang/Object"), (0, u "<init>"), (0, u "()V"), (0, .fieldref 8 9), (0, .class_ 10), (0, .nameAndType 11 12), (0, u "com/example/ripieno/ripieno/engine/HandlerResult"), (0, u "success"), (0, u "Z"), (0, .fieldref 8 14), (0, .nameAndType 15 16), (0, u "text"), (0, u "Ljava/lang/String;"), (0, .fieldref 8 18), (0, .nameAndType 19 20), (0, u "value"), (0, u "Ljava/lang/Object;"), (0, .fieldref 8 22), (0, .nameAndType 23 24), (0, u "cause"), (0, u "Ljava/lang/Exception;"), (0, .string 15), (0, .methodref 27 28), (0, .class_ 29), (0, .nameAndType 30 31), (0, u "java/util/Objects"), (0, u "requireNonNull"), (0, u "(Ljava/lang/Object;Ljava/lang/String;)Ljava/lang/Object;"), (0, .class_ 33), (0, u "java/lang/String"), (0, .methodref 8 35), (0, .nameAndType 5 36), (0, u "(ZLjava/lang/String;Ljava/lang/Object;Ljava/lang/Exception;)V"), (0, .string 19), (8, u "()Ljava/lang/String;"), (3, u "()Z"), (13, .methodref 65 66), (0, .class_ 67), (0, .nameAndType 68 69), (0, u "java/util/Optional"), (0, u "ofNullable"), (0, u "(Ljava/lang/Object;)Ljava/util/Optional;"), (11, u "(Ljava/lang/String;Ljava/lang/Object;)Lcom/example/ripieno/ripieno/engine/HandlerResult;"), (2, u "isSuccess"), (0, u "()Ljava/util/Optional;")] 21

def k11c0 : Code := { maxStack := 2, maxLocals := 5, code := prog_33_method_1_code, exceptionTable := #[], attributes := #[] }
def k11m0 : Method := { name := "<init>", desc := "(ZLjava/lang/String;Ljava/lang/Object;Ljava/lang/Exception;)V", sig := { parameters := [.boolean, (.object "java/lang/String"), (.object "java/lang/Object"), (.object "java/lang/Exception")], returnType := none }, accessFlags := 2, code := some k11c0 }
def k11c1 : Code := { maxStack := 6, maxLocals := 2, code := prog_33_method_3_code, exceptionTable := #[], attributes := #[] }
def k11m1 : Method := { name := "success", desc := "(Ljava/lang/String;Ljava/lang/Object;)Lcom/example/ripieno/ripieno/engine/HandlerResult;", sig := { parameters := [(.object "java/lang/String"), (.object "java/lang/Object")], returnType := some (.object "com/example/ripieno/ripieno/engine/HandlerResult") }, accessFlags := 9, code := some k11c1 }
def k11c2 : Code := { maxStack := 1, maxLocals := 1, code := prog_33_method_7_code, exceptionTable := #[], attributes := #[] }
def k11m2 : Method := { name := "isSuccess", desc := "()Z", sig := { parameters := [], returnType := some .boolean }, accessFlags := 1, code := some k11c2 }
def k11c3 : Code := { maxStack := 1, maxLocals := 1, code := prog_33_method_8_code, exceptionTable := #[], attributes := #[] }
def k11m3 : Method := { name := "text", desc := "()Ljava/lang/String;", sig := { parameters := [], returnType := some (.object "java/lang/String") }, accessFlags := 1, code := some k11c3 }
def k11c4 : Code := { maxStack := 1, maxLocals := 1, code := prog_33_method_9_code, exceptionTable := #[], attributes := #[] }
def k11m4 : Method := { name := "value", desc := "()Ljava/util/Optional;", sig := { parameters := [], returnType := some (.object "java/util/Optional") }, accessFlags := 1, code := some k11c4 }
def k11c5 : Code := { maxStack := 1, maxLocals := 1, code := prog_33_method_10_code, exceptionTable := #[], attributes := #[] }
def k11m5 : Method := { name := "cause", desc := "()Ljava/util/Optional;", sig := { parameters := [], returnType := some (.object "java/util/Optional") }, accessFlags := 1, code := some k11c5 }
/-- com/example/ripieno/ripieno/engine/HandlerResult -/
def k11 : Class := { plain "com/example/ripieno/ripieno/engine/HandlerResult" (some 0) with
  accessFlags := 49
  interfaces := #[]
  cf := some (fileOf pool11 8 #[] #[{ accessFlags := 2, nameIndex := 5, descriptorIndex := 36, attributes := #[] }, { accessFlags := 9, nameIndex := 11, descriptorIndex := 81, attributes := #[] }, { accessFlags := 1, nameIndex := 84, descriptorIndex := 50, attributes := #[] }, { accessFlags := 1, nameIndex := 15, descriptorIndex := 46, attributes := #[] }, { accessFlags := 1, nameIndex := 19, descriptorIndex := 85, attributes := #[] }, { accessFlags := 1, nameIndex := 23, descriptorIndex := 85, attributes := #[] }] 49 2 #[] #[{ accessFlags := 18, nameIndex := 11, descriptorIndex := 12, attributes := #[] }, { accessFlags := 18, nameIndex := 15, descriptorIndex := 16, attributes := #[] }, { accessFlags := 18, nameIndex := 19, descriptorIndex := 20, attributes := #[] }, { accessFlags := 18, nameIndex := 23, descriptorIndex := 24, attributes := #[] }])
  fields := #[{ name := "success", type := .boolean, accessFlags := 18, slot := 0, constantValue := 0 }, { name := "text", type := (.object "java/lang/String"), accessFlags := 18, slot := 1, constantValue := 0 }, { name := "value", type := (.object "java/lang/Object"), accessFlags := 18, slot := 2, constantValue := 0 }, { name := "cause", type := (.object "java/lang/Exception"), accessFlags := 18, slot := 3, constantValue := 0 }]
  methods := #[k11m0, k11m1, k11m2, k11m3, k11m4, k11m5]
  instanceTypes := #[.boolean, (.object "java/lang/String"), (.object "java/lang/Object"), (.object "java/lang/Exception")]
  staticTypes := #[]
  resolved := Array.replicate 107 none
  statics := none }

def pool12 : Array CpInfo := pool [(2, .class_ 4), (1, u "java/lang/Object"), (0, u "<init>"), (0, u "()V"), (35, .class_ 44), (1, u "java/util/Objects"), (0, u "requireNonNull"), (48, u "(Ljava/lang/Object;Ljava/lang/String;)Ljava/lang/Object;")] 89

def k12m0 : Method := { name := "<init>", desc := "()V", sig := { parameters := [], returnType := none }, accessFlags := 2, code := none }
def k12c1 : Code := { maxStack := 3, maxLocals := 2, code := jdk_31_method_11_code, exceptionTable := #[], attributes := #[] }
def k12m1 : Method := { name := "requireNonNull", desc := "(Ljava/lang/Object;Ljava/lang/String;)Ljava/lang/Object;", sig := { parameters := [(.object "java/lang/Object"), (.object "java/lang/String")], returnType := some (.object "java/lang/Object") }, accessFlags := 9, code := some k12c1 }
/-- java/util/Objects -/
def k12 : Class := { plain "java/util/Objects" (some 0) with
  accessFlags := 49
  interfaces := #[]
  cf := some (fileOf pool12 42 #[] #[{ accessFlags := 2, nameIndex := 5, descriptorIndex := 6, attributes := #[] }, { accessFlags := 9, nameIndex := 45, descriptorIndex := 94, attributes := #[] }] 49 2 #[] #[])
  fields := #[]
  methods := #[k12m0, k12m1]
  instanceTypes := #[]
  staticTypes := #[]
  resolved := Array.replicate 184 none
  statics := none }

def pool13 : Array CpInfo := pool [(1, .fieldref 2 3), (0, .class_ 4), (0, .nameAndType 5 6), (0, u "java/util/Optional"), (0, u "EMPTY"), (0, u "Ljava/util/Optional;"), (0, .methodref 8 9), (0, .class_ 10), (0, .nameAndType 11 12), (0, u "java/lang/Object"), (0, u "<init>"), (0, u "()V"), (0, .fieldref 2 14), (0, .nameAndType 15 16), (0, u "value"), (0, u "Ljava/lang/Object;"), (6, .methodref 2 24), (0, .nameAndType 11 25), (0, u "(Ljava/lang/Object;)V"), (20, u "()Z"), (17, u "ofNullable"), (0, u "(Ljava/lang/Object;)Ljava/util/Optional;"), (2, u "isPresent"), (4, u "get"), (0, u "()Ljava/lang/Object;")] 112

def k13c0 : Code := { maxStack := 2, maxLocals := 2, code := jdk_32_method_2_code, exceptionTable := #[], attributes := #[] }
def k13m0 : Method := { name := "<init>", desc := "(Ljava/lang/Object;)V", sig := { parameters := [(.object "java/lang/Object")], returnType := none }, accessFlags := 2, code := some k13c0 }
def k13c1 : Code := { maxStack := 3, maxLocals := 1, code := jdk_32_method_4_code, exceptionTable := #[], attributes := #[] }
def k13m1 : Method := { name := "ofNullable", desc := "(Ljava/lang/Object;)Ljava/util/Optional;", sig := { parameters := [(.object "java/lang/Object")], returnType := some (.object "java/util/Optional") }, accessFlags := 9, code := some k13c1 }
def k13c2 : Code := { maxStack := 3, maxLocals := 1, code := jdk_32_method_5_code, exceptionTable := #[], attributes := #[] }
def k13m2 : Method := { name := "get", desc := "()Ljava/lang/Object;", sig := { parameters := [], returnType := some (.object "java/lang/Object") }, accessFlags := 1, code := some k13c2 }
def k13c3 : Code := { maxStack := 1, maxLocals := 1, code := jdk_32_method_6_code, exceptionTable := #[], attributes := #[] }
def k13m3 : Method := { name := "isPresent", desc := "()Z", sig := { parameters := [], returnType := some .boolean }, accessFlags := 1, code := some k13c3 }
/-- java/util/Optional -/
def k13 : Class := { plain "java/util/Optional" (some 0) with
  accessFlags := 49
  interfaces := #[]
  cf := some (fileOf pool13 2 #[] #[{ accessFlags := 2, nameIndex := 11, descriptorIndex := 25, attributes := #[] }, { accessFlags := 9, nameIndex := 64, descriptorIndex := 65, attributes := #[] }, { accessFlags := 1, nameIndex := 73, descriptorIndex := 74, attributes := #[] }, { accessFlags := 1, nameIndex := 68, descriptorIndex := 46, attributes := #[] }] 49 8 #[] #[{ accessFlags := 26, nameIndex := 5, descriptorIndex := 6, attributes := #[] }, { accessFlags := 18, nameIndex := 15, descriptorIndex := 16, attributes := #[] }])
  fields := #[{ name := "EMPTY", type := (.object "java/util/Optional"), accessFlags := 26, slot := 0, constantValue := 0 }, { name := "value", type := (.object "java/lang/Object"), accessFlags := 18, slot := 0, constantValue := 0 }]
  methods := #[k13m0, k13m1, k13m2, k13m3]
  instanceTypes := #[(.object "java/lang/Object")]
  staticTypes := #[(.object "java/util/Optional")]
  resolved := Array.replicate 187 none
  statics := some 2 }

def pool14 : Array CpInfo := pool [(1, .class_ 2), (0, u "java/lang/Integer"), (16, u "digits"), (0, u "[C"), (46, u "<init>"), (17, u "DigitOnes"), (0, u "[B"), (2, u "DigitTens"), (10, .nameAndType 67 101), (0, u "()V"), (85, u "valueOf"), (0, u "(I)Ljava/lang/Integer;"), (0, .class_ 190), (0, u "java/lang/Integer$IntegerCache"), (0, .fieldref 189 192), (0, .nameAndType 193 194), (0, u "high"), (0, u "I"), (0, .fieldref 189 196), (0, .nameAndType 197 198), (0, u "cache"), (0, u "[Ljava/lang/Integer;"), (0, .methodref 1 200), (0, .nameAndType 67 201), (0, u "(I)V"), (0, .methodref 203 100), (0, .class_ 204), (0, u "java/lang/Number"), (0, .fieldref 1 206), (0, .nameAndType 207 194), (0, u "value"), (94, u "TYPE"), (0, u "Ljava/lang/Class;"), (0, .class_ 305), (0, u "java/lang/Comparable"), (0, .class_ 307), (0, u "java/lang/constant/Constable"), (0, .class_ 309), (0, u "java/lang/constant/ConstantDesc"), (0, u "MIN_VALUE"), (1, u "MAX_VALUE"), (3, u "SIZE"), (1, u "BYTES"), (1, u "serialVersionUID"), (0, u "J")] 131

def k14c0 : Code := { maxStack := 3, maxLocals := 1, code := jdk_33_method_22_code, exceptionTable := #[], attributes := #[] }
def k14m0 : Method := { name := "valueOf", desc := "(I)Ljava/lang/Integer;", sig := { parameters := [.int], returnType := some (.object "java/lang/Integer") }, accessFlags := 9, code := some k14c0 }
def k14c1 : Code := { maxStack := 2, maxLocals := 2, code := jdk_33_method_23_code, exceptionTable := #[], attributes := #[] }
def k14m1 : Method := { name := "<init>", desc := "(I)V", sig := { parameters := [.int], returnType := none }, accessFlags := 1, code := some k14c1 }
/-- java/lang/Integer -/
def k14 : Class := { plain "java/lang/Integer" (some 8) with
  accessFlags := 49
  interfaces := #[3, 5, 6]
  cf := some (fileOf pool14 1 #[.nestMembers #[189]] #[{ accessFlags := 9, nameIndex := 187, descriptorIndex := 188, attributes := #[] }, { accessFlags := 1, nameIndex := 67, descriptorIndex := 201, attributes := #[] }] 49 203 #[304, 306, 308] #[{ accessFlags := 25, nameIndex := 310, descriptorIndex := 194, attributes := #[] }, { accessFlags := 25, nameIndex := 312, descriptorIndex := 194, attributes := #[] }, { accessFlags := 25, nameIndex := 302, descriptorIndex := 303, attributes := #[] }, { accessFlags := 24, nameIndex := 19, descriptorIndex := 20, attributes := #[] }, { accessFlags := 24, nameIndex := 89, descriptorIndex := 86, attributes := #[] }, { accessFlags := 24, nameIndex := 85, descriptorIndex := 86, attributes := #[] }, { accessFlags := 18, nameIndex := 207, descriptorIndex := 194, attributes := #[] }, { accessFlags := 25, nameIndex := 316, descriptorIndex := 194, attributes := #[] }, { accessFlags := 25, nameIndex := 318, descriptorIndex := 194, attributes := #[] }, { accessFlags := 26, nameIndex := 320, descriptorIndex := 321, attributes := #[] }])
  fields := #[{ name := "MIN_VALUE", type := .int, accessFlags := 25, slot := 0, constantValue := 0 }, { name := "MAX_VALUE", type := .int, accessFlags := 25, slot := 1, constantValue := 0 }, { name := "TYPE", type := (.object "java/lang/Class"), accessFlags := 25, slot := 2, constantValue := 0 }, { name := "digits", type := (.array .char), accessFlags := 24, slot := 3, constantValue := 0 }, { name := "DigitTens", type := (.array .byte), accessFlags := 24, slot := 4, constantValue := 0 }, { name := "DigitOnes", type := (.array .byte), accessFlags := 24, slot := 5, constantValue := 0 }, { name := "value", type := .int, accessFlags := 18, slot := 0, constantValue := 0 }, { name := "SIZE", type := .int, accessFlags := 25, slot := 6, constantValue := 0 }, { name := "BYTES", type := .int, accessFlags := 25, slot := 7, constantValue := 0 }, { name := "serialVersionUID", type := .long, accessFlags := 26, slot := 8, constantValue := 0 }]
  methods := #[k14m0, k14m1]
  instanceTypes := #[.int]
  staticTypes := #[.int, .int, (.object "java/lang/Class"), (.array .char), (.array .byte), (.array .byte), .int, .int, .long]
  resolved := Array.replicate 453 none
  statics := none }

def pool15 : Array CpInfo := pool [(2, .class_ 4), (1, u "java/lang/Object"), (0, u "<init>"), (0, u "()V"), (0, .class_ 8), (0, u "java/lang/Integer"), (7, .class_ 18), (1, u "java/lang/Integer$IntegerCache"), (0, u "$assertionsDisabled"), (0, u "Z"), (26, u "high"), (0, u "I"), (8, u "archivedCache"), (0, u "[Ljava/lang/Integer;"), (12, u "cache"), (0, u "low")] 27

def k15m0 : Method := { name := "<init>", desc := "()V", sig := { parameters := [], returnType := none }, accessFlags := 2, code := none }
/-- java/lang/Integer$IntegerCache -/
def k15 : Class := { plain "java/lang/Integer$IntegerCache" (some 0) with
  accessFlags := 48
  interfaces := #[]
  cf := some (fileOf pool15 16 #[.nestHost 7] #[{ accessFlags := 2, nameIndex := 5, descriptorIndex := 6, attributes := #[] }] 48 2 #[] #[{ accessFlags := 24, nameIndex := 72, descriptorIndex := 48, attributes := #[] }, { accessFlags := 24, nameIndex := 47, descriptorIndex := 48, attributes := #[] }, { accessFlags := 24, nameIndex := 71, descriptorIndex := 58, attributes := #[] }, { accessFlags := 8, nameIndex := 57, descriptorIndex := 58, attributes := #[] }, { accessFlags := 4120, nameIndex := 19, descriptorIndex := 20, attributes := #[] }])
  fields := #[{ name := "low", type := .int, accessFlags := 24, slot := 0, constantValue := 0 }, { name := "high", type := .int, accessFlags := 24, slot := 1, constantValue := 0 }, { name := "cache", type := (.array (.object "java/lang/Integer")), accessFlags := 24, slot := 2, constantValue := 0 }, { name := "archivedCache", type := (.array (.object "java/lang/Integer")), accessFlags := 8, slot := 3, constantValue := 0 }, { name := "$assertionsDisabled", type := .boolean, accessFlags := 4120, slot := 4, constantValue := 0 }]
  methods := #[k15m0]
  instanceTypes := #[]
  staticTypes := #[.int, .int, (.array (.object "java/lang/Integer")), (.array (.object "java/lang/Integer")), .boolean]
  resolved := Array.replicate 100 none
  statics := some 3 }

def pool16 : Array CpInfo := pool [(6, .class_ 8), (1, u "java/lang/Object"), (0, u "<init>"), (0, u "()V"), (1, .class_ 14), (1, u "java/lang/StringUTF16"), (31, u "$assertionsDisabled"), (0, u "Z"), (13, u "HI_BYTE_SHIFT"), (0, u "I"), (2, u "LO_BYTE_SHIFT"), (49, .methodref 12 116), (0, .nameAndType 117 118), (0, u "compress"), (0, u "([CI[BII)I"), (3, u "([CII)[B"), (138, u "coderFromArrayLen"), (0, u "([BI)B"), (106, .class_ 371), (1, u "java/lang/StringUTF16$LinesSpliterator"), (58, u "MAX_LENGTH"), (196, .class_ 628), (0, u "java/lang/StringUTF16$CodePointsSpliterator"), (0, .class_ 630), (0, u "java/lang/StringUTF16$CharsSpliterator")] 4

def k16m0 : Method := { name := "<init>", desc := "()V", sig := { parameters := [], returnType := none }, accessFlags := 0, code := none }
def k16c1 : Code := { maxStack := 2, maxLocals := 2, code := jdk_52_method_15_code, exceptionTable := #[], attributes := #[] }
def k16m1 : Method := { name := "coderFromArrayLen", desc := "([BI)B", sig := { parameters := [(.array .byte), .int], returnType := some .byte }, accessFlags := 8, code := some k16c1 }
def k16c2 : Code := { maxStack := 5, maxLocals := 6, code := jdk_52_method_16_code, exceptionTable := #[], attributes := #[] }
def k16m2 : Method := { name := "compress", desc := "([CII)[B", sig := { parameters := [(.array .char), .int, .int], returnType := some (.array .byte) }, accessFlags := 9, code := some k16c2 }
def k16c3 : Code := { maxStack := 3, maxLocals := 7, code := jdk_52_method_21_code, exceptionTable := #[], attributes := #[] }
def k16m3 : Method := { name := "compress", desc := "([CI[BII)I", sig := { parameters := [(.array .char), .int, (.array .byte), .int, .int], returnType := some .int }, accessFlags := 9, code := some k16c3 }
/-- java/lang/StringUTF16 -/
def k16 : Class := { plain "java/lang/StringUTF16" (some 0) with
  accessFlags := 48
  interfaces := #[]
  cf := some (fileOf pool16 12 #[.nestMembers #[627, 629, 369]] #[{ accessFlags := 0, nameIndex := 9, descriptorIndex := 10, attributes := #[] }, { accessFlags := 8, nameIndex := 261, descriptorIndex := 262, attributes := #[] }, { accessFlags := 9, nameIndex := 117, descriptorIndex := 122, attributes := #[] }, { accessFlags := 9, nameIndex := 117, descriptorIndex := 118, attributes := #[] }] 48 6 #[] #[{ accessFlags := 26, nameIndex := 61, descriptorIndex := 62, attributes := #[] }, { accessFlags := 26, nameIndex := 65, descriptorIndex := 62, attributes := #[] }, { accessFlags := 24, nameIndex := 430, descriptorIndex := 62, attributes := #[] }, { accessFlags := 4120, nameIndex := 46, descriptorIndex := 47, attributes := #[] }])
  fields := #[{ name := "HI_BYTE_SHIFT", type := .int, accessFlags := 26, slot := 0, constantValue := 0 }, { name := "LO_BYTE_SHIFT", type := .int, accessFlags := 26, slot := 1, constantValue := 0 }, { name := "MAX_LENGTH", type := .int, accessFlags := 24, slot := 2, constantValue := 0 }, { name := "$assertionsDisabled", type := .boolean, accessFlags := 4120, slot := 3, constantValue := 0 }]
  methods := #[k16m0, k16m1, k16m2, k16m3]
  instanceTypes := #[]
  staticTypes := #[.int, .int, .int, .boolean]
  resolved := Array.replicate 635 none
  statics := none }

def pool17 : Array CpInfo := pool [(4, .class_ 6), (1, u "java/lang/Object"), (0, u "<init>"), (0, u "()V"), (5, .class_ 16), (1, u "java/lang/StringLatin1"), (104, u "$assertionsDisabled"), (0, u "Z"), (98, .class_ 223), (1, u "java/lang/StringLatin1$LinesSpliterator"), (166, .class_ 391), (0, u "java/lang/StringLatin1$CharsSpliterator")] 3

def k17m0 : Method := { name := "<init>", desc := "()V", sig := { parameters := [], returnType := none }, accessFlags := 0, code := none }
/-- java/lang/StringLatin1 -/
def k17 : Class := { plain "java/lang/StringLatin1" (some 0) with
  accessFlags := 48
  interfaces := #[]
  cf := some (fileOf pool17 14 #[.nestMembers #[390, 221]] #[{ accessFlags := 0, nameIndex := 7, descriptorIndex := 8, attributes := #[] }] 48 4 #[] #[{ accessFlags := 4120, nameIndex := 121, descriptorIndex := 122, attributes := #[] }])
  fields := #[{ name := "$assertionsDisabled", type := .boolean, accessFlags := 4120, slot := 0, constantValue := 0 }]
  methods := #[k17m0]
  instanceTypes := #[]
  staticTypes := #[.boolean]
  resolved := Array.replicate 395 none
  statics := none }

def pool18 : Array CpInfo := pool [(2, .class_ 4), (1, u "java/lang/Object"), (0, u "<init>"), (0, u "()V"), (17, .class_ 26), (1, u "jdk/internal/util/Preconditions"), (28, .class_ 56), (0, u "jdk/internal/util/Preconditions$4"), (57, .class_ 115), (0, u "jdk/internal/util/Preconditions$1"), (7, u "SIOOBE_FORMATTER"), (0, u "Ljava/util/function/BiFunction;"), (0, .class_ 126), (0, u "jdk/internal/util/Preconditions$2"), (3, u "AIOOBE_FORMATTER"), (0, .class_ 132), (0, u "jdk/internal/util/Preconditions$3"), (3, u "IOOBE_FORMATTER")] 57

def k18m0 : Method := { name := "<init>", desc := "()V", sig := { parameters := [], returnType := none }, accessFlags := 1, code := none }
/-- jdk/internal/util/Preconditions -/
def k18 : Class := { plain "jdk/internal/util/Preconditions" (some 0) with
  accessFlags := 33
  interfaces := #[]
  cf := some (fileOf pool18 24 #[.nestMembers #[55, 131, 125, 114]] #[{ accessFlags := 1, nameIndex := 5, descriptorIndex := 6, attributes := #[] }] 33 2 #[] #[{ accessFlags := 25, nameIndex := 123, descriptorIndex := 124, attributes := #[] }, { accessFlags := 25, nameIndex := 130, descriptorIndex := 124, attributes := #[] }, { accessFlags := 25, nameIndex := 136, descriptorIndex := 124, attributes := #[] }])
  fields := #[{ name := "SIOOBE_FORMATTER", type := (.object "java/util/function/BiFunction"), accessFlags := 25, slot := 0, constantValue := 0 }, { name := "AIOOBE_FORMATTER", type := (.object "java/util/function/BiFunction"), accessFlags := 25, slot := 1, constantValue := 0 }, { name := "IOOBE_FORMATTER", type := (.object "java/util/function/BiFunction"), accessFlags := 25, slot := 2, constantValue := 0 }]
  methods := #[k18m0]
  instanceTypes := #[]
  staticTypes := #[(.object "java/util/function/BiFunction"), (.object "java/util/function/BiFunction"), (.object "java/util/function/BiFunction")]
  resolved := Array.replicate 194 none
  statics := some 4 }

def pool19 : Array CpInfo := pool [(9, u "<init>"), (6, .class_ 18), (1, u "java/lang/Object"), (0, u "()V"), (1, .class_ 23), (1, u "jdk/internal/util/ArraysSupport"), (0, u "LOG2_ARRAY_LONG_INDEX_SCALE"), (0, u "I"), (2, u "U"), (0, u "Ljdk/internal/misc/Unsafe;"), (8, u "BIG_ENDIAN"), (0, u "Z"), (8, u "LOG2_BYTE_BIT_SIZE"), (4, u "LOG2_ARRAY_INT_INDEX_SCALE"), (54, u "JLA"), (0, u "Ljdk/internal/access/JavaLangAccess;"), (11, u "LOG2_ARRAY_BOOLEAN_INDEX_SCALE"), (9, u "LOG2_ARRAY_BYTE_INDEX_SCALE"), (5, u "LOG2_ARRAY_CHAR_INDEX_SCALE"), (5, u "LOG2_ARRAY_SHORT_INDEX_SCALE"), (18, u "LOG2_ARRAY_FLOAT_INDEX_SCALE"), (24, u "LOG2_ARRAY_DOUBLE_INDEX_SCALE"), (89, u "T_BOOLEAN"), (2, u "T_CHAR"), (1, u "T_FLOAT"), (1, u "T_DOUBLE"), (1, u "T_BYTE"), (1, u "T_SHORT"), (1, u "T_INT"), (1, u "T_LONG"), (1, u "SOFT_MAX_ARRAY_LENGTH")] 83

def k19m0 : Method := { name := "<init>", desc := "()V", sig := { parameters := [], returnType := none }, accessFlags := 2, code := none }
/-- jdk/internal/util/ArraysSupport -/
def k19 : Class := { plain "jdk/internal/util/ArraysSupport" (some 0) with
  accessFlags := 33
  interfaces := #[]
  cf := some (fileOf pool19 21 #[] #[{ accessFlags := 2, nameIndex := 9, descriptorIndex := 19, attributes := #[] }] 33 16 #[] #[{ accessFlags := 24, nameIndex := 28, descriptorIndex := 29, attributes := #[] }, { accessFlags := 26, nameIndex := 38, descriptorIndex := 39, attributes := #[] }, { accessFlags := 25, nameIndex := 121, descriptorIndex := 25, attributes := #[] }, { accessFlags := 25, nameIndex := 131, descriptorIndex := 25, attributes := #[] }, { accessFlags := 25, nameIndex := 137, descriptorIndex := 25, attributes := #[] }, { accessFlags := 25, nameIndex := 143, descriptorIndex := 25, attributes := #[] }, { accessFlags := 25, nameIndex := 53, descriptorIndex := 25, attributes := #[] }, { accessFlags := 25, nameIndex := 24, descriptorIndex := 25, attributes := #[] }, { accessFlags := 25, nameIndex := 162, descriptorIndex := 25, attributes := #[] }, { accessFlags := 25, nameIndex := 187, descriptorIndex := 25, attributes := #[] }, { accessFlags := 26, nameIndex := 48, descriptorIndex := 25, attributes := #[] }, { accessFlags := 25, nameIndex := 277, descriptorIndex := 25, attributes := #[] }, { accessFlags := 25, nameIndex := 280, descriptorIndex := 25, attributes := #[] }, { accessFlags := 25, nameIndex := 282, descriptorIndex := 25, attributes := #[] }, { accessFlags := 25, nameIndex := 284, descriptorIndex := 25, attributes := #[] }, { accessFlags := 25, nameIndex := 286, descriptorIndex := 25, attributes := #[] }, { accessFlags := 25, nameIndex := 288, descriptorIndex := 25, attributes := #[] }, { accessFlags := 25, nameIndex := 290, descriptorIndex := 25, attributes := #[] }, { accessFlags := 25, nameIndex := 292, descriptorIndex := 25, attributes := #[] }, { accessFlags := 26, nameIndex := 108, descriptorIndex := 109, attributes := #[] }, { accessFlags := 25, nameIndex := 294, descriptorIndex := 25, attributes := #[] }])
  fields := #[{ name := "U", type := (.object "jdk/internal/misc/Unsafe"), accessFlags := 24, slot := 0, constantValue := 0 }, { name := "BIG_ENDIAN", type := .boolean, accessFlags := 26, slot := 1, constantValue := 0 }, { name := "LOG2_ARRAY_BOOLEAN_INDEX_SCALE", type := .int, accessFlags := 25, slot := 2, constantValue := 0 }, { name := "LOG2_ARRAY_BYTE_INDEX_SCALE", type := .int, accessFlags := 25, slot := 3, constantValue := 0 }, { name := "LOG2_ARRAY_CHAR_INDEX_SCALE", type := .int, accessFlags := 25, slot := 4, constantValue := 0 }, { name := "LOG2_ARRAY_SHORT_INDEX_SCALE", type := .int, accessFlags := 25, slot := 5, constantValue := 0 }, { name := "LOG2_ARRAY_INT_INDEX_SCALE", type := .int, accessFlags := 25, slot := 6, constantValue := 0 }, { name := "LOG2_ARRAY_LONG_INDEX_SCALE", type := .int, accessFlags := 25, slot := 7, constantValue := 0 }, { name := "LOG2_ARRAY_FLOAT_INDEX_SCALE", type := .int, accessFlags := 25, slot := 8, constantValue := 0 }, { name := "LOG2_ARRAY_DOUBLE_INDEX_SCALE", type := .int, accessFlags := 25, slot := 9, constantValue := 0 }, { name := "LOG2_BYTE_BIT_SIZE", type := .int, accessFlags := 26, slot := 10, constantValue := 0 }, { name := "T_BOOLEAN", type := .int, accessFlags := 25, slot := 11, constantValue := 0 }, { name := "T_CHAR", type := .int, accessFlags := 25, slot := 12, constantValue := 0 }, { name := "T_FLOAT", type := .int, accessFlags := 25, slot := 13, constantValue := 0 }, { name := "T_DOUBLE", type := .int, accessFlags := 25, slot := 14, constantValue := 0 }, { name := "T_BYTE", type := .int, accessFlags := 25, slot := 15, constantValue := 0 }, { name := "T_SHORT", type := .int, accessFlags := 25, slot := 16, constantValue := 0 }, { name := "T_INT", type := .int, accessFlags := 25, slot := 17, constantValue := 0 }, { name := "T_LONG", type := .int, accessFlags := 25, slot := 18, constantValue := 0 }, { name := "JLA", type := (.object "jdk/internal/access/JavaLangAccess"), accessFlags := 26, slot := 19, constantValue := 0 }, { name := "SOFT_MAX_ARRAY_LENGTH", type := .int, accessFlags := 25, slot := 20, constantValue := 0 }]
  methods := #[k19m0]
  instanceTypes := #[]
  staticTypes := #[(.object "jdk/internal/misc/Unsafe"), .boolean, .int, .int, .int, .int, .int, .int, .int, .int, .int, .int, .int, .int, .int, .int, .int, .int, .int, (.object "jdk/internal/access/JavaLangAccess"), .int]
  resolved := Array.replicate 378 none
  statics := none }

def pool20 : Array CpInfo := pool [(1, u "java/lang/Cloneable"), (0, .class_ 1), (0, u "java/lang/Object"), (0, .class_ 3)] 3

/-- java/lang/Cloneable -/
def k20 : Class := { plain "java/lang/Cloneable" (some 0) with
  accessFlags := 1537
  interfaces := #[]
  cf := some (fileOf pool20 2 #[] #[] 1537 4 #[] #[])
  fields := #[]
  methods := #[]
  instanceTypes := #[]
  staticTypes := #[]
  resolved := Array.replicate 8 none
  statics := none }

/-- the primitive byte -/
def k21 : Class := { plain "byte" none with kind := .primitive 'B', accessFlags := 0x411 }
/-- [B -/
def k22 : Class := { plain "[B" (some 0) with kind := .array 21 .byte, interfaces := #[20, 2], accessFlags := 1041 }

/-- the primitive char -/
def k23 : Class := { plain "char" none with kind := .primitive 'C', accessFlags := 0x411 }
/-- [C -/
def k24 : Class := { plain "[C" (some 0) with kind := .array 23 .char, interfaces := #[20, 2], accessFlags := 1041 }

/-- the primitive int -/
def k25 : Class := { plain "int" none with kind := .primitive 'I', accessFlags := 0x411 }
/-- [I -/
def k26 : Class := { plain "[I" (some 0) with kind := .array 25 .int, interfaces := #[20, 2], accessFlags := 1041 }

/-- [Ljava/lang/Integer; -/
def k27 : Class := { plain "[Ljava/lang/Integer;" (some 0) with kind := .array 14 (.object "java/lang/Integer"), interfaces := #[20, 2], accessFlags := 1041 }

/-- [Ljava/lang/Long; -/
def k28 : Class := { plain "[Ljava/lang/Long;" (some 0) with kind := .array 9 (.object "java/lang/Long"), interfaces := #[20, 2], accessFlags := 1041 }

def heap : Heap := #[{ cls := 7, slots := #[.long 0, .int 1, .null, .int 0, .null, .int 0, .int 0], vm := .statics 7 },
  { cls := 10, slots := #[.ref 5, .null, .int 0], vm := .statics 10 },
  { cls := 13, slots := #[.ref 519], vm := .statics 13 },
  { cls := 15, slots := #[.int 0, .int 127, .ref 6, .null, .int 0], vm := .statics 15 },
  { cls := 18, slots := #[.null, .null, .null], vm := .statics 18 },
  { cls := 28, slots := #[.ref 7, .ref 8, .ref 9, .ref 10, .ref 11, .ref 12, .ref 13, .ref 14, .ref 15, .ref 16, .ref 17, .ref 18, .ref 19, .ref 20, .ref 21, .ref 22, .ref 23, .ref 24, .ref 25, .ref 26, .ref 27, .ref 28, .ref 29, .ref 30, .ref 31, .ref 32, .ref 33, .ref 34, .ref 35, .ref 36, .ref 37, .ref 38, .ref 39, .ref 40, .ref 41, .ref 42, .ref 43, .ref 44, .ref 45, .ref 46, .ref 47, .ref 48, .ref 49, .ref 50, .ref 51, .ref 52, .ref 53, .ref 54, .ref 55, .ref 56, .ref 57, .ref 58, .ref 59, .ref 60, .ref 61, .ref 62, .ref 63, .ref 64, .ref 65, .ref 66, .ref 67, .ref 68, .ref 69, .ref 70, .ref 71, .ref 72, .ref 73, .ref 74, .ref 75, .ref 76, .ref 77, .ref 78, .ref 79, .ref 80, .ref 81, .ref 82, .ref 83, .ref 84, .ref 85, .ref 86, .ref 87, .ref 88, .ref 89, .ref 90, .ref 91, .ref 92, .ref 93, .ref 94, .ref 95, .ref 96, .ref 97, .ref 98, .ref 99, .ref 100, .ref 101, .ref 102, .ref 103, .ref 104, .ref 105, .ref 106, .ref 107, .ref 108, .ref 109, .ref 110, .ref 111, .ref 112, .ref 113, .ref 114, .ref 115, .ref 116, .ref 117, .ref 118, .ref 119, .ref 120, .ref 121, .ref 122, .ref 123, .ref 124, .ref 125, .ref 126, .ref 127, .ref 128, .ref 129, .ref 130, .ref 131, .ref 132, .ref 133, .ref 134, .ref 135, .ref 136, .ref 137, .ref 138, .ref 139, .ref 140, .ref 141, .ref 142, .ref 143, .ref 144, .ref 145, .ref 146, .ref 147, .ref 148, .ref 149, .ref 150, .ref 151, .ref 152, .ref 153, .ref 154, .ref 155, .ref 156, .ref 157, .ref 158, .ref 159, .ref 160, .ref 161, .ref 162, .ref 163, .ref 164, .ref 165, .ref 166, .ref 167, .ref 168, .ref 169, .ref 170, .ref 171, .ref 172, .ref 173, .ref 174, .ref 175, .ref 176, .ref 177, .ref 178, .ref 179, .ref 180, .ref 181, .ref 182, .ref 183, .ref 184, .ref 185, .ref 186, .ref 187, .ref 188, .ref 189, .ref 190, .ref 191, .ref 192, .ref 193, .ref 194, .ref 195, .ref 196, .ref 197, .ref 198, .ref 199, .ref 200, .ref 201, .ref 202, .ref 203, .ref 204, .ref 205, .ref 206, .ref 207, .ref 208, .ref 209, .ref 210, .ref 211, .ref 212, .ref 213, .ref 214, .ref 215, .ref 216, .ref 217, .ref 218, .ref 219, .ref 220, .ref 221, .ref 222, .ref 223, .ref 224, .ref 225, .ref 226, .ref 227, .ref 228, .ref 229, .ref 230, .ref 231, .ref 232, .ref 233, .ref 234, .ref 235, .ref 236, .ref 237, .ref 238, .ref 239, .ref 240, .ref 241, .ref 242, .ref 243, .ref 244, .ref 245, .ref 246, .ref 247, .ref 248, .ref 249, .ref 250, .ref 251, .ref 252, .ref 253, .ref 254, .ref 255, .ref 256, .ref 257, .ref 258, .ref 259, .ref 260, .ref 261, .ref 262], vm := .none },
  { cls := 27, slots := #[.ref 263, .ref 264, .ref 265, .ref 266, .ref 267, .ref 268, .ref 269, .ref 270, .ref 271, .ref 272, .ref 273, .ref 274, .ref 275, .ref 276, .ref 277, .ref 278, .ref 279, .ref 280, .ref 281, .ref 282, .ref 283, .ref 284, .ref 285, .ref 286, .ref 287, .ref 288, .ref 289, .ref 290, .ref 291, .ref 292, .ref 293, .ref 294, .ref 295, .ref 296, .ref 297, .ref 298, .ref 299, .ref 300, .ref 301, .ref 302, .ref 303, .ref 304, .ref 305, .ref 306, .ref 307, .ref 308, .ref 309, .ref 310, .ref 311, .ref 312, .ref 313, .ref 314, .ref 315, .ref 316, .ref 317, .ref 318, .ref 319, .ref 320, .ref 321, .ref 322, .ref 323, .ref 324, .ref 325, .ref 326, .ref 327, .ref 328, .ref 329, .ref 330, .ref 331, .ref 332, .ref 333, .ref 334, .ref 335, .ref 336, .ref 337, .ref 338, .ref 339, .ref 340, .ref 341, .ref 342, .ref 343, .ref 344, .ref 345, .ref 346, .ref 347, .ref 348, .ref 349, .ref 350, .ref 351, .ref 352, .ref 353, .ref 354, .ref 355, .ref 356, .ref 357, .ref 358, .ref 359, .ref 360, .ref 361, .ref 362, .ref 363, .ref 364, .ref 365, .ref 366, .ref 367, .ref 368, .ref 369, .ref 370, .ref 371, .ref 372, .ref 373, .ref 374, .ref 375, .ref 376, .ref 377, .ref 378, .ref 379, .ref 380, .ref 381, .ref 382, .ref 383, .ref 384, .ref 385, .ref 386, .ref 387, .ref 388, .ref 389, .ref 390, .ref 391, .ref 392, .ref 393, .ref 394, .ref 395, .ref 396, .ref 397, .ref 398, .ref 399, .ref 400, .ref 401, .ref 402, .ref 403, .ref 404, .ref 405, .ref 406, .ref 407, .ref 408, .ref 409, .ref 410, .ref 411, .ref 412, .ref 413, .ref 414, .ref 415, .ref 416, .ref 417, .ref 418, .ref 419, .ref 420, .ref 421, .ref 422, .ref 423, .ref 424, .ref 425, .ref 426, .ref 427, .ref 428, .ref 429, .ref 430, .ref 431, .ref 432, .ref 433, .ref 434, .ref 435, .ref 436, .ref 437, .ref 438, .ref 439, .ref 440, .ref 441, .ref 442, .ref 443, .ref 444, .ref 445, .ref 446, .ref 447, .ref 448, .ref 449, .ref 450, .ref 451, .ref 452, .ref 453, .ref 454, .ref 455, .ref 456, .ref 457, .ref 458, .ref 459, .ref 460, .ref 461, .ref 462, .ref 463, .ref 464, .ref 465, .ref 466, .ref 467, .ref 468, .ref 469, .ref 470, .ref 471, .ref 472, .ref 473, .ref 474, .ref 475, .ref 476, .ref 477, .ref 478, .ref 479, .ref 480, .ref 481, .ref 482, .ref 483, .ref 484, .ref 485, .ref 486, .ref 487, .ref 488, .ref 489, .ref 490, .ref 491, .ref 492, .ref 493, .ref 494, .ref 495, .ref 496, .ref 497, .ref 498, .ref 499, .ref 500, .ref 501, .ref 502, .ref 503, .ref 504, .ref 505, .ref 506, .ref 507, .ref 508, .ref 509, .ref 510, .ref 511, .ref 512, .ref 513, .ref 514, .ref 515, .ref 516, .ref 517, .ref 518], vm := .none },
  { cls := 9, slots := #[.long (-128)], vm := .none },
  { cls := 9, slots := #[.long (-127)], vm := .none },
  { cls := 9, slots := #[.long (-126)], vm := .none },
  { cls := 9, slots := #[.long (-125)], vm := .none },
  { cls := 9, slots := #[.long (-124)], vm := .none },
  { cls := 9, slots := #[.long (-123)], vm := .none },
  { cls := 9, slots := #[.long (-122)], vm := .none },
  { cls := 9, slots := #[.long (-121)], vm := .none },
  { cls := 9, slots := #[.long (-120)], vm := .none },
  { cls := 9, slots := #[.long (-119)], vm := .none },
  { cls := 9, slots := #[.long (-118)], vm := .none },
  { cls := 9, slots := #[.long (-117)], vm := .none },
  { cls := 9, slots := #[.long (-116)], vm := .none },
  { cls := 9, slots := #[.long (-115)], vm := .none },
  { cls := 9, slots := #[.long (-114)], vm := .none },
  { cls := 9, slots := #[.long (-113)], vm := .none },
  { cls := 9, slots := #[.long (-112)], vm := .none },
  { cls := 9, slots := #[.long (-111)], vm := .none },
  { cls := 9, slots := #[.long (-110)], vm := .none },
  { cls := 9, slots := #[.long (-109)], vm := .none },
  { cls := 9, slots := #[.long (-108)], vm := .none },
  { cls := 9, slots := #[.long (-107)], vm := .none },
  { cls := 9, slots := #[.long (-106)], vm := .none },
  { cls := 9, slots := #[.long (-105)], vm := .none },
  { cls := 9, slots := #[.long (-104)], vm := .none },
  { cls := 9, slots := #[.long (-103)], vm := .none },
  { cls := 9, slots := #[.long (-102)], vm := .none },
  { cls := 9, slots := #[.long (-101)], vm := .none },
  { cls := 9, slots := #[.long (-100)], vm := .none },
  { cls := 9, slots := #[.long (-99)], vm := .none },
  { cls := 9, slots := #[.long (-98)], vm := .none },
  { cls := 9, slots := #[.long (-97)], vm := .none },
  { cls := 9, slots := #[.long (-96)], vm := .none },
  { cls := 9, slots := #[.long (-95)], vm := .none },
  { cls := 9, slots := #[.long (-94)], vm := .none },
  { cls := 9, slots := #[.long (-93)], vm := .none },
  { cls := 9, slots := #[.long (-92)], vm := .none },
  { cls := 9, slots := #[.long (-91)], vm := .none },
  { cls := 9, slots := #[.long (-90)], vm := .none },
  { cls := 9, slots := #[.long (-89)], vm := .none },
  { cls := 9, slots := #[.long (-88)], vm := .none },
  { cls := 9, slots := #[.long (-87)], vm := .none },
  { cls := 9, slots := #[.long (-86)], vm := .none },
  { cls := 9, slots := #[.long (-85)], vm := .none },
  { cls := 9, slots := #[.long (-84)], vm := .none },
  { cls := 9, slots := #[.long (-83)], vm := .none },
  { cls := 9, slots := #[.long (-82)], vm := .none },
  { cls := 9, slots := #[.long (-81)], vm := .none },
  { cls := 9, slots := #[.long (-80)], vm := .none },
  { cls := 9, slots := #[.long (-79)], vm := .none },
  { cls := 9, slots := #[.long (-78)], vm := .none },
  { cls := 9, slots := #[.long (-77)], vm := .none },
  { cls := 9, slots := #[.long (-76)], vm := .none },
  { cls := 9, slots := #[.long (-75)], vm := .none },
  { cls := 9, slots := #[.long (-74)], vm := .none },
  { cls := 9, slots := #[.long (-73)], vm := .none },
  { cls := 9, slots := #[.long (-72)], vm := .none },
  { cls := 9, slots := #[.long (-71)], vm := .none },
  { cls := 9, slots := #[.long (-70)], vm := .none },
  { cls := 9, slots := #[.long (-69)], vm := .none },
  { cls := 9, slots := #[.long (-68)], vm := .none },
  { cls := 9, slots := #[.long (-67)], vm := .none },
  { cls := 9, slots := #[.long (-66)], vm := .none },
  { cls := 9, slots := #[.long (-65)], vm := .none },
  { cls := 9, slots := #[.long (-64)], vm := .none },
  { cls := 9, slots := #[.long (-63)], vm := .none },
  { cls := 9, slots := #[.long (-62)], vm := .none },
  { cls := 9, slots := #[.long (-61)], vm := .none },
  { cls := 9, slots := #[.long (-60)], vm := .none },
  { cls := 9, slots := #[.long (-59)], vm := .none },
  { cls := 9, slots := #[.long (-58)], vm := .none },
  { cls := 9, slots := #[.long (-57)], vm := .none },
  { cls := 9, slots := #[.long (-56)], vm := .none },
  { cls := 9, slots := #[.long (-55)], vm := .none },
  { cls := 9, slots := #[.long (-54)], vm := .none },
  { cls := 9, slots := #[.long (-53)], vm := .none },
  { cls := 9, slots := #[.long (-52)], vm := .none },
  { cls := 9, slots := #[.long (-51)], vm := .none },
  { cls := 9, slots := #[.long (-50)], vm := .none },
  { cls := 9, slots := #[.long (-49)], vm := .none },
  { cls := 9, slots := #[.long (-48)], vm := .none },
  { cls := 9, slots := #[.long (-47)], vm := .none },
  { cls := 9, slots := #[.long (-46)], vm := .none },
  { cls := 9, slots := #[.long (-45)], vm := .none },
  { cls := 9, slots := #[.long (-44)], vm := .none },
  { cls := 9, slots := #[.long (-43)], vm := .none },
  { cls := 9, slots := #[.long (-42)], vm := .none },
  { cls := 9, slots := #[.long (-41)], vm := .none },
  { cls := 9, slots := #[.long (-40)], vm := .none },
  { cls := 9, slots := #[.long (-39)], vm := .none },
  { cls := 9, slots := #[.long (-38)], vm := .none },
  { cls := 9, slots := #[.long (-37)], vm := .none },
  { cls := 9, slots := #[.long (-36)], vm := .none },
  { cls := 9, slots := #[.long (-35)], vm := .none },
  { cls := 9, slots := #[.long (-34)], vm := .none },
  { cls := 9, slots := #[.long (-33)], vm := .none },
  { cls := 9, slots := #[.long (-32)], vm := .none },
  { cls := 9, slots := #[.long (-31)], vm := .none },
  { cls := 9, slots := #[.long (-30)], vm := .none },
  { cls := 9, slots := #[.long (-29)], vm := .none },
  { cls := 9, slots := #[.long (-28)], vm := .none },
  { cls := 9, slots := #[.long (-27)], vm := .none },
  { cls := 9, slots := #[.long (-26)], vm := .none },
  { cls := 9, slots := #[.long (-25)], vm := .none },
  { cls := 9, slots := #[.long (-24)], vm := .none },
  { cls := 9, slots := #[.long (-23)], vm := .none },
  { cls := 9, slots := #[.long (-22)], vm := .none },
  { cls := 9, slots := #[.long (-21)], vm := .none },
  { cls := 9, slots := #[.long (-20)], vm := .none },
  { cls := 9, slots := #[.long (-19)], vm := .none },
  { cls := 9, slots := #[.long (-18)], vm := .none },
  { cls := 9, slots := #[.long (-17)], vm := .none },
  { cls := 9, slots := #[.long (-16)], vm := .none },
  { cls := 9, slots := #[.long (-15)], vm := .none },
  { cls := 9, slots := #[.long (-14)], vm := .none },
  { cls := 9, slots := #[.long (-13)], vm := .none },
  { cls := 9, slots := #[.long (-12)], vm := .none },
  { cls := 9, slots := #[.long (-11)], vm := .none },
  { cls := 9, slots := #[.long (-10)], vm := .none },
  { cls := 9, slots := #[.long (-9)], vm := .none },
  { cls := 9, slots := #[.long (-8)], vm := .none },
  { cls := 9, slots := #[.long (-7)], vm := .none },
  { cls := 9, slots := #[.long (-6)], vm := .none },
  { cls := 9, slots := #[.long (-5)], vm := .none },
  { cls := 9, slots := #[.long (-4)], vm := .none },
  { cls := 9, slots := #[.long (-3)], vm := .none },
  { cls := 9, slots := #[.long (-2)], vm := .none },
  { cls := 9, slots := #[.long (-1)], vm := .none },
  { cls := 9, slots := #[.long 0], vm := .none },
  { cls := 9, slots := #[.long 1], vm := .none },
  { cls := 9, slots := #[.long 2], vm := .none },
  { cls := 9, slots := #[.long 3], vm := .none },
  { cls := 9, slots := #[.long 4], vm := .none },
  { cls := 9, slots := #[.long 5], vm := .none },
  { cls := 9, slots := #[.long 6], vm := .none },
  { cls := 9, slots := #[.long 7], vm := .none },
  { cls := 9, slots := #[.long 8], vm := .none },
  { cls := 9, slots := #[.long 9], vm := .none },
  { cls := 9, slots := #[.long 10], vm := .none },
  { cls := 9, slots := #[.long 11], vm := .none },
  { cls := 9, slots := #[.long 12], vm := .none },
  { cls := 9, slots := #[.long 13], vm := .none },
  { cls := 9, slots := #[.long 14], vm := .none },
  { cls := 9, slots := #[.long 15], vm := .none },
  { cls := 9, slots := #[.long 16], vm := .none },
  { cls := 9, slots := #[.long 17], vm := .none },
  { cls := 9, slots := #[.long 18], vm := .none },
  { cls := 9, slots := #[.long 19], vm := .none },
  { cls := 9, slots := #[.long 20], vm := .none },
  { cls := 9, slots := #[.long 21], vm := .none },
  { cls := 9, slots := #[.long 22], vm := .none },
  { cls := 9, slots := #[.long 23], vm := .none },
  { cls := 9, slots := #[.long 24], vm := .none },
  { cls := 9, slots := #[.long 25], vm := .none },
  { cls := 9, slots := #[.long 26], vm := .none },
  { cls := 9, slots := #[.long 27], vm := .none },
  { cls := 9, slots := #[.long 28], vm := .none },
  { cls := 9, slots := #[.long 29], vm := .none },
  { cls := 9, slots := #[.long 30], vm := .none },
  { cls := 9, slots := #[.long 31], vm := .none },
  { cls := 9, slots := #[.long 32], vm := .none },
  { cls := 9, slots := #[.long 33], vm := .none },
  { cls := 9, slots := #[.long 34], vm := .none },
  { cls := 9, slots := #[.long 35], vm := .none },
  { cls := 9, slots := #[.long 36], vm := .none },
  { cls := 9, slots := #[.long 37], vm := .none },
  { cls := 9, slots := #[.long 38], vm := .none },
  { cls := 9, slots := #[.long 39], vm := .none },
  { cls := 9, slots := #[.long 40], vm := .none },
  { cls := 9, slots := #[.long 41], vm := .none },
  { cls := 9, slots := #[.long 42], vm := .none },
  { cls := 9, slots := #[.long 43], vm := .none },
  { cls := 9, slots := #[.long 44], vm := .none },
  { cls := 9, slots := #[.long 45], vm := .none },
  { cls := 9, slots := #[.long 46], vm := .none },
  { cls := 9, slots := #[.long 47], vm := .none },
  { cls := 9, slots := #[.long 48], vm := .none },
  { cls := 9, slots := #[.long 49], vm := .none },
  { cls := 9, slots := #[.long 50], vm := .none },
  { cls := 9, slots := #[.long 51], vm := .none },
  { cls := 9, slots := #[.long 52], vm := .none },
  { cls := 9, slots := #[.long 53], vm := .none },
  { cls := 9, slots := #[.long 54], vm := .none },
  { cls := 9, slots := #[.long 55], vm := .none },
  { cls := 9, slots := #[.long 56], vm := .none },
  { cls := 9, slots := #[.long 57], vm := .none },
  { cls := 9, slots := #[.long 58], vm := .none },
  { cls := 9, slots := #[.long 59], vm := .none },
  { cls := 9, slots := #[.long 60], vm := .none },
  { cls := 9, slots := #[.long 61], vm := .none },
  { cls := 9, slots := #[.long 62], vm := .none },
  { cls := 9, slots := #[.long 63], vm := .none },
  { cls := 9, slots := #[.long 64], vm := .none },
  { cls := 9, slots := #[.long 65], vm := .none },
  { cls := 9, slots := #[.long 66], vm := .none },
  { cls := 9, slots := #[.long 67], vm := .none },
  { cls := 9, slots := #[.long 68], vm := .none },
  { cls := 9, slots := #[.long 69], vm := .none },
  { cls := 9, slots := #[.long 70], vm := .none },
  { cls := 9, slots := #[.long 71], vm := .none },
  { cls := 9, slots := #[.long 72], vm := .none },
  { cls := 9, slots := #[.long 73], vm := .none },
  { cls := 9, slots := #[.long 74], vm := .none },
  { cls := 9, slots := #[.long 75], vm := .none },
  { cls := 9, slots := #[.long 76], vm := .none },
  { cls := 9, slots := #[.long 77], vm := .none },
  { cls := 9, slots := #[.long 78], vm := .none },
  { cls := 9, slots := #[.long 79], vm := .none },
  { cls := 9, slots := #[.long 80], vm := .none },
  { cls := 9, slots := #[.long 81], vm := .none },
  { cls := 9, slots := #[.long 82], vm := .none },
  { cls := 9, slots := #[.long 83], vm := .none },
  { cls := 9, slots := #[.long 84], vm := .none },
  { cls := 9, slots := #[.long 85], vm := .none },
  { cls := 9, slots := #[.long 86], vm := .none },
  { cls := 9, slots := #[.long 87], vm := .none },
  { cls := 9, slots := #[.long 88], vm := .none },
  { cls := 9, slots := #[.long 89], vm := .none },
  { cls := 9, slots := #[.long 90], vm := .none },
  { cls := 9, slots := #[.long 91], vm := .none },
  { cls := 9, slots := #[.long 92], vm := .none },
  { cls := 9, slots := #[.long 93], vm := .none },
  { cls := 9, slots := #[.long 94], vm := .none },
  { cls := 9, slots := #[.long 95], vm := .none },
  { cls := 9, slots := #[.long 96], vm := .none },
  { cls := 9, slots := #[.long 97], vm := .none },
  { cls := 9, slots := #[.long 98], vm := .none },
  { cls := 9, slots := #[.long 99], vm := .none },
  { cls := 9, slots := #[.long 100], vm := .none },
  { cls := 9, slots := #[.long 101], vm := .none },
  { cls := 9, slots := #[.long 102], vm := .none },
  { cls := 9, slots := #[.long 103], vm := .none },
  { cls := 9, slots := #[.long 104], vm := .none },
  { cls := 9, slots := #[.long 105], vm := .none },
  { cls := 9, slots := #[.long 106], vm := .none },
  { cls := 9, slots := #[.long 107], vm := .none },
  { cls := 9, slots := #[.long 108], vm := .none },
  { cls := 9, slots := #[.long 109], vm := .none },
  { cls := 9, slots := #[.long 110], vm := .none },
  { cls := 9, slots := #[.long 111], vm := .none },
  { cls := 9, slots := #[.long 112], vm := .none },
  { cls := 9, slots := #[.long 113], vm := .none },
  { cls := 9, slots := #[.long 114], vm := .none },
  { cls := 9, slots := #[.long 115], vm := .none },
  { cls := 9, slots := #[.long 116], vm := .none },
  { cls := 9, slots := #[.long 117], vm := .none },
  { cls := 9, slots := #[.long 118], vm := .none },
  { cls := 9, slots := #[.long 119], vm := .none },
  { cls := 9, slots := #[.long 120], vm := .none },
  { cls := 9, slots := #[.long 121], vm := .none },
  { cls := 9, slots := #[.long 122], vm := .none },
  { cls := 9, slots := #[.long 123], vm := .none },
  { cls := 9, slots := #[.long 124], vm := .none },
  { cls := 9, slots := #[.long 125], vm := .none },
  { cls := 9, slots := #[.long 126], vm := .none },
  { cls := 9, slots := #[.long 127], vm := .none },
  { cls := 14, slots := #[.int (-128)], vm := .none },
  { cls := 14, slots := #[.int (-127)], vm := .none },
  { cls := 14, slots := #[.int (-126)], vm := .none },
  { cls := 14, slots := #[.int (-125)], vm := .none },
  { cls := 14, slots := #[.int (-124)], vm := .none },
  { cls := 14, slots := #[.int (-123)], vm := .none },
  { cls := 14, slots := #[.int (-122)], vm := .none },
  { cls := 14, slots := #[.int (-121)], vm := .none },
  { cls := 14, slots := #[.int (-120)], vm := .none },
  { cls := 14, slots := #[.int (-119)], vm := .none },
  { cls := 14, slots := #[.int (-118)], vm := .none },
  { cls := 14, slots := #[.int (-117)], vm := .none },
  { cls := 14, slots := #[.int (-116)], vm := .none },
  { cls := 14, slots := #[.int (-115)], vm := .none },
  { cls := 14, slots := #[.int (-114)], vm := .none },
  { cls := 14, slots := #[.int (-113)], vm := .none },
  { cls := 14, slots := #[.int (-112)], vm := .none },
  { cls := 14, slots := #[.int (-111)], vm := .none },
  { cls := 14, slots := #[.int (-110)], vm := .none },
  { cls := 14, slots := #[.int (-109)], vm := .none },
  { cls := 14, slots := #[.int (-108)], vm := .none },
  { cls := 14, slots := #[.int (-107)], vm := .none },
  { cls := 14, slots := #[.int (-106)], vm := .none },
  { cls := 14, slots := #[.int (-105)], vm := .none },
  { cls := 14, slots := #[.int (-104)], vm := .none },
  { cls := 14, slots := #[.int (-103)], vm := .none },
  { cls := 14, slots := #[.int (-102)], vm := .none },
  { cls := 14, slots := #[.int (-101)], vm := .none },
  { cls := 14, slots := #[.int (-100)], vm := .none },
  { cls := 14, slots := #[.int (-99)], vm := .none },
  { cls := 14, slots := #[.int (-98)], vm := .none },
  { cls := 14, slots := #[.int (-97)], vm := .none },
  { cls := 14, slots := #[.int (-96)], vm := .none },
  { cls := 14, slots := #[.int (-95)], vm := .none },
  { cls := 14, slots := #[.int (-94)], vm := .none },
  { cls := 14, slots := #[.int (-93)], vm := .none },
  { cls := 14, slots := #[.int (-92)], vm := .none },
  { cls := 14, slots := #[.int (-91)], vm := .none },
  { cls := 14, slots := #[.int (-90)], vm := .none },
  { cls := 14, slots := #[.int (-89)], vm := .none },
  { cls := 14, slots := #[.int (-88)], vm := .none },
  { cls := 14, slots := #[.int (-87)], vm := .none },
  { cls := 14, slots := #[.int (-86)], vm := .none },
  { cls := 14, slots := #[.int (-85)], vm := .none },
  { cls := 14, slots := #[.int (-84)], vm := .none },
  { cls := 14, slots := #[.int (-83)], vm := .none },
  { cls := 14, slots := #[.int (-82)], vm := .none },
  { cls := 14, slots := #[.int (-81)], vm := .none },
  { cls := 14, slots := #[.int (-80)], vm := .none },
  { cls := 14, slots := #[.int (-79)], vm := .none },
  { cls := 14, slots := #[.int (-78)], vm := .none },
  { cls := 14, slots := #[.int (-77)], vm := .none },
  { cls := 14, slots := #[.int (-76)], vm := .none },
  { cls := 14, slots := #[.int (-75)], vm := .none },
  { cls := 14, slots := #[.int (-74)], vm := .none },
  { cls := 14, slots := #[.int (-73)], vm := .none },
  { cls := 14, slots := #[.int (-72)], vm := .none },
  { cls := 14, slots := #[.int (-71)], vm := .none },
  { cls := 14, slots := #[.int (-70)], vm := .none },
  { cls := 14, slots := #[.int (-69)], vm := .none },
  { cls := 14, slots := #[.int (-68)], vm := .none },
  { cls := 14, slots := #[.int (-67)], vm := .none },
  { cls := 14, slots := #[.int (-66)], vm := .none },
  { cls := 14, slots := #[.int (-65)], vm := .none },
  { cls := 14, slots := #[.int (-64)], vm := .none },
  { cls := 14, slots := #[.int (-63)], vm := .none },
  { cls := 14, slots := #[.int (-62)], vm := .none },
  { cls := 14, slots := #[.int (-61)], vm := .none },
  { cls := 14, slots := #[.int (-60)], vm := .none },
  { cls := 14, slots := #[.int (-59)], vm := .none },
  { cls := 14, slots := #[.int (-58)], vm := .none },
  { cls := 14, slots := #[.int (-57)], vm := .none },
  { cls := 14, slots := #[.int (-56)], vm := .none },
  { cls := 14, slots := #[.int (-55)], vm := .none },
  { cls := 14, slots := #[.int (-54)], vm := .none },
  { cls := 14, slots := #[.int (-53)], vm := .none },
  { cls := 14, slots := #[.int (-52)], vm := .none },
  { cls := 14, slots := #[.int (-51)], vm := .none },
  { cls := 14, slots := #[.int (-50)], vm := .none },
  { cls := 14, slots := #[.int (-49)], vm := .none },
  { cls := 14, slots := #[.int (-48)], vm := .none },
  { cls := 14, slots := #[.int (-47)], vm := .none },
  { cls := 14, slots := #[.int (-46)], vm := .none },
  { cls := 14, slots := #[.int (-45)], vm := .none },
  { cls := 14, slots := #[.int (-44)], vm := .none },
  { cls := 14, slots := #[.int (-43)], vm := .none },
  { cls := 14, slots := #[.int (-42)], vm := .none },
  { cls := 14, slots := #[.int (-41)], vm := .none },
  { cls := 14, slots := #[.int (-40)], vm := .none },
  { cls := 14, slots := #[.int (-39)], vm := .none },
  { cls := 14, slots := #[.int (-38)], vm := .none },
  { cls := 14, slots := #[.int (-37)], vm := .none },
  { cls := 14, slots := #[.int (-36)], vm := .none },
  { cls := 14, slots := #[.int (-35)], vm := .none },
  { cls := 14, slots := #[.int (-34)], vm := .none },
  { cls := 14, slots := #[.int (-33)], vm := .none },
  { cls := 14, slots := #[.int (-32)], vm := .none },
  { cls := 14, slots := #[.int (-31)], vm := .none },
  { cls := 14, slots := #[.int (-30)], vm := .none },
  { cls := 14, slots := #[.int (-29)], vm := .none },
  { cls := 14, slots := #[.int (-28)], vm := .none },
  { cls := 14, slots := #[.int (-27)], vm := .none },
  { cls := 14, slots := #[.int (-26)], vm := .none },
  { cls := 14, slots := #[.int (-25)], vm := .none },
  { cls := 14, slots := #[.int (-24)], vm := .none },
  { cls := 14, slots := #[.int (-23)], vm := .none },
  { cls := 14, slots := #[.int (-22)], vm := .none },
  { cls := 14, slots := #[.int (-21)], vm := .none },
  { cls := 14, slots := #[.int (-20)], vm := .none },
  { cls := 14, slots := #[.int (-19)], vm := .none },
  { cls := 14, slots := #[.int (-18)], vm := .none },
  { cls := 14, slots := #[.int (-17)], vm := .none },
  { cls := 14, slots := #[.int (-16)], vm := .none },
  { cls := 14, slots := #[.int (-15)], vm := .none },
  { cls := 14, slots := #[.int (-14)], vm := .none },
  { cls := 14, slots := #[.int (-13)], vm := .none },
  { cls := 14, slots := #[.int (-12)], vm := .none },
  { cls := 14, slots := #[.int (-11)], vm := .none },
  { cls := 14, slots := #[.int (-10)], vm := .none },
  { cls := 14, slots := #[.int (-9)], vm := .none },
  { cls := 14, slots := #[.int (-8)], vm := .none },
  { cls := 14, slots := #[.int (-7)], vm := .none },
  { cls := 14, slots := #[.int (-6)], vm := .none },
  { cls := 14, slots := #[.int (-5)], vm := .none },
  { cls := 14, slots := #[.int (-4)], vm := .none },
  { cls := 14, slots := #[.int (-3)], vm := .none },
  { cls := 14, slots := #[.int (-2)], vm := .none },
  { cls := 14, slots := #[.int (-1)], vm := .none },
  { cls := 14, slots := #[.int 0], vm := .none },
  { cls := 14, slots := #[.int 1], vm := .none },
  { cls := 14, slots := #[.int 2], vm := .none },
  { cls := 14, slots := #[.int 3], vm := .none },
  { cls := 14, slots := #[.int 4], vm := .none },
  { cls := 14, slots := #[.int 5], vm := .none },
  { cls := 14, slots := #[.int 6], vm := .none },
  { cls := 14, slots := #[.int 7], vm := .none },
  { cls := 14, slots := #[.int 8], vm := .none },
  { cls := 14, slots := #[.int 9], vm := .none },
  { cls := 14, slots := #[.int 10], vm := .none },
  { cls := 14, slots := #[.int 11], vm := .none },
  { cls := 14, slots := #[.int 12], vm := .none },
  { cls := 14, slots := #[.int 13], vm := .none },
  { cls := 14, slots := #[.int 14], vm := .none },
  { cls := 14, slots := #[.int 15], vm := .none },
  { cls := 14, slots := #[.int 16], vm := .none },
  { cls := 14, slots := #[.int 17], vm := .none },
  { cls := 14, slots := #[.int 18], vm := .none },
  { cls := 14, slots := #[.int 19], vm := .none },
  { cls := 14, slots := #[.int 20], vm := .none },
  { cls := 14, slots := #[.int 21], vm := .none },
  { cls := 14, slots := #[.int 22], vm := .none },
  { cls := 14, slots := #[.int 23], vm := .none },
  { cls := 14, slots := #[.int 24], vm := .none },
  { cls := 14, slots := #[.int 25], vm := .none },
  { cls := 14, slots := #[.int 26], vm := .none },
  { cls := 14, slots := #[.int 27], vm := .none },
  { cls := 14, slots := #[.int 28], vm := .none },
  { cls := 14, slots := #[.int 29], vm := .none },
  { cls := 14, slots := #[.int 30], vm := .none },
  { cls := 14, slots := #[.int 31], vm := .none },
  { cls := 14, slots := #[.int 32], vm := .none },
  { cls := 14, slots := #[.int 33], vm := .none },
  { cls := 14, slots := #[.int 34], vm := .none },
  { cls := 14, slots := #[.int 35], vm := .none },
  { cls := 14, slots := #[.int 36], vm := .none },
  { cls := 14, slots := #[.int 37], vm := .none },
  { cls := 14, slots := #[.int 38], vm := .none },
  { cls := 14, slots := #[.int 39], vm := .none },
  { cls := 14, slots := #[.int 40], vm := .none },
  { cls := 14, slots := #[.int 41], vm := .none },
  { cls := 14, slots := #[.int 42], vm := .none },
  { cls := 14, slots := #[.int 43], vm := .none },
  { cls := 14, slots := #[.int 44], vm := .none },
  { cls := 14, slots := #[.int 45], vm := .none },
  { cls := 14, slots := #[.int 46], vm := .none },
  { cls := 14, slots := #[.int 47], vm := .none },
  { cls := 14, slots := #[.int 48], vm := .none },
  { cls := 14, slots := #[.int 49], vm := .none },
  { cls := 14, slots := #[.int 50], vm := .none },
  { cls := 14, slots := #[.int 51], vm := .none },
  { cls := 14, slots := #[.int 52], vm := .none },
  { cls := 14, slots := #[.int 53], vm := .none },
  { cls := 14, slots := #[.int 54], vm := .none },
  { cls := 14, slots := #[.int 55], vm := .none },
  { cls := 14, slots := #[.int 56], vm := .none },
  { cls := 14, slots := #[.int 57], vm := .none },
  { cls := 14, slots := #[.int 58], vm := .none },
  { cls := 14, slots := #[.int 59], vm := .none },
  { cls := 14, slots := #[.int 60], vm := .none },
  { cls := 14, slots := #[.int 61], vm := .none },
  { cls := 14, slots := #[.int 62], vm := .none },
  { cls := 14, slots := #[.int 63], vm := .none },
  { cls := 14, slots := #[.int 64], vm := .none },
  { cls := 14, slots := #[.int 65], vm := .none },
  { cls := 14, slots := #[.int 66], vm := .none },
  { cls := 14, slots := #[.int 67], vm := .none },
  { cls := 14, slots := #[.int 68], vm := .none },
  { cls := 14, slots := #[.int 69], vm := .none },
  { cls := 14, slots := #[.int 70], vm := .none },
  { cls := 14, slots := #[.int 71], vm := .none },
  { cls := 14, slots := #[.int 72], vm := .none },
  { cls := 14, slots := #[.int 73], vm := .none },
  { cls := 14, slots := #[.int 74], vm := .none },
  { cls := 14, slots := #[.int 75], vm := .none },
  { cls := 14, slots := #[.int 76], vm := .none },
  { cls := 14, slots := #[.int 77], vm := .none },
  { cls := 14, slots := #[.int 78], vm := .none },
  { cls := 14, slots := #[.int 79], vm := .none },
  { cls := 14, slots := #[.int 80], vm := .none },
  { cls := 14, slots := #[.int 81], vm := .none },
  { cls := 14, slots := #[.int 82], vm := .none },
  { cls := 14, slots := #[.int 83], vm := .none },
  { cls := 14, slots := #[.int 84], vm := .none },
  { cls := 14, slots := #[.int 85], vm := .none },
  { cls := 14, slots := #[.int 86], vm := .none },
  { cls := 14, slots := #[.int 87], vm := .none },
  { cls := 14, slots := #[.int 88], vm := .none },
  { cls := 14, slots := #[.int 89], vm := .none },
  { cls := 14, slots := #[.int 90], vm := .none },
  { cls := 14, slots := #[.int 91], vm := .none },
  { cls := 14, slots := #[.int 92], vm := .none },
  { cls := 14, slots := #[.int 93], vm := .none },
  { cls := 14, slots := #[.int 94], vm := .none },
  { cls := 14, slots := #[.int 95], vm := .none },
  { cls := 14, slots := #[.int 96], vm := .none },
  { cls := 14, slots := #[.int 97], vm := .none },
  { cls := 14, slots := #[.int 98], vm := .none },
  { cls := 14, slots := #[.int 99], vm := .none },
  { cls := 14, slots := #[.int 100], vm := .none },
  { cls := 14, slots := #[.int 101], vm := .none },
  { cls := 14, slots := #[.int 102], vm := .none },
  { cls := 14, slots := #[.int 103], vm := .none },
  { cls := 14, slots := #[.int 104], vm := .none },
  { cls := 14, slots := #[.int 105], vm := .none },
  { cls := 14, slots := #[.int 106], vm := .none },
  { cls := 14, slots := #[.int 107], vm := .none },
  { cls := 14, slots := #[.int 108], vm := .none },
  { cls := 14, slots := #[.int 109], vm := .none },
  { cls := 14, slots := #[.int 110], vm := .none },
  { cls := 14, slots := #[.int 111], vm := .none },
  { cls := 14, slots := #[.int 112], vm := .none },
  { cls := 14, slots := #[.int 113], vm := .none },
  { cls := 14, slots := #[.int 114], vm := .none },
  { cls := 14, slots := #[.int 115], vm := .none },
  { cls := 14, slots := #[.int 116], vm := .none },
  { cls := 14, slots := #[.int 117], vm := .none },
  { cls := 14, slots := #[.int 118], vm := .none },
  { cls := 14, slots := #[.int 119], vm := .none },
  { cls := 14, slots := #[.int 120], vm := .none },
  { cls := 14, slots := #[.int 121], vm := .none },
  { cls := 14, slots := #[.int 122], vm := .none },
  { cls := 14, slots := #[.int 123], vm := .none },
  { cls := 14, slots := #[.int 124], vm := .none },
  { cls := 14, slots := #[.int 125], vm := .none },
  { cls := 14, slots := #[.int 126], vm := .none },
  { cls := 14, slots := #[.int 127], vm := .none },
  { cls := 13, slots := #[.null], vm := .none }]
def classes : Array Class := #[k0, k1, k2, k3, k4, k5, k6, k7, k8, k9, k10, k11, k12, k13, k14, k15, k16, k17, k18, k19, k20, k21, k22, k23, k24, k25, k26, k27, k28]
def interned : List (Array UInt16 × Addr) := []
def slotsUsed : Nat := 1044
def theMethod : MethodId := ⟨1, 2⟩
def args0 : Array Value := #[.int 5, .int 6, .long 5]
def aboutOver (below : List Frame) : State where
  vm := { classes := classes, interned := interned.toArray }
  heap := heap
  slotsUsed := slotsUsed
  threads := #[{ frames := .invoking theMethod args0 :: below }]
def below0 : List Frame := [.native { method := ⟨0, 0⟩, args := #[] }]
def about1 : State := aboutOver below0
def p0 : Program := .bare "" "" ""
def e0 : Env := launch0.env 0 0 0
theorem w_frames : about1.frames = Frame.invoking theMethod args0 :: below0 := rfl
set_option maxRecDepth 65536 in
theorem w_args : argsFit about1.vm theMethod args0 = true := by decide +kernel
set_option maxRecDepth 65536 in
theorem w_heap : heapFits about1 = true := by decide +kernel
set_option maxRecDepth 65536 in
theorem w_runnable : about1.curStatus? = some .runnable := by decide +kernel
set_option maxRecDepth 65536 in
theorem w_alone : about1.alone = true := by decide +kernel
set_option maxRecDepth 65536 in
theorem w_named : about1.methodNamed? x = some theMethod := by decide +kernel
set_option maxRecDepth 65536 in
theorem w_hears : about1.hears theMethod below0 = true := by decide +kernel
set_option maxRecDepth 65536 in
theorem w_ripe : about1.ripe theMethod args0 below0 = true := by decide +kernel
theorem w_running : about1.status = .running := rfl
set_option maxRecDepth 65536 in
theorem w_room : about1.hasRoom e0.platform room_1 = true :=
  launch0.hasRoom_least _ room_1 (by decide +kernel) (by decide +kernel) (by decide +kernel) (by decide +kernel) (by decide +kernel) (by decide +kernel)
theorem allAtoms_all (ts : List Jvm.Cond) (a : Array Jvm.Value) (st : Jvm.State) : (allAtoms ts).before a st = ts.all (fun c => c.before a st) := by
  induction ts with
  | nil => rfl
  | cons c t ih =>
    show (Jvm.Cond.and c (allAtoms t)).before a st = _
    rw [Jvm.Cond.before_and, ih, List.all_cons]
def words1 : List Jvm.Cond := Jvm.Cond.code x code maxLocals ret :: tables_1
/-- a 'code' word, met by the world's own term for the bytes: nothing is compared byte by byte -/
theorem code_word {y : MethodName} {bytes : ByteArray} {mx : Nat} {rt : Option FieldType} {a : Array Value} {s : State} {m : MethodId} {meth : Method} {c : Code} (h1 : s.methodNamed? y = some m) (h2 : s.vm.method? m = some meth) (h3 : meth.code = some c) (h4 : c.code = bytes)
    (h5 : (c.maxLocals == mx && c.exceptionTable.isEmpty && decide (c.maxStack ≤ mostOperands) && decide (meth.sig.returnType = rt) && !meth.locks && decide (parseMethodDescriptor y.desc = some meth.sig)) = true) : (Jvm.Cond.code y bytes mx rt).before a s = true := by
  simp only [Bool.and_eq_true, beq_iff_eq, Bool.not_eq_true', decide_eq_true_eq] at h5
  obtain ⟨⟨⟨⟨⟨g1, g2⟩, g3⟩, g4⟩, g5⟩, g6⟩ := h5
  simp [Cond.before, Cond.holds, Cond.value, h1, h2, h3, h4, g1, g2, g3, g4, g5, g6]
def isCode : Jvm.Cond → Bool
  | .code _ _ _ _ => true
  | _ => false
theorem all_split {L : List Jvm.Cond} {P : Jvm.Cond → Bool} (h1 : L.all (fun c => isCode c || P c) = true) (h2 : ∀ c ∈ L.filter isCode, P c = true) : L.all P = true := by
  refine List.all_eq_true.mpr fun c hc => ?_
  have h := List.all_eq_true.mp h1 c hc
  rcases Bool.eq_false_or_eq_true (isCode c) with hi | hi
  · exact h2 c (List.mem_filter.mpr ⟨hc, hi⟩)
  · simpa [hi] using h
set_option maxRecDepth 65536 in
theorem w_c0 : (Jvm.Cond.code x code maxLocals ret).before args0 about1 = true := code_word (m := ⟨1, 2⟩) (meth := k1m2) (c := k1c2) (by decide +kernel) rfl rfl rfl (by decide +kernel)
set_option maxRecDepth 65536 in
theorem w_c1 : (Jvm.Cond.code ({ cls := "com/example/ripieno/ripieno/engine/HandlerResultSuccessPinLaw", name := "text", desc := "(ICCC)Ljava/lang/String;" } : Jvm.MethodName) method_2_code (4 : Nat) (Option.some (Jvm.ClassFile.FieldType.object "java/lang/String"))).before args0 about1 = true := code_word (m := ⟨1, 1⟩) (meth := k1m1) (c := k1c1) (by decide +kernel) rfl rfl rfl (by decide +kernel)
set_option maxRecDepth 65536 in
theorem w_c2 : (Jvm.Cond.code ({ cls := "java/lang/String", name := "<init>", desc := "([C)V" } : Jvm.MethodName) jdk_42_method_3_code (2 : Nat) (Option.none : Option Jvm.ClassFile.FieldType)).before args0 about1 = true := code_word (m := ⟨7, 1⟩) (meth := k7m1) (c := k7c1) (by decide +kernel) rfl rfl rfl (by decide +kernel)
set_option maxRecDepth 65536 in
theorem w_c3 : (Jvm.Cond.code ({ cls := "java/lang/String", name := "<init>", desc := "([CIILjava/lang/Void;)V" } : Jvm.MethodName) jdk_42_method_149_code (6 : Nat) (Option.none : Option Jvm.ClassFile.FieldType)).before args0 about1 = true := code_word (m := ⟨7, 2⟩) (meth := k7m2) (c := k7c2) (by decide +kernel) rfl rfl rfl (by decide +kernel)
set_option maxRecDepth 65536 in
theorem w_c4 : (Jvm.Cond.code ({ cls := "java/lang/Object", name := "<init>", desc := "()V" } : Jvm.MethodName) object_method_1_code (1 : Nat) (Option.none : Option Jvm.ClassFile.FieldType)).before args0 about1 = true := code_word (m := ⟨0, 0⟩) (meth := k0m0) (c := k0c0) (by decide +kernel) rfl rfl rfl (by decide +kernel)
set_option maxRecDepth 65536 in
theorem w_c5 : (Jvm.Cond.code ({ cls := "java/lang/Long", name := "valueOf", desc := "(J)Ljava/lang/Long;" } : Jvm.MethodName) jdk_35_method_24_code (3 : Nat) (Option.some (Jvm.ClassFile.FieldType.object "java/lang/Long"))).before args0 about1 = true := code_word (m := ⟨9, 0⟩) (meth := k9m0) (c := k9c0) (by decide +kernel) rfl rfl rfl (by decide +kernel)
set_option maxRecDepth 65536 in
theorem w_c6 : (Jvm.Cond.code ({ cls := "com/example/ripieno/ripieno/engine/HandlerResult", name := "success", desc := "(Ljava/lang/String;Ljava/lang/Object;)Lcom/example/ripieno/ripieno/engine/HandlerResult;" } : Jvm.MethodName) prog_33_method_3_code (2 : Nat) (Option.some (Jvm.ClassFile.FieldType.object "com/example/ripieno/ripieno/engine/HandlerResult"))).before args0 about1 = true := code_word (m := ⟨11, 1⟩) (meth := k11m1) (c := k11c1) (by decide +kernel) rfl rfl rfl (by decide +kernel)
set_option maxRecDepth 65536 in
theorem w_c7 : (Jvm.Cond.code ({ cls := "java/util/Objects", name := "requireNonNull", desc := "(Ljava/lang/Object;Ljava/lang/String;)Ljava/lang/Object;" } : Jvm.MethodName) jdk_31_method_11_code (2 : Nat) (Option.some (Jvm.ClassFile.FieldType.object "java/lang/Object"))).before args0 about1 = true := code_word (m := ⟨12, 1⟩) (meth := k12m1) (c := k12c1) (by decide +kernel) rfl rfl rfl (by decide +kernel)
set_option maxRecDepth 65536 in
theorem w_c8 : (Jvm.Cond.code ({ cls := "com/example/ripieno/ripieno/engine/HandlerResult", name := "<init>", desc := "(ZLjava/lang/String;Ljava/lang/Object;Ljava/lang/Exception;)V" } : Jvm.MethodName) prog_33_method_1_code (5 : Nat) (Option.none : Option Jvm.ClassFile.FieldType)).before args0 about1 = true := code_word (m := ⟨11, 0⟩) (meth := k11m0) (c := k11c0) (by decide +kernel) rfl rfl rfl (by decide +kernel)
set_option maxRecDepth 65536 in
theorem w_c9 : (Jvm.Cond.code ({ cls := "com/example/ripieno/ripieno/engine/HandlerResult", name := "isSuccess", desc := "()Z" } : Jvm.MethodName) prog_33_method_7_code (1 : Nat) (Option.some Jvm.ClassFile.FieldType.boolean)).before args0 about1 = true := code_word (m := ⟨11, 2⟩) (meth := k11m2) (c := k11c2) (by decide +kernel) rfl rfl rfl (by decide +kernel)
set_option maxRecDepth 65536 in
theorem w_c10 : (Jvm.Cond.code ({ cls := "com/example/ripieno/ripieno/engine/HandlerResult", name := "text", desc := "()Ljava/lang/String;" } : Jvm.MethodName) prog_33_method_8_code (1 : Nat) (Option.some (Jvm.ClassFile.FieldType.object "java/lang/String"))).before args0 about1 = true := code_word (m := ⟨11, 3⟩) (meth := k11m3) (c := k11c3) (by decide +kernel) rfl rfl rfl (by decide +kernel)
set_option maxRecDepth 65536 in
theorem w_c11 : (Jvm.Cond.code ({ cls := "com/example/ripieno/ripieno/engine/HandlerResult", name := "value", desc := "()Ljava/util/Optional;" } : Jvm.MethodName) prog_33_method_9_code (1 : Nat) (Option.some (Jvm.ClassFile.FieldType.object "java/util/Optional"))).before args0 about1 = true := code_word (m := ⟨11, 4⟩) (meth := k11m4) (c := k11c4) (by decide +kernel) rfl rfl rfl (by decide +kernel)
set_option maxRecDepth 65536 in
theorem w_c12 : (Jvm.Cond.code ({ cls := "java/util/Optional", name := "ofNullable", desc := "(Ljava/lang/Object;)Ljava/util/Optional;" } : Jvm.MethodName) jdk_32_method_4_code (1 : Nat) (Option.some (Jvm.ClassFile.FieldType.object "java/util/Optional"))).before args0 about1 = true := code_word (m := ⟨13, 1⟩) (meth := k13m1) (c := k13c1) (by decide +kernel) rfl rfl rfl (by decide +kernel)
set_option maxRecDepth 65536 in
theorem w_c13 : (Jvm.Cond.code ({ cls := "java/util/Optional", name := "<init>", desc := "(Ljava/lang/Object;)V" } : Jvm.MethodName) jdk_32_method_2_code (2 : Nat) (Option.none : Option Jvm.ClassFile.FieldType)).before args0 about1 = true := code_word (m := ⟨13, 0⟩) (meth := k13m0) (c := k13c0) (by decide +kernel) rfl rfl rfl (by decide +kernel)
set_option maxRecDepth 65536 in
theorem w_c14 : (Jvm.Cond.code ({ cls := "java/util/Optional", name := "isPresent", desc := "()Z" } : Jvm.MethodName) jdk_32_method_6_code (1 : Nat) (Option.some Jvm.ClassFile.FieldType.boolean)).before args0 about1 = true := code_word (m := ⟨13, 3⟩) (meth := k13m3) (c := k13c3) (by decide +kernel) rfl rfl rfl (by decide +kernel)
set_option maxRecDepth 65536 in
theorem w_c15 : (Jvm.Cond.code ({ cls := "java/util/Optional", name := "get", desc := "()Ljava/lang/Object;" } : Jvm.MethodName) jdk_32_method_5_code (1 : Nat) (Option.some (Jvm.ClassFile.FieldType.object "java/lang/Object"))).before args0 about1 = true := code_word (m := ⟨13, 2⟩) (meth := k13m2) (c := k13c2) (by decide +kernel) rfl rfl rfl (by decide +kernel)
set_option maxRecDepth 65536 in
theorem w_c16 : (Jvm.Cond.code ({ cls := "com/example/ripieno/ripieno/engine/HandlerResult", name := "cause", desc := "()Ljava/util/Optional;" } : Jvm.MethodName) prog_33_method_10_code (1 : Nat) (Option.some (Jvm.ClassFile.FieldType.object "java/util/Optional"))).before args0 about1 = true := code_word (m := ⟨11, 5⟩) (meth := k11m5) (c := k11c5) (by decide +kernel) rfl rfl rfl (by decide +kernel)
set_option maxRecDepth 65536 in
theorem w_c17 : (Jvm.Cond.code ({ cls := "java/lang/Integer", name := "valueOf", desc := "(I)Ljava/lang/Integer;" } : Jvm.MethodName) jdk_33_method_22_code (1 : Nat) (Option.some (Jvm.ClassFile.FieldType.object "java/lang/Integer"))).before args0 about1 = true := code_word (m := ⟨14, 0⟩) (meth := k14m0) (c := k14c0) (by decide +kernel) rfl rfl rfl (by decide +kernel)
set_option maxRecDepth 65536 in
theorem w_c18 : (Jvm.Cond.code ({ cls := "java/lang/StringUTF16", name := "compress", desc := "([CII)[B" } : Jvm.MethodName) jdk_52_method_16_code (6 : Nat) (Option.some (Jvm.ClassFile.FieldType.array Jvm.ClassFile.FieldType.byte))).before args0 about1 = true := code_word (m := ⟨16, 2⟩) (meth := k16m2) (c := k16c2) (by decide +kernel) rfl rfl rfl (by decide +kernel)
set_option maxRecDepth 65536 in
theorem w_c19 : (Jvm.Cond.code ({ cls := "java/lang/StringUTF16", name := "compress", desc := "([CI[BII)I" } : Jvm.MethodName) jdk_52_method_21_code (7 : Nat) (Option.some Jvm.ClassFile.FieldType.int)).before args0 about1 = true := code_word (m := ⟨16, 3⟩) (meth := k16m3) (c := k16c3) (by decide +kernel) rfl rfl rfl (by decide +kernel)
set_option maxRecDepth 65536 in
theorem w_c20 : (Jvm.Cond.code ({ cls := "java/lang/StringUTF16", name := "coderFromArrayLen", desc := "([BI)B" } : Jvm.MethodName) jdk_52_method_15_code (2 : Nat) (Option.some Jvm.ClassFile.FieldType.byte)).before args0 about1 = true := code_word (m := ⟨16, 1⟩) (meth := k16m1) (c := k16c1) (by decide +kernel) rfl rfl rfl (by decide +kernel)
set_option maxRecDepth 65536 in
theorem w_c21 : (Jvm.Cond.code ({ cls := "java/lang/Integer", name := "<init>", desc := "(I)V" } : Jvm.MethodName) jdk_33_method_23_code (2 : Nat) (Option.none : Option Jvm.ClassFile.FieldType)).before args0 about1 = true := code_word (m := ⟨14, 1⟩) (meth := k14m1) (c := k14c1) (by decide +kernel) rfl rfl rfl (by decide +kernel)
set_option maxRecDepth 65536 in
theorem w_c22 : (Jvm.Cond.code ({ cls := "java/lang/Number", name := "<init>", desc := "()V" } : Jvm.MethodName) jdk_18_method_1_code (1 : Nat) (Option.none : Option Jvm.ClassFile.FieldType)).before args0 about1 = true := code_word (m := ⟨8, 0⟩) (meth := k8m0) (c := k8c0) (by decide +kernel) rfl rfl rfl (by decide +kernel)
set_option maxRecDepth 65536 in
theorem w_c23 : (Jvm.Cond.code ({ cls := "java/lang/Long", name := "<init>", desc := "(J)V" } : Jvm.MethodName) jdk_35_method_26_code (3 : Nat) (Option.none : Option Jvm.ClassFile.FieldType)).before args0 about1 = true := code_word (m := ⟨9, 1⟩) (meth := k9m1) (c := k9c1) (by decide +kernel) rfl rfl rfl (by decide +kernel)
def codes1 : List Jvm.Cond := [Jvm.Cond.code x code maxLocals ret, Jvm.Cond.code ({ cls := "com/example/ripieno/ripieno/engine/HandlerResultSuccessPinLaw", name := "text", desc := "(ICCC)Ljava/lang/String;" } : Jvm.MethodName) method_2_code (4 : Nat) (Option.some (Jvm.ClassFile.FieldType.object "java/lang/String")), Jvm.Cond.code ({ cls := "java/lang/String", name := "<init>", desc := "([C)V" } : Jvm.MethodName) jdk_42_method_3_code (2 : Nat) (Option.none : Option Jvm.ClassFile.FieldType), Jvm.Cond.code ({ cls := "java/lang/String", name := "<init>", desc := "([CIILjava/lang/Void;)V" } : Jvm.MethodName) jdk_42_method_149_code (6 : Nat) (Option.none : Option Jvm.ClassFile.FieldType), Jvm.Cond.code ({ cls := "java/lang/Object", name := "<init>", desc := "()V" } : Jvm.MethodName) object_method_1_code (1 : Nat) (Option.none : Option Jvm.ClassFile.FieldType), Jvm.Cond.code ({ cls := "java/lang/Long", name := "valueOf", desc := "(J)Ljava/lang/Long;" } : Jvm.MethodName) jdk_35_method_24_code (3 : Nat) (Option.some (Jvm.ClassFile.FieldType.object "java/lang/Long")), Jvm.Cond.code ({ cls := "com/example/ripieno/ripieno/engine/HandlerResult", name := "success", desc := "(Ljava/lang/String;Ljava/lang/Object;)Lcom/example/ripieno/ripieno/engine/HandlerResult;" } : Jvm.MethodName) prog_33_method_3_code (2 : Nat) (Option.some (Jvm.ClassFile.FieldType.object "com/example/ripieno/ripieno/engine/HandlerResult")), Jvm.Cond.code ({ cls := "java/util/Objects", name := "requireNonNull", desc := "(Ljava/lang/Object;Ljava/lang/String;)Ljava/lang/Object;" } : Jvm.MethodName) jdk_31_method_11_code (2 : Nat) (Option.some (Jvm.ClassFile.FieldType.object "java/lang/Object")), Jvm.Cond.code ({ cls := "com/example/ripieno/ripieno/engine/HandlerResult", name := "<init>", desc := "(ZLjava/lang/String;Ljava/lang/Object;Ljava/lang/Exception;)V" } : Jvm.MethodName) prog_33_method_1_code (5 : Nat) (Option.none : Option Jvm.ClassFile.FieldType), Jvm.Cond.code ({ cls := "com/example/ripieno/ripieno/engine/HandlerResult", name := "isSuccess", desc := "()Z" } : Jvm.MethodName) prog_33_method_7_code (1 : Nat) (Option.some Jvm.ClassFile.FieldType.boolean), Jvm.Cond.code ({ cls := "com/example/ripieno/ripieno/engine/HandlerResult", name := "text", desc := "()Ljava/lang/String;" } : Jvm.MethodName) prog_33_method_8_code (1 : Nat) (Option.some (Jvm.ClassFile.FieldType.object "java/lang/String")), Jvm.Cond.code ({ cls := "com/example/ripieno/ripieno/engine/HandlerResult", name := "value", desc := "()Ljava/util/Optional;" } : Jvm.MethodName) prog_33_method_9_code (1 : Nat) (Option.some (Jvm.ClassFile.FieldType.object "java/util/Optional")), Jvm.Cond.code ({ cls := "java/util/Optional", name := "ofNullable", desc := "(Ljava/lang/Object;)Ljava/util/Optional;" } : Jvm.MethodName) jdk_32_method_4_code (1 : Nat) (Option.some (Jvm.ClassFile.FieldType.object "java/util/Optional")), Jvm.Cond.code ({ cls := "java/util/Optional", name := "<init>", desc := "(Ljava/lang/Object;)V" } : Jvm.MethodName) jdk_32_method_2_code (2 : Nat) (Option.none : Option Jvm.ClassFile.FieldType), Jvm.Cond.code ({ cls := "java/util/Optional", name := "isPresent", desc := "()Z" } : Jvm.MethodName) jdk_32_method_6_code (1 : Nat) (Option.some Jvm.ClassFile.FieldType.boolean), Jvm.Cond.code ({ cls := "java/util/Optional", name := "get", desc := "()Ljava/lang/Object;" } : Jvm.MethodName) jdk_32_method_5_code (1 : Nat) (Option.some (Jvm.ClassFile.FieldType.object "java/lang/Object")), Jvm.Cond.code ({ cls := "com/example/ripieno/ripieno/engine/HandlerResult", name := "cause", desc := "()Ljava/util/Optional;" } : Jvm.MethodName) prog_33_method_10_code (1 : Nat) (Option.some (Jvm.ClassFile.FieldType.object "java/util/Optional")), Jvm.Cond.code ({ cls := "java/lang/Integer", name := "valueOf", desc := "(I)Ljava/lang/Integer;" } : Jvm.MethodName) jdk_33_method_22_code (1 : Nat) (Option.some (Jvm.ClassFile.FieldType.object "java/lang/Integer")), Jvm.Cond.code ({ cls := "java/lang/StringUTF16", name := "compress", desc := "([CII)[B" } : Jvm.MethodName) jdk_52_method_16_code (6 : Nat) (Option.some (Jvm.ClassFile.FieldType.array Jvm.ClassFile.FieldType.byte)), Jvm.Cond.code ({ cls := "java/lang/StringUTF16", name := "compress", desc := "([CI[BII)I" } : Jvm.MethodName) jdk_52_method_21_code (7 : Nat) (Option.some Jvm.ClassFile.FieldType.int), Jvm.Cond.code ({ cls := "java/lang/StringUTF16", name := "coderFromArrayLen", desc := "([BI)B" } : Jvm.MethodName) jdk_52_method_15_code (2 : Nat) (Option.some Jvm.ClassFile.FieldType.byte), Jvm.Cond.code ({ cls := "java/lang/Integer", name := "<init>", desc := "(I)V" } : Jvm.MethodName) jdk_33_method_23_code (2 : Nat) (Option.none : Option Jvm.ClassFile.FieldType), Jvm.Cond.code ({ cls := "java/lang/Number", name := "<init>", desc := "()V" } : Jvm.MethodName) jdk_18_method_1_code (1 : Nat) (Option.none : Option Jvm.ClassFile.FieldType), Jvm.Cond.code ({ cls := "java/lang/Long", name := "<init>", desc := "(J)V" } : Jvm.MethodName) jdk_35_method_26_code (3 : Nat) (Option.none : Option Jvm.ClassFile.FieldType)]
set_option maxRecDepth 65536 in
theorem codes_eq : words1.filter isCode = codes1 := rfl
theorem w_codes : ∀ c ∈ words1.filter isCode, c.before args0 about1 = true := by
  rw [codes_eq]
  intro c hc
  simp only [codes1, List.mem_cons, List.not_mem_nil, or_false] at hc
  rcases hc with rfl | rfl | rfl | rfl | rfl | rfl | rfl | rfl | rfl | rfl | rfl | rfl | rfl | rfl | rfl | rfl | rfl | rfl | rfl | rfl | rfl | rfl | rfl | rfl
  · exact w_c0
  · exact w_c1
  · exact w_c2
  · exact w_c3
  · exact w_c4
  · exact w_c5
  · exact w_c6
  · exact w_c7
  · exact w_c8
  · exact w_c9
  · exact w_c10
  · exact w_c11
  · exact w_c12
  · exact w_c13
  · exact w_c14
  · exact w_c15
  · exact w_c16
  · exact w_c17
  · exact w_c18
  · exact w_c19
  · exact w_c20
  · exact w_c21
  · exact w_c22
  · exact w_c23
set_option maxRecDepth 65536 in
theorem w_t1 : (words1.take 24).all (fun c => isCode c || c.before args0 about1) = true := by decide +kernel
set_option maxRecDepth 65536 in
theorem w_t2 : ((words1.drop 24).take 24).all (fun c => isCode c || c.before args0 about1) = true := by decide +kernel
set_option maxRecDepth 65536 in
theorem w_t3 : (((words1.drop 24).drop 24).take 24).all (fun c => isCode c || c.before args0 about1) = true := by decide +kernel
set_option maxRecDepth 65536 in
theorem w_t4 : ((((words1.drop 24).drop 24).drop 24).take 24).all (fun c => isCode c || c.before args0 about1) = true := by decide +kernel
set_option maxRecDepth 65536 in
theorem w_t5 : (((((words1.drop 24).drop 24).drop 24).drop 24).take 24).all (fun c => isCode c || c.before args0 about1) = true := by decide +kernel
set_option maxRecDepth 65536 in
theorem w_t6 : ((((((words1.drop 24).drop 24).drop 24).drop 24).drop 24).take 24).all (fun c => isCode c || c.before args0 about1) = true := by decide +kernel
set_option maxRecDepth 65536 in
theorem w_t7 : ((((((words1.drop 24).drop 24).drop 24).drop 24).drop 24).drop 24).all (fun c => isCode c || c.before args0 about1) = true := by decide +kernel
theorem w_tables : (allAtoms (Jvm.Cond.code x code maxLocals ret :: tables_1)).before args0 about1 = true := by
  rw [allAtoms_all]
  show words1.all (fun c => c.before args0 about1) = true
  refine all_split ?_ w_codes
  rw [← List.take_append_drop 24 words1, List.all_append, w_t1, ← List.take_append_drop 24 (words1.drop 24), List.all_append, w_t2, ← List.take_append_drop 24 ((words1.drop 24).drop 24), List.all_append, w_t3, ← List.take_append_drop 24 (((words1.drop 24).drop 24).drop 24), List.all_append, w_t4, ← List.take_append_drop 24 ((((words1.drop 24).drop 24).drop 24).drop 24), List.all_append, w_t5, ← List.take_append_drop 24 (((((words1.drop 24).drop 24).drop 24).drop 24).drop 24), List.all_append, w_t6, w_t7]
  rfl
set_option maxRecDepth 65536 in
theorem w_rest : rest_1_c.before args0 about1 = true := by decide +kernel
set_option maxRecDepth 65536 in
theorem w_case : (Jvm.Cond.and given_1 narrow_1).before args0 about1 = true := by decide +kernel
set_option maxRecDepth 65536 in
theorem w_consts : constsHeld consts_1 about1 := Jvm.Lit.constsHeldB_iff.mp (by decide +kernel)
theorem w_applies : (headSpec (Jvm.Cond.code x code maxLocals ret :: tables_1) room_1).applies x e0.platform about1 = true :=
  (Spec.applies_iff w_frames).mpr ⟨w_running, w_runnable, w_alone, w_named, w_hears, w_ripe, w_room, w_tables⟩
theorem atStart : AtStart classFile x code maxLocals ret World_1 tables_1 room_1 Calls_1 rest_1 Pre_1 launch0 p0 e0 about1 theMethod args0 below0 :=
  ⟨lists_1, trivial, launch0.admits_env _ _ _, launch0.least_env, fairChoices_fair.cas, fairChoices_fair.clock, w_frames, w_args, w_heap, w_applies, ⟨w_consts, trivial⟩, w_rest, w_case⟩
end start1
theorem witness_1 : WitnessClaimed_1 := ⟨start1.p0, start1.e0, start1.about1, start1.theMethod, start1.args0, start1.below0, start1.atStart⟩
end Jvm.Pilot.@@N@@
