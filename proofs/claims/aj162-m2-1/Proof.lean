import JvmDerived
import JvmDerived.Pilot.@@N@@Statement
import JvmDerived.Pilot.@@N@@Code
set_option linter.unusedVariables false
set_option linter.unusedSimpArgs false
namespace Jvm.Pilot.@@N@@
open Jvm Jvm.ClassFile Sem Op Lib Jvm.Free Jvm.Stand Jvm.LawKit Jvm.RoadKit Bundle Jvm.Pilot.@@N@@.Jvm.D
section Kit
variable {p : Program} {l : Launch} {e : Env} {R : Room} {s : State} {m : MethodId} {args : Array Value} {below : List Frame} {meth : Method} {c : Code} {T : State} {locs : List Loc} {cells slots : Nat} {Z : State} {a0 : Array Value} {h : Heap} {own nm : String} {bytes : ByteArray} {maxL : Nat} {rt : Option FieldType} {Q : Option Value → Heap → Prop} {ce sl : Nat} {En : Option Value → State → Prop} {pc : Nat} {Ls : Array Slot} {st : List Value}
/-- where a walk stands: the state T, its heap h; all that lay in the heap at the start Z is there unchanged, and all that was written is new -/
def Cx (p : Program) (l : Launch) (e : Env) (R : Room) (s : State) (m : MethodId) (args : Array Value) (below : List Frame) (meth : Method) (c : Code) (Z : State) (own nm : String) (bytes : ByteArray) (maxL : Nat) (rt : Option FieldType) (T : State) (locs : List Loc) (cells slots : Nat) (h : Heap) : Prop :=
  Stand p l e R s m args below meth c T locs cells slots ∧ p.tables.exec = Jvm.exec ∧ Z.Warmed39 s.vm ∧ s.vm.findClass own = some m.cls ∧ c.code = bytes ∧ c.maxLocals = maxL ∧ meth.sig.returnType = rt ∧ meth.name = nm ∧ meth.locks = false ∧ T.heap = h ∧ Fr Z.heap.size locs ∧ Ext Z.heap h
/-- from this frame the body comes to its end, and En holds of what it returns and of the state there -/
def Go (p : Program) (e : Env) (below : List Frame) (En : Option Value → State → Prop) (T : State) (m : MethodId) (pc : Nat) (Ls : Array Slot) (st : List Value) : Prop :=
  ∃ s₂ v, Steps p.tables e below (T.setTop (mkF m pc Ls st)) s₂ ∧ s₂.status = .running ∧ Ended s₂ below (.returned v) ∧ En v s₂
/-- a return of v from here: where it leads, and that En holds there -/
def Lv (e : Env) (below : List Frame) (En : Option Value → State → Prop) (T : State) (m : MethodId) (v : Option Value) : Prop :=
  ∃ fs, (∀ (f : JFrame) (acts : List Action), f.method = m → f.locked = none → f.entered = [] → (doReturn e (T.setTop f) acts v).1 = T.setFrames fs) ∧ (T.setFrames fs).status = .running ∧ Ended (T.setFrames fs) below (.returned v) ∧ En v (T.setFrames fs)
/-- the end of a body that interns nothing -/
def FinN (s Z : State) (Q : Option Value → Heap → Prop) (ce sl : Nat) : Option Value → State → Prop := fun v t => ∃ L, (Fr Z.heap.size L ∧ Ext Z.heap t.heap ∧ Q v t.heap) ∧ FrameEnd s (.returned v) t L ce sl
/-- the contract of a method called with the arguments as' over the heap h -/
def Ct (l : Launch) (Z : State) (ws : List Jvm.Cond) (y : MethodName) (bytes : ByteArray) (maxL : Nat) (rt : Option FieldType) (rm : Room) (as' : Array Value) (h : Heap) (Q : Option Value → Heap → Prop) : Prop :=
  Ext Z.heap h → MetFree l y (head1 (Jvm.Cond.code y bytes maxL rt :: ws) rm) (fun a U => a = as' ∧ Z.Warmed39 U.vm ∧ U.heap = h) (fun _ _ _ _ _ => True) (fun _ U o U' => ∃ v L, o = .returned v ∧ (Fr Z.heap.size L ∧ Ext Z.heap U'.heap ∧ Q v U'.heap) ∧ FrameEnd U o U' L rm.cells rm.slots)
/-- it returns v and leaves the heap as it was -/
def Pu (h : Heap) (v : Value) : Option Value → Heap → Prop := fun w h' => w = some v ∧ h' = h
theorem Ext.rf (h : Heap) : Ext h h := ⟨Nat.le_refl _, fun _ _ q => q⟩
theorem Ext.tr {h1 h2 h3 : Heap} (E : Ext h1 h2) (F : Ext h2 h3) : Ext h1 h3 := ⟨Nat.le_trans E.1 F.1, fun a c q => F.2 a c (E.2 a c q)⟩
theorem Ext.kp {h1 h2 h3 : Heap} {ws : List Addr} (E : Ext h1 h2) (K : Keep h2 h3 ws) (q : ∀ x ∈ ws, h1.size ≤ x) : Ext h1 h3 := ⟨Nat.le_trans E.1 K.1, fun a c r => K.2.1 a c (E.2 a c r) fun z => absurd (Array.getElem?_eq_some_iff.mp r).1 (Nat.not_lt.mpr (q a z))⟩
theorem Ext.wr {h1 h2 h3 : Heap} {a : Addr} {k : Nat} {v : Value} (E : Ext h1 h2) (W : Wr h2 h3 a k v) (q : h1.size ≤ a) : Ext h1 h3 := Ext.kp E (Keep.of_wr W) (allS q all0)
theorem Ext.keep {h1 h2 : Heap} (E : Ext h1 h2) (ws : List Addr) : Keep h1 h2 ws := (Keep.refl _ _).ext E
theorem Cx.sd (X : Cx p l e R s m args below meth c Z own nm bytes maxL rt T locs cells slots h) : Stand p l e R s m args below meth c T locs cells slots := X.1
theorem Cx.here (X : Cx p l e R s m args below meth c Z own nm bytes maxL rt T locs cells slots h) : At T m c below := X.1.here
theorem Cx.hx (X : Cx p l e R s m args below meth c Z own nm bytes maxL rt T locs cells slots h) : p.tables.exec = Jvm.exec := X.2.1
theorem Cx.hZ (X : Cx p l e R s m args below meth c Z own nm bytes maxL rt T locs cells slots h) : Z.Warmed39 s.vm := X.2.2.1
theorem Cx.hown (X : Cx p l e R s m args below meth c Z own nm bytes maxL rt T locs cells slots h) : s.vm.findClass own = some m.cls := X.2.2.2.1
theorem Cx.hby (X : Cx p l e R s m args below meth c Z own nm bytes maxL rt T locs cells slots h) : c.code = bytes := X.2.2.2.2.1
theorem Cx.hml (X : Cx p l e R s m args below meth c Z own nm bytes maxL rt T locs cells slots h) : c.maxLocals = maxL := X.2.2.2.2.2.1
theorem Cx.hrt (X : Cx p l e R s m args below meth c Z own nm bytes maxL rt T locs cells slots h) : meth.sig.returnType = rt := X.2.2.2.2.2.2.1
theorem Cx.hnm (X : Cx p l e R s m args below meth c Z own nm bytes maxL rt T locs cells slots h) : meth.name = nm := X.2.2.2.2.2.2.2.1
theorem Cx.hlk (X : Cx p l e R s m args below meth c Z own nm bytes maxL rt T locs cells slots h) : meth.locks = false := X.2.2.2.2.2.2.2.2.1
theorem Cx.eq (X : Cx p l e R s m args below meth c Z own nm bytes maxL rt T locs cells slots h) : T.heap = h := X.2.2.2.2.2.2.2.2.2.1
theorem Cx.fr (X : Cx p l e R s m args below meth c Z own nm bytes maxL rt T locs cells slots h) : Fr Z.heap.size locs := X.2.2.2.2.2.2.2.2.2.2.1
theorem Cx.old (X : Cx p l e R s m args below meth c Z own nm bytes maxL rt T locs cells slots h) : Ext Z.heap h := X.2.2.2.2.2.2.2.2.2.2.2
theorem Cx.le (X : Cx p l e R s m args below meth c Z own nm bytes maxL rt T locs cells slots h) : Z.heap.size ≤ h.size := X.old.1
theorem Cx.mk' {T' : State} {locs' : List Loc} {cells' slots' : Nat} {h' : Heap} (X : Cx p l e R s m args below meth c Z own nm bytes maxL rt T locs cells slots h) (Y : Stand p l e R s m args below meth c T' locs' cells' slots') (q : T'.heap = h') (f : Fr Z.heap.size locs') (o : Ext Z.heap h') : Cx p l e R s m args below meth c Z own nm bytes maxL rt T' locs' cells' slots' h' := ⟨Y, X.hx, X.hZ, X.hown, X.hby, X.hml, X.hrt, X.hnm, X.hlk, q, f, o⟩
theorem Go.step {T' : State} {pc' : Nat} {Ls' : Array Slot} {st' : List Value} (f : ∀ t, Steps p.tables e below (T'.setTop (mkF m pc' Ls' st')) t → Steps p.tables e below (T.setTop (mkF m pc Ls st)) t) (k : Go p e below En T' m pc' Ls' st') : Go p e below En T m pc Ls st := by
  obtain ⟨s₂, v, k1, k2⟩ := k
  exact ⟨s₂, v, f _ k1, k2⟩
theorem Ct.ofF {y : MethodName} {ws : List Jvm.Cond} {rm : Room} {as' : Array Value} {Ls0 : Array Slot} (pn : plainFor y = true) (ef : ∀ m, entryFrame m as' maxL = mkF m 0 Ls0 [])
    (body : ∀ p e s m below meth c s₁, Cx p l e rm s m as' below meth c Z y.cls y.name bytes maxL rt s₁ [] 0 0 h → Go p e below (FinN s Z Q rm.cells rm.slots) s₁ m 0 Ls0 []) : Ct l Z ws y bytes maxL rt rm as' h Q := by
  intro hE
  refine MetFree.of_bodySF pn hisR ?_
  intro p e s m args below meth c s₁ Bd hml0 hP hK
  obtain ⟨rfl, hZ, hh⟩ := hP
  have hown : s.vm.findClass y.cls = some m.cls := findClass_of_methodNamed Bd.named
  have hnm := (name_of_methodNamed Bd.named Bd.method).1
  have X0 : Stand p l e rm s m args below meth c s₁ [] 0 0 := Stand.of_body Bd
  have e0 : s₁.heap = h := by rw [← hh, Bd.state]; rfl
  obtain ⟨s₂, v, k1, k2, k3, L, k5, k6⟩ := body p e s m below meth c s₁ ⟨X0, Bd.exec, hZ, hown, Bd.bytes, hml0, Bd.returns, hnm, Bd.notSynchronized, e0, Fr.nil _, hE⟩
  exact ⟨s₂, _, castTop (ef m) k1, k2, k3, v, L, rfl, k5, k6⟩
theorem Ct.of {y : MethodName} {ws : List Jvm.Cond} {rm : Room} {as' : Array Value} {Ls0 : Array Slot} (pn : plainName y.cls = true) (ef : ∀ m, entryFrame m as' maxL = mkF m 0 Ls0 [])
    (body : ∀ p e s m below meth c s₁, Cx p l e rm s m as' below meth c Z y.cls y.name bytes maxL rt s₁ [] 0 0 h → Go p e below (FinN s Z Q rm.cells rm.slots) s₁ m 0 Ls0 []) : Ct l Z ws y bytes maxL rt rm as' h Q := Ct.ofF (plainFor_of_name pn) ef body
theorem Cx.fin (X : Cx p l e R s m args below meth c Z own nm bytes maxL rt T locs cells slots h) {v : Option Value} (hQ : Q v h) (hc : cells ≤ ce) (hs : slots ≤ sl) (hv : rt = none → v = none := by (intro q; first | rfl | (cases q; done))) : Lv e below (FinN s Z Q ce sl) T m v := by
  have hlk := X.hlk
  obtain ⟨fs, hr, hrun, hended, hW, hsame⟩ := X.sd.leave (v := v) (fun q => hv (X.hrt ▸ q)) hlk
  have q : (T.setFrames fs).heap = h := X.eq
  exact ⟨fs, hr, hrun, hended, locs, ⟨X.fr, by rw [q]; exact X.old, by rw [q]; exact hQ⟩, ⟨_, rfl⟩, hW, hsame.mono hc hs⟩
theorem Go.ret0 (X : Cx p l e R s m args below meth c Z own nm bytes maxL rt T locs cells slots h) {v : Option Value}
    (f : ∀ fs, (∀ (f : JFrame) (acts : List Action), f.method = m → f.locked = none → f.entered = [] → (doReturn e (T.setTop f) acts v).1 = T.setFrames fs) → Steps p.tables e below (T.setTop (mkF m pc Ls st)) (T.setFrames fs)) (hF : Lv e below En T m v) : Go p e below En T m pc Ls st := by
  obtain ⟨fs, hr, hrun, hended, hq⟩ := hF
  exact ⟨_, _, f fs hr, hrun, hended, hq⟩
theorem Go.ret (X : Cx p l e R s m args below meth c Z own nm bytes maxL rt T locs cells slots h) {t : FieldType} {i : Instr} {w : Value} {rest : List Value} (hret : rt = some t) (hn : narrow t w = w)
    (hi : (i = .ireturn ∧ (t = .int ∨ t = .boolean ∨ t = .byte ∨ t = .char ∨ t = .short) ∧ ∃ z, w = .int z) ∨ (i = .lreturn ∧ t = .long ∧ ∃ z, w = .long z) ∨ (i = .dreturn ∧ t = .double ∧ ∃ z, w = .double z) ∨ (i = .freturn ∧ t = .float ∧ ∃ z, w = .float z) ∨ (i = .areturn ∧ t.isReference = true ∧ w.isRef = true))
    (hd : decode bytes pc = .ok (i, 1)) (hF : Lv e below En T m (some w)) : Go p e below En T m pc Ls (w :: rest) :=
  Go.ret0 X (fun fs hr => retOut X.sd X.hx (X.hrt.trans hret) hn hi (hb X.hby hd) hr) hF
theorem Go.retI (X : Cx p l e R s m args below meth c Z own nm bytes maxL rt T locs cells slots h) {t : FieldType} {z : Int32} {rest : List Value} (hret : rt = some t) (ht : t = .int ∨ t = .boolean ∨ t = .byte ∨ t = .char ∨ t = .short) (hn : narrow t (.int z) = .int z) (hd : decode bytes pc = .ok (.ireturn, 1)) (hF : Lv e below En T m (some (.int z))) : Go p e below En T m pc Ls (.int z :: rest) :=
  Go.ret X hret hn (Or.inl ⟨rfl, ht, z, rfl⟩) hd hF
theorem Go.retJ (X : Cx p l e R s m args below meth c Z own nm bytes maxL rt T locs cells slots h) {z : Int64} {rest : List Value} (hret : rt = some .long) (hd : decode bytes pc = .ok (.lreturn, 1)) (hF : Lv e below En T m (some (.long z))) : Go p e below En T m pc Ls (.long z :: rest) :=
  Go.ret X hret rfl (Or.inr (Or.inl ⟨rfl, rfl, z, rfl⟩)) hd hF
theorem Go.retA (X : Cx p l e R s m args below meth c Z own nm bytes maxL rt T locs cells slots h) {t : FieldType} {w : Value} {rest : List Value} (hret : rt = some t) (ht : t.isReference = true) (hw : w.isRef = true) (hd : decode bytes pc = .ok (.areturn, 1)) (hF : Lv e below En T m (some w)) : Go p e below En T m pc Ls (w :: rest) :=
  Go.ret X hret (by cases t <;> first | rfl | (cases ht; done)) (Or.inr (Or.inr (Or.inr (Or.inr ⟨rfl, ht, hw⟩)))) hd hF
theorem Go.retV (X : Cx p l e R s m args below meth c Z own nm bytes maxL rt T locs cells slots h) (hret : rt = none) (hd : decode bytes pc = .ok (.return_, 1)) (hF : Lv e below En T m none) : Go p e below En T m pc Ls [] :=
  Go.ret0 X (fun fs hr => X.sd.returnOut X.hx (X.hrt.trans hret) (hb X.hby hd) hr) hF
theorem Go.aloadN (X : Cx p l e R s m args below meth c Z own nm bytes maxL rt T locs cells slots h) (pc' : Nat) {i : Fin 4} {v : Value} (hd : decode bytes pc = .ok (.aload_n i, 1)) (hl : Ls[i.val]? = some (.val v)) (hv : v.isRef = true) (k : Go p e below En T m pc' Ls (v :: st)) (hp : pc + 1 = pc' := by rfl) : Go p e below En T m pc Ls st := by
  subst hp
  exact Go.step (fun _ hr => XS.aloadN X.here X.hx rfl (hb X.hby hd) hl hv hr) k
theorem Go.aload (X : Cx p l e R s m args below meth c Z own nm bytes maxL rt T locs cells slots h) (pc' : Nat) {i : Nat} {v : Value} (hd : decode bytes pc = .ok (.aload i, 2)) (hl : Ls[i]? = some (.val v)) (hv : v.isRef = true) (k : Go p e below En T m pc' Ls (v :: st)) (hp : pc + 2 = pc' := by rfl) : Go p e below En T m pc Ls st := by
  subst hp
  exact Go.step (fun _ hr => XS.aload X.here X.hx rfl (hb X.hby hd) hl hv hr) k
theorem Go.iloadN (X : Cx p l e R s m args below meth c Z own nm bytes maxL rt T locs cells slots h) (pc' : Nat) {i : Fin 4} {v : Int32} (hd : decode bytes pc = .ok (.iload_n i, 1)) (hl : Ls[i.val]? = some (.val (.int v))) (k : Go p e below En T m pc' Ls (.int v :: st)) (hp : pc + 1 = pc' := by rfl) : Go p e below En T m pc Ls st := by
  subst hp
  exact Go.step (fun _ hr => XS.iloadN X.here X.hx rfl (hb X.hby hd) hl hr) k
theorem Go.iload (X : Cx p l e R s m args below meth c Z own nm bytes maxL rt T locs cells slots h) (pc' : Nat) {i : Nat} {v : Int32} (hd : decode bytes pc = .ok (.iload i, 2)) (hl : Ls[i]? = some (.val (.int v))) (k : Go p e below En T m pc' Ls (.int v :: st)) (hp : pc + 2 = pc' := by rfl) : Go p e below En T m pc Ls st := by
  subst hp
  exact Go.step (fun _ hr => XS.iload X.here X.hx rfl (hb X.hby hd) hl hr) k
theorem Go.lloadN (X : Cx p l e R s m args below meth c Z own nm bytes maxL rt T locs cells slots h) (pc' : Nat) {i : Fin 4} {v : Int64} (hd : decode bytes pc = .ok (.lload_n i, 1)) (hl : Ls[i.val]? = some (.val (.long v))) (k : Go p e below En T m pc' Ls (.long v :: st)) (hp : pc + 1 = pc' := by rfl) : Go p e below En T m pc Ls st := by
  subst hp
  exact Go.step (fun _ hr => XT.lloadN X.here X.hx rfl (hb X.hby hd) hl hr) k
theorem Go.lload (X : Cx p l e R s m args below meth c Z own nm bytes maxL rt T locs cells slots h) (pc' : Nat) {i : Nat} {v : Int64} (hd : decode bytes pc = .ok (.lload i, 2)) (hl : Ls[i]? = some (.val (.long v))) (k : Go p e below En T m pc' Ls (.long v :: st)) (hp : pc + 2 = pc' := by rfl) : Go p e below En T m pc Ls st := by
  subst hp
  exact Go.step (fun _ hr => XT.lload X.here X.hx rfl (hb X.hby hd) hl hr) k
theorem Go.iconst (X : Cx p l e R s m args below meth c Z own nm bytes maxL rt T locs cells slots h) (pc' : Nat) {i : Int} (z : Int32) (hd : decode bytes pc = .ok (.iconst i, 1)) (k : Go p e below En T m pc' Ls (.int z :: st)) (hp : pc + 1 = pc' := by rfl) (hv : Int32.ofInt i = z := by rfl) : Go p e below En T m pc Ls st := by
  subst hp
  exact Go.step (fun _ hr => XT.iconstV X.here X.hx rfl z (hb X.hby hd) hv hr) k
theorem Go.bipush (X : Cx p l e R s m args below meth c Z own nm bytes maxL rt T locs cells slots h) (pc' : Nat) {i : Int} (z : Int32) (hd : decode bytes pc = .ok (.bipush i, 2)) (k : Go p e below En T m pc' Ls (.int z :: st)) (hp : pc + 2 = pc' := by rfl) (hv : (Int8.ofInt i).toInt32 = z := by rfl) : Go p e below En T m pc Ls st := by
  subst hp
  exact Go.step (fun _ hr => XT.bipushV X.here X.hx rfl z (hb X.hby hd) hv hr) k
theorem Go.sipush (X : Cx p l e R s m args below meth c Z own nm bytes maxL rt T locs cells slots h) (pc' : Nat) {i : Int} (z : Int32) (hd : decode bytes pc = .ok (.sipush i, 3)) (k : Go p e below En T m pc' Ls (.int z :: st)) (hp : pc + 3 = pc' := by rfl) (hv : (Int16.ofInt i).toInt32 = z := by rfl) : Go p e below En T m pc Ls st := by
  subst hp
  exact Go.step (fun _ hr => XT.sipushV X.here X.hx rfl z (hb X.hby hd) hv hr) k
theorem Go.lconst (X : Cx p l e R s m args below meth c Z own nm bytes maxL rt T locs cells slots h) (pc' : Nat) {i : Fin 2} (z : Int64) (hd : decode bytes pc = .ok (.lconst i, 1)) (k : Go p e below En T m pc' Ls (.long z :: st)) (hp : pc + 1 = pc' := by rfl) (hv : Int64.ofNat i = z := by rfl) : Go p e below En T m pc Ls st := by
  subst hp
  exact Go.step (fun _ hr => XT.lconstV X.here X.hx rfl z (hb X.hby hd) hv hr) k
theorem Go.aconst_null (X : Cx p l e R s m args below meth c Z own nm bytes maxL rt T locs cells slots h) (pc' : Nat)  (hd : decode bytes pc = .ok (.aconst_null, 1))  (k : Go p e below En T m pc' Ls (.null :: st)) (hp : pc + 1 = pc' := by rfl) : Go p e below En T m pc Ls st := by
  subst hp
  exact Go.step (fun _ hr => XS.aconstNull X.here X.hx rfl (hb X.hby hd)  hr) k
theorem Go.iadd (X : Cx p l e R s m args below meth c Z own nm bytes maxL rt T locs cells slots h) (pc' : Nat) {x y : Int32} (hd : decode bytes pc = .ok (.iadd, 1))  (k : Go p e below En T m pc' Ls (.int (x + y) :: st)) (hp : pc + 1 = pc' := by rfl) : Go p e below En T m pc Ls (.int y :: .int x :: st) := by
  subst hp
  exact Go.step (fun _ hr => XS.iadd X.here X.hx rfl (hb X.hby hd) rfl hr) k
theorem Go.isub (X : Cx p l e R s m args below meth c Z own nm bytes maxL rt T locs cells slots h) (pc' : Nat) {x y : Int32} (hd : decode bytes pc = .ok (.isub, 1))  (k : Go p e below En T m pc' Ls (.int (x - y) :: st)) (hp : pc + 1 = pc' := by rfl) : Go p e below En T m pc Ls (.int y :: .int x :: st) := by
  subst hp
  exact Go.step (fun _ hr => XS.isub X.here X.hx rfl (hb X.hby hd) rfl hr) k
theorem Go.imul (X : Cx p l e R s m args below meth c Z own nm bytes maxL rt T locs cells slots h) (pc' : Nat) {x y : Int32} (hd : decode bytes pc = .ok (.imul, 1))  (k : Go p e below En T m pc' Ls (.int (x * y) :: st)) (hp : pc + 1 = pc' := by rfl) : Go p e below En T m pc Ls (.int y :: .int x :: st) := by
  subst hp
  exact Go.step (fun _ hr => XS.imul X.here X.hx rfl (hb X.hby hd) rfl hr) k
theorem Go.iand (X : Cx p l e R s m args below meth c Z own nm bytes maxL rt T locs cells slots h) (pc' : Nat) {x y : Int32} (hd : decode bytes pc = .ok (.iand, 1))  (k : Go p e below En T m pc' Ls (.int (x &&& y) :: st)) (hp : pc + 1 = pc' := by rfl) : Go p e below En T m pc Ls (.int y :: .int x :: st) := by
  subst hp
  exact Go.step (fun _ hr => XS.iand X.here X.hx rfl (hb X.hby hd) rfl hr) k
theorem Go.ior (X : Cx p l e R s m args below meth c Z own nm bytes maxL rt T locs cells slots h) (pc' : Nat) {x y : Int32} (hd : decode bytes pc = .ok (.ior, 1))  (k : Go p e below En T m pc' Ls (.int (x ||| y) :: st)) (hp : pc + 1 = pc' := by rfl) : Go p e below En T m pc Ls (.int y :: .int x :: st) := by
  subst hp
  exact Go.step (fun _ hr => XT.ior X.here X.hx rfl (hb X.hby hd) rfl hr) k
theorem Go.ixor (X : Cx p l e R s m args below meth c Z own nm bytes maxL rt T locs cells slots h) (pc' : Nat) {x y : Int32} (hd : decode bytes pc = .ok (.ixor, 1))  (k : Go p e below En T m pc' Ls (.int (x ^^^ y) :: st)) (hp : pc + 1 = pc' := by rfl) : Go p e below En T m pc Ls (.int y :: .int x :: st) := by
  subst hp
  exact Go.step (fun _ hr => XT.ixor X.here X.hx rfl (hb X.hby hd) rfl hr) k
theorem Go.idiv (X : Cx p l e R s m args below meth c Z own nm bytes maxL rt T locs cells slots h) (pc' : Nat) {x y : Int32} (hd : decode bytes pc = .ok (.idiv, 1)) (hy : y ≠ 0) (k : Go p e below En T m pc' Ls (.int (x / y) :: st)) (hp : pc + 1 = pc' := by rfl) : Go p e below En T m pc Ls (.int y :: .int x :: st) := by
  subst hp
  exact Go.step (fun _ hr => XS.idiv X.here X.hx rfl (hb X.hby hd) rfl hy hr) k
theorem Go.irem (X : Cx p l e R s m args below meth c Z own nm bytes maxL rt T locs cells slots h) (pc' : Nat) {x y : Int32} (hd : decode bytes pc = .ok (.irem, 1)) (hy : y ≠ 0) (k : Go p e below En T m pc' Ls (.int (x % y) :: st)) (hp : pc + 1 = pc' := by rfl) : Go p e below En T m pc Ls (.int y :: .int x :: st) := by
  subst hp
  exact Go.step (fun _ hr => iremM X.sd X.hx rfl (hb X.hby hd) rfl hy hr) k
theorem Go.ishl (X : Cx p l e R s m args below meth c Z own nm bytes maxL rt T locs cells slots h) (pc' : Nat) {x y : Int32} (hd : decode bytes pc = .ok (.ishl, 1))  (k : Go p e below En T m pc' Ls (.int (x <<< (y &&& 31)) :: st)) (hp : pc + 1 = pc' := by rfl) : Go p e below En T m pc Ls (.int y :: .int x :: st) := by
  subst hp
  exact Go.step (fun _ hr => XT.ishl X.here X.hx rfl (hb X.hby hd) rfl hr) k
theorem Go.ishr (X : Cx p l e R s m args below meth c Z own nm bytes maxL rt T locs cells slots h) (pc' : Nat) {x y : Int32} (hd : decode bytes pc = .ok (.ishr, 1))  (k : Go p e below En T m pc' Ls (.int (x >>> (y &&& 31)) :: st)) (hp : pc + 1 = pc' := by rfl) : Go p e below En T m pc Ls (.int y :: .int x :: st) := by
  subst hp
  exact Go.step (fun _ hr => XT.ishr X.here X.hx rfl (hb X.hby hd) rfl hr) k
theorem Go.iushr (X : Cx p l e R s m args below meth c Z own nm bytes maxL rt T locs cells slots h) (pc' : Nat) {x y : Int32} (hd : decode bytes pc = .ok (.iushr, 1))  (k : Go p e below En T m pc' Ls (.int (XT.ushr x y) :: st)) (hp : pc + 1 = pc' := by rfl) : Go p e below En T m pc Ls (.int y :: .int x :: st) := by
  subst hp
  exact Go.step (fun _ hr => XT.iushr X.here X.hx rfl (hb X.hby hd) rfl hr) k
theorem Go.ladd (X : Cx p l e R s m args below meth c Z own nm bytes maxL rt T locs cells slots h) (pc' : Nat) {x y : Int64} (hd : decode bytes pc = .ok (.ladd, 1))  (k : Go p e below En T m pc' Ls (.long (x + y) :: st)) (hp : pc + 1 = pc' := by rfl) : Go p e below En T m pc Ls (.long y :: .long x :: st) := by
  subst hp
  exact Go.step (fun _ hr => XT.ladd X.here X.hx rfl (hb X.hby hd) rfl hr) k
theorem Go.lsub (X : Cx p l e R s m args below meth c Z own nm bytes maxL rt T locs cells slots h) (pc' : Nat) {x y : Int64} (hd : decode bytes pc = .ok (.lsub, 1))  (k : Go p e below En T m pc' Ls (.long (x - y) :: st)) (hp : pc + 1 = pc' := by rfl) : Go p e below En T m pc Ls (.long y :: .long x :: st) := by
  subst hp
  exact Go.step (fun _ hr => XT.lsub X.here X.hx rfl (hb X.hby hd) rfl hr) k
theorem Go.lmul (X : Cx p l e R s m args below meth c Z own nm bytes maxL rt T locs cells slots h) (pc' : Nat) {x y : Int64} (hd : decode bytes pc = .ok (.lmul, 1))  (k : Go p e below En T m pc' Ls (.long (x * y) :: st)) (hp : pc + 1 = pc' := by rfl) : Go p e below En T m pc Ls (.long y :: .long x :: st) := by
  subst hp
  exact Go.step (fun _ hr => XT.lmul X.here X.hx rfl (hb X.hby hd) rfl hr) k
theorem Go.land (X : Cx p l e R s m args below meth c Z own nm bytes maxL rt T locs cells slots h) (pc' : Nat) {x y : Int64} (hd : decode bytes pc = .ok (.land, 1))  (k : Go p e below En T m pc' Ls (.long (x &&& y) :: st)) (hp : pc + 1 = pc' := by rfl) : Go p e below En T m pc Ls (.long y :: .long x :: st) := by
  subst hp
  exact Go.step (fun _ hr => XT.land X.here X.hx rfl (hb X.hby hd) rfl hr) k
theorem Go.lor (X : Cx p l e R s m args below meth c Z own nm bytes maxL rt T locs cells slots h) (pc' : Nat) {x y : Int64} (hd : decode bytes pc = .ok (.lor, 1))  (k : Go p e below En T m pc' Ls (.long (x ||| y) :: st)) (hp : pc + 1 = pc' := by rfl) : Go p e below En T m pc Ls (.long y :: .long x :: st) := by
  subst hp
  exact Go.step (fun _ hr => XT.lor X.here X.hx rfl (hb X.hby hd) rfl hr) k
theorem Go.lxor (X : Cx p l e R s m args below meth c Z own nm bytes maxL rt T locs cells slots h) (pc' : Nat) {x y : Int64} (hd : decode bytes pc = .ok (.lxor, 1))  (k : Go p e below En T m pc' Ls (.long (x ^^^ y) :: st)) (hp : pc + 1 = pc' := by rfl) : Go p e below En T m pc Ls (.long y :: .long x :: st) := by
  subst hp
  exact Go.step (fun _ hr => XT.lxor X.here X.hx rfl (hb X.hby hd) rfl hr) k
theorem Go.lcmp (X : Cx p l e R s m args below meth c Z own nm bytes maxL rt T locs cells slots h) (pc' : Nat) {x y : Int64} (hd : decode bytes pc = .ok (.lcmp, 1))  (k : Go p e below En T m pc' Ls (.int (XT.cmpL x y) :: st)) (hp : pc + 1 = pc' := by rfl) : Go p e below En T m pc Ls (.long y :: .long x :: st) := by
  subst hp
  exact Go.step (fun _ hr => XT.lcmp X.here X.hx rfl (hb X.hby hd) rfl hr) k
theorem Go.ldiv (X : Cx p l e R s m args below meth c Z own nm bytes maxL rt T locs cells slots h) (pc' : Nat) {x y : Int64} (hd : decode bytes pc = .ok (.ldiv, 1)) (hy : y ≠ 0) (k : Go p e below En T m pc' Ls (.long (x / y) :: st)) (hp : pc + 1 = pc' := by rfl) : Go p e below En T m pc Ls (.long y :: .long x :: st) := by
  subst hp
  exact Go.step (fun _ hr => XT.ldiv X.here X.hx rfl (hb X.hby hd) rfl hy hr) k
theorem Go.lrem (X : Cx p l e R s m args below meth c Z own nm bytes maxL rt T locs cells slots h) (pc' : Nat) {x y : Int64} (hd : decode bytes pc = .ok (.lrem, 1)) (hy : y ≠ 0) (k : Go p e below En T m pc' Ls (.long (x - (x / y) * y) :: st)) (hp : pc + 1 = pc' := by rfl) : Go p e below En T m pc Ls (.long y :: .long x :: st) := by
  subst hp
  exact Go.step (fun _ hr => XT.lrem X.here X.hx rfl (hb X.hby hd) rfl hy hr) k
theorem Go.lshl (X : Cx p l e R s m args below meth c Z own nm bytes maxL rt T locs cells slots h) (pc' : Nat) {x : Int64} {y : Int32} (hd : decode bytes pc = .ok (.lshl, 1))  (k : Go p e below En T m pc' Ls (.long (x <<< (y.toInt64 &&& 63)) :: st)) (hp : pc + 1 = pc' := by rfl) : Go p e below En T m pc Ls (.int y :: .long x :: st) := by
  subst hp
  exact Go.step (fun _ hr => XT.lshl X.here X.hx rfl (hb X.hby hd) rfl hr) k
theorem Go.lshr (X : Cx p l e R s m args below meth c Z own nm bytes maxL rt T locs cells slots h) (pc' : Nat) {x : Int64} {y : Int32} (hd : decode bytes pc = .ok (.lshr, 1))  (k : Go p e below En T m pc' Ls (.long (x >>> (y.toInt64 &&& 63)) :: st)) (hp : pc + 1 = pc' := by rfl) : Go p e below En T m pc Ls (.int y :: .long x :: st) := by
  subst hp
  exact Go.step (fun _ hr => XT.lshr X.here X.hx rfl (hb X.hby hd) rfl hr) k
theorem Go.lushr (X : Cx p l e R s m args below meth c Z own nm bytes maxL rt T locs cells slots h) (pc' : Nat) {x : Int64} {y : Int32} (hd : decode bytes pc = .ok (.lushr, 1))  (k : Go p e below En T m pc' Ls (.long (XT.ushrL x y) :: st)) (hp : pc + 1 = pc' := by rfl) : Go p e below En T m pc Ls (.int y :: .long x :: st) := by
  subst hp
  exact Go.step (fun _ hr => XT.lushr X.here X.hx rfl (hb X.hby hd) rfl hr) k
theorem Go.i2l (X : Cx p l e R s m args below meth c Z own nm bytes maxL rt T locs cells slots h) (pc' : Nat) {x : Int32} (hd : decode bytes pc = .ok (.i2l, 1))  (k : Go p e below En T m pc' Ls (.long (x.toInt64) :: st)) (hp : pc + 1 = pc' := by rfl) : Go p e below En T m pc Ls (.int x :: st) := by
  subst hp
  exact Go.step (fun _ hr => XT.i2l X.here X.hx rfl (hb X.hby hd) rfl hr) k
theorem Go.i2b (X : Cx p l e R s m args below meth c Z own nm bytes maxL rt T locs cells slots h) (pc' : Nat) {x : Int32} (hd : decode bytes pc = .ok (.i2b, 1))  (k : Go p e below En T m pc' Ls (.int (x.toInt8.toInt32) :: st)) (hp : pc + 1 = pc' := by rfl) : Go p e below En T m pc Ls (.int x :: st) := by
  subst hp
  exact Go.step (fun _ hr => XT.i2b X.here X.hx rfl (hb X.hby hd) rfl hr) k
theorem Go.i2c (X : Cx p l e R s m args below meth c Z own nm bytes maxL rt T locs cells slots h) (pc' : Nat) {x : Int32} (hd : decode bytes pc = .ok (.i2c, 1))  (k : Go p e below En T m pc' Ls (.int (x.toUInt32.toUInt16.toUInt32.toInt32) :: st)) (hp : pc + 1 = pc' := by rfl) : Go p e below En T m pc Ls (.int x :: st) := by
  subst hp
  exact Go.step (fun _ hr => XT.i2c X.here X.hx rfl (hb X.hby hd) rfl hr) k
theorem Go.i2s (X : Cx p l e R s m args below meth c Z own nm bytes maxL rt T locs cells slots h) (pc' : Nat) {x : Int32} (hd : decode bytes pc = .ok (.i2s, 1))  (k : Go p e below En T m pc' Ls (.int (x.toInt16.toInt32) :: st)) (hp : pc + 1 = pc' := by rfl) : Go p e below En T m pc Ls (.int x :: st) := by
  subst hp
  exact Go.step (fun _ hr => XT.i2s X.here X.hx rfl (hb X.hby hd) rfl hr) k
theorem Go.l2i (X : Cx p l e R s m args below meth c Z own nm bytes maxL rt T locs cells slots h) (pc' : Nat) {x : Int64} (hd : decode bytes pc = .ok (.l2i, 1))  (k : Go p e below En T m pc' Ls (.int (x.toInt32) :: st)) (hp : pc + 1 = pc' := by rfl) : Go p e below En T m pc Ls (.long x :: st) := by
  subst hp
  exact Go.step (fun _ hr => XT.l2i X.here X.hx rfl (hb X.hby hd) rfl hr) k
theorem Go.dup (X : Cx p l e R s m args below meth c Z own nm bytes maxL rt T locs cells slots h) (pc' : Nat) {v : Value} (hd : decode bytes pc = .ok (.dup, 1)) (hc : v.category = 1) (k : Go p e below En T m pc' Ls (v :: v :: st)) (hp : pc + 1 = pc' := by rfl) : Go p e below En T m pc Ls (v :: st) := by
  subst hp
  exact Go.step (fun _ hr => XS.dup X.here X.hx rfl (hb X.hby hd) rfl hc hr) k
theorem Go.pop (X : Cx p l e R s m args below meth c Z own nm bytes maxL rt T locs cells slots h) (pc' : Nat) {v : Value} (hd : decode bytes pc = .ok (.pop, 1)) (hc : v.category = 1) (k : Go p e below En T m pc' Ls st) (hp : pc + 1 = pc' := by rfl) : Go p e below En T m pc Ls (v :: st) := by
  subst hp
  exact Go.step (fun _ hr => XT.pop X.here X.hx rfl (hb X.hby hd) rfl hc hr) k
theorem Go.dup_x1 (X : Cx p l e R s m args below meth c Z own nm bytes maxL rt T locs cells slots h) (pc' : Nat) {v w : Value} (hd : decode bytes pc = .ok (.dup_x1, 1)) (hc : v.category = 1) (hc' : w.category = 1) (k : Go p e below En T m pc' Ls (v :: w :: v :: st)) (hp : pc + 1 = pc' := by rfl) : Go p e below En T m pc Ls (v :: w :: st) := by
  subst hp
  exact Go.step (fun _ hr => XT.dupX1 X.here X.hx rfl (hb X.hby hd) rfl hc hc' hr) k
theorem Go.dup2 (X : Cx p l e R s m args below meth c Z own nm bytes maxL rt T locs cells slots h) (pc' : Nat) {v w : Value} (hd : decode bytes pc = .ok (.dup2, 1)) (hc : v.category = 1) (hc' : w.category = 1) (k : Go p e below En T m pc' Ls (v :: w :: v :: w :: st)) (hp : pc + 1 = pc' := by rfl) : Go p e below En T m pc Ls (v :: w :: st) := by
  subst hp
  exact Go.step (fun _ hr => XT.dup2 X.here X.hx rfl (hb X.hby hd) rfl hc hc' hr) k
theorem Go.istoreN (X : Cx p l e R s m args below meth c Z own nm bytes maxL rt T locs cells slots h) (pc' : Nat) {i : Fin 4} {z : Int32} (Ls' : Array Slot) (hd : decode bytes pc = .ok (.istore_n i, 1))  (hl : storeLocals Ls i.val (.int z) = some Ls') (k : Go p e below En T m pc' Ls' st) (hp : pc + 1 = pc' := by rfl) : Go p e below En T m pc Ls (.int z :: st) := by
  subst hp
  exact Go.step (fun _ hr => XS.istoreN X.here X.hx rfl (hb X.hby hd) rfl  hl hr) k
theorem Go.istore (X : Cx p l e R s m args below meth c Z own nm bytes maxL rt T locs cells slots h) (pc' : Nat) {i : Nat} {z : Int32} (Ls' : Array Slot) (hd : decode bytes pc = .ok (.istore i, 2))  (hl : storeLocals Ls i (.int z) = some Ls') (k : Go p e below En T m pc' Ls' st) (hp : pc + 2 = pc' := by rfl) : Go p e below En T m pc Ls (.int z :: st) := by
  subst hp
  exact Go.step (fun _ hr => XS.istore X.here X.hx rfl (hb X.hby hd) rfl  hl hr) k
theorem Go.lstoreN (X : Cx p l e R s m args below meth c Z own nm bytes maxL rt T locs cells slots h) (pc' : Nat) {i : Fin 4} {z : Int64} (Ls' : Array Slot) (hd : decode bytes pc = .ok (.lstore_n i, 1))  (hl : storeLocals Ls i.val (.long z) = some Ls') (k : Go p e below En T m pc' Ls' st) (hp : pc + 1 = pc' := by rfl) : Go p e below En T m pc Ls (.long z :: st) := by
  subst hp
  exact Go.step (fun _ hr => XT.lstoreN X.here X.hx rfl (hb X.hby hd) rfl  hl hr) k
theorem Go.lstore (X : Cx p l e R s m args below meth c Z own nm bytes maxL rt T locs cells slots h) (pc' : Nat) {i : Nat} {z : Int64} (Ls' : Array Slot) (hd : decode bytes pc = .ok (.lstore i, 2))  (hl : storeLocals Ls i (.long z) = some Ls') (k : Go p e below En T m pc' Ls' st) (hp : pc + 2 = pc' := by rfl) : Go p e below En T m pc Ls (.long z :: st) := by
  subst hp
  exact Go.step (fun _ hr => XT.lstore X.here X.hx rfl (hb X.hby hd) rfl  hl hr) k
theorem Go.astoreN (X : Cx p l e R s m args below meth c Z own nm bytes maxL rt T locs cells slots h) (pc' : Nat) {i : Fin 4} {v : Value} (Ls' : Array Slot) (hd : decode bytes pc = .ok (.astore_n i, 1)) (hv : v.isRef = true) (hl : storeLocals Ls i.val (v) = some Ls') (k : Go p e below En T m pc' Ls' st) (hp : pc + 1 = pc' := by rfl) : Go p e below En T m pc Ls (v :: st) := by
  subst hp
  exact Go.step (fun _ hr => XS.astoreN X.here X.hx rfl (hb X.hby hd) rfl hv hl hr) k
theorem Go.astore (X : Cx p l e R s m args below meth c Z own nm bytes maxL rt T locs cells slots h) (pc' : Nat) {i : Nat} {v : Value} (Ls' : Array Slot) (hd : decode bytes pc = .ok (.astore i, 2)) (hv : v.isRef = true) (hl : storeLocals Ls i (v) = some Ls') (k : Go p e below En T m pc' Ls' st) (hp : pc + 2 = pc' := by rfl) : Go p e below En T m pc Ls (v :: st) := by
  subst hp
  exact Go.step (fun _ hr => XS.astore X.here X.hx rfl (hb X.hby hd) rfl hv hl hr) k
theorem Go.iinc (X : Cx p l e R s m args below meth c Z own nm bytes maxL rt T locs cells slots h) (pc' : Nat) {i : Nat} {x : Int32} {cst : Int} (z : Int32) (Ls' : Array Slot) (hd : decode bytes pc = .ok (.iinc i cst, 3)) (hl0 : Ls[i]? = some (.val (.int x))) (hl : storeLocals Ls i (.int (x + z)) = some Ls') (k : Go p e below En T m pc' Ls' st) (hp : pc + 3 = pc' := by rfl) (hv : Int32.ofInt cst = z := by rfl) : Go p e below En T m pc Ls st := by
  subst hp
  exact Go.step (fun _ hr => XT.iincV X.here X.hx rfl z (hb X.hby hd) hv hl0 hl hr) k
theorem Go.goto (X : Cx p l e R s m args below meth c Z own nm bytes maxL rt T locs cells slots h) (pc' : Nat) {o : Int} (hd : decode bytes pc = .ok (.goto o, 3)) (k : Go p e below En T m pc' Ls st) (ho : 0 ≤ (pc : Int) + o := by decide) (hp : ((pc : Int) + o).toNat = pc' := by decide) : Go p e below En T m pc Ls st :=
  Go.step (fun _ hr => XS.goto X.here X.hx rfl rfl (hb X.hby hd) ho hp hr) k
theorem Go.if0Y (X : Cx p l e R s m args below meth c Z own nm bytes maxL rt T locs cells slots h) (pc' : Nat) {cd : ClassFile.Cond} {x : Int32} {o : Int} (hd : decode bytes pc = .ok (.ifCond cd o, 3)) (hc : ifCond.holds cd x = true) (k : Go p e below En T m pc' Ls st) (ho : 0 ≤ (pc : Int) + o := by decide) (hp : ((pc : Int) + o).toNat = pc' := by decide) : Go p e below En T m pc Ls (.int x :: st) :=
  Go.step (fun _ hr => XS.ifYes X.here X.hx rfl rfl (hb X.hby hd) rfl hc ho hp hr) k
theorem Go.if0N (X : Cx p l e R s m args below meth c Z own nm bytes maxL rt T locs cells slots h) (pc' : Nat) {cd : ClassFile.Cond} {x : Int32} {o : Int} (hd : decode bytes pc = .ok (.ifCond cd o, 3)) (hc : ifCond.holds cd x = false) (k : Go p e below En T m pc' Ls st) (hp : pc + 3 = pc' := by rfl) : Go p e below En T m pc Ls (.int x :: st) := by
  subst hp
  exact Go.step (fun _ hr => XS.ifNo X.here X.hx rfl (hb X.hby hd) rfl hc hr) k
theorem Go.icmpY (X : Cx p l e R s m args below meth c Z own nm bytes maxL rt T locs cells slots h) (pc' : Nat) {cd : ClassFile.Cond} {x y : Int32} {o : Int} (hd : decode bytes pc = .ok (.if_icmp cd o, 3)) (hc : if_icmp.holds cd x y = true) (k : Go p e below En T m pc' Ls st) (ho : 0 ≤ (pc : Int) + o := by decide) (hp : ((pc : Int) + o).toNat = pc' := by decide) : Go p e below En T m pc Ls (.int y :: .int x :: st) :=
  Go.step (fun _ hr => XS.icmpYes X.here X.hx rfl rfl (hb X.hby hd) rfl hc ho hp hr) k
theorem Go.icmpN (X : Cx p l e R s m args below meth c Z own nm bytes maxL rt T locs cells slots h) (pc' : Nat) {cd : ClassFile.Cond} {x y : Int32} {o : Int} (hd : decode bytes pc = .ok (.if_icmp cd o, 3)) (hc : if_icmp.holds cd x y = false) (k : Go p e below En T m pc' Ls st) (hp : pc + 3 = pc' := by rfl) : Go p e below En T m pc Ls (.int y :: .int x :: st) := by
  subst hp
  exact Go.step (fun _ hr => XS.icmpNo X.here X.hx rfl (hb X.hby hd) rfl hc hr) k
theorem Go.acmpY (X : Cx p l e R s m args below meth c Z own nm bytes maxL rt T locs cells slots h) (pc' : Nat) {cd : ClassFile.ACond} {x y : Value} {o : Int} (hd : decode bytes pc = .ok (.if_acmp cd o, 3)) (hx' : x.isRef = true) (hy' : y.isRef = true) (hc : XT.acmp cd x y = true) (k : Go p e below En T m pc' Ls st) (ho : 0 ≤ (pc : Int) + o := by decide) (hp : ((pc : Int) + o).toNat = pc' := by decide) : Go p e below En T m pc Ls (y :: x :: st) :=
  Go.step (fun _ hr => XT.acmpYes X.here X.hx rfl rfl (hb X.hby hd) rfl hx' hy' hc ho hp hr) k
theorem Go.acmpN (X : Cx p l e R s m args below meth c Z own nm bytes maxL rt T locs cells slots h) (pc' : Nat) {cd : ClassFile.ACond} {x y : Value} {o : Int} (hd : decode bytes pc = .ok (.if_acmp cd o, 3)) (hx' : x.isRef = true) (hy' : y.isRef = true) (hc : XT.acmp cd x y = false) (k : Go p e below En T m pc' Ls st) (hp : pc + 3 = pc' := by rfl) : Go p e below En T m pc Ls (y :: x :: st) := by
  subst hp
  exact Go.step (fun _ hr => XT.acmpNo X.here X.hx rfl (hb X.hby hd) rfl hx' hy' hc hr) k
theorem Go.ifnullY (X : Cx p l e R s m args below meth c Z own nm bytes maxL rt T locs cells slots h) (pc' : Nat) {o : Int} (hd : decode bytes pc = .ok (.ifnull o, 3)) (k : Go p e below En T m pc' Ls st) (ho : 0 ≤ (pc : Int) + o := by decide) (hp : ((pc : Int) + o).toNat = pc' := by decide) : Go p e below En T m pc Ls (.null :: st) :=
  Go.step (fun _ hr => XS.ifnullYes X.here X.hx rfl rfl (hb X.hby hd) rfl ho hp hr) k
theorem Go.ifnullN (X : Cx p l e R s m args below meth c Z own nm bytes maxL rt T locs cells slots h) (pc' : Nat) {a : Addr} {o : Int} (hd : decode bytes pc = .ok (.ifnull o, 3)) (k : Go p e below En T m pc' Ls st) (hp : pc + 3 = pc' := by rfl) : Go p e below En T m pc Ls (.ref a :: st) := by
  subst hp
  exact Go.step (fun _ hr => XS.ifnullNo X.here X.hx rfl (hb X.hby hd) rfl hr) k
theorem Go.ifnonnullY (X : Cx p l e R s m args below meth c Z own nm bytes maxL rt T locs cells slots h) (pc' : Nat) {a : Addr} {o : Int} (hd : decode bytes pc = .ok (.ifnonnull o, 3)) (k : Go p e below En T m pc' Ls st) (ho : 0 ≤ (pc : Int) + o := by decide) (hp : ((pc : Int) + o).toNat = pc' := by decide) : Go p e below En T m pc Ls (.ref a :: st) :=
  Go.step (fun _ hr => XT.ifnonnullYes X.here X.hx rfl rfl (hb X.hby hd) rfl ho hp hr) k
theorem Go.ifnonnullN (X : Cx p l e R s m args below meth c Z own nm bytes maxL rt T locs cells slots h) (pc' : Nat) {o : Int} (hd : decode bytes pc = .ok (.ifnonnull o, 3)) (k : Go p e below En T m pc' Ls st) (hp : pc + 3 = pc' := by rfl) : Go p e below En T m pc Ls (.null :: st) := by
  subst hp
  exact Go.step (fun _ hr => XT.ifnonnullNo X.here X.hx rfl (hb X.hby hd) rfl hr) k
theorem Go.tsw (X : Cx p l e R s m args below meth c Z own nm bytes maxL rt T locs cells slots h) (pc' : Nat) {dflt low high o : Int} {offs : Array Int} {len : Nat} {i : Int32} (hd : decode bytes pc = .ok (.tableswitch dflt low high offs, len)) (hin : ¬ (i.toInt < low ∨ i.toInt > high)) (hoff : offs[(i.toInt - low).toNat]? = some o) (k : Go p e below En T m pc' Ls st) (ho : 0 ≤ (pc : Int) + o := by decide) (hp : ((pc : Int) + o).toNat = pc' := by decide) : Go p e below En T m pc Ls (.int i :: st) :=
  Go.step (fun _ hr => XS.tswIn X.here X.hx rfl rfl (hb X.hby hd) rfl hin hoff ho hp hr) k
theorem Go.ldcI (X : Cx p l e R s m args below meth c Z own nm bytes maxL rt T locs cells slots h) (pc' : Nat) {idx : Nat} {v : Int32} (w : (Jvm.Cond.constant own idx v).before a0 Z = true) (hd : decode bytes pc = .ok (.ldc idx, 2)) (k : Go p e below En T m pc' Ls (.int v :: st)) (hp : pc + 2 = pc' := by rfl) : Go p e below En T m pc Ls st := by
  subst hp
  exact Go.step (fun _ hr => X.sd.ldcI X.hx X.hown (mvT X.hZ w) rfl (hb X.hby hd) hr) k
theorem Go.ldcJ (X : Cx p l e R s m args below meth c Z own nm bytes maxL rt T locs cells slots h) (pc' : Nat) {idx : Nat} {v : Int64} (w : (Jvm.Cond.constantLong own idx v).before a0 Z = true) (hd : decode bytes pc = .ok (.ldc2_w idx, 3)) (k : Go p e below En T m pc' Ls (.long v :: st)) (hp : pc + 3 = pc' := by rfl) : Go p e below En T m pc Ls st := by
  subst hp
  exact Go.step (fun _ hr => X.sd.ldc2J X.hx X.hown (mvT X.hZ w) rfl (hb X.hby hd) hr) k
theorem Go.getS (X : Cx p l e R s m args below meth c Z own nm bytes maxL rt T locs cells slots h) (pc' : Nat) {O n d : String} {idx : Nat} {v : Value} (w : (Jvm.Cond.fieldLink own idx O n d).before a0 Z = true) (F : Sta Z Z.heap O n d v) (hd : decode bytes pc = .ok (.getstatic idx, 3)) (k : ∀ T', Cx p l e R s m args below meth c Z own nm bytes maxL rt T' locs cells slots h → Go p e below En T' m pc' Ls (v :: st)) (hp : pc + 3 = pc' := by rfl) : Go p e below En T m pc Ls st := by
  subst hp
  obtain ⟨T', X', e', st'⟩ := RoadKit.getS (host := "") X.sd X.hx X.hZ X.hown w Via.refl X.eq (F.ext X.old) (g := mkF m pc Ls st) rfl (hb X.hby hd)
  exact Go.step st' (k T' (X.mk' X' e' X.fr X.old))
theorem Go.getF (X : Cx p l e R s m args below meth c Z own nm bytes maxL rt T locs cells slots h) (pc' : Nat) {O n d : String} {idx : Nat} {a : Addr} {v : Value} (w : (Jvm.Cond.fieldLink own idx O n d).before a0 Z = true) (F : Fld Z h a O n d v) (hd : decode bytes pc = .ok (.getfield idx, 3)) (k : ∀ T', Cx p l e R s m args below meth c Z own nm bytes maxL rt T' locs cells slots h → Go p e below En T' m pc' Ls (v :: st)) (hp : pc + 3 = pc' := by rfl) : Go p e below En T m pc Ls (.ref a :: st) := by
  subst hp
  obtain ⟨T', X', e', st'⟩ := RoadKit.getF (host := "") X.sd X.hx X.hZ X.hown (Or.inl w) Via.refl X.eq F (g := mkF m pc Ls (.ref a :: st)) rfl rfl (hb X.hby hd)
  exact Go.step st' (k T' (X.mk' X' e' X.fr X.old))
theorem Go.getFN (X : Cx p l e R s m args below meth c Z own nm bytes maxL rt T locs cells slots h) (pc' : Nat) {O n d host : String} {idx : Nat} {a : Addr} {v : Value} (w : (Jvm.Cond.fieldLinkNest own idx O n d host).before a0 Z = true) (F : Fld Z h a O n d v) (hd : decode bytes pc = .ok (.getfield idx, 3)) (k : ∀ T', Cx p l e R s m args below meth c Z own nm bytes maxL rt T' locs cells slots h → Go p e below En T' m pc' Ls (v :: st)) (hp : pc + 3 = pc' := by rfl) : Go p e below En T m pc Ls (.ref a :: st) := by
  subst hp
  obtain ⟨T', X', e', st'⟩ := RoadKit.getF X.sd X.hx X.hZ X.hown (Or.inr w) Via.refl X.eq F (g := mkF m pc Ls (.ref a :: st)) rfl rfl (hb X.hby hd)
  exact Go.step st' (k T' (X.mk' X' e' X.fr X.old))
theorem Go.putF (X : Cx p l e R s m args below meth c Z own nm bytes maxL rt T locs cells slots h) (pc' : Nat) {O n d C : String} {idx kk : Nat} {ty : FieldType} {a : Addr} {v old : Value} (w : (Jvm.Cond.fieldLink own idx O n d).before a0 Z = true) (F : Fld Z h a O n d old) (E : Exa Z h a C) (L : (Jvm.Cond.lays C O n d).before a0 Z = true ∨ ((Jvm.Cond.laysFinal C O n d).before a0 Z = true ∧ own = O ∧ nm = "<init>")) (wi : (Jvm.Cond.instantiable C kk).before a0 Z = true) (hty : parseFieldDescriptor d = some ty) (hn : narrow ty v = v) (hf : fits ty v = true) (ha : Z.heap.size ≤ a) (hd : decode bytes pc = .ok (.putfield idx, 3))
    (k : ∀ T' h', Cx p l e R s m args below meth c Z own nm bytes maxL rt T' (locs ++ [⟨a, RoadKit.slotOf Z O n d⟩]) cells slots h' → Wr h h' a (RoadKit.slotOf Z O n d) v → Go p e below En T' m pc' Ls st) (hp : pc + 3 = pc' := by rfl) : Go p e below En T m pc Ls (v :: .ref a :: st) := by
  subst hp
  obtain ⟨T', h', X', e', W, st'⟩ := RoadKit.putF (host := "") X.sd X.hx X.hZ X.hown (Or.inl w) Via.refl X.eq F E (L.imp id fun q => ⟨q.1, q.2.1, X.hnm.trans q.2.2⟩) wi hty hn hf (g := mkF m pc Ls (v :: .ref a :: st)) rfl rfl (hb X.hby hd)
  exact Go.step st' (k T' h' (X.mk' X' e' (Fr.snoc X' X.fr ha) (Ext.wr X.old W ha)) W)
theorem Go.newO (X : Cx p l e R s m args below meth c Z own nm bytes maxL rt T locs cells slots h) (pc' : Nat) {C : String} {idx n : Nat} (w : (Jvm.Cond.classLink own idx C).before a0 Z = true) (wi : (Jvm.Cond.instantiable C n).before a0 Z = true) (wz : (Jvm.Cond.initialized C).before a0 Z = true) (hd : decode bytes pc = .ok (.new idx, 3)) (hc : cells + 1 ≤ R.cells) (hl : slots + n ≤ R.slots)
    (k : ∀ T' h' a, Cx p l e R s m args below meth c Z own nm bytes maxL rt T' locs (cells + 1) (slots + n) h' → Ext h h' → h.size = a → Exa Z h' a C → (∀ {O nm d : String} {ty : FieldType}, Laid Z a0 C O nm d → parseFieldDescriptor d = some ty → Fld Z h' a O nm d (defaultValue ty)) → Go p e below En T' m pc' Ls (.ref a :: st)) (hp : pc + 3 = pc' := by rfl) : Go p e below En T m pc Ls st := by
  subst hp
  obtain ⟨T', h', X', e', E, A, D, -, st'⟩ := RoadKit.newO X.sd X.hx X.hZ X.hown w wi wz X.eq (g := mkF m pc Ls st) rfl (hb X.hby hd) hc hl
  exact Go.step st' (k T' h' _ (X.mk' X' e' X.fr (Ext.tr X.old E)) E rfl A D)
theorem Go.initO (X : Cx p l e R s m args below meth c Z own nm bytes maxL rt T locs cells slots h) (pc' : Nat) {idx : Nat} {a : Addr} (w1 : (Jvm.Cond.methodLink own idx Lib.objectInit).before a0 Z = true) (w2 : (Jvm.Cond.instanceMethod Lib.objectInit).before a0 Z = true) (w3 : (Jvm.Cond.code Lib.objectInit ⟨#[0xb1]⟩ 1 none).before a0 Z = true) (W : Nat) (hd : decode bytes pc = .ok (.invokespecial idx, 3)) (hsz : Ls.size = maxL) (hf : 1 ≤ R.frames) (hW : (st.map fun v => v.category).sum ≤ W) (hl : W + 12 ≤ R.locals)
    (k : ∀ T', Cx p l e R s m args below meth c Z own nm bytes maxL rt T' locs cells slots h → Go p e below En T' m pc' Ls st) (hp : pc + 3 = pc' := by rfl) : Go p e below En T m pc Ls (.ref a :: st) := by
  subst hp
  obtain ⟨T', X', e', st'⟩ := RoadKit.initO X.sd X.hx X.hZ X.hown w1 w2 w3 X.eq (g := mkF m pc Ls (.ref a :: st)) rfl (hsz.trans X.hml.symm) rfl (hb X.hby hd) hf (W := W) (by simpa using hW) hl
  exact Go.step st' (k T' (X.mk' X' e' X.fr X.old))
theorem Go.newP (X : Cx p l e R s m args below meth c Z own nm bytes maxL rt T locs cells slots h) (pc' : Nat) {aty : ArrayType} {n : Int32} (w : (Jvm.Cond.arrayClass (newarray.typeOf aty)).before a0 Z = true) (hd : decode bytes pc = .ok (.newarray aty, 2)) (cap : Nat) (hn : ¬ n < 0) (hcap : n.toNatClampNeg ≤ cap) (hb' : cap * 8 ≤ 536870912) (hc : cells + 1 ≤ R.cells) (hl : slots + cap ≤ R.slots)
    (k : ∀ T' h' a kA, Cx p l e R s m args below meth c Z own nm bytes maxL rt T' locs (cells + 1) (slots + cap) h' → Ext h h' → h.size = a → Arv Z h' a kA (newarray.typeOf aty) n [] (defaultValue (newarray.typeOf aty)) → Go p e below En T' m pc' Ls (.ref a :: st)) (hp : pc + 2 = pc' := by rfl) : Go p e below En T m pc Ls (.int n :: st) := by
  subst hp
  obtain ⟨T', h', kA, X', e', E, A, st'⟩ := RoadKit.newP X.sd X.hx X.hZ w X.eq (g := mkF m pc Ls (.int n :: st)) rfl (hb X.hby hd) rfl hn hcap hb' hc hl
  exact Go.step st' (k T' h' _ kA (X.mk' X' e' X.fr (Ext.tr X.old E)) E rfl (Arv.new A hn))
theorem Go.newR (X : Cx p l e R s m args below meth c Z own nm bytes maxL rt T locs cells slots h) (pc' : Nat) {D : String} {idx : Nat} {n : Int32} (w1 : (Jvm.Cond.classLink own idx D).before a0 Z = true) (w2 : (Jvm.Cond.arrayOver (.object D)).before a0 Z = true) (hd : decode bytes pc = .ok (.anewarray idx, 3)) (cap : Nat) (hn : ¬ n < 0) (hcap : n.toNatClampNeg ≤ cap) (hb' : cap * 8 ≤ 536870912) (hc : cells + 1 ≤ R.cells) (hl : slots + cap ≤ R.slots)
    (k : ∀ T' h' a kA, Cx p l e R s m args below meth c Z own nm bytes maxL rt T' locs (cells + 1) (slots + cap) h' → Ext h h' → h.size = a → Ovr Z kA D → Arv Z h' a kA (.object D) n [] .null → Go p e below En T' m pc' Ls (.ref a :: st)) (hp : pc + 3 = pc' := by rfl) : Go p e below En T m pc Ls (.int n :: st) := by
  subst hp
  obtain ⟨T', h', kA, X', e', E, A, O, st'⟩ := RoadKit.newR X.sd X.hx X.hZ X.hown w1 w2 X.eq (g := mkF m pc Ls (.int n :: st)) rfl (hb X.hby hd) rfl hn hcap hb' hc hl
  exact Go.step st' (k T' h' _ kA (X.mk' X' e' X.fr (Ext.tr X.old E)) E rfl O (Arv.new A hn))
theorem Go.stC (X : Cx p l e R s m args below meth c Z own nm bytes maxL rt T locs cells slots h) (pc' : Nat) {a : Addr} {kA : ClassId} {n j x : Int32} {vs : List Value} {d : Value} (V : Arv Z h a kA .char n vs d) (hd : decode bytes pc = .ok (.castore, 1)) (hj : ¬ j < 0 ∧ j < n) (i : Nat) (hi : j.toNatClampNeg = i) (hlt : i < vs.length) (ha : Z.heap.size ≤ a)
    (k : ∀ T' h', Cx p l e R s m args below meth c Z own nm bytes maxL rt T' (locs ++ [⟨a, j.toNatClampNeg⟩]) cells slots h' → Wr h h' a j.toNatClampNeg (.int (nar .char x)) → Arv Z h' a kA .char n (vs.set i (.int (nar .char x))) d → Go p e below En T' m pc' Ls st) (hp : pc + 1 = pc' := by rfl) : Go p e below En T m pc Ls (.int x :: .int j :: .ref a :: st) := by
  subst hp
  obtain ⟨cl, A, q1, S, q3, H, G⟩ := V
  obtain ⟨T', h', X', e', W, st'⟩ := RoadKit.stC X.sd X.hx X.hZ X.eq A (inb_of S hj) (g := mkF m pc Ls (.int x :: .int j :: .ref a :: st)) rfl rfl (hb X.hby hd)
  exact Go.step st' (k T' h' (X.mk' X' e' (Fr.snoc X' X.fr ha) (Ext.wr X.old W ha)) W (Arv.set A q1 S q3 H G (fits_nar_char x) W i hi hlt))
theorem Go.stB (X : Cx p l e R s m args below meth c Z own nm bytes maxL rt T locs cells slots h) (pc' : Nat) {a : Addr} {kA : ClassId} {n j x : Int32} {vs : List Value} {d : Value} (V : Arv Z h a kA .byte n vs d) (hd : decode bytes pc = .ok (.bastore, 1)) (hj : ¬ j < 0 ∧ j < n) (i : Nat) (hi : j.toNatClampNeg = i) (hlt : i < vs.length) (ha : Z.heap.size ≤ a)
    (k : ∀ T' h', Cx p l e R s m args below meth c Z own nm bytes maxL rt T' (locs ++ [⟨a, j.toNatClampNeg⟩]) cells slots h' → Wr h h' a j.toNatClampNeg (.int (nar .byte x)) → Arv Z h' a kA .byte n (vs.set i (.int (nar .byte x))) d → Go p e below En T' m pc' Ls st) (hp : pc + 1 = pc' := by rfl) : Go p e below En T m pc Ls (.int x :: .int j :: .ref a :: st) := by
  subst hp
  obtain ⟨cl, A, q1, S, q3, H, G⟩ := V
  obtain ⟨T', h', X', e', W, st'⟩ := RoadKit.stB X.sd X.hx X.hZ X.eq A (inb_of S hj) (g := mkF m pc Ls (.int x :: .int j :: .ref a :: st)) rfl rfl (hb X.hby hd)
  exact Go.step st' (k T' h' (X.mk' X' e' (Fr.snoc X' X.fr ha) (Ext.wr X.old W ha)) W (Arv.set A q1 S q3 H G (fits_nar_byte x) W i hi hlt))
theorem Go.stR (X : Cx p l e R s m args below meth c Z own nm bytes maxL rt T locs cells slots h) (pc' : Nat) {a y : Addr} {kA : ClassId} {D : String} {n j : Int32} {vs : List Value} {d : Value} (V : Arv Z h a kA (.object D) n vs d) (O : Ovr Z kA D) (I : Ins Z h y D true) (hd : decode bytes pc = .ok (.aastore, 1)) (hj : ¬ j < 0 ∧ j < n) (i : Nat) (hi : j.toNatClampNeg = i) (hlt : i < vs.length) (ha : Z.heap.size ≤ a)
    (k : ∀ T' h', Cx p l e R s m args below meth c Z own nm bytes maxL rt T' (locs ++ [⟨a, j.toNatClampNeg⟩]) cells slots h' → Wr h h' a j.toNatClampNeg (.ref y) → Arv Z h' a kA (.object D) n (vs.set i (.ref y)) d → Go p e below En T' m pc' Ls st) (hp : pc + 1 = pc' := by rfl) : Go p e below En T m pc Ls (.ref y :: .int j :: .ref a :: st) := by
  subst hp
  obtain ⟨cl, A, q1, S, q3, H, G⟩ := V
  obtain ⟨T', h', X', e', W, st'⟩ := RoadKit.stR X.sd X.hx X.hZ X.eq A (inb_of S hj) rfl (Sto.ofV A q1 O I) (g := mkF m pc Ls (.ref y :: .int j :: .ref a :: st)) rfl rfl (hb X.hby hd)
  exact Go.step st' (k T' h' (X.mk' X' e' (Fr.snoc X' X.fr ha) (Ext.wr X.old W ha)) W (Arv.set A q1 S q3 H G rfl W i hi hlt))
theorem Go.alen (X : Cx p l e R s m args below meth c Z own nm bytes maxL rt T locs cells slots h) (pc' : Nat) {a : Addr} {kA : ClassId} {ty : FieldType} {n : Int32} {vs : List Value} {d : Value} (V : Arv Z h a kA ty n vs d) (hd : decode bytes pc = .ok (.arraylength, 1)) (k : Go p e below En T m pc' Ls (.int n :: st)) (hp : pc + 1 = pc' := by rfl) : Go p e below En T m pc Ls (.ref a :: st) := by
  subst hp
  obtain ⟨cl, A, q1, S, q3, H, G⟩ := V
  refine Go.step (fun _ hr => X.sd.arraylength X.hx (by rw [X.eq]; exact A.1) (State.isArrayOf_alike X.hZ.alike A.2.1) (g := mkF m pc Ls (.ref a :: st)) rfl rfl (hb X.hby hd) _ hr) ?_
  rw [len_of S q3]; exact k
theorem Go.caload (X : Cx p l e R s m args below meth c Z own nm bytes maxL rt T locs cells slots h) (pc' : Nat) {a : Addr} {kA : ClassId} {n j : Int32} {vs : List Value} {d v : Value} (V : Arv Z h a kA .char n vs d) (hd : decode bytes pc = .ok (.caload, 1)) (hj : ¬ j < 0 ∧ j < n) (u : vs.getD j.toNatClampNeg d = v) (k : Go p e below En T m pc' Ls (v :: st)) (hp : pc + 1 = pc' := by rfl) : Go p e below En T m pc Ls (.int j :: .ref a :: st) := by
  subst hp
  obtain ⟨cl, A, q1, S, q3, H, G⟩ := V
  exact Go.step (fun _ hr => X.sd.caload X.hx (by rw [X.eq]; exact A.1) (State.isArrayOf_alike X.hZ.alike A.2.1) A.2.2 (inb_of S hj) (H.at (inb_of S hj) u) (g := mkF m pc Ls (.int j :: .ref a :: st)) rfl rfl (hb X.hby hd) _ hr) k
theorem Go.baload (X : Cx p l e R s m args below meth c Z own nm bytes maxL rt T locs cells slots h) (pc' : Nat) {a : Addr} {kA : ClassId} {n j : Int32} {vs : List Value} {d v : Value} (V : Arv Z h a kA .byte n vs d) (hd : decode bytes pc = .ok (.baload, 1)) (hj : ¬ j < 0 ∧ j < n) (u : vs.getD j.toNatClampNeg d = v) (k : Go p e below En T m pc' Ls (v :: st)) (hp : pc + 1 = pc' := by rfl) : Go p e below En T m pc Ls (.int j :: .ref a :: st) := by
  subst hp
  obtain ⟨cl, A, q1, S, q3, H, G⟩ := V
  exact Go.step (fun _ hr => X.sd.baloadBytes X.hx (by rw [X.eq]; exact A.1) (State.isArrayOf_alike X.hZ.alike A.2.1) A.2.2 (inb_of S hj) (H.at (inb_of S hj) u) (g := mkF m pc Ls (.int j :: .ref a :: st)) rfl rfl (hb X.hby hd) _ hr) k
theorem Go.aaload (X : Cx p l e R s m args below meth c Z own nm bytes maxL rt T locs cells slots h) (pc' : Nat) {a : Addr} {kA : ClassId} {ty : FieldType} {n j : Int32} {vs : List Value} {d v : Value} (V : Arv Z h a kA ty n vs d) (hty : ty.isReference = true) (hd : decode bytes pc = .ok (.aaload, 1)) (hj : ¬ j < 0 ∧ j < n) (u : vs.getD j.toNatClampNeg d = v) (k : Go p e below En T m pc' Ls (v :: st)) (hp : pc + 1 = pc' := by rfl) : Go p e below En T m pc Ls (.int j :: .ref a :: st) := by
  subst hp
  obtain ⟨cl, A, q1, S, q3, H, G⟩ := V
  exact Go.step (fun _ hr => X.sd.aaload X.hx (by rw [X.eq]; exact A.1) (State.isArrayOf_alike X.hZ.alike A.2.1) hty A.2.2 (inb_of S hj) (H.at (inb_of S hj) u) (g := mkF m pc Ls (.int j :: .ref a :: st)) rfl rfl (hb X.hby hd) _ hr) k
theorem Go.castY (X : Cx p l e R s m args below meth c Z own nm bytes maxL rt T locs cells slots h) (pc' : Nat) {K : String} {idx : Nat} {a : Addr} (w : (Jvm.Cond.classLink own idx K).before a0 Z = true) (F : Ins Z h a K true) (hd : decode bytes pc = .ok (.checkcast idx, 3)) (k : ∀ T', Cx p l e R s m args below meth c Z own nm bytes maxL rt T' locs cells slots h → Go p e below En T' m pc' Ls (.ref a :: st)) (hp : pc + 3 = pc' := by rfl) : Go p e below En T m pc Ls (.ref a :: st) := by
  subst hp
  obtain ⟨T', X', e', st'⟩ := RoadKit.castY X.sd X.hx X.hZ X.hown w X.eq F (g := mkF m pc Ls (.ref a :: st)) rfl rfl (hb X.hby hd)
  exact Go.step st' (k T' (X.mk' X' e' X.fr X.old))
theorem Go.instY (X : Cx p l e R s m args below meth c Z own nm bytes maxL rt T locs cells slots h) (pc' : Nat) {K : String} {idx : Nat} {a : Addr} (w : (Jvm.Cond.classLink own idx K).before a0 Z = true) (F : Ins Z h a K true) (hd : decode bytes pc = .ok (.instanceof idx, 3)) (k : ∀ T', Cx p l e R s m args below meth c Z own nm bytes maxL rt T' locs cells slots h → Go p e below En T' m pc' Ls (.int 1 :: st)) (hp : pc + 3 = pc' := by rfl) : Go p e below En T m pc Ls (.ref a :: st) := by
  subst hp
  obtain ⟨T', X', e', st'⟩ := RoadKit.instY X.sd X.hx X.hZ X.hown w X.eq F (g := mkF m pc Ls (.ref a :: st)) rfl rfl (hb X.hby hd)
  exact Go.step st' (k T' (X.mk' X' e' X.fr X.old))
theorem Go.instNo (X : Cx p l e R s m args below meth c Z own nm bytes maxL rt T locs cells slots h) (pc' : Nat) {K D : String} {idx : Nat} {a : Addr} (w : (Jvm.Cond.classLink own idx K).before a0 Z = true) (E : Exa Z h a D) (F : ∃ c t, Z.vm.findClass D = some c ∧ Z.vm.findClass K = some t ∧ Z.vm.assignable c t = false) (hd : decode bytes pc = .ok (.instanceof idx, 3)) (k : ∀ T', Cx p l e R s m args below meth c Z own nm bytes maxL rt T' locs cells slots h → Go p e below En T' m pc' Ls (.int 0 :: st)) (hp : pc + 3 = pc' := by rfl) : Go p e below En T m pc Ls (.ref a :: st) := by
  subst hp
  obtain ⟨T', X', e', st'⟩ := RoadKit.instNo X.sd X.hx X.hZ X.hown w X.eq E F (g := mkF m pc Ls (.ref a :: st)) rfl rfl (hb X.hby hd)
  exact Go.step st' (k T' (X.mk' X' e' X.fr X.old))
theorem Go.instNull (X : Cx p l e R s m args below meth c Z own nm bytes maxL rt T locs cells slots h) (pc' : Nat) {idx : Nat} (hd : decode bytes pc = .ok (.instanceof idx, 3)) (k : Go p e below En T m pc' Ls (.int 0 :: st)) (hp : pc + 3 = pc' := by rfl) : Go p e below En T m pc Ls (.null :: st) := by
  subst hp
  exact Go.step (Jvm.Stand.instanceofNull X.sd X.hx (g := mkF m pc Ls (.null :: st)) rfl rfl (hb X.hby hd)) k
theorem own_noSub {C S K : String} {n : Nat} (w : (Jvm.Cond.superclass C S).before a0 Z = true) (wk : (Jvm.Cond.instantiable K n).before a0 Z = true) (wr : (Jvm.Cond.noSuperclass S).before a0 Z = true) (h1 : C ≠ K) (h2 : S ≠ K) : ∃ c t, Z.vm.findClass C = some c ∧ Z.vm.findClass K = some t ∧ Z.vm.assignable c t = false := by
  obtain ⟨t, kt, g1, g2, g3, g4, -⟩ := Cond.instantiable_spec wk
  have hi : kt.isInterface = false := by rw [Bool.or_eq_false_iff] at g4; exact g4.1
  have nr : NS Z S K := by
    obtain ⟨c, k, r1, r2, r3, -, -⟩ := Cond.noSuperclass_spec wr
    refine ⟨c, t, r1, g1, fun fuel => ?_⟩
    have ne := ids_ne r1 g1 h2
    cases fuel with
    | zero => rfl
    | succ f => simp [Vm.isSubclassAux, ne, r2, r3]
  obtain ⟨c, t', h0, g0, n3⟩ := NS.step w nr h1
  cases g1.symm.trans g0
  obtain ⟨p, k, kp, -, k2, -, -, k5, -, -⟩ := Cond.superclass_spec h0 w
  have ne := ids_ne h0 g1 h1
  refine ⟨c, t, h0, g1, ?_⟩
  show Z.vm.assignableAux (255 + 1) c t = false
  simp [Vm.assignableAux, ne, k2, g2, k5, g3, hi, Vm.isSubclass, n3]
theorem Go.mono {En' : Option Value → State → Prop} (f : ∀ v t, En' v t → En v t) (k : Go p e below En' T m pc Ls st) : Go p e below En T m pc Ls st := by
  obtain ⟨s₂, v, k1, k2, k3, k4⟩ := k
  exact ⟨s₂, v, k1, k2, k3, f _ _ k4⟩
theorem Cx.back (X : Cx p l e R s m args below meth c Z own nm bytes maxL rt T locs cells slots h) {y : MethodName} {by' : ByteArray} {ml' : Nat} {rt' : Option FieldType} {rm : Room} {as' : Array Value} {Q' : Option Value → Heap → Prop} {len W : Nat} (ct : Ct l Z [] y by' ml' rt' rm as' h Q') (wc : (Jvm.Cond.code y by' ml' rt').before a0 Z = true) (wz : (Jvm.Cond.initialized y.cls).before a0 Z = true) (hf : rm.frames + 1 ≤ R.frames) (hl : W + (ml' + 11) + rm.locals ≤ R.locals) :
    Back l R p e below s args y len W (fun A a => a = as' ∧ A.U.heap = h ∧ A.cells + rm.cells ≤ R.cells ∧ A.slots + rm.slots ≤ R.slots) (fun A _ v B => ∃ L, (Fr Z.heap.size L ∧ Ext Z.heap B.U.heap ∧ Q' v B.U.heap) ∧ B.locs = A.locs ++ L ∧ B.cells = A.cells + rm.cells ∧ B.slots = A.slots + rm.slots) :=
  backOf (Q := fun v hh L => Fr Z.heap.size L ∧ Ext Z.heap hh ∧ Q' v hh) (ct X.old) X.hZ wc wz hf hl
theorem Go.callS (X : Cx p l e R s m args below meth c Z own nm bytes maxL rt T locs cells slots h) (pc' : Nat) {idx : Nat} {y : MethodName} {by' : ByteArray} {ml' : Nat} {rt' : Option FieldType} {rm : Room} {ps : List FieldType} {rr : Option FieldType} {Q' : Option Value → Heap → Prop} (argsL rest : List Value) (W : Nat) (wl : (Jvm.Cond.methodLink own idx y).before a0 Z = true) (ws : (Jvm.Cond.static y).before a0 Z = true) (wz : (Jvm.Cond.initialized y.cls).before a0 Z = true) (hy : y.cls ≠ "java/lang/invoke/MethodHandle" ∧ y.cls ≠ "java/lang/invoke/VarHandle") (wc : (Jvm.Cond.code y by' ml' rt').before a0 Z = true) (pd : parseMethodDescriptor y.desc = some ⟨ps, rr⟩) (hd : decode bytes pc = .ok (.invokestatic idx, 3)) (ct : Ct l Z [] y by' ml' rt' rm (argsL.toArray) h Q') (hlen : argsL.length = ps.length) (hst : st = argsL.reverse ++ rest) (hsz : Ls.size = maxL) (hW : (rest.map fun v => v.category).sum ≤ W) (hf : rm.frames + 1 ≤ R.frames) (hl : W + (ml' + 11) + rm.locals ≤ R.locals) (hce : cells + rm.cells ≤ R.cells) (hsl : slots + rm.slots ≤ R.slots)
    (k : ∀ T' v L, Cx p l e R s m args below meth c Z own nm bytes maxL rt T' (locs ++ L) (cells + rm.cells) (slots + rm.slots) T'.heap → Q' v T'.heap → Go p e below En T' m pc' Ls (v.toList ++ rest)) (hp : pc + 3 = pc' := by rfl) : Go p e below En T m pc Ls st := by
  subst hp
  obtain ⟨v, _, ⟨T', L', k', n'⟩, -, X', ⟨L, hq, e1, e2, e3⟩, st'⟩ := Jvm.LawKit.callS X.sd X.hx (y := y) X.hown (mvT X.hZ wl) (mvT X.hZ ws) (mvT X.hZ wz) (mvT X.hZ wc) hy (X.back (W := W) ct wc wz hf hl) (g := mkF m pc Ls st) rfl (hsz.trans X.hml.symm) (argsL := argsL) (rest := rest) (lenOf pd hlen) hst (by simpa using hW) (hb X.hby hd) (fun _ _ => ⟨rfl, X.eq, hce, hsl⟩)
  dsimp only [Pt.U, Pt.locs, Pt.cells, Pt.slots] at X' e1 e2 e3 st' hq
  subst e1 e2 e3
  exact Go.step st' (k T' v L (X.mk' X' rfl (X.fr.app hq.1) hq.2.1) hq.2.2)
theorem Go.callSP (X : Cx p l e R s m args below meth c Z own nm bytes maxL rt T locs cells slots h) (pc' : Nat) {idx : Nat} {y : MethodName} {by' : ByteArray} {ml' : Nat} {rt' : Option FieldType} {rm : Room} {ps : List FieldType} {rr : Option FieldType} {v : Value} (argsL rest : List Value) (W : Nat) (wl : (Jvm.Cond.methodLink own idx y).before a0 Z = true) (ws : (Jvm.Cond.static y).before a0 Z = true) (wz : (Jvm.Cond.initialized y.cls).before a0 Z = true) (hy : y.cls ≠ "java/lang/invoke/MethodHandle" ∧ y.cls ≠ "java/lang/invoke/VarHandle") (wc : (Jvm.Cond.code y by' ml' rt').before a0 Z = true) (pd : parseMethodDescriptor y.desc = some ⟨ps, rr⟩) (hd : decode bytes pc = .ok (.invokestatic idx, 3)) (ct : Ct l Z [] y by' ml' rt' rm (argsL.toArray) h (Pu h v)) (hlen : argsL.length = ps.length) (hst : st = argsL.reverse ++ rest) (hsz : Ls.size = maxL) (hW : (rest.map fun v => v.category).sum ≤ W) (hf : rm.frames + 1 ≤ R.frames) (hl : W + (ml' + 11) + rm.locals ≤ R.locals) (hce : cells + rm.cells ≤ R.cells) (hsl : slots + rm.slots ≤ R.slots)
    (k : ∀ T' L, Cx p l e R s m args below meth c Z own nm bytes maxL rt T' (locs ++ L) (cells + rm.cells) (slots + rm.slots) h → Go p e below En T' m pc' Ls (v :: rest)) (hp : pc + 3 = pc' := by rfl) : Go p e below En T m pc Ls st :=
  Go.callS X pc' argsL rest W wl ws wz hy wc pd hd ct hlen hst hsz hW hf hl hce hsl (fun T' v' L X' q => by
    obtain ⟨rfl, q2⟩ := q
    rw [q2] at X'
    exact k T' L X') hp
theorem Go.callI (X : Cx p l e R s m args below meth c Z own nm bytes maxL rt T locs cells slots h) (pc' : Nat) {idx : Nat} {y : MethodName} {by' : ByteArray} {ml' : Nat} {rt' : Option FieldType} {rm : Room} {ps : List FieldType} {rr : Option FieldType} {a : Addr} {Q' : Option Value → Heap → Prop} (argsL rest : List Value) (W : Nat) (hy1 : y.name = "<init>") (wl : (Jvm.Cond.methodLink own idx y).before a0 Z = true) (wm : (Jvm.Cond.instanceMethod y).before a0 Z = true) (wz : (Jvm.Cond.initialized y.cls).before a0 Z = true) (hy : y.cls ≠ "java/lang/invoke/MethodHandle" ∧ y.cls ≠ "java/lang/invoke/VarHandle") (hrn : rt' = none) (wc : (Jvm.Cond.code y by' ml' rt').before a0 Z = true) (pd : parseMethodDescriptor y.desc = some ⟨ps, rr⟩) (hd : decode bytes pc = .ok (.invokespecial idx, 3)) (ct : Ct l Z [] y by' ml' rt' rm ((Value.ref a :: argsL).toArray) h Q') (hlen : argsL.length = ps.length) (hst : st = argsL.reverse ++ .ref a :: rest) (hsz : Ls.size = maxL) (hW : (rest.map fun v => v.category).sum ≤ W) (hf : rm.frames + 1 ≤ R.frames) (hl : W + (ml' + 11) + rm.locals ≤ R.locals) (hce : cells + rm.cells ≤ R.cells) (hsl : slots + rm.slots ≤ R.slots)
    (k : ∀ T' v L, Cx p l e R s m args below meth c Z own nm bytes maxL rt T' (locs ++ L) (cells + rm.cells) (slots + rm.slots) T'.heap → Q' v T'.heap → Go p e below En T' m pc' Ls (v.toList ++ rest)) (hp : pc + 3 = pc' := by rfl) : Go p e below En T m pc Ls st := by
  subst hp
  subst hrn
  obtain ⟨v, _, ⟨T', L', k', n'⟩, -, X', ⟨L, hq, e1, e2, e3⟩, st'⟩ := X.sd.specialBack X.hx (y := y) hy1 X.hown (mvT X.hZ wl) (mvT X.hZ wm) (mvT X.hZ wc) hy (X.back (W := W) ct wc wz hf hl) (g := mkF m pc Ls st) rfl (hsz.trans X.hml.symm) (Steps.refl _) (a := a) (argsL := argsL) (rest := rest) (lenOf pd hlen) hst (by simpa using hW) (hb X.hby hd) (fun _ _ => ⟨rfl, X.eq, hce, hsl⟩)
  dsimp only [Pt.U, Pt.locs, Pt.cells, Pt.slots] at X' e1 e2 e3 st' hq
  subst e1 e2 e3
  exact Go.step (fun _ hr => Steps.trans st' hr) (k T' v L (X.mk' X' rfl (X.fr.app hq.1) hq.2.1) hq.2.2)
theorem Go.callIP (X : Cx p l e R s m args below meth c Z own nm bytes maxL rt T locs cells slots h) (pc' : Nat) {idx : Nat} {y : MethodName} {by' : ByteArray} {ml' : Nat} {rt' : Option FieldType} {rm : Room} {ps : List FieldType} {rr : Option FieldType} {a : Addr} {v : Value} (argsL rest : List Value) (W : Nat) (hy1 : y.name = "<init>") (wl : (Jvm.Cond.methodLink own idx y).before a0 Z = true) (wm : (Jvm.Cond.instanceMethod y).before a0 Z = true) (wz : (Jvm.Cond.initialized y.cls).before a0 Z = true) (hy : y.cls ≠ "java/lang/invoke/MethodHandle" ∧ y.cls ≠ "java/lang/invoke/VarHandle") (hrn : rt' = none) (wc : (Jvm.Cond.code y by' ml' rt').before a0 Z = true) (pd : parseMethodDescriptor y.desc = some ⟨ps, rr⟩) (hd : decode bytes pc = .ok (.invokespecial idx, 3)) (ct : Ct l Z [] y by' ml' rt' rm ((Value.ref a :: argsL).toArray) h (Pu h v)) (hlen : argsL.length = ps.length) (hst : st = argsL.reverse ++ .ref a :: rest) (hsz : Ls.size = maxL) (hW : (rest.map fun v => v.category).sum ≤ W) (hf : rm.frames + 1 ≤ R.frames) (hl : W + (ml' + 11) + rm.locals ≤ R.locals) (hce : cells + rm.cells ≤ R.cells) (hsl : slots + rm.slots ≤ R.slots)
    (k : ∀ T' L, Cx p l e R s m args below meth c Z own nm bytes maxL rt T' (locs ++ L) (cells + rm.cells) (slots + rm.slots) h → Go p e below En T' m pc' Ls (v :: rest)) (hp : pc + 3 = pc' := by rfl) : Go p e below En T m pc Ls st :=
  Go.callI X pc' argsL rest W hy1 wl wm wz hy hrn wc pd hd ct hlen hst hsz hW hf hl hce hsl (fun T' v' L X' q => by
    obtain ⟨rfl, q2⟩ := q
    rw [q2] at X'
    exact k T' L X') hp
theorem Go.callV (X : Cx p l e R s m args below meth c Z own nm bytes maxL rt T locs cells slots h) (pc' : Nat) {idx : Nat} {y z : MethodName} {C : String} {by' : ByteArray} {ml' : Nat} {rt' : Option FieldType} {rm : Room} {ps : List FieldType} {rr : Option FieldType} {a : Addr} {Q' : Option Value → Heap → Prop} (argsL rest : List Value) (W : Nat) (wl : (Jvm.Cond.methodLink own idx y).before a0 Z = true) (wd : (Jvm.Cond.declares y).before a0 Z = true) (wf : (Jvm.Cond.selects C y z).before a0 Z = true) (nf : NotFace s y) (wm : (Jvm.Cond.instanceMethod z).before a0 Z = true) (wz : (Jvm.Cond.initialized z.cls).before a0 Z = true) (hy : y.cls ≠ "java/lang/invoke/MethodHandle" ∧ y.cls ≠ "java/lang/invoke/VarHandle") (E : Exa Z h a C) (wc : (Jvm.Cond.code z by' ml' rt').before a0 Z = true) (pd : parseMethodDescriptor y.desc = some ⟨ps, rr⟩) (hd : decode bytes pc = .ok (.invokevirtual idx, 3)) (ct : Ct l Z [] z by' ml' rt' rm ((Value.ref a :: argsL).toArray) h Q') (hlen : argsL.length = ps.length) (hst : st = argsL.reverse ++ .ref a :: rest) (hsz : Ls.size = maxL) (hW : (rest.map fun v => v.category).sum ≤ W) (hf : rm.frames + 1 ≤ R.frames) (hl : W + (ml' + 11) + rm.locals ≤ R.locals) (hce : cells + rm.cells ≤ R.cells) (hsl : slots + rm.slots ≤ R.slots)
    (k : ∀ T' v L, Cx p l e R s m args below meth c Z own nm bytes maxL rt T' (locs ++ L) (cells + rm.cells) (slots + rm.slots) T'.heap → Q' v T'.heap → Go p e below En T' m pc' Ls (v.toList ++ rest)) (hp : pc + 3 = pc' := by rfl) : Go p e below En T m pc Ls st := by
  subst hp
  obtain ⟨cq, kq, qa, qb, qc⟩ := isOf X.hZ X.eq E
  obtain ⟨v, _, ⟨T', L', k', n'⟩, -, X', ⟨L, hq, e1, e2, e3⟩, st'⟩ := X.sd.virtualBack X.hx (y := y) (z := z) X.hown (mvT X.hZ wl) (mvT X.hZ wd) nf (mvT X.hZ wf) (mvT X.hZ wm) hy (X.back (W := W) ct wc wz hf hl) qa qc (g := mkF m pc Ls st) rfl (hsz.trans X.hml.symm) (Steps.refl _) (argsL := argsL) (rest := rest) (lenOf pd hlen) hst (by simpa using hW) (hb X.hby hd) (fun _ _ => ⟨rfl, X.eq, hce, hsl⟩)
  dsimp only [Pt.U, Pt.locs, Pt.cells, Pt.slots] at X' e1 e2 e3 st' hq
  subst e1 e2 e3
  exact Go.step (fun _ hr => Steps.trans st' hr) (k T' v L (X.mk' X' rfl (X.fr.app hq.1) hq.2.1) hq.2.2)
theorem Go.callVP (X : Cx p l e R s m args below meth c Z own nm bytes maxL rt T locs cells slots h) (pc' : Nat) {idx : Nat} {y z : MethodName} {C : String} {by' : ByteArray} {ml' : Nat} {rt' : Option FieldType} {rm : Room} {ps : List FieldType} {rr : Option FieldType} {a : Addr} {v : Value} (argsL rest : List Value) (W : Nat) (wl : (Jvm.Cond.methodLink own idx y).before a0 Z = true) (wd : (Jvm.Cond.declares y).before a0 Z = true) (wf : (Jvm.Cond.selects C y z).before a0 Z = true) (nf : NotFace s y) (wm : (Jvm.Cond.instanceMethod z).before a0 Z = true) (wz : (Jvm.Cond.initialized z.cls).before a0 Z = true) (hy : y.cls ≠ "java/lang/invoke/MethodHandle" ∧ y.cls ≠ "java/lang/invoke/VarHandle") (E : Exa Z h a C) (wc : (Jvm.Cond.code z by' ml' rt').before a0 Z = true) (pd : parseMethodDescriptor y.desc = some ⟨ps, rr⟩) (hd : decode bytes pc = .ok (.invokevirtual idx, 3)) (ct : Ct l Z [] z by' ml' rt' rm ((Value.ref a :: argsL).toArray) h (Pu h v)) (hlen : argsL.length = ps.length) (hst : st = argsL.reverse ++ .ref a :: rest) (hsz : Ls.size = maxL) (hW : (rest.map fun v => v.category).sum ≤ W) (hf : rm.frames + 1 ≤ R.frames) (hl : W + (ml' + 11) + rm.locals ≤ R.locals) (hce : cells + rm.cells ≤ R.cells) (hsl : slots + rm.slots ≤ R.slots)
    (k : ∀ T' L, Cx p l e R s m args below meth c Z own nm bytes maxL rt T' (locs ++ L) (cells + rm.cells) (slots + rm.slots) h → Go p e below En T' m pc' Ls (v :: rest)) (hp : pc + 3 = pc' := by rfl) : Go p e below En T m pc Ls st :=
  Go.callV X pc' argsL rest W wl wd wf nf wm wz hy E wc pd hd ct hlen hst hsz hW hf hl hce hsl (fun T' v' L X' q => by
    obtain ⟨rfl, q2⟩ := q
    rw [q2] at X'
    exact k T' L X') hp
theorem Go.callU (X : Cx p l e R s m args below meth c Z own nm bytes maxL rt T locs cells slots h) (pc' : Nat) {idx : Nat} {y z : MethodName} {C owner : String} {by' : ByteArray} {ml' : Nat} {rt' : Option FieldType} {rm : Room} {ps : List FieldType} {rr : Option FieldType} {a : Addr} {Q' : Option Value → Heap → Prop} (argsL rest : List Value) (W : Nat) (wl : (Jvm.Cond.methodLink own idx y).before a0 Z = true) (wsm : (Jvm.Cond.sameMethod y.cls owner y.name y.desc).before a0 Z = true) (wd : (Jvm.Cond.declares ⟨owner, y.name, y.desc⟩).before a0 Z = true) (wf : (Jvm.Cond.selects C y z).before a0 Z = true) (wm : (Jvm.Cond.instanceMethod z).before a0 Z = true) (wz : (Jvm.Cond.initialized z.cls).before a0 Z = true) (hy : owner ≠ "java/lang/invoke/MethodHandle" ∧ owner ≠ "java/lang/invoke/VarHandle") (E : Exa Z h a C) (wc : (Jvm.Cond.code z by' ml' rt').before a0 Z = true) (pd : parseMethodDescriptor y.desc = some ⟨ps, rr⟩) (hd : decode bytes pc = .ok (.invokevirtual idx, 3)) (ct : Ct l Z [] z by' ml' rt' rm ((Value.ref a :: argsL).toArray) h Q') (hlen : argsL.length = ps.length) (hst : st = argsL.reverse ++ .ref a :: rest) (hsz : Ls.size = maxL) (hW : (rest.map fun v => v.category).sum ≤ W) (hf : rm.frames + 1 ≤ R.frames) (hl : W + (ml' + 11) + rm.locals ≤ R.locals) (hce : cells + rm.cells ≤ R.cells) (hsl : slots + rm.slots ≤ R.slots)
    (k : ∀ T' v L, Cx p l e R s m args below meth c Z own nm bytes maxL rt T' (locs ++ L) (cells + rm.cells) (slots + rm.slots) T'.heap → Q' v T'.heap → Go p e below En T' m pc' Ls (v.toList ++ rest)) (hp : pc + 3 = pc' := by rfl) : Go p e below En T m pc Ls st := by
  subst hp
  obtain ⟨cq, kq, qa, qb, qc⟩ := isOf X.hZ X.eq E
  obtain ⟨v, _, ⟨T', L', k', n'⟩, -, X', ⟨L, hq, e1, e2, e3⟩, st'⟩ := X.sd.virtualBackUp X.hx (x := y) (y := z) X.hown (mvT X.hZ wl) (mvT X.hZ wsm) (mvT X.hZ wd) hy (mvT X.hZ wf) (mvT X.hZ wm) (X.back (W := W) ct wc wz hf hl) qa qc (g := mkF m pc Ls st) rfl (hsz.trans X.hml.symm) (Steps.refl _) (argsL := argsL) (rest := rest) (lenOf pd hlen) hst (by simpa using hW) (hb X.hby hd) (fun _ _ => ⟨rfl, X.eq, hce, hsl⟩)
  dsimp only [Pt.U, Pt.locs, Pt.cells, Pt.slots] at X' e1 e2 e3 st' hq
  subst e1 e2 e3
  exact Go.step (fun _ hr => Steps.trans st' hr) (k T' v L (X.mk' X' rfl (X.fr.app hq.1) hq.2.1) hq.2.2)
theorem Go.callUP (X : Cx p l e R s m args below meth c Z own nm bytes maxL rt T locs cells slots h) (pc' : Nat) {idx : Nat} {y z : MethodName} {C owner : String} {by' : ByteArray} {ml' : Nat} {rt' : Option FieldType} {rm : Room} {ps : List FieldType} {rr : Option FieldType} {a : Addr} {v : Value} (argsL rest : List Value) (W : Nat) (wl : (Jvm.Cond.methodLink own idx y).before a0 Z = true) (wsm : (Jvm.Cond.sameMethod y.cls owner y.name y.desc).before a0 Z = true) (wd : (Jvm.Cond.declares ⟨owner, y.name, y.desc⟩).before a0 Z = true) (wf : (Jvm.Cond.selects C y z).before a0 Z = true) (wm : (Jvm.Cond.instanceMethod z).before a0 Z = true) (wz : (Jvm.Cond.initialized z.cls).before a0 Z = true) (hy : owner ≠ "java/lang/invoke/MethodHandle" ∧ owner ≠ "java/lang/invoke/VarHandle") (E : Exa Z h a C) (wc : (Jvm.Cond.code z by' ml' rt').before a0 Z = true) (pd : parseMethodDescriptor y.desc = some ⟨ps, rr⟩) (hd : decode bytes pc = .ok (.invokevirtual idx, 3)) (ct : Ct l Z [] z by' ml' rt' rm ((Value.ref a :: argsL).toArray) h (Pu h v)) (hlen : argsL.length = ps.length) (hst : st = argsL.reverse ++ .ref a :: rest) (hsz : Ls.size = maxL) (hW : (rest.map fun v => v.category).sum ≤ W) (hf : rm.frames + 1 ≤ R.frames) (hl : W + (ml' + 11) + rm.locals ≤ R.locals) (hce : cells + rm.cells ≤ R.cells) (hsl : slots + rm.slots ≤ R.slots)
    (k : ∀ T' L, Cx p l e R s m args below meth c Z own nm bytes maxL rt T' (locs ++ L) (cells + rm.cells) (slots + rm.slots) h → Go p e below En T' m pc' Ls (v :: rest)) (hp : pc + 3 = pc' := by rfl) : Go p e below En T m pc Ls st :=
  Go.callU X pc' argsL rest W wl wsm wd wf wm wz hy E wc pd hd ct hlen hst hsz hW hf hl hce hsl (fun T' v' L X' q => by
    obtain ⟨rfl, q2⟩ := q
    rw [q2] at X'
    exact k T' L X') hp
theorem Cx.more {cells' slots' : Nat} (X : Cx p l e R s m args below meth c Z own nm bytes maxL rt T locs cells slots h) (q : cells ≤ cells' := by decide) (r : slots ≤ slots' := by decide) : Cx p l e R s m args below meth c Z own nm bytes maxL rt T locs cells' slots' h := X.mk' (X.sd.more q r) X.eq X.fr X.old
theorem Go.join (X : Cx p l e R s m args below meth c Z own nm bytes maxL rt T locs cells slots h) {α : Type} (P : α → Heap → Prop) (pc1 : Nat) (Ls1 : α → Array Slot) (st1 : α → List Value) (c1 s1 : Nat)
    (tail : ∀ T' locs' h' a, Cx p l e R s m args below meth c Z own nm bytes maxL rt T' locs' c1 s1 h' → P a h' → Go p e below En T' m pc1 (Ls1 a) (st1 a))
    (heads : (∀ T' locs' h' a, Cx p l e R s m args below meth c Z own nm bytes maxL rt T' locs' c1 s1 h' → P a h' → Go p e below En T' m pc1 (Ls1 a) (st1 a)) → Go p e below En T m pc Ls st) : Go p e below En T m pc Ls st := heads tail
end Kit

section Ankit
variable {p : Program} {l : Launch} {e : Env} {R : Room} {s : State} {m : MethodId} {args : Array Value} {below : List Frame} {meth : Method} {c : Code} {T : State} {locs : List Loc} {cells slots : Nat} {Z : State} {a0 : Array Value} {h h' : Heap} {own nm : String} {bytes : ByteArray} {maxL : Nat} {rt : Option FieldType} {En : Option Value → State → Prop} {pc : Nat} {Ls : Array Slot} {st : List Value}
theorem n_int {n : Nat} (hn : n < 2147483648) : (Int32.ofNat n).toInt = n := len_toInt hn
theorem n_succ (i : Nat) : Int32.ofNat i + 1 = Int32.ofNat (i + 1) := by rw [Int32.ofNat_add]; rfl
theorem n_lt {i n : Nat} (hi : i < n) (hn : n < 2147483648) : Int32.ofNat i < Int32.ofNat n := by rw [Int32.lt_iff_toInt_lt, n_int hn, n_int (by omega)]; omega
theorem n_nlt {i n : Nat} (hi : n ≤ i) (hn : i < 2147483648) : ¬ Int32.ofNat i < Int32.ofNat n := by rw [Int32.lt_iff_toInt_lt, n_int hn, n_int (by omega)]; omega
theorem n_nn {n : Nat} (hn : n < 2147483648) : ¬ Int32.ofNat n < 0 := by rw [Int32.lt_iff_toInt_lt, n_int hn]; simp
theorem n_cl {n : Nat} (hn : n < 2147483648) : (Int32.ofNat n).toNatClampNeg = n := by simp [Int32.toNatClampNeg, n_int hn]
theorem n_inj {i n : Nat} (hi : i < 2147483648) (hn : n < 2147483648) (q : Int32.ofNat i = Int32.ofNat n) : i = n := by
  have := congrArg Int32.toInt q
  rw [n_int hi, n_int hn] at this
  omega
theorem n_b (x : Int32) : x.toInt8.toInt32.toInt8.toInt32 = x.toInt8.toInt32 := by simp
theorem n_nb (x : Int32) : nar .byte x.toInt8.toInt32 = x.toInt8.toInt32 := n_b x
/-- an array of n ints (bytes, chars ..) that holds f 0, f 1, .. -/
def An (Z : State) (h : Heap) (a : Addr) (ty : FieldType) (n : Nat) (f : Nat → Int32) : Prop := n < 2147483648 ∧ ∃ k vs d, Arv Z h a k ty (Int32.ofNat n) vs d ∧ vs.length = n ∧ ∀ j, j < n → vs.getD j d = Value.int (f j)
def upd (f : Nat → Int32) (i : Nat) (x : Int32) : Nat → Int32 := fun j => if j = i then x else f j
variable {a b : Addr} {ty : FieldType} {n : Nat} {f g : Nat → Int32}
theorem An.len (A : An Z h a ty n f) : n < 2147483648 := A.1
theorem An.lt (A : An Z h a ty n f) : a < h.size := by obtain ⟨-, k, vs, d, V, -⟩ := A; exact V.lt
theorem An.ext (A : An Z h a ty n f) (E : Ext h h') : An Z h' a ty n f := by obtain ⟨q, k, vs, d, V, r⟩ := A; exact ⟨q, k, vs, d, V.ext E, r⟩
theorem An.other {i : Nat} {x : Value} (A : An Z h b ty n f) (W : Wr h h' a i x) (q : b ≠ a) : An Z h' b ty n f := by obtain ⟨q0, k, vs, d, V, r⟩ := A; exact ⟨q0, k, vs, d, V.other W q, r⟩
theorem An.keep {ws : List Addr} (A : An Z h a ty n f) (K : Keep h h' ws) (q : a ∉ ws) : An Z h' a ty n f := by obtain ⟨q0, k, vs, d, V, r⟩ := A; exact ⟨q0, k, vs, d, V.keep K q, r⟩
theorem An.congr (A : An Z h a ty n f) (q : ∀ j, j < n → f j = g j) : An Z h a ty n g := by obtain ⟨q0, k, vs, d, V, r1, r2⟩ := A; exact ⟨q0, k, vs, d, V, r1, fun j hj => by rw [r2 j hj, q j hj]⟩
theorem An.new {k : ClassId} (V : Arv Z h a k ty (Int32.ofNat n) [] (.int 0)) (hn : n < 2147483648) : An Z h a ty n (fun _ => 0) := by
  refine ⟨hn, k, List.replicate n (.int 0), .int 0, V.pad (pad_rep [] (.int 0) n), by simp, fun j hj => ?_⟩
  rw [List.getD_eq_getElem?_getD, List.getElem?_replicate]
  simp [hj]
theorem An.inb (A : An Z h a ty n f) {i : Nat} (hi : i < n) : ¬ Int32.ofNat i < 0 ∧ Int32.ofNat i < Int32.ofNat n := ⟨n_nn (Nat.lt_trans hi A.1), n_lt hi A.1⟩
theorem An.sets {k : ClassId} {vs : List Value} {d : Value} {i : Nat} {x : Int32} (V : Arv Z h a k ty (Int32.ofNat n) (vs.set i (.int x)) d) (hn : n < 2147483648) (hl : vs.length = n) (hi : i < n) (r : ∀ j, j < n → vs.getD j d = Value.int (f j)) : An Z h a ty n (upd f i x) := by
  refine ⟨hn, k, vs.set i (.int x), d, V, by simp [hl], fun j hj => ?_⟩
  unfold upd
  rw [List.getD_eq_getElem?_getD]
  by_cases q : j = i
  · subst q
    rw [List.getElem?_set_self (by omega), if_pos rfl]; rfl
  · rw [List.getElem?_set_ne (Ne.symm q), if_neg q, ← List.getD_eq_getElem?_getD]; exact r j hj
theorem Go.alenN (X : Cx p l e R s m args below meth c Z own nm bytes maxL rt T locs cells slots h) (pc' : Nat) (A : An Z h a ty n f) (hd : decode bytes pc = .ok (.arraylength, 1)) (k : Go p e below En T m pc' Ls (.int (Int32.ofNat n) :: st)) (hp : pc + 1 = pc' := by rfl) : Go p e below En T m pc Ls (.ref a :: st) := by
  obtain ⟨q, kA, vs, d, V, r1, r2⟩ := A
  exact Go.alen X pc' V hd k hp
theorem Go.caN (X : Cx p l e R s m args below meth c Z own nm bytes maxL rt T locs cells slots h) (pc' : Nat) (A : An Z h a .char n f) (i : Nat) (hi : i < n) (hd : decode bytes pc = .ok (.caload, 1)) (k : Go p e below En T m pc' Ls (.int (f i) :: st)) (hp : pc + 1 = pc' := by rfl) : Go p e below En T m pc Ls (.int (Int32.ofNat i) :: .ref a :: st) := by
  have hj := A.inb hi
  obtain ⟨q, kA, vs, d, V, r1, r2⟩ := A
  exact Go.caload X pc' V hd hj (by rw [n_cl (Nat.lt_trans hi q)]; exact r2 i hi) k hp
theorem Go.baN (X : Cx p l e R s m args below meth c Z own nm bytes maxL rt T locs cells slots h) (pc' : Nat) (A : An Z h a .byte n f) (i : Nat) (hi : i < n) (hd : decode bytes pc = .ok (.baload, 1)) (k : Go p e below En T m pc' Ls (.int (f i) :: st)) (hp : pc + 1 = pc' := by rfl) : Go p e below En T m pc Ls (.int (Int32.ofNat i) :: .ref a :: st) := by
  have hj := A.inb hi
  obtain ⟨q, kA, vs, d, V, r1, r2⟩ := A
  exact Go.baload X pc' V hd hj (by rw [n_cl (Nat.lt_trans hi q)]; exact r2 i hi) k hp
theorem Go.stCN (X : Cx p l e R s m args below meth c Z own nm bytes maxL rt T locs cells slots h) (pc' : Nat) {x : Int32} (A : An Z h a .char n f) (i : Nat) (hi : i < n) (hd : decode bytes pc = .ok (.castore, 1)) (ha : Z.heap.size ≤ a)
    (k : ∀ T' h' w, Cx p l e R s m args below meth c Z own nm bytes maxL rt T' (locs ++ [⟨a, w⟩]) cells slots h' → Wr h h' a w (.int (nar .char x)) → An Z h' a .char n (upd f i (nar .char x)) → Go p e below En T' m pc' Ls st) (hp : pc + 1 = pc' := by rfl) : Go p e below En T m pc Ls (.int x :: .int (Int32.ofNat i) :: .ref a :: st) := by
  have hj := A.inb hi
  obtain ⟨q, kA, vs, d, V, r1, r2⟩ := A
  exact Go.stC X pc' V hd hj i (n_cl (Nat.lt_trans hi q)) (by omega) ha (fun T' h' X' W V' => k T' h' _ X' W (An.sets V' q r1 hi r2)) hp
theorem Go.stBN (X : Cx p l e R s m args below meth c Z own nm bytes maxL rt T locs cells slots h) (pc' : Nat) {x : Int32} (A : An Z h a .byte n f) (i : Nat) (hi : i < n) (hd : decode bytes pc = .ok (.bastore, 1)) (ha : Z.heap.size ≤ a)
    (k : ∀ T' h' w, Cx p l e R s m args below meth c Z own nm bytes maxL rt T' (locs ++ [⟨a, w⟩]) cells slots h' → Wr h h' a w (.int (nar .byte x)) → An Z h' a .byte n (upd f i (nar .byte x)) → Go p e below En T' m pc' Ls st) (hp : pc + 1 = pc' := by rfl) : Go p e below En T m pc Ls (.int x :: .int (Int32.ofNat i) :: .ref a :: st) := by
  have hj := A.inb hi
  obtain ⟨q, kA, vs, d, V, r1, r2⟩ := A
  exact Go.stB X pc' V hd hj i (n_cl (Nat.lt_trans hi q)) (by omega) ha (fun T' h' X' W V' => k T' h' _ X' W (An.sets V' q r1 hi r2)) hp
theorem Go.newC (X : Cx p l e R s m args below meth c Z own nm bytes maxL rt T locs cells slots h) (pc' : Nat) (w : (Jvm.Cond.arrayClass .char).before a0 Z = true) (hd : decode bytes pc = .ok (.newarray .char, 2)) (cap : Nat) (hcap : n ≤ cap) (hcp : cap ≤ 67108864) (hc : cells + 1 ≤ R.cells) (hl : slots + cap ≤ R.slots)
    (k : ∀ T' h' a, Cx p l e R s m args below meth c Z own nm bytes maxL rt T' locs (cells + 1) (slots + cap) h' → Ext h h' → h.size = a → An Z h' a .char n (fun _ => 0) → Go p e below En T' m pc' Ls (.ref a :: st)) (hp : pc + 2 = pc' := by rfl) : Go p e below En T m pc Ls (.int (Int32.ofNat n) :: st) := by
  have hn : n < 2147483648 := by omega
  exact Go.newP X pc' (aty := .char) w hd cap (n_nn hn) (by rw [n_cl hn]; exact hcap) (by omega) hc hl (fun T' h' a kA X' E q V => k T' h' a X' E q (An.new V hn)) hp
theorem Go.newB (X : Cx p l e R s m args below meth c Z own nm bytes maxL rt T locs cells slots h) (pc' : Nat) (w : (Jvm.Cond.arrayClass .byte).before a0 Z = true) (hd : decode bytes pc = .ok (.newarray .byte, 2)) (cap : Nat) (hcap : n ≤ cap) (hcp : cap ≤ 67108864) (hc : cells + 1 ≤ R.cells) (hl : slots + cap ≤ R.slots)
    (k : ∀ T' h' a, Cx p l e R s m args below meth c Z own nm bytes maxL rt T' locs (cells + 1) (slots + cap) h' → Ext h h' → h.size = a → An Z h' a .byte n (fun _ => 0) → Go p e below En T' m pc' Ls (.ref a :: st)) (hp : pc + 2 = pc' := by rfl) : Go p e below En T m pc Ls (.int (Int32.ofNat n) :: st) := by
  have hn : n < 2147483648 := by omega
  exact Go.newP X pc' (aty := .byte) w hd cap (n_nn hn) (by rw [n_cl hn]; exact hcap) (by omega) hc hl (fun T' h' a kA X' E q V => k T' h' a X' E q (An.new V hn)) hp
end Ankit
section Wide
variable {p : Program} {l : Launch} {e : Env} {R : Room} {s : State} {m : MethodId} {args : Array Value} {below : List Frame} {meth : Method} {c : Code} {T : State} {locs : List Loc} {cells slots : Nat} {Z : State} {a0 : Array Value} {h h' : Heap} {own nm : String} {bytes : ByteArray} {maxL : Nat} {rt : Option FieldType} {Q : Option Value → Heap → Prop} {ce sl : Nat} {En : Option Value → State → Prop} {pc : Nat} {Ls : Array Slot} {st : List Value} {vm0 : Vm} {EL : List (String × Nat)}
/-- the tables vm0 since the start s -/
def WS (s : State) (vm0 : Vm) (h : Heap) : Prop := ∃ k0, s.Since vm0 k0 ∧ k0 ≤ h.size
theorem WS.le (q : h.size ≤ h'.size) (H : WS s vm0 h) : WS s vm0 h' := by obtain ⟨k, k1, k2⟩ := H; exact ⟨k, k1, Nat.le_trans k2 q⟩
def FinW (s Z : State) (EL : List (String × Nat)) (Q : Option Value → Heap → Prop) (ce sl : Nat) : Option Value → State → Prop := fun v t => ∃ L, (Fr Z.heap.size L ∧ Ext Z.heap t.heap ∧ Q v t.heap) ∧ CHr Z EL s.vm s.heap t.vm t.heap ∧ ReturnedEndW s (.returned v) t L ce sl
def FinL (s Z : State) (Q : Option Value → Heap → Prop) (ce sl : Nat) : Option Value → State → Prop := fun v t => ∃ L, (Fr Z.heap.size L ∧ Ext Z.heap t.heap ∧ Q v t.heap) ∧ ReturnedEndW s (.returned v) t L ce sl
def CtW (l : Launch) (Z : State) (EL : List (String × Nat)) (ws : List Jvm.Cond) (y : MethodName) (bytes : ByteArray) (maxL : Nat) (rt : Option FieldType) (rm : Room) (as' : Array Value) (h : Heap) (Q : Option Value → Heap → Prop) : Prop :=
  Ext Z.heap h → MetFree l y (head1 (Jvm.Cond.code y bytes maxL rt :: ws) rm) (fun a U => a = as' ∧ Z.Warmed39 U.vm ∧ U.heap = h ∧ CHv Z EL U.vm h) (fun _ _ _ _ _ => True) (fun _ U o U' => ∃ v L, o = .returned v ∧ (Fr Z.heap.size L ∧ Ext Z.heap U'.heap ∧ Q v U'.heap) ∧ CHr Z EL U.vm U.heap U'.vm U'.heap ∧ ReturnedEndW U o U' L rm.cells rm.slots)
/-- the law's own contract: at its start the constants' words hold -/
def CtL (l : Launch) (Z : State) (EL : List (String × Nat)) (ws : List Jvm.Cond) (y : MethodName) (bytes : ByteArray) (maxL : Nat) (rt : Option FieldType) (rm : Room) (as' : Array Value) (h : Heap) (Q : Option Value → Heap → Prop) : Prop :=
  Ext Z.heap h → MetFree l y (head1 (Jvm.Cond.code y bytes maxL rt :: ws) rm) (fun a U => a = as' ∧ Z.Warmed39 U.vm ∧ U.heap = h ∧ CHv Z EL U.vm h) (fun _ _ _ _ _ => True) (fun _ U o U' => ∃ v L, o = .returned v ∧ (Fr Z.heap.size L ∧ Ext Z.heap U'.heap ∧ Q v U'.heap) ∧ ReturnedEndW U o U' L rm.cells rm.slots)
theorem CtW.of {y : MethodName} {ws : List Jvm.Cond} {rm : Room} {as' : Array Value} {Ls0 : Array Slot} (pn : plainName y.cls = true) (ef : ∀ m, entryFrame m as' maxL = mkF m 0 Ls0 [])
    (body : ∀ p e s m below meth c s₁, Cx p l e rm (s.setVm s.vm) m as' below meth c Z y.cls y.name bytes maxL rt s₁ [] 0 0 h → WS s s.vm h → CHr Z EL s.vm s.heap s.vm h → Go p e below (FinW s Z EL Q rm.cells rm.slots) s₁ m 0 Ls0 []) : CtW l Z EL ws y bytes maxL rt rm as' h Q := by
  intro hE
  refine MetFree.of_bodySF (plainFor_of_name pn) hisR ?_
  intro p e s m args below meth c s₁ Bd hml0 hP hK
  obtain ⟨rfl, hZ, hh, hC⟩ := hP
  have hown : s.vm.findClass y.cls = some m.cls := findClass_of_methodNamed Bd.named
  have hnm := (name_of_methodNamed Bd.named Bd.method).1
  have X0 : Stand p l e rm s m args below meth c s₁ [] 0 0 := Stand.of_body Bd
  have e0 : s₁.heap = h := by rw [← hh, Bd.state]; rfl
  obtain ⟨s₂, v, k1, k2, k3, L, k5, k6, k7⟩ := body p e s m below meth c s₁ ⟨X0, Bd.exec, hZ, hown, Bd.bytes, hml0, Bd.returns, hnm, Bd.notSynchronized, e0, Fr.nil _, hE⟩ ⟨0, (State.WarmedH.refl s).since 0, Nat.zero_le _⟩ (by rw [hh]; exact CHr.refl hC)
  exact ⟨s₂, _, castTop (ef m) k1, k2, k3, v, L, rfl, k5, k6, k7⟩
theorem CtL.of {y : MethodName} {ws : List Jvm.Cond} {rm : Room} {as' : Array Value} {Ls0 : Array Slot} (pn : plainName y.cls = true) (ef : ∀ m, entryFrame m as' maxL = mkF m 0 Ls0 [])
    (body : ∀ p e s m below meth c s₁, Cx p l e rm (s.setVm s.vm) m as' below meth c Z y.cls y.name bytes maxL rt s₁ [] 0 0 h → WS s s.vm h → CHv Z EL s.vm h → Go p e below (FinL s Z Q rm.cells rm.slots) s₁ m 0 Ls0 []) : CtL l Z EL ws y bytes maxL rt rm as' h Q := by
  intro hE
  refine MetFree.of_bodySF (plainFor_of_name pn) hisR ?_
  intro p e s m args below meth c s₁ Bd hml0 hP hK
  obtain ⟨rfl, hZ, hh, hC⟩ := hP
  have hown : s.vm.findClass y.cls = some m.cls := findClass_of_methodNamed Bd.named
  have hnm := (name_of_methodNamed Bd.named Bd.method).1
  have X0 : Stand p l e rm s m args below meth c s₁ [] 0 0 := Stand.of_body Bd
  have e0 : s₁.heap = h := by rw [← hh, Bd.state]; rfl
  obtain ⟨s₂, v, k1, k2, k3, L, k5, k6⟩ := body p e s m below meth c s₁ ⟨X0, Bd.exec, hZ, hown, Bd.bytes, hml0, Bd.returns, hnm, Bd.notSynchronized, e0, Fr.nil _, hE⟩ ⟨0, (State.WarmedH.refl s).since 0, Nat.zero_le _⟩ hC
  exact ⟨s₂, _, castTop (ef m) k1, k2, k3, v, L, rfl, k5, k6⟩
theorem Cx.finL (X : Cx p l e R (s.setVm vm0) m args below meth c Z own nm bytes maxL rt T locs cells slots h) (hS : WS s vm0 h) {v : Option Value} (hQ : Q v h) (hc : cells ≤ ce) (hs : slots ≤ sl) (hv : rt = none → v = none := by (intro q; first | rfl | (cases q; done))) : Lv e below (FinL s Z Q ce sl) T m v := by
  have hlk := X.hlk
  obtain ⟨k0, hk1, hk2⟩ := hS
  obtain ⟨fs, hr, hrun, hended, r1, r2, r3, r4⟩ := X.sd.leaveW hk1 (by rw [X.eq]; exact hk2) (v := v) (fun q => hv (X.hrt ▸ q)) hlk
  have q : (T.setFrames fs).heap = h := X.eq
  exact ⟨fs, hr, hrun, hended, locs, ⟨X.fr, by rw [q]; exact X.old, by rw [q]; exact hQ⟩, r1, r2, r3, r4.mono hc hs⟩
theorem Cx.finW (X : Cx p l e R (s.setVm vm0) m args below meth c Z own nm bytes maxL rt T locs cells slots h) (hEL : EW Z a0 EL) (hS : WS s vm0 h) (H : CHr Z EL s.vm s.heap vm0 h) {v : Option Value} (hQ : Q v h) (hc : cells ≤ ce) (hs : slots ≤ sl) (hv : rt = none → v = none := by (intro q; first | rfl | (cases q; done))) : Lv e below (FinW s Z EL Q ce sl) T m v := by
  have hlk := X.hlk
  obtain ⟨k0, hk1, hk2⟩ := hS
  obtain ⟨fs, hr, hrun, hended, r1, r2, r3, r4⟩ := X.sd.leaveW hk1 (by rw [X.eq]; exact hk2) (v := v) (fun q => hv (X.hrt ▸ q)) hlk
  have q : (T.setFrames fs).heap = h := X.eq
  have hAt : CHr Z EL vm0 h T.vm h := CHv.at X.sd X.hZ hEL H.1
  exact ⟨fs, hr, hrun, hended, locs, ⟨X.fr, by rw [q]; exact X.old, by rw [q]; exact hQ⟩, by rw [q]; exact H.trans hAt, r1, r2, r3, r4.mono hc hs⟩
theorem Cx.backW (X : Cx p l e R (s.setVm vm0) m args below meth c Z own nm bytes maxL rt T locs cells slots h) {y : MethodName} {by' : ByteArray} {ml' : Nat} {rt' : Option FieldType} {rm : Room} {as' : Array Value} {Q' : Option Value → Heap → Prop} {len W : Nat} (hEL : EW Z a0 EL) (H : CHv Z EL vm0 h) (ct : CtW l Z EL [] y by' ml' rt' rm as' h Q') (wc : (Jvm.Cond.code y by' ml' rt').before a0 Z = true) (wz : (Jvm.Cond.initialized y.cls).before a0 Z = true) (hf : rm.frames + 1 ≤ R.frames) (hl : W + (ml' + 11) + rm.locals ≤ R.locals) :
    BackS l R p e below (s.setVm vm0) args y len W (fun A a => a = as' ∧ A.U.heap = h ∧ A.cells + rm.cells ≤ R.cells ∧ A.slots + rm.slots ≤ R.slots) (fun A _ v B => ∃ L, (Fr Z.heap.size L ∧ Ext Z.heap B.U.heap ∧ Q' v B.U.heap) ∧ B.locs = A.locs ++ L ∧ B.cells = A.cells + rm.cells ∧ B.slots = A.slots + rm.slots ∧ CHr Z EL vm0 h B.U.vm B.U.heap) :=
  backOfSH (Q := fun v hh L => Fr Z.heap.size L ∧ Ext Z.heap hh ∧ Q' v hh) (ct X.old) X.hZ wc wz hf hl hEL H
theorem Go.ldcW (X : Cx p l e R (s.setVm vm0) m args below meth c Z own nm bytes maxL rt T locs cells slots h) (pc' : Nat) {idx : Nat} {text : String} (hEL : EW Z a0 EL) (hS : WS s vm0 h) (H : CHv Z EL vm0 h) (w : (Jvm.Cond.stringLink own idx text).before a0 Z = true) (wS : ∀ a ∈ Bundle.stringAtoms, a.before a0 Z = true) (hmem : (own, idx) ∈ EL) {vs : List Value} {z : Int32} (ht : (∀ c ∈ text.toList, c.toNat < 256) ∧ text.toList.map (fun c => Value.int (Jvm.Lit.byteI c.toNat.toUInt16)) = vs) (hz : ¬ z < 0) (hl : z.toNatClampNeg = vs.length) (hd : decode bytes pc = .ok (.ldc idx, 2)) {n : Nat} (hn : 4 * text.toList.length ≤ n) (hbig : n ≤ 536870912) (hc : cells + 2 ≤ R.cells) (hl' : slots + (n + 4) ≤ R.slots)
    (k : ∀ T' h' vm1 a b kA, Cx p l e R (s.setVm vm1) m args below meth c Z own nm bytes maxL rt T' locs (cells + 2) (slots + (n + 4)) h' → WS s vm1 h' → Ext h h' → CHr Z EL vm0 h vm1 h' → Exa Z h' a "java/lang/String" → Fld Z h' a "java/lang/String" "coder" "B" (.int 0) → Fld Z h' a "java/lang/String" "value" "[B" (.ref b) → Arv Z h' b kA .byte z vs (.int 0) → (∀ x, Safe Z EL vm1 h' x → x ≠ a ∧ x ≠ b) → Go p e below En T' m pc' Ls (.ref a :: st)) (hp : pc + 2 = pc' := by rfl) : Go p e below En T m pc Ls st := by
  subst hp
  obtain ⟨k0, hk1, hk2⟩ := hS
  obtain ⟨a, T', h', k1, b, kA, Y, e', E, y1, y2, y3, y4, r1, r2, r3, r4, -, -, r5, -, r6, st'⟩ := ldcCH X.sd X.hx X.hZ X.hown w wS X.eq hk1 hk2 hEL hmem H ht hz hl (g := mkF m pc Ls st) rfl (hb X.hby hd) hn hbig hc hl'
  exact Go.step st' (k T' h' T'.vm a b kA ⟨Y, X.hx, y3, y4, X.hby, X.hml, X.hrt, X.hnm, X.hlk, e', X.fr, Ext.tr X.old E⟩ ⟨_, y1, y2⟩ E r5 r1 r2 r3 r4 r6)
theorem Go.callIW (X : Cx p l e R (s.setVm vm0) m args below meth c Z own nm bytes maxL rt T locs cells slots h) (pc' : Nat) {idx : Nat} {y : MethodName} {by' : ByteArray} {ml' : Nat} {rt' : Option FieldType} {rm : Room} {ps : List FieldType} {rr : Option FieldType} {a : Addr} {Q' : Option Value → Heap → Prop} (hEL : EW Z a0 EL) (hS : WS s vm0 h) (H : CHv Z EL vm0 h) (argsL rest : List Value) (W : Nat) (hy1 : y.name = "<init>") (wl : (Jvm.Cond.methodLink own idx y).before a0 Z = true) (wm : (Jvm.Cond.instanceMethod y).before a0 Z = true) (wz : (Jvm.Cond.initialized y.cls).before a0 Z = true) (hy : y.cls ≠ "java/lang/invoke/MethodHandle" ∧ y.cls ≠ "java/lang/invoke/VarHandle") (hrn : rt' = none) (wc : (Jvm.Cond.code y by' ml' rt').before a0 Z = true) (pd : parseMethodDescriptor y.desc = some ⟨ps, rr⟩) (hd : decode bytes pc = .ok (.invokespecial idx, 3)) (ct : CtW l Z EL [] y by' ml' rt' rm ((Value.ref a :: argsL).toArray) h Q') (hlen : argsL.length = ps.length) (hst : st = argsL.reverse ++ .ref a :: rest) (hsz : Ls.size = maxL) (hW : (rest.map fun v => v.category).sum ≤ W) (hf : rm.frames + 1 ≤ R.frames) (hl : W + (ml' + 11) + rm.locals ≤ R.locals) (hce : cells + rm.cells ≤ R.cells) (hsl : slots + rm.slots ≤ R.slots)
    (k : ∀ T' v L vm1, Cx p l e R (s.setVm vm1) m args below meth c Z own nm bytes maxL rt T' (locs ++ L) (cells + rm.cells) (slots + rm.slots) T'.heap → WS s vm1 T'.heap → CHr Z EL vm0 h vm1 T'.heap → Q' v T'.heap → Go p e below En T' m pc' Ls (v.toList ++ rest)) (hp : pc + 3 = pc' := by rfl) : Go p e below En T m pc Ls st := by
  subst hp
  subst hrn
  obtain ⟨v, _, ⟨T', L', k', n'⟩, -, X', hS2, hg, ⟨L, hq, e1, e2, e3, hr⟩, st'⟩ := X.sd.specialBackS X.hx (y := y) hy1 X.hown (mvT X.hZ wl) (mvT X.hZ wm) (mvT X.hZ wc) hy (X.backW (W := W) hEL H ct wc wz hf hl) (g := mkF m pc Ls st) rfl (hsz.trans X.hml.symm) (Steps.refl _) (a := a) (argsL := argsL) (rest := rest) (lenOf pd hlen) hst (by simpa using hW) (hb X.hby hd) (fun _ _ => ⟨rfl, X.eq, hce, hsl⟩)
  dsimp only [Pt.U, Pt.locs, Pt.cells, Pt.slots] at X' e1 e2 e3 st' hq hg hS2 hr
  subst e1 e2 e3
  obtain ⟨k0, hk1, hk2⟩ := hS
  rw [X.eq] at hg
  obtain ⟨Y, y2, y3, y4⟩ := rebS (Z := Z) (own := own) hk1 hk2 X' hS2 hg X.hZ X.hown
  exact Go.step (fun _ hz => Steps.trans st' hz) (k T' v L T'.vm ⟨Y, X.hx, y3, y4, X.hby, X.hml, X.hrt, X.hnm, X.hlk, rfl, X.fr.app hq.1, hq.2.1⟩ ⟨_, y2, Nat.le_refl _⟩ hr hq.2.2)
theorem Go.callSW (X : Cx p l e R (s.setVm vm0) m args below meth c Z own nm bytes maxL rt T locs cells slots h) (pc' : Nat) {idx : Nat} {y : MethodName} {by' : ByteArray} {ml' : Nat} {rt' : Option FieldType} {rm : Room} {ps : List FieldType} {rr : Option FieldType} {Q' : Option Value → Heap → Prop} (hEL : EW Z a0 EL) (hS : WS s vm0 h) (H : CHv Z EL vm0 h) (argsL rest : List Value) (W : Nat) (wl : (Jvm.Cond.methodLink own idx y).before a0 Z = true) (ws : (Jvm.Cond.static y).before a0 Z = true) (wz : (Jvm.Cond.initialized y.cls).before a0 Z = true) (hy : y.cls ≠ "java/lang/invoke/MethodHandle" ∧ y.cls ≠ "java/lang/invoke/VarHandle") (wc : (Jvm.Cond.code y by' ml' rt').before a0 Z = true) (pd : parseMethodDescriptor y.desc = some ⟨ps, rr⟩) (hd : decode bytes pc = .ok (.invokestatic idx, 3)) (ct : CtW l Z EL [] y by' ml' rt' rm (argsL.toArray) h Q') (hlen : argsL.length = ps.length) (hst : st = argsL.reverse ++ rest) (hsz : Ls.size = maxL) (hW : (rest.map fun v => v.category).sum ≤ W) (hf : rm.frames + 1 ≤ R.frames) (hl : W + (ml' + 11) + rm.locals ≤ R.locals) (hce : cells + rm.cells ≤ R.cells) (hsl : slots + rm.slots ≤ R.slots)
    (k : ∀ T' v L vm1, Cx p l e R (s.setVm vm1) m args below meth c Z own nm bytes maxL rt T' (locs ++ L) (cells + rm.cells) (slots + rm.slots) T'.heap → WS s vm1 T'.heap → CHr Z EL vm0 h vm1 T'.heap → Q' v T'.heap → Go p e below En T' m pc' Ls (v.toList ++ rest)) (hp : pc + 3 = pc' := by rfl) : Go p e below En T m pc Ls st := by
  subst hp
  obtain ⟨v, _, ⟨T', L', k', n'⟩, -, X', hS2, hg, ⟨L, hq, e1, e2, e3, hr⟩, st'⟩ := callSS X.sd X.hx (y := y) X.hown (mvT X.hZ wl) (mvT X.hZ ws) (mvT X.hZ wz) (mvT X.hZ wc) hy (X.backW (W := W) hEL H ct wc wz hf hl) (g := mkF m pc Ls st) rfl (hsz.trans X.hml.symm) (argsL := argsL) (rest := rest) (lenOf pd hlen) hst (by simpa using hW) (hb X.hby hd) (fun _ _ => ⟨rfl, X.eq, hce, hsl⟩)
  dsimp only [Pt.U, Pt.locs, Pt.cells, Pt.slots] at X' e1 e2 e3 st' hq hg hS2 hr
  subst e1 e2 e3
  obtain ⟨k0, hk1, hk2⟩ := hS
  rw [X.eq] at hg
  obtain ⟨Y, y2, y3, y4⟩ := rebS (Z := Z) (own := own) hk1 hk2 X' hS2 hg X.hZ X.hown
  exact Go.step (fun _ hz => Steps.trans st' hz) (k T' v L T'.vm ⟨Y, X.hx, y3, y4, X.hby, X.hml, X.hrt, X.hnm, X.hlk, rfl, X.fr.app hq.1, hq.2.1⟩ ⟨_, y2, Nat.le_refl _⟩ hr hq.2.2)
end Wide
theorem pd_0 : parseMethodDescriptor "(I)I" = some ⟨[.int], some .int⟩ := by decide +kernel
theorem pd_1 : parseMethodDescriptor "([BII)V" = some ⟨[(.array .byte), .int, .int], none⟩ := by decide +kernel
theorem pd_2 : parseMethodDescriptor "(I)[B" = some ⟨[.int], some (.array .byte)⟩ := by decide +kernel
theorem pd_3 : parseMethodDescriptor "([CI[BII)I" = some ⟨[(.array .char), .int, (.array .byte), .int, .int], some .int⟩ := by decide +kernel
theorem pd_4 : parseMethodDescriptor "([CII)[B" = some ⟨[(.array .char), .int, .int], some (.array .byte)⟩ := by decide +kernel
theorem pd_5 : parseMethodDescriptor "([BI)C" = some ⟨[(.array .byte), .int], some .char⟩ := by decide +kernel
theorem pd_6 : parseMethodDescriptor "([BI)B" = some ⟨[(.array .byte), .int], some .byte⟩ := by decide +kernel
theorem pd_7 : parseMethodDescriptor "([CIILjava/lang/Void;)V" = some ⟨[(.array .char), .int, .int, (.object "java/lang/Void")], none⟩ := by decide +kernel
theorem pd_8 : parseMethodDescriptor "(IILjava/util/function/BiFunction;)I" = some ⟨[.int, .int, (.object "java/util/function/BiFunction")], some .int⟩ := by decide +kernel
theorem pd_9 : parseMethodDescriptor "(II)V" = some ⟨[.int, .int], none⟩ := by decide +kernel
theorem pd_10 : parseMethodDescriptor "([B)I" = some ⟨[(.array .byte)], some .int⟩ := by decide +kernel
theorem pd_11 : parseMethodDescriptor "(I[B)V" = some ⟨[.int, (.array .byte)], none⟩ := by decide +kernel
theorem pd_12 : parseMethodDescriptor "()Z" = some ⟨[], some .boolean⟩ := by decide +kernel
theorem pd_13 : parseMethodDescriptor "(I)C" = some ⟨[.int], some .char⟩ := by decide +kernel
theorem pd_14 : parseMethodDescriptor "([C)V" = some ⟨[(.array .char)], none⟩ := by decide +kernel
theorem pd_15 : parseMethodDescriptor "(Ljava/lang/String;)I" = some ⟨[(.object "java/lang/String")], some .int⟩ := by decide +kernel
def lo8 (x : Int32) : Int32 := (x >>> ((0 : Int32) &&& 31)).toInt8.toInt32
def hi8 (x : Int32) : Int32 := (x >>> ((8 : Int32) &&& 31)).toInt8.toInt32
/-- the String at a, its bytes at t, spells the n chars f 0, f 1, .. -/
def Str (Z : State) (h : Heap) (a t : Addr) (n : Nat) (f : Nat → Int32) : Prop :=
  Exa Z h a "java/lang/String" ∧ Fld Z h a "java/lang/String" "value" "[B" (.ref t) ∧ n < 1073741823 ∧ (∀ j, j < n → 0 ≤ (f j).toInt ∧ (f j).toInt < 65536) ∧
  ((Fld Z h a "java/lang/String" "coder" "B" (.int 0) ∧ ∃ g, An Z h t .byte n g ∧ ∀ j, j < n → ¬ 255 < f j ∧ g j = (f j).toInt8.toInt32) ∨
   (Fld Z h a "java/lang/String" "coder" "B" (.int 1) ∧ (∃ j, j < n ∧ 255 < f j) ∧ ∃ g, An Z h t .byte (2 * n) g ∧ ∀ j, j < n → g (2 * j) = lo8 (f j) ∧ g (2 * j + 1) = hi8 (f j)))
section Strings
variable {Z : State} {h h' : Heap} {a t b : Addr} {n : Nat} {f g : Nat → Int32}
theorem Str.exa (S : Str Z h a t n f) : Exa Z h a "java/lang/String" := S.1
theorem Str.lt (S : Str Z h a t n f) : a < h.size := S.1.lt
theorem Str.ltT (S : Str Z h a t n f) : t < h.size := by
  obtain ⟨-, -, -, -, ⟨-, g, A, -⟩ | ⟨-, -, g, A, -⟩⟩ := S
  · exact A.lt
  · exact A.lt
theorem Str.map (S : Str Z h a t n f) (p1 : ∀ {C}, Exa Z h a C → Exa Z h' a C) (p2 : ∀ {C m d v}, Fld Z h a C m d v → Fld Z h' a C m d v) (p3 : ∀ {k g}, An Z h t .byte k g → An Z h' t .byte k g) : Str Z h' a t n f := by
  obtain ⟨S1, S2, S3, S4, ⟨S5, g, A, G⟩ | ⟨S5, S6, g, A, G⟩⟩ := S
  · exact ⟨p1 S1, p2 S2, S3, S4, Or.inl ⟨p2 S5, g, p3 A, G⟩⟩
  · exact ⟨p1 S1, p2 S2, S3, S4, Or.inr ⟨p2 S5, S6, g, p3 A, G⟩⟩
theorem Str.ext (S : Str Z h a t n f) (E : Ext h h') : Str Z h' a t n f := S.map (fun F => F.ext E) (fun F => F.ext E) (fun F => F.ext E)
theorem Str.other {i : Nat} {v : Value} (S : Str Z h a t n f) (W : Wr h h' b i v) (q : a ≠ b) (r : t ≠ b) : Str Z h' a t n f := S.map (fun F => F.wr W) (fun F => F.other W (Or.inl q)) (fun F => F.other W r)
theorem Str.keep {ws : List Addr} (S : Str Z h a t n f) (K : Keep h h' ws) (q : a ∉ ws) (r : t ∉ ws) : Str Z h' a t n f := S.map (fun F => F.keep K) (fun F => F.keep K q) (fun F => F.keep K r)
theorem Str.lat (S : Str Z h a t n f) (hl : ∀ j, j < n → ¬ 255 < f j) : Fld Z h a "java/lang/String" "coder" "B" (.int 0) ∧ ∃ g, An Z h t .byte n g ∧ ∀ j, j < n → ¬ 255 < f j ∧ g j = (f j).toInt8.toInt32 := by
  obtain ⟨-, -, -, -, r | ⟨-, ⟨j, j1, j2⟩, -⟩⟩ := S
  · exact r
  · exact absurd j2 (hl j j1)
theorem Str.congr (S : Str Z h a t n f) (q : ∀ j, j < n → f j = g j) : Str Z h a t n g := by
  obtain ⟨S1, S2, S3, S4, ⟨S5, k, A, G⟩ | ⟨S5, ⟨j, j1, j2⟩, k, A, G⟩⟩ := S
  · exact ⟨S1, S2, S3, fun j hj => q j hj ▸ S4 j hj, Or.inl ⟨S5, k, A, fun j hj => q j hj ▸ G j hj⟩⟩
  · exact ⟨S1, S2, S3, fun j hj => q j hj ▸ S4 j hj, Or.inr ⟨S5, ⟨j, j1, q j j1 ▸ j2⟩, k, A, fun j hj => q j hj ▸ G j hj⟩⟩
theorem n_ge {x : Int32} (h : ¬ x < 0) : 0 ≤ x.toInt := by
  rw [Int32.lt_iff_toInt_lt] at h
  have e0 : (0 : Int32).toInt = 0 := by decide
  omega
/-- a char read back from its low byte -/
theorem n_low {x : Int32} (h0 : 0 ≤ x.toInt) (h1 : ¬ 255 < x) : (x.toInt8.toInt32 &&& 255) = x := by
  apply Int32.toInt_inj.mp
  have e := c_mask x.toInt8.toInt32 255 8 (by decide) (by decide)
  have b := c_i2b x
  rw [Int32.lt_iff_toInt_lt] at h1
  have e2 : (255 : Int32).toInt = 255 := by decide
  rw [e2] at h1
  rw [e]
  have : ((2 ^ 8 : Nat) : Int) = 256 := by decide
  rw [this]
  omega
theorem n_chr {x : Int32} (h0 : 0 ≤ x.toInt) (h1 : x.toInt < 65536) : x.toUInt32.toUInt16.toUInt32.toInt32 = x := by
  apply Int32.toInt_inj.mp
  have := c_i2c x
  omega
theorem n_le {x : Int32} (h : ¬ 255 < x) : x.toInt < 65536 := by
  rw [Int32.lt_iff_toInt_lt] at h
  have e : (255 : Int32).toInt = 255 := by decide
  omega
theorem n_nar {x : Int32} (h0 : 0 ≤ x.toInt) (h1 : x.toInt < 65536) : narrow .char (.int x) = .int x := by
  have := XT.narrow_c x
  rw [n_chr h0 h1] at this
  exact this
theorem n_ne0 {n : Nat} (h : 0 < n) (hn : n < 2147483648) : ¬ Int32.ofNat n = 0 := fun q => by
  have := n_inj hn (by decide) (show Int32.ofNat n = Int32.ofNat 0 from q)
  omega
theorem n_eqb {x y : Int32} (hx : 0 ≤ x.toInt) (hx' : ¬ 255 < x) (hy : 0 ≤ y.toInt) (hy' : ¬ 255 < y) (q : x.toInt8.toInt32 = y.toInt8.toInt32) : x = y := by
  rw [← n_low hx hx', q, n_low hy hy']
end Strings
theorem pn_java_lang_StringUTF16 : plainName "java/lang/StringUTF16" = true := by first | (simp [plainName, overriddenIn]; done) | decide +kernel
theorem dcmp5_0 : decode jdk_52_method_21_code 0 = .ok (.iconst 0, 1) := by decide +kernel
theorem dcmp5_1 : decode jdk_52_method_21_code 1 = .ok (.istore 5, 2) := by decide +kernel
theorem dcmp5_3 : decode jdk_52_method_21_code 3 = .ok (.iload 5, 2) := by decide +kernel
theorem dcmp5_5 : decode jdk_52_method_21_code 5 = .ok (.iload 4, 2) := by decide +kernel
theorem dcmp5_7 : decode jdk_52_method_21_code 7 = .ok (.if_icmp .ge 37, 3) := by decide +kernel
theorem dcmp5_10 : decode jdk_52_method_21_code 10 = .ok (.aload_n 0, 1) := by decide +kernel
theorem dcmp5_11 : decode jdk_52_method_21_code 11 = .ok (.iload_n 1, 1) := by decide +kernel
theorem dcmp5_12 : decode jdk_52_method_21_code 12 = .ok (.caload, 1) := by decide +kernel
theorem dcmp5_13 : decode jdk_52_method_21_code 13 = .ok (.istore 6, 2) := by decide +kernel
theorem dcmp5_15 : decode jdk_52_method_21_code 15 = .ok (.iload 6, 2) := by decide +kernel
theorem dcmp5_17 : decode jdk_52_method_21_code 17 = .ok (.sipush 255, 3) := by decide +kernel
theorem dcmp5_20 : decode jdk_52_method_21_code 20 = .ok (.if_icmp .le 6, 3) := by decide +kernel
theorem dcmp5_23 : decode jdk_52_method_21_code 23 = .ok (.iload 5, 2) := by decide +kernel
theorem dcmp5_25 : decode jdk_52_method_21_code 25 = .ok (.ireturn, 1) := by decide +kernel
theorem dcmp5_26 : decode jdk_52_method_21_code 26 = .ok (.aload_n 2, 1) := by decide +kernel
theorem dcmp5_27 : decode jdk_52_method_21_code 27 = .ok (.iload_n 3, 1) := by decide +kernel
theorem dcmp5_28 : decode jdk_52_method_21_code 28 = .ok (.iload 6, 2) := by decide +kernel
theorem dcmp5_30 : decode jdk_52_method_21_code 30 = .ok (.i2b, 1) := by decide +kernel
theorem dcmp5_31 : decode jdk_52_method_21_code 31 = .ok (.bastore, 1) := by decide +kernel
theorem dcmp5_32 : decode jdk_52_method_21_code 32 = .ok (.iinc 1 1, 3) := by decide +kernel
theorem dcmp5_35 : decode jdk_52_method_21_code 35 = .ok (.iinc 3 1, 3) := by decide +kernel
theorem dcmp5_38 : decode jdk_52_method_21_code 38 = .ok (.iinc 5 1, 3) := by decide +kernel
theorem dcmp5_41 : decode jdk_52_method_21_code 41 = .ok (.goto (-38), 3) := by decide +kernel
theorem dcmp5_44 : decode jdk_52_method_21_code 44 = .ok (.iload 4, 2) := by decide +kernel
theorem dcmp5_46 : decode jdk_52_method_21_code 46 = .ok (.ireturn, 1) := by decide +kernel
def QC (Z : State) (h0 : Heap) (dst : Addr) (n : Nat) (f : Nat → Int32) : Option Value → Heap → Prop := fun v h' => ∃ r g, v = some (.int (Int32.ofNat r)) ∧ r ≤ n ∧ Keep h0 h' [dst] ∧ An Z h' dst .byte n g ∧ (∀ j, j < r → ¬ 255 < f j ∧ g j = (f j).toInt8.toInt32) ∧ (r = n ∨ (r < n ∧ 255 < f r))
set_option maxRecDepth 65536 in
set_option maxHeartbeats 40000000 in
theorem lp_cmp {p : Program} {l : Launch} {e : Env} {R : Room} {s : State} {m : MethodId} {args : Array Value} {below : List Frame} {meth : Method} {c : Code} {Z : State} {nm : String} {ce sl cells slots : Nat} (hce : cells ≤ ce) (hsl : slots ≤ sl) (h0 : Heap) (src dst : Addr) (n : Nat) (f : Nat → Int32) (hne : src ≠ dst) (nd : Z.heap.size ≤ dst) :
    ∀ (k i : Nat), i + k = n → ∀ (T : State) (locs : List Loc) (h : Heap) (g : Nat → Int32) (o6 : Slot), One o6 → Cx p l e R s m args below meth c Z "java/lang/StringUTF16" nm jdk_52_method_21_code 7 (some .int) T locs cells slots h → An Z h src .char n f → An Z h dst .byte n g → (∀ j, j < i → ¬ 255 < f j ∧ g j = (f j).toInt8.toInt32) → Keep h0 h [dst] →
      Go p e below (FinN s Z (QC Z h0 dst n f) ce sl) T m 3 #[.val (.ref src), .val (.int (Int32.ofNat i)), .val (.ref dst), .val (.int (Int32.ofNat i)), .val (.int (Int32.ofNat n)), .val (.int (Int32.ofNat i)), o6] [] := by
  intro k
  induction k with
  | zero =>
    intro i hi T locs h g o6 ho X0 A B hg K
    have hin : i = n := by omega
    subst hin
    refine Go.iload X0 5 dcmp5_3 rfl ?_
    refine Go.iload X0 7 dcmp5_5 rfl ?_
    refine Go.icmpY X0 44 dcmp5_7 (XT.ii_ge_t (n_nlt (Nat.le_refl _) A.1)) ?_
    refine Go.iload X0 46 dcmp5_44 rfl ?_
    exact Go.retI X0 rfl (by simp) rfl dcmp5_46 (X0.fin ⟨_, g, rfl, Nat.le_refl _, K, B, hg, Or.inl rfl⟩ hce hsl)
  | succ k ih =>
    intro i hi T locs h g o6 ho X0 A B hg K
    have hin : i < n := by omega
    refine Go.iload X0 5 dcmp5_3 rfl ?_
    refine Go.iload X0 7 dcmp5_5 rfl ?_
    refine Go.icmpN X0 10 dcmp5_7 (XT.ii_ge_f (n_lt hin A.1)) ?_
    refine Go.aloadN X0 11 dcmp5_10 rfl rfl ?_
    refine Go.iloadN X0 12 dcmp5_11 rfl ?_
    refine Go.caN X0 13 A i hin dcmp5_12 ?_
    refine Go.istore X0 15 #[.val (.ref src), .val (.int (Int32.ofNat i)), .val (.ref dst), .val (.int (Int32.ofNat i)), .val (.int (Int32.ofNat n)), .val (.int (Int32.ofNat i)), .val (.int (f i))] dcmp5_13 (XS.store1 rfl ho rfl) ?_
    refine Go.iload X0 17 dcmp5_15 rfl ?_
    refine Go.sipush X0 20 (255 : Int32) dcmp5_17 ?_
    by_cases c21 : (255 : Int32) < (f i)
    · skip
      refine Go.icmpN X0 23 dcmp5_20 (XT.ii_le_f c21) ?_
      refine Go.iload X0 25 dcmp5_23 rfl ?_
      exact Go.retI X0 rfl (by simp) rfl dcmp5_25 (X0.fin ⟨i, g, rfl, Nat.le_of_lt hin, K, B, hg, Or.inr ⟨hin, c21⟩⟩ hce hsl)
    · skip
      refine Go.icmpY X0 26 dcmp5_20 (XT.ii_le_t c21) ?_
      refine Go.aloadN X0 27 dcmp5_26 rfl rfl ?_
      refine Go.iloadN X0 28 dcmp5_27 rfl ?_
      refine Go.iload X0 30 dcmp5_28 rfl ?_
      refine Go.i2b X0 31 dcmp5_30 ?_
      refine Go.stBN X0 32 B i hin dcmp5_31 nd ?_
      intro T22 h22 w22 X22 W22 V22
      have F23 : An Z h22 src .char n f := A.other W22 hne
      have F24 : An Z h22 dst .byte n (upd g i (nar .byte ((f i).toInt8.toInt32))) := V22
      refine Go.iinc X22 35 (1 : Int32) #[.val (.ref src), .val (.int ((Int32.ofNat i) + (1 : Int32))), .val (.ref dst), .val (.int (Int32.ofNat i)), .val (.int (Int32.ofNat n)), .val (.int (Int32.ofNat i)), .val (.int (f i))] dcmp5_32 rfl rfl ?_
      refine Go.iinc X22 38 (1 : Int32) #[.val (.ref src), .val (.int ((Int32.ofNat i) + (1 : Int32))), .val (.ref dst), .val (.int ((Int32.ofNat i) + (1 : Int32))), .val (.int (Int32.ofNat n)), .val (.int (Int32.ofNat i)), .val (.int (f i))] dcmp5_35 rfl rfl ?_
      refine Go.iinc X22 41 (1 : Int32) #[.val (.ref src), .val (.int ((Int32.ofNat i) + (1 : Int32))), .val (.ref dst), .val (.int ((Int32.ofNat i) + (1 : Int32))), .val (.int (Int32.ofNat n)), .val (.int ((Int32.ofNat i) + (1 : Int32))), .val (.int (f i))] dcmp5_38 rfl rfl ?_
      refine Go.goto X22 3 dcmp5_41 ?_
      rw [n_succ]
      refine ih (i + 1) (by omega) _ _ _ _ _ (One.val rfl) X22 F23 F24 (fun j hj => ?_) (K.wr W22 (Or.inl (List.mem_of_getElem? (i := 0) rfl)))
      by_cases q : j = i
      · subst q
        exact ⟨c21, by simp only [upd, if_pos rfl]; exact n_b _⟩
      · obtain ⟨q1, q2⟩ := hg j (by omega)
        exact ⟨q1, by simp only [upd, if_neg q]; exact q2⟩
theorem ef_cmp5 (m : MethodId) (src : Addr) (z0 : Int32) (dst : Addr) (z1 : Int32) (z2 : Int32) : entryFrame m #[(.ref src), (.int z0), (.ref dst), (.int z1), (.int z2)] 7 = mkF m 0 #[.val (.ref src), .val (.int z0), .val (.ref dst), .val (.int z1), .val (.int z2), .unset, .unset] [] := by first | (simp [entryFrame, mkF, argsToLocals, Value.category]; done) | rfl
set_option maxRecDepth 65536 in
set_option maxHeartbeats 40000000 in
theorem rm_cmp5 (l : Launch) (Z : State) (a0 : Array Value) (hw : ∀ d ∈ tables_1, d.before a0 Z = true) (h0 : Heap) (src dst : Addr) (n : Nat) (f g : Nat → Int32) (hne : src ≠ dst) (nd : Z.heap.size ≤ dst) (A : An Z h0 src .char n f) (B : An Z h0 dst .byte n g) :
    Ct l Z [] (⟨"java/lang/StringUTF16", "compress", "([CI[BII)I"⟩ : MethodName) jdk_52_method_21_code 7 (some .int) (⟨0, 0, 0, 0⟩ : Room) #[(.ref src), (.int (0 : Int32)), (.ref dst), (.int (0 : Int32)), (.int (Int32.ofNat n))] h0 (QC Z h0 dst n f) := by
  refine Ct.of pn_java_lang_StringUTF16 (fun m => ef_cmp5 m src 0 dst 0 (Int32.ofNat n)) ?_
  intro p e s m below meth c s₁ X0
  refine Go.iconst X0 1 (0 : Int32) dcmp5_0 ?_
  refine Go.istore X0 3 #[.val (.ref src), .val (.int (0 : Int32)), .val (.ref dst), .val (.int (0 : Int32)), .val (.int (Int32.ofNat n)), .val (.int (0 : Int32)), .unset] dcmp5_1 rfl ?_
  exact lp_cmp (Nat.le_refl _) (Nat.le_refl _) h0 src dst n f hne nd n 0 (by omega) _ _ _ g _ One.u X0 A B (fun j hj => absurd hj (Nat.not_lt_zero j)) (Keep.refl _ _)
theorem n_cf0 (n : Nat) : (XT.ushr (Int32.ofNat n - Int32.ofNat n) (31 : Int32)).toInt8.toInt32 = 0 := by rw [Int32.sub_self]; decide
theorem n_cf1 {n : Nat} (h0 : 0 < n) (h1 : n < 1073741823) : (XT.ushr (Int32.ofNat n - Int32.ofNat (2 * n)) (31 : Int32)).toInt8.toInt32 = 1 := by
  have e := c_iushr (Int32.ofNat n - Int32.ofNat (2 * n)) 31 31 (by decide) (by decide)
  have d := c_isub (Int32.ofNat n) (Int32.ofNat (2 * n))
  have r := rng32 (Int32.ofNat n - Int32.ofNat (2 * n))
  rw [n_int (by omega), n_int (by omega)] at d
  have p : ((2 ^ 31 : Nat) : Int) = 2147483648 := by decide
  rw [p] at e
  have : XT.ushr (Int32.ofNat n - Int32.ofNat (2 * n)) (31 : Int32) = 1 := by
    apply Int32.toInt_inj.mp
    show ((Int32.ofNat n - Int32.ofNat (2 * n)).toUInt32 >>> ((31 : Int32) &&& 31).toUInt32).toInt32.toInt = (1 : Int32).toInt
    rw [e]
    have : (1 : Int32).toInt = 1 := by decide
    omega
  rw [this]
  decide
theorem dcfal_0 : decode jdk_52_method_15_code 0 = .ok (.iload_n 1, 1) := by decide +kernel
theorem dcfal_1 : decode jdk_52_method_15_code 1 = .ok (.aload_n 0, 1) := by decide +kernel
theorem dcfal_2 : decode jdk_52_method_15_code 2 = .ok (.arraylength, 1) := by decide +kernel
theorem dcfal_3 : decode jdk_52_method_15_code 3 = .ok (.isub, 1) := by decide +kernel
theorem dcfal_4 : decode jdk_52_method_15_code 4 = .ok (.bipush 31, 2) := by decide +kernel
theorem dcfal_6 : decode jdk_52_method_15_code 6 = .ok (.iushr, 1) := by decide +kernel
theorem dcfal_7 : decode jdk_52_method_15_code 7 = .ok (.i2b, 1) := by decide +kernel
theorem dcfal_8 : decode jdk_52_method_15_code 8 = .ok (.ireturn, 1) := by decide +kernel
theorem ef_cfal (m : MethodId) (t : Addr) (z : Int32) : entryFrame m #[(.ref t), (.int z)] 2 = mkF m 0 #[.val (.ref t), .val (.int z)] [] := by first | (simp [entryFrame, mkF, argsToLocals, Value.category]; done) | rfl
set_option maxRecDepth 65536 in
set_option maxHeartbeats 40000000 in
theorem rm_cfal (l : Launch) (Z : State) (a0 : Array Value) (hw : ∀ d ∈ tables_1, d.before a0 Z = true) (h0 : Heap) (t : Addr) (z : Int32) (n k : Nat) (g : Nat → Int32) (r : Int32) (hz : z = Int32.ofNat n) (A : An Z h0 t .byte k g) (hr : (k = n ∧ r = 0) ∨ (k = 2 * n ∧ 0 < n ∧ n < 1073741823 ∧ r = 1)) :
    Ct l Z [] (⟨"java/lang/StringUTF16", "coderFromArrayLen", "([BI)B"⟩ : MethodName) jdk_52_method_15_code 2 (some .byte) (⟨0, 0, 0, 0⟩ : Room) #[(.ref t), (.int z)] h0 (Pu h0 (.int r)) := by
  refine Ct.of pn_java_lang_StringUTF16 (fun m => ef_cfal m t z) ?_
  intro p e s m below meth c s₁ X0
  subst hz
  refine Go.iloadN X0 1 dcfal_0 rfl ?_
  refine Go.aloadN X0 2 dcfal_1 rfl rfl ?_
  refine Go.alenN X0 3 A dcfal_2 ?_
  refine Go.isub X0 4 dcfal_3 ?_
  refine Go.bipush X0 6 (31 : Int32) dcfal_4 ?_
  refine Go.iushr X0 7 dcfal_6 ?_
  refine Go.i2b X0 8 dcfal_7 ?_
  rcases hr with ⟨rfl, rfl⟩ | ⟨rfl, q1, q2, rfl⟩
  · rw [n_cf0]
    exact Go.retI X0 rfl (by simp) rfl dcfal_8 (X0.fin ⟨rfl, rfl⟩ (by decide) (by decide))
  · rw [n_cf1 q1 q2]
    exact Go.retI X0 rfl (by simp) rfl dcfal_8 (X0.fin ⟨rfl, rfl⟩ (by decide) (by decide))
theorem n_u16 {x : Int32} (h0 : 0 ≤ x.toInt) (h1 : x.toInt < 65536) : (((lo8 x &&& 255) <<< ((0 : Int32) &&& 31)) ||| ((hi8 x &&& 255) <<< ((8 : Int32) &&& 31))).toUInt32.toUInt16.toUInt32.toInt32 = x := by
  apply Int32.toInt_inj.mp
  have p8 : ((2 ^ 8 : Nat) : Int) = 256 := by decide
  have p0 : ((2 ^ 0 : Nat) : Int) = 1 := by decide
  have s0 := c_ishr x 0 0 (by decide)
  have s8 := c_ishr x 8 8 (by decide)
  rw [p0] at s0
  rw [p8] at s8
  have b0 : _ ∧ _ ∧ _ := c_i2b (x >>> ((0 : Int32) &&& 31))
  have b8 : _ ∧ _ ∧ _ := c_i2b (x >>> ((8 : Int32) &&& 31))
  have m0 := c_mask (lo8 x) 255 8 (by decide) (by decide)
  have m8 := c_mask (hi8 x) 255 8 (by decide) (by decide)
  rw [p8] at m0 m8
  have l0 := c_ishl (lo8 x &&& 255) 0 0 (by decide)
  have l8 := c_ishl (hi8 x &&& 255) 8 8 (by decide)
  rw [p0] at l0
  rw [p8] at l8
  have r0 := rng32 ((lo8 x &&& 255) <<< ((0 : Int32) &&& 31))
  have r8 := rng32 ((hi8 x &&& 255) <<< ((8 : Int32) &&& 31))
  rw [s0] at b0
  rw [s8] at b8
  have d0 : (lo8 x).toInt = (x >>> ((0 : Int32) &&& 31)).toInt8.toInt32.toInt := rfl
  have d8 : (hi8 x).toInt = (x >>> ((8 : Int32) &&& 31)).toInt8.toInt32.toInt := rfl
  rw [← d0] at b0
  rw [← d8] at b8
  have o := c_or' ((lo8 x &&& 255) <<< ((0 : Int32) &&& 31)) ((hi8 x &&& 255) <<< ((8 : Int32) &&& 31)) 8 (by decide) 256 (by decide) (by omega) (by omega) (by omega)
  have ro := rng32 (((lo8 x &&& 255) <<< ((0 : Int32) &&& 31)) ||| ((hi8 x &&& 255) <<< ((8 : Int32) &&& 31)))
  have c := c_i2c (((lo8 x &&& 255) <<< ((0 : Int32) &&& 31)) ||| ((hi8 x &&& 255) <<< ((8 : Int32) &&& 31)))
  omega
theorem n_shl {n : Nat} (h : n < 1073741823) : Int32.ofNat n <<< ((1 : Int32) &&& 31) = Int32.ofNat (2 * n) := by
  apply Int32.toInt_inj.mp
  have e := c_ishl (Int32.ofNat n) 1 1 (by decide)
  have r := rng32 (Int32.ofNat n <<< ((1 : Int32) &&& 31))
  have p : ((2 ^ 1 : Nat) : Int) = 2 := by decide
  rw [p, n_int (by omega)] at e
  rw [n_int (by omega)]
  omega
theorem dnbl_0 : decode jdk_52_method_3_code 0 = .ok (.iload_n 0, 1) := by decide +kernel
theorem dnbl_1 : decode jdk_52_method_3_code 1 = .ok (.ifCond .ge 11, 3) := by decide +kernel
theorem dnbl_4 : decode jdk_52_method_3_code 4 = .ok (.new 17, 3) := by decide +kernel
theorem dnbl_7 : decode jdk_52_method_3_code 7 = .ok (.dup, 1) := by decide +kernel
theorem dnbl_8 : decode jdk_52_method_3_code 8 = .ok (.invokespecial 19, 3) := by decide +kernel
theorem dnbl_11 : decode jdk_52_method_3_code 11 = .ok (.athrow, 1) := by decide +kernel
theorem dnbl_12 : decode jdk_52_method_3_code 12 = .ok (.iload_n 0, 1) := by decide +kernel
theorem dnbl_13 : decode jdk_52_method_3_code 13 = .ok (.ldc 20, 2) := by decide +kernel
theorem dnbl_15 : decode jdk_52_method_3_code 15 = .ok (.if_icmp .lt 40, 3) := by decide +kernel
theorem dnbl_18 : decode jdk_52_method_3_code 18 = .ok (.new 21, 3) := by decide +kernel
theorem dnbl_21 : decode jdk_52_method_3_code 21 = .ok (.dup, 1) := by decide +kernel
theorem dnbl_22 : decode jdk_52_method_3_code 22 = .ok (.new 23, 3) := by decide +kernel
theorem dnbl_25 : decode jdk_52_method_3_code 25 = .ok (.dup, 1) := by decide +kernel
theorem dnbl_26 : decode jdk_52_method_3_code 26 = .ok (.invokespecial 25, 3) := by decide +kernel
theorem dnbl_29 : decode jdk_52_method_3_code 29 = .ok (.ldc 26, 2) := by decide +kernel
theorem dnbl_31 : decode jdk_52_method_3_code 31 = .ok (.invokevirtual 28, 3) := by decide +kernel
theorem dnbl_34 : decode jdk_52_method_3_code 34 = .ok (.iload_n 0, 1) := by decide +kernel
theorem dnbl_35 : decode jdk_52_method_3_code 35 = .ok (.invokevirtual 32, 3) := by decide +kernel
theorem dnbl_38 : decode jdk_52_method_3_code 38 = .ok (.ldc 35, 2) := by decide +kernel
theorem dnbl_40 : decode jdk_52_method_3_code 40 = .ok (.invokevirtual 28, 3) := by decide +kernel
theorem dnbl_43 : decode jdk_52_method_3_code 43 = .ok (.ldc 20, 2) := by decide +kernel
theorem dnbl_45 : decode jdk_52_method_3_code 45 = .ok (.invokevirtual 32, 3) := by decide +kernel
theorem dnbl_48 : decode jdk_52_method_3_code 48 = .ok (.invokevirtual 37, 3) := by decide +kernel
theorem dnbl_51 : decode jdk_52_method_3_code 51 = .ok (.invokespecial 41, 3) := by decide +kernel
theorem dnbl_54 : decode jdk_52_method_3_code 54 = .ok (.athrow, 1) := by decide +kernel
theorem dnbl_55 : decode jdk_52_method_3_code 55 = .ok (.iload_n 0, 1) := by decide +kernel
theorem dnbl_56 : decode jdk_52_method_3_code 56 = .ok (.iconst 1, 1) := by decide +kernel
theorem dnbl_57 : decode jdk_52_method_3_code 57 = .ok (.ishl, 1) := by decide +kernel
theorem dnbl_58 : decode jdk_52_method_3_code 58 = .ok (.ireturn, 1) := by decide +kernel
theorem ef_nbl (m : MethodId) (z : Int32) : entryFrame m #[(.int z)] 1 = mkF m 0 #[.val (.int z)] [] := by first | (simp [entryFrame, mkF, argsToLocals, Value.category]; done) | rfl
set_option maxRecDepth 65536 in
set_option maxHeartbeats 40000000 in
theorem rm_nbl (l : Launch) (Z : State) (a0 : Array Value) (hw : ∀ d ∈ tables_1, d.before a0 Z = true) (h0 : Heap) (z : Int32) (n : Nat) (hz : z = Int32.ofNat n) (hn : n < 1073741823) :
    Ct l Z [] (⟨"java/lang/StringUTF16", "newBytesLength", "(I)I"⟩ : MethodName) jdk_52_method_3_code 1 (some .int) (⟨0, 0, 0, 0⟩ : Room) #[(.int z)] h0 (Pu h0 (.int (Int32.ofNat (2 * n)))) := by
  refine Ct.of pn_java_lang_StringUTF16 (fun m => ef_nbl m z) ?_
  intro p e s m below meth c s₁ X0
  subst hz
  refine Go.iloadN X0 1 dnbl_0 rfl ?_
  refine Go.if0Y X0 12 dnbl_1 (XT.i0_ge_t (n_nn (by omega))) ?_
  refine Go.iloadN X0 13 dnbl_12 rfl ?_
  refine Go.ldcI X0 15 (hw _ (List.mem_of_getElem? (i := 53) rfl)) dnbl_13 ?_
  refine Go.icmpY X0 55 dnbl_15 (XT.ii_lt_t (n_lt (n := 1073741823) hn (by decide))) ?_
  refine Go.iloadN X0 56 dnbl_55 rfl ?_
  refine Go.iconst X0 57 (1 : Int32) dnbl_56 ?_
  refine Go.ishl X0 58 dnbl_57 ?_
  rw [n_shl hn]
  exact Go.retI X0 rfl (by simp) rfl dnbl_58 (X0.fin ⟨rfl, rfl⟩ (by decide) (by decide))
theorem dnbf_0 : decode jdk_52_method_2_code 0 = .ok (.iload_n 0, 1) := by decide +kernel
theorem dnbf_1 : decode jdk_52_method_2_code 1 = .ok (.invokestatic 11, 3) := by decide +kernel
theorem dnbf_4 : decode jdk_52_method_2_code 4 = .ok (.newarray .byte, 2) := by decide +kernel
theorem dnbf_6 : decode jdk_52_method_2_code 6 = .ok (.areturn, 1) := by decide +kernel
theorem ef_nbf (m : MethodId) (z : Int32) : entryFrame m #[(.int z)] 1 = mkF m 0 #[.val (.int z)] [] := by first | (simp [entryFrame, mkF, argsToLocals, Value.category]; done) | rfl
set_option maxRecDepth 65536 in
set_option maxHeartbeats 40000000 in
theorem rm_nbf (l : Launch) (Z : State) (a0 : Array Value) (hw : ∀ d ∈ tables_1, d.before a0 Z = true) (h0 : Heap) (z : Int32) (n : Nat) (hz : z = Int32.ofNat n) (hn : n ≤ 3) :
    Ct l Z [] (⟨"java/lang/StringUTF16", "newBytesFor", "(I)[B"⟩ : MethodName) jdk_52_method_2_code 1 (some (.array .byte)) (⟨1, 1, 6, 12⟩ : Room) #[(.int z)] h0 (fun v h' => ∃ t, v = some (.ref t) ∧ Keep h0 h' [] ∧ h0.size ≤ t ∧ An Z h' t .byte (2 * n) (fun _ => (0 : Int32))) := by
  refine Ct.of pn_java_lang_StringUTF16 (fun m => ef_nbf m z) ?_
  intro p e s m below meth c s₁ X0
  subst hz
  have K1 : Keep h0 h0 [] := Keep.refl _ _
  refine Go.iloadN X0 1 dnbf_0 rfl ?_
  refine Go.callSP X0 4 [(.int (Int32.ofNat n))] [] 0 (hw _ (List.mem_of_getElem? (i := 50) rfl)) (hw _ (List.mem_of_getElem? (i := 51) rfl)) (hw _ (List.mem_of_getElem? (i := 39) rfl)) (by decide) (hw _ (List.mem_of_getElem? (i := 52) rfl)) pd_0 dnbf_1 (rm_nbl l Z a0 hw h0 (Int32.ofNat n) n rfl (by omega)) rfl rfl rfl (Nat.le_of_eq rfl) (by decide) (by decide) (by decide) (by decide) ?_
  intro T2 L2 X2
  refine Go.newB X2 6 (n := (2 * n)) (hw _ (List.mem_of_getElem? (i := 19) rfl)) dnbf_4 6 (by omega) (by decide) (by decide) (by decide) ?_
  intro T3 h3 a3 X3 E3 g3 V3
  have nw_a3 : Z.heap.size ≤ a3 := by rw [← g3]; exact X2.le
  have si_a3 : h0.size ≤ a3 := by rw [← g3]; exact K1.1
  have K4 : Keep h0 h3 [] := K1.ext E3
  exact Go.retA X3 rfl rfl rfl dnbf_6 (X3.fin ⟨_, rfl, K4, si_a3, V3⟩ (by decide) (by decide))
theorem dput_0 : decode jdk_52_method_4_code 0 = .ok (.getstatic 44, 3) := by decide +kernel
theorem dput_3 : decode jdk_52_method_4_code 3 = .ok (.ifCond .ne 25, 3) := by decide +kernel
theorem dput_6 : decode jdk_52_method_4_code 6 = .ok (.iload_n 1, 1) := by decide +kernel
theorem dput_7 : decode jdk_52_method_4_code 7 = .ok (.ifCond .lt 11, 3) := by decide +kernel
theorem dput_10 : decode jdk_52_method_4_code 10 = .ok (.iload_n 1, 1) := by decide +kernel
theorem dput_11 : decode jdk_52_method_4_code 11 = .ok (.aload_n 0, 1) := by decide +kernel
theorem dput_12 : decode jdk_52_method_4_code 12 = .ok (.invokestatic 48, 3) := by decide +kernel
theorem dput_15 : decode jdk_52_method_4_code 15 = .ok (.if_icmp .lt 13, 3) := by decide +kernel
theorem dput_18 : decode jdk_52_method_4_code 18 = .ok (.new 52, 3) := by decide +kernel
theorem dput_21 : decode jdk_52_method_4_code 21 = .ok (.dup, 1) := by decide +kernel
theorem dput_22 : decode jdk_52_method_4_code 22 = .ok (.ldc 54, 2) := by decide +kernel
theorem dput_24 : decode jdk_52_method_4_code 24 = .ok (.invokespecial 56, 3) := by decide +kernel
theorem dput_27 : decode jdk_52_method_4_code 27 = .ok (.athrow, 1) := by decide +kernel
theorem dput_28 : decode jdk_52_method_4_code 28 = .ok (.iload_n 1, 1) := by decide +kernel
theorem dput_29 : decode jdk_52_method_4_code 29 = .ok (.iconst 1, 1) := by decide +kernel
theorem dput_30 : decode jdk_52_method_4_code 30 = .ok (.ishl, 1) := by decide +kernel
theorem dput_31 : decode jdk_52_method_4_code 31 = .ok (.istore_n 1, 1) := by decide +kernel
theorem dput_32 : decode jdk_52_method_4_code 32 = .ok (.aload_n 0, 1) := by decide +kernel
theorem dput_33 : decode jdk_52_method_4_code 33 = .ok (.iload_n 1, 1) := by decide +kernel
theorem dput_34 : decode jdk_52_method_4_code 34 = .ok (.iinc 1 1, 3) := by decide +kernel
theorem dput_37 : decode jdk_52_method_4_code 37 = .ok (.iload_n 2, 1) := by decide +kernel
theorem dput_38 : decode jdk_52_method_4_code 38 = .ok (.getstatic 59, 3) := by decide +kernel
theorem dput_41 : decode jdk_52_method_4_code 41 = .ok (.ishr, 1) := by decide +kernel
theorem dput_42 : decode jdk_52_method_4_code 42 = .ok (.i2b, 1) := by decide +kernel
theorem dput_43 : decode jdk_52_method_4_code 43 = .ok (.bastore, 1) := by decide +kernel
theorem dput_44 : decode jdk_52_method_4_code 44 = .ok (.aload_n 0, 1) := by decide +kernel
theorem dput_45 : decode jdk_52_method_4_code 45 = .ok (.iload_n 1, 1) := by decide +kernel
theorem dput_46 : decode jdk_52_method_4_code 46 = .ok (.iload_n 2, 1) := by decide +kernel
theorem dput_47 : decode jdk_52_method_4_code 47 = .ok (.getstatic 63, 3) := by decide +kernel
theorem dput_50 : decode jdk_52_method_4_code 50 = .ok (.ishr, 1) := by decide +kernel
theorem dput_51 : decode jdk_52_method_4_code 51 = .ok (.i2b, 1) := by decide +kernel
theorem dput_52 : decode jdk_52_method_4_code 52 = .ok (.bastore, 1) := by decide +kernel
theorem dput_53 : decode jdk_52_method_4_code 53 = .ok (.return_, 1) := by decide +kernel
theorem ef_put (m : MethodId) (t : Addr) (z : Int32) (y : Int32) : entryFrame m #[(.ref t), (.int z), (.int y)] 3 = mkF m 0 #[.val (.ref t), .val (.int z), .val (.int y)] [] := by first | (simp [entryFrame, mkF, argsToLocals, Value.category]; done) | rfl
set_option maxRecDepth 65536 in
set_option maxHeartbeats 40000000 in
theorem rm_put (l : Launch) (Z : State) (a0 : Array Value) (hw : ∀ d ∈ tables_1, d.before a0 Z = true) (h0 : Heap) (SA : Sta Z Z.heap "java/lang/StringUTF16" "$assertionsDisabled" "Z" (.int 1)) (SH : Sta Z Z.heap "java/lang/StringUTF16" "HI_BYTE_SHIFT" "I" (.int 0)) (SLo : Sta Z Z.heap "java/lang/StringUTF16" "LO_BYTE_SHIFT" "I" (.int 8)) (t : Addr) (z y : Int32) (i N : Nat) (g : Nat → Int32) (hz : z = Int32.ofNat i) (A : An Z h0 t .byte N g) (hi : 2 * i + 1 < N) (hi' : i < 1073741823) (nt : Z.heap.size ≤ t) :
    Ct l Z [] (⟨"java/lang/StringUTF16", "putChar", "([BII)V"⟩ : MethodName) jdk_52_method_4_code 3 none (⟨0, 0, 0, 0⟩ : Room) #[(.ref t), (.int z), (.int y)] h0 (fun v h' => v = none ∧ Keep h0 h' [t] ∧ An Z h' t .byte N (upd (upd g (2 * i) (lo8 y)) (2 * i + 1) (hi8 y))) := by
  refine Ct.of pn_java_lang_StringUTF16 (fun m => ef_put m t z y) ?_
  intro p e s m below meth c s₁ X0
  subst hz
  have K1 : Keep h0 h0 [t] := Keep.refl _ _
  refine Go.getS X0 3 (hw _ (List.mem_of_getElem? (i := 57) rfl)) SA dput_0 ?_
  intro T2 X2
  refine Go.if0Y X2 28 dput_3 (XT.i0_ne_t (by decide)) ?_
  refine Go.iloadN X2 29 dput_28 rfl ?_
  refine Go.iconst X2 30 (1 : Int32) dput_29 ?_
  refine Go.ishl X2 31 dput_30 ?_
  rw [n_shl hi']
  refine Go.istoreN X2 32 #[.val (.ref t), .val (.int (Int32.ofNat (2 * i))), .val (.int y)] dput_31 rfl ?_
  refine Go.aloadN X2 33 dput_32 rfl rfl ?_
  refine Go.iloadN X2 34 dput_33 rfl ?_
  refine Go.iinc X2 37 (1 : Int32) #[.val (.ref t), .val (.int ((Int32.ofNat (2 * i)) + (1 : Int32))), .val (.int y)] dput_34 rfl rfl ?_
  rw [n_succ]
  refine Go.iloadN X2 38 dput_37 rfl ?_
  refine Go.getS X2 41 (hw _ (List.mem_of_getElem? (i := 58) rfl)) SH dput_38 ?_
  intro T3 X3
  refine Go.ishr X3 42 dput_41 ?_
  refine Go.i2b X3 43 dput_42 ?_
  refine Go.stBN X3 44 A (2 * i) (by omega) dput_43 nt ?_
  intro T4 h4 w4 X4 W4 V4
  rw [n_nb] at V4
  have K5 : Keep h0 h4 [t] := K1.wr W4 (Or.inl (List.mem_of_getElem? (i := 0) rfl))
  have F6 : An Z h4 t .byte N (upd g (2 * i) ((y >>> ((0 : Int32) &&& 31)).toInt8.toInt32)) := V4
  refine Go.aloadN X4 45 dput_44 rfl rfl ?_
  refine Go.iloadN X4 46 dput_45 rfl ?_
  refine Go.iloadN X4 47 dput_46 rfl ?_
  refine Go.getS X4 50 (hw _ (List.mem_of_getElem? (i := 59) rfl)) SLo dput_47 ?_
  intro T7 X7
  refine Go.ishr X7 51 dput_50 ?_
  refine Go.i2b X7 52 dput_51 ?_
  refine Go.stBN X7 53 F6 (2 * i + 1) hi dput_52 nt ?_
  intro T8 h8 w8 X8 W8 V8
  rw [n_nb] at V8
  have K9 : Keep h0 h8 [t] := K5.wr W8 (Or.inl (List.mem_of_getElem? (i := 0) rfl))
  have F10 : An Z h8 t .byte N (upd (upd g (2 * i) ((y >>> ((0 : Int32) &&& 31)).toInt8.toInt32)) (2 * i + 1) ((y >>> ((8 : Int32) &&& 31)).toInt8.toInt32)) := V8
  exact Go.retV X8 rfl dput_53 (X8.fin ⟨rfl, K9, F10⟩ (by decide) (by decide))
theorem n_nar' {x : Int32} (h0 : 0 ≤ x.toInt) (h1 : x.toInt < 65536) : narrow .char (.int x) = .int x := by
  have := XT.narrow_c x
  rw [n_chr h0 h1] at this
  exact this
theorem dgetc_0 : decode jdk_52_method_5_code 0 = .ok (.getstatic 44, 3) := by decide +kernel
theorem dgetc_3 : decode jdk_52_method_5_code 3 = .ok (.ifCond .ne 25, 3) := by decide +kernel
theorem dgetc_6 : decode jdk_52_method_5_code 6 = .ok (.iload_n 1, 1) := by decide +kernel
theorem dgetc_7 : decode jdk_52_method_5_code 7 = .ok (.ifCond .lt 11, 3) := by decide +kernel
theorem dgetc_10 : decode jdk_52_method_5_code 10 = .ok (.iload_n 1, 1) := by decide +kernel
theorem dgetc_11 : decode jdk_52_method_5_code 11 = .ok (.aload_n 0, 1) := by decide +kernel
theorem dgetc_12 : decode jdk_52_method_5_code 12 = .ok (.invokestatic 48, 3) := by decide +kernel
theorem dgetc_15 : decode jdk_52_method_5_code 15 = .ok (.if_icmp .lt 13, 3) := by decide +kernel
theorem dgetc_18 : decode jdk_52_method_5_code 18 = .ok (.new 52, 3) := by decide +kernel
theorem dgetc_21 : decode jdk_52_method_5_code 21 = .ok (.dup, 1) := by decide +kernel
theorem dgetc_22 : decode jdk_52_method_5_code 22 = .ok (.ldc 54, 2) := by decide +kernel
theorem dgetc_24 : decode jdk_52_method_5_code 24 = .ok (.invokespecial 56, 3) := by decide +kernel
theorem dgetc_27 : decode jdk_52_method_5_code 27 = .ok (.athrow, 1) := by decide +kernel
theorem dgetc_28 : decode jdk_52_method_5_code 28 = .ok (.iload_n 1, 1) := by decide +kernel
theorem dgetc_29 : decode jdk_52_method_5_code 29 = .ok (.iconst 1, 1) := by decide +kernel
theorem dgetc_30 : decode jdk_52_method_5_code 30 = .ok (.ishl, 1) := by decide +kernel
theorem dgetc_31 : decode jdk_52_method_5_code 31 = .ok (.istore_n 1, 1) := by decide +kernel
theorem dgetc_32 : decode jdk_52_method_5_code 32 = .ok (.aload_n 0, 1) := by decide +kernel
theorem dgetc_33 : decode jdk_52_method_5_code 33 = .ok (.iload_n 1, 1) := by decide +kernel
theorem dgetc_34 : decode jdk_52_method_5_code 34 = .ok (.iinc 1 1, 3) := by decide +kernel
theorem dgetc_37 : decode jdk_52_method_5_code 37 = .ok (.baload, 1) := by decide +kernel
theorem dgetc_38 : decode jdk_52_method_5_code 38 = .ok (.sipush 255, 3) := by decide +kernel
theorem dgetc_41 : decode jdk_52_method_5_code 41 = .ok (.iand, 1) := by decide +kernel
theorem dgetc_42 : decode jdk_52_method_5_code 42 = .ok (.getstatic 59, 3) := by decide +kernel
theorem dgetc_45 : decode jdk_52_method_5_code 45 = .ok (.ishl, 1) := by decide +kernel
theorem dgetc_46 : decode jdk_52_method_5_code 46 = .ok (.aload_n 0, 1) := by decide +kernel
theorem dgetc_47 : decode jdk_52_method_5_code 47 = .ok (.iload_n 1, 1) := by decide +kernel
theorem dgetc_48 : decode jdk_52_method_5_code 48 = .ok (.baload, 1) := by decide +kernel
theorem dgetc_49 : decode jdk_52_method_5_code 49 = .ok (.sipush 255, 3) := by decide +kernel
theorem dgetc_52 : decode jdk_52_method_5_code 52 = .ok (.iand, 1) := by decide +kernel
theorem dgetc_53 : decode jdk_52_method_5_code 53 = .ok (.getstatic 63, 3) := by decide +kernel
theorem dgetc_56 : decode jdk_52_method_5_code 56 = .ok (.ishl, 1) := by decide +kernel
theorem dgetc_57 : decode jdk_52_method_5_code 57 = .ok (.ior, 1) := by decide +kernel
theorem dgetc_58 : decode jdk_52_method_5_code 58 = .ok (.i2c, 1) := by decide +kernel
theorem dgetc_59 : decode jdk_52_method_5_code 59 = .ok (.ireturn, 1) := by decide +kernel
theorem ef_getc (m : MethodId) (t : Addr) (z : Int32) : entryFrame m #[(.ref t), (.int z)] 2 = mkF m 0 #[.val (.ref t), .val (.int z)] [] := by first | (simp [entryFrame, mkF, argsToLocals, Value.category]; done) | rfl
set_option maxRecDepth 65536 in
set_option maxHeartbeats 40000000 in
theorem rm_getc (l : Launch) (Z : State) (a0 : Array Value) (hw : ∀ d ∈ tables_1, d.before a0 Z = true) (h0 : Heap) (SA : Sta Z Z.heap "java/lang/StringUTF16" "$assertionsDisabled" "Z" (.int 1)) (SH : Sta Z Z.heap "java/lang/StringUTF16" "HI_BYTE_SHIFT" "I" (.int 0)) (SLo : Sta Z Z.heap "java/lang/StringUTF16" "LO_BYTE_SHIFT" "I" (.int 8)) (t : Addr) (z : Int32) (i N : Nat) (g : Nat → Int32) (y : Int32) (hz : z = Int32.ofNat i) (A : An Z h0 t .byte N g) (hi : 2 * i + 1 < N) (hi' : i < 1073741823) (g0 : g (2 * i) = lo8 y) (g1 : g (2 * i + 1) = hi8 y) (y0 : 0 ≤ y.toInt) (y1 : y.toInt < 65536) :
    Ct l Z [] (⟨"java/lang/StringUTF16", "getChar", "([BI)C"⟩ : MethodName) jdk_52_method_5_code 2 (some .char) (⟨0, 0, 0, 0⟩ : Room) #[(.ref t), (.int z)] h0 (Pu h0 (.int y)) := by
  refine Ct.of pn_java_lang_StringUTF16 (fun m => ef_getc m t z) ?_
  intro p e s m below meth c s₁ X0
  subst hz
  refine Go.getS X0 3 (hw _ (List.mem_of_getElem? (i := 57) rfl)) SA dgetc_0 ?_
  intro T1 X1
  refine Go.if0Y X1 28 dgetc_3 (XT.i0_ne_t (by decide)) ?_
  refine Go.iloadN X1 29 dgetc_28 rfl ?_
  refine Go.iconst X1 30 (1 : Int32) dgetc_29 ?_
  refine Go.ishl X1 31 dgetc_30 ?_
  rw [n_shl hi']
  refine Go.istoreN X1 32 #[.val (.ref t), .val (.int (Int32.ofNat (2 * i)))] dgetc_31 rfl ?_
  refine Go.aloadN X1 33 dgetc_32 rfl rfl ?_
  refine Go.iloadN X1 34 dgetc_33 rfl ?_
  refine Go.iinc X1 37 (1 : Int32) #[.val (.ref t), .val (.int ((Int32.ofNat (2 * i)) + (1 : Int32)))] dgetc_34 rfl rfl ?_
  rw [n_succ]
  refine Go.baN X1 38 A (2 * i) (by omega) dgetc_37 ?_
  rw [g0]
  refine Go.sipush X1 41 (255 : Int32) dgetc_38 ?_
  refine Go.iand X1 42 dgetc_41 ?_
  refine Go.getS X1 45 (hw _ (List.mem_of_getElem? (i := 58) rfl)) SH dgetc_42 ?_
  intro T2 X2
  refine Go.ishl X2 46 dgetc_45 ?_
  refine Go.aloadN X2 47 dgetc_46 rfl rfl ?_
  refine Go.iloadN X2 48 dgetc_47 rfl ?_
  refine Go.baN X2 49 A (2 * i + 1) hi dgetc_48 ?_
  rw [g1]
  refine Go.sipush X2 52 (255 : Int32) dgetc_49 ?_
  refine Go.iand X2 53 dgetc_52 ?_
  refine Go.getS X2 56 (hw _ (List.mem_of_getElem? (i := 59) rfl)) SLo dgetc_53 ?_
  intro T3 X3
  refine Go.ishl X3 57 dgetc_56 ?_
  refine Go.ior X3 58 dgetc_57 ?_
  refine Go.i2c X3 59 dgetc_58 ?_
  rw [n_u16 y0 y1]
  exact Go.retI X3 rfl (by simp) (n_nar' y0 y1) dgetc_59 (X3.fin ⟨rfl, rfl⟩ (by decide) (by decide))
theorem dtob_0 : decode jdk_52_method_14_code 0 = .ok (.iload_n 2, 1) := by decide +kernel
theorem dtob_1 : decode jdk_52_method_14_code 1 = .ok (.invokestatic 107, 3) := by decide +kernel
theorem dtob_4 : decode jdk_52_method_14_code 4 = .ok (.astore_n 3, 1) := by decide +kernel
theorem dtob_5 : decode jdk_52_method_14_code 5 = .ok (.iconst 0, 1) := by decide +kernel
theorem dtob_6 : decode jdk_52_method_14_code 6 = .ok (.istore 4, 2) := by decide +kernel
theorem dtob_8 : decode jdk_52_method_14_code 8 = .ok (.iload 4, 2) := by decide +kernel
theorem dtob_10 : decode jdk_52_method_14_code 10 = .ok (.iload_n 2, 1) := by decide +kernel
theorem dtob_11 : decode jdk_52_method_14_code 11 = .ok (.if_icmp .ge 21, 3) := by decide +kernel
theorem dtob_14 : decode jdk_52_method_14_code 14 = .ok (.aload_n 3, 1) := by decide +kernel
theorem dtob_15 : decode jdk_52_method_14_code 15 = .ok (.iload 4, 2) := by decide +kernel
theorem dtob_17 : decode jdk_52_method_14_code 17 = .ok (.aload_n 0, 1) := by decide +kernel
theorem dtob_18 : decode jdk_52_method_14_code 18 = .ok (.iload_n 1, 1) := by decide +kernel
theorem dtob_19 : decode jdk_52_method_14_code 19 = .ok (.caload, 1) := by decide +kernel
theorem dtob_20 : decode jdk_52_method_14_code 20 = .ok (.invokestatic 111, 3) := by decide +kernel
theorem dtob_23 : decode jdk_52_method_14_code 23 = .ok (.iinc 1 1, 3) := by decide +kernel
theorem dtob_26 : decode jdk_52_method_14_code 26 = .ok (.iinc 4 1, 3) := by decide +kernel
theorem dtob_29 : decode jdk_52_method_14_code 29 = .ok (.goto (-21), 3) := by decide +kernel
theorem dtob_32 : decode jdk_52_method_14_code 32 = .ok (.aload_n 3, 1) := by decide +kernel
theorem dtob_33 : decode jdk_52_method_14_code 33 = .ok (.areturn, 1) := by decide +kernel
def QT (Z : State) (h0 : Heap) (t : Addr) (n : Nat) (f : Nat → Int32) : Option Value → Heap → Prop := fun v h' => v = some (.ref t) ∧ Keep h0 h' [] ∧ ∃ g, An Z h' t .byte (2 * n) g ∧ ∀ j, j < n → g (2 * j) = lo8 (f j) ∧ g (2 * j + 1) = hi8 (f j)
set_option maxRecDepth 65536 in
set_option maxHeartbeats 40000000 in
theorem lp_tob {p : Program} {l : Launch} {e : Env} {s : State} {m : MethodId} {args : Array Value} {below : List Frame} {meth : Method} {c : Code} {Z : State} {nm : String} (a0 : Array Value) (hw : ∀ d ∈ tables_1, d.before a0 Z = true) (SA : Sta Z Z.heap "java/lang/StringUTF16" "$assertionsDisabled" "Z" (.int 1)) (SH : Sta Z Z.heap "java/lang/StringUTF16" "HI_BYTE_SHIFT" "I" (.int 0)) (SLo : Sta Z Z.heap "java/lang/StringUTF16" "LO_BYTE_SHIFT" "I" (.int 8)) (h0 : Heap) (src t : Addr) (n : Nat) (f : Nat → Int32) (hn : n ≤ 3) (hne : src ≠ t) (nt : Z.heap.size ≤ t) (st : h0.size ≤ t) :
    ∀ (k i : Nat), i + k = n → ∀ (T : State) (locs : List Loc) (h : Heap) (g : Nat → Int32), Cx p l e (⟨2, 1, 6, 24⟩ : Room) s m args below meth c Z "java/lang/StringUTF16" nm jdk_52_method_14_code 5 (some (.array .byte)) T locs 1 6 h → An Z h src .char n f → An Z h t .byte (2 * n) g → (∀ j, j < i → g (2 * j) = lo8 (f j) ∧ g (2 * j + 1) = hi8 (f j)) → Keep h0 h [] →
      Go p e below (FinN s Z (QT Z h0 t n f) 1 6) T m 8 #[.val (.ref src), .val (.int (Int32.ofNat i)), .val (.int (Int32.ofNat n)), .val (.ref t), .val (.int (Int32.ofNat i))] [] := by
  intro k
  induction k with
  | zero =>
    intro i hi T locs h g X0 A B hg K
    have hin : i = n := by omega
    subst hin
    refine Go.iload X0 10 dtob_8 rfl ?_
    refine Go.iloadN X0 11 dtob_10 rfl ?_
    refine Go.icmpY X0 32 dtob_11 (XT.ii_ge_t (n_nlt (Nat.le_refl _) A.1)) ?_
    refine Go.aloadN X0 33 dtob_32 rfl rfl ?_
    exact Go.retA X0 rfl rfl rfl dtob_33 (X0.fin ⟨rfl, K, g, B, hg⟩ (by decide) (by decide))
  | succ k ih =>
    intro i hi T locs h g X0 A B hg K
    have hin : i < n := by omega
    refine Go.iload X0 10 dtob_8 rfl ?_
    refine Go.iloadN X0 11 dtob_10 rfl ?_
    refine Go.icmpN X0 14 dtob_11 (XT.ii_ge_f (n_lt hin A.1)) ?_
    refine Go.aloadN X0 15 dtob_14 rfl rfl ?_
    refine Go.iload X0 17 dtob_15 rfl ?_
    refine Go.aloadN X0 18 dtob_17 rfl rfl ?_
    refine Go.iloadN X0 19 dtob_18 rfl ?_
    refine Go.caN X0 20 A i hin dtob_19 ?_
    refine Go.callS X0 23 [(.ref t), (.int (Int32.ofNat i)), (.int (f i))] [] 0 (hw _ (List.mem_of_getElem? (i := 54) rfl)) (hw _ (List.mem_of_getElem? (i := 55) rfl)) (hw _ (List.mem_of_getElem? (i := 39) rfl)) (by decide) (hw _ (List.mem_of_getElem? (i := 56) rfl)) pd_1 dtob_20 (rm_put l Z a0 hw h SA SH SLo t (Int32.ofNat i) (f i) i (2 * n) g rfl B (by omega) (by omega) nt) rfl rfl rfl (Nat.le_of_eq rfl) (by decide) (by decide) (by decide) (by decide) ?_
    rintro T31 v31 L31 X31 ⟨rfl, K2, B2⟩
    show Go p e below _ T31 m 23 #[.val (.ref src), .val (.int (Int32.ofNat i)), .val (.int (Int32.ofNat n)), .val (.ref t), .val (.int (Int32.ofNat i))] []
    have K32 : Keep h0 T31.heap [] := K.trans K2 (allS (Or.inr st) all0)
    have F33 : An Z T31.heap src .char n f := A.keep K2 (ninS hne nin0)
    refine Go.iinc X31 26 (1 : Int32) #[.val (.ref src), .val (.int ((Int32.ofNat i) + (1 : Int32))), .val (.int (Int32.ofNat n)), .val (.ref t), .val (.int (Int32.ofNat i))] dtob_23 rfl rfl ?_
    refine Go.iinc X31 29 (1 : Int32) #[.val (.ref src), .val (.int ((Int32.ofNat i) + (1 : Int32))), .val (.int (Int32.ofNat n)), .val (.ref t), .val (.int ((Int32.ofNat i) + (1 : Int32)))] dtob_26 rfl rfl ?_
    refine Go.goto X31 8 dtob_29 ?_
    rw [n_succ]
    refine ih (i + 1) (by omega) _ _ _ _ X31 F33 B2 (fun j hj => ?_) K32
    simp only [upd]
    by_cases q : j = i
    · subst q
      exact ⟨by rw [if_neg (by omega), if_pos rfl], by rw [if_pos rfl]⟩
    · obtain ⟨q1, q2⟩ := hg j (by omega)
      exact ⟨by rw [if_neg (by omega), if_neg (by omega)]; exact q1, by rw [if_neg (by omega), if_neg (by omega)]; exact q2⟩
theorem ef_tob (m : MethodId) (src : Addr) (z0 : Int32) (z1 : Int32) : entryFrame m #[(.ref src), (.int z0), (.int z1)] 5 = mkF m 0 #[.val (.ref src), .val (.int z0), .val (.int z1), .unset, .unset] [] := by first | (simp [entryFrame, mkF, argsToLocals, Value.category]; done) | rfl
set_option maxRecDepth 65536 in
set_option maxHeartbeats 40000000 in
theorem rm_tob (l : Launch) (Z : State) (a0 : Array Value) (hw : ∀ d ∈ tables_1, d.before a0 Z = true) (h0 : Heap) (SA : Sta Z Z.heap "java/lang/StringUTF16" "$assertionsDisabled" "Z" (.int 1)) (SH : Sta Z Z.heap "java/lang/StringUTF16" "HI_BYTE_SHIFT" "I" (.int 0)) (SLo : Sta Z Z.heap "java/lang/StringUTF16" "LO_BYTE_SHIFT" "I" (.int 8)) (src : Addr) (z0 z1 : Int32) (n : Nat) (f : Nat → Int32) (hz0 : z0 = 0) (hz1 : z1 = Int32.ofNat n) (hn : n ≤ 3) (A : An Z h0 src .char n f) :
    Ct l Z [] (⟨"java/lang/StringUTF16", "toBytes", "([CII)[B"⟩ : MethodName) jdk_52_method_14_code 5 (some (.array .byte)) (⟨2, 1, 6, 24⟩ : Room) #[(.ref src), (.int z0), (.int z1)] h0 (fun v h' => ∃ t, v = some (.ref t) ∧ Keep h0 h' [] ∧ h0.size ≤ t ∧ ∃ g, An Z h' t .byte (2 * n) g ∧ ∀ j, j < n → g (2 * j) = lo8 (f j) ∧ g (2 * j + 1) = hi8 (f j)) := by
  refine Ct.of pn_java_lang_StringUTF16 (fun m => ef_tob m src z0 z1) ?_
  intro p e s m below meth c s₁ X0
  subst hz0 hz1
  have K1 : Keep h0 h0 [] := Keep.refl _ _
  refine Go.iloadN X0 1 dtob_0 rfl ?_
  refine Go.callS X0 4 [(.int (Int32.ofNat n))] [] 0 (hw _ (List.mem_of_getElem? (i := 47) rfl)) (hw _ (List.mem_of_getElem? (i := 48) rfl)) (hw _ (List.mem_of_getElem? (i := 39) rfl)) (by decide) (hw _ (List.mem_of_getElem? (i := 49) rfl)) pd_2 dtob_1 (rm_nbf l Z a0 hw h0 (Int32.ofNat n) n rfl hn) rfl rfl rfl (Nat.le_of_eq rfl) (by decide) (by decide) (by decide) (by decide) ?_
  rintro T2 v2 L2 X2 ⟨t, rfl, Kn, gt, B⟩
  show Go p e below _ T2 m 4 #[.val (.ref src), .val (.int (0 : Int32)), .val (.int (Int32.ofNat n)), .unset, .unset] [(.ref t)]
  have nw_t : Z.heap.size ≤ t := Nat.le_trans X0.le gt
  have ne_src_t : src ≠ t := Nat.ne_of_lt (Nat.lt_of_lt_of_le A.lt gt)
  have K3 : Keep h0 T2.heap [] := K1.trans Kn all0
  have F4 : An Z T2.heap src .char n f := A.keep Kn nin0
  refine Go.astoreN X2 5 #[.val (.ref src), .val (.int (0 : Int32)), .val (.int (Int32.ofNat n)), .val (.ref t), .unset] dtob_4 rfl rfl ?_
  refine Go.iconst X2 6 (0 : Int32) dtob_5 ?_
  refine Go.istore X2 8 #[.val (.ref src), .val (.int (0 : Int32)), .val (.int (Int32.ofNat n)), .val (.ref t), .val (.int (0 : Int32))] dtob_6 rfl ?_
  refine Go.mono (fun v t' q => ?_) (lp_tob a0 hw SA SH SLo h0 src t n f hn ne_src_t nw_t gt n 0 (by omega) _ _ _ _ X2 F4 B (fun j hj => absurd hj (Nat.not_lt_zero j)) K3)
  obtain ⟨L, ⟨q1, q2, q3, q4, q5⟩, q6⟩ := q
  exact ⟨L, ⟨q1, q2, t, q3, q4, gt, q5⟩, q6⟩
theorem dcmp3_0 : decode jdk_52_method_16_code 0 = .ok (.iload_n 2, 1) := by decide +kernel
theorem dcmp3_1 : decode jdk_52_method_16_code 1 = .ok (.newarray .byte, 2) := by decide +kernel
theorem dcmp3_3 : decode jdk_52_method_16_code 3 = .ok (.astore_n 3, 1) := by decide +kernel
theorem dcmp3_4 : decode jdk_52_method_16_code 4 = .ok (.aload_n 0, 1) := by decide +kernel
theorem dcmp3_5 : decode jdk_52_method_16_code 5 = .ok (.iload_n 1, 1) := by decide +kernel
theorem dcmp3_6 : decode jdk_52_method_16_code 6 = .ok (.aload_n 3, 1) := by decide +kernel
theorem dcmp3_7 : decode jdk_52_method_16_code 7 = .ok (.iconst 0, 1) := by decide +kernel
theorem dcmp3_8 : decode jdk_52_method_16_code 8 = .ok (.iload_n 2, 1) := by decide +kernel
theorem dcmp3_9 : decode jdk_52_method_16_code 9 = .ok (.invokestatic 115, 3) := by decide +kernel
theorem dcmp3_12 : decode jdk_52_method_16_code 12 = .ok (.istore 4, 2) := by decide +kernel
theorem dcmp3_14 : decode jdk_52_method_16_code 14 = .ok (.iload 4, 2) := by decide +kernel
theorem dcmp3_16 : decode jdk_52_method_16_code 16 = .ok (.iload_n 2, 1) := by decide +kernel
theorem dcmp3_17 : decode jdk_52_method_16_code 17 = .ok (.if_icmp .eq 40, 3) := by decide +kernel
theorem dcmp3_20 : decode jdk_52_method_16_code 20 = .ok (.aload_n 0, 1) := by decide +kernel
theorem dcmp3_21 : decode jdk_52_method_16_code 21 = .ok (.iload_n 1, 1) := by decide +kernel
theorem dcmp3_22 : decode jdk_52_method_16_code 22 = .ok (.iload_n 2, 1) := by decide +kernel
theorem dcmp3_23 : decode jdk_52_method_16_code 23 = .ok (.invokestatic 119, 3) := by decide +kernel
theorem dcmp3_26 : decode jdk_52_method_16_code 26 = .ok (.astore 5, 2) := by decide +kernel
theorem dcmp3_28 : decode jdk_52_method_16_code 28 = .ok (.aload 5, 2) := by decide +kernel
theorem dcmp3_30 : decode jdk_52_method_16_code 30 = .ok (.iload 4, 2) := by decide +kernel
theorem dcmp3_32 : decode jdk_52_method_16_code 32 = .ok (.invokestatic 71, 3) := by decide +kernel
theorem dcmp3_35 : decode jdk_52_method_16_code 35 = .ok (.sipush 255, 3) := by decide +kernel
theorem dcmp3_38 : decode jdk_52_method_16_code 38 = .ok (.if_icmp .gt 16, 3) := by decide +kernel
theorem dcmp3_41 : decode jdk_52_method_16_code 41 = .ok (.aload 5, 2) := by decide +kernel
theorem dcmp3_43 : decode jdk_52_method_16_code 43 = .ok (.iconst 0, 1) := by decide +kernel
theorem dcmp3_44 : decode jdk_52_method_16_code 44 = .ok (.aload_n 3, 1) := by decide +kernel
theorem dcmp3_45 : decode jdk_52_method_16_code 45 = .ok (.iconst 0, 1) := by decide +kernel
theorem dcmp3_46 : decode jdk_52_method_16_code 46 = .ok (.iload_n 2, 1) := by decide +kernel
theorem dcmp3_47 : decode jdk_52_method_16_code 47 = .ok (.invokestatic 123, 3) := by decide +kernel
theorem dcmp3_50 : decode jdk_52_method_16_code 50 = .ok (.iload_n 2, 1) := by decide +kernel
theorem dcmp3_51 : decode jdk_52_method_16_code 51 = .ok (.if_icmp .eq 6, 3) := by decide +kernel
theorem dcmp3_54 : decode jdk_52_method_16_code 54 = .ok (.aload 5, 2) := by decide +kernel
theorem dcmp3_56 : decode jdk_52_method_16_code 56 = .ok (.areturn, 1) := by decide +kernel
theorem dcmp3_57 : decode jdk_52_method_16_code 57 = .ok (.aload_n 3, 1) := by decide +kernel
theorem dcmp3_58 : decode jdk_52_method_16_code 58 = .ok (.areturn, 1) := by decide +kernel
theorem ef_cmp3 (m : MethodId) (src : Addr) (z0 : Int32) (z1 : Int32) : entryFrame m #[(.ref src), (.int z0), (.int z1)] 6 = mkF m 0 #[.val (.ref src), .val (.int z0), .val (.int z1), .unset, .unset, .unset] [] := by first | (simp [entryFrame, mkF, argsToLocals, Value.category]; done) | rfl
set_option maxRecDepth 65536 in
set_option maxHeartbeats 40000000 in
theorem rm_cmp3 (l : Launch) (Z : State) (a0 : Array Value) (hw : ∀ d ∈ tables_1, d.before a0 Z = true) (h0 : Heap) (src : Addr) (z0 z1 : Int32) (n : Nat) (f : Nat → Int32) (hz0 : z0 = 0) (hz1 : z1 = Int32.ofNat n) (hcap : n ≤ 3) (A : An Z h0 src .char n f) (hf : ∀ j, j < n → 0 ≤ (f j).toInt ∧ (f j).toInt < 65536) (SA : Sta Z Z.heap "java/lang/StringUTF16" "$assertionsDisabled" "Z" (.int 1)) (SH : Sta Z Z.heap "java/lang/StringUTF16" "HI_BYTE_SHIFT" "I" (.int 0)) (SLo : Sta Z Z.heap "java/lang/StringUTF16" "LO_BYTE_SHIFT" "I" (.int 8)) :
    Ct l Z [] (⟨"java/lang/StringUTF16", "compress", "([CII)[B"⟩ : MethodName) jdk_52_method_16_code 6 (some (.array .byte)) (⟨3, 2, 9, 40⟩ : Room) #[(.ref src), (.int z0), (.int z1)] h0 (fun v h' => ∃ t, v = some (.ref t) ∧ Keep h0 h' [] ∧ h0.size ≤ t ∧ ∃ N g, An Z h' t .byte N g ∧ ((N = n ∧ ∀ j, j < n → ¬ 255 < f j ∧ g j = (f j).toInt8.toInt32) ∨ (N = 2 * n ∧ (∃ j, j < n ∧ 255 < f j) ∧ ∀ j, j < n → g (2 * j) = lo8 (f j) ∧ g (2 * j + 1) = hi8 (f j)))) := by
  refine Ct.of pn_java_lang_StringUTF16 (fun m => ef_cmp3 m src z0 z1) ?_
  intro p e s m below meth c s₁ X0
  subst hz0 hz1
  have K1 : Keep h0 h0 [] := Keep.refl _ _
  refine Go.iloadN X0 1 dcmp3_0 rfl ?_
  refine Go.newB X0 3 (n := n) (hw _ (List.mem_of_getElem? (i := 19) rfl)) dcmp3_1 3 hcap (by decide) (by decide) (by decide) ?_
  intro T2 h2 a2 X2 E2 g2 V2
  have nw_a2 : Z.heap.size ≤ a2 := by rw [← g2]; exact X0.le
  have si_a2 : h0.size ≤ a2 := by rw [← g2]; exact K1.1
  have ne_src_a2 : src ≠ a2 := by rw [← g2]; exact Nat.ne_of_lt A.lt
  have K3 : Keep h0 h2 [] := K1.ext E2
  have F4 : An Z h2 src .char n f := A.ext E2
  refine Go.astoreN X2 4 #[.val (.ref src), .val (.int (0 : Int32)), .val (.int (Int32.ofNat n)), .val (.ref a2), .unset, .unset] dcmp3_3 rfl rfl ?_
  refine Go.aloadN X2 5 dcmp3_4 rfl rfl ?_
  refine Go.iloadN X2 6 dcmp3_5 rfl ?_
  refine Go.aloadN X2 7 dcmp3_6 rfl rfl ?_
  refine Go.iconst X2 8 (0 : Int32) dcmp3_7 ?_
  refine Go.iloadN X2 9 dcmp3_8 rfl ?_
  refine Go.callS X2 12 [(.ref src), (.int (0 : Int32)), (.ref a2), (.int (0 : Int32)), (.int (Int32.ofNat n))] [] 0 (hw _ (List.mem_of_getElem? (i := 41) rfl)) (hw _ (List.mem_of_getElem? (i := 42) rfl)) (hw _ (List.mem_of_getElem? (i := 39) rfl)) (by decide) (hw _ (List.mem_of_getElem? (i := 43) rfl)) pd_3 dcmp3_9 (rm_cmp5 l Z a0 hw h2 src a2 n f _ ne_src_a2 nw_a2 F4 V2) rfl rfl rfl (Nat.le_of_eq rfl) (by decide) (by decide) (by decide) (by decide) ?_
  rintro T5 v5 L5 X5 ⟨r, g, rfl, hr, K, B, hg, hx⟩
  show Go p e below _ T5 m 12 #[.val (.ref src), .val (.int (0 : Int32)), .val (.int (Int32.ofNat n)), .val (.ref a2), .unset, .unset] [(.int (Int32.ofNat r))]
  have K6 : Keep h0 T5.heap [] := K3.trans K (allS (Or.inr si_a2) all0)
  have F7 : An Z T5.heap src .char n f := F4.keep K (ninS ne_src_a2 nin0)
  rcases hx with rfl | ⟨hx1, hx2⟩
  · skip
    refine Go.istore X5 14 #[.val (.ref src), .val (.int (0 : Int32)), .val (.int (Int32.ofNat r)), .val (.ref a2), .val (.int (Int32.ofNat r)), .unset] dcmp3_12 rfl ?_
    refine Go.iload X5 16 dcmp3_14 rfl ?_
    refine Go.iloadN X5 17 dcmp3_16 rfl ?_
    refine Go.icmpY X5 57 dcmp3_17 (XT.ii_eq_t rfl) ?_
    refine Go.aloadN X5 58 dcmp3_57 rfl rfl ?_
    exact Go.retA X5 rfl rfl rfl dcmp3_58 (X5.fin ⟨_, rfl, K6, si_a2, r, g, B, Or.inl ⟨rfl, hg⟩⟩ (by decide) (by decide))
  · skip
    refine Go.istore X5 14 #[.val (.ref src), .val (.int (0 : Int32)), .val (.int (Int32.ofNat n)), .val (.ref a2), .val (.int (Int32.ofNat r)), .unset] dcmp3_12 rfl ?_
    refine Go.iload X5 16 dcmp3_14 rfl ?_
    refine Go.iloadN X5 17 dcmp3_16 rfl ?_
    refine Go.icmpN X5 20 dcmp3_17 (XT.ii_eq_f (fun q => absurd (n_inj (by omega) (by omega) q) (by omega))) ?_
    refine Go.aloadN X5 21 dcmp3_20 rfl rfl ?_
    refine Go.iloadN X5 22 dcmp3_21 rfl ?_
    refine Go.iloadN X5 23 dcmp3_22 rfl ?_
    refine Go.callS X5 26 [(.ref src), (.int (0 : Int32)), (.int (Int32.ofNat n))] [] 0 (hw _ (List.mem_of_getElem? (i := 44) rfl)) (hw _ (List.mem_of_getElem? (i := 45) rfl)) (hw _ (List.mem_of_getElem? (i := 39) rfl)) (by decide) (hw _ (List.mem_of_getElem? (i := 46) rfl)) pd_4 dcmp3_23 (rm_tob l Z a0 hw T5.heap SA SH SLo src 0 (Int32.ofNat n) n f rfl rfl hcap F7) rfl rfl rfl (Nat.le_of_eq rfl) (by decide) (by decide) (by decide) (by decide) ?_
    rintro T8 v8 L8 X8 ⟨u, rfl, K4, gu, gg, B4, hg4⟩
    show Go p e below _ T8 m 26 #[.val (.ref src), .val (.int (0 : Int32)), .val (.int (Int32.ofNat n)), .val (.ref a2), .val (.int (Int32.ofNat r)), .unset] [(.ref u)]
    have nw_u : Z.heap.size ≤ u := Nat.le_trans X5.le gu
    have ne_src_u : src ≠ u := Nat.ne_of_lt (Nat.lt_of_lt_of_le F7.lt gu)
    have ne_a2_u : a2 ≠ u := Nat.ne_of_lt (Nat.lt_of_lt_of_le B.lt gu)
    have si_u : h0.size ≤ u := Nat.le_trans K6.1 gu
    have K9 : Keep h0 T8.heap [] := K6.trans K4 all0
    have F10 : An Z T8.heap src .char n f := F7.keep K4 nin0
    have F11 : An Z T8.heap a2 .byte n g := B.keep K4 nin0
    refine Go.astore X8 28 #[.val (.ref src), .val (.int (0 : Int32)), .val (.int (Int32.ofNat n)), .val (.ref a2), .val (.int (Int32.ofNat r)), .val (.ref u)] dcmp3_26 rfl rfl ?_
    refine Go.aload X8 30 dcmp3_28 rfl rfl ?_
    refine Go.iload X8 32 dcmp3_30 rfl ?_
    refine Go.callSP X8 35 [(.ref u), (.int (Int32.ofNat r))] [] 0 (hw _ (List.mem_of_getElem? (i := 60) rfl)) (hw _ (List.mem_of_getElem? (i := 61) rfl)) (hw _ (List.mem_of_getElem? (i := 39) rfl)) (by decide) (hw _ (List.mem_of_getElem? (i := 62) rfl)) pd_5 dcmp3_32 (rm_getc l Z a0 hw T8.heap SA SH SLo u (Int32.ofNat r) r (2 * n) gg (f r) rfl B4 (by omega) (by omega) (hg4 r hx1).1 (hg4 r hx1).2 (hf r hx1).1 (hf r hx1).2) rfl rfl rfl (Nat.le_of_eq rfl) (by decide) (by decide) (by decide) (by decide) ?_
    intro T12 L12 X12
    refine Go.sipush X12 38 (255 : Int32) dcmp3_35 ?_
    refine Go.icmpY X12 54 dcmp3_38 (XT.ii_gt_t hx2) ?_
    refine Go.aload X12 56 dcmp3_54 rfl rfl ?_
    exact Go.retA X12 rfl rfl rfl dcmp3_56 (X12.fin ⟨_, rfl, K9, si_u, 2 * n, gg, B4, Or.inr ⟨rfl, ⟨r, hx1, hx2⟩, hg4⟩⟩ (by decide) (by decide))
theorem pn_java_lang_String : plainName "java/lang/String" = true := by first | (simp [plainName, overriddenIn]; done) | decide +kernel
theorem di4_0 : decode jdk_42_method_149_code 0 = .ok (.aload_n 0, 1) := by decide +kernel
theorem di4_1 : decode jdk_42_method_149_code 1 = .ok (.invokespecial 1, 3) := by decide +kernel
theorem di4_4 : decode jdk_42_method_149_code 4 = .ok (.iload_n 3, 1) := by decide +kernel
theorem di4_5 : decode jdk_42_method_149_code 5 = .ok (.ifCond .ne 22, 3) := by decide +kernel
theorem di4_8 : decode jdk_42_method_149_code 8 = .ok (.aload_n 0, 1) := by decide +kernel
theorem di4_9 : decode jdk_42_method_149_code 9 = .ok (.ldc 7, 2) := by decide +kernel
theorem di4_11 : decode jdk_42_method_149_code 11 = .ok (.getfield 9, 3) := by decide +kernel
theorem di4_14 : decode jdk_42_method_149_code 14 = .ok (.putfield 9, 3) := by decide +kernel
theorem di4_17 : decode jdk_42_method_149_code 17 = .ok (.aload_n 0, 1) := by decide +kernel
theorem di4_18 : decode jdk_42_method_149_code 18 = .ok (.ldc 7, 2) := by decide +kernel
theorem di4_20 : decode jdk_42_method_149_code 20 = .ok (.getfield 15, 3) := by decide +kernel
theorem di4_23 : decode jdk_42_method_149_code 23 = .ok (.putfield 15, 3) := by decide +kernel
theorem di4_26 : decode jdk_42_method_149_code 26 = .ok (.return_, 1) := by decide +kernel
theorem di4_27 : decode jdk_42_method_149_code 27 = .ok (.getstatic 38, 3) := by decide +kernel
theorem di4_30 : decode jdk_42_method_149_code 30 = .ok (.ifCond .eq 28, 3) := by decide +kernel
theorem di4_33 : decode jdk_42_method_149_code 33 = .ok (.aload_n 1, 1) := by decide +kernel
theorem di4_34 : decode jdk_42_method_149_code 34 = .ok (.iload_n 2, 1) := by decide +kernel
theorem di4_35 : decode jdk_42_method_149_code 35 = .ok (.iload_n 3, 1) := by decide +kernel
theorem di4_36 : decode jdk_42_method_149_code 36 = .ok (.invokestatic 177, 3) := by decide +kernel
theorem di4_39 : decode jdk_42_method_149_code 39 = .ok (.astore 5, 2) := by decide +kernel
theorem di4_41 : decode jdk_42_method_149_code 41 = .ok (.aload_n 0, 1) := by decide +kernel
theorem di4_42 : decode jdk_42_method_149_code 42 = .ok (.aload 5, 2) := by decide +kernel
theorem di4_44 : decode jdk_42_method_149_code 44 = .ok (.iload_n 3, 1) := by decide +kernel
theorem di4_45 : decode jdk_42_method_149_code 45 = .ok (.invokestatic 47, 3) := by decide +kernel
theorem di4_48 : decode jdk_42_method_149_code 48 = .ok (.putfield 15, 3) := by decide +kernel
theorem di4_51 : decode jdk_42_method_149_code 51 = .ok (.aload_n 0, 1) := by decide +kernel
theorem di4_52 : decode jdk_42_method_149_code 52 = .ok (.aload 5, 2) := by decide +kernel
theorem di4_54 : decode jdk_42_method_149_code 54 = .ok (.putfield 9, 3) := by decide +kernel
theorem di4_57 : decode jdk_42_method_149_code 57 = .ok (.return_, 1) := by decide +kernel
theorem di4_58 : decode jdk_42_method_149_code 58 = .ok (.aload_n 0, 1) := by decide +kernel
theorem di4_59 : decode jdk_42_method_149_code 59 = .ok (.iconst 1, 1) := by decide +kernel
theorem di4_60 : decode jdk_42_method_149_code 60 = .ok (.putfield 15, 3) := by decide +kernel
theorem di4_63 : decode jdk_42_method_149_code 63 = .ok (.aload_n 0, 1) := by decide +kernel
theorem di4_64 : decode jdk_42_method_149_code 64 = .ok (.aload_n 1, 1) := by decide +kernel
theorem di4_65 : decode jdk_42_method_149_code 65 = .ok (.iload_n 2, 1) := by decide +kernel
theorem di4_66 : decode jdk_42_method_149_code 66 = .ok (.iload_n 3, 1) := by decide +kernel
theorem di4_67 : decode jdk_42_method_149_code 67 = .ok (.invokestatic 180, 3) := by decide +kernel
theorem di4_70 : decode jdk_42_method_149_code 70 = .ok (.putfield 9, 3) := by decide +kernel
theorem di4_73 : decode jdk_42_method_149_code 73 = .ok (.return_, 1) := by decide +kernel
theorem ef_i4 (m : MethodId) (a : Addr) (src : Addr) (z0 : Int32) (z1 : Int32) : entryFrame m #[(.ref a), (.ref src), (.int z0), (.int z1), .null] 6 = mkF m 0 #[.val (.ref a), .val (.ref src), .val (.int z0), .val (.int z1), .val .null, .unset] [] := by first | (simp [entryFrame, mkF, argsToLocals, Value.category]; done) | rfl
set_option maxRecDepth 65536 in
set_option maxHeartbeats 40000000 in
theorem rm_i4 (l : Launch) (Z : State) (a0 : Array Value) (hw : ∀ d ∈ tables_1, d.before a0 Z = true) (h0 : Heap) (cz : Int32) (SC : Sta Z Z.heap "java/lang/String" "COMPACT_STRINGS" "Z" (.int cz)) (hcz : ¬ cz = 0) (a src : Addr) (n : Nat) (f : Nat → Int32) (hn : 0 < n) (hcap : n ≤ 3) (E : Exa Z h0 a "java/lang/String") (FV : Fld Z h0 a "java/lang/String" "value" "[B" .null) (FC : Fld Z h0 a "java/lang/String" "coder" "B" (.int 0)) (na : Z.heap.size ≤ a) (hne : src ≠ a) (A : An Z h0 src .char n f) (hf : ∀ j, j < n → 0 ≤ (f j).toInt ∧ (f j).toInt < 65536) (SA : Sta Z Z.heap "java/lang/StringUTF16" "$assertionsDisabled" "Z" (.int 1)) (SH : Sta Z Z.heap "java/lang/StringUTF16" "HI_BYTE_SHIFT" "I" (.int 0)) (SLo : Sta Z Z.heap "java/lang/StringUTF16" "LO_BYTE_SHIFT" "I" (.int 8)) (z0 z1 : Int32) (hz0 : z0 = 0) (hz1 : z1 = Int32.ofNat n) :
    Ct l Z [] (⟨"java/lang/String", "<init>", "([CIILjava/lang/Void;)V"⟩ : MethodName) jdk_42_method_149_code 6 none (⟨4, 2, 9, 57⟩ : Room) #[(.ref a), (.ref src), (.int z0), (.int z1), .null] h0 (fun v h' => v = none ∧ ∃ t, Keep h0 h' [a] ∧ h0.size ≤ t ∧ Str Z h' a t n f) := by
  refine Ct.of pn_java_lang_String (fun m => ef_i4 m a src z0 z1) ?_
  intro p e s m below meth c s₁ X0
  subst hz0 hz1
  have K1 : Keep h0 h0 [a] := Keep.refl _ _
  refine Go.aloadN X0 1 di4_0 rfl rfl ?_
  refine Go.initO X0 4 (hw _ (List.mem_of_getElem? (i := 15) rfl)) (hw _ (List.mem_of_getElem? (i := 16) rfl)) (hw _ (List.mem_of_getElem? (i := 17) rfl)) 0 di4_1 rfl (by decide) (by decide) (by decide) ?_
  intro T2 X2
  refine Go.iloadN X2 5 di4_4 rfl ?_
  refine Go.if0Y X2 27 di4_5 (XT.i0_ne_t (n_ne0 hn (by omega))) ?_
  refine Go.getS X2 30 (hw _ (List.mem_of_getElem? (i := 36) rfl)) SC di4_27 ?_
  intro T3 X3
  refine Go.if0N X3 33 di4_30 (XT.i0_eq_f hcz) ?_
  refine Go.aloadN X3 34 di4_33 rfl rfl ?_
  refine Go.iloadN X3 35 di4_34 rfl ?_
  refine Go.iloadN X3 36 di4_35 rfl ?_
  refine Go.callS X3 39 [(.ref src), (.int (0 : Int32)), (.int (Int32.ofNat n))] [] 0 (hw _ (List.mem_of_getElem? (i := 37) rfl)) (hw _ (List.mem_of_getElem? (i := 38) rfl)) (hw _ (List.mem_of_getElem? (i := 39) rfl)) (by decide) (hw _ (List.mem_of_getElem? (i := 40) rfl)) pd_4 di4_36 (rm_cmp3 l Z a0 hw h0 src 0 (Int32.ofNat n) n f rfl rfl hcap A hf SA SH SLo) rfl rfl rfl (Nat.le_of_eq rfl) (by decide) (by decide) (by decide) (by decide) ?_
  rintro T4 v4 L4 X4 ⟨t, rfl, K3, gt, N, g, B, hg⟩
  show Go p e below _ T4 m 39 #[.val (.ref a), .val (.ref src), .val (.int (0 : Int32)), .val (.int (Int32.ofNat n)), .val .null, .unset] [(.ref t)]
  have nw_t : Z.heap.size ≤ t := Nat.le_trans X3.le gt
  have ne_a_t : a ≠ t := Nat.ne_of_lt (Nat.lt_of_lt_of_le E.lt gt)
  have ne_src_t : src ≠ t := Nat.ne_of_lt (Nat.lt_of_lt_of_le A.lt gt)
  have si_t : h0.size ≤ t := Nat.le_trans K1.1 gt
  have K5 : Keep h0 T4.heap [a] := K1.trans K3 all0
  have F6 : Exa Z T4.heap a "java/lang/String" := E.keep K3
  have F7 : Fld Z T4.heap a "java/lang/String" "value" "[B" .null := FV.keep K3 nin0
  have F8 : Fld Z T4.heap a "java/lang/String" "coder" "B" (.int (0 : Int32)) := FC.keep K3 nin0
  have F9 : An Z T4.heap src .char n f := A.keep K3 nin0
  rcases hg with ⟨hN, hg⟩ | ⟨hN, hx, hg⟩
  · have hN' := hN.symm
    subst hN'
    refine Go.astore X4 41 #[.val (.ref a), .val (.ref src), .val (.int (0 : Int32)), .val (.int (Int32.ofNat n)), .val .null, .val (.ref t)] di4_39 rfl rfl ?_
    refine Go.aloadN X4 42 di4_41 rfl rfl ?_
    refine Go.aload X4 44 di4_42 rfl rfl ?_
    refine Go.iloadN X4 45 di4_44 rfl ?_
    refine Go.callSP X4 48 [(.ref t), (.int (Int32.ofNat n))] [(.ref a)] 1 (hw _ (List.mem_of_getElem? (i := 63) rfl)) (hw _ (List.mem_of_getElem? (i := 64) rfl)) (hw _ (List.mem_of_getElem? (i := 39) rfl)) (by decide) (hw _ (List.mem_of_getElem? (i := 65) rfl)) pd_6 di4_45 (rm_cfal l Z a0 hw T4.heap t (Int32.ofNat n) n n g 0 rfl B (Or.inl ⟨rfl, rfl⟩)) rfl rfl rfl (Nat.le_of_eq rfl) (by decide) (by decide) (by decide) (by decide) ?_
    intro T10 L10 X10
    refine Go.putF X10 51 (hw _ (List.mem_of_getElem? (i := 25) rfl)) F8 F6 (Or.inr ⟨(hw _ (List.mem_of_getElem? (i := 21) rfl)), rfl, rfl⟩) (hw _ (List.mem_of_getElem? (i := 5) rfl)) (ty := .byte) (by decide) rfl rfl na di4_48 ?_
    intro T11 h11 X11 W11
    have K12 : Keep h0 h11 [a] := K5.wr W11 (Or.inl (List.mem_of_getElem? (i := 0) rfl))
    have F13 : Exa Z h11 a "java/lang/String" := F6.wr W11
    have F14 : Fld Z h11 a "java/lang/String" "value" "[B" .null := F7.other W11 (Or.inr (slot_ne (Or.inr (hw _ (List.mem_of_getElem? (i := 20) rfl))) (Or.inr (hw _ (List.mem_of_getElem? (i := 21) rfl))) (by decide) (t := (.array .byte)) (t' := .byte) (by decide) (by decide)))
    have F15 : Fld Z h11 a "java/lang/String" "coder" "B" (.int (0 : Int32)) := F8.same W11
    have F16 : An Z h11 src .char n f := F9.other W11 hne
    have F17 : An Z h11 t .byte n g := B.other W11 (Ne.symm ne_a_t)
    refine Go.aloadN X11 52 di4_51 rfl rfl ?_
    refine Go.aload X11 54 di4_52 rfl rfl ?_
    refine Go.putF X11 57 (hw _ (List.mem_of_getElem? (i := 24) rfl)) F14 F13 (Or.inr ⟨(hw _ (List.mem_of_getElem? (i := 20) rfl)), rfl, rfl⟩) (hw _ (List.mem_of_getElem? (i := 5) rfl)) (ty := (.array .byte)) (by decide) rfl rfl na di4_54 ?_
    intro T18 h18 X18 W18
    have K19 : Keep h0 h18 [a] := K12.wr W18 (Or.inl (List.mem_of_getElem? (i := 0) rfl))
    have F20 : Exa Z h18 a "java/lang/String" := F13.wr W18
    have F21 : Fld Z h18 a "java/lang/String" "value" "[B" (.ref t) := F14.same W18
    have F22 : Fld Z h18 a "java/lang/String" "coder" "B" (.int (0 : Int32)) := F15.other W18 (Or.inr (slot_ne (Or.inr (hw _ (List.mem_of_getElem? (i := 21) rfl))) (Or.inr (hw _ (List.mem_of_getElem? (i := 20) rfl))) (by decide) (t := .byte) (t' := (.array .byte)) (by decide) (by decide)))
    have F23 : An Z h18 src .char n f := F16.other W18 hne
    have F24 : An Z h18 t .byte n g := F17.other W18 (Ne.symm ne_a_t)
    exact Go.retV X18 rfl di4_57 (X18.fin ⟨rfl, t, K19, si_t, F20, F21, by omega, hf, Or.inl ⟨F22, g, F24, hg⟩⟩ (by decide) (by decide))
  · subst hN
    refine Go.astore X4 41 #[.val (.ref a), .val (.ref src), .val (.int (0 : Int32)), .val (.int (Int32.ofNat n)), .val .null, .val (.ref t)] di4_39 rfl rfl ?_
    refine Go.aloadN X4 42 di4_41 rfl rfl ?_
    refine Go.aload X4 44 di4_42 rfl rfl ?_
    refine Go.iloadN X4 45 di4_44 rfl ?_
    refine Go.callSP X4 48 [(.ref t), (.int (Int32.ofNat n))] [(.ref a)] 1 (hw _ (List.mem_of_getElem? (i := 63) rfl)) (hw _ (List.mem_of_getElem? (i := 64) rfl)) (hw _ (List.mem_of_getElem? (i := 39) rfl)) (by decide) (hw _ (List.mem_of_getElem? (i := 65) rfl)) pd_6 di4_45 (rm_cfal l Z a0 hw T4.heap t (Int32.ofNat n) n (2 * n) g 1 rfl B (Or.inr ⟨rfl, hn, by omega, rfl⟩)) rfl rfl rfl (Nat.le_of_eq rfl) (by decide) (by decide) (by decide) (by decide) ?_
    intro T25 L25 X25
    refine Go.putF X25 51 (hw _ (List.mem_of_getElem? (i := 25) rfl)) F8 F6 (Or.inr ⟨(hw _ (List.mem_of_getElem? (i := 21) rfl)), rfl, rfl⟩) (hw _ (List.mem_of_getElem? (i := 5) rfl)) (ty := .byte) (by decide) rfl rfl na di4_48 ?_
    intro T26 h26 X26 W26
    have K27 : Keep h0 h26 [a] := K5.wr W26 (Or.inl (List.mem_of_getElem? (i := 0) rfl))
    have F28 : Exa Z h26 a "java/lang/String" := F6.wr W26
    have F29 : Fld Z h26 a "java/lang/String" "value" "[B" .null := F7.other W26 (Or.inr (slot_ne (Or.inr (hw _ (List.mem_of_getElem? (i := 20) rfl))) (Or.inr (hw _ (List.mem_of_getElem? (i := 21) rfl))) (by decide) (t := (.array .byte)) (t' := .byte) (by decide) (by decide)))
    have F30 : Fld Z h26 a "java/lang/String" "coder" "B" (.int (1 : Int32)) := F8.same W26
    have F31 : An Z h26 src .char n f := F9.other W26 hne
    have F32 : An Z h26 t .byte (2 * n) g := B.other W26 (Ne.symm ne_a_t)
    refine Go.aloadN X26 52 di4_51 rfl rfl ?_
    refine Go.aload X26 54 di4_52 rfl rfl ?_
    refine Go.putF X26 57 (hw _ (List.mem_of_getElem? (i := 24) rfl)) F29 F28 (Or.inr ⟨(hw _ (List.mem_of_getElem? (i := 20) rfl)), rfl, rfl⟩) (hw _ (List.mem_of_getElem? (i := 5) rfl)) (ty := (.array .byte)) (by decide) rfl rfl na di4_54 ?_
    intro T33 h33 X33 W33
    have K34 : Keep h0 h33 [a] := K27.wr W33 (Or.inl (List.mem_of_getElem? (i := 0) rfl))
    have F35 : Exa Z h33 a "java/lang/String" := F28.wr W33
    have F36 : Fld Z h33 a "java/lang/String" "value" "[B" (.ref t) := F29.same W33
    have F37 : Fld Z h33 a "java/lang/String" "coder" "B" (.int (1 : Int32)) := F30.other W33 (Or.inr (slot_ne (Or.inr (hw _ (List.mem_of_getElem? (i := 21) rfl))) (Or.inr (hw _ (List.mem_of_getElem? (i := 20) rfl))) (by decide) (t := .byte) (t' := (.array .byte)) (by decide) (by decide)))
    have F38 : An Z h33 src .char n f := F31.other W33 hne
    have F39 : An Z h33 t .byte (2 * n) g := F32.other W33 (Ne.symm ne_a_t)
    exact Go.retV X33 rfl di4_57 (X33.fin ⟨rfl, t, K34, si_t, F35, F36, by omega, hf, Or.inr ⟨F37, hx, g, F39, hg⟩⟩ (by decide) (by decide))
theorem di1_0 : decode jdk_42_method_3_code 0 = .ok (.aload_n 0, 1) := by decide +kernel
theorem di1_1 : decode jdk_42_method_3_code 1 = .ok (.aload_n 1, 1) := by decide +kernel
theorem di1_2 : decode jdk_42_method_3_code 2 = .ok (.iconst 0, 1) := by decide +kernel
theorem di1_3 : decode jdk_42_method_3_code 3 = .ok (.aload_n 1, 1) := by decide +kernel
theorem di1_4 : decode jdk_42_method_3_code 4 = .ok (.arraylength, 1) := by decide +kernel
theorem di1_5 : decode jdk_42_method_3_code 5 = .ok (.aconst_null, 1) := by decide +kernel
theorem di1_6 : decode jdk_42_method_3_code 6 = .ok (.invokespecial 27, 3) := by decide +kernel
theorem di1_9 : decode jdk_42_method_3_code 9 = .ok (.return_, 1) := by decide +kernel
theorem ef_i1 (m : MethodId) (a : Addr) (src : Addr) : entryFrame m #[(.ref a), (.ref src)] 2 = mkF m 0 #[.val (.ref a), .val (.ref src)] [] := by first | (simp [entryFrame, mkF, argsToLocals, Value.category]; done) | rfl
set_option maxRecDepth 65536 in
set_option maxHeartbeats 40000000 in
theorem rm_i1 (l : Launch) (Z : State) (a0 : Array Value) (hw : ∀ d ∈ tables_1, d.before a0 Z = true) (h0 : Heap) (cz : Int32) (SC : Sta Z Z.heap "java/lang/String" "COMPACT_STRINGS" "Z" (.int cz)) (hcz : ¬ cz = 0) (a src : Addr) (n : Nat) (f : Nat → Int32) (hn : 0 < n) (hcap : n ≤ 3) (E : Exa Z h0 a "java/lang/String") (FV : Fld Z h0 a "java/lang/String" "value" "[B" .null) (FC : Fld Z h0 a "java/lang/String" "coder" "B" (.int 0)) (na : Z.heap.size ≤ a) (hne : src ≠ a) (A : An Z h0 src .char n f) (hf : ∀ j, j < n → 0 ≤ (f j).toInt ∧ (f j).toInt < 65536) (SA : Sta Z Z.heap "java/lang/StringUTF16" "$assertionsDisabled" "Z" (.int 1)) (SH : Sta Z Z.heap "java/lang/StringUTF16" "HI_BYTE_SHIFT" "I" (.int 0)) (SLo : Sta Z Z.heap "java/lang/StringUTF16" "LO_BYTE_SHIFT" "I" (.int 8)) :
    Ct l Z [] (⟨"java/lang/String", "<init>", "([C)V"⟩ : MethodName) jdk_42_method_3_code 2 none (⟨5, 2, 9, 74⟩ : Room) #[(.ref a), (.ref src)] h0 (fun v h' => v = none ∧ ∃ t, Keep h0 h' [a] ∧ h0.size ≤ t ∧ Str Z h' a t n f) := by
  refine Ct.of pn_java_lang_String (fun m => ef_i1 m a src) ?_
  intro p e s m below meth c s₁ X0
  refine Go.aloadN X0 1 di1_0 rfl rfl ?_
  refine Go.aloadN X0 2 di1_1 rfl rfl ?_
  refine Go.iconst X0 3 (0 : Int32) di1_2 ?_
  refine Go.aloadN X0 4 di1_3 rfl rfl ?_
  refine Go.alenN X0 5 A di1_4 ?_
  refine Go.aconst_null X0 6 di1_5 ?_
  refine Go.callI X0 9 [(.ref src), (.int (0 : Int32)), (.int (Int32.ofNat n)), .null] [] 0 rfl (hw _ (List.mem_of_getElem? (i := 11) rfl)) (hw _ (List.mem_of_getElem? (i := 12) rfl)) (hw _ (List.mem_of_getElem? (i := 6) rfl)) (by decide) rfl (hw _ (List.mem_of_getElem? (i := 14) rfl)) pd_7 di1_6 (rm_i4 l Z a0 hw h0 cz SC hcz a src n f hn hcap E FV FC na hne A hf SA SH SLo 0 (Int32.ofNat n) rfl rfl) rfl rfl rfl (Nat.le_of_eq rfl) (by decide) (by decide) (by decide) (by decide) ?_
  rintro T1 v1 L1 X1 ⟨rfl, hq⟩
  show Go p e below _ T1 m 9 #[.val (.ref a), .val (.ref src)] []
  exact Go.retV X1 rfl di1_9 (X1.fin ⟨rfl, hq⟩ (by decide) (by decide))
theorem demp_0 : decode jdk_42_method_55_code 0 = .ok (.aload_n 0, 1) := by decide +kernel
theorem demp_1 : decode jdk_42_method_55_code 1 = .ok (.getfield 9, 3) := by decide +kernel
theorem demp_4 : decode jdk_42_method_55_code 4 = .ok (.arraylength, 1) := by decide +kernel
theorem demp_5 : decode jdk_42_method_55_code 5 = .ok (.ifCond .ne 7, 3) := by decide +kernel
theorem demp_8 : decode jdk_42_method_55_code 8 = .ok (.iconst 1, 1) := by decide +kernel
theorem demp_9 : decode jdk_42_method_55_code 9 = .ok (.goto 4, 3) := by decide +kernel
theorem demp_12 : decode jdk_42_method_55_code 12 = .ok (.iconst 0, 1) := by decide +kernel
theorem demp_13 : decode jdk_42_method_55_code 13 = .ok (.ireturn, 1) := by decide +kernel
theorem ef_emp (m : MethodId) (a : Addr) : entryFrame m #[(.ref a)] 1 = mkF m 0 #[.val (.ref a)] [] := by first | (simp [entryFrame, mkF, argsToLocals, Value.category]; done) | rfl
set_option maxRecDepth 65536 in
set_option maxHeartbeats 40000000 in
theorem rm_emp (l : Launch) (Z : State) (a0 : Array Value) (hw : ∀ d ∈ tables_1, d.before a0 Z = true) (h0 : Heap) (a t : Addr) (n : Nat) (f : Nat → Int32) (S : Str Z h0 a t n f) :
    Ct l Z [] (⟨"java/lang/String", "isEmpty", "()Z"⟩ : MethodName) jdk_42_method_55_code 1 (some .boolean) (⟨0, 0, 0, 0⟩ : Room) #[(.ref a)] h0 (Pu h0 (.int (if n = 0 then 1 else 0))) := by
  refine Ct.of pn_java_lang_String (fun m => ef_emp m a) ?_
  intro p e s m below meth c s₁ X0
  obtain ⟨S1, S2, S3, S4, ⟨S5, g, A, G⟩ | ⟨S5, S6, g, A, G⟩⟩ := S
  · by_cases q : n = 0
    · skip
      refine Go.aloadN X0 1 demp_0 rfl rfl ?_
      refine Go.getF X0 4 (hw _ (List.mem_of_getElem? (i := 24) rfl)) S2 demp_1 ?_
      intro T1 X1
      refine Go.alenN X1 5 A demp_4 ?_
      refine Go.if0N X1 8 demp_5 (XT.i0_ne_f (by rw [q]; rfl)) ?_
      refine Go.iconst X1 9 (1 : Int32) demp_8 ?_
      refine Go.goto X1 13 demp_9 ?_
      exact Go.retI X1 rfl (by simp) rfl demp_13 (X1.fin ⟨by simp [q], rfl⟩ (by decide) (by decide))
    · skip
      refine Go.aloadN X0 1 demp_0 rfl rfl ?_
      refine Go.getF X0 4 (hw _ (List.mem_of_getElem? (i := 24) rfl)) S2 demp_1 ?_
      intro T2 X2
      refine Go.alenN X2 5 A demp_4 ?_
      refine Go.if0Y X2 12 demp_5 (XT.i0_ne_t (n_ne0 (by omega) (by omega))) ?_
      refine Go.iconst X2 13 (0 : Int32) demp_12 ?_
      exact Go.retI X2 rfl (by simp) rfl demp_13 (X2.fin ⟨by simp [q], rfl⟩ (by decide) (by decide))
  · by_cases q : n = 0
    · skip
      refine Go.aloadN X0 1 demp_0 rfl rfl ?_
      refine Go.getF X0 4 (hw _ (List.mem_of_getElem? (i := 24) rfl)) S2 demp_1 ?_
      intro T3 X3
      refine Go.alenN X3 5 A demp_4 ?_
      refine Go.if0N X3 8 demp_5 (XT.i0_ne_f (by rw [q]; rfl)) ?_
      refine Go.iconst X3 9 (1 : Int32) demp_8 ?_
      refine Go.goto X3 13 demp_9 ?_
      exact Go.retI X3 rfl (by simp) rfl demp_13 (X3.fin ⟨by simp [q], rfl⟩ (by decide) (by decide))
    · skip
      refine Go.aloadN X0 1 demp_0 rfl rfl ?_
      refine Go.getF X0 4 (hw _ (List.mem_of_getElem? (i := 24) rfl)) S2 demp_1 ?_
      intro T4 X4
      refine Go.alenN X4 5 A demp_4 ?_
      refine Go.if0Y X4 12 demp_5 (XT.i0_ne_t (n_ne0 (by omega) (by omega))) ?_
      refine Go.iconst X4 13 (0 : Int32) demp_12 ?_
      exact Go.retI X4 rfl (by simp) rfl demp_13 (X4.fin ⟨by simp [q], rfl⟩ (by decide) (by decide))
theorem dlat_0 : decode jdk_42_method_154_code 0 = .ok (.getstatic 38, 3) := by decide +kernel
theorem dlat_3 : decode jdk_42_method_154_code 3 = .ok (.ifCond .eq 14, 3) := by decide +kernel
theorem dlat_6 : decode jdk_42_method_154_code 6 = .ok (.aload_n 0, 1) := by decide +kernel
theorem dlat_7 : decode jdk_42_method_154_code 7 = .ok (.getfield 15, 3) := by decide +kernel
theorem dlat_10 : decode jdk_42_method_154_code 10 = .ok (.ifCond .ne 7, 3) := by decide +kernel
theorem dlat_13 : decode jdk_42_method_154_code 13 = .ok (.iconst 1, 1) := by decide +kernel
theorem dlat_14 : decode jdk_42_method_154_code 14 = .ok (.goto 4, 3) := by decide +kernel
theorem dlat_17 : decode jdk_42_method_154_code 17 = .ok (.iconst 0, 1) := by decide +kernel
theorem dlat_18 : decode jdk_42_method_154_code 18 = .ok (.ireturn, 1) := by decide +kernel
theorem ef_lat (m : MethodId) (a : Addr) : entryFrame m #[(.ref a)] 1 = mkF m 0 #[.val (.ref a)] [] := by first | (simp [entryFrame, mkF, argsToLocals, Value.category]; done) | rfl
set_option maxRecDepth 65536 in
set_option maxHeartbeats 40000000 in
theorem rm_lat (l : Launch) (Z : State) (a0 : Array Value) (hw : ∀ d ∈ tables_1, d.before a0 Z = true) (h0 : Heap) (cz : Int32) (SC : Sta Z Z.heap "java/lang/String" "COMPACT_STRINGS" "Z" (.int cz)) (hcz : ¬ cz = 0) (a : Addr) (z r : Int32) (F : Fld Z h0 a "java/lang/String" "coder" "B" (.int z)) (hz : (z = 0 ∧ r = 1) ∨ (z = 1 ∧ r = 0)) :
    Ct l Z [] (⟨"java/lang/String", "isLatin1", "()Z"⟩ : MethodName) jdk_42_method_154_code 1 (some .boolean) (⟨0, 0, 0, 0⟩ : Room) #[(.ref a)] h0 (Pu h0 (.int r)) := by
  refine Ct.of pn_java_lang_String (fun m => ef_lat m a) ?_
  intro p e s m below meth c s₁ X0
  rcases hz with ⟨rfl, rfl⟩ | ⟨rfl, rfl⟩
  · skip
    refine Go.getS X0 3 (hw _ (List.mem_of_getElem? (i := 36) rfl)) SC dlat_0 ?_
    intro T1 X1
    refine Go.if0N X1 6 dlat_3 (XT.i0_eq_f hcz) ?_
    refine Go.aloadN X1 7 dlat_6 rfl rfl ?_
    refine Go.getF X1 10 (hw _ (List.mem_of_getElem? (i := 25) rfl)) F dlat_7 ?_
    intro T2 X2
    refine Go.if0N X2 13 dlat_10 (XT.i0_ne_f (by decide)) ?_
    refine Go.iconst X2 14 (1 : Int32) dlat_13 ?_
    refine Go.goto X2 18 dlat_14 ?_
    exact Go.retI X2 rfl (by simp) rfl dlat_18 (X2.fin ⟨rfl, rfl⟩ (by decide) (by decide))
  · skip
    refine Go.getS X0 3 (hw _ (List.mem_of_getElem? (i := 36) rfl)) SC dlat_0 ?_
    intro T3 X3
    refine Go.if0N X3 6 dlat_3 (XT.i0_eq_f hcz) ?_
    refine Go.aloadN X3 7 dlat_6 rfl rfl ?_
    refine Go.getF X3 10 (hw _ (List.mem_of_getElem? (i := 25) rfl)) F dlat_7 ?_
    intro T4 X4
    refine Go.if0Y X4 17 dlat_10 (XT.i0_ne_t (by decide)) ?_
    refine Go.iconst X4 18 (0 : Int32) dlat_17 ?_
    exact Go.retI X4 rfl (by simp) rfl dlat_18 (X4.fin ⟨rfl, rfl⟩ (by decide) (by decide))
theorem pn_jdk_internal_util_Preconditions : plainName "jdk/internal/util/Preconditions" = true := by first | (simp [plainName, overriddenIn]; done) | decide +kernel
theorem dpci_0 : decode jdk_41_method_11_code 0 = .ok (.iload_n 0, 1) := by decide +kernel
theorem dpci_1 : decode jdk_41_method_11_code 1 = .ok (.ifCond .lt 8, 3) := by decide +kernel
theorem dpci_4 : decode jdk_41_method_11_code 4 = .ok (.iload_n 0, 1) := by decide +kernel
theorem dpci_5 : decode jdk_41_method_11_code 5 = .ok (.iload_n 1, 1) := by decide +kernel
theorem dpci_6 : decode jdk_41_method_11_code 6 = .ok (.if_icmp .lt 10, 3) := by decide +kernel
theorem dpci_9 : decode jdk_41_method_11_code 9 = .ok (.aload_n 2, 1) := by decide +kernel
theorem dpci_10 : decode jdk_41_method_11_code 10 = .ok (.iload_n 0, 1) := by decide +kernel
theorem dpci_11 : decode jdk_41_method_11_code 11 = .ok (.iload_n 1, 1) := by decide +kernel
theorem dpci_12 : decode jdk_41_method_11_code 12 = .ok (.invokestatic 95, 3) := by decide +kernel
theorem dpci_15 : decode jdk_41_method_11_code 15 = .ok (.athrow, 1) := by decide +kernel
theorem dpci_16 : decode jdk_41_method_11_code 16 = .ok (.iload_n 0, 1) := by decide +kernel
theorem dpci_17 : decode jdk_41_method_11_code 17 = .ok (.ireturn, 1) := by decide +kernel
theorem ef_pci (m : MethodId) (i : Int32) (n : Int32) (wf : Value) (h_wf : wf.isRef = true) : entryFrame m #[(.int i), (.int n), wf] 3 = mkF m 0 #[.val (.int i), .val (.int n), .val wf] [] := by rcases XT.refc h_wf with rfl | ⟨_, rfl⟩ <;> first | (simp [entryFrame, mkF, argsToLocals, Value.category]; done) | rfl
set_option maxRecDepth 65536 in
set_option maxHeartbeats 40000000 in
theorem rm_pci (l : Launch) (Z : State) (a0 : Array Value) (hw : ∀ d ∈ tables_1, d.before a0 Z = true) (h0 : Heap) (i n : Int32) (wf : Value) (hwf : wf.isRef = true) (h1 : ¬ i < 0) (h2 : i < n) :
    Ct l Z [] (⟨"jdk/internal/util/Preconditions", "checkIndex", "(IILjava/util/function/BiFunction;)I"⟩ : MethodName) jdk_41_method_11_code 3 (some .int) (⟨0, 0, 0, 0⟩ : Room) #[(.int i), (.int n), wf] h0 (Pu h0 (.int i)) := by
  refine Ct.of pn_jdk_internal_util_Preconditions (fun m => ef_pci m i n wf hwf) ?_
  intro p e s m below meth c s₁ X0
  refine Go.iloadN X0 1 dpci_0 rfl ?_
  refine Go.if0N X0 4 dpci_1 (XT.i0_lt_f h1) ?_
  refine Go.iloadN X0 5 dpci_4 rfl ?_
  refine Go.iloadN X0 6 dpci_5 rfl ?_
  refine Go.icmpY X0 16 dpci_6 (XT.ii_lt_t h2) ?_
  refine Go.iloadN X0 17 dpci_16 rfl ?_
  exact Go.retI X0 rfl (by simp) rfl dpci_17 (X0.fin ⟨rfl, rfl⟩ (by decide) (by decide))
theorem dsci_0 : decode jdk_42_method_155_code 0 = .ok (.iload_n 0, 1) := by decide +kernel
theorem dsci_1 : decode jdk_42_method_155_code 1 = .ok (.iload_n 1, 1) := by decide +kernel
theorem dsci_2 : decode jdk_42_method_155_code 2 = .ok (.getstatic 1053, 3) := by decide +kernel
theorem dsci_5 : decode jdk_42_method_155_code 5 = .ok (.invokestatic 1059, 3) := by decide +kernel
theorem dsci_8 : decode jdk_42_method_155_code 8 = .ok (.pop, 1) := by decide +kernel
theorem dsci_9 : decode jdk_42_method_155_code 9 = .ok (.return_, 1) := by decide +kernel
theorem ef_sci (m : MethodId) (i : Int32) (n : Int32) : entryFrame m #[(.int i), (.int n)] 2 = mkF m 0 #[.val (.int i), .val (.int n)] [] := by first | (simp [entryFrame, mkF, argsToLocals, Value.category]; done) | rfl
set_option maxRecDepth 65536 in
set_option maxHeartbeats 40000000 in
theorem rm_sci (l : Launch) (Z : State) (a0 : Array Value) (hw : ∀ d ∈ tables_1, d.before a0 Z = true) (h0 : Heap) (wf : Value) (hwf : wf.isRef = true) (SF : Sta Z Z.heap "jdk/internal/util/Preconditions" "SIOOBE_FORMATTER" "Ljava/util/function/BiFunction;" wf) (i n : Int32) (h1 : ¬ i < 0) (h2 : i < n) :
    Ct l Z [] (⟨"java/lang/String", "checkIndex", "(II)V"⟩ : MethodName) jdk_42_method_155_code 2 none (⟨1, 0, 0, 14⟩ : Room) #[(.int i), (.int n)] h0 (fun v h' => v = none ∧ h' = h0) := by
  refine Ct.of pn_java_lang_String (fun m => ef_sci m i n) ?_
  intro p e s m below meth c s₁ X0
  refine Go.iloadN X0 1 dsci_0 rfl ?_
  refine Go.iloadN X0 2 dsci_1 rfl ?_
  refine Go.getS X0 5 (hw _ (List.mem_of_getElem? (i := 88) rfl)) SF dsci_2 ?_
  intro T1 X1
  refine Go.callSP X1 8 [(.int i), (.int n), wf] [] 0 (hw _ (List.mem_of_getElem? (i := 90) rfl)) (hw _ (List.mem_of_getElem? (i := 91) rfl)) (hw _ (List.mem_of_getElem? (i := 89) rfl)) (by decide) (hw _ (List.mem_of_getElem? (i := 92) rfl)) pd_8 dsci_5 (rm_pci l Z a0 hw h0 i n wf hwf h1 h2) rfl rfl rfl (Nat.le_of_eq rfl) (by decide) (by decide) (by decide) (by decide) ?_
  intro T2 L2 X2
  refine Go.pop X2 9 dsci_8 rfl ?_
  exact Go.retV X2 rfl dsci_9 (X2.fin ⟨rfl, rfl⟩ (by decide) (by decide))
theorem pn_java_lang_StringLatin1 : plainName "java/lang/StringLatin1" = true := by first | (simp [plainName, overriddenIn]; done) | decide +kernel
theorem dl1c_0 : decode jdk_43_method_2_code 0 = .ok (.iload_n 1, 1) := by decide +kernel
theorem dl1c_1 : decode jdk_43_method_2_code 1 = .ok (.aload_n 0, 1) := by decide +kernel
theorem dl1c_2 : decode jdk_43_method_2_code 2 = .ok (.arraylength, 1) := by decide +kernel
theorem dl1c_3 : decode jdk_43_method_2_code 3 = .ok (.invokestatic 9, 3) := by decide +kernel
theorem dl1c_6 : decode jdk_43_method_2_code 6 = .ok (.aload_n 0, 1) := by decide +kernel
theorem dl1c_7 : decode jdk_43_method_2_code 7 = .ok (.iload_n 1, 1) := by decide +kernel
theorem dl1c_8 : decode jdk_43_method_2_code 8 = .ok (.baload, 1) := by decide +kernel
theorem dl1c_9 : decode jdk_43_method_2_code 9 = .ok (.sipush 255, 3) := by decide +kernel
theorem dl1c_12 : decode jdk_43_method_2_code 12 = .ok (.iand, 1) := by decide +kernel
theorem dl1c_13 : decode jdk_43_method_2_code 13 = .ok (.i2c, 1) := by decide +kernel
theorem dl1c_14 : decode jdk_43_method_2_code 14 = .ok (.ireturn, 1) := by decide +kernel
theorem ef_l1c (m : MethodId) (t : Addr) (z : Int32) : entryFrame m #[(.ref t), (.int z)] 2 = mkF m 0 #[.val (.ref t), .val (.int z)] [] := by first | (simp [entryFrame, mkF, argsToLocals, Value.category]; done) | rfl
set_option maxRecDepth 65536 in
set_option maxHeartbeats 40000000 in
theorem rm_l1c (l : Launch) (Z : State) (a0 : Array Value) (hw : ∀ d ∈ tables_1, d.before a0 Z = true) (h0 : Heap) (wf : Value) (hwf : wf.isRef = true) (SF : Sta Z Z.heap "jdk/internal/util/Preconditions" "SIOOBE_FORMATTER" "Ljava/util/function/BiFunction;" wf) (t : Addr) (z : Int32) (n i : Nat) (g : Nat → Int32) (x : Int32) (hz : z = Int32.ofNat i) (A : An Z h0 t .byte n g) (hi : i < n) (hx : g i = x.toInt8.toInt32) (h0x : 0 ≤ x.toInt) (h1x : ¬ 255 < x) :
    Ct l Z [] (⟨"java/lang/StringLatin1", "charAt", "([BI)C"⟩ : MethodName) jdk_43_method_2_code 2 (some .char) (⟨2, 0, 0, 27⟩ : Room) #[(.ref t), (.int z)] h0 (Pu h0 (.int x)) := by
  refine Ct.of pn_java_lang_StringLatin1 (fun m => ef_l1c m t z) ?_
  intro p e s m below meth c s₁ X0
  subst hz
  refine Go.iloadN X0 1 dl1c_0 rfl ?_
  refine Go.aloadN X0 2 dl1c_1 rfl rfl ?_
  refine Go.alenN X0 3 A dl1c_2 ?_
  refine Go.callS X0 6 [(.int (Int32.ofNat i)), (.int (Int32.ofNat n))] [] 0 (hw _ (List.mem_of_getElem? (i := 98) rfl)) (hw _ (List.mem_of_getElem? (i := 86) rfl)) (hw _ (List.mem_of_getElem? (i := 6) rfl)) (by decide) (hw _ (List.mem_of_getElem? (i := 87) rfl)) pd_9 dl1c_3 (rm_sci l Z a0 hw h0 wf hwf SF (Int32.ofNat i) (Int32.ofNat n) (A.inb hi).1 (A.inb hi).2) rfl rfl rfl (Nat.le_of_eq rfl) (by decide) (by decide) (by decide) (by decide) ?_
  rintro T1 v1 L1 X1 ⟨rfl, hh⟩
  rw [hh] at X1
  show Go p e below _ T1 m 6 #[.val (.ref t), .val (.int (Int32.ofNat i))] []
  refine Go.aloadN X1 7 dl1c_6 rfl rfl ?_
  refine Go.iloadN X1 8 dl1c_7 rfl ?_
  refine Go.baN X1 9 A i hi dl1c_8 ?_
  rw [hx]
  refine Go.sipush X1 12 (255 : Int32) dl1c_9 ?_
  refine Go.iand X1 13 dl1c_12 ?_
  rw [n_low h0x h1x]
  refine Go.i2c X1 14 dl1c_13 ?_
  rw [n_chr h0x (n_le h1x)]
  exact Go.retI X1 rfl (by simp) (n_nar h0x (n_le h1x)) dl1c_14 (X1.fin ⟨rfl, rfl⟩ (by decide) (by decide))
theorem n_sh1 {n : Nat} (h : n < 1073741823) : Int32.ofNat (2 * n) >>> ((1 : Int32) &&& 31) = Int32.ofNat n := by
  apply Int32.toInt_inj.mp
  rw [c_ishr _ 1 1 (by decide), n_int (by omega), n_int (by omega)]
  have : ((2 ^ 1 : Nat) : Int) = 2 := by decide
  rw [this]
  omega
theorem dul_0 : decode jdk_52_method_6_code 0 = .ok (.aload_n 0, 1) := by decide +kernel
theorem dul_1 : decode jdk_52_method_6_code 1 = .ok (.arraylength, 1) := by decide +kernel
theorem dul_2 : decode jdk_52_method_6_code 2 = .ok (.iconst 1, 1) := by decide +kernel
theorem dul_3 : decode jdk_52_method_6_code 3 = .ok (.ishr, 1) := by decide +kernel
theorem dul_4 : decode jdk_52_method_6_code 4 = .ok (.ireturn, 1) := by decide +kernel
theorem ef_ul (m : MethodId) (t : Addr) : entryFrame m #[(.ref t)] 1 = mkF m 0 #[.val (.ref t)] [] := by first | (simp [entryFrame, mkF, argsToLocals, Value.category]; done) | rfl
set_option maxRecDepth 65536 in
set_option maxHeartbeats 40000000 in
theorem rm_ul (l : Launch) (Z : State) (a0 : Array Value) (hw : ∀ d ∈ tables_1, d.before a0 Z = true) (h0 : Heap) (t : Addr) (n : Nat) (g : Nat → Int32) (A : An Z h0 t .byte (2 * n) g) (hn : n < 1073741823) :
    Ct l Z [] (⟨"java/lang/StringUTF16", "length", "([B)I"⟩ : MethodName) jdk_52_method_6_code 1 (some .int) (⟨0, 0, 0, 0⟩ : Room) #[(.ref t)] h0 (Pu h0 (.int (Int32.ofNat n))) := by
  refine Ct.of pn_java_lang_StringUTF16 (fun m => ef_ul m t) ?_
  intro p e s m below meth c s₁ X0
  refine Go.aloadN X0 1 dul_0 rfl rfl ?_
  refine Go.alenN X0 2 A dul_1 ?_
  refine Go.iconst X0 3 (1 : Int32) dul_2 ?_
  refine Go.ishr X0 4 dul_3 ?_
  rw [n_sh1 hn]
  exact Go.retI X0 rfl (by simp) rfl dul_4 (X0.fin ⟨rfl, rfl⟩ (by decide) (by decide))
theorem duci_0 : decode jdk_52_method_91_code 0 = .ok (.iload_n 0, 1) := by decide +kernel
theorem duci_1 : decode jdk_52_method_91_code 1 = .ok (.aload_n 1, 1) := by decide +kernel
theorem duci_2 : decode jdk_52_method_91_code 2 = .ok (.invokestatic 48, 3) := by decide +kernel
theorem duci_5 : decode jdk_52_method_91_code 5 = .ok (.invokestatic 414, 3) := by decide +kernel
theorem duci_8 : decode jdk_52_method_91_code 8 = .ok (.return_, 1) := by decide +kernel
theorem ef_uci (m : MethodId) (z : Int32) (t : Addr) : entryFrame m #[(.int z), (.ref t)] 2 = mkF m 0 #[.val (.int z), .val (.ref t)] [] := by first | (simp [entryFrame, mkF, argsToLocals, Value.category]; done) | rfl
set_option maxRecDepth 65536 in
set_option maxHeartbeats 40000000 in
theorem rm_uci (l : Launch) (Z : State) (a0 : Array Value) (hw : ∀ d ∈ tables_1, d.before a0 Z = true) (h0 : Heap) (wf : Value) (hwf : wf.isRef = true) (SF : Sta Z Z.heap "jdk/internal/util/Preconditions" "SIOOBE_FORMATTER" "Ljava/util/function/BiFunction;" wf) (t : Addr) (z : Int32) (n i : Nat) (g : Nat → Int32) (hz : z = Int32.ofNat i) (A : An Z h0 t .byte (2 * n) g) (hn : n < 1073741823) (hi : i < n) :
    Ct l Z [] (⟨"java/lang/StringUTF16", "checkIndex", "(I[B)V"⟩ : MethodName) jdk_52_method_91_code 2 none (⟨2, 0, 0, 27⟩ : Room) #[(.int z), (.ref t)] h0 (fun v h' => v = none ∧ h' = h0) := by
  refine Ct.of pn_java_lang_StringUTF16 (fun m => ef_uci m z t) ?_
  intro p e s m below meth c s₁ X0
  subst hz
  refine Go.iloadN X0 1 duci_0 rfl ?_
  refine Go.aloadN X0 2 duci_1 rfl rfl ?_
  refine Go.callSP X0 5 [(.ref t)] [(.int (Int32.ofNat i))] 1 (hw _ (List.mem_of_getElem? (i := 82) rfl)) (hw _ (List.mem_of_getElem? (i := 83) rfl)) (hw _ (List.mem_of_getElem? (i := 39) rfl)) (by decide) (hw _ (List.mem_of_getElem? (i := 84) rfl)) pd_10 duci_2 (rm_ul l Z a0 hw h0 t n g A hn) rfl rfl rfl (Nat.le_of_eq rfl) (by decide) (by decide) (by decide) (by decide) ?_
  intro T1 L1 X1
  refine Go.callS X1 8 [(.int (Int32.ofNat i)), (.int (Int32.ofNat n))] [] 0 (hw _ (List.mem_of_getElem? (i := 85) rfl)) (hw _ (List.mem_of_getElem? (i := 86) rfl)) (hw _ (List.mem_of_getElem? (i := 6) rfl)) (by decide) (hw _ (List.mem_of_getElem? (i := 87) rfl)) pd_9 duci_5 (rm_sci l Z a0 hw h0 wf hwf SF (Int32.ofNat i) (Int32.ofNat n) (n_nn (by omega)) (n_lt hi (by omega))) rfl rfl rfl (Nat.le_of_eq rfl) (by decide) (by decide) (by decide) (by decide) ?_
  rintro T2 v2 L2 X2 ⟨rfl, hh⟩
  rw [hh] at X2
  show Go p e below _ T2 m 8 #[.val (.int (Int32.ofNat i)), .val (.ref t)] []
  exact Go.retV X2 rfl duci_8 (X2.fin ⟨rfl, rfl⟩ (by decide) (by decide))
theorem duc_0 : decode jdk_52_method_83_code 0 = .ok (.iload_n 1, 1) := by decide +kernel
theorem duc_1 : decode jdk_52_method_83_code 1 = .ok (.aload_n 0, 1) := by decide +kernel
theorem duc_2 : decode jdk_52_method_83_code 2 = .ok (.invokestatic 67, 3) := by decide +kernel
theorem duc_5 : decode jdk_52_method_83_code 5 = .ok (.aload_n 0, 1) := by decide +kernel
theorem duc_6 : decode jdk_52_method_83_code 6 = .ok (.iload_n 1, 1) := by decide +kernel
theorem duc_7 : decode jdk_52_method_83_code 7 = .ok (.invokestatic 71, 3) := by decide +kernel
theorem duc_10 : decode jdk_52_method_83_code 10 = .ok (.ireturn, 1) := by decide +kernel
theorem ef_uc (m : MethodId) (t : Addr) (z : Int32) : entryFrame m #[(.ref t), (.int z)] 2 = mkF m 0 #[.val (.ref t), .val (.int z)] [] := by first | (simp [entryFrame, mkF, argsToLocals, Value.category]; done) | rfl
set_option maxRecDepth 65536 in
set_option maxHeartbeats 40000000 in
theorem rm_uc (l : Launch) (Z : State) (a0 : Array Value) (hw : ∀ d ∈ tables_1, d.before a0 Z = true) (h0 : Heap) (SA : Sta Z Z.heap "java/lang/StringUTF16" "$assertionsDisabled" "Z" (.int 1)) (SH : Sta Z Z.heap "java/lang/StringUTF16" "HI_BYTE_SHIFT" "I" (.int 0)) (SLo : Sta Z Z.heap "java/lang/StringUTF16" "LO_BYTE_SHIFT" "I" (.int 8)) (wf : Value) (hwf : wf.isRef = true) (SF : Sta Z Z.heap "jdk/internal/util/Preconditions" "SIOOBE_FORMATTER" "Ljava/util/function/BiFunction;" wf) (t : Addr) (z : Int32) (n i : Nat) (g : Nat → Int32) (hz : z = Int32.ofNat i) (A : An Z h0 t .byte (2 * n) g) (hn : n < 1073741823) (hi : i < n) (y : Int32) (g0 : g (2 * i) = lo8 y) (g1 : g (2 * i + 1) = hi8 y) (y0 : 0 ≤ y.toInt) (y1 : y.toInt < 65536) :
    Ct l Z [] (⟨"java/lang/StringUTF16", "charAt", "([BI)C"⟩ : MethodName) jdk_52_method_83_code 2 (some .char) (⟨3, 0, 0, 40⟩ : Room) #[(.ref t), (.int z)] h0 (Pu h0 (.int y)) := by
  refine Ct.of pn_java_lang_StringUTF16 (fun m => ef_uc m t z) ?_
  intro p e s m below meth c s₁ X0
  subst hz
  refine Go.iloadN X0 1 duc_0 rfl ?_
  refine Go.aloadN X0 2 duc_1 rfl rfl ?_
  refine Go.callS X0 5 [(.int (Int32.ofNat i)), (.ref t)] [] 0 (hw _ (List.mem_of_getElem? (i := 79) rfl)) (hw _ (List.mem_of_getElem? (i := 80) rfl)) (hw _ (List.mem_of_getElem? (i := 39) rfl)) (by decide) (hw _ (List.mem_of_getElem? (i := 81) rfl)) pd_11 duc_2 (rm_uci l Z a0 hw h0 wf hwf SF t (Int32.ofNat i) n i g rfl A hn hi) rfl rfl rfl (Nat.le_of_eq rfl) (by decide) (by decide) (by decide) (by decide) ?_
  rintro T1 v1 L1 X1 ⟨rfl, hh⟩
  rw [hh] at X1
  show Go p e below _ T1 m 5 #[.val (.ref t), .val (.int (Int32.ofNat i))] []
  refine Go.aloadN X1 6 duc_5 rfl rfl ?_
  refine Go.iloadN X1 7 duc_6 rfl ?_
  refine Go.callSP X1 10 [(.ref t), (.int (Int32.ofNat i))] [] 0 (hw _ (List.mem_of_getElem? (i := 60) rfl)) (hw _ (List.mem_of_getElem? (i := 61) rfl)) (hw _ (List.mem_of_getElem? (i := 39) rfl)) (by decide) (hw _ (List.mem_of_getElem? (i := 62) rfl)) pd_5 duc_7 (rm_getc l Z a0 hw h0 SA SH SLo t (Int32.ofNat i) i (2 * n) g y rfl A (by omega) (by omega) g0 g1 y0 y1) rfl rfl rfl (Nat.le_of_eq rfl) (by decide) (by decide) (by decide) (by decide) ?_
  intro T2 L2 X2
  exact Go.retI X2 rfl (by simp) (n_nar' y0 y1) duc_10 (X2.fin ⟨rfl, rfl⟩ (by decide) (by decide))
theorem dchat_0 : decode jdk_42_method_56_code 0 = .ok (.aload_n 0, 1) := by decide +kernel
theorem dchat_1 : decode jdk_42_method_56_code 1 = .ok (.invokevirtual 492, 3) := by decide +kernel
theorem dchat_4 : decode jdk_42_method_56_code 4 = .ok (.ifCond .eq 12, 3) := by decide +kernel
theorem dchat_7 : decode jdk_42_method_56_code 7 = .ok (.aload_n 0, 1) := by decide +kernel
theorem dchat_8 : decode jdk_42_method_56_code 8 = .ok (.getfield 9, 3) := by decide +kernel
theorem dchat_11 : decode jdk_42_method_56_code 11 = .ok (.iload_n 1, 1) := by decide +kernel
theorem dchat_12 : decode jdk_42_method_56_code 12 = .ok (.invokestatic 495, 3) := by decide +kernel
theorem dchat_15 : decode jdk_42_method_56_code 15 = .ok (.ireturn, 1) := by decide +kernel
theorem dchat_16 : decode jdk_42_method_56_code 16 = .ok (.aload_n 0, 1) := by decide +kernel
theorem dchat_17 : decode jdk_42_method_56_code 17 = .ok (.getfield 9, 3) := by decide +kernel
theorem dchat_20 : decode jdk_42_method_56_code 20 = .ok (.iload_n 1, 1) := by decide +kernel
theorem dchat_21 : decode jdk_42_method_56_code 21 = .ok (.invokestatic 498, 3) := by decide +kernel
theorem dchat_24 : decode jdk_42_method_56_code 24 = .ok (.ireturn, 1) := by decide +kernel
theorem ef_chat (m : MethodId) (a : Addr) (z : Int32) : entryFrame m #[(.ref a), (.int z)] 2 = mkF m 0 #[.val (.ref a), .val (.int z)] [] := by first | (simp [entryFrame, mkF, argsToLocals, Value.category]; done) | rfl
set_option maxRecDepth 65536 in
set_option maxHeartbeats 40000000 in
theorem rm_chat (l : Launch) (Z : State) (a0 : Array Value) (hw : ∀ d ∈ tables_1, d.before a0 Z = true) (h0 : Heap) (cz : Int32) (SC : Sta Z Z.heap "java/lang/String" "COMPACT_STRINGS" "Z" (.int cz)) (hcz : ¬ cz = 0) (SA : Sta Z Z.heap "java/lang/StringUTF16" "$assertionsDisabled" "Z" (.int 1)) (SH : Sta Z Z.heap "java/lang/StringUTF16" "HI_BYTE_SHIFT" "I" (.int 0)) (SLo : Sta Z Z.heap "java/lang/StringUTF16" "LO_BYTE_SHIFT" "I" (.int 8)) (wf : Value) (hwf : wf.isRef = true) (SF : Sta Z Z.heap "jdk/internal/util/Preconditions" "SIOOBE_FORMATTER" "Ljava/util/function/BiFunction;" wf) (a t : Addr) (z : Int32) (n i : Nat) (f : Nat → Int32) (hz : z = Int32.ofNat i) (S : Str Z h0 a t n f) (hi : i < n) :
    Ct l Z [] (⟨"java/lang/String", "charAt", "(I)C"⟩ : MethodName) jdk_42_method_56_code 2 (some .char) (⟨4, 0, 0, 53⟩ : Room) #[(.ref a), (.int z)] h0 (Pu h0 (.int (f i))) := by
  refine Ct.of pn_java_lang_String (fun m => ef_chat m a z) ?_
  intro p e s m below meth c s₁ X0
  subst hz
  obtain ⟨S1, S2, S3, S4, ⟨S5, g, A, G⟩ | ⟨S5, S6, g, A, G⟩⟩ := S
  · skip
    refine Go.aloadN X0 1 dchat_0 rfl rfl ?_
    refine Go.callVP X0 4 [] [] 0 (hw _ (List.mem_of_getElem? (i := 71) rfl)) (hw _ (List.mem_of_getElem? (i := 72) rfl)) (hw _ (List.mem_of_getElem? (i := 74) rfl)) (notFace_of_selects (args := #[]) (mvT X0.hZ (hw _ (List.mem_of_getElem? (i := 74) rfl)))) (hw _ (List.mem_of_getElem? (i := 73) rfl)) (hw _ (List.mem_of_getElem? (i := 6) rfl)) (by decide) S1 (hw _ (List.mem_of_getElem? (i := 75) rfl)) pd_12 dchat_1 (rm_lat l Z a0 hw h0 cz SC hcz a 0 1 S5 (Or.inl ⟨rfl, rfl⟩)) rfl rfl rfl (Nat.le_of_eq rfl) (by decide) (by decide) (by decide) (by decide) ?_
    intro T1 L1 X1
    refine Go.if0N X1 7 dchat_4 (XT.i0_eq_f (by decide)) ?_
    refine Go.aloadN X1 8 dchat_7 rfl rfl ?_
    refine Go.getF X1 11 (hw _ (List.mem_of_getElem? (i := 24) rfl)) S2 dchat_8 ?_
    intro T2 X2
    refine Go.iloadN X2 12 dchat_11 rfl ?_
    refine Go.callSP X2 15 [(.ref t), (.int (Int32.ofNat i))] [] 0 (hw _ (List.mem_of_getElem? (i := 94) rfl)) (hw _ (List.mem_of_getElem? (i := 95) rfl)) (hw _ (List.mem_of_getElem? (i := 96) rfl)) (by decide) (hw _ (List.mem_of_getElem? (i := 97) rfl)) pd_5 dchat_12 (rm_l1c l Z a0 hw h0 wf hwf SF t (Int32.ofNat i) n i g (f i) rfl A hi (G i hi).2 (S4 i hi).1 (G i hi).1) rfl rfl rfl (Nat.le_of_eq rfl) (by decide) (by decide) (by decide) (by decide) ?_
    intro T3 L3 X3
    exact Go.retI X3 rfl (by simp) (n_nar (S4 i hi).1 (S4 i hi).2) dchat_15 (X3.fin ⟨rfl, rfl⟩ (by decide) (by decide))
  · skip
    refine Go.aloadN X0 1 dchat_0 rfl rfl ?_
    refine Go.callVP X0 4 [] [] 0 (hw _ (List.mem_of_getElem? (i := 71) rfl)) (hw _ (List.mem_of_getElem? (i := 72) rfl)) (hw _ (List.mem_of_getElem? (i := 74) rfl)) (notFace_of_selects (args := #[]) (mvT X0.hZ (hw _ (List.mem_of_getElem? (i := 74) rfl)))) (hw _ (List.mem_of_getElem? (i := 73) rfl)) (hw _ (List.mem_of_getElem? (i := 6) rfl)) (by decide) S1 (hw _ (List.mem_of_getElem? (i := 75) rfl)) pd_12 dchat_1 (rm_lat l Z a0 hw h0 cz SC hcz a 1 0 S5 (Or.inr ⟨rfl, rfl⟩)) rfl rfl rfl (Nat.le_of_eq rfl) (by decide) (by decide) (by decide) (by decide) ?_
    intro T4 L4 X4
    refine Go.if0Y X4 16 dchat_4 (XT.i0_eq_t (by decide)) ?_
    refine Go.aloadN X4 17 dchat_16 rfl rfl ?_
    refine Go.getF X4 20 (hw _ (List.mem_of_getElem? (i := 24) rfl)) S2 dchat_17 ?_
    intro T5 X5
    refine Go.iloadN X5 21 dchat_20 rfl ?_
    refine Go.callSP X5 24 [(.ref t), (.int (Int32.ofNat i))] [] 0 (hw _ (List.mem_of_getElem? (i := 76) rfl)) (hw _ (List.mem_of_getElem? (i := 77) rfl)) (hw _ (List.mem_of_getElem? (i := 39) rfl)) (by decide) (hw _ (List.mem_of_getElem? (i := 78) rfl)) pd_5 dchat_21 (rm_uc l Z a0 hw h0 SA SH SLo wf hwf SF t (Int32.ofNat i) n i g rfl A S3 hi (f i) (G i hi).1 (G i hi).2 (S4 i hi).1 (S4 i hi).2) rfl rfl rfl (Nat.le_of_eq rfl) (by decide) (by decide) (by decide) (by decide) ?_
    intro T6 L6 X6
    exact Go.retI X6 rfl (by simp) (n_nar (S4 i hi).1 (S4 i hi).2) dchat_24 (X6.fin ⟨rfl, rfl⟩ (by decide) (by decide))
theorem own_safe {Z : State} {EL : List (String × Nat)} {vm : Vm} {h : Heap} {x : Addr} (hal : Z.vm.Alike vm) (E : Exa Z h x "java/lang/String") (F : Fld Z h x "java/lang/String" "value" "[B" .null) : Safe Z EL vm h x := fun B => by
  obtain ⟨cell, k, e1, e2, e3, -, -⟩ := E
  obtain ⟨cell', cf, kf, i, f, f1, f2, -, -, -, -, f7⟩ := F
  cases e1.symm.trans f1
  obtain ⟨p, -, u, a, -, q, -, S, rfl | rfl⟩ := B
  · have hs : h[q.sa]? = some q.sC := S.ha
    cases hs.symm.trans e1
    obtain ⟨cS, ⟨⟨-, -, -, ⟨c1, k1, i1, g1, -⟩, -, -, -, v1, -⟩, -⟩, -⟩ := S
    obtain ⟨k2, g2, -⟩ := State.fieldFound?_setVm (s := Z) hal f2
    have g3 : (Wst Z vm h).fieldFound? "java/lang/String" "value" "[B" = some (cf, k2, i, f) := g2
    have g4 := g3.symm.trans g1
    simp only [Option.some.injEq, Prod.mk.injEq] at g4
    rw [← g4.2.2.2, f7] at v1
    cases v1
  · have hd : h[q.sd]? = some q.SA := S.hd
    cases hd.symm.trans e1
    obtain ⟨cS, -, -, f8, -⟩ := S
    have f9 : vm.findClass "[B" = some q.SA.cls := f8
    rw [hal.findClass] at f9
    obtain ⟨k1, q1, q2⟩ := Vm.findClass_spec f9
    obtain ⟨k2, q3, q4⟩ := Vm.findClass_spec e2
    cases q1.symm.trans q3
    exact absurd (q2.symm.trans q4) (by decide)
theorem own_an0 {Z : State} {h : Heap} {b : Addr} {k : ClassId} (V : Arv Z h b k .byte (0 : Int32) [] (.int 0)) : An Z h b .byte 0 (fun _ => (0 : Int32)) := ⟨by decide, k, [], .int 0, V, rfl, fun j hj => absurd hj (Nat.not_lt_zero j)⟩
theorem own_atoms {a0 : Array Value} {Z : State} (hw : ∀ d ∈ tables_1, d.before a0 Z = true) : ∀ a ∈ Bundle.stringAtoms, a.before a0 Z = true := fun a ha => hw a (List.all_eq_true.mp (show (Bundle.stringAtoms.all fun d => decide (d ∈ tables_1)) = true from by decide +kernel) a ha |> of_decide_eq_true)
theorem own_EW {a0 : Array Value} {Z : State} (hw : ∀ d ∈ tables_1, d.before a0 Z = true) : EW Z a0 consts_1 := EW.cons (hw _ (List.mem_of_getElem? (i := 18) rfl)) (by decide) EW.nil
set_option maxRecDepth 65536 in
set_option maxHeartbeats 40000000 in
theorem rm_i4e (l : Launch) (Z : State) (a0 : Array Value) (hw : ∀ d ∈ tables_1, d.before a0 Z = true) (h0 : Heap) (a src : Addr) (E : Exa Z h0 a "java/lang/String") (FV : Fld Z h0 a "java/lang/String" "value" "[B" .null) (FC : Fld Z h0 a "java/lang/String" "coder" "B" (.int 0)) (na : Z.heap.size ≤ a) :
    CtW l Z consts_1 [] (⟨"java/lang/String", "<init>", "([CIILjava/lang/Void;)V"⟩ : MethodName) jdk_42_method_149_code 6 none (⟨1, 4, 8, 12⟩ : Room) #[(.ref a), (.ref src), (.int (0 : Int32)), (.int (0 : Int32)), .null] h0 (fun v h' => v = none ∧ ∃ t, Keep h0 h' [a] ∧ ∀ f : Nat → Int32, Str Z h' a t 0 f) := by
  refine CtW.of pn_java_lang_String (fun m => ef_i4 m a src 0 0) ?_
  intro p e s m below meth c s₁ X0 ws0 C0
  have hEL := own_EW hw
  have hS0 : Safe Z consts_1 s.vm h0 a := own_safe X0.hZ.alike E FV
  have K1 : Keep h0 h0 [a] := Keep.refl _ _
  refine Go.aloadN X0 1 di4_0 rfl rfl ?_
  refine Go.initO X0 4 (hw _ (List.mem_of_getElem? (i := 15) rfl)) (hw _ (List.mem_of_getElem? (i := 16) rfl)) (hw _ (List.mem_of_getElem? (i := 17) rfl)) 0 di4_1 rfl (by decide) (by decide) (by decide) ?_
  intro T2 X2
  refine Go.iloadN X2 5 di4_4 rfl ?_
  refine Go.if0N X2 8 di4_5 (XT.i0_ne_f (by decide)) ?_
  refine Go.aloadN X2 9 di4_8 rfl rfl ?_
  refine Go.ldcW X2 11 hEL ws0 C0.1 (hw _ (List.mem_of_getElem? (i := 18) rfl)) (own_atoms hw) (by decide) (vs := []) (z := 0) ⟨by decide, rfl⟩ (by decide) rfl di4_9 (n := 0) (by decide) (by decide) (by decide) (by decide) ?_
  intro T3 h3 vm3 x3 b3 k3 X3 ws3 E3 R3 G3 C3 V3 A3 S3
  have sf3 : Safe Z consts_1 vm3 h3 a := R3.safe E.lt hS0
  have ch3 := C0.trans R3
  have nb3 : b3 ≠ a := Ne.symm (S3 a sf3).2
  have nx3 : x3 ≠ a := Ne.symm (S3 a sf3).1
  have K4 : Keep h0 h3 [a] := K1.ext E3
  have F5 : Exa Z h3 a "java/lang/String" := E.ext E3
  have F6 : Fld Z h3 a "java/lang/String" "value" "[B" .null := FV.ext E3
  have F7 : Fld Z h3 a "java/lang/String" "coder" "B" (.int (0 : Int32)) := FC.ext E3
  have F8 : An Z h3 b3 .byte 0 (fun _ => (0 : Int32)) := own_an0 A3
  refine Go.getF X3 14 (hw _ (List.mem_of_getElem? (i := 24) rfl)) V3 di4_11 ?_
  intro T9 X9
  refine Go.putF X9 17 (hw _ (List.mem_of_getElem? (i := 24) rfl)) F6 F5 (Or.inr ⟨(hw _ (List.mem_of_getElem? (i := 20) rfl)), rfl, rfl⟩) (hw _ (List.mem_of_getElem? (i := 5) rfl)) (ty := (.array .byte)) (by decide) rfl rfl na di4_14 ?_
  intro T10 h10 X10 W10
  have ws11 : WS s vm3 h10 := ws3.le (Nat.le_of_eq W10.size.symm)
  have K12 : Keep h0 h10 [a] := K4.wr W10 (Or.inl (List.mem_of_getElem? (i := 0) rfl))
  have F13 : Exa Z h10 a "java/lang/String" := F5.wr W10
  have F14 : Fld Z h10 a "java/lang/String" "value" "[B" (.ref b3) := F6.same W10
  have F15 : Fld Z h10 a "java/lang/String" "coder" "B" (.int (0 : Int32)) := F7.other W10 (Or.inr (slot_ne (Or.inr (hw _ (List.mem_of_getElem? (i := 21) rfl))) (Or.inr (hw _ (List.mem_of_getElem? (i := 20) rfl))) (by decide) (t := .byte) (t' := (.array .byte)) (by decide) (by decide)))
  have F16 : Fld Z h10 x3 "java/lang/String" "coder" "B" (.int (0 : Int32)) := C3.other W10 (Or.inl nx3)
  have F17 : Fld Z h10 x3 "java/lang/String" "value" "[B" (.ref b3) := V3.other W10 (Or.inl nx3)
  have F18 : An Z h10 b3 .byte 0 (fun _ => (0 : Int32)) := F8.other W10 nb3
  have cw10 := ch3.trans (CHr.wr W10 sf3 ch3.1)
  have sw10 := Safe.wr W10 sf3 ch3.1 sf3
  refine Go.aloadN X10 18 di4_17 rfl rfl ?_
  refine Go.ldcW X10 20 hEL ws11 cw10.1 (hw _ (List.mem_of_getElem? (i := 18) rfl)) (own_atoms hw) (by decide) (vs := []) (z := 0) ⟨by decide, rfl⟩ (by decide) rfl di4_18 (n := 0) (by decide) (by decide) (by decide) (by decide) ?_
  intro T19 h19 vm19 x19 b19 k19 X19 ws19 E19 R19 G19 C19 V19 A19 S19
  have sf19 : Safe Z consts_1 vm19 h19 a := R19.safe F13.lt sw10
  have ch19 := cw10.trans R19
  have nb19 : b19 ≠ a := Ne.symm (S19 a sf19).2
  have nx19 : x19 ≠ a := Ne.symm (S19 a sf19).1
  have K20 : Keep h0 h19 [a] := K12.ext E19
  have F21 : Exa Z h19 a "java/lang/String" := F13.ext E19
  have F22 : Fld Z h19 a "java/lang/String" "value" "[B" (.ref b3) := F14.ext E19
  have F23 : Fld Z h19 a "java/lang/String" "coder" "B" (.int (0 : Int32)) := F15.ext E19
  have F24 : Fld Z h19 x3 "java/lang/String" "coder" "B" (.int (0 : Int32)) := F16.ext E19
  have F25 : Fld Z h19 x3 "java/lang/String" "value" "[B" (.ref b3) := F17.ext E19
  have F26 : An Z h19 b3 .byte 0 (fun _ => (0 : Int32)) := F18.ext E19
  have F27 : An Z h19 b19 .byte 0 (fun _ => (0 : Int32)) := own_an0 A19
  refine Go.getF X19 23 (hw _ (List.mem_of_getElem? (i := 25) rfl)) C19 di4_20 ?_
  intro T28 X28
  refine Go.putF X28 26 (hw _ (List.mem_of_getElem? (i := 25) rfl)) F23 F21 (Or.inr ⟨(hw _ (List.mem_of_getElem? (i := 21) rfl)), rfl, rfl⟩) (hw _ (List.mem_of_getElem? (i := 5) rfl)) (ty := .byte) (by decide) rfl rfl na di4_23 ?_
  intro T29 h29 X29 W29
  have ws30 : WS s vm19 h29 := ws19.le (Nat.le_of_eq W29.size.symm)
  have K31 : Keep h0 h29 [a] := K20.wr W29 (Or.inl (List.mem_of_getElem? (i := 0) rfl))
  have F32 : Exa Z h29 a "java/lang/String" := F21.wr W29
  have F33 : Fld Z h29 a "java/lang/String" "value" "[B" (.ref b3) := F22.other W29 (Or.inr (slot_ne (Or.inr (hw _ (List.mem_of_getElem? (i := 20) rfl))) (Or.inr (hw _ (List.mem_of_getElem? (i := 21) rfl))) (by decide) (t := (.array .byte)) (t' := .byte) (by decide) (by decide)))
  have F34 : Fld Z h29 a "java/lang/String" "coder" "B" (.int (0 : Int32)) := F23.same W29
  have F35 : Fld Z h29 x3 "java/lang/String" "coder" "B" (.int (0 : Int32)) := F24.other W29 (Or.inl nx3)
  have F36 : Fld Z h29 x3 "java/lang/String" "value" "[B" (.ref b3) := F25.other W29 (Or.inl nx3)
  have F37 : An Z h29 b3 .byte 0 (fun _ => (0 : Int32)) := F26.other W29 nb3
  have F38 : Fld Z h29 x19 "java/lang/String" "coder" "B" (.int (0 : Int32)) := C19.other W29 (Or.inl nx19)
  have F39 : Fld Z h29 x19 "java/lang/String" "value" "[B" (.ref b19) := V19.other W29 (Or.inl nx19)
  have F40 : An Z h29 b19 .byte 0 (fun _ => (0 : Int32)) := F27.other W29 nb19
  have cw29 := ch19.trans (CHr.wr W29 sf19 ch19.1)
  have sw29 := Safe.wr W29 sf19 ch19.1 sf19
  exact Go.retV X29 rfl di4_26 (X29.finW hEL ws30 cw29 ⟨rfl, b3, K31, fun f => ⟨F32, F33, by decide, fun j hj => absurd hj (Nat.not_lt_zero j), Or.inl ⟨F34, _, F37, fun j hj => absurd hj (Nat.not_lt_zero j)⟩⟩⟩ (by decide) (by decide))
set_option maxRecDepth 65536 in
set_option maxHeartbeats 40000000 in
theorem rm_i1e (l : Launch) (Z : State) (a0 : Array Value) (hw : ∀ d ∈ tables_1, d.before a0 Z = true) (h0 : Heap) (a src : Addr) (E : Exa Z h0 a "java/lang/String") (FV : Fld Z h0 a "java/lang/String" "value" "[B" .null) (FC : Fld Z h0 a "java/lang/String" "coder" "B" (.int 0)) (na : Z.heap.size ≤ a) (A : An Z h0 src .char 0 (fun _ => (0 : Int32))) :
    CtW l Z consts_1 [] (⟨"java/lang/String", "<init>", "([C)V"⟩ : MethodName) jdk_42_method_3_code 2 none (⟨2, 4, 8, 29⟩ : Room) #[(.ref a), (.ref src)] h0 (fun v h' => v = none ∧ ∃ t, Keep h0 h' [a] ∧ ∀ f : Nat → Int32, Str Z h' a t 0 f) := by
  refine CtW.of pn_java_lang_String (fun m => ef_i1 m a src) ?_
  intro p e s m below meth c s₁ X0 ws0 C0
  have hEL := own_EW hw
  refine Go.aloadN X0 1 di1_0 rfl rfl ?_
  refine Go.aloadN X0 2 di1_1 rfl rfl ?_
  refine Go.iconst X0 3 (0 : Int32) di1_2 ?_
  refine Go.aloadN X0 4 di1_3 rfl rfl ?_
  refine Go.alenN X0 5 A di1_4 ?_
  refine Go.aconst_null X0 6 di1_5 ?_
  refine Go.callIW X0 9 hEL ws0 C0.1 [(.ref src), (.int (0 : Int32)), (.int (Int32.ofNat 0)), .null] [] 0 rfl (hw _ (List.mem_of_getElem? (i := 11) rfl)) (hw _ (List.mem_of_getElem? (i := 12) rfl)) (hw _ (List.mem_of_getElem? (i := 6) rfl)) (by decide) rfl (hw _ (List.mem_of_getElem? (i := 14) rfl)) pd_7 di1_6 (rm_i4e l Z a0 hw h0 a src E FV FC na) rfl rfl rfl (Nat.le_of_eq rfl) (by decide) (by decide) (by decide) (by decide) ?_
  rintro T1 v1 L1 vm1 X1 ws1 R1 ⟨rfl, hq⟩
  show Go p e below _ T1 m 9 #[.val (.ref a), .val (.ref src)] []
  have c9 := C0.trans R1
  exact Go.retV X1 rfl di1_9 (X1.finW hEL ws1 c9 ⟨rfl, hq⟩ (by decide) (by decide))
/-- n chars, each 0 to 65535 -/
def ChC (n : Nat) (f : Nat → Int32) : Prop := ∀ j, j < n → 0 ≤ (f j).toInt ∧ (f j).toInt < 65536
theorem ChC.z {n : Nat} : ChC n (fun _ => (0 : Int32)) := fun j hj => ⟨(by decide : 0 ≤ (0 : Int32).toInt), (by decide : (0 : Int32).toInt < 65536)⟩
theorem ChC.u {n i : Nat} {f : Nat → Int32} {x : Int32} (A : ChC n f) (h : 0 ≤ x.toInt ∧ x.toInt < 65536) : ChC n (upd f i x) := fun j hj => by
  unfold upd
  split
  · exact h
  · exact A j hj
theorem own_narr (x : Int32) : 0 ≤ (nar .char x).toInt ∧ (nar .char x).toInt < 65536 := (c_i2c x).2
theorem own_k4 (x : Int32) : (x &&& 3) = 0 ∨ (x &&& 3) = 1 ∨ (x &&& 3) = 2 ∨ (x &&& 3) = 3 := by
  have h1 := c_and x 3 (by decide)
  simp only [← Int32.toInt_inj]
  have e0 : (0 : Int32).toInt = 0 := by decide
  have e1 : (1 : Int32).toInt = 1 := by decide
  have e2 : (2 : Int32).toInt = 2 := by decide
  have e3 : (3 : Int32).toInt = 3 := by decide
  rw [e0, e1, e2, e3]
  rw [e3] at h1
  omega
theorem own_nr {x : Int32} (h0 : 0 ≤ x.toInt) (h1 : x.toInt < 65536) : nar .char x = x := n_chr h0 h1
theorem pn_com_example_adder_adder_ChecksumByteOrderMarkLengthPinLaw : plainName "com/example/adder/adder/ChecksumByteOrderMarkLengthPinLaw" = true := by first | (simp [plainName, overriddenIn]; done) | decide +kernel
theorem dp_0 : decode method_2_code 0 = .ok (.iload_n 0, 1) := by decide +kernel
theorem dp_1 : decode method_2_code 1 = .ok (.iconst 3, 1) := by decide +kernel
theorem dp_2 : decode method_2_code 2 = .ok (.iand, 1) := by decide +kernel
theorem dp_3 : decode method_2_code 3 = .ok (.ifCond .ne 6, 3) := by decide +kernel
theorem dp_6 : decode method_2_code 6 = .ok (.ldc 7, 2) := by decide +kernel
theorem dp_8 : decode method_2_code 8 = .ok (.ireturn, 1) := by decide +kernel
theorem dp_9 : decode method_2_code 9 = .ok (.iload_n 0, 1) := by decide +kernel
theorem dp_10 : decode method_2_code 10 = .ok (.iconst 2, 1) := by decide +kernel
theorem dp_11 : decode method_2_code 11 = .ok (.iushr, 1) := by decide +kernel
theorem dp_12 : decode method_2_code 12 = .ok (.i2c, 1) := by decide +kernel
theorem dp_13 : decode method_2_code 13 = .ok (.ireturn, 1) := by decide +kernel
theorem ef_p (m : MethodId) (y : Int32) : entryFrame m #[(.int y)] 1 = mkF m 0 #[.val (.int y)] [] := by first | (simp [entryFrame, mkF, argsToLocals, Value.category]; done) | rfl
set_option maxRecDepth 65536 in
set_option maxHeartbeats 40000000 in
theorem rm_p (l : Launch) (Z : State) (a0 : Array Value) (hw : ∀ d ∈ tables_1, d.before a0 Z = true) (h0 : Heap) (y : Int32) :
    Ct l Z [] (⟨"com/example/adder/adder/ChecksumByteOrderMarkLengthPinLaw", "pick", "(I)C"⟩ : MethodName) method_2_code 1 (some .char) (⟨0, 0, 0, 0⟩ : Room) #[(.int y)] h0 (fun v h' => h' = h0 ∧ ∃ r : Int32, v = some (.int r) ∧ 0 ≤ r.toInt ∧ r.toInt < 65536) := by
  refine Ct.of pn_com_example_adder_adder_ChecksumByteOrderMarkLengthPinLaw (fun m => ef_p m y) ?_
  intro p e s m below meth c s₁ X0
  refine Go.iloadN X0 1 dp_0 rfl ?_
  refine Go.iconst X0 2 (3 : Int32) dp_1 ?_
  refine Go.iand X0 3 dp_2 ?_
  by_cases c1 : (y &&& (3 : Int32)) = 0
  · skip
    refine Go.if0N X0 6 dp_3 (XT.i0_ne_f c1) ?_
    refine Go.ldcI X0 8 (hw _ (List.mem_of_getElem? (i := 35) rfl)) dp_6 ?_
    exact Go.retI X0 rfl (by simp) rfl dp_8 (X0.fin ⟨rfl, _, rfl, by decide, by decide⟩ (by decide) (by decide))
  · skip
    refine Go.if0Y X0 9 dp_3 (XT.i0_ne_t c1) ?_
    refine Go.iloadN X0 10 dp_9 rfl ?_
    refine Go.iconst X0 11 (2 : Int32) dp_10 ?_
    refine Go.iushr X0 12 dp_11 ?_
    refine Go.i2c X0 13 dp_12 ?_
    exact Go.retI X0 rfl (by simp) (XT.narrow_c _) dp_13 (X0.fin ⟨rfl, _, rfl, (c_i2c _).2.1, (c_i2c _).2.2⟩ (by decide) (by decide))
theorem pn_com_example_adder_adder_Checksum : plainName "com/example/adder/adder/Checksum" = true := by first | (simp [plainName, overriddenIn]; done) | decide +kernel
theorem db_0 : decode prog_2_method_4_code 0 = .ok (.aload_n 0, 1) := by decide +kernel
theorem db_1 : decode prog_2_method_4_code 1 = .ok (.invokevirtual 85, 3) := by decide +kernel
theorem db_4 : decode prog_2_method_4_code 4 = .ok (.ifCond .ne 17, 3) := by decide +kernel
theorem db_7 : decode prog_2_method_4_code 7 = .ok (.aload_n 0, 1) := by decide +kernel
theorem db_8 : decode prog_2_method_4_code 8 = .ok (.iconst 0, 1) := by decide +kernel
theorem db_9 : decode prog_2_method_4_code 9 = .ok (.invokevirtual 89, 3) := by decide +kernel
theorem db_12 : decode prog_2_method_4_code 12 = .ok (.ldc 93, 2) := by decide +kernel
theorem db_14 : decode prog_2_method_4_code 14 = .ok (.if_icmp .ne 7, 3) := by decide +kernel
theorem db_17 : decode prog_2_method_4_code 17 = .ok (.iconst 1, 1) := by decide +kernel
theorem db_18 : decode prog_2_method_4_code 18 = .ok (.goto 4, 3) := by decide +kernel
theorem db_21 : decode prog_2_method_4_code 21 = .ok (.iconst 0, 1) := by decide +kernel
theorem db_22 : decode prog_2_method_4_code 22 = .ok (.ireturn, 1) := by decide +kernel
theorem ef_b (m : MethodId) (a : Addr) : entryFrame m #[(.ref a)] 1 = mkF m 0 #[.val (.ref a)] [] := by first | (simp [entryFrame, mkF, argsToLocals, Value.category]; done) | rfl
set_option maxRecDepth 65536 in
set_option maxHeartbeats 40000000 in
theorem rm_b (l : Launch) (Z : State) (a0 : Array Value) (hw : ∀ d ∈ tables_1, d.before a0 Z = true) (h0 : Heap) (cz : Int32) (SC : Sta Z Z.heap "java/lang/String" "COMPACT_STRINGS" "Z" (.int cz)) (hcz : ¬ cz = 0) (SA : Sta Z Z.heap "java/lang/StringUTF16" "$assertionsDisabled" "Z" (.int 1)) (SH : Sta Z Z.heap "java/lang/StringUTF16" "HI_BYTE_SHIFT" "I" (.int 0)) (SLo : Sta Z Z.heap "java/lang/StringUTF16" "LO_BYTE_SHIFT" "I" (.int 8)) (wf : Value) (hwf : wf.isRef = true) (SF : Sta Z Z.heap "jdk/internal/util/Preconditions" "SIOOBE_FORMATTER" "Ljava/util/function/BiFunction;" wf) (a t : Addr) (n : Nat) (f : Nat → Int32) (r : Int32) (S : Str Z h0 a t n f) (hr : (n = 0 ∧ r = 0) ∨ (0 < n ∧ f 0 = 65279 ∧ r = 1) ∨ (0 < n ∧ ¬ f 0 = 65279 ∧ r = 0)) :
    Ct l Z [] (⟨"com/example/adder/adder/Checksum", "byteOrderMarkLength", "(Ljava/lang/String;)I"⟩ : MethodName) prog_2_method_4_code 1 (some .int) (⟨5, 0, 0, 66⟩ : Room) #[(.ref a)] h0 (Pu h0 (.int r)) := by
  refine Ct.of pn_com_example_adder_adder_Checksum (fun m => ef_b m a) ?_
  intro p e s m below meth c s₁ X0
  rcases hr with ⟨rfl, rfl⟩ | ⟨hn, hf, rfl⟩ | ⟨hn, hf, rfl⟩
  · skip
    refine Go.aloadN X0 1 db_0 rfl rfl ?_
    refine Go.callVP X0 4 [] [] 0 (hw _ (List.mem_of_getElem? (i := 30) rfl)) (hw _ (List.mem_of_getElem? (i := 31) rfl)) (hw _ (List.mem_of_getElem? (i := 33) rfl)) (notFace_of_selects (args := #[]) (mvT X0.hZ (hw _ (List.mem_of_getElem? (i := 33) rfl)))) (hw _ (List.mem_of_getElem? (i := 32) rfl)) (hw _ (List.mem_of_getElem? (i := 6) rfl)) (by decide) S.exa (hw _ (List.mem_of_getElem? (i := 34) rfl)) pd_12 db_1 (rm_emp l Z a0 hw h0 a t 0 f S) rfl rfl rfl (Nat.le_of_eq rfl) (by decide) (by decide) (by decide) (by decide) ?_
    intro T1 L1 X1
    rw [if_pos rfl]
    refine Go.if0Y X1 21 db_4 (XT.i0_ne_t (by decide)) ?_
    refine Go.iconst X1 22 (0 : Int32) db_21 ?_
    exact Go.retI X1 rfl (by simp) rfl db_22 (X1.fin ⟨rfl, rfl⟩ (by decide) (by decide))
  · skip
    refine Go.aloadN X0 1 db_0 rfl rfl ?_
    refine Go.callVP X0 4 [] [] 0 (hw _ (List.mem_of_getElem? (i := 30) rfl)) (hw _ (List.mem_of_getElem? (i := 31) rfl)) (hw _ (List.mem_of_getElem? (i := 33) rfl)) (notFace_of_selects (args := #[]) (mvT X0.hZ (hw _ (List.mem_of_getElem? (i := 33) rfl)))) (hw _ (List.mem_of_getElem? (i := 32) rfl)) (hw _ (List.mem_of_getElem? (i := 6) rfl)) (by decide) S.exa (hw _ (List.mem_of_getElem? (i := 34) rfl)) pd_12 db_1 (rm_emp l Z a0 hw h0 a t n f S) rfl rfl rfl (Nat.le_of_eq rfl) (by decide) (by decide) (by decide) (by decide) ?_
    intro T2 L2 X2
    rw [if_neg (by omega)]
    refine Go.if0N X2 7 db_4 (XT.i0_ne_f (by decide)) ?_
    refine Go.aloadN X2 8 db_7 rfl rfl ?_
    refine Go.iconst X2 9 (0 : Int32) db_8 ?_
    refine Go.callVP X2 12 [(.int (0 : Int32))] [] 0 (hw _ (List.mem_of_getElem? (i := 66) rfl)) (hw _ (List.mem_of_getElem? (i := 67) rfl)) (hw _ (List.mem_of_getElem? (i := 69) rfl)) (notFace_of_selects (args := #[]) (mvT X2.hZ (hw _ (List.mem_of_getElem? (i := 69) rfl)))) (hw _ (List.mem_of_getElem? (i := 68) rfl)) (hw _ (List.mem_of_getElem? (i := 6) rfl)) (by decide) S.exa (hw _ (List.mem_of_getElem? (i := 70) rfl)) pd_13 db_9 (rm_chat l Z a0 hw h0 cz SC hcz SA SH SLo wf hwf SF a t 0 n 0 f rfl S hn) rfl rfl rfl (Nat.le_of_eq rfl) (by decide) (by decide) (by decide) (by decide) ?_
    intro T3 L3 X3
    refine Go.ldcI X3 14 (hw _ (List.mem_of_getElem? (i := 93) rfl)) db_12 ?_
    refine Go.icmpN X3 17 db_14 (XT.ii_ne_f hf) ?_
    refine Go.iconst X3 18 (1 : Int32) db_17 ?_
    refine Go.goto X3 22 db_18 ?_
    exact Go.retI X3 rfl (by simp) rfl db_22 (X3.fin ⟨rfl, rfl⟩ (by decide) (by decide))
  · skip
    refine Go.aloadN X0 1 db_0 rfl rfl ?_
    refine Go.callVP X0 4 [] [] 0 (hw _ (List.mem_of_getElem? (i := 30) rfl)) (hw _ (List.mem_of_getElem? (i := 31) rfl)) (hw _ (List.mem_of_getElem? (i := 33) rfl)) (notFace_of_selects (args := #[]) (mvT X0.hZ (hw _ (List.mem_of_getElem? (i := 33) rfl)))) (hw _ (List.mem_of_getElem? (i := 32) rfl)) (hw _ (List.mem_of_getElem? (i := 6) rfl)) (by decide) S.exa (hw _ (List.mem_of_getElem? (i := 34) rfl)) pd_12 db_1 (rm_emp l Z a0 hw h0 a t n f S) rfl rfl rfl (Nat.le_of_eq rfl) (by decide) (by decide) (by decide) (by decide) ?_
    intro T4 L4 X4
    rw [if_neg (by omega)]
    refine Go.if0N X4 7 db_4 (XT.i0_ne_f (by decide)) ?_
    refine Go.aloadN X4 8 db_7 rfl rfl ?_
    refine Go.iconst X4 9 (0 : Int32) db_8 ?_
    refine Go.callVP X4 12 [(.int (0 : Int32))] [] 0 (hw _ (List.mem_of_getElem? (i := 66) rfl)) (hw _ (List.mem_of_getElem? (i := 67) rfl)) (hw _ (List.mem_of_getElem? (i := 69) rfl)) (notFace_of_selects (args := #[]) (mvT X4.hZ (hw _ (List.mem_of_getElem? (i := 69) rfl)))) (hw _ (List.mem_of_getElem? (i := 68) rfl)) (hw _ (List.mem_of_getElem? (i := 6) rfl)) (by decide) S.exa (hw _ (List.mem_of_getElem? (i := 70) rfl)) pd_13 db_9 (rm_chat l Z a0 hw h0 cz SC hcz SA SH SLo wf hwf SF a t 0 n 0 f rfl S hn) rfl rfl rfl (Nat.le_of_eq rfl) (by decide) (by decide) (by decide) (by decide) ?_
    intro T5 L5 X5
    refine Go.ldcI X5 14 (hw _ (List.mem_of_getElem? (i := 93) rfl)) db_12 ?_
    refine Go.icmpY X5 21 db_14 (XT.ii_ne_t hf) ?_
    refine Go.iconst X5 22 (0 : Int32) db_21 ?_
    exact Go.retI X5 rfl (by simp) rfl db_22 (X5.fin ⟨rfl, rfl⟩ (by decide) (by decide))
theorem ef_l (m : MethodId) (q0 : Int32) (q1 : Int32) (q2 : Int32) (q3 : Int32) : entryFrame m #[(.int q0), (.int q1), (.int q2), (.int q3)] maxLocals = mkF m 0 #[.val (.int q0), .val (.int q1), .val (.int q2), .val (.int q3), .unset, .unset, .unset, .unset, .unset, .unset] [] := by first | (simp [entryFrame, mkF, argsToLocals, Value.category, maxLocals]; done) | rfl
set_option maxRecDepth 65536 in
set_option maxHeartbeats 40000000 in
theorem rm_l (l : Launch) (Z : State) (a0 : Array Value) (hw : ∀ d ∈ tables_1, d.before a0 Z = true) (h0 : Heap) (cz : Int32) (SC : Sta Z Z.heap "java/lang/String" "COMPACT_STRINGS" "Z" (.int cz)) (hcz : ¬ cz = 0) (SA : Sta Z Z.heap "java/lang/StringUTF16" "$assertionsDisabled" "Z" (.int 1)) (SH : Sta Z Z.heap "java/lang/StringUTF16" "HI_BYTE_SHIFT" "I" (.int 0)) (SLo : Sta Z Z.heap "java/lang/StringUTF16" "LO_BYTE_SHIFT" "I" (.int 8)) (wf : Value) (hwf : wf.isRef = true) (SF : Sta Z Z.heap "jdk/internal/util/Preconditions" "SIOOBE_FORMATTER" "Ljava/util/function/BiFunction;" wf) (q0 q1 q2 q3 : Int32) :
    CtL l Z consts_1 tables_1 x code maxLocals ret room_1 #[(.int q0), (.int q1), (.int q2), (.int q3)] h0 (fun v _ => v = some (.int 1)) := by
  refine CtL.of pn_com_example_adder_adder_ChecksumByteOrderMarkLengthPinLaw (fun m => ef_l m q0 q1 q2 q3) ?_
  intro p e s m below meth c s₁ X0 ws0 H0
  have hEL := own_EW hw
  refine Go.iloadN X0 1 at_0 rfl ?_
  refine Go.iconst X0 2 (3 : Int32) at_1 ?_
  refine Go.iand X0 3 at_2 ?_
  rcases own_k4 q0 with hk | hk | hk | hk
  · rw [hk]
    refine Go.istore X0 5 #[.val (.int q0), .val (.int q1), .val (.int q2), .val (.int q3), .val (.int (0 : Int32)), .unset, .unset, .unset, .unset, .unset] at_3 rfl ?_
    refine Go.iloadN X0 6 at_5 rfl ?_
    refine Go.callS X0 9 [(.int q1)] [] 0 (hw _ (List.mem_of_getElem? (i := 0) rfl)) (hw _ (List.mem_of_getElem? (i := 1) rfl)) (hw _ (List.mem_of_getElem? (i := 2) rfl)) (by decide) (hw _ (List.mem_of_getElem? (i := 3) rfl)) pd_13 at_6 (rm_p l Z a0 hw h0 q1) rfl rfl rfl (Nat.le_of_eq rfl) (by decide) (by decide) (by decide) (by decide) ?_
    rintro T1 v1 L1 X1 ⟨hhx0, x0, rfl, x00, x01⟩
    rw [hhx0] at X1
    show Go p e below _ T1 m 9 #[.val (.int q0), .val (.int q1), .val (.int q2), .val (.int q3), .val (.int (0 : Int32)), .unset, .unset, .unset, .unset, .unset] [(.int x0)]
    refine Go.istore X1 11 #[.val (.int q0), .val (.int q1), .val (.int q2), .val (.int q3), .val (.int (0 : Int32)), .val (.int x0), .unset, .unset, .unset, .unset] at_9 rfl ?_
    refine Go.iloadN X1 12 at_11 rfl ?_
    refine Go.callS X1 15 [(.int q2)] [] 0 (hw _ (List.mem_of_getElem? (i := 0) rfl)) (hw _ (List.mem_of_getElem? (i := 1) rfl)) (hw _ (List.mem_of_getElem? (i := 2) rfl)) (by decide) (hw _ (List.mem_of_getElem? (i := 3) rfl)) pd_13 at_12 (rm_p l Z a0 hw h0 q2) rfl rfl rfl (Nat.le_of_eq rfl) (by decide) (by decide) (by decide) (by decide) ?_
    rintro T2 v2 L2 X2 ⟨hhx1, x1, rfl, x10, x11⟩
    rw [hhx1] at X2
    show Go p e below _ T2 m 15 #[.val (.int q0), .val (.int q1), .val (.int q2), .val (.int q3), .val (.int (0 : Int32)), .val (.int x0), .unset, .unset, .unset, .unset] [(.int x1)]
    refine Go.istore X2 17 #[.val (.int q0), .val (.int q1), .val (.int q2), .val (.int q3), .val (.int (0 : Int32)), .val (.int x0), .val (.int x1), .unset, .unset, .unset] at_15 rfl ?_
    refine Go.iloadN X2 18 at_17 rfl ?_
    refine Go.callS X2 21 [(.int q3)] [] 0 (hw _ (List.mem_of_getElem? (i := 0) rfl)) (hw _ (List.mem_of_getElem? (i := 1) rfl)) (hw _ (List.mem_of_getElem? (i := 2) rfl)) (by decide) (hw _ (List.mem_of_getElem? (i := 3) rfl)) pd_13 at_18 (rm_p l Z a0 hw h0 q3) rfl rfl rfl (Nat.le_of_eq rfl) (by decide) (by decide) (by decide) (by decide) ?_
    rintro T3 v3 L3 X3 ⟨hhx2, x2, rfl, x20, x21⟩
    rw [hhx2] at X3
    show Go p e below _ T3 m 21 #[.val (.int q0), .val (.int q1), .val (.int q2), .val (.int q3), .val (.int (0 : Int32)), .val (.int x0), .val (.int x1), .unset, .unset, .unset] [(.int x2)]
    refine Go.istore X3 23 #[.val (.int q0), .val (.int q1), .val (.int q2), .val (.int q3), .val (.int (0 : Int32)), .val (.int x0), .val (.int x1), .val (.int x2), .unset, .unset] at_21 rfl ?_
    refine Go.iload X3 25 at_23 rfl ?_
    refine Go.if0N X3 28 at_25 (XT.i0_ne_f (by decide)) ?_
    refine Go.newO X3 31 (hw _ (List.mem_of_getElem? (i := 4) rfl)) (hw _ (List.mem_of_getElem? (i := 5) rfl)) (hw _ (List.mem_of_getElem? (i := 6) rfl)) at_28 (by decide) (by decide) ?_
    intro T4 h4 a4 X4 E4 g4 A4 D4
    have nw_a4 : Z.heap.size ≤ a4 := by rw [← g4]; exact X3.le
    have ws5 : WS s s.vm h4 := ws0.le E4.1
    have F6 : Fld Z h4 a4 "java/lang/String" "value" "[B" .null := D4 (Or.inr (hw _ (List.mem_of_getElem? (i := 20) rfl))) (ty := (.array .byte)) (by decide)
    have F7 : Fld Z h4 a4 "java/lang/String" "coder" "B" (.int (0 : Int32)) := D4 (Or.inr (hw _ (List.mem_of_getElem? (i := 21) rfl))) (ty := .byte) (by decide)
    refine Go.dup X4 32 at_31 rfl ?_
    refine Go.iconst X4 33 (0 : Int32) at_32 ?_
    refine Go.newC X4 35 (n := 0) (hw _ (List.mem_of_getElem? (i := 7) rfl)) at_33 0 (by decide) (by decide) (by decide) (by decide) ?_
    intro T8 h8 a8 X8 E8 g8 V8
    have nw_a8 : Z.heap.size ≤ a8 := by rw [← g8]; exact X4.le
    have ne_a4_a8 : a4 ≠ a8 := by rw [← g8]; exact Nat.ne_of_lt A4.lt
    have ws9 : WS s s.vm h8 := ws5.le E8.1
    have F10 : Exa Z h8 a4 "java/lang/String" := A4.ext E8
    have F11 : Fld Z h8 a4 "java/lang/String" "value" "[B" .null := F6.ext E8
    have F12 : Fld Z h8 a4 "java/lang/String" "coder" "B" (.int (0 : Int32)) := F7.ext E8
    refine Go.callIW X8 38 hEL ws9 ((H0.ext E4).ext E8) [(.ref a8)] [(.ref a4)] 1 rfl (hw _ (List.mem_of_getElem? (i := 8) rfl)) (hw _ (List.mem_of_getElem? (i := 9) rfl)) (hw _ (List.mem_of_getElem? (i := 6) rfl)) (by decide) rfl (hw _ (List.mem_of_getElem? (i := 10) rfl)) pd_14 at_35 (rm_i1e l Z a0 hw h8 a4 a8 F10 F11 F12 nw_a4 V8) rfl rfl rfl (Nat.le_of_eq rfl) (by decide) (by decide) (by decide) (by decide) ?_
    rintro T13 v13 L13 vm13 X13 ws13 R13 ⟨rfl, t, K, S⟩
    show Go p e below _ T13 m 38 #[.val (.int q0), .val (.int q1), .val (.int q2), .val (.int q3), .val (.int (0 : Int32)), .val (.int x0), .val (.int x1), .val (.int x2), .unset, .unset] [(.ref a4)]
    have S0 := S (fun _ => (0 : Int32))
    refine Go.astore X13 40 #[.val (.int q0), .val (.int q1), .val (.int q2), .val (.int q3), .val (.int (0 : Int32)), .val (.int x0), .val (.int x1), .val (.int x2), .val (.ref a4), .unset] at_38 rfl rfl ?_
    refine Go.goto X13 127 at_40 ?_
    refine Go.iload X13 129 at_127 rfl ?_
    refine Go.iconst X13 130 (1 : Int32) at_129 ?_
    refine Go.icmpY X13 144 at_130 (XT.ii_lt_t (by decide)) ?_
    refine Go.iconst X13 145 (0 : Int32) at_144 ?_
    refine Go.istore X13 147 #[.val (.int q0), .val (.int q1), .val (.int q2), .val (.int q3), .val (.int (0 : Int32)), .val (.int x0), .val (.int x1), .val (.int x2), .val (.ref a4), .val (.int (0 : Int32))] at_145 rfl ?_
    refine Go.aload X13 149 at_147 rfl rfl ?_
    refine Go.callSP X13 152 [(.ref a4)] [] 0 (hw _ (List.mem_of_getElem? (i := 26) rfl)) (hw _ (List.mem_of_getElem? (i := 27) rfl)) (hw _ (List.mem_of_getElem? (i := 28) rfl)) (by decide) (hw _ (List.mem_of_getElem? (i := 29) rfl)) pd_15 at_149 (rm_b l Z a0 hw T13.heap cz SC hcz SA SH SLo wf hwf SF a4 t 0 (fun _ => (0 : Int32)) (0 : Int32) S0 (Or.inl ⟨rfl, rfl⟩)) rfl rfl rfl (Nat.le_of_eq rfl) (by decide) (by decide) (by decide) (by decide) ?_
    intro T14 L14 X14
    refine Go.iload X14 154 at_152 rfl ?_
    refine Go.icmpN X14 157 at_154 (XT.ii_ne_f (by decide)) ?_
    refine Go.iconst X14 158 (1 : Int32) at_157 ?_
    refine Go.goto X14 162 at_158 ?_
    exact Go.retI X14 rfl (by simp) rfl at_162 (X14.finL ws13 rfl (by decide) (by decide))
  · rw [hk]
    refine Go.istore X0 5 #[.val (.int q0), .val (.int q1), .val (.int q2), .val (.int q3), .val (.int (1 : Int32)), .unset, .unset, .unset, .unset, .unset] at_3 rfl ?_
    refine Go.iloadN X0 6 at_5 rfl ?_
    refine Go.callS X0 9 [(.int q1)] [] 0 (hw _ (List.mem_of_getElem? (i := 0) rfl)) (hw _ (List.mem_of_getElem? (i := 1) rfl)) (hw _ (List.mem_of_getElem? (i := 2) rfl)) (by decide) (hw _ (List.mem_of_getElem? (i := 3) rfl)) pd_13 at_6 (rm_p l Z a0 hw h0 q1) rfl rfl rfl (Nat.le_of_eq rfl) (by decide) (by decide) (by decide) (by decide) ?_
    rintro T15 v15 L15 X15 ⟨hhx0, x0, rfl, x00, x01⟩
    rw [hhx0] at X15
    show Go p e below _ T15 m 9 #[.val (.int q0), .val (.int q1), .val (.int q2), .val (.int q3), .val (.int (1 : Int32)), .unset, .unset, .unset, .unset, .unset] [(.int x0)]
    refine Go.istore X15 11 #[.val (.int q0), .val (.int q1), .val (.int q2), .val (.int q3), .val (.int (1 : Int32)), .val (.int x0), .unset, .unset, .unset, .unset] at_9 rfl ?_
    refine Go.iloadN X15 12 at_11 rfl ?_
    refine Go.callS X15 15 [(.int q2)] [] 0 (hw _ (List.mem_of_getElem? (i := 0) rfl)) (hw _ (List.mem_of_getElem? (i := 1) rfl)) (hw _ (List.mem_of_getElem? (i := 2) rfl)) (by decide) (hw _ (List.mem_of_getElem? (i := 3) rfl)) pd_13 at_12 (rm_p l Z a0 hw h0 q2) rfl rfl rfl (Nat.le_of_eq rfl) (by decide) (by decide) (by decide) (by decide) ?_
    rintro T16 v16 L16 X16 ⟨hhx1, x1, rfl, x10, x11⟩
    rw [hhx1] at X16
    show Go p e below _ T16 m 15 #[.val (.int q0), .val (.int q1), .val (.int q2), .val (.int q3), .val (.int (1 : Int32)), .val (.int x0), .unset, .unset, .unset, .unset] [(.int x1)]
    refine Go.istore X16 17 #[.val (.int q0), .val (.int q1), .val (.int q2), .val (.int q3), .val (.int (1 : Int32)), .val (.int x0), .val (.int x1), .unset, .unset, .unset] at_15 rfl ?_
    refine Go.iloadN X16 18 at_17 rfl ?_
    refine Go.callS X16 21 [(.int q3)] [] 0 (hw _ (List.mem_of_getElem? (i := 0) rfl)) (hw _ (List.mem_of_getElem? (i := 1) rfl)) (hw _ (List.mem_of_getElem? (i := 2) rfl)) (by decide) (hw _ (List.mem_of_getElem? (i := 3) rfl)) pd_13 at_18 (rm_p l Z a0 hw h0 q3) rfl rfl rfl (Nat.le_of_eq rfl) (by decide) (by decide) (by decide) (by decide) ?_
    rintro T17 v17 L17 X17 ⟨hhx2, x2, rfl, x20, x21⟩
    rw [hhx2] at X17
    show Go p e below _ T17 m 21 #[.val (.int q0), .val (.int q1), .val (.int q2), .val (.int q3), .val (.int (1 : Int32)), .val (.int x0), .val (.int x1), .unset, .unset, .unset] [(.int x2)]
    refine Go.istore X17 23 #[.val (.int q0), .val (.int q1), .val (.int q2), .val (.int q3), .val (.int (1 : Int32)), .val (.int x0), .val (.int x1), .val (.int x2), .unset, .unset] at_21 rfl ?_
    refine Go.iload X17 25 at_23 rfl ?_
    refine Go.if0Y X17 43 at_25 (XT.i0_ne_t (by decide)) ?_
    refine Go.iload X17 45 at_43 rfl ?_
    refine Go.iconst X17 46 (1 : Int32) at_45 ?_
    refine Go.icmpN X17 49 at_46 (XT.ii_ne_f (by decide)) ?_
    refine Go.newO X17 52 (hw _ (List.mem_of_getElem? (i := 4) rfl)) (hw _ (List.mem_of_getElem? (i := 5) rfl)) (hw _ (List.mem_of_getElem? (i := 6) rfl)) at_49 (by decide) (by decide) ?_
    intro T18 h18 a18 X18 E18 g18 A18 D18
    have nw_a18 : Z.heap.size ≤ a18 := by rw [← g18]; exact X17.le
    have ws19 : WS s s.vm h18 := ws0.le E18.1
    have F20 : Fld Z h18 a18 "java/lang/String" "value" "[B" .null := D18 (Or.inr (hw _ (List.mem_of_getElem? (i := 20) rfl))) (ty := (.array .byte)) (by decide)
    have F21 : Fld Z h18 a18 "java/lang/String" "coder" "B" (.int (0 : Int32)) := D18 (Or.inr (hw _ (List.mem_of_getElem? (i := 21) rfl))) (ty := .byte) (by decide)
    refine Go.dup X18 53 at_52 rfl ?_
    refine Go.iconst X18 54 (1 : Int32) at_53 ?_
    refine Go.newC X18 56 (n := 1) (hw _ (List.mem_of_getElem? (i := 7) rfl)) at_54 1 (by decide) (by decide) (by decide) (by decide) ?_
    intro T22 h22 a22 X22 E22 g22 V22
    have nw_a22 : Z.heap.size ≤ a22 := by rw [← g22]; exact X18.le
    have ne_a18_a22 : a18 ≠ a22 := by rw [← g22]; exact Nat.ne_of_lt A18.lt
    have ws23 : WS s s.vm h22 := ws19.le E22.1
    have F24 : Exa Z h22 a18 "java/lang/String" := A18.ext E22
    have F25 : Fld Z h22 a18 "java/lang/String" "value" "[B" .null := F20.ext E22
    have F26 : Fld Z h22 a18 "java/lang/String" "coder" "B" (.int (0 : Int32)) := F21.ext E22
    refine Go.dup X22 57 at_56 rfl ?_
    refine Go.iconst X22 58 (0 : Int32) at_57 ?_
    refine Go.iload X22 60 at_58 rfl ?_
    refine Go.stCN X22 61 V22 0 (by decide) at_60 nw_a22 ?_
    intro T27 h27 w27 X27 W27 V27
    rw [(own_nr x00 x01 : nar .char x0 = x0)] at V27
    have ws28 : WS s s.vm h27 := ws23.le (Nat.le_of_eq W27.size.symm)
    have F29 : Exa Z h27 a18 "java/lang/String" := F24.wr W27
    have F30 : Fld Z h27 a18 "java/lang/String" "value" "[B" .null := F25.other W27 (Or.inl ne_a18_a22)
    have F31 : Fld Z h27 a18 "java/lang/String" "coder" "B" (.int (0 : Int32)) := F26.other W27 (Or.inl ne_a18_a22)
    have F32 : An Z h27 a22 .char 1 (upd (fun _ => (0 : Int32)) 0 x0) := V27
    have hch : ChC 1 (upd (fun _ => (0 : Int32)) 0 x0) := (ChC.z.u ⟨x00, x01⟩)
    refine Go.callI X27 64 [(.ref a22)] [(.ref a18)] 1 rfl (hw _ (List.mem_of_getElem? (i := 8) rfl)) (hw _ (List.mem_of_getElem? (i := 9) rfl)) (hw _ (List.mem_of_getElem? (i := 6) rfl)) (by decide) rfl (hw _ (List.mem_of_getElem? (i := 10) rfl)) pd_14 at_61 (rm_i1 l Z a0 hw h27 cz SC hcz a18 a22 1 (upd (fun _ => (0 : Int32)) 0 x0) (by decide) (by decide) F29 F30 F31 nw_a18 (Ne.symm ne_a18_a22) F32 hch SA SH SLo) rfl rfl rfl (Nat.le_of_eq rfl) (by decide) (by decide) (by decide) (by decide) ?_
    rintro T33 v33 L33 X33 ⟨rfl, t, K, gt, S⟩
    show Go p e below _ T33 m 64 #[.val (.int q0), .val (.int q1), .val (.int q2), .val (.int q3), .val (.int (1 : Int32)), .val (.int x0), .val (.int x1), .val (.int x2), .unset, .unset] [(.ref a18)]
    have ws34 : WS s s.vm T33.heap := ws28.le K.1
    refine Go.astore X33 66 #[.val (.int q0), .val (.int q1), .val (.int q2), .val (.int q3), .val (.int (1 : Int32)), .val (.int x0), .val (.int x1), .val (.int x2), .val (.ref a18), .unset] at_64 rfl rfl ?_
    refine Go.goto X33 127 at_66 ?_
    refine Go.iload X33 129 at_127 rfl ?_
    refine Go.iconst X33 130 (1 : Int32) at_129 ?_
    refine Go.icmpN X33 133 at_130 (XT.ii_lt_f (by decide)) ?_
    refine Go.iload X33 135 at_133 rfl ?_
    refine Go.ldcI X33 137 (hw _ (List.mem_of_getElem? (i := 35) rfl)) at_135 ?_
    by_cases c35 : x0 = (65279 : Int32)
    · skip
      refine Go.icmpN X33 140 at_137 (XT.ii_ne_f c35) ?_
      refine Go.iconst X33 141 (1 : Int32) at_140 ?_
      refine Go.goto X33 145 at_141 ?_
      refine Go.istore X33 147 #[.val (.int q0), .val (.int q1), .val (.int q2), .val (.int q3), .val (.int (1 : Int32)), .val (.int x0), .val (.int x1), .val (.int x2), .val (.ref a18), .val (.int (1 : Int32))] at_145 rfl ?_
      refine Go.aload X33 149 at_147 rfl rfl ?_
      refine Go.callSP X33 152 [(.ref a18)] [] 0 (hw _ (List.mem_of_getElem? (i := 26) rfl)) (hw _ (List.mem_of_getElem? (i := 27) rfl)) (hw _ (List.mem_of_getElem? (i := 28) rfl)) (by decide) (hw _ (List.mem_of_getElem? (i := 29) rfl)) pd_15 at_149 (rm_b l Z a0 hw T33.heap cz SC hcz SA SH SLo wf hwf SF a18 t 1 (upd (fun _ => (0 : Int32)) 0 x0) (1 : Int32) S (Or.inr (Or.inl ⟨by decide, (by simp [upd, c35]), rfl⟩))) rfl rfl rfl (Nat.le_of_eq rfl) (by decide) (by decide) (by decide) (by decide) ?_
      intro T36 L36 X36
      refine Go.iload X36 154 at_152 rfl ?_
      refine Go.icmpN X36 157 at_154 (XT.ii_ne_f (by decide)) ?_
      refine Go.iconst X36 158 (1 : Int32) at_157 ?_
      refine Go.goto X36 162 at_158 ?_
      exact Go.retI X36 rfl (by simp) rfl at_162 (X36.finL ws34 rfl (by decide) (by decide))
    · skip
      refine Go.icmpY X33 144 at_137 (XT.ii_ne_t c35) ?_
      refine Go.iconst X33 145 (0 : Int32) at_144 ?_
      refine Go.istore X33 147 #[.val (.int q0), .val (.int q1), .val (.int q2), .val (.int q3), .val (.int (1 : Int32)), .val (.int x0), .val (.int x1), .val (.int x2), .val (.ref a18), .val (.int (0 : Int32))] at_145 rfl ?_
      refine Go.aload X33 149 at_147 rfl rfl ?_
      refine Go.callSP X33 152 [(.ref a18)] [] 0 (hw _ (List.mem_of_getElem? (i := 26) rfl)) (hw _ (List.mem_of_getElem? (i := 27) rfl)) (hw _ (List.mem_of_getElem? (i := 28) rfl)) (by decide) (hw _ (List.mem_of_getElem? (i := 29) rfl)) pd_15 at_149 (rm_b l Z a0 hw T33.heap cz SC hcz SA SH SLo wf hwf SF a18 t 1 (upd (fun _ => (0 : Int32)) 0 x0) (0 : Int32) S (Or.inr (Or.inr ⟨by decide, (by simp [upd, c35]), rfl⟩))) rfl rfl rfl (Nat.le_of_eq rfl) (by decide) (by decide) (by decide) (by decide) ?_
      intro T37 L37 X37
      refine Go.iload X37 154 at_152 rfl ?_
      refine Go.icmpN X37 157 at_154 (XT.ii_ne_f (by decide)) ?_
      refine Go.iconst X37 158 (1 : Int32) at_157 ?_
      refine Go.goto X37 162 at_158 ?_
      exact Go.retI X37 rfl (by simp) rfl at_162 (X37.finL ws34 rfl (by decide) (by decide))
  · rw [hk]
    refine Go.istore X0 5 #[.val (.int q0), .val (.int q1), .val (.int q2), .val (.int q3), .val (.int (2 : Int32)), .unset, .unset, .unset, .unset, .unset] at_3 rfl ?_
    refine Go.iloadN X0 6 at_5 rfl ?_
    refine Go.callS X0 9 [(.int q1)] [] 0 (hw _ (List.mem_of_getElem? (i := 0) rfl)) (hw _ (List.mem_of_getElem? (i := 1) rfl)) (hw _ (List.mem_of_getElem? (i := 2) rfl)) (by decide) (hw _ (List.mem_of_getElem? (i := 3) rfl)) pd_13 at_6 (rm_p l Z a0 hw h0 q1) rfl rfl rfl (Nat.le_of_eq rfl) (by decide) (by decide) (by decide) (by decide) ?_
    rintro T38 v38 L38 X38 ⟨hhx0, x0, rfl, x00, x01⟩
    rw [hhx0] at X38
    show Go p e below _ T38 m 9 #[.val (.int q0), .val (.int q1), .val (.int q2), .val (.int q3), .val (.int (2 : Int32)), .unset, .unset, .unset, .unset, .unset] [(.int x0)]
    refine Go.istore X38 11 #[.val (.int q0), .val (.int q1), .val (.int q2), .val (.int q3), .val (.int (2 : Int32)), .val (.int x0), .unset, .unset, .unset, .unset] at_9 rfl ?_
    refine Go.iloadN X38 12 at_11 rfl ?_
    refine Go.callS X38 15 [(.int q2)] [] 0 (hw _ (List.mem_of_getElem? (i := 0) rfl)) (hw _ (List.mem_of_getElem? (i := 1) rfl)) (hw _ (List.mem_of_getElem? (i := 2) rfl)) (by decide) (hw _ (List.mem_of_getElem? (i := 3) rfl)) pd_13 at_12 (rm_p l Z a0 hw h0 q2) rfl rfl rfl (Nat.le_of_eq rfl) (by decide) (by decide) (by decide) (by decide) ?_
    rintro T39 v39 L39 X39 ⟨hhx1, x1, rfl, x10, x11⟩
    rw [hhx1] at X39
    show Go p e below _ T39 m 15 #[.val (.int q0), .val (.int q1), .val (.int q2), .val (.int q3), .val (.int (2 : Int32)), .val (.int x0), .unset, .unset, .unset, .unset] [(.int x1)]
    refine Go.istore X39 17 #[.val (.int q0), .val (.int q1), .val (.int q2), .val (.int q3), .val (.int (2 : Int32)), .val (.int x0), .val (.int x1), .unset, .unset, .unset] at_15 rfl ?_
    refine Go.iloadN X39 18 at_17 rfl ?_
    refine Go.callS X39 21 [(.int q3)] [] 0 (hw _ (List.mem_of_getElem? (i := 0) rfl)) (hw _ (List.mem_of_getElem? (i := 1) rfl)) (hw _ (List.mem_of_getElem? (i := 2) rfl)) (by decide) (hw _ (List.mem_of_getElem? (i := 3) rfl)) pd_13 at_18 (rm_p l Z a0 hw h0 q3) rfl rfl rfl (Nat.le_of_eq rfl) (by decide) (by decide) (by decide) (by decide) ?_
    rintro T40 v40 L40 X40 ⟨hhx2, x2, rfl, x20, x21⟩
    rw [hhx2] at X40
    show Go p e below _ T40 m 21 #[.val (.int q0), .val (.int q1), .val (.int q2), .val (.int q3), .val (.int (2 : Int32)), .val (.int x0), .val (.int x1), .unset, .unset, .unset] [(.int x2)]
    refine Go.istore X40 23 #[.val (.int q0), .val (.int q1), .val (.int q2), .val (.int q3), .val (.int (2 : Int32)), .val (.int x0), .val (.int x1), .val (.int x2), .unset, .unset] at_21 rfl ?_
    refine Go.iload X40 25 at_23 rfl ?_
    refine Go.if0Y X40 43 at_25 (XT.i0_ne_t (by decide)) ?_
    refine Go.iload X40 45 at_43 rfl ?_
    refine Go.iconst X40 46 (1 : Int32) at_45 ?_
    refine Go.icmpY X40 69 at_46 (XT.ii_ne_t (by decide)) ?_
    refine Go.iload X40 71 at_69 rfl ?_
    refine Go.iconst X40 72 (2 : Int32) at_71 ?_
    refine Go.icmpN X40 75 at_72 (XT.ii_ne_f (by decide)) ?_
    refine Go.newO X40 78 (hw _ (List.mem_of_getElem? (i := 4) rfl)) (hw _ (List.mem_of_getElem? (i := 5) rfl)) (hw _ (List.mem_of_getElem? (i := 6) rfl)) at_75 (by decide) (by decide) ?_
    intro T41 h41 a41 X41 E41 g41 A41 D41
    have nw_a41 : Z.heap.size ≤ a41 := by rw [← g41]; exact X40.le
    have ws42 : WS s s.vm h41 := ws0.le E41.1
    have F43 : Fld Z h41 a41 "java/lang/String" "value" "[B" .null := D41 (Or.inr (hw _ (List.mem_of_getElem? (i := 20) rfl))) (ty := (.array .byte)) (by decide)
    have F44 : Fld Z h41 a41 "java/lang/String" "coder" "B" (.int (0 : Int32)) := D41 (Or.inr (hw _ (List.mem_of_getElem? (i := 21) rfl))) (ty := .byte) (by decide)
    refine Go.dup X41 79 at_78 rfl ?_
    refine Go.iconst X41 80 (2 : Int32) at_79 ?_
    refine Go.newC X41 82 (n := 2) (hw _ (List.mem_of_getElem? (i := 7) rfl)) at_80 2 (by decide) (by decide) (by decide) (by decide) ?_
    intro T45 h45 a45 X45 E45 g45 V45
    have nw_a45 : Z.heap.size ≤ a45 := by rw [← g45]; exact X41.le
    have ne_a41_a45 : a41 ≠ a45 := by rw [← g45]; exact Nat.ne_of_lt A41.lt
    have ws46 : WS s s.vm h45 := ws42.le E45.1
    have F47 : Exa Z h45 a41 "java/lang/String" := A41.ext E45
    have F48 : Fld Z h45 a41 "java/lang/String" "value" "[B" .null := F43.ext E45
    have F49 : Fld Z h45 a41 "java/lang/String" "coder" "B" (.int (0 : Int32)) := F44.ext E45
    refine Go.dup X45 83 at_82 rfl ?_
    refine Go.iconst X45 84 (0 : Int32) at_83 ?_
    refine Go.iload X45 86 at_84 rfl ?_
    refine Go.stCN X45 87 V45 0 (by decide) at_86 nw_a45 ?_
    intro T50 h50 w50 X50 W50 V50
    rw [(own_nr x00 x01 : nar .char x0 = x0)] at V50
    have ws51 : WS s s.vm h50 := ws46.le (Nat.le_of_eq W50.size.symm)
    have F52 : Exa Z h50 a41 "java/lang/String" := F47.wr W50
    have F53 : Fld Z h50 a41 "java/lang/String" "value" "[B" .null := F48.other W50 (Or.inl ne_a41_a45)
    have F54 : Fld Z h50 a41 "java/lang/String" "coder" "B" (.int (0 : Int32)) := F49.other W50 (Or.inl ne_a41_a45)
    have F55 : An Z h50 a45 .char 2 (upd (fun _ => (0 : Int32)) 0 x0) := V50
    refine Go.dup X50 88 at_87 rfl ?_
    refine Go.iconst X50 89 (1 : Int32) at_88 ?_
    refine Go.iload X50 91 at_89 rfl ?_
    refine Go.stCN X50 92 F55 1 (by decide) at_91 nw_a45 ?_
    intro T56 h56 w56 X56 W56 V56
    rw [(own_nr x10 x11 : nar .char x1 = x1)] at V56
    have ws57 : WS s s.vm h56 := ws51.le (Nat.le_of_eq W56.size.symm)
    have F58 : Exa Z h56 a41 "java/lang/String" := F52.wr W56
    have F59 : Fld Z h56 a41 "java/lang/String" "value" "[B" .null := F53.other W56 (Or.inl ne_a41_a45)
    have F60 : Fld Z h56 a41 "java/lang/String" "coder" "B" (.int (0 : Int32)) := F54.other W56 (Or.inl ne_a41_a45)
    have F61 : An Z h56 a45 .char 2 (upd (upd (fun _ => (0 : Int32)) 0 x0) 1 x1) := V56
    have hch : ChC 2 (upd (upd (fun _ => (0 : Int32)) 0 x0) 1 x1) := ((ChC.z.u ⟨x00, x01⟩).u ⟨x10, x11⟩)
    refine Go.callI X56 95 [(.ref a45)] [(.ref a41)] 1 rfl (hw _ (List.mem_of_getElem? (i := 8) rfl)) (hw _ (List.mem_of_getElem? (i := 9) rfl)) (hw _ (List.mem_of_getElem? (i := 6) rfl)) (by decide) rfl (hw _ (List.mem_of_getElem? (i := 10) rfl)) pd_14 at_92 (rm_i1 l Z a0 hw h56 cz SC hcz a41 a45 2 (upd (upd (fun _ => (0 : Int32)) 0 x0) 1 x1) (by decide) (by decide) F58 F59 F60 nw_a41 (Ne.symm ne_a41_a45) F61 hch SA SH SLo) rfl rfl rfl (Nat.le_of_eq rfl) (by decide) (by decide) (by decide) (by decide) ?_
    rintro T62 v62 L62 X62 ⟨rfl, t, K, gt, S⟩
    show Go p e below _ T62 m 95 #[.val (.int q0), .val (.int q1), .val (.int q2), .val (.int q3), .val (.int (2 : Int32)), .val (.int x0), .val (.int x1), .val (.int x2), .unset, .unset] [(.ref a41)]
    have ws63 : WS s s.vm T62.heap := ws57.le K.1
    refine Go.astore X62 97 #[.val (.int q0), .val (.int q1), .val (.int q2), .val (.int q3), .val (.int (2 : Int32)), .val (.int x0), .val (.int x1), .val (.int x2), .val (.ref a41), .unset] at_95 rfl rfl ?_
    refine Go.goto X62 127 at_97 ?_
    refine Go.iload X62 129 at_127 rfl ?_
    refine Go.iconst X62 130 (1 : Int32) at_129 ?_
    refine Go.icmpN X62 133 at_130 (XT.ii_lt_f (by decide)) ?_
    refine Go.iload X62 135 at_133 rfl ?_
    refine Go.ldcI X62 137 (hw _ (List.mem_of_getElem? (i := 35) rfl)) at_135 ?_
    by_cases c64 : x0 = (65279 : Int32)
    · skip
      refine Go.icmpN X62 140 at_137 (XT.ii_ne_f c64) ?_
      refine Go.iconst X62 141 (1 : Int32) at_140 ?_
      refine Go.goto X62 145 at_141 ?_
      refine Go.istore X62 147 #[.val (.int q0), .val (.int q1), .val (.int q2), .val (.int q3), .val (.int (2 : Int32)), .val (.int x0), .val (.int x1), .val (.int x2), .val (.ref a41), .val (.int (1 : Int32))] at_145 rfl ?_
      refine Go.aload X62 149 at_147 rfl rfl ?_
      refine Go.callSP X62 152 [(.ref a41)] [] 0 (hw _ (List.mem_of_getElem? (i := 26) rfl)) (hw _ (List.mem_of_getElem? (i := 27) rfl)) (hw _ (List.mem_of_getElem? (i := 28) rfl)) (by decide) (hw _ (List.mem_of_getElem? (i := 29) rfl)) pd_15 at_149 (rm_b l Z a0 hw T62.heap cz SC hcz SA SH SLo wf hwf SF a41 t 2 (upd (upd (fun _ => (0 : Int32)) 0 x0) 1 x1) (1 : Int32) S (Or.inr (Or.inl ⟨by decide, (by simp [upd, c64]), rfl⟩))) rfl rfl rfl (Nat.le_of_eq rfl) (by decide) (by decide) (by decide) (by decide) ?_
      intro T65 L65 X65
      refine Go.iload X65 154 at_152 rfl ?_
      refine Go.icmpN X65 157 at_154 (XT.ii_ne_f (by decide)) ?_
      refine Go.iconst X65 158 (1 : Int32) at_157 ?_
      refine Go.goto X65 162 at_158 ?_
      exact Go.retI X65 rfl (by simp) rfl at_162 (X65.finL ws63 rfl (by decide) (by decide))
    · skip
      refine Go.icmpY X62 144 at_137 (XT.ii_ne_t c64) ?_
      refine Go.iconst X62 145 (0 : Int32) at_144 ?_
      refine Go.istore X62 147 #[.val (.int q0), .val (.int q1), .val (.int q2), .val (.int q3), .val (.int (2 : Int32)), .val (.int x0), .val (.int x1), .val (.int x2), .val (.ref a41), .val (.int (0 : Int32))] at_145 rfl ?_
      refine Go.aload X62 149 at_147 rfl rfl ?_
      refine Go.callSP X62 152 [(.ref a41)] [] 0 (hw _ (List.mem_of_getElem? (i := 26) rfl)) (hw _ (List.mem_of_getElem? (i := 27) rfl)) (hw _ (List.mem_of_getElem? (i := 28) rfl)) (by decide) (hw _ (List.mem_of_getElem? (i := 29) rfl)) pd_15 at_149 (rm_b l Z a0 hw T62.heap cz SC hcz SA SH SLo wf hwf SF a41 t 2 (upd (upd (fun _ => (0 : Int32)) 0 x0) 1 x1) (0 : Int32) S (Or.inr (Or.inr ⟨by decide, (by simp [upd, c64]), rfl⟩))) rfl rfl rfl (Nat.le_of_eq rfl) (by decide) (by decide) (by decide) (by decide) ?_
      intro T66 L66 X66
      refine Go.iload X66 154 at_152 rfl ?_
      refine Go.icmpN X66 157 at_154 (XT.ii_ne_f (by decide)) ?_
      refine Go.iconst X66 158 (1 : Int32) at_157 ?_
      refine Go.goto X66 162 at_158 ?_
      exact Go.retI X66 rfl (by simp) rfl at_162 (X66.finL ws63 rfl (by decide) (by decide))
  · rw [hk]
    refine Go.istore X0 5 #[.val (.int q0), .val (.int q1), .val (.int q2), .val (.int q3), .val (.int (3 : Int32)), .unset, .unset, .unset, .unset, .unset] at_3 rfl ?_
    refine Go.iloadN X0 6 at_5 rfl ?_
    refine Go.callS X0 9 [(.int q1)] [] 0 (hw _ (List.mem_of_getElem? (i := 0) rfl)) (hw _ (List.mem_of_getElem? (i := 1) rfl)) (hw _ (List.mem_of_getElem? (i := 2) rfl)) (by decide) (hw _ (List.mem_of_getElem? (i := 3) rfl)) pd_13 at_6 (rm_p l Z a0 hw h0 q1) rfl rfl rfl (Nat.le_of_eq rfl) (by decide) (by decide) (by decide) (by decide) ?_
    rintro T67 v67 L67 X67 ⟨hhx0, x0, rfl, x00, x01⟩
    rw [hhx0] at X67
    show Go p e below _ T67 m 9 #[.val (.int q0), .val (.int q1), .val (.int q2), .val (.int q3), .val (.int (3 : Int32)), .unset, .unset, .unset, .unset, .unset] [(.int x0)]
    refine Go.istore X67 11 #[.val (.int q0), .val (.int q1), .val (.int q2), .val (.int q3), .val (.int (3 : Int32)), .val (.int x0), .unset, .unset, .unset, .unset] at_9 rfl ?_
    refine Go.iloadN X67 12 at_11 rfl ?_
    refine Go.callS X67 15 [(.int q2)] [] 0 (hw _ (List.mem_of_getElem? (i := 0) rfl)) (hw _ (List.mem_of_getElem? (i := 1) rfl)) (hw _ (List.mem_of_getElem? (i := 2) rfl)) (by decide) (hw _ (List.mem_of_getElem? (i := 3) rfl)) pd_13 at_12 (rm_p l Z a0 hw h0 q2) rfl rfl rfl (Nat.le_of_eq rfl) (by decide) (by decide) (by decide) (by decide) ?_
    rintro T68 v68 L68 X68 ⟨hhx1, x1, rfl, x10, x11⟩
    rw [hhx1] at X68
    show Go p e below _ T68 m 15 #[.val (.int q0), .val (.int q1), .val (.int q2), .val (.int q3), .val (.int (3 : Int32)), .val (.int x0), .unset, .unset, .unset, .unset] [(.int x1)]
    refine Go.istore X68 17 #[.val (.int q0), .val (.int q1), .val (.int q2), .val (.int q3), .val (.int (3 : Int32)), .val (.int x0), .val (.int x1), .unset, .unset, .unset] at_15 rfl ?_
    refine Go.iloadN X68 18 at_17 rfl ?_
    refine Go.callS X68 21 [(.int q3)] [] 0 (hw _ (List.mem_of_getElem? (i := 0) rfl)) (hw _ (List.mem_of_getElem? (i := 1) rfl)) (hw _ (List.mem_of_getElem? (i := 2) rfl)) (by decide) (hw _ (List.mem_of_getElem? (i := 3) rfl)) pd_13 at_18 (rm_p l Z a0 hw h0 q3) rfl rfl rfl (Nat.le_of_eq rfl) (by decide) (by decide) (by decide) (by decide) ?_
    rintro T69 v69 L69 X69 ⟨hhx2, x2, rfl, x20, x21⟩
    rw [hhx2] at X69
    show Go p e below _ T69 m 21 #[.val (.int q0), .val (.int q1), .val (.int q2), .val (.int q3), .val (.int (3 : Int32)), .val (.int x0), .val (.int x1), .unset, .unset, .unset] [(.int x2)]
    refine Go.istore X69 23 #[.val (.int q0), .val (.int q1), .val (.int q2), .val (.int q3), .val (.int (3 : Int32)), .val (.int x0), .val (.int x1), .val (.int x2), .unset, .unset] at_21 rfl ?_
    refine Go.iload X69 25 at_23 rfl ?_
    refine Go.if0Y X69 43 at_25 (XT.i0_ne_t (by decide)) ?_
    refine Go.iload X69 45 at_43 rfl ?_
    refine Go.iconst X69 46 (1 : Int32) at_45 ?_
    refine Go.icmpY X69 69 at_46 (XT.ii_ne_t (by decide)) ?_
    refine Go.iload X69 71 at_69 rfl ?_
    refine Go.iconst X69 72 (2 : Int32) at_71 ?_
    refine Go.icmpY X69 100 at_72 (XT.ii_ne_t (by decide)) ?_
    refine Go.newO X69 103 (hw _ (List.mem_of_getElem? (i := 4) rfl)) (hw _ (List.mem_of_getElem? (i := 5) rfl)) (hw _ (List.mem_of_getElem? (i := 6) rfl)) at_100 (by decide) (by decide) ?_
    intro T70 h70 a70 X70 E70 g70 A70 D70
    have nw_a70 : Z.heap.size ≤ a70 := by rw [← g70]; exact X69.le
    have ws71 : WS s s.vm h70 := ws0.le E70.1
    have F72 : Fld Z h70 a70 "java/lang/String" "value" "[B" .null := D70 (Or.inr (hw _ (List.mem_of_getElem? (i := 20) rfl))) (ty := (.array .byte)) (by decide)
    have F73 : Fld Z h70 a70 "java/lang/String" "coder" "B" (.int (0 : Int32)) := D70 (Or.inr (hw _ (List.mem_of_getElem? (i := 21) rfl))) (ty := .byte) (by decide)
    refine Go.dup X70 104 at_103 rfl ?_
    refine Go.iconst X70 105 (3 : Int32) at_104 ?_
    refine Go.newC X70 107 (n := 3) (hw _ (List.mem_of_getElem? (i := 7) rfl)) at_105 3 (by decide) (by decide) (by decide) (by decide) ?_
    intro T74 h74 a74 X74 E74 g74 V74
    have nw_a74 : Z.heap.size ≤ a74 := by rw [← g74]; exact X70.le
    have ne_a70_a74 : a70 ≠ a74 := by rw [← g74]; exact Nat.ne_of_lt A70.lt
    have ws75 : WS s s.vm h74 := ws71.le E74.1
    have F76 : Exa Z h74 a70 "java/lang/String" := A70.ext E74
    have F77 : Fld Z h74 a70 "java/lang/String" "value" "[B" .null := F72.ext E74
    have F78 : Fld Z h74 a70 "java/lang/String" "coder" "B" (.int (0 : Int32)) := F73.ext E74
    refine Go.dup X74 108 at_107 rfl ?_
    refine Go.iconst X74 109 (0 : Int32) at_108 ?_
    refine Go.iload X74 111 at_109 rfl ?_
    refine Go.stCN X74 112 V74 0 (by decide) at_111 nw_a74 ?_
    intro T79 h79 w79 X79 W79 V79
    rw [(own_nr x00 x01 : nar .char x0 = x0)] at V79
    have ws80 : WS s s.vm h79 := ws75.le (Nat.le_of_eq W79.size.symm)
    have F81 : Exa Z h79 a70 "java/lang/String" := F76.wr W79
    have F82 : Fld Z h79 a70 "java/lang/String" "value" "[B" .null := F77.other W79 (Or.inl ne_a70_a74)
    have F83 : Fld Z h79 a70 "java/lang/String" "coder" "B" (.int (0 : Int32)) := F78.other W79 (Or.inl ne_a70_a74)
    have F84 : An Z h79 a74 .char 3 (upd (fun _ => (0 : Int32)) 0 x0) := V79
    refine Go.dup X79 113 at_112 rfl ?_
    refine Go.iconst X79 114 (1 : Int32) at_113 ?_
    refine Go.iload X79 116 at_114 rfl ?_
    refine Go.stCN X79 117 F84 1 (by decide) at_116 nw_a74 ?_
    intro T85 h85 w85 X85 W85 V85
    rw [(own_nr x10 x11 : nar .char x1 = x1)] at V85
    have ws86 : WS s s.vm h85 := ws80.le (Nat.le_of_eq W85.size.symm)
    have F87 : Exa Z h85 a70 "java/lang/String" := F81.wr W85
    have F88 : Fld Z h85 a70 "java/lang/String" "value" "[B" .null := F82.other W85 (Or.inl ne_a70_a74)
    have F89 : Fld Z h85 a70 "java/lang/String" "coder" "B" (.int (0 : Int32)) := F83.other W85 (Or.inl ne_a70_a74)
    have F90 : An Z h85 a74 .char 3 (upd (upd (fun _ => (0 : Int32)) 0 x0) 1 x1) := V85
    refine Go.dup X85 118 at_117 rfl ?_
    refine Go.iconst X85 119 (2 : Int32) at_118 ?_
    refine Go.iload X85 121 at_119 rfl ?_
    refine Go.stCN X85 122 F90 2 (by decide) at_121 nw_a74 ?_
    intro T91 h91 w91 X91 W91 V91
    rw [(own_nr x20 x21 : nar .char x2 = x2)] at V91
    have ws92 : WS s s.vm h91 := ws86.le (Nat.le_of_eq W91.size.symm)
    have F93 : Exa Z h91 a70 "java/lang/String" := F87.wr W91
    have F94 : Fld Z h91 a70 "java/lang/String" "value" "[B" .null := F88.other W91 (Or.inl ne_a70_a74)
    have F95 : Fld Z h91 a70 "java/lang/String" "coder" "B" (.int (0 : Int32)) := F89.other W91 (Or.inl ne_a70_a74)
    have F96 : An Z h91 a74 .char 3 (upd (upd (upd (fun _ => (0 : Int32)) 0 x0) 1 x1) 2 x2) := V91
    have hch : ChC 3 (upd (upd (upd (fun _ => (0 : Int32)) 0 x0) 1 x1) 2 x2) := (((ChC.z.u ⟨x00, x01⟩).u ⟨x10, x11⟩).u ⟨x20, x21⟩)
    refine Go.callI X91 125 [(.ref a74)] [(.ref a70)] 1 rfl (hw _ (List.mem_of_getElem? (i := 8) rfl)) (hw _ (List.mem_of_getElem? (i := 9) rfl)) (hw _ (List.mem_of_getElem? (i := 6) rfl)) (by decide) rfl (hw _ (List.mem_of_getElem? (i := 10) rfl)) pd_14 at_122 (rm_i1 l Z a0 hw h91 cz SC hcz a70 a74 3 (upd (upd (upd (fun _ => (0 : Int32)) 0 x0) 1 x1) 2 x2) (by decide) (by decide) F93 F94 F95 nw_a70 (Ne.symm ne_a70_a74) F96 hch SA SH SLo) rfl rfl rfl (Nat.le_of_eq rfl) (by decide) (by decide) (by decide) (by decide) ?_
    rintro T97 v97 L97 X97 ⟨rfl, t, K, gt, S⟩
    show Go p e below _ T97 m 125 #[.val (.int q0), .val (.int q1), .val (.int q2), .val (.int q3), .val (.int (3 : Int32)), .val (.int x0), .val (.int x1), .val (.int x2), .unset, .unset] [(.ref a70)]
    have ws98 : WS s s.vm T97.heap := ws92.le K.1
    refine Go.astore X97 127 #[.val (.int q0), .val (.int q1), .val (.int q2), .val (.int q3), .val (.int (3 : Int32)), .val (.int x0), .val (.int x1), .val (.int x2), .val (.ref a70), .unset] at_125 rfl rfl ?_
    refine Go.iload X97 129 at_127 rfl ?_
    refine Go.iconst X97 130 (1 : Int32) at_129 ?_
    refine Go.icmpN X97 133 at_130 (XT.ii_lt_f (by decide)) ?_
    refine Go.iload X97 135 at_133 rfl ?_
    refine Go.ldcI X97 137 (hw _ (List.mem_of_getElem? (i := 35) rfl)) at_135 ?_
    by_cases c99 : x0 = (65279 : Int32)
    · skip
      refine Go.icmpN X97 140 at_137 (XT.ii_ne_f c99) ?_
      refine Go.iconst X97 141 (1 : Int32) at_140 ?_
      refine Go.goto X97 145 at_141 ?_
      refine Go.istore X97 147 #[.val (.int q0), .val (.int q1), .val (.int q2), .val (.int q3), .val (.int (3 : Int32)), .val (.int x0), .val (.int x1), .val (.int x2), .val (.ref a70), .val (.int (1 : Int32))] at_145 rfl ?_
      refine Go.aload X97 149 at_147 rfl rfl ?_
      refine Go.callSP X97 152 [(.ref a70)] [] 0 (hw _ (List.mem_of_getElem? (i := 26) rfl)) (hw _ (List.mem_of_getElem? (i := 27) rfl)) (hw _ (List.mem_of_getElem? (i := 28) rfl)) (by decide) (hw _ (List.mem_of_getElem? (i := 29) rfl)) pd_15 at_149 (rm_b l Z a0 hw T97.heap cz SC hcz SA SH SLo wf hwf SF a70 t 3 (upd (upd (upd (fun _ => (0 : Int32)) 0 x0) 1 x1) 2 x2) (1 : Int32) S (Or.inr (Or.inl ⟨by decide, (by simp [upd, c99]), rfl⟩))) rfl rfl rfl (Nat.le_of_eq rfl) (by decide) (by decide) (by decide) (by decide) ?_
      intro T100 L100 X100
      refine Go.iload X100 154 at_152 rfl ?_
      refine Go.icmpN X100 157 at_154 (XT.ii_ne_f (by decide)) ?_
      refine Go.iconst X100 158 (1 : Int32) at_157 ?_
      refine Go.goto X100 162 at_158 ?_
      exact Go.retI X100 rfl (by simp) rfl at_162 (X100.finL ws98 rfl (by decide) (by decide))
    · skip
      refine Go.icmpY X97 144 at_137 (XT.ii_ne_t c99) ?_
      refine Go.iconst X97 145 (0 : Int32) at_144 ?_
      refine Go.istore X97 147 #[.val (.int q0), .val (.int q1), .val (.int q2), .val (.int q3), .val (.int (3 : Int32)), .val (.int x0), .val (.int x1), .val (.int x2), .val (.ref a70), .val (.int (0 : Int32))] at_145 rfl ?_
      refine Go.aload X97 149 at_147 rfl rfl ?_
      refine Go.callSP X97 152 [(.ref a70)] [] 0 (hw _ (List.mem_of_getElem? (i := 26) rfl)) (hw _ (List.mem_of_getElem? (i := 27) rfl)) (hw _ (List.mem_of_getElem? (i := 28) rfl)) (by decide) (hw _ (List.mem_of_getElem? (i := 29) rfl)) pd_15 at_149 (rm_b l Z a0 hw T97.heap cz SC hcz SA SH SLo wf hwf SF a70 t 3 (upd (upd (upd (fun _ => (0 : Int32)) 0 x0) 1 x1) 2 x2) (0 : Int32) S (Or.inr (Or.inr ⟨by decide, (by simp [upd, c99]), rfl⟩))) rfl rfl rfl (Nat.le_of_eq rfl) (by decide) (by decide) (by decide) (by decide) ?_
      intro T101 L101 X101
      refine Go.iload X101 154 at_152 rfl ?_
      refine Go.icmpN X101 157 at_154 (XT.ii_ne_f (by decide)) ?_
      refine Go.iconst X101 158 (1 : Int32) at_157 ?_
      refine Go.goto X101 162 at_158 ?_
      exact Go.retI X101 rfl (by simp) rfl at_162 (X101.finL ws98 rfl (by decide) (by decide))
theorem eq_I {a b : Term} {args : Array Value} {s : State} {x y : Int32} (ha : a.eval args s none [] s = some (.int x)) (hb : b.eval args s none [] s = some (.int y)) : (Jvm.Cond.eq a b).value args s none s [] = some (decide (x = y)) := by simp [Cond.value, ha, hb]
theorem own_eqI {t : Term} {args : Array Value} {s : State} {z : Int32} (h : (Jvm.Cond.eq t (.int z)).value args s none s [] = some true) : t.eval args s none [] s = some (.int z) := by
  obtain ⟨x, y, e1, e2, -, k⟩ := cmp_v (Or.inl h)
  have e3 : y = .int z := Option.some.inj (e2.symm.trans (Term.int_eval z))
  subst e3
  obtain ⟨w, rfl⟩ := k
  have := gotT (eq_I e1 e2) h
  rw [this] at e1
  exact e1
theorem own_sta {C n d : String} {args : Array Value} {s : State} (hx : (Jvm.Cond.exactly (.static C n d) C).value args s none s [] = some true) (wi : (Jvm.Cond.initialized C).before args s = true) (wl : (Jvm.Cond.laysStatic C n d).before args s = true) : ∃ a, Sta s s.heap C n d (.ref a) ∧ Exa s s.heap a C ∧ (Term.static C n d).eval args s none [] s = some (.ref a) := by
  obtain ⟨a, ev⟩ := exa_v hx
  exact ⟨a, Sta.start ev (Or.inr ⟨wi, wl⟩), Exa.start ev hx, ev⟩
theorem own_fldI {t : Term} {C n d : String} {args : Array Value} {s : State} {a : Addr} {z : Int32} (ev : t.eval args s none [] s = some (.ref a)) (hz : (Jvm.Cond.eq (.field t C n d) (.int z)).value args s none s [] = some true) : Fld s s.heap a C n d (.int z) := by
  have := own_eqI hz
  rw [fld_at ev] at this
  exact Fld.start this
theorem own_nz {t : Term} {args : Array Value} {s : State} {z : Int32} (ev : t.eval args s none [] s = some (.int z)) (h : (Jvm.Cond.not (.eq t (.int 0))).value args s none s [] = some true) : ¬ z = 0 := by
  have h1 := not_v h
  exact gotF (eq_I ev (Term.int_eval 0)) h1
theorem own_held {tb : Tables} {e : Env} {args : Array Value} {s : State} (h : call_1_1 tb e args s) : ∀ p ∈ consts_1, Jvm.Lit.constHeld s p.1 p.2 := h
set_option maxRecDepth 65536 in
set_option maxHeartbeats 40000000 in
theorem comes_1 {Post : Tables → Env → Array Value → State → Outcome → State → Prop} (hpost : ∀ tb e args s v u, (limb_1_1.after args s (.returned v) u = true ∧ limb_1_2.after args s (.returned v) u = true ∧ True) → ReturnedEndW s (.returned v) u (Jvm.fieldLocs frame_1_writes args s ++ Jvm.arrayLocs frame_1_arrays args s ++ Jvm.staticLocs frame_1_statics s) 24 1152 → Post tb e args s (.returned v) u) :
    ArmFor flags0 classFile x code maxLocals ret World_1 tables_1 room_1 Calls_1 rest_1 Pre_1 Post := by
  intro l hfl _ _ p e ha hc hk s m args below hf hA hF happ hP
  obtain ⟨hcalls, hrest, hpre⟩ := hP
  obtain ⟨-, -, -, hnamed, -, -, -, hat⟩ := (Spec.applies_iff hf).mp happ
  obtain ⟨hg, hn⟩ := and_e (Cond.before_iff.mp (show (Jvm.Cond.and given_1 narrow_1).before args s = true from hpre))
  obtain ⟨hcount, hr_hcount⟩ := and_e hg
  obtain ⟨hk0, hr_hk0⟩ := and_e hr_hcount
  obtain ⟨hk1, hr_hk1⟩ := and_e hr_hk0
  obtain ⟨hk2, hr_hk2⟩ := and_e hr_hk1
  have hk3 := hr_hk2
  obtain ⟨w0, w1, w2, w3, rfl⟩ : ∃ w0 w1 w2 w3 : Value, args = #[w0, w1, w2, w3] := by
    have hs : args.size = 4 := by simpa [Cond.value, given_1] using hcount
    obtain ⟨L⟩ := args
    match L, hs with
    | [w0, w1, w2, w3], _ => exact ⟨w0, w1, w2, w3, rfl⟩
  have hw := fun d (hd : d ∈ tables_1) => atoms_spec (ws := Jvm.Cond.code x code maxLocals ret :: tables_1) hat d (List.mem_cons_of_mem _ hd)
  obtain ⟨i0, e0⟩ := is_v hk0
  obtain rfl : w0 = (.int i0) := Option.some.inj e0
  obtain ⟨i1, e1⟩ := is_v hk1
  obtain rfl : w1 = (.int i1) := Option.some.inj e1
  obtain ⟨i2, e2⟩ := is_v hk2
  obtain rfl : w2 = (.int i2) := Option.some.inj e2
  obtain ⟨i3, e3⟩ := is_v hk3
  obtain rfl : w3 = (.int i3) := Option.some.inj e3
  have hsets := (atoms_of jdkStatics_1 (rest_1_c_eq ▸ (show rest_1_c.before _ s = true from hrest))).1
  obtain ⟨cz, evc⟩ := is_v (Cond.before_iff.mp (hsets _ (List.mem_of_getElem? (i := 1) rfl)))
  have SC := Sta.start evc (Or.inl (hsets _ (List.mem_of_getElem? (i := 0) rfl)))
  have hcz := own_nz evc (Cond.before_iff.mp (hsets _ (List.mem_of_getElem? (i := 2) rfl)))
  have SA := Sta.start (own_eqI (Cond.before_iff.mp (hsets _ (List.mem_of_getElem? (i := 12) rfl)))) (Or.inl (hsets _ (List.mem_of_getElem? (i := 11) rfl)))
  have SH := Sta.start (own_eqI (Cond.before_iff.mp (hsets _ (List.mem_of_getElem? (i := 15) rfl)))) (Or.inl (hsets _ (List.mem_of_getElem? (i := 14) rfl)))
  have SLo := Sta.start (own_eqI (Cond.before_iff.mp (hsets _ (List.mem_of_getElem? (i := 18) rfl)))) (Or.inl (hsets _ (List.mem_of_getElem? (i := 17) rfl)))
  obtain ⟨wf, evf, hwf⟩ := isR_v (Cond.before_iff.mp (hsets _ (List.mem_of_getElem? (i := 8) rfl)))
  have SF := Sta.start evf (Or.inl (hsets _ (List.mem_of_getElem? (i := 7) rfl)))
  have hCH : CHv s consts_1 s.vm s.heap := CHv.start (own_EW hw) (own_held hcalls.1) (hsets _ (List.mem_of_getElem? (i := 2) rfl)) (hw _ (List.mem_of_getElem? (i := 19) rfl)) (hw _ (List.mem_of_getElem? (i := 5) rfl))
  obtain ⟨n, o, h1, h2, h3, _, L, rfl, ⟨N, -, rfl⟩, hq⟩ := rm_l l s _ hw s.heap cz SC hcz SA SH SLo wf hwf SF i0 i1 i2 i3 (Ext.rf _) p e ha hc hk s m _ below hf ((Spec.applies_iff_loose hf).mp happ).1 ⟨rfl, State.Warmed39.refl s, rfl, hCH⟩ trivial
  refine ⟨n, _, h1, h2, h3, hpost _ _ _ _ _ _ ⟨Cond.after_iff.mpr rfl, Cond.after_iff.mpr (eq_i res_at (Term.int_eval (1)) rfl), trivial⟩ ⟨hq.1, hq.2.1, hq.2.2.1, (hq.2.2.2.sift fun y hy => Or.inr (N y hy)).mono (by decide) (by decide)⟩⟩
theorem main_1_1 : Claimed_1_1 := comes_1 fun _ _ _ _ _ _ h hF => ⟨h.1, hF⟩
theorem main_1_2 : Claimed_1_2 := comes_1 fun _ _ _ _ _ _ h hF => ⟨h.2.1, hF⟩
end Jvm.Pilot.@@N@@
namespace Jvm.Pilot.@@N@@
open Jvm Jvm.ClassFile Sem Op Lib Jvm.Free Jvm.Stand Jvm.Pilot.@@N@@.Jvm.D
/-! MADE BY PROGRAM (witnessworld.py) out of the Statement's table words and the real class files: 20 classes; the members and pool entries that the words name. The judged class is class 1, her method 2. -/
namespace start1
open Jvm.ClassFile
def u (s : String) : CpInfo := .utf8 (stringToUtf16 s)
/-- a pool by its gaps: so many unusable entries, then the entry; so many at the end -/
def gap : Nat → List CpInfo → List CpInfo
  | 0, r => r
  | n + 1, r => .unusable :: gap n r
def poolList (es : List (Nat × CpInfo)) (last : Nat) : List CpInfo := es.foldr (fun e r => gap e.1 (e.2 :: r)) (gap last [])
def pool (es : List (Nat × CpInfo)) (last : Nat) : Array CpInfo := ⟨poolList es last⟩
def fileOf (pool : Array CpInfo) (this : Nat) (attrs : Array Attribute := #[]) (ms : Array MethodInfo := #[]) (fl : Nat := 33) (sup : Nat := 0) (ifs : Array Nat := #[]) (fds : Array FieldInfo := #[]) : ClassFile where
  minorVersion := 0
  majorVersion := 65
  constantPool := pool
  accessFlags := fl
  thisClass := this
  superClass := sup
  interfaces := ifs
  fields := fds
  methods := ms
  attributes := attrs
def plain (name : String) (sup : Option ClassId) : Class where
  name := name
  kind := .ordinary
  loader := none
  accessFlags := 33
  super := sup
  interfaces := #[]
  cf := none
  fields := #[]
  methods := #[]
  instanceTypes := #[]
  staticTypes := #[]
  resolved := #[]
  callSites := []
  init := .initialized
  statics := none
  mirror := none

def pool0 : Array CpInfo := pool [(5, u "<init>"), (0, u "()V"), (1, .class_ 10), (1, u "java/lang/Object")] 113

def k0c0 : Code := { maxStack := 0, maxLocals := 1, code := object_method_1_code, exceptionTable := #[], attributes := #[] }
def k0m0 : Method := { name := "<init>", desc := "()V", sig := { parameters := [], returnType := none }, accessFlags := 1, code := some k0c0 }
/-- java/lang/Object -/
def k0 : Class := { plain "java/lang/Object" none with
  accessFlags := 33
  interfaces := #[]
  cf := some (fileOf pool0 8 #[] #[{ accessFlags := 1, nameIndex := 5, descriptorIndex := 6, attributes := #[] }] 33 0 #[] #[])
  fields := #[]
  methods := #[k0m0]
  instanceTypes := #[]
  staticTypes := #[]
  resolved := Array.replicate 124 none
  statics := none }

def pool1 : Array CpInfo := pool [(2, .class_ 4), (1, u "java/lang/Object"), (0, u "<init>"), (0, u "()V"), (0, .integer 65279), (0, .methodref 9 10), (0, .class_ 11), (0, .nameAndType 12 13), (0, u "com/example/adder/adder/ChecksumByteOrderMarkLengthPinLaw"), (0, u "pick"), (0, u "(I)C"), (0, .class_ 15), (0, u "java/lang/String"), (0, .methodref 14 17), (0, .nameAndType 5 18), (0, u "([C)V"), (0, .methodref 20 21), (0, .class_ 22), (0, .nameAndType 23 24), (0, u "com/example/adder/adder/Checksum"), (0, u "byteOrderMarkLength"), (0, u "(Ljava/lang/String;)I"), (3, u "law"), (0, u "(IIII)Z")] 2

def k1m0 : Method := { name := "<init>", desc := "()V", sig := { parameters := [], returnType := none }, accessFlags := 2, code := none }
def k1c1 : Code := { maxStack := 2, maxLocals := 1, code := method_2_code, exceptionTable := #[], attributes := #[] }
def k1m1 : Method := { name := "pick", desc := "(I)C", sig := { parameters := [.int], returnType := some .char }, accessFlags := 10, code := some k1c1 }
def k1c2 : Code := { maxStack := 6, maxLocals := 10, code := code, exceptionTable := #[], attributes := #[] }
def k1m2 : Method := { name := "law", desc := "(IIII)Z", sig := { parameters := [.int, .int, .int, .int], returnType := some .boolean }, accessFlags := 9, code := some k1c2 }
/-- com/example/adder/adder/ChecksumByteOrderMarkLengthPinLaw -/
def k1 : Class := { plain "com/example/adder/adder/ChecksumByteOrderMarkLengthPinLaw" (some 0) with
  accessFlags := 49
  interfaces := #[]
  cf := some (fileOf pool1 9 #[] #[{ accessFlags := 2, nameIndex := 5, descriptorIndex := 6, attributes := #[] }, { accessFlags := 10, nameIndex := 12, descriptorIndex := 13, attributes := #[] }, { accessFlags := 9, nameIndex := 28, descriptorIndex := 29, attributes := #[] }] 49 2 #[] #[])
  fields := #[]
  methods := #[k1m0, k1m1, k1m2]
  instanceTypes := #[]
  staticTypes := #[]
  resolved := Array.replicate 32 none
  statics := none }

def pool2 : Array CpInfo := pool [(1, .class_ 2), (0, u "java/io/Serializable"), (0, .class_ 4), (0, u "java/lang/Object")] 2

/-- java/io/Serializable -/
def k2 : Class := { plain "java/io/Serializable" (some 0) with
  accessFlags := 1537
  interfaces := #[]
  cf := some (fileOf pool2 1 #[] #[] 1537 3 #[] #[])
  fields := #[]
  methods := #[]
  instanceTypes := #[]
  staticTypes := #[]
  resolved := Array.replicate 7 none
  statics := none }

def pool3 : Array CpInfo := pool [(1, .class_ 2), (0, u "java/lang/Comparable"), (0, .class_ 4), (0, u "java/lang/Object")] 7

/-- java/lang/Comparable -/
def k3 : Class := { plain "java/lang/Comparable" (some 0) with
  accessFlags := 1537
  interfaces := #[]
  cf := some (fileOf pool3 1 #[] #[] 1537 3 #[] #[])
  fields := #[]
  methods := #[]
  instanceTypes := #[]
  staticTypes := #[]
  resolved := Array.replicate 12 none
  statics := none }

def pool4 : Array CpInfo := pool [(2, .class_ 4), (1, u "java/lang/CharSequence"), (42, .class_ 48), (0, u "java/lang/CharSequence$1CodePointIterator"), (10, .class_ 60), (0, u "java/lang/CharSequence$1CharIterator"), (5, .class_ 67), (0, u "java/lang/Object")] 63

/-- java/lang/CharSequence -/
def k4 : Class := { plain "java/lang/CharSequence" (some 0) with
  accessFlags := 1537
  interfaces := #[]
  cf := some (fileOf pool4 2 #[.nestMembers #[47, 59]] #[] 1537 66 #[] #[])
  fields := #[]
  methods := #[]
  instanceTypes := #[]
  staticTypes := #[]
  resolved := Array.replicate 131 none
  statics := none }

def pool5 : Array CpInfo := pool [(1, .class_ 2), (0, u "java/lang/constant/Constable"), (0, .class_ 4), (0, u "java/lang/Object")] 6

/-- java/lang/constant/Constable -/
def k5 : Class := { plain "java/lang/constant/Constable" (some 0) with
  accessFlags := 1537
  interfaces := #[]
  cf := some (fileOf pool5 1 #[] #[] 1537 3 #[] #[])
  fields := #[]
  methods := #[]
  instanceTypes := #[]
  staticTypes := #[]
  resolved := Array.replicate 11 none
  statics := none }

def pool6 : Array CpInfo := pool [(1, .class_ 2), (0, u "java/lang/constant/ConstantDesc"), (0, .class_ 4), (0, u "java/lang/Object")] 32

/-- java/lang/constant/ConstantDesc -/
def k6 : Class := { plain "java/lang/constant/ConstantDesc" (some 0) with
  accessFlags := 1537
  interfaces := #[]
  cf := some (fileOf pool6 1 #[] #[] 1537 3 #[] #[])
  fields := #[]
  methods := #[]
  instanceTypes := #[]
  staticTypes := #[]
  resolved := Array.replicate 37 none
  statics := none }

def pool7 : Array CpInfo := pool [(1, .methodref 2 3), (0, .class_ 4), (0, .nameAndType 5 6), (0, u "java/lang/Object"), (0, u "<init>"), (0, u "()V"), (0, .string 8), (0, u ""), (0, .fieldref 10 11), (0, .class_ 12), (0, .nameAndType 13 14), (0, u "java/lang/String"), (0, u "value"), (0, u "[B"), (0, .fieldref 10 16), (0, .nameAndType 17 18), (0, u "coder"), (0, u "B"), (2, u "hash"), (0, u "I"), (2, u "hashIsZero"), (0, u "Z"), (0, .methodref 10 28), (0, .nameAndType 5 29), (0, u "([CIILjava/lang/Void;)V"), (8, .fieldref 10 39), (0, .nameAndType 40 26), (0, u "COMPACT_STRINGS"), (1, .class_ 44), (1, u "java/lang/StringUTF16"), (0, u "compress"), (1, .methodref 42 48), (0, .nameAndType 49 50), (0, u "coderFromArrayLen"), (0, u "([BI)B"), (56, .class_ 109), (1, u "java/lang/StringLatin1"), (32, u "()Z"), (34, .methodref 42 178), (0, .nameAndType 45 179), (0, u "([CII)[B"), (183, u "([BI)C"), (27, u "(II)V"), (35, u "(I)C"), (64, .methodref 10 493), (0, .nameAndType 494 142), (0, u "isLatin1"), (0, .methodref 107 496), (0, .nameAndType 497 363), (0, u "charAt"), (0, .methodref 42 496), (2, u "checkIndex"), (73, .class_ 576), (0, u "java/lang/CharSequence"), (22, u "CASE_INSENSITIVE_ORDER"), (0, u "Ljava/util/Comparator;"), (91, u "isEmpty"), (317, u "([C)V"), (42, .fieldref 1054 1055), (0, .class_ 1056), (0, .nameAndType 1057 1058), (0, u "jdk/internal/util/Preconditions"), (0, u "SIOOBE_FORMATTER"), (0, u "Ljava/util/function/BiFunction;"), (0, .methodref 1054 1060), (0, .nameAndType 501 1061), (0, u "(IILjava/util/function/BiFunction;)I"), (39, u "serialPersistentFields"), (0, u "[Ljava/io/ObjectStreamField;"), (0, .class_ 1104), (0, u "java/lang/String$CaseInsensitiveComparator"), (1, .class_ 1107), (0, u "java/io/Serializable"), (0, .class_ 1109), (0, u "java/lang/Comparable"), (0, .class_ 1111), (0, u "java/lang/constant/Constable"), (0, .class_ 1113), (0, u "java/lang/constant/ConstantDesc"), (2, u "serialVersionUID"), (0, u "J"), (3, u "REPL"), (0, u "C"), (2, u "LATIN1"), (1, u "UTF16")] 323

def k7m0 : Method := { name := "<init>", desc := "()V", sig := { parameters := [], returnType := none }, accessFlags := 1, code := none }
def k7c1 : Code := { maxStack := 5, maxLocals := 2, code := jdk_42_method_3_code, exceptionTable := #[], attributes := #[] }
def k7m1 : Method := { name := "<init>", desc := "([C)V", sig := { parameters := [(.array .char)], returnType := none }, accessFlags := 1, code := some k7c1 }
def k7c2 : Code := { maxStack := 1, maxLocals := 1, code := jdk_42_method_55_code, exceptionTable := #[], attributes := #[] }
def k7m2 : Method := { name := "isEmpty", desc := "()Z", sig := { parameters := [], returnType := some .boolean }, accessFlags := 1, code := some k7c2 }
def k7c3 : Code := { maxStack := 2, maxLocals := 2, code := jdk_42_method_56_code, exceptionTable := #[], attributes := #[] }
def k7m3 : Method := { name := "charAt", desc := "(I)C", sig := { parameters := [.int], returnType := some .char }, accessFlags := 1, code := some k7c3 }
def k7c4 : Code := { maxStack := 4, maxLocals := 6, code := jdk_42_method_149_code, exceptionTable := #[], attributes := #[] }
def k7m4 : Method := { name := "<init>", desc := "([CIILjava/lang/Void;)V", sig := { parameters := [(.array .char), .int, .int, (.object "java/lang/Void")], returnType := none }, accessFlags := 2, code := some k7c4 }
def k7c5 : Code := { maxStack := 1, maxLocals := 1, code := jdk_42_method_154_code, exceptionTable := #[], attributes := #[] }
def k7m5 : Method := { name := "isLatin1", desc := "()Z", sig := { parameters := [], returnType := some .boolean }, accessFlags := 0, code := some k7c5 }
def k7c6 : Code := { maxStack := 3, maxLocals := 2, code := jdk_42_method_155_code, exceptionTable := #[], attributes := #[] }
def k7m6 : Method := { name := "checkIndex", desc := "(II)V", sig := { parameters := [.int, .int], returnType := none }, accessFlags := 8, code := some k7c6 }
/-- java/lang/String -/
def k7 : Class := { plain "java/lang/String" (some 0) with
  accessFlags := 49
  interfaces := #[2, 3, 4, 5, 6]
  cf := some (fileOf pool7 10 #[.nestMembers #[1103]] #[{ accessFlags := 1, nameIndex := 5, descriptorIndex := 6, attributes := #[] }, { accessFlags := 1, nameIndex := 5, descriptorIndex := 1010, attributes := #[] }, { accessFlags := 1, nameIndex := 692, descriptorIndex := 142, attributes := #[] }, { accessFlags := 1, nameIndex := 497, descriptorIndex := 427, attributes := #[] }, { accessFlags := 2, nameIndex := 5, descriptorIndex := 29, attributes := #[] }, { accessFlags := 0, nameIndex := 494, descriptorIndex := 142, attributes := #[] }, { accessFlags := 8, nameIndex := 501, descriptorIndex := 391, attributes := #[] }] 49 2 #[1106, 1108, 575, 1110, 1112] #[{ accessFlags := 18, nameIndex := 13, descriptorIndex := 14, attributes := #[] }, { accessFlags := 18, nameIndex := 17, descriptorIndex := 18, attributes := #[] }, { accessFlags := 2, nameIndex := 21, descriptorIndex := 22, attributes := #[] }, { accessFlags := 2, nameIndex := 25, descriptorIndex := 26, attributes := #[] }, { accessFlags := 26, nameIndex := 1116, descriptorIndex := 1117, attributes := #[] }, { accessFlags := 24, nameIndex := 40, descriptorIndex := 26, attributes := #[] }, { accessFlags := 26, nameIndex := 1101, descriptorIndex := 1102, attributes := #[] }, { accessFlags := 26, nameIndex := 1121, descriptorIndex := 1122, attributes := #[] }, { accessFlags := 25, nameIndex := 599, descriptorIndex := 600, attributes := #[] }, { accessFlags := 24, nameIndex := 1125, descriptorIndex := 18, attributes := #[] }, { accessFlags := 24, nameIndex := 1127, descriptorIndex := 18, attributes := #[] }])
  fields := #[{ name := "value", type := (.array .byte), accessFlags := 18, slot := 0, constantValue := 0 }, { name := "coder", type := .byte, accessFlags := 18, slot := 1, constantValue := 0 }, { name := "hash", type := .int, accessFlags := 2, slot := 2, constantValue := 0 }, { name := "hashIsZero", type := .boolean, accessFlags := 2, slot := 3, constantValue := 0 }, { name := "serialVersionUID", type := .long, accessFlags := 26, slot := 0, constantValue := 0 }, { name := "COMPACT_STRINGS", type := .boolean, accessFlags := 24, slot := 1, constantValue := 0 }, { name := "serialPersistentFields", type := (.array (.object "java/io/ObjectStreamField")), accessFlags := 26, slot := 2, constantValue := 0 }, { name := "REPL", type := .char, accessFlags := 26, slot := 3, constantValue := 0 }, { name := "CASE_INSENSITIVE_ORDER", type := (.object "java/util/Comparator"), accessFlags := 25, slot := 4, constantValue := 0 }, { name := "LATIN1", type := .byte, accessFlags := 24, slot := 5, constantValue := 0 }, { name := "UTF16", type := .byte, accessFlags := 24, slot := 6, constantValue := 0 }]
  methods := #[k7m0, k7m1, k7m2, k7m3, k7m4, k7m5, k7m6]
  instanceTypes := #[(.array .byte), .byte, .int, .boolean]
  staticTypes := #[.long, .boolean, (.array (.object "java/io/ObjectStreamField")), .char, (.object "java/util/Comparator"), .byte, .byte]
  resolved := Array.replicate 1451 none
  statics := some 0 }

def pool8 : Array CpInfo := pool [(2, .class_ 4), (1, u "java/lang/Object"), (0, u "<init>"), (0, u "()V"), (9, .class_ 18), (1, u "com/example/adder/adder/Checksum"), (0, u "byteOrderMarkLength"), (0, u "(Ljava/lang/String;)I"), (13, .class_ 36), (1, u "java/lang/String"), (40, u "UTF8_BYTE_ORDER_MARK"), (0, u "[B"), (6, .methodref 34 86), (0, .nameAndType 87 88), (0, u "isEmpty"), (0, u "()Z"), (0, .methodref 34 90), (0, .nameAndType 91 92), (0, u "charAt"), (0, u "(I)C"), (0, .integer 65279), (11, u "BYTE_ORDER_MARK"), (0, u "C")] 10

def k8m0 : Method := { name := "<init>", desc := "()V", sig := { parameters := [], returnType := none }, accessFlags := 2, code := none }
def k8c1 : Code := { maxStack := 2, maxLocals := 1, code := prog_2_method_4_code, exceptionTable := #[], attributes := #[] }
def k8m1 : Method := { name := "byteOrderMarkLength", desc := "(Ljava/lang/String;)I", sig := { parameters := [(.object "java/lang/String")], returnType := some .int }, accessFlags := 8, code := some k8c1 }
/-- com/example/adder/adder/Checksum -/
def k8 : Class := { plain "com/example/adder/adder/Checksum" (some 0) with
  accessFlags := 49
  interfaces := #[]
  cf := some (fileOf pool8 16 #[] #[{ accessFlags := 2, nameIndex := 5, descriptorIndex := 6, attributes := #[] }, { accessFlags := 8, nameIndex := 19, descriptorIndex := 20, attributes := #[] }] 49 2 #[] #[{ accessFlags := 26, nameIndex := 105, descriptorIndex := 106, attributes := #[] }, { accessFlags := 26, nameIndex := 77, descriptorIndex := 78, attributes := #[] }])
  fields := #[{ name := "BYTE_ORDER_MARK", type := .char, accessFlags := 26, slot := 0, constantValue := 0 }, { name := "UTF8_BYTE_ORDER_MARK", type := (.array .byte), accessFlags := 26, slot := 1, constantValue := 0 }]
  methods := #[k8m0, k8m1]
  instanceTypes := #[]
  staticTypes := #[.char, (.array .byte)]
  resolved := Array.replicate 117 none
  statics := none }

def pool9 : Array CpInfo := pool [(3, .class_ 4), (0, u "java/lang/String"), (1, .class_ 8), (1, u "java/lang/Object"), (0, u "<init>"), (0, u "()V"), (0, .methodref 12 13), (0, .class_ 14), (0, .nameAndType 15 16), (0, u "java/lang/StringUTF16"), (0, u "newBytesLength"), (0, u "(I)I"), (3, .integer 1073741823), (23, .fieldref 12 45), (0, .nameAndType 46 47), (0, u "$assertionsDisabled"), (0, u "Z"), (0, .methodref 12 49), (0, .nameAndType 50 51), (0, u "length"), (0, u "([B)I"), (7, .fieldref 12 60), (0, .nameAndType 61 62), (0, u "HI_BYTE_SHIFT"), (0, u "I"), (0, .fieldref 12 64), (0, .nameAndType 65 62), (0, u "LO_BYTE_SHIFT"), (1, .methodref 12 68), (0, .nameAndType 69 70), (0, u "checkIndex"), (0, u "(I[B)V"), (0, .methodref 12 72), (0, .nameAndType 73 74), (0, u "getChar"), (0, u "([BI)C"), (32, .methodref 12 108), (0, .nameAndType 109 110), (0, u "newBytesFor"), (0, u "(I)[B"), (0, .methodref 12 112), (0, .nameAndType 113 114), (0, u "putChar"), (0, u "([BII)V"), (0, .methodref 12 116), (0, .nameAndType 117 118), (0, u "compress"), (0, u "([CI[BII)I"), (0, .methodref 12 120), (0, .nameAndType 121 122), (0, u "toBytes"), (0, u "([CII)[B"), (138, u "coderFromArrayLen"), (0, u "([BI)B"), (106, .class_ 371), (1, u "java/lang/StringUTF16$LinesSpliterator"), (20, u "charAt"), (21, .methodref 3 415), (0, .nameAndType 69 416), (0, u "(II)V"), (13, u "MAX_LENGTH"), (196, .class_ 628), (0, u "java/lang/StringUTF16$CodePointsSpliterator"), (0, .class_ 630), (0, u "java/lang/StringUTF16$CharsSpliterator")] 4

def k9m0 : Method := { name := "<init>", desc := "()V", sig := { parameters := [], returnType := none }, accessFlags := 0, code := none }
def k9c1 : Code := { maxStack := 1, maxLocals := 1, code := jdk_52_method_2_code, exceptionTable := #[], attributes := #[] }
def k9m1 : Method := { name := "newBytesFor", desc := "(I)[B", sig := { parameters := [.int], returnType := some (.array .byte) }, accessFlags := 9, code := some k9c1 }
def k9c2 : Code := { maxStack := 4, maxLocals := 1, code := jdk_52_method_3_code, exceptionTable := #[], attributes := #[] }
def k9m2 : Method := { name := "newBytesLength", desc := "(I)I", sig := { parameters := [.int], returnType := some .int }, accessFlags := 9, code := some k9c2 }
def k9c3 : Code := { maxStack := 4, maxLocals := 3, code := jdk_52_method_4_code, exceptionTable := #[], attributes := #[] }
def k9m3 : Method := { name := "putChar", desc := "([BII)V", sig := { parameters := [(.array .byte), .int, .int], returnType := none }, accessFlags := 8, code := some k9c3 }
def k9c4 : Code := { maxStack := 3, maxLocals := 2, code := jdk_52_method_5_code, exceptionTable := #[], attributes := #[] }
def k9m4 : Method := { name := "getChar", desc := "([BI)C", sig := { parameters := [(.array .byte), .int], returnType := some .char }, accessFlags := 8, code := some k9c4 }
def k9c5 : Code := { maxStack := 2, maxLocals := 1, code := jdk_52_method_6_code, exceptionTable := #[], attributes := #[] }
def k9m5 : Method := { name := "length", desc := "([B)I", sig := { parameters := [(.array .byte)], returnType := some .int }, accessFlags := 9, code := some k9c5 }
def k9c6 : Code := { maxStack := 4, maxLocals := 5, code := jdk_52_method_14_code, exceptionTable := #[], attributes := #[] }
def k9m6 : Method := { name := "toBytes", desc := "([CII)[B", sig := { parameters := [(.array .char), .int, .int], returnType := some (.array .byte) }, accessFlags := 9, code := some k9c6 }
def k9c7 : Code := { maxStack := 2, maxLocals := 2, code := jdk_52_method_15_code, exceptionTable := #[], attributes := #[] }
def k9m7 : Method := { name := "coderFromArrayLen", desc := "([BI)B", sig := { parameters := [(.array .byte), .int], returnType := some .byte }, accessFlags := 8, code := some k9c7 }
def k9c8 : Code := { maxStack := 5, maxLocals := 6, code := jdk_52_method_16_code, exceptionTable := #[], attributes := #[] }
def k9m8 : Method := { name := "compress", desc := "([CII)[B", sig := { parameters := [(.array .char), .int, .int], returnType := some (.array .byte) }, accessFlags := 9, code := some k9c8 }
def k9c9 : Code := { maxStack := 3, maxLocals := 7, code := jdk_52_method_21_code, exceptionTable := #[], attributes := #[] }
def k9m9 : Method := { name := "compress", desc := "([CI[BII)I", sig := { parameters := [(.array .char), .int, (.array .byte), .int, .int], returnType := some .int }, accessFlags := 9, code := some k9c9 }
def k9c10 : Code := { maxStack := 2, maxLocals := 2, code := jdk_52_method_83_code, exceptionTable := #[], attributes := #[] }
def k9m10 : Method := { name := "charAt", desc := "([BI)C", sig := { parameters := [(.array .byte), .int], returnType := some .char }, accessFlags := 9, code := some k9c10 }
def k9c11 : Code := { maxStack := 2, maxLocals := 2, code := jdk_52_method_91_code, exceptionTable := #[], attributes := #[] }
def k9m11 : Method := { name := "checkIndex", desc := "(I[B)V", sig := { parameters := [.int, (.array .byte)], returnType := none }, accessFlags := 9, code := some k9c11 }
/-- java/lang/StringUTF16 -/
def k9 : Class := { plain "java/lang/StringUTF16" (some 0) with
  accessFlags := 48
  interfaces := #[]
  cf := some (fileOf pool9 12 #[.nestMembers #[627, 629, 369]] #[{ accessFlags := 0, nameIndex := 9, descriptorIndex := 10, attributes := #[] }, { accessFlags := 9, nameIndex := 109, descriptorIndex := 110, attributes := #[] }, { accessFlags := 9, nameIndex := 15, descriptorIndex := 16, attributes := #[] }, { accessFlags := 8, nameIndex := 113, descriptorIndex := 114, attributes := #[] }, { accessFlags := 8, nameIndex := 73, descriptorIndex := 74, attributes := #[] }, { accessFlags := 9, nameIndex := 50, descriptorIndex := 51, attributes := #[] }, { accessFlags := 9, nameIndex := 121, descriptorIndex := 122, attributes := #[] }, { accessFlags := 8, nameIndex := 261, descriptorIndex := 262, attributes := #[] }, { accessFlags := 9, nameIndex := 117, descriptorIndex := 122, attributes := #[] }, { accessFlags := 9, nameIndex := 117, descriptorIndex := 118, attributes := #[] }, { accessFlags := 9, nameIndex := 392, descriptorIndex := 74, attributes := #[] }, { accessFlags := 9, nameIndex := 69, descriptorIndex := 70, attributes := #[] }] 48 6 #[] #[{ accessFlags := 26, nameIndex := 61, descriptorIndex := 62, attributes := #[] }, { accessFlags := 26, nameIndex := 65, descriptorIndex := 62, attributes := #[] }, { accessFlags := 24, nameIndex := 430, descriptorIndex := 62, attributes := #[] }, { accessFlags := 4120, nameIndex := 46, descriptorIndex := 47, attributes := #[] }])
  fields := #[{ name := "HI_BYTE_SHIFT", type := .int, accessFlags := 26, slot := 0, constantValue := 0 }, { name := "LO_BYTE_SHIFT", type := .int, accessFlags := 26, slot := 1, constantValue := 0 }, { name := "MAX_LENGTH", type := .int, accessFlags := 24, slot := 2, constantValue := 0 }, { name := "$assertionsDisabled", type := .boolean, accessFlags := 4120, slot := 3, constantValue := 0 }]
  methods := #[k9m0, k9m1, k9m2, k9m3, k9m4, k9m5, k9m6, k9m7, k9m8, k9m9, k9m10, k9m11]
  instanceTypes := #[]
  staticTypes := #[.int, .int, .int, .boolean]
  resolved := Array.replicate 635 none
  statics := some 1 }

def pool10 : Array CpInfo := pool [(2, .class_ 4), (1, u "java/lang/Object"), (0, u "<init>"), (0, u "()V"), (17, .class_ 26), (1, u "jdk/internal/util/Preconditions"), (6, u "checkIndex"), (21, .class_ 56), (0, u "jdk/internal/util/Preconditions$4"), (57, .class_ 115), (0, u "jdk/internal/util/Preconditions$1"), (7, u "SIOOBE_FORMATTER"), (0, u "Ljava/util/function/BiFunction;"), (0, .class_ 126), (0, u "jdk/internal/util/Preconditions$2"), (3, u "AIOOBE_FORMATTER"), (0, .class_ 132), (0, u "jdk/internal/util/Preconditions$3"), (3, u "IOOBE_FORMATTER"), (41, u "(IILjava/util/function/BiFunction;)I")] 15

def k10m0 : Method := { name := "<init>", desc := "()V", sig := { parameters := [], returnType := none }, accessFlags := 1, code := none }
def k10c1 : Code := { maxStack := 3, maxLocals := 3, code := jdk_41_method_11_code, exceptionTable := #[], attributes := #[] }
def k10m1 : Method := { name := "checkIndex", desc := "(IILjava/util/function/BiFunction;)I", sig := { parameters := [.int, .int, (.object "java/util/function/BiFunction")], returnType := some .int }, accessFlags := 9, code := some k10c1 }
/-- jdk/internal/util/Preconditions -/
def k10 : Class := { plain "jdk/internal/util/Preconditions" (some 0) with
  accessFlags := 33
  interfaces := #[]
  cf := some (fileOf pool10 24 #[.nestMembers #[55, 131, 125, 114]] #[{ accessFlags := 1, nameIndex := 5, descriptorIndex := 6, attributes := #[] }, { accessFlags := 9, nameIndex := 33, descriptorIndex := 178, attributes := #[] }] 33 2 #[] #[{ accessFlags := 25, nameIndex := 123, descriptorIndex := 124, attributes := #[] }, { accessFlags := 25, nameIndex := 130, descriptorIndex := 124, attributes := #[] }, { accessFlags := 25, nameIndex := 136, descriptorIndex := 124, attributes := #[] }])
  fields := #[{ name := "SIOOBE_FORMATTER", type := (.object "java/util/function/BiFunction"), accessFlags := 25, slot := 0, constantValue := 0 }, { name := "AIOOBE_FORMATTER", type := (.object "java/util/function/BiFunction"), accessFlags := 25, slot := 1, constantValue := 0 }, { name := "IOOBE_FORMATTER", type := (.object "java/util/function/BiFunction"), accessFlags := 25, slot := 2, constantValue := 0 }]
  methods := #[k10m0, k10m1]
  instanceTypes := #[]
  staticTypes := #[(.object "java/util/function/BiFunction"), (.object "java/util/function/BiFunction"), (.object "java/util/function/BiFunction")]
  resolved := Array.replicate 194 none
  statics := some 2 }

def pool11 : Array CpInfo := pool [(1, .class_ 2), (0, u "java/lang/String"), (1, .class_ 6), (1, u "java/lang/Object"), (0, u "<init>"), (0, u "()V"), (0, .methodref 1 10), (0, .nameAndType 11 12), (0, u "checkIndex"), (0, u "(II)V"), (1, .class_ 16), (1, u "java/lang/StringLatin1"), (36, u "([BI)C"), (67, u "$assertionsDisabled"), (0, u "Z"), (98, .class_ 223), (1, u "java/lang/StringLatin1$LinesSpliterator"), (28, u "charAt"), (137, .class_ 391), (0, u "java/lang/StringLatin1$CharsSpliterator")] 3

def k11m0 : Method := { name := "<init>", desc := "()V", sig := { parameters := [], returnType := none }, accessFlags := 0, code := none }
def k11c1 : Code := { maxStack := 2, maxLocals := 2, code := jdk_43_method_2_code, exceptionTable := #[], attributes := #[] }
def k11m1 : Method := { name := "charAt", desc := "([BI)C", sig := { parameters := [(.array .byte), .int], returnType := some .char }, accessFlags := 9, code := some k11c1 }
/-- java/lang/StringLatin1 -/
def k11 : Class := { plain "java/lang/StringLatin1" (some 0) with
  accessFlags := 48
  interfaces := #[]
  cf := some (fileOf pool11 14 #[.nestMembers #[390, 221]] #[{ accessFlags := 0, nameIndex := 7, descriptorIndex := 8, attributes := #[] }, { accessFlags := 9, nameIndex := 252, descriptorIndex := 53, attributes := #[] }] 48 4 #[] #[{ accessFlags := 4120, nameIndex := 121, descriptorIndex := 122, attributes := #[] }])
  fields := #[{ name := "$assertionsDisabled", type := .boolean, accessFlags := 4120, slot := 0, constantValue := 0 }]
  methods := #[k11m0, k11m1]
  instanceTypes := #[]
  staticTypes := #[.boolean]
  resolved := Array.replicate 395 none
  statics := none }

def pool12 : Array CpInfo := pool [(9, u "<init>"), (6, .class_ 18), (1, u "java/lang/Object"), (0, u "()V"), (1, .class_ 23), (1, u "jdk/internal/util/ArraysSupport"), (0, u "LOG2_ARRAY_LONG_INDEX_SCALE"), (0, u "I"), (2, u "U"), (0, u "Ljdk/internal/misc/Unsafe;"), (8, u "BIG_ENDIAN"), (0, u "Z"), (8, u "LOG2_BYTE_BIT_SIZE"), (4, u "LOG2_ARRAY_INT_INDEX_SCALE"), (54, u "JLA"), (0, u "Ljdk/internal/access/JavaLangAccess;"), (11, u "LOG2_ARRAY_BOOLEAN_INDEX_SCALE"), (9, u "LOG2_ARRAY_BYTE_INDEX_SCALE"), (5, u "LOG2_ARRAY_CHAR_INDEX_SCALE"), (5, u "LOG2_ARRAY_SHORT_INDEX_SCALE"), (18, u "LOG2_ARRAY_FLOAT_INDEX_SCALE"), (24, u "LOG2_ARRAY_DOUBLE_INDEX_SCALE"), (89, u "T_BOOLEAN"), (2, u "T_CHAR"), (1, u "T_FLOAT"), (1, u "T_DOUBLE"), (1, u "T_BYTE"), (1, u "T_SHORT"), (1, u "T_INT"), (1, u "T_LONG"), (1, u "SOFT_MAX_ARRAY_LENGTH")] 83

def k12m0 : Method := { name := "<init>", desc := "()V", sig := { parameters := [], returnType := none }, accessFlags := 2, code := none }
/-- jdk/internal/util/ArraysSupport -/
def k12 : Class := { plain "jdk/internal/util/ArraysSupport" (some 0) with
  accessFlags := 33
  interfaces := #[]
  cf := some (fileOf pool12 21 #[] #[{ accessFlags := 2, nameIndex := 9, descriptorIndex := 19, attributes := #[] }] 33 16 #[] #[{ accessFlags := 24, nameIndex := 28, descriptorIndex := 29, attributes := #[] }, { accessFlags := 26, nameIndex := 38, descriptorIndex := 39, attributes := #[] }, { accessFlags := 25, nameIndex := 121, descriptorIndex := 25, attributes := #[] }, { accessFlags := 25, nameIndex := 131, descriptorIndex := 25, attributes := #[] }, { accessFlags := 25, nameIndex := 137, descriptorIndex := 25, attributes := #[] }, { accessFlags := 25, nameIndex := 143, descriptorIndex := 25, attributes := #[] }, { accessFlags := 25, nameIndex := 53, descriptorIndex := 25, attributes := #[] }, { accessFlags := 25, nameIndex := 24, descriptorIndex := 25, attributes := #[] }, { accessFlags := 25, nameIndex := 162, descriptorIndex := 25, attributes := #[] }, { accessFlags := 25, nameIndex := 187, descriptorIndex := 25, attributes := #[] }, { accessFlags := 26, nameIndex := 48, descriptorIndex := 25, attributes := #[] }, { accessFlags := 25, nameIndex := 277, descriptorIndex := 25, attributes := #[] }, { accessFlags := 25, nameIndex := 280, descriptorIndex := 25, attributes := #[] }, { accessFlags := 25, nameIndex := 282, descriptorIndex := 25, attributes := #[] }, { accessFlags := 25, nameIndex := 284, descriptorIndex := 25, attributes := #[] }, { accessFlags := 25, nameIndex := 286, descriptorIndex := 25, attributes := #[] }, { accessFlags := 25, nameIndex := 288, descriptorIndex := 25, attributes := #[] }, { accessFlags := 25, nameIndex := 290, descriptorIndex := 25, attributes := #[] }, { accessFlags := 25, nameIndex := 292, descriptorIndex := 25, attributes := #[] }, { accessFlags := 26, nameIndex := 108, descriptorIndex := 109, attributes := #[] }, { accessFlags := 25, nameIndex := 294, descriptorIndex := 25, attributes := #[] }])
  fields := #[{ name := "U", type := (.object "jdk/internal/misc/Unsafe"), accessFlags := 24, slot := 0, constantValue := 0 }, { name := "BIG_ENDIAN", type := .boolean, accessFlags := 26, slot := 1, constantValue := 0 }, { name := "LOG2_ARRAY_BOOLEAN_INDEX_SCALE", type := .int, accessFlags := 25, slot := 2, constantValue := 0 }, { name := "LOG2_ARRAY_BYTE_INDEX_SCALE", type := .int, accessFlags := 25, slot := 3, constantValue := 0 }, { name := "LOG2_ARRAY_CHAR_INDEX_SCALE", type := .int, accessFlags := 25, slot := 4, constantValue := 0 }, { name := "LOG2_ARRAY_SHORT_INDEX_SCALE", type := .int, accessFlags := 25, slot := 5, constantValue := 0 }, { name := "LOG2_ARRAY_INT_INDEX_SCALE", type := .int, accessFlags := 25, slot := 6, constantValue := 0 }, { name := "LOG2_ARRAY_LONG_INDEX_SCALE", type := .int, accessFlags := 25, slot := 7, constantValue := 0 }, { name := "LOG2_ARRAY_FLOAT_INDEX_SCALE", type := .int, accessFlags := 25, slot := 8, constantValue := 0 }, { name := "LOG2_ARRAY_DOUBLE_INDEX_SCALE", type := .int, accessFlags := 25, slot := 9, constantValue := 0 }, { name := "LOG2_BYTE_BIT_SIZE", type := .int, accessFlags := 26, slot := 10, constantValue := 0 }, { name := "T_BOOLEAN", type := .int, accessFlags := 25, slot := 11, constantValue := 0 }, { name := "T_CHAR", type := .int, accessFlags := 25, slot := 12, constantValue := 0 }, { name := "T_FLOAT", type := .int, accessFlags := 25, slot := 13, constantValue := 0 }, { name := "T_DOUBLE", type := .int, accessFlags := 25, slot := 14, constantValue := 0 }, { name := "T_BYTE", type := .int, accessFlags := 25, slot := 15, constantValue := 0 }, { name := "T_SHORT", type := .int, accessFlags := 25, slot := 16, constantValue := 0 }, { name := "T_INT", type := .int, accessFlags := 25, slot := 17, constantValue := 0 }, { name := "T_LONG", type := .int, accessFlags := 25, slot := 18, constantValue := 0 }, { name := "JLA", type := (.object "jdk/internal/access/JavaLangAccess"), accessFlags := 26, slot := 19, constantValue := 0 }, { name := "SOFT_MAX_ARRAY_LENGTH", type := .int, accessFlags := 25, slot := 20, constantValue := 0 }]
  methods := #[k12m0]
  instanceTypes := #[]
  staticTypes := #[(.object "jdk/internal/misc/Unsafe"), .boolean, .int, .int, .int, .int, .int, .int, .int, .int, .int, .int, .int, .int, .int, .int, .int, .int, .int, (.object "jdk/internal/access/JavaLangAccess"), .int]
  resolved := Array.replicate 378 none
  statics := none }

def pool13 : Array CpInfo := pool [(1, u "java/lang/Cloneable"), (0, .class_ 1), (0, u "java/lang/Object"), (0, .class_ 3)] 3

/-- java/lang/Cloneable -/
def k13 : Class := { plain "java/lang/Cloneable" (some 0) with
  accessFlags := 1537
  interfaces := #[]
  cf := some (fileOf pool13 2 #[] #[] 1537 4 #[] #[])
  fields := #[]
  methods := #[]
  instanceTypes := #[]
  staticTypes := #[]
  resolved := Array.replicate 8 none
  statics := none }

/-- the primitive byte -/
def k14 : Class := { plain "byte" none with kind := .primitive 'B', accessFlags := 0x411 }
/-- [B -/
def k15 : Class := { plain "[B" (some 0) with kind := .array 14 .byte, interfaces := #[13, 2], accessFlags := 1041 }

/-- the primitive char -/
def k16 : Class := { plain "char" none with kind := .primitive 'C', accessFlags := 0x411 }
/-- [C -/
def k17 : Class := { plain "[C" (some 0) with kind := .array 16 .char, interfaces := #[13, 2], accessFlags := 1041 }

/-- the primitive int -/
def k18 : Class := { plain "int" none with kind := .primitive 'I', accessFlags := 0x411 }
/-- [I -/
def k19 : Class := { plain "[I" (some 0) with kind := .array 18 .int, interfaces := #[13, 2], accessFlags := 1041 }

def heap : Heap := #[{ cls := 7, slots := #[.long 0, .int 1, .null, .int 0, .null, .int 0, .int 0], vm := .statics 7 },
  { cls := 9, slots := #[.int 0, .int 8, .int 0, .int 1], vm := .statics 9 },
  { cls := 10, slots := #[.null, .null, .null], vm := .statics 10 }]
def classes : Array Class := #[k0, k1, k2, k3, k4, k5, k6, k7, k8, k9, k10, k11, k12, k13, k14, k15, k16, k17, k18, k19]
def interned : List (Array UInt16 × Addr) := []
def slotsUsed : Nat := 14
def theMethod : MethodId := ⟨1, 2⟩
def args0 : Array Value := #[.int 5, .int 6, .int 7, .int 8]
def aboutOver (below : List Frame) : State where
  vm := { classes := classes, interned := interned.toArray }
  heap := heap
  slotsUsed := slotsUsed
  threads := #[{ frames := .invoking theMethod args0 :: below }]
def below0 : List Frame := [.native { method := ⟨0, 0⟩, args := #[] }]
def about1 : State := aboutOver below0
def p0 : Program := .bare "" "" ""
def e0 : Env := launch0.env 0 0 0
theorem w_frames : about1.frames = Frame.invoking theMethod args0 :: below0 := rfl
set_option maxRecDepth 65536 in
theorem w_args : argsFit about1.vm theMethod args0 = true := by decide +kernel
set_option maxRecDepth 65536 in
theorem w_heap : heapFits about1 = true := by decide +kernel
set_option maxRecDepth 65536 in
theorem w_runnable : about1.curStatus? = some .runnable := by decide +kernel
set_option maxRecDepth 65536 in
theorem w_alone : about1.alone = true := by decide +kernel
set_option maxRecDepth 65536 in
theorem w_named : about1.methodNamed? x = some theMethod := by decide +kernel
set_option maxRecDepth 65536 in
theorem w_hears : about1.hears theMethod below0 = true := by decide +kernel
set_option maxRecDepth 65536 in
theorem w_ripe : about1.ripe theMethod args0 below0 = true := by decide +kernel
theorem w_running : about1.status = .running := rfl
set_option maxRecDepth 65536 in
theorem w_room : about1.hasRoom e0.platform room_1 = true :=
  launch0.hasRoom_least _ room_1 (by decide +kernel) (by decide +kernel) (by decide +kernel) (by decide +kernel) (by decide +kernel) (by decide +kernel)
theorem allAtoms_all (ts : List Jvm.Cond) (a : Array Jvm.Value) (st : Jvm.State) : (allAtoms ts).before a st = ts.all (fun c => c.before a st) := by
  induction ts with
  | nil => rfl
  | cons c t ih =>
    show (Jvm.Cond.and c (allAtoms t)).before a st = _
    rw [Jvm.Cond.before_and, ih, List.all_cons]
def words1 : List Jvm.Cond := Jvm.Cond.code x code maxLocals ret :: tables_1
/-- a 'code' word, met by the world's own term for the bytes: nothing is compared byte by byte -/
theorem code_word {y : MethodName} {bytes : ByteArray} {mx : Nat} {rt : Option FieldType} {a : Array Value} {s : State} {m : MethodId} {meth : Method} {c : Code} (h1 : s.methodNamed? y = some m) (h2 : s.vm.method? m = some meth) (h3 : meth.code = some c) (h4 : c.code = bytes)
    (h5 : (c.maxLocals == mx && c.exceptionTable.isEmpty && decide (c.maxStack ≤ mostOperands) && decide (meth.sig.returnType = rt) && !meth.locks && decide (parseMethodDescriptor y.desc = some meth.sig)) = true) : (Jvm.Cond.code y bytes mx rt).before a s = true := by
  simp only [Bool.and_eq_true, beq_iff_eq, Bool.not_eq_true', decide_eq_true_eq] at h5
  obtain ⟨⟨⟨⟨⟨g1, g2⟩, g3⟩, g4⟩, g5⟩, g6⟩ := h5
  simp [Cond.before, Cond.holds, Cond.value, h1, h2, h3, h4, g1, g2, g3, g4, g5, g6]
def isCode : Jvm.Cond → Bool
  | .code _ _ _ _ => true
  | _ => false
theorem all_split {L : List Jvm.Cond} {P : Jvm.Cond → Bool} (h1 : L.all (fun c => isCode c || P c) = true) (h2 : ∀ c ∈ L.filter isCode, P c = true) : L.all P = true := by
  refine List.all_eq_true.mpr fun c hc => ?_
  have h := List.all_eq_true.mp h1 c hc
  rcases Bool.eq_false_or_eq_true (isCode c) with hi | hi
  · exact h2 c (List.mem_filter.mpr ⟨hc, hi⟩)
  · simpa [hi] using h
set_option maxRecDepth 65536 in
theorem w_c0 : (Jvm.Cond.code x code maxLocals ret).before args0 about1 = true := code_word (m := ⟨1, 2⟩) (meth := k1m2) (c := k1c2) (by decide +kernel) rfl rfl rfl (by decide +kernel)
set_option maxRecDepth 65536 in
theorem w_c1 : (Jvm.Cond.code ({ cls := "com/example/adder/adder/ChecksumByteOrderMarkLengthPinLaw", name := "pick", desc := "(I)C" } : Jvm.MethodName) method_2_code (1 : Nat) (Option.some Jvm.ClassFile.FieldType.char)).before args0 about1 = true := code_word (m := ⟨1, 1⟩) (meth := k1m1) (c := k1c1) (by decide +kernel) rfl rfl rfl (by decide +kernel)
set_option maxRecDepth 65536 in
theorem w_c2 : (Jvm.Cond.code ({ cls := "java/lang/String", name := "<init>", desc := "([C)V" } : Jvm.MethodName) jdk_42_method_3_code (2 : Nat) (Option.none : Option Jvm.ClassFile.FieldType)).before args0 about1 = true := code_word (m := ⟨7, 1⟩) (meth := k7m1) (c := k7c1) (by decide +kernel) rfl rfl rfl (by decide +kernel)
set_option maxRecDepth 65536 in
theorem w_c3 : (Jvm.Cond.code ({ cls := "java/lang/String", name := "<init>", desc := "([CIILjava/lang/Void;)V" } : Jvm.MethodName) jdk_42_method_149_code (6 : Nat) (Option.none : Option Jvm.ClassFile.FieldType)).before args0 about1 = true := code_word (m := ⟨7, 4⟩) (meth := k7m4) (c := k7c4) (by decide +kernel) rfl rfl rfl (by decide +kernel)
set_option maxRecDepth 65536 in
theorem w_c4 : (Jvm.Cond.code ({ cls := "java/lang/Object", name := "<init>", desc := "()V" } : Jvm.MethodName) object_method_1_code (1 : Nat) (Option.none : Option Jvm.ClassFile.FieldType)).before args0 about1 = true := code_word (m := ⟨0, 0⟩) (meth := k0m0) (c := k0c0) (by decide +kernel) rfl rfl rfl (by decide +kernel)
set_option maxRecDepth 65536 in
theorem w_c5 : (Jvm.Cond.code ({ cls := "com/example/adder/adder/Checksum", name := "byteOrderMarkLength", desc := "(Ljava/lang/String;)I" } : Jvm.MethodName) prog_2_method_4_code (1 : Nat) (Option.some Jvm.ClassFile.FieldType.int)).before args0 about1 = true := code_word (m := ⟨8, 1⟩) (meth := k8m1) (c := k8c1) (by decide +kernel) rfl rfl rfl (by decide +kernel)
set_option maxRecDepth 65536 in
theorem w_c6 : (Jvm.Cond.code ({ cls := "java/lang/String", name := "isEmpty", desc := "()Z" } : Jvm.MethodName) jdk_42_method_55_code (1 : Nat) (Option.some Jvm.ClassFile.FieldType.boolean)).before args0 about1 = true := code_word (m := ⟨7, 2⟩) (meth := k7m2) (c := k7c2) (by decide +kernel) rfl rfl rfl (by decide +kernel)
set_option maxRecDepth 65536 in
theorem w_c7 : (Jvm.Cond.code ({ cls := "java/lang/StringUTF16", name := "compress", desc := "([CII)[B" } : Jvm.MethodName) jdk_52_method_16_code (6 : Nat) (Option.some (Jvm.ClassFile.FieldType.array Jvm.ClassFile.FieldType.byte))).before args0 about1 = true := code_word (m := ⟨9, 8⟩) (meth := k9m8) (c := k9c8) (by decide +kernel) rfl rfl rfl (by decide +kernel)
set_option maxRecDepth 65536 in
theorem w_c8 : (Jvm.Cond.code ({ cls := "java/lang/StringUTF16", name := "compress", desc := "([CI[BII)I" } : Jvm.MethodName) jdk_52_method_21_code (7 : Nat) (Option.some Jvm.ClassFile.FieldType.int)).before args0 about1 = true := code_word (m := ⟨9, 9⟩) (meth := k9m9) (c := k9c9) (by decide +kernel) rfl rfl rfl (by decide +kernel)
set_option maxRecDepth 65536 in
theorem w_c9 : (Jvm.Cond.code ({ cls := "java/lang/StringUTF16", name := "toBytes", desc := "([CII)[B" } : Jvm.MethodName) jdk_52_method_14_code (5 : Nat) (Option.some (Jvm.ClassFile.FieldType.array Jvm.ClassFile.FieldType.byte))).before args0 about1 = true := code_word (m := ⟨9, 6⟩) (meth := k9m6) (c := k9c6) (by decide +kernel) rfl rfl rfl (by decide +kernel)
set_option maxRecDepth 65536 in
theorem w_c10 : (Jvm.Cond.code ({ cls := "java/lang/StringUTF16", name := "newBytesFor", desc := "(I)[B" } : Jvm.MethodName) jdk_52_method_2_code (1 : Nat) (Option.some (Jvm.ClassFile.FieldType.array Jvm.ClassFile.FieldType.byte))).before args0 about1 = true := code_word (m := ⟨9, 1⟩) (meth := k9m1) (c := k9c1) (by decide +kernel) rfl rfl rfl (by decide +kernel)
set_option maxRecDepth 65536 in
theorem w_c11 : (Jvm.Cond.code ({ cls := "java/lang/StringUTF16", name := "newBytesLength", desc := "(I)I" } : Jvm.MethodName) jdk_52_method_3_code (1 : Nat) (Option.some Jvm.ClassFile.FieldType.int)).before args0 about1 = true := code_word (m := ⟨9, 2⟩) (meth := k9m2) (c := k9c2) (by decide +kernel) rfl rfl rfl (by decide +kernel)
set_option maxRecDepth 65536 in
theorem w_c12 : (Jvm.Cond.code ({ cls := "java/lang/StringUTF16", name := "putChar", desc := "([BII)V" } : Jvm.MethodName) jdk_52_method_4_code (3 : Nat) (Option.none : Option Jvm.ClassFile.FieldType)).before args0 about1 = true := code_word (m := ⟨9, 3⟩) (meth := k9m3) (c := k9c3) (by decide +kernel) rfl rfl rfl (by decide +kernel)
set_option maxRecDepth 65536 in
theorem w_c13 : (Jvm.Cond.code ({ cls := "java/lang/StringUTF16", name := "getChar", desc := "([BI)C" } : Jvm.MethodName) jdk_52_method_5_code (2 : Nat) (Option.some Jvm.ClassFile.FieldType.char)).before args0 about1 = true := code_word (m := ⟨9, 4⟩) (meth := k9m4) (c := k9c4) (by decide +kernel) rfl rfl rfl (by decide +kernel)
set_option maxRecDepth 65536 in
theorem w_c14 : (Jvm.Cond.code ({ cls := "java/lang/StringUTF16", name := "coderFromArrayLen", desc := "([BI)B" } : Jvm.MethodName) jdk_52_method_15_code (2 : Nat) (Option.some Jvm.ClassFile.FieldType.byte)).before args0 about1 = true := code_word (m := ⟨9, 7⟩) (meth := k9m7) (c := k9c7) (by decide +kernel) rfl rfl rfl (by decide +kernel)
set_option maxRecDepth 65536 in
theorem w_c15 : (Jvm.Cond.code ({ cls := "java/lang/String", name := "charAt", desc := "(I)C" } : Jvm.MethodName) jdk_42_method_56_code (2 : Nat) (Option.some Jvm.ClassFile.FieldType.char)).before args0 about1 = true := code_word (m := ⟨7, 3⟩) (meth := k7m3) (c := k7c3) (by decide +kernel) rfl rfl rfl (by decide +kernel)
set_option maxRecDepth 65536 in
theorem w_c16 : (Jvm.Cond.code ({ cls := "java/lang/String", name := "isLatin1", desc := "()Z" } : Jvm.MethodName) jdk_42_method_154_code (1 : Nat) (Option.some Jvm.ClassFile.FieldType.boolean)).before args0 about1 = true := code_word (m := ⟨7, 5⟩) (meth := k7m5) (c := k7c5) (by decide +kernel) rfl rfl rfl (by decide +kernel)
set_option maxRecDepth 65536 in
theorem w_c17 : (Jvm.Cond.code ({ cls := "java/lang/StringUTF16", name := "charAt", desc := "([BI)C" } : Jvm.MethodName) jdk_52_method_83_code (2 : Nat) (Option.some Jvm.ClassFile.FieldType.char)).before args0 about1 = true := code_word (m := ⟨9, 10⟩) (meth := k9m10) (c := k9c10) (by decide +kernel) rfl rfl rfl (by decide +kernel)
set_option maxRecDepth 65536 in
theorem w_c18 : (Jvm.Cond.code ({ cls := "java/lang/StringUTF16", name := "checkIndex", desc := "(I[B)V" } : Jvm.MethodName) jdk_52_method_91_code (2 : Nat) (Option.none : Option Jvm.ClassFile.FieldType)).before args0 about1 = true := code_word (m := ⟨9, 11⟩) (meth := k9m11) (c := k9c11) (by decide +kernel) rfl rfl rfl (by decide +kernel)
set_option maxRecDepth 65536 in
theorem w_c19 : (Jvm.Cond.code ({ cls := "java/lang/StringUTF16", name := "length", desc := "([B)I" } : Jvm.MethodName) jdk_52_method_6_code (1 : Nat) (Option.some Jvm.ClassFile.FieldType.int)).before args0 about1 = true := code_word (m := ⟨9, 5⟩) (meth := k9m5) (c := k9c5) (by decide +kernel) rfl rfl rfl (by decide +kernel)
set_option maxRecDepth 65536 in
theorem w_c20 : (Jvm.Cond.code ({ cls := "java/lang/String", name := "checkIndex", desc := "(II)V" } : Jvm.MethodName) jdk_42_method_155_code (2 : Nat) (Option.none : Option Jvm.ClassFile.FieldType)).before args0 about1 = true := code_word (m := ⟨7, 6⟩) (meth := k7m6) (c := k7c6) (by decide +kernel) rfl rfl rfl (by decide +kernel)
set_option maxRecDepth 65536 in
theorem w_c21 : (Jvm.Cond.code ({ cls := "jdk/internal/util/Preconditions", name := "checkIndex", desc := "(IILjava/util/function/BiFunction;)I" } : Jvm.MethodName) jdk_41_method_11_code (3 : Nat) (Option.some Jvm.ClassFile.FieldType.int)).before args0 about1 = true := code_word (m := ⟨10, 1⟩) (meth := k10m1) (c := k10c1) (by decide +kernel) rfl rfl rfl (by decide +kernel)
set_option maxRecDepth 65536 in
theorem w_c22 : (Jvm.Cond.code ({ cls := "java/lang/StringLatin1", name := "charAt", desc := "([BI)C" } : Jvm.MethodName) jdk_43_method_2_code (2 : Nat) (Option.some Jvm.ClassFile.FieldType.char)).before args0 about1 = true := code_word (m := ⟨11, 1⟩) (meth := k11m1) (c := k11c1) (by decide +kernel) rfl rfl rfl (by decide +kernel)
def codes1 : List Jvm.Cond := [Jvm.Cond.code x code maxLocals ret, Jvm.Cond.code ({ cls := "com/example/adder/adder/ChecksumByteOrderMarkLengthPinLaw", name := "pick", desc := "(I)C" } : Jvm.MethodName) method_2_code (1 : Nat) (Option.some Jvm.ClassFile.FieldType.char), Jvm.Cond.code ({ cls := "java/lang/String", name := "<init>", desc := "([C)V" } : Jvm.MethodName) jdk_42_method_3_code (2 : Nat) (Option.none : Option Jvm.ClassFile.FieldType), Jvm.Cond.code ({ cls := "java/lang/String", name := "<init>", desc := "([CIILjava/lang/Void;)V" } : Jvm.MethodName) jdk_42_method_149_code (6 : Nat) (Option.none : Option Jvm.ClassFile.FieldType), Jvm.Cond.code ({ cls := "java/lang/Object", name := "<init>", desc := "()V" } : Jvm.MethodName) object_method_1_code (1 : Nat) (Option.none : Option Jvm.ClassFile.FieldType), Jvm.Cond.code ({ cls := "com/example/adder/adder/Checksum", name := "byteOrderMarkLength", desc := "(Ljava/lang/String;)I" } : Jvm.MethodName) prog_2_method_4_code (1 : Nat) (Option.some Jvm.ClassFile.FieldType.int), Jvm.Cond.code ({ cls := "java/lang/String", name := "isEmpty", desc := "()Z" } : Jvm.MethodName) jdk_42_method_55_code (1 : Nat) (Option.some Jvm.ClassFile.FieldType.boolean), Jvm.Cond.code ({ cls := "java/lang/StringUTF16", name := "compress", desc := "([CII)[B" } : Jvm.MethodName) jdk_52_method_16_code (6 : Nat) (Option.some (Jvm.ClassFile.FieldType.array Jvm.ClassFile.FieldType.byte)), Jvm.Cond.code ({ cls := "java/lang/StringUTF16", name := "compress", desc := "([CI[BII)I" } : Jvm.MethodName) jdk_52_method_21_code (7 : Nat) (Option.some Jvm.ClassFile.FieldType.int), Jvm.Cond.code ({ cls := "java/lang/StringUTF16", name := "toBytes", desc := "([CII)[B" } : Jvm.MethodName) jdk_52_method_14_code (5 : Nat) (Option.some (Jvm.ClassFile.FieldType.array Jvm.ClassFile.FieldType.byte)), Jvm.Cond.code ({ cls := "java/lang/StringUTF16", name := "newBytesFor", desc := "(I)[B" } : Jvm.MethodName) jdk_52_method_2_code (1 : Nat) (Option.some (Jvm.ClassFile.FieldType.array Jvm.ClassFile.FieldType.byte)), Jvm.Cond.code ({ cls := "java/lang/StringUTF16", name := "newBytesLength", desc := "(I)I" } : Jvm.MethodName) jdk_52_method_3_code (1 : Nat) (Option.some Jvm.ClassFile.FieldType.int), Jvm.Cond.code ({ cls := "java/lang/StringUTF16", name := "putChar", desc := "([BII)V" } : Jvm.MethodName) jdk_52_method_4_code (3 : Nat) (Option.none : Option Jvm.ClassFile.FieldType), Jvm.Cond.code ({ cls := "java/lang/StringUTF16", name := "getChar", desc := "([BI)C" } : Jvm.MethodName) jdk_52_method_5_code (2 : Nat) (Option.some Jvm.ClassFile.FieldType.char), Jvm.Cond.code ({ cls := "java/lang/StringUTF16", name := "coderFromArrayLen", desc := "([BI)B" } : Jvm.MethodName) jdk_52_method_15_code (2 : Nat) (Option.some Jvm.ClassFile.FieldType.byte), Jvm.Cond.code ({ cls := "java/lang/String", name := "charAt", desc := "(I)C" } : Jvm.MethodName) jdk_42_method_56_code (2 : Nat) (Option.some Jvm.ClassFile.FieldType.char), Jvm.Cond.code ({ cls := "java/lang/String", name := "isLatin1", desc := "()Z" } : Jvm.MethodName) jdk_42_method_154_code (1 : Nat) (Option.some Jvm.ClassFile.FieldType.boolean), Jvm.Cond.code ({ cls := "java/lang/StringUTF16", name := "charAt", desc := "([BI)C" } : Jvm.MethodName) jdk_52_method_83_code (2 : Nat) (Option.some Jvm.ClassFile.FieldType.char), Jvm.Cond.code ({ cls := "java/lang/StringUTF16", name := "checkIndex", desc := "(I[B)V" } : Jvm.MethodName) jdk_52_method_91_code (2 : Nat) (Option.none : Option Jvm.ClassFile.FieldType), Jvm.Cond.code ({ cls := "java/lang/StringUTF16", name := "length", desc := "([B)I" } : Jvm.MethodName) jdk_52_method_6_code (1 : Nat) (Option.some Jvm.ClassFile.FieldType.int), Jvm.Cond.code ({ cls := "java/lang/String", name := "checkIndex", desc := "(II)V" } : Jvm.MethodName) jdk_42_method_155_code (2 : Nat) (Option.none : Option Jvm.ClassFile.FieldType), Jvm.Cond.code ({ cls := "jdk/internal/util/Preconditions", name := "checkIndex", desc := "(IILjava/util/function/BiFunction;)I" } : Jvm.MethodName) jdk_41_method_11_code (3 : Nat) (Option.some Jvm.ClassFile.FieldType.int), Jvm.Cond.code ({ cls := "java/lang/StringLatin1", name := "charAt", desc := "([BI)C" } : Jvm.MethodName) jdk_43_method_2_code (2 : Nat) (Option.some Jvm.ClassFile.FieldType.char)]
set_option maxRecDepth 65536 in
theorem codes_eq : words1.filter isCode = codes1 := rfl
theorem w_codes : ∀ c ∈ words1.filter isCode, c.before args0 about1 = true := by
  rw [codes_eq]
  intro c hc
  simp only [codes1, List.mem_cons, List.not_mem_nil, or_false] at hc
  rcases hc with rfl | rfl | rfl | rfl | rfl | rfl | rfl | rfl | rfl | rfl | rfl | rfl | rfl | rfl | rfl | rfl | rfl | rfl | rfl | rfl | rfl | rfl | rfl
  · exact w_c0
  · exact w_c1
  · exact w_c2
  · exact w_c3
  · exact w_c4
  · exact w_c5
  · exact w_c6
  · exact w_c7
  · exact w_c8
  · exact w_c9
  · exact w_c10
  · exact w_c11
  · exact w_c12
  · exact w_c13
  · exact w_c14
  · exact w_c15
  · exact w_c16
  · exact w_c17
  · exact w_c18
  · exact w_c19
  · exact w_c20
  · exact w_c21
  · exact w_c22
set_option maxRecDepth 65536 in
theorem w_t1 : (words1.take 24).all (fun c => isCode c || c.before args0 about1) = true := by decide +kernel
set_option maxRecDepth 65536 in
theorem w_t2 : ((words1.drop 24).take 24).all (fun c => isCode c || c.before args0 about1) = true := by decide +kernel
set_option maxRecDepth 65536 in
theorem w_t3 : (((words1.drop 24).drop 24).take 24).all (fun c => isCode c || c.before args0 about1) = true := by decide +kernel
set_option maxRecDepth 65536 in
theorem w_t4 : ((((words1.drop 24).drop 24).drop 24).take 24).all (fun c => isCode c || c.before args0 about1) = true := by decide +kernel
set_option maxRecDepth 65536 in
theorem w_t5 : ((((words1.drop 24).drop 24).drop 24).drop 24).all (fun c => isCode c || c.before args0 about1) = true := by decide +kernel
theorem w_tables : (allAtoms (Jvm.Cond.code x code maxLocals ret :: tables_1)).before args0 about1 = true := by
  rw [allAtoms_all]
  show words1.all (fun c => c.before args0 about1) = true
  refine all_split ?_ w_codes
  rw [← List.take_append_drop 24 words1, List.all_append, w_t1, ← List.take_append_drop 24 (words1.drop 24), List.all_append, w_t2, ← List.take_append_drop 24 ((words1.drop 24).drop 24), List.all_append, w_t3, ← List.take_append_drop 24 (((words1.drop 24).drop 24).drop 24), List.all_append, w_t4, w_t5]
  rfl
set_option maxRecDepth 65536 in
theorem w_rest : rest_1_c.before args0 about1 = true := by decide +kernel
set_option maxRecDepth 65536 in
theorem w_case : (Jvm.Cond.and given_1 narrow_1).before args0 about1 = true := by decide +kernel
set_option maxRecDepth 65536 in
theorem w_consts : constsHeld consts_1 about1 := Jvm.Lit.constsHeldB_iff.mp (by decide +kernel)
theorem w_applies : (headSpec (Jvm.Cond.code x code maxLocals ret :: tables_1) room_1).applies x e0.platform about1 = true :=
  (Spec.applies_iff w_frames).mpr ⟨w_running, w_runnable, w_alone, w_named, w_hears, w_ripe, w_room, w_tables⟩
theorem atStart : AtStart classFile x code maxLocals ret World_1 tables_1 room_1 Calls_1 rest_1 Pre_1 launch0 p0 e0 about1 theMethod args0 below0 :=
  ⟨lists_1, trivial, launch0.admits_env _ _ _, launch0.least_env, fairChoices_fair.cas, fairChoices_fair.clock, w_frames, w_args, w_heap, w_applies, ⟨w_consts, trivial⟩, w_rest, w_case⟩
end start1
theorem witness_1 : WitnessClaimed_1 := ⟨start1.p0, start1.e0, start1.about1, start1.theMethod, start1.args0, start1.below0, start1.atStart⟩
end Jvm.Pilot.@@N@@
