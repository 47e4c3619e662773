import JvmDerived
import JvmDerived.Pilot.@@N@@Statement
import JvmDerived.Pilot.@@N@@Code
set_option linter.unusedVariables false
set_option linter.unusedSimpArgs false
namespace Jvm.Pilot.@@N@@
open Jvm Jvm.ClassFile Sem Op Lib Jvm.Free Jvm.Stand Jvm.LawKit Jvm.RoadKit Bundle Jvm.Pilot.@@N@@.Jvm.D
section Kit
variable {p : Program} {l : Launch} {e : Env} {R : Room} {s : State} {m : MethodId} {args : Array Value} {below : List Frame} {meth : Method} {c : Code} {T : State} {locs : List Loc} {cells slots : Nat} {Z : State} {a0 : Array Value} {h : Heap} {own nm : String} {bytes : ByteArray} {maxL : Nat} {rt : Option FieldType} {Q : Option Value → Heap → Prop} {ce sl : Nat} {En : Option Value → State → Prop} {pc : Nat} {Ls : Array Slot} {st : List Value}
/-- where a walk stands: the state T, its heap h; all that lay in the heap at the start Z is there unchanged, and all that was written is new -/
def Cx (p : Program) (l : Launch) (e : Env) (R : Room) (s : State) (m : MethodId) (args : Array Value) (below : List Frame) (meth : Method) (c : Code) (Z : State) (own nm : String) (bytes : ByteArray) (maxL : Nat) (rt : Option FieldType) (T : State) (locs : List Loc) (cells slots : Nat) (h : Heap) : Prop :=
  Stand p l e R s m args below meth c T locs cells slots ∧ p.tables.exec = Jvm.exec ∧ Z.Warmed39 s.vm ∧ s.vm.findClass own = some m.cls ∧ c.code = bytes ∧ c.maxLocals = maxL ∧ meth.sig.returnType = rt ∧ meth.name = nm ∧ meth.locks = false ∧ T.heap = h ∧ Fr Z.heap.size locs ∧ Ext Z.heap h
/-- from this frame the body comes to its end, and En holds of what it returns and of the state there -/
def Go (p : Program) (e : Env) (below : List Frame) (En : Option Value → State → Prop) (T : State) (m : MethodId) (pc : Nat) (Ls : Array Slot) (st : List Value) : Prop :=
  ∃ s₂ v, Steps p.tables e below (T.setTop (mkF m pc Ls st)) s₂ ∧ s₂.status = .running ∧ Ended s₂ below (.returned v) ∧ En v s₂
/-- a return of v from here: where it leads, and that En holds there -/
def Lv (e : Env) (below : List Frame) (En : Option Value → State → Prop) (T : State) (m : MethodId) (v : Option Value) : Prop :=
  ∃ fs, (∀ (f : JFrame) (acts : List Action), f.method = m → f.locked = none → f.entered = [] → (doReturn e (T.setTop f) acts v).1 = T.setFrames fs) ∧ (T.setFrames fs).status = .running ∧ Ended (T.setFrames fs) below (.returned v) ∧ En v (T.setFrames fs)
/-- the end of a body that interns nothing -/
def FinN (s Z : State) (Q : Option Value → Heap → Prop) (ce sl : Nat) : Option Value → State → Prop := fun v t => ∃ L, (Fr Z.heap.size L ∧ Ext Z.heap t.heap ∧ Q v t.heap) ∧ FrameEnd s (.returned v) t L ce sl
/-- the contract of a method called with the arguments as' over the heap h -/
def Ct (l : Launch) (Z : State) (ws : List Jvm.Cond) (y : MethodName) (bytes : ByteArray) (maxL : Nat) (rt : Option FieldType) (rm : Room) (as' : Array Value) (h : Heap) (Q : Option Value → Heap → Prop) : Prop :=
  Ext Z.heap h → MetFree l y (head1 (Jvm.Cond.code y bytes maxL rt :: ws) rm) (fun a U => a = as' ∧ Z.Warmed39 U.vm ∧ U.heap = h) (fun _ _ _ _ _ => True) (fun _ U o U' => ∃ v L, o = .returned v ∧ (Fr Z.heap.size L ∧ Ext Z.heap U'.heap ∧ Q v U'.heap) ∧ FrameEnd U o U' L rm.cells rm.slots)
/-- it returns v and leaves the heap as it was -/
def Pu (h : Heap) (v : Value) : Option Value → Heap → Prop := fun w h' => w = some v ∧ h' = h
theorem Ext.rf (h : Heap) : Ext h h := ⟨Nat.le_refl _, fun _ _ q => q⟩
theorem Ext.tr {h1 h2 h3 : Heap} (E : Ext h1 h2) (F : Ext h2 h3) : Ext h1 h3 := ⟨Nat.le_trans E.1 F.1, fun a c q => F.2 a c (E.2 a c q)⟩
theorem Ext.kp {h1 h2 h3 : Heap} {ws : List Addr} (E : Ext h1 h2) (K : Keep h2 h3 ws) (q : ∀ x ∈ ws, h1.size ≤ x) : Ext h1 h3 := ⟨Nat.le_trans E.1 K.1, fun a c r => K.2.1 a c (E.2 a c r) fun z => absurd (Array.getElem?_eq_some_iff.mp r).1 (Nat.not_lt.mpr (q a z))⟩
theorem Ext.wr {h1 h2 h3 : Heap} {a : Addr} {k : Nat} {v : Value} (E : Ext h1 h2) (W : Wr h2 h3 a k v) (q : h1.size ≤ a) : Ext h1 h3 := Ext.kp E (Keep.of_wr W) (allS q all0)
theorem Ext.keep {h1 h2 : Heap} (E : Ext h1 h2) (ws : List Addr) : Keep h1 h2 ws := (Keep.refl _ _).ext E
theorem Cx.sd (X : Cx p l e R s m args below meth c Z own nm bytes maxL rt T locs cells slots h) : Stand p l e R s m args below meth c T locs cells slots := X.1
theorem Cx.here (X : Cx p l e R s m args below meth c Z own nm bytes maxL rt T locs cells slots h) : At T m c below := X.1.here
theorem Cx.hx (X : Cx p l e R s m args below meth c Z own nm bytes maxL rt T locs cells slots h) : p.tables.exec = Jvm.exec := X.2.1
theorem Cx.hZ (X : Cx p l e R s m args below meth c Z own nm bytes maxL rt T locs cells slots h) : Z.Warmed39 s.vm := X.2.2.1
theorem Cx.hown (X : Cx p l e R s m args below meth c Z own nm bytes maxL rt T locs cells slots h) : s.vm.findClass own = some m.cls := X.2.2.2.1
theorem Cx.hby (X : Cx p l e R s m args below meth c Z own nm bytes maxL rt T locs cells slots h) : c.code = bytes := X.2.2.2.2.1
theorem Cx.hml (X : Cx p l e R s m args below meth c Z own nm bytes maxL rt T locs cells slots h) : c.maxLocals = maxL := X.2.2.2.2.2.1
theorem Cx.hrt (X : Cx p l e R s m args below meth c Z own nm bytes maxL rt T locs cells slots h) : meth.sig.returnType = rt := X.2.2.2.2.2.2.1
theorem Cx.hnm (X : Cx p l e R s m args below meth c Z own nm bytes maxL rt T locs cells slots h) : meth.name = nm := X.2.2.2.2.2.2.2.1
theorem Cx.hlk (X : Cx p l e R s m args below meth c Z own nm bytes maxL rt T locs cells slots h) : meth.locks = false := X.2.2.2.2.2.2.2.2.1
theorem Cx.eq (X : Cx p l e R s m args below meth c Z own nm bytes maxL rt T locs cells slots h) : T.heap = h := X.2.2.2.2.2.2.2.2.2.1
theorem Cx.fr (X : Cx p l e R s m args below meth c Z own nm bytes maxL rt T locs cells slots h) : Fr Z.heap.size locs := X.2.2.2.2.2.2.2.2.2.2.1
theorem Cx.old (X : Cx p l e R s m args below meth c Z own nm bytes maxL rt T locs cells slots h) : Ext Z.heap h := X.2.2.2.2.2.2.2.2.2.2.2
theorem Cx.le (X : Cx p l e R s m args below meth c Z own nm bytes maxL rt T locs cells slots h) : Z.heap.size ≤ h.size := X.old.1
theorem Cx.mk' {T' : State} {locs' : List Loc} {cells' slots' : Nat} {h' : Heap} (X : Cx p l e R s m args below meth c Z own nm bytes maxL rt T locs cells slots h) (Y : Stand p l e R s m args below meth c T' locs' cells' slots') (q : T'.heap = h') (f : Fr Z.heap.size locs') (o : Ext Z.heap h') : Cx p l e R s m args below meth c Z own nm bytes maxL rt T' locs' cells' slots' h' := ⟨Y, X.hx, X.hZ, X.hown, X.hby, X.hml, X.hrt, X.hnm, X.hlk, q, f, o⟩
theorem Go.step {T' : State} {pc' : Nat} {Ls' : Array Slot} {st' : List Value} (f : ∀ t, Steps p.tables e below (T'.setTop (mkF m pc' Ls' st')) t → Steps p.tables e below (T.setTop (mkF m pc Ls st)) t) (k : Go p e below En T' m pc' Ls' st') : Go p e below En T m pc Ls st := by
  obtain ⟨s₂, v, k1, k2⟩ := k
  exact ⟨s₂, v, f _ k1, k2⟩
theorem Ct.ofF {y : MethodName} {ws : List Jvm.Cond} {rm : Room} {as' : Array Value} {Ls0 : Array Slot} (pn : plainFor y = true) (ef : ∀ m, entryFrame m as' maxL = mkF m 0 Ls0 [])
    (body : ∀ p e s m below meth c s₁, Cx p l e rm s m as' below meth c Z y.cls y.name bytes maxL rt s₁ [] 0 0 h → Go p e below (FinN s Z Q rm.cells rm.slots) s₁ m 0 Ls0 []) : Ct l Z ws y bytes maxL rt rm as' h Q := by
  intro hE
  refine MetFree.of_bodySF pn hisR ?_
  intro p e s m args below meth c s₁ Bd hml0 hP hK
  obtain ⟨rfl, hZ, hh⟩ := hP
  have hown : s.vm.findClass y.cls = some m.cls := findClass_of_methodNamed Bd.named
  have hnm := (name_of_methodNamed Bd.named Bd.method).1
  have X0 : Stand p l e rm s m args below meth c s₁ [] 0 0 := Stand.of_body Bd
  have e0 : s₁.heap = h := by rw [← hh, Bd.state]; rfl
  obtain ⟨s₂, v, k1, k2, k3, L, k5, k6⟩ := body p e s m below meth c s₁ ⟨X0, Bd.exec, hZ, hown, Bd.bytes, hml0, Bd.returns, hnm, Bd.notSynchronized, e0, Fr.nil _, hE⟩
  exact ⟨s₂, _, castTop (ef m) k1, k2, k3, v, L, rfl, k5, k6⟩
theorem Ct.of {y : MethodName} {ws : List Jvm.Cond} {rm : Room} {as' : Array Value} {Ls0 : Array Slot} (pn : plainName y.cls = true) (ef : ∀ m, entryFrame m as' maxL = mkF m 0 Ls0 [])
    (body : ∀ p e s m below meth c s₁, Cx p l e rm s m as' below meth c Z y.cls y.name bytes maxL rt s₁ [] 0 0 h → Go p e below (FinN s Z Q rm.cells rm.slots) s₁ m 0 Ls0 []) : Ct l Z ws y bytes maxL rt rm as' h Q := Ct.ofF (plainFor_of_name pn) ef body
theorem Cx.fin (X : Cx p l e R s m args below meth c Z own nm bytes maxL rt T locs cells slots h) {v : Option Value} (hQ : Q v h) (hc : cells ≤ ce) (hs : slots ≤ sl) (hv : rt = none → v = none := by (intro q; first | rfl | (cases q; done))) : Lv e below (FinN s Z Q ce sl) T m v := by
  have hlk := X.hlk
  obtain ⟨fs, hr, hrun, hended, hW, hsame⟩ := X.sd.leave (v := v) (fun q => hv (X.hrt ▸ q)) hlk
  have q : (T.setFrames fs).heap = h := X.eq
  exact ⟨fs, hr, hrun, hended, locs, ⟨X.fr, by rw [q]; exact X.old, by rw [q]; exact hQ⟩, ⟨_, rfl⟩, hW, hsame.mono hc hs⟩
theorem Go.ret0 (X : Cx p l e R s m args below meth c Z own nm bytes maxL rt T locs cells slots h) {v : Option Value}
    (f : ∀ fs, (∀ (f : JFrame) (acts : List Action), f.method = m → f.locked = none → f.entered = [] → (doReturn e (T.setTop f) acts v).1 = T.setFrames fs) → Steps p.tables e below (T.setTop (mkF m pc Ls st)) (T.setFrames fs)) (hF : Lv e below En T m v) : Go p e below En T m pc Ls st := by
  obtain ⟨fs, hr, hrun, hended, hq⟩ := hF
  exact ⟨_, _, f fs hr, hrun, hended, hq⟩
theorem Go.ret (X : Cx p l e R s m args below meth c Z own nm bytes maxL rt T locs cells slots h) {t : FieldType} {i : Instr} {w : Value} {rest : List Value} (hret : rt = some t) (hn : narrow t w = w)
    (hi : (i = .ireturn ∧ (t = .int ∨ t = .boolean ∨ t = .byte ∨ t = .char ∨ t = .short) ∧ ∃ z, w = .int z) ∨ (i = .lreturn ∧ t = .long ∧ ∃ z, w = .long z) ∨ (i = .dreturn ∧ t = .double ∧ ∃ z, w = .double z) ∨ (i = .freturn ∧ t = .float ∧ ∃ z, w = .float z) ∨ (i = .areturn ∧ t.isReference = true ∧ w.isRef = true))
    (hd : decode bytes pc = .ok (i, 1)) (hF : Lv e below En T m (some w)) : Go p e below En T m pc Ls (w :: rest) :=
  Go.ret0 X (fun fs hr => retOut X.sd X.hx (X.hrt.trans hret) hn hi (hb X.hby hd) hr) hF
theorem Go.retI (X : Cx p l e R s m args below meth c Z own nm bytes maxL rt T locs cells slots h) {t : FieldType} {z : Int32} {rest : List Value} (hret : rt = some t) (ht : t = .int ∨ t = .boolean ∨ t = .byte ∨ t = .char ∨ t = .short) (hn : narrow t (.int z) = .int z) (hd : decode bytes pc = .ok (.ireturn, 1)) (hF : Lv e below En T m (some (.int z))) : Go p e below En T m pc Ls (.int z :: rest) :=
  Go.ret X hret hn (Or.inl ⟨rfl, ht, z, rfl⟩) hd hF
theorem Go.retJ (X : Cx p l e R s m args below meth c Z own nm bytes maxL rt T locs cells slots h) {z : Int64} {rest : List Value} (hret : rt = some .long) (hd : decode bytes pc = .ok (.lreturn, 1)) (hF : Lv e below En T m (some (.long z))) : Go p e below En T m pc Ls (.long z :: rest) :=
  Go.ret X hret rfl (Or.inr (Or.inl ⟨rfl, rfl, z, rfl⟩)) hd hF
theorem Go.retA (X : Cx p l e R s m args below meth c Z own nm bytes maxL rt T locs cells slots h) {t : FieldType} {w : Value} {rest : List Value} (hret : rt = some t) (ht : t.isReference = true) (hw : w.isRef = true) (hd : decode bytes pc = .ok (.areturn, 1)) (hF : Lv e below En T m (some w)) : Go p e below En T m pc Ls (w :: rest) :=
  Go.ret X hret (by cases t <;> first | rfl | (cases ht; done)) (Or.inr (Or.inr (Or.inr (Or.inr ⟨rfl, ht, hw⟩)))) hd hF
theorem Go.retV (X : Cx p l e R s m args below meth c Z own nm bytes maxL rt T locs cells slots h) (hret : rt = none) (hd : decode bytes pc = .ok (.return_, 1)) (hF : Lv e below En T m none) : Go p e below En T m pc Ls [] :=
  Go.ret0 X (fun fs hr => X.sd.returnOut X.hx (X.hrt.trans hret) (hb X.hby hd) hr) hF
theorem Go.aloadN (X : Cx p l e R s m args below meth c Z own nm bytes maxL rt T locs cells slots h) (pc' : Nat) {i : Fin 4} {v : Value} (hd : decode bytes pc = .ok (.aload_n i, 1)) (hl : Ls[i.val]? = some (.val v)) (hv : v.isRef = true) (k : Go p e below En T m pc' Ls (v :: st)) (hp : pc + 1 = pc' := by rfl) : Go p e below En T m pc Ls st := by
  subst hp
  exact Go.step (fun _ hr => XS.aloadN X.here X.hx rfl (hb X.hby hd) hl hv hr) k
theorem Go.aload (X : Cx p l e R s m args below meth c Z own nm bytes maxL rt T locs cells slots h) (pc' : Nat) {i : Nat} {v : Value} (hd : decode bytes pc = .ok (.aload i, 2)) (hl : Ls[i]? = some (.val v)) (hv : v.isRef = true) (k : Go p e below En T m pc' Ls (v :: st)) (hp : pc + 2 = pc' := by rfl) : Go p e below En T m pc Ls st := by
  subst hp
  exact Go.step (fun _ hr => XS.aload X.here X.hx rfl (hb X.hby hd) hl hv hr) k
theorem Go.iloadN (X : Cx p l e R s m args below meth c Z own nm bytes maxL rt T locs cells slots h) (pc' : Nat) {i : Fin 4} {v : Int32} (hd : decode bytes pc = .ok (.iload_n i, 1)) (hl : Ls[i.val]? = some (.val (.int v))) (k : Go p e below En T m pc' Ls (.int v :: st)) (hp : pc + 1 = pc' := by rfl) : Go p e below En T m pc Ls st := by
  subst hp
  exact Go.step (fun _ hr => XS.iloadN X.here X.hx rfl (hb X.hby hd) hl hr) k
theorem Go.iload (X : Cx p l e R s m args below meth c Z own nm bytes maxL rt T locs cells slots h) (pc' : Nat) {i : Nat} {v : Int32} (hd : decode bytes pc = .ok (.iload i, 2)) (hl : Ls[i]? = some (.val (.int v))) (k : Go p e below En T m pc' Ls (.int v :: st)) (hp : pc + 2 = pc' := by rfl) : Go p e below En T m pc Ls st := by
  subst hp
  exact Go.step (fun _ hr => XS.iload X.here X.hx rfl (hb X.hby hd) hl hr) k
theorem Go.lloadN (X : Cx p l e R s m args below meth c Z own nm bytes maxL rt T locs cells slots h) (pc' : Nat) {i : Fin 4} {v : Int64} (hd : decode bytes pc = .ok (.lload_n i, 1)) (hl : Ls[i.val]? = some (.val (.long v))) (k : Go p e below En T m pc' Ls (.long v :: st)) (hp : pc + 1 = pc' := by rfl) : Go p e below En T m pc Ls st := by
  subst hp
  exact Go.step (fun _ hr => XT.lloadN X.here X.hx rfl (hb X.hby hd) hl hr) k
theorem Go.lload (X : Cx p l e R s m args below meth c Z own nm bytes maxL rt T locs cells slots h) (pc' : Nat) {i : Nat} {v : Int64} (hd : decode bytes pc = .ok (.lload i, 2)) (hl : Ls[i]? = some (.val (.long v))) (k : Go p e below En T m pc' Ls (.long v :: st)) (hp : pc + 2 = pc' := by rfl) : Go p e below En T m pc Ls st := by
  subst hp
  exact Go.step (fun _ hr => XT.lload X.here X.hx rfl (hb X.hby hd) hl hr) k
theorem Go.iconst (X : Cx p l e R s m args below meth c Z own nm bytes maxL rt T locs cells slots h) (pc' : Nat) {i : Int} (z : Int32) (hd : decode bytes pc = .ok (.iconst i, 1)) (k : Go p e below En T m pc' Ls (.int z :: st)) (hp : pc + 1 = pc' := by rfl) (hv : Int32.ofInt i = z := by rfl) : Go p e below En T m pc Ls st := by
  subst hp
  exact Go.step (fun _ hr => XT.iconstV X.here X.hx rfl z (hb X.hby hd) hv hr) k
theorem Go.bipush (X : Cx p l e R s m args below meth c Z own nm bytes maxL rt T locs cells slots h) (pc' : Nat) {i : Int} (z : Int32) (hd : decode bytes pc = .ok (.bipush i, 2)) (k : Go p e below En T m pc' Ls (.int z :: st)) (hp : pc + 2 = pc' := by rfl) (hv : (Int8.ofInt i).toInt32 = z := by rfl) : Go p e below En T m pc Ls st := by
  subst hp
  exact Go.step (fun _ hr => XT.bipushV X.here X.hx rfl z (hb X.hby hd) hv hr) k
theorem Go.sipush (X : Cx p l e R s m args below meth c Z own nm bytes maxL rt T locs cells slots h) (pc' : Nat) {i : Int} (z : Int32) (hd : decode bytes pc = .ok (.sipush i, 3)) (k : Go p e below En T m pc' Ls (.int z :: st)) (hp : pc + 3 = pc' := by rfl) (hv : (Int16.ofInt i).toInt32 = z := by rfl) : Go p e below En T m pc Ls st := by
  subst hp
  exact Go.step (fun _ hr => XT.sipushV X.here X.hx rfl z (hb X.hby hd) hv hr) k
theorem Go.lconst (X : Cx p l e R s m args below meth c Z own nm bytes maxL rt T locs cells slots h) (pc' : Nat) {i : Fin 2} (z : Int64) (hd : decode bytes pc = .ok (.lconst i, 1)) (k : Go p e below En T m pc' Ls (.long z :: st)) (hp : pc + 1 = pc' := by rfl) (hv : Int64.ofNat i = z := by rfl) : Go p e below En T m pc Ls st := by
  subst hp
  exact Go.step (fun _ hr => XT.lconstV X.here X.hx rfl z (hb X.hby hd) hv hr) k
theorem Go.aconst_null (X : Cx p l e R s m args below meth c Z own nm bytes maxL rt T locs cells slots h) (pc' : Nat)  (hd : decode bytes pc = .ok (.aconst_null, 1))  (k : Go p e below En T m pc' Ls (.null :: st)) (hp : pc + 1 = pc' := by rfl) : Go p e below En T m pc Ls st := by
  subst hp
  exact Go.step (fun _ hr => XS.aconstNull X.here X.hx rfl (hb X.hby hd)  hr) k
theorem Go.iadd (X : Cx p l e R s m args below meth c Z own nm bytes maxL rt T locs cells slots h) (pc' : Nat) {x y : Int32} (hd : decode bytes pc = .ok (.iadd, 1))  (k : Go p e below En T m pc' Ls (.int (x + y) :: st)) (hp : pc + 1 = pc' := by rfl) : Go p e below En T m pc Ls (.int y :: .int x :: st) := by
  subst hp
  exact Go.step (fun _ hr => XS.iadd X.here X.hx rfl (hb X.hby hd) rfl hr) k
theorem Go.isub (X : Cx p l e R s m args below meth c Z own nm bytes maxL rt T locs cells slots h) (pc' : Nat) {x y : Int32} (hd : decode bytes pc = .ok (.isub, 1))  (k : Go p e below En T m pc' Ls (.int (x - y) :: st)) (hp : pc + 1 = pc' := by rfl) : Go p e below En T m pc Ls (.int y :: .int x :: st) := by
  subst hp
  exact Go.step (fun _ hr => XS.isub X.here X.hx rfl (hb X.hby hd) rfl hr) k
theorem Go.imul (X : Cx p l e R s m args below meth c Z own nm bytes maxL rt T locs cells slots h) (pc' : Nat) {x y : Int32} (hd : decode bytes pc = .ok (.imul, 1))  (k : Go p e below En T m pc' Ls (.int (x * y) :: st)) (hp : pc + 1 = pc' := by rfl) : Go p e below En T m pc Ls (.int y :: .int x :: st) := by
  subst hp
  exact Go.step (fun _ hr => XS.imul X.here X.hx rfl (hb X.hby hd) rfl hr) k
theorem Go.iand (X : Cx p l e R s m args below meth c Z own nm bytes maxL rt T locs cells slots h) (pc' : Nat) {x y : Int32} (hd : decode bytes pc = .ok (.iand, 1))  (k : Go p e below En T m pc' Ls (.int (x &&& y) :: st)) (hp : pc + 1 = pc' := by rfl) : Go p e below En T m pc Ls (.int y :: .int x :: st) := by
  subst hp
  exact Go.step (fun _ hr => XS.iand X.here X.hx rfl (hb X.hby hd) rfl hr) k
theorem Go.ior (X : Cx p l e R s m args below meth c Z own nm bytes maxL rt T locs cells slots h) (pc' : Nat) {x y : Int32} (hd : decode bytes pc = .ok (.ior, 1))  (k : Go p e below En T m pc' Ls (.int (x ||| y) :: st)) (hp : pc + 1 = pc' := by rfl) : Go p e below En T m pc Ls (.int y :: .int x :: st) := by
  subst hp
  exact Go.step (fun _ hr => XT.ior X.here X.hx rfl (hb X.hby hd) rfl hr) k
theorem Go.ixor (X : Cx p l e R s m args below meth c Z own nm bytes maxL rt T locs cells slots h) (pc' : Nat) {x y : Int32} (hd : decode bytes pc = .ok (.ixor, 1))  (k : Go p e below En T m pc' Ls (.int (x ^^^ y) :: st)) (hp : pc + 1 = pc' := by rfl) : Go p e below En T m pc Ls (.int y :: .int x :: st) := by
  subst hp
  exact Go.step (fun _ hr => XT.ixor X.here X.hx rfl (hb X.hby hd) rfl hr) k
theorem Go.idiv (X : Cx p l e R s m args below meth c Z own nm bytes maxL rt T locs cells slots h) (pc' : Nat) {x y : Int32} (hd : decode bytes pc = .ok (.idiv, 1)) (hy : y ≠ 0) (k : Go p e below En T m pc' Ls (.int (x / y) :: st)) (hp : pc + 1 = pc' := by rfl) : Go p e below En T m pc Ls (.int y :: .int x :: st) := by
  subst hp
  exact Go.step (fun _ hr => XS.idiv X.here X.hx rfl (hb X.hby hd) rfl hy hr) k
theorem Go.irem (X : Cx p l e R s m args below meth c Z own nm bytes maxL rt T locs cells slots h) (pc' : Nat) {x y : Int32} (hd : decode bytes pc = .ok (.irem, 1)) (hy : y ≠ 0) (k : Go p e below En T m pc' Ls (.int (x % y) :: st)) (hp : pc + 1 = pc' := by rfl) : Go p e below En T m pc Ls (.int y :: .int x :: st) := by
  subst hp
  exact Go.step (fun _ hr => iremM X.sd X.hx rfl (hb X.hby hd) rfl hy hr) k
theorem Go.ishl (X : Cx p l e R s m args below meth c Z own nm bytes maxL rt T locs cells slots h) (pc' : Nat) {x y : Int32} (hd : decode bytes pc = .ok (.ishl, 1))  (k : Go p e below En T m pc' Ls (.int (x <<< (y &&& 31)) :: st)) (hp : pc + 1 = pc' := by rfl) : Go p e below En T m pc Ls (.int y :: .int x :: st) := by
  subst hp
  exact Go.step (fun _ hr => XT.ishl X.here X.hx rfl (hb X.hby hd) rfl hr) k
theorem Go.ishr (X : Cx p l e R s m args below meth c Z own nm bytes maxL rt T locs cells slots h) (pc' : Nat) {x y : Int32} (hd : decode bytes pc = .ok (.ishr, 1))  (k : Go p e below En T m pc' Ls (.int (x >>> (y &&& 31)) :: st)) (hp : pc + 1 = pc' := by rfl) : Go p e below En T m pc Ls (.int y :: .int x :: st) := by
  subst hp
  exact Go.step (fun _ hr => XT.ishr X.here X.hx rfl (hb X.hby hd) rfl hr) k
theorem Go.iushr (X : Cx p l e R s m args below meth c Z own nm bytes maxL rt T locs cells slots h) (pc' : Nat) {x y : Int32} (hd : decode bytes pc = .ok (.iushr, 1))  (k : Go p e below En T m pc' Ls (.int (XT.ushr x y) :: st)) (hp : pc + 1 = pc' := by rfl) : Go p e below En T m pc Ls (.int y :: .int x :: st) := by
  subst hp
  exact Go.step (fun _ hr => XT.iushr X.here X.hx rfl (hb X.hby hd) rfl hr) k
theorem Go.ladd (X : Cx p l e R s m args below meth c Z own nm bytes maxL rt T locs cells slots h) (pc' : Nat) {x y : Int64} (hd : decode bytes pc = .ok (.ladd, 1))  (k : Go p e below En T m pc' Ls (.long (x + y) :: st)) (hp : pc + 1 = pc' := by rfl) : Go p e below En T m pc Ls (.long y :: .long x :: st) := by
  subst hp
  exact Go.step (fun _ hr => XT.ladd X.here X.hx rfl (hb X.hby hd) rfl hr) k
theorem Go.lsub (X : Cx p l e R s m args below meth c Z own nm bytes maxL rt T locs cells slots h) (pc' : Nat) {x y : Int64} (hd : decode bytes pc = .ok (.lsub, 1))  (k : Go p e below En T m pc' Ls (.long (x - y) :: st)) (hp : pc + 1 = pc' := by rfl) : Go p e below En T m pc Ls (.long y :: .long x :: st) := by
  subst hp
  exact Go.step (fun _ hr => XT.lsub X.here X.hx rfl (hb X.hby hd) rfl hr) k
theorem Go.lmul (X : Cx p l e R s m args below meth c Z own nm bytes maxL rt T locs cells slots h) (pc' : Nat) {x y : Int64} (hd : decode bytes pc = .ok (.lmul, 1))  (k : Go p e below En T m pc' Ls (.long (x * y) :: st)) (hp : pc + 1 = pc' := by rfl) : Go p e below En T m pc Ls (.long y :: .long x :: st) := by
  subst hp
  exact Go.step (fun _ hr => XT.lmul X.here X.hx rfl (hb X.hby hd) rfl hr) k
theorem Go.land (X : Cx p l e R s m args below meth c Z own nm bytes maxL rt T locs cells slots h) (pc' : Nat) {x y : Int64} (hd : decode bytes pc = .ok (.land, 1))  (k : Go p e below En T m pc' Ls (.long (x &&& y) :: st)) (hp : pc + 1 = pc' := by rfl) : Go p e below En T m pc Ls (.long y :: .long x :: st) := by
  subst hp
  exact Go.step (fun _ hr => XT.land X.here X.hx rfl (hb X.hby hd) rfl hr) k
theorem Go.lor (X : Cx p l e R s m args below meth c Z own nm bytes maxL rt T locs cells slots h) (pc' : Nat) {x y : Int64} (hd : decode bytes pc = .ok (.lor, 1))  (k : Go p e below En T m pc' Ls (.long (x ||| y) :: st)) (hp : pc + 1 = pc' := by rfl) : Go p e below En T m pc Ls (.long y :: .long x :: st) := by
  subst hp
  exact Go.step (fun _ hr => XT.lor X.here X.hx rfl (hb X.hby hd) rfl hr) k
theorem Go.lxor (X : Cx p l e R s m args below meth c Z own nm bytes maxL rt T locs cells slots h) (pc' : Nat) {x y : Int64} (hd : decode bytes pc = .ok (.lxor, 1))  (k : Go p e below En T m pc' Ls (.long (x ^^^ y) :: st)) (hp : pc + 1 = pc' := by rfl) : Go p e below En T m pc Ls (.long y :: .long x :: st) := by
  subst hp
  exact Go.step (fun _ hr => XT.lxor X.here X.hx rfl (hb X.hby hd) rfl hr) k
theorem Go.lcmp (X : Cx p l e R s m args below meth c Z own nm bytes maxL rt T locs cells slots h) (pc' : Nat) {x y : Int64} (hd : decode bytes pc = .ok (.lcmp, 1))  (k : Go p e below En T m pc' Ls (.int (XT.cmpL x y) :: st)) (hp : pc + 1 = pc' := by rfl) : Go p e below En T m pc Ls (.long y :: .long x :: st) := by
  subst hp
  exact Go.step (fun _ hr => XT.lcmp X.here X.hx rfl (hb X.hby hd) rfl hr) k
theorem Go.ldiv (X : Cx p l e R s m args below meth c Z own nm bytes maxL rt T locs cells slots h) (pc' : Nat) {x y : Int64} (hd : decode bytes pc = .ok (.ldiv, 1)) (hy : y ≠ 0) (k : Go p e below En T m pc' Ls (.long (x / y) :: st)) (hp : pc + 1 = pc' := by rfl) : Go p e below En T m pc Ls (.long y :: .long x :: st) := by
  subst hp
  exact Go.step (fun _ hr => XT.ldiv X.here X.hx rfl (hb X.hby hd) rfl hy hr) k
theorem Go.lrem (X : Cx p l e R s m args below meth c Z own nm bytes maxL rt T locs cells slots h) (pc' : Nat) {x y : Int64} (hd : decode bytes pc = .ok (.lrem, 1)) (hy : y ≠ 0) (k : Go p e below En T m pc' Ls (.long (x - (x / y) * y) :: st)) (hp : pc + 1 = pc' := by rfl) : Go p e below En T m pc Ls (.long y :: .long x :: st) := by
  subst hp
  exact Go.step (fun _ hr => XT.lrem X.here X.hx rfl (hb X.hby hd) rfl hy hr) k
theorem Go.lshl (X : Cx p l e R s m args below meth c Z own nm bytes maxL rt T locs cells slots h) (pc' : Nat) {x : Int64} {y : Int32} (hd : decode bytes pc = .ok (.lshl, 1))  (k : Go p e below En T m pc' Ls (.long (x <<< (y.toInt64 &&& 63)) :: st)) (hp : pc + 1 = pc' := by rfl) : Go p e below En T m pc Ls (.int y :: .long x :: st) := by
  subst hp
  exact Go.step (fun _ hr => XT.lshl X.here X.hx rfl (hb X.hby hd) rfl hr) k
theorem Go.lshr (X : Cx p l e R s m args below meth c Z own nm bytes maxL rt T locs cells slots h) (pc' : Nat) {x : Int64} {y : Int32} (hd : decode bytes pc = .ok (.lshr, 1))  (k : Go p e below En T m pc' Ls (.long (x >>> (y.toInt64 &&& 63)) :: st)) (hp : pc + 1 = pc' := by rfl) : Go p e below En T m pc Ls (.int y :: .long x :: st) := by
  subst hp
  exact Go.step (fun _ hr => XT.lshr X.here X.hx rfl (hb X.hby hd) rfl hr) k
theorem Go.lushr (X : Cx p l e R s m args below meth c Z own nm bytes maxL rt T locs cells slots h) (pc' : Nat) {x : Int64} {y : Int32} (hd : decode bytes pc = .ok (.lushr, 1))  (k : Go p e below En T m pc' Ls (.long (XT.ushrL x y) :: st)) (hp : pc + 1 = pc' := by rfl) : Go p e below En T m pc Ls (.int y :: .long x :: st) := by
  subst hp
  exact Go.step (fun _ hr => XT.lushr X.here X.hx rfl (hb X.hby hd) rfl hr) k
theorem Go.i2l (X : Cx p l e R s m args below meth c Z own nm bytes maxL rt T locs cells slots h) (pc' : Nat) {x : Int32} (hd : decode bytes pc = .ok (.i2l, 1))  (k : Go p e below En T m pc' Ls (.long (x.toInt64) :: st)) (hp : pc + 1 = pc' := by rfl) : Go p e below En T m pc Ls (.int x :: st) := by
  subst hp
  exact Go.step (fun _ hr => XT.i2l X.here X.hx rfl (hb X.hby hd) rfl hr) k
theorem Go.i2b (X : Cx p l e R s m args below meth c Z own nm bytes maxL rt T locs cells slots h) (pc' : Nat) {x : Int32} (hd : decode bytes pc = .ok (.i2b, 1))  (k : Go p e below En T m pc' Ls (.int (x.toInt8.toInt32) :: st)) (hp : pc + 1 = pc' := by rfl) : Go p e below En T m pc Ls (.int x :: st) := by
  subst hp
  exact Go.step (fun _ hr => XT.i2b X.here X.hx rfl (hb X.hby hd) rfl hr) k
theorem Go.i2c (X : Cx p l e R s m args below meth c Z own nm bytes maxL rt T locs cells slots h) (pc' : Nat) {x : Int32} (hd : decode bytes pc = .ok (.i2c, 1))  (k : Go p e below En T m pc' Ls (.int (x.toUInt32.toUInt16.toUInt32.toInt32) :: st)) (hp : pc + 1 = pc' := by rfl) : Go p e below En T m pc Ls (.int x :: st) := by
  subst hp
  exact Go.step (fun _ hr => XT.i2c X.here X.hx rfl (hb X.hby hd) rfl hr) k
theorem Go.i2s (X : Cx p l e R s m args below meth c Z own nm bytes maxL rt T locs cells slots h) (pc' : Nat) {x : Int32} (hd : decode bytes pc = .ok (.i2s, 1))  (k : Go p e below En T m pc' Ls (.int (x.toInt16.toInt32) :: st)) (hp : pc + 1 = pc' := by rfl) : Go p e below En T m pc Ls (.int x :: st) := by
  subst hp
  exact Go.step (fun _ hr => XT.i2s X.here X.hx rfl (hb X.hby hd) rfl hr) k
theorem Go.l2i (X : Cx p l e R s m args below meth c Z own nm bytes maxL rt T locs cells slots h) (pc' : Nat) {x : Int64} (hd : decode bytes pc = .ok (.l2i, 1))  (k : Go p e below En T m pc' Ls (.int (x.toInt32) :: st)) (hp : pc + 1 = pc' := by rfl) : Go p e below En T m pc Ls (.long x :: st) := by
  subst hp
  exact Go.step (fun _ hr => XT.l2i X.here X.hx rfl (hb X.hby hd) rfl hr) k
theorem Go.dup (X : Cx p l e R s m args below meth c Z own nm bytes maxL rt T locs cells slots h) (pc' : Nat) {v : Value} (hd : decode bytes pc = .ok (.dup, 1)) (hc : v.category = 1) (k : Go p e below En T m pc' Ls (v :: v :: st)) (hp : pc + 1 = pc' := by rfl) : Go p e below En T m pc Ls (v :: st) := by
  subst hp
  exact Go.step (fun _ hr => XS.dup X.here X.hx rfl (hb X.hby hd) rfl hc hr) k
theorem Go.pop (X : Cx p l e R s m args below meth c Z own nm bytes maxL rt T locs cells slots h) (pc' : Nat) {v : Value} (hd : decode bytes pc = .ok (.pop, 1)) (hc : v.category = 1) (k : Go p e below En T m pc' Ls st) (hp : pc + 1 = pc' := by rfl) : Go p e below En T m pc Ls (v :: st) := by
  subst hp
  exact Go.step (fun _ hr => XT.pop X.here X.hx rfl (hb X.hby hd) rfl hc hr) k
theorem Go.dup_x1 (X : Cx p l e R s m args below meth c Z own nm bytes maxL rt T locs cells slots h) (pc' : Nat) {v w : Value} (hd : decode bytes pc = .ok (.dup_x1, 1)) (hc : v.category = 1) (hc' : w.category = 1) (k : Go p e below En T m pc' Ls (v :: w :: v :: st)) (hp : pc + 1 = pc' := by rfl) : Go p e below En T m pc Ls (v :: w :: st) := by
  subst hp
  exact Go.step (fun _ hr => XT.dupX1 X.here X.hx rfl (hb X.hby hd) rfl hc hc' hr) k
theorem Go.dup2 (X : Cx p l e R s m args below meth c Z own nm bytes maxL rt T locs cells slots h) (pc' : Nat) {v w : Value} (hd : decode bytes pc = .ok (.dup2, 1)) (hc : v.category = 1) (hc' : w.category = 1) (k : Go p e below En T m pc' Ls (v :: w :: v :: w :: st)) (hp : pc + 1 = pc' := by rfl) : Go p e below En T m pc Ls (v :: w :: st) := by
  subst hp
  exact Go.step (fun _ hr => XT.dup2 X.here X.hx rfl (hb X.hby hd) rfl hc hc' hr) k
theorem Go.istoreN (X : Cx p l e R s m args below meth c Z own nm bytes maxL rt T locs cells slots h) (pc' : Nat) {i : Fin 4} {z : Int32} (Ls' : Array Slot) (hd : decode bytes pc = .ok (.istore_n i, 1))  (hl : storeLocals Ls i.val (.int z) = some Ls') (k : Go p e below En T m pc' Ls' st) (hp : pc + 1 = pc' := by rfl) : Go p e below En T m pc Ls (.int z :: st) := by
  subst hp
  exact Go.step (fun _ hr => XS.istoreN X.here X.hx rfl (hb X.hby hd) rfl  hl hr) k
theorem Go.istore (X : Cx p l e R s m args below meth c Z own nm bytes maxL rt T locs cells slots h) (pc' : Nat) {i : Nat} {z : Int32} (Ls' : Array Slot) (hd : decode bytes pc = .ok (.istore i, 2))  (hl : storeLocals Ls i (.int z) = some Ls') (k : Go p e below En T m pc' Ls' st) (hp : pc + 2 = pc' := by rfl) : Go p e below En T m pc Ls (.int z :: st) := by
  subst hp
  exact Go.step (fun _ hr => XS.istore X.here X.hx rfl (hb X.hby hd) rfl  hl hr) k
theorem Go.lstoreN (X : Cx p l e R s m args below meth c Z own nm bytes maxL rt T locs cells slots h) (pc' : Nat) {i : Fin 4} {z : Int64} (Ls' : Array Slot) (hd : decode bytes pc = .ok (.lstore_n i, 1))  (hl : storeLocals Ls i.val (.long z) = some Ls') (k : Go p e below En T m pc' Ls' st) (hp : pc + 1 = pc' := by rfl) : Go p e below En T m pc Ls (.long z :: st) := by
  subst hp
  exact Go.step (fun _ hr => XT.lstoreN X.here X.hx rfl (hb X.hby hd) rfl  hl hr) k
theorem Go.lstore (X : Cx p l e R s m args below meth c Z own nm bytes maxL rt T locs cells slots h) (pc' : Nat) {i : Nat} {z : Int64} (Ls' : Array Slot) (hd : decode bytes pc = .ok (.lstore i, 2))  (hl : storeLocals Ls i (.long z) = some Ls') (k : Go p e below En T m pc' Ls' st) (hp : pc + 2 = pc' := by rfl) : Go p e below En T m pc Ls (.long z :: st) := by
  subst hp
  exact Go.step (fun _ hr => XT.lstore X.here X.hx rfl (hb X.hby hd) rfl  hl hr) k
theorem Go.astoreN (X : Cx p l e R s m args below meth c Z own nm bytes maxL rt T locs cells slots h) (pc' : Nat) {i : Fin 4} {v : Value} (Ls' : Array Slot) (hd : decode bytes pc = .ok (.astore_n i, 1)) (hv : v.isRef = true) (hl : storeLocals Ls i.val (v) = some Ls') (k : Go p e below En T m pc' Ls' st) (hp : pc + 1 = pc' := by rfl) : Go p e below En T m pc Ls (v :: st) := by
  subst hp
  exact Go.step (fun _ hr => XS.astoreN X.here X.hx rfl (hb X.hby hd) rfl hv hl hr) k
theorem Go.astore (X : Cx p l e R s m args below meth c Z own nm bytes maxL rt T locs cells slots h) (pc' : Nat) {i : Nat} {v : Value} (Ls' : Array Slot) (hd : decode bytes pc = .ok (.astore i, 2)) (hv : v.isRef = true) (hl : storeLocals Ls i (v) = some Ls') (k : Go p e below En T m pc' Ls' st) (hp : pc + 2 = pc' := by rfl) : Go p e below En T m pc Ls (v :: st) := by
  subst hp
  exact Go.step (fun _ hr => XS.astore X.here X.hx rfl (hb X.hby hd) rfl hv hl hr) k
theorem Go.iinc (X : Cx p l e R s m args below meth c Z own nm bytes maxL rt T locs cells slots h) (pc' : Nat) {i : Nat} {x : Int32} {cst : Int} (z : Int32) (Ls' : Array Slot) (hd : decode bytes pc = .ok (.iinc i cst, 3)) (hl0 : Ls[i]? = some (.val (.int x))) (hl : storeLocals Ls i (.int (x + z)) = some Ls') (k : Go p e below En T m pc' Ls' st) (hp : pc + 3 = pc' := by rfl) (hv : Int32.ofInt cst = z := by rfl) : Go p e below En T m pc Ls st := by
  subst hp
  exact Go.step (fun _ hr => XT.iincV X.here X.hx rfl z (hb X.hby hd) hv hl0 hl hr) k
theorem Go.goto (X : Cx p l e R s m args below meth c Z own nm bytes maxL rt T locs cells slots h) (pc' : Nat) {o : Int} (hd : decode bytes pc = .ok (.goto o, 3)) (k : Go p e below En T m pc' Ls st) (ho : 0 ≤ (pc : Int) + o := by decide) (hp : ((pc : Int) + o).toNat = pc' := by decide) : Go p e below En T m pc Ls st :=
  Go.step (fun _ hr => XS.goto X.here X.hx rfl rfl (hb X.hby hd) ho hp hr) k
theorem Go.if0Y (X : Cx p l e R s m args below meth c Z own nm bytes maxL rt T locs cells slots h) (pc' : Nat) {cd : ClassFile.Cond} {x : Int32} {o : Int} (hd : decode bytes pc = .ok (.ifCond cd o, 3)) (hc : ifCond.holds cd x = true) (k : Go p e below En T m pc' Ls st) (ho : 0 ≤ (pc : Int) + o := by decide) (hp : ((pc : Int) + o).toNat = pc' := by decide) : Go p e below En T m pc Ls (.int x :: st) :=
  Go.step (fun _ hr => XS.ifYes X.here X.hx rfl rfl (hb X.hby hd) rfl hc ho hp hr) k
theorem Go.if0N (X : Cx p l e R s m args below meth c Z own nm bytes maxL rt T locs cells slots h) (pc' : Nat) {cd : ClassFile.Cond} {x : Int32} {o : Int} (hd : decode bytes pc = .ok (.ifCond cd o, 3)) (hc : ifCond.holds cd x = false) (k : Go p e below En T m pc' Ls st) (hp : pc + 3 = pc' := by rfl) : Go p e below En T m pc Ls (.int x :: st) := by
  subst hp
  exact Go.step (fun _ hr => XS.ifNo X.here X.hx rfl (hb X.hby hd) rfl hc hr) k
theorem Go.icmpY (X : Cx p l e R s m args below meth c Z own nm bytes maxL rt T locs cells slots h) (pc' : Nat) {cd : ClassFile.Cond} {x y : Int32} {o : Int} (hd : decode bytes pc = .ok (.if_icmp cd o, 3)) (hc : if_icmp.holds cd x y = true) (k : Go p e below En T m pc' Ls st) (ho : 0 ≤ (pc : Int) + o := by decide) (hp : ((pc : Int) + o).toNat = pc' := by decide) : Go p e below En T m pc Ls (.int y :: .int x :: st) :=
  Go.step (fun _ hr => XS.icmpYes X.here X.hx rfl rfl (hb X.hby hd) rfl hc ho hp hr) k
theorem Go.icmpN (X : Cx p l e R s m args below meth c Z own nm bytes maxL rt T locs cells slots h) (pc' : Nat) {cd : ClassFile.Cond} {x y : Int32} {o : Int} (hd : decode bytes pc = .ok (.if_icmp cd o, 3)) (hc : if_icmp.holds cd x y = false) (k : Go p e below En T m pc' Ls st) (hp : pc + 3 = pc' := by rfl) : Go p e below En T m pc Ls (.int y :: .int x :: st) := by
  subst hp
  exact Go.step (fun _ hr => XS.icmpNo X.here X.hx rfl (hb X.hby hd) rfl hc hr) k
theorem Go.acmpY (X : Cx p l e R s m args below meth c Z own nm bytes maxL rt T locs cells slots h) (pc' : Nat) {cd : ClassFile.ACond} {x y : Value} {o : Int} (hd : decode bytes pc = .ok (.if_acmp cd o, 3)) (hx' : x.isRef = true) (hy' : y.isRef = true) (hc : XT.acmp cd x y = true) (k : Go p e below En T m pc' Ls st) (ho : 0 ≤ (pc : Int) + o := by decide) (hp : ((pc : Int) + o).toNat = pc' := by decide) : Go p e below En T m pc Ls (y :: x :: st) :=
  Go.step (fun _ hr => XT.acmpYes X.here X.hx rfl rfl (hb X.hby hd) rfl hx' hy' hc ho hp hr) k
theorem Go.acmpN (X : Cx p l e R s m args below meth c Z own nm bytes maxL rt T locs cells slots h) (pc' : Nat) {cd : ClassFile.ACond} {x y : Value} {o : Int} (hd : decode bytes pc = .ok (.if_acmp cd o, 3)) (hx' : x.isRef = true) (hy' : y.isRef = true) (hc : XT.acmp cd x y = false) (k : Go p e below En T m pc' Ls st) (hp : pc + 3 = pc' := by rfl) : Go p e below En T m pc Ls (y :: x :: st) := by
  subst hp
  exact Go.step (fun _ hr => XT.acmpNo X.here X.hx rfl (hb X.hby hd) rfl hx' hy' hc hr) k
theorem Go.ifnullY (X : Cx p l e R s m args below meth c Z own nm bytes maxL rt T locs cells slots h) (pc' : Nat) {o : Int} (hd : decode bytes pc = .ok (.ifnull o, 3)) (k : Go p e below En T m pc' Ls st) (ho : 0 ≤ (pc : Int) + o := by decide) (hp : ((pc : Int) + o).toNat = pc' := by decide) : Go p e below En T m pc Ls (.null :: st) :=
  Go.step (fun _ hr => XS.ifnullYes X.here X.hx rfl rfl (hb X.hby hd) rfl ho hp hr) k
theorem Go.ifnullN (X : Cx p l e R s m args below meth c Z own nm bytes maxL rt T locs cells slots h) (pc' : Nat) {a : Addr} {o : Int} (hd : decode bytes pc = .ok (.ifnull o, 3)) (k : Go p e below En T m pc' Ls st) (hp : pc + 3 = pc' := by rfl) : Go p e below En T m pc Ls (.ref a :: st) := by
  subst hp
  exact Go.step (fun _ hr => XS.ifnullNo X.here X.hx rfl (hb X.hby hd) rfl hr) k
theorem Go.ifnonnullY (X : Cx p l e R s m args below meth c Z own nm bytes maxL rt T locs cells slots h) (pc' : Nat) {a : Addr} {o : Int} (hd : decode bytes pc = .ok (.ifnonnull o, 3)) (k : Go p e below En T m pc' Ls st) (ho : 0 ≤ (pc : Int) + o := by decide) (hp : ((pc : Int) + o).toNat = pc' := by decide) : Go p e below En T m pc Ls (.ref a :: st) :=
  Go.step (fun _ hr => XT.ifnonnullYes X.here X.hx rfl rfl (hb X.hby hd) rfl ho hp hr) k
theorem Go.ifnonnullN (X : Cx p l e R s m args below meth c Z own nm bytes maxL rt T locs cells slots h) (pc' : Nat) {o : Int} (hd : decode bytes pc = .ok (.ifnonnull o, 3)) (k : Go p e below En T m pc' Ls st) (hp : pc + 3 = pc' := by rfl) : Go p e below En T m pc Ls (.null :: st) := by
  subst hp
  exact Go.step (fun _ hr => XT.ifnonnullNo X.here X.hx rfl (hb X.hby hd) rfl hr) k
theorem Go.tsw (X : Cx p l e R s m args below meth c Z own nm bytes maxL rt T locs cells slots h) (pc' : Nat) {dflt low high o : Int} {offs : Array Int} {len : Nat} {i : Int32} (hd : decode bytes pc = .ok (.tableswitch dflt low high offs, len)) (hin : ¬ (i.toInt < low ∨ i.toInt > high)) (hoff : offs[(i.toInt - low).toNat]? = some o) (k : Go p e below En T m pc' Ls st) (ho : 0 ≤ (pc : Int) + o := by decide) (hp : ((pc : Int) + o).toNat = pc' := by decide) : Go p e below En T m pc Ls (.int i :: st) :=
  Go.step (fun _ hr => XS.tswIn X.here X.hx rfl rfl (hb X.hby hd) rfl hin hoff ho hp hr) k
theorem Go.ldcI (X : Cx p l e R s m args below meth c Z own nm bytes maxL rt T locs cells slots h) (pc' : Nat) {idx : Nat} {v : Int32} (w : (Jvm.Cond.constant own idx v).before a0 Z = true) (hd : decode bytes pc = .ok (.ldc idx, 2)) (k : Go p e below En T m pc' Ls (.int v :: st)) (hp : pc + 2 = pc' := by rfl) : Go p e below En T m pc Ls st := by
  subst hp
  exact Go.step (fun _ hr => X.sd.ldcI X.hx X.hown (mvT X.hZ w) rfl (hb X.hby hd) hr) k
theorem Go.ldcJ (X : Cx p l e R s m args below meth c Z own nm bytes maxL rt T locs cells slots h) (pc' : Nat) {idx : Nat} {v : Int64} (w : (Jvm.Cond.constantLong own idx v).before a0 Z = true) (hd : decode bytes pc = .ok (.ldc2_w idx, 3)) (k : Go p e below En T m pc' Ls (.long v :: st)) (hp : pc + 3 = pc' := by rfl) : Go p e below En T m pc Ls st := by
  subst hp
  exact Go.step (fun _ hr => X.sd.ldc2J X.hx X.hown (mvT X.hZ w) rfl (hb X.hby hd) hr) k
theorem Go.getS (X : Cx p l e R s m args below meth c Z own nm bytes maxL rt T locs cells slots h) (pc' : Nat) {O n d : String} {idx : Nat} {v : Value} (w : (Jvm.Cond.fieldLink own idx O n d).before a0 Z = true) (F : Sta Z Z.heap O n d v) (hd : decode bytes pc = .ok (.getstatic idx, 3)) (k : ∀ T', Cx p l e R s m args below meth c Z own nm bytes maxL rt T' locs cells slots h → Go p e below En T' m pc' Ls (v :: st)) (hp : pc + 3 = pc' := by rfl) : Go p e below En T m pc Ls st := by
  subst hp
  obtain ⟨T', X', e', st'⟩ := RoadKit.getS (host := "") X.sd X.hx X.hZ X.hown w Via.refl X.eq (F.ext X.old) (g := mkF m pc Ls st) rfl (hb X.hby hd)
  exact Go.step st' (k T' (X.mk' X' e' X.fr X.old))
theorem Go.getF (X : Cx p l e R s m args below meth c Z own nm bytes maxL rt T locs cells slots h) (pc' : Nat) {O n d : String} {idx : Nat} {a : Addr} {v : Value} (w : (Jvm.Cond.fieldLink own idx O n d).before a0 Z = true) (F : Fld Z h a O n d v) (hd : decode bytes pc = .ok (.getfield idx, 3)) (k : ∀ T', Cx p l e R s m args below meth c Z own nm bytes maxL rt T' locs cells slots h → Go p e below En T' m pc' Ls (v :: st)) (hp : pc + 3 = pc' := by rfl) : Go p e below En T m pc Ls (.ref a :: st) := by
  subst hp
  obtain ⟨T', X', e', st'⟩ := RoadKit.getF (host := "") X.sd X.hx X.hZ X.hown (Or.inl w) Via.refl X.eq F (g := mkF m pc Ls (.ref a :: st)) rfl rfl (hb X.hby hd)
  exact Go.step st' (k T' (X.mk' X' e' X.fr X.old))
theorem Go.getFN (X : Cx p l e R s m args below meth c Z own nm bytes maxL rt T locs cells slots h) (pc' : Nat) {O n d host : String} {idx : Nat} {a : Addr} {v : Value} (w : (Jvm.Cond.fieldLinkNest own idx O n d host).before a0 Z = true) (F : Fld Z h a O n d v) (hd : decode bytes pc = .ok (.getfield idx, 3)) (k : ∀ T', Cx p l e R s m args below meth c Z own nm bytes maxL rt T' locs cells slots h → Go p e below En T' m pc' Ls (v :: st)) (hp : pc + 3 = pc' := by rfl) : Go p e below En T m pc Ls (.ref a :: st) := by
  subst hp
  obtain ⟨T', X', e', st'⟩ := RoadKit.getF X.sd X.hx X.hZ X.hown (Or.inr w) Via.refl X.eq F (g := mkF m pc Ls (.ref a :: st)) rfl rfl (hb X.hby hd)
  exact Go.step st' (k T' (X.mk' X' e' X.fr X.old))
theorem Go.putF (X : Cx p l e R s m args below meth c Z own nm bytes maxL rt T locs cells slots h) (pc' : Nat) {O n d C : String} {idx kk : Nat} {ty : FieldType} {a : Addr} {v old : Value} (w : (Jvm.Cond.fieldLink own idx O n d).before a0 Z = true) (F : Fld Z h a O n d old) (E : Exa Z h a C) (L : (Jvm.Cond.lays C O n d).before a0 Z = true ∨ ((Jvm.Cond.laysFinal C O n d).before a0 Z = true ∧ own = O ∧ nm = "<init>")) (wi : (Jvm.Cond.instantiable C kk).before a0 Z = true) (hty : parseFieldDescriptor d = some ty) (hn : narrow ty v = v) (hf : fits ty v = true) (ha : Z.heap.size ≤ a) (hd : decode bytes pc = .ok (.putfield idx, 3))
    (k : ∀ T' h', Cx p l e R s m args below meth c Z own nm bytes maxL rt T' (locs ++ [⟨a, RoadKit.slotOf Z O n d⟩]) cells slots h' → Wr h h' a (RoadKit.slotOf Z O n d) v → Go p e below En T' m pc' Ls st) (hp : pc + 3 = pc' := by rfl) : Go p e below En T m pc Ls (v :: .ref a :: st) := by
  subst hp
  obtain ⟨T', h', X', e', W, st'⟩ := RoadKit.putF (host := "") X.sd X.hx X.hZ X.hown (Or.inl w) Via.refl X.eq F E (L.imp id fun q => ⟨q.1, q.2.1, X.hnm.trans q.2.2⟩) wi hty hn hf (g := mkF m pc Ls (v :: .ref a :: st)) rfl rfl (hb X.hby hd)
  exact Go.step st' (k T' h' (X.mk' X' e' (Fr.snoc X' X.fr ha) (Ext.wr X.old W ha)) W)
theorem Go.newO (X : Cx p l e R s m args below meth c Z own nm bytes maxL rt T locs cells slots h) (pc' : Nat) {C : String} {idx n : Nat} (w : (Jvm.Cond.classLink own idx C).before a0 Z = true) (wi : (Jvm.Cond.instantiable C n).before a0 Z = true) (wz : (Jvm.Cond.initialized C).before a0 Z = true) (hd : decode bytes pc = .ok (.new idx, 3)) (hc : cells + 1 ≤ R.cells) (hl : slots + n ≤ R.slots)
    (k : ∀ T' h' a, Cx p l e R s m args below meth c Z own nm bytes maxL rt T' locs (cells + 1) (slots + n) h' → Ext h h' → h.size = a → Exa Z h' a C → (∀ {O nm d : String} {ty : FieldType}, Laid Z a0 C O nm d → parseFieldDescriptor d = some ty → Fld Z h' a O nm d (defaultValue ty)) → Go p e below En T' m pc' Ls (.ref a :: st)) (hp : pc + 3 = pc' := by rfl) : Go p e below En T m pc Ls st := by
  subst hp
  obtain ⟨T', h', X', e', E, A, D, -, st'⟩ := RoadKit.newO X.sd X.hx X.hZ X.hown w wi wz X.eq (g := mkF m pc Ls st) rfl (hb X.hby hd) hc hl
  exact Go.step st' (k T' h' _ (X.mk' X' e' X.fr (Ext.tr X.old E)) E rfl A D)
theorem Go.initO (X : Cx p l e R s m args below meth c Z own nm bytes maxL rt T locs cells slots h) (pc' : Nat) {idx : Nat} {a : Addr} (w1 : (Jvm.Cond.methodLink own idx Lib.objectInit).before a0 Z = true) (w2 : (Jvm.Cond.instanceMethod Lib.objectInit).before a0 Z = true) (w3 : (Jvm.Cond.code Lib.objectInit ⟨#[0xb1]⟩ 1 none).before a0 Z = true) (W : Nat) (hd : decode bytes pc = .ok (.invokespecial idx, 3)) (hsz : Ls.size = maxL) (hf : 1 ≤ R.frames) (hW : (st.map fun v => v.category).sum ≤ W) (hl : W + 12 ≤ R.locals)
    (k : ∀ T', Cx p l e R s m args below meth c Z own nm bytes maxL rt T' locs cells slots h → Go p e below En T' m pc' Ls st) (hp : pc + 3 = pc' := by rfl) : Go p e below En T m pc Ls (.ref a :: st) := by
  subst hp
  obtain ⟨T', X', e', st'⟩ := RoadKit.initO X.sd X.hx X.hZ X.hown w1 w2 w3 X.eq (g := mkF m pc Ls (.ref a :: st)) rfl (hsz.trans X.hml.symm) rfl (hb X.hby hd) hf (W := W) (by simpa using hW) hl
  exact Go.step st' (k T' (X.mk' X' e' X.fr X.old))
theorem Go.newP (X : Cx p l e R s m args below meth c Z own nm bytes maxL rt T locs cells slots h) (pc' : Nat) {aty : ArrayType} {n : Int32} (w : (Jvm.Cond.arrayClass (newarray.typeOf aty)).before a0 Z = true) (hd : decode bytes pc = .ok (.newarray aty, 2)) (cap : Nat) (hn : ¬ n < 0) (hcap : n.toNatClampNeg ≤ cap) (hb' : cap * 8 ≤ 536870912) (hc : cells + 1 ≤ R.cells) (hl : slots + cap ≤ R.slots)
    (k : ∀ T' h' a kA, Cx p l e R s m args below meth c Z own nm bytes maxL rt T' locs (cells + 1) (slots + cap) h' → Ext h h' → h.size = a → Arv Z h' a kA (newarray.typeOf aty) n [] (defaultValue (newarray.typeOf aty)) → Go p e below En T' m pc' Ls (.ref a :: st)) (hp : pc + 2 = pc' := by rfl) : Go p e below En T m pc Ls (.int n :: st) := by
  subst hp
  obtain ⟨T', h', kA, X', e', E, A, st'⟩ := RoadKit.newP X.sd X.hx X.hZ w X.eq (g := mkF m pc Ls (.int n :: st)) rfl (hb X.hby hd) rfl hn hcap hb' hc hl
  exact Go.step st' (k T' h' _ kA (X.mk' X' e' X.fr (Ext.tr X.old E)) E rfl (Arv.new A hn))
theorem Go.newR (X : Cx p l e R s m args below meth c Z own nm bytes maxL rt T locs cells slots h) (pc' : Nat) {D : String} {idx : Nat} {n : Int32} (w1 : (Jvm.Cond.classLink own idx D).before a0 Z = true) (w2 : (Jvm.Cond.arrayOver (.object D)).before a0 Z = true) (hd : decode bytes pc = .ok (.anewarray idx, 3)) (cap : Nat) (hn : ¬ n < 0) (hcap : n.toNatClampNeg ≤ cap) (hb' : cap * 8 ≤ 536870912) (hc : cells + 1 ≤ R.cells) (hl : slots + cap ≤ R.slots)
    (k : ∀ T' h' a kA, Cx p l e R s m args below meth c Z own nm bytes maxL rt T' locs (cells + 1) (slots + cap) h' → Ext h h' → h.size = a → Ovr Z kA D → Arv Z h' a kA (.object D) n [] .null → Go p e below En T' m pc' Ls (.ref a :: st)) (hp : pc + 3 = pc' := by rfl) : Go p e below En T m pc Ls (.int n :: st) := by
  subst hp
  obtain ⟨T', h', kA, X', e', E, A, O, st'⟩ := RoadKit.newR X.sd X.hx X.hZ X.hown w1 w2 X.eq (g := mkF m pc Ls (.int n :: st)) rfl (hb X.hby hd) rfl hn hcap hb' hc hl
  exact Go.step st' (k T' h' _ kA (X.mk' X' e' X.fr (Ext.tr X.old E)) E rfl O (Arv.new A hn))
theorem Go.stC (X : Cx p l e R s m args below meth c Z own nm bytes maxL rt T locs cells slots h) (pc' : Nat) {a : Addr} {kA : ClassId} {n j x : Int32} {vs : List Value} {d : Value} (V : Arv Z h a kA .char n vs d) (hd : decode bytes pc = .ok (.castore, 1)) (hj : ¬ j < 0 ∧ j < n) (i : Nat) (hi : j.toNatClampNeg = i) (hlt : i < vs.length) (ha : Z.heap.size ≤ a)
    (k : ∀ T' h', Cx p l e R s m args below meth c Z own nm bytes maxL rt T' (locs ++ [⟨a, j.toNatClampNeg⟩]) cells slots h' → Wr h h' a j.toNatClampNeg (.int (nar .char x)) → Arv Z h' a kA .char n (vs.set i (.int (nar .char x))) d → Go p e below En T' m pc' Ls st) (hp : pc + 1 = pc' := by rfl) : Go p e below En T m pc Ls (.int x :: .int j :: .ref a :: st) := by
  subst hp
  obtain ⟨cl, A, q1, S, q3, H, G⟩ := V
  obtain ⟨T', h', X', e', W, st'⟩ := RoadKit.stC X.sd X.hx X.hZ X.eq A (inb_of S hj) (g := mkF m pc Ls (.int x :: .int j :: .ref a :: st)) rfl rfl (hb X.hby hd)
  exact Go.step st' (k T' h' (X.mk' X' e' (Fr.snoc X' X.fr ha) (Ext.wr X.old W ha)) W (Arv.set A q1 S q3 H G (fits_nar_char x) W i hi hlt))
theorem Go.stB (X : Cx p l e R s m args below meth c Z own nm bytes maxL rt T locs cells slots h) (pc' : Nat) {a : Addr} {kA : ClassId} {n j x : Int32} {vs : List Value} {d : Value} (V : Arv Z h a kA .byte n vs d) (hd : decode bytes pc = .ok (.bastore, 1)) (hj : ¬ j < 0 ∧ j < n) (i : Nat) (hi : j.toNatClampNeg = i) (hlt : i < vs.length) (ha : Z.heap.size ≤ a)
    (k : ∀ T' h', Cx p l e R s m args below meth c Z own nm bytes maxL rt T' (locs ++ [⟨a, j.toNatClampNeg⟩]) cells slots h' → Wr h h' a j.toNatClampNeg (.int (nar .byte x)) → Arv Z h' a kA .byte n (vs.set i (.int (nar .byte x))) d → Go p e below En T' m pc' Ls st) (hp : pc + 1 = pc' := by rfl) : Go p e below En T m pc Ls (.int x :: .int j :: .ref a :: st) := by
  subst hp
  obtain ⟨cl, A, q1, S, q3, H, G⟩ := V
  obtain ⟨T', h', X', e', W, st'⟩ := RoadKit.stB X.sd X.hx X.hZ X.eq A (inb_of S hj) (g := mkF m pc Ls (.int x :: .int j :: .ref a :: st)) rfl rfl (hb X.hby hd)
  exact Go.step st' (k T' h' (X.mk' X' e' (Fr.snoc X' X.fr ha) (Ext.wr X.old W ha)) W (Arv.set A q1 S q3 H G (fits_nar_byte x) W i hi hlt))
theorem Go.stR (X : Cx p l e R s m args below meth c Z own nm bytes maxL rt T locs cells slots h) (pc' : Nat) {a y : Addr} {kA : ClassId} {D : String} {n j : Int32} {vs : List Value} {d : Value} (V : Arv Z h a kA (.object D) n vs d) (O : Ovr Z kA D) (I : Ins Z h y D true) (hd : decode bytes pc = .ok (.aastore, 1)) (hj : ¬ j < 0 ∧ j < n) (i : Nat) (hi : j.toNatClampNeg = i) (hlt : i < vs.length) (ha : Z.heap.size ≤ a)
    (k : ∀ T' h', Cx p l e R s m args below meth c Z own nm bytes maxL rt T' (locs ++ [⟨a, j.toNatClampNeg⟩]) cells slots h' → Wr h h' a j.toNatClampNeg (.ref y) → Arv Z h' a kA (.object D) n (vs.set i (.ref y)) d → Go p e below En T' m pc' Ls st) (hp : pc + 1 = pc' := by rfl) : Go p e below En T m pc Ls (.ref y :: .int j :: .ref a :: st) := by
  subst hp
  obtain ⟨cl, A, q1, S, q3, H, G⟩ := V
  obtain ⟨T', h', X', e', W, st'⟩ := RoadKit.stR X.sd X.hx X.hZ X.eq A (inb_of S hj) rfl (Sto.ofV A q1 O I) (g := mkF m pc Ls (.ref y :: .int j :: .ref a :: st)) rfl rfl (hb X.hby hd)
  exact Go.step st' (k T' h' (X.mk' X' e' (Fr.snoc X' X.fr ha) (Ext.wr X.old W ha)) W (Arv.set A q1 S q3 H G rfl W i hi hlt))
theorem Go.alen (X : Cx p l e R s m args below meth c Z own nm bytes maxL rt T locs cells slots h) (pc' : Nat) {a : Addr} {kA : ClassId} {ty : FieldType} {n : Int32} {vs : List Value} {d : Value} (V : Arv Z h a kA ty n vs d) (hd : decode bytes pc = .ok (.arraylength, 1)) (k : Go p e below En T m pc' Ls (.int n :: st)) (hp : pc + 1 = pc' := by rfl) : Go p e below En T m pc Ls (.ref a :: st) := by
  subst hp
  obtain ⟨cl, A, q1, S, q3, H, G⟩ := V
  refine Go.step (fun _ hr => X.sd.arraylength X.hx (by rw [X.eq]; exact A.1) (State.isArrayOf_alike X.hZ.alike A.2.1) (g := mkF m pc Ls (.ref a :: st)) rfl rfl (hb X.hby hd) _ hr) ?_
  rw [len_of S q3]; exact k
theorem Go.caload (X : Cx p l e R s m args below meth c Z own nm bytes maxL rt T locs cells slots h) (pc' : Nat) {a : Addr} {kA : ClassId} {n j : Int32} {vs : List Value} {d v : Value} (V : Arv Z h a kA .char n vs d) (hd : decode bytes pc = .ok (.caload, 1)) (hj : ¬ j < 0 ∧ j < n) (u : vs.getD j.toNatClampNeg d = v) (k : Go p e below En T m pc' Ls (v :: st)) (hp : pc + 1 = pc' := by rfl) : Go p e below En T m pc Ls (.int j :: .ref a :: st) := by
  subst hp
  obtain ⟨cl, A, q1, S, q3, H, G⟩ := V
  exact Go.step (fun _ hr => X.sd.caload X.hx (by rw [X.eq]; exact A.1) (State.isArrayOf_alike X.hZ.alike A.2.1) A.2.2 (inb_of S hj) (H.at (inb_of S hj) u) (g := mkF m pc Ls (.int j :: .ref a :: st)) rfl rfl (hb X.hby hd) _ hr) k
theorem Go.baload (X : Cx p l e R s m args below meth c Z own nm bytes maxL rt T locs cells slots h) (pc' : Nat) {a : Addr} {kA : ClassId} {n j : Int32} {vs : List Value} {d v : Value} (V : Arv Z h a kA .byte n vs d) (hd : decode bytes pc = .ok (.baload, 1)) (hj : ¬ j < 0 ∧ j < n) (u : vs.getD j.toNatClampNeg d = v) (k : Go p e below En T m pc' Ls (v :: st)) (hp : pc + 1 = pc' := by rfl) : Go p e below En T m pc Ls (.int j :: .ref a :: st) := by
  subst hp
  obtain ⟨cl, A, q1, S, q3, H, G⟩ := V
  exact Go.step (fun _ hr => X.sd.baloadBytes X.hx (by rw [X.eq]; exact A.1) (State.isArrayOf_alike X.hZ.alike A.2.1) A.2.2 (inb_of S hj) (H.at (inb_of S hj) u) (g := mkF m pc Ls (.int j :: .ref a :: st)) rfl rfl (hb X.hby hd) _ hr) k
theorem Go.aaload (X : Cx p l e R s m args below meth c Z own nm bytes maxL rt T locs cells slots h) (pc' : Nat) {a : Addr} {kA : ClassId} {ty : FieldType} {n j : Int32} {vs : List Value} {d v : Value} (V : Arv Z h a kA ty n vs d) (hty : ty.isReference = true) (hd : decode bytes pc = .ok (.aaload, 1)) (hj : ¬ j < 0 ∧ j < n) (u : vs.getD j.toNatClampNeg d = v) (k : Go p e below En T m pc' Ls (v :: st)) (hp : pc + 1 = pc' := by rfl) : Go p e below En T m pc Ls (.int j :: .ref a :: st) := by
  subst hp
  obtain ⟨cl, A, q1, S, q3, H, G⟩ := V
  exact Go.step (fun _ hr => X.sd.aaload X.hx (by rw [X.eq]; exact A.1) (State.isArrayOf_alike X.hZ.alike A.2.1) hty A.2.2 (inb_of S hj) (H.at (inb_of S hj) u) (g := mkF m pc Ls (.int j :: .ref a :: st)) rfl rfl (hb X.hby hd) _ hr) k
theorem Go.castY (X : Cx p l e R s m args below meth c Z own nm bytes maxL rt T locs cells slots h) (pc' : Nat) {K : String} {idx : Nat} {a : Addr} (w : (Jvm.Cond.classLink own idx K).before a0 Z = true) (F : Ins Z h a K true) (hd : decode bytes pc = .ok (.checkcast idx, 3)) (k : ∀ T', Cx p l e R s m args below meth c Z own nm bytes maxL rt T' locs cells slots h → Go p e below En T' m pc' Ls (.ref a :: st)) (hp : pc + 3 = pc' := by rfl) : Go p e below En T m pc Ls (.ref a :: st) := by
  subst hp
  obtain ⟨T', X', e', st'⟩ := RoadKit.castY X.sd X.hx X.hZ X.hown w X.eq F (g := mkF m pc Ls (.ref a :: st)) rfl rfl (hb X.hby hd)
  exact Go.step st' (k T' (X.mk' X' e' X.fr X.old))
theorem Go.instY (X : Cx p l e R s m args below meth c Z own nm bytes maxL rt T locs cells slots h) (pc' : Nat) {K : String} {idx : Nat} {a : Addr} (w : (Jvm.Cond.classLink own idx K).before a0 Z = true) (F : Ins Z h a K true) (hd : decode bytes pc = .ok (.instanceof idx, 3)) (k : ∀ T', Cx p l e R s m args below meth c Z own nm bytes maxL rt T' locs cells slots h → Go p e below En T' m pc' Ls (.int 1 :: st)) (hp : pc + 3 = pc' := by rfl) : Go p e below En T m pc Ls (.ref a :: st) := by
  subst hp
  obtain ⟨T', X', e', st'⟩ := RoadKit.instY X.sd X.hx X.hZ X.hown w X.eq F (g := mkF m pc Ls (.ref a :: st)) rfl rfl (hb X.hby hd)
  exact Go.step st' (k T' (X.mk' X' e' X.fr X.old))
theorem Go.instNo (X : Cx p l e R s m args below meth c Z own nm bytes maxL rt T locs cells slots h) (pc' : Nat) {K D : String} {idx : Nat} {a : Addr} (w : (Jvm.Cond.classLink own idx K).before a0 Z = true) (E : Exa Z h a D) (F : ∃ c t, Z.vm.findClass D = some c ∧ Z.vm.findClass K = some t ∧ Z.vm.assignable c t = false) (hd : decode bytes pc = .ok (.instanceof idx, 3)) (k : ∀ T', Cx p l e R s m args below meth c Z own nm bytes maxL rt T' locs cells slots h → Go p e below En T' m pc' Ls (.int 0 :: st)) (hp : pc + 3 = pc' := by rfl) : Go p e below En T m pc Ls (.ref a :: st) := by
  subst hp
  obtain ⟨T', X', e', st'⟩ := RoadKit.instNo X.sd X.hx X.hZ X.hown w X.eq E F (g := mkF m pc Ls (.ref a :: st)) rfl rfl (hb X.hby hd)
  exact Go.step st' (k T' (X.mk' X' e' X.fr X.old))
theorem Go.instNull (X : Cx p l e R s m args below meth c Z own nm bytes maxL rt T locs cells slots h) (pc' : Nat) {idx : Nat} (hd : decode bytes pc = .ok (.instanceof idx, 3)) (k : Go p e below En T m pc' Ls (.int 0 :: st)) (hp : pc + 3 = pc' := by rfl) : Go p e below En T m pc Ls (.null :: st) := by
  subst hp
  exact Go.step (Jvm.Stand.instanceofNull X.sd X.hx (g := mkF m pc Ls (.null :: st)) rfl rfl (hb X.hby hd)) k
theorem own_noSub {C S K : String} {n : Nat} (w : (Jvm.Cond.superclass C S).before a0 Z = true) (wk : (Jvm.Cond.instantiable K n).before a0 Z = true) (wr : (Jvm.Cond.noSuperclass S).before a0 Z = true) (h1 : C ≠ K) (h2 : S ≠ K) : ∃ c t, Z.vm.findClass C = some c ∧ Z.vm.findClass K = some t ∧ Z.vm.assignable c t = false := by
  obtain ⟨t, kt, g1, g2, g3, g4, -⟩ := Cond.instantiable_spec wk
  have hi : kt.isInterface = false := by rw [Bool.or_eq_false_iff] at g4; exact g4.1
  have nr : NS Z S K := by
    obtain ⟨c, k, r1, r2, r3, -, -⟩ := Cond.noSuperclass_spec wr
    refine ⟨c, t, r1, g1, fun fuel => ?_⟩
    have ne := ids_ne r1 g1 h2
    cases fuel with
    | zero => rfl
    | succ f => simp [Vm.isSubclassAux, ne, r2, r3]
  obtain ⟨c, t', h0, g0, n3⟩ := NS.step w nr h1
  cases g1.symm.trans g0
  obtain ⟨p, k, kp, -, k2, -, -, k5, -, -⟩ := Cond.superclass_spec h0 w
  have ne := ids_ne h0 g1 h1
  refine ⟨c, t, h0, g1, ?_⟩
  show Z.vm.assignableAux (255 + 1) c t = false
  simp [Vm.assignableAux, ne, k2, g2, k5, g3, hi, Vm.isSubclass, n3]
theorem Go.mono {En' : Option Value → State → Prop} (f : ∀ v t, En' v t → En v t) (k : Go p e below En' T m pc Ls st) : Go p e below En T m pc Ls st := by
  obtain ⟨s₂, v, k1, k2, k3, k4⟩ := k
  exact ⟨s₂, v, k1, k2, k3, f _ _ k4⟩
theorem Cx.back (X : Cx p l e R s m args below meth c Z own nm bytes maxL rt T locs cells slots h) {y : MethodName} {by' : ByteArray} {ml' : Nat} {rt' : Option FieldType} {rm : Room} {as' : Array Value} {Q' : Option Value → Heap → Prop} {len W : Nat} (ct : Ct l Z [] y by' ml' rt' rm as' h Q') (wc : (Jvm.Cond.code y by' ml' rt').before a0 Z = true) (wz : (Jvm.Cond.initialized y.cls).before a0 Z = true) (hf : rm.frames + 1 ≤ R.frames) (hl : W + (ml' + 11) + rm.locals ≤ R.locals) :
    Back l R p e below s args y len W (fun A a => a = as' ∧ A.U.heap = h ∧ A.cells + rm.cells ≤ R.cells ∧ A.slots + rm.slots ≤ R.slots) (fun A _ v B => ∃ L, (Fr Z.heap.size L ∧ Ext Z.heap B.U.heap ∧ Q' v B.U.heap) ∧ B.locs = A.locs ++ L ∧ B.cells = A.cells + rm.cells ∧ B.slots = A.slots + rm.slots) :=
  backOf (Q := fun v hh L => Fr Z.heap.size L ∧ Ext Z.heap hh ∧ Q' v hh) (ct X.old) X.hZ wc wz hf hl
theorem Go.callS (X : Cx p l e R s m args below meth c Z own nm bytes maxL rt T locs cells slots h) (pc' : Nat) {idx : Nat} {y : MethodName} {by' : ByteArray} {ml' : Nat} {rt' : Option FieldType} {rm : Room} {ps : List FieldType} {rr : Option FieldType} {Q' : Option Value → Heap → Prop} (argsL rest : List Value) (W : Nat) (wl : (Jvm.Cond.methodLink own idx y).before a0 Z = true) (ws : (Jvm.Cond.static y).before a0 Z = true) (wz : (Jvm.Cond.initialized y.cls).before a0 Z = true) (hy : y.cls ≠ "java/lang/invoke/MethodHandle" ∧ y.cls ≠ "java/lang/invoke/VarHandle") (wc : (Jvm.Cond.code y by' ml' rt').before a0 Z = true) (pd : parseMethodDescriptor y.desc = some ⟨ps, rr⟩) (hd : decode bytes pc = .ok (.invokestatic idx, 3)) (ct : Ct l Z [] y by' ml' rt' rm (argsL.toArray) h Q') (hlen : argsL.length = ps.length) (hst : st = argsL.reverse ++ rest) (hsz : Ls.size = maxL) (hW : (rest.map fun v => v.category).sum ≤ W) (hf : rm.frames + 1 ≤ R.frames) (hl : W + (ml' + 11) + rm.locals ≤ R.locals) (hce : cells + rm.cells ≤ R.cells) (hsl : slots + rm.slots ≤ R.slots)
    (k : ∀ T' v L, Cx p l e R s m args below meth c Z own nm bytes maxL rt T' (locs ++ L) (cells + rm.cells) (slots + rm.slots) T'.heap → Q' v T'.heap → Go p e below En T' m pc' Ls (v.toList ++ rest)) (hp : pc + 3 = pc' := by rfl) : Go p e below En T m pc Ls st := by
  subst hp
  obtain ⟨v, _, ⟨T', L', k', n'⟩, -, X', ⟨L, hq, e1, e2, e3⟩, st'⟩ := Jvm.LawKit.callS X.sd X.hx (y := y) X.hown (mvT X.hZ wl) (mvT X.hZ ws) (mvT X.hZ wz) (mvT X.hZ wc) hy (X.back (W := W) ct wc wz hf hl) (g := mkF m pc Ls st) rfl (hsz.trans X.hml.symm) (argsL := argsL) (rest := rest) (lenOf pd hlen) hst (by simpa using hW) (hb X.hby hd) (fun _ _ => ⟨rfl, X.eq, hce, hsl⟩)
  dsimp only [Pt.U, Pt.locs, Pt.cells, Pt.slots] at X' e1 e2 e3 st' hq
  subst e1 e2 e3
  exact Go.step st' (k T' v L (X.mk' X' rfl (X.fr.app hq.1) hq.2.1) hq.2.2)
theorem Go.callSP (X : Cx p l e R s m args below meth c Z own nm bytes maxL rt T locs cells slots h) (pc' : Nat) {idx : Nat} {y : MethodName} {by' : ByteArray} {ml' : Nat} {rt' : Option FieldType} {rm : Room} {ps : List FieldType} {rr : Option FieldType} {v : Value} (argsL rest : List Value) (W : Nat) (wl : (Jvm.Cond.methodLink own idx y).before a0 Z = true) (ws : (Jvm.Cond.static y).before a0 Z = true) (wz : (Jvm.Cond.initialized y.cls).before a0 Z = true) (hy : y.cls ≠ "java/lang/invoke/MethodHandle" ∧ y.cls ≠ "java/lang/invoke/VarHandle") (wc : (Jvm.Cond.code y by' ml' rt').before a0 Z = true) (pd : parseMethodDescriptor y.desc = some ⟨ps, rr⟩) (hd : decode bytes pc = .ok (.invokestatic idx, 3)) (ct : Ct l Z [] y by' ml' rt' rm (argsL.toArray) h (Pu h v)) (hlen : argsL.length = ps.length) (hst : st = argsL.reverse ++ rest) (hsz : Ls.size = maxL) (hW : (rest.map fun v => v.category).sum ≤ W) (hf : rm.frames + 1 ≤ R.frames) (hl : W + (ml' + 11) + rm.locals ≤ R.locals) (hce : cells + rm.cells ≤ R.cells) (hsl : slots + rm.slots ≤ R.slots)
    (k : ∀ T' L, Cx p l e R s m args below meth c Z own nm bytes maxL rt T' (locs ++ L) (cells + rm.cells) (slots + rm.slots) h → Go p e below En T' m pc' Ls (v :: rest)) (hp : pc + 3 = pc' := by rfl) : Go p e below En T m pc Ls st :=
  Go.callS X pc' argsL rest W wl ws wz hy wc pd hd ct hlen hst hsz hW hf hl hce hsl (fun T' v' L X' q => by
    obtain ⟨rfl, q2⟩ := q
    rw [q2] at X'
    exact k T' L X') hp
theorem Go.callI (X : Cx p l e R s m args below meth c Z own nm bytes maxL rt T locs cells slots h) (pc' : Nat) {idx : Nat} {y : MethodName} {by' : ByteArray} {ml' : Nat} {rt' : Option FieldType} {rm : Room} {ps : List FieldType} {rr : Option FieldType} {a : Addr} {Q' : Option Value → Heap → Prop} (argsL rest : List Value) (W : Nat) (hy1 : y.name = "<init>") (wl : (Jvm.Cond.methodLink own idx y).before a0 Z = true) (wm : (Jvm.Cond.instanceMethod y).before a0 Z = true) (wz : (Jvm.Cond.initialized y.cls).before a0 Z = true) (hy : y.cls ≠ "java/lang/invoke/MethodHandle" ∧ y.cls ≠ "java/lang/invoke/VarHandle") (hrn : rt' = none) (wc : (Jvm.Cond.code y by' ml' rt').before a0 Z = true) (pd : parseMethodDescriptor y.desc = some ⟨ps, rr⟩) (hd : decode bytes pc = .ok (.invokespecial idx, 3)) (ct : Ct l Z [] y by' ml' rt' rm ((Value.ref a :: argsL).toArray) h Q') (hlen : argsL.length = ps.length) (hst : st = argsL.reverse ++ .ref a :: rest) (hsz : Ls.size = maxL) (hW : (rest.map fun v => v.category).sum ≤ W) (hf : rm.frames + 1 ≤ R.frames) (hl : W + (ml' + 11) + rm.locals ≤ R.locals) (hce : cells + rm.cells ≤ R.cells) (hsl : slots + rm.slots ≤ R.slots)
    (k : ∀ T' v L, Cx p l e R s m args below meth c Z own nm bytes maxL rt T' (locs ++ L) (cells + rm.cells) (slots + rm.slots) T'.heap → Q' v T'.heap → Go p e below En T' m pc' Ls (v.toList ++ rest)) (hp : pc + 3 = pc' := by rfl) : Go p e below En T m pc Ls st := by
  subst hp
  subst hrn
  obtain ⟨v, _, ⟨T', L', k', n'⟩, -, X', ⟨L, hq, e1, e2, e3⟩, st'⟩ := X.sd.specialBack X.hx (y := y) hy1 X.hown (mvT X.hZ wl) (mvT X.hZ wm) (mvT X.hZ wc) hy (X.back (W := W) ct wc wz hf hl) (g := mkF m pc Ls st) rfl (hsz.trans X.hml.symm) (Steps.refl _) (a := a) (argsL := argsL) (rest := rest) (lenOf pd hlen) hst (by simpa using hW) (hb X.hby hd) (fun _ _ => ⟨rfl, X.eq, hce, hsl⟩)
  dsimp only [Pt.U, Pt.locs, Pt.cells, Pt.slots] at X' e1 e2 e3 st' hq
  subst e1 e2 e3
  exact Go.step (fun _ hr => Steps.trans st' hr) (k T' v L (X.mk' X' rfl (X.fr.app hq.1) hq.2.1) hq.2.2)
theorem Go.callIP (X : Cx p l e R s m args below meth c Z own nm bytes maxL rt T locs cells slots h) (pc' : Nat) {idx : Nat} {y : MethodName} {by' : ByteArray} {ml' : Nat} {rt' : Option FieldType} {rm : Room} {ps : List FieldType} {rr : Option FieldType} {a : Addr} {v : Value} (argsL rest : List Value) (W : Nat) (hy1 : y.name = "<init>") (wl : (Jvm.Cond.methodLink own idx y).before a0 Z = true) (wm : (Jvm.Cond.instanceMethod y).before a0 Z = true) (wz : (Jvm.Cond.initialized y.cls).before a0 Z = true) (hy : y.cls ≠ "java/lang/invoke/MethodHandle" ∧ y.cls ≠ "java/lang/invoke/VarHandle") (hrn : rt' = none) (wc : (Jvm.Cond.code y by' ml' rt').before a0 Z = true) (pd : parseMethodDescriptor y.desc = some ⟨ps, rr⟩) (hd : decode bytes pc = .ok (.invokespecial idx, 3)) (ct : Ct l Z [] y by' ml' rt' rm ((Value.ref a :: argsL).toArray) h (Pu h v)) (hlen : argsL.length = ps.length) (hst : st = argsL.reverse ++ .ref a :: rest) (hsz : Ls.size = maxL) (hW : (rest.map fun v => v.category).sum ≤ W) (hf : rm.frames + 1 ≤ R.frames) (hl : W + (ml' + 11) + rm.locals ≤ R.locals) (hce : cells + rm.cells ≤ R.cells) (hsl : slots + rm.slots ≤ R.slots)
    (k : ∀ T' L, Cx p l e R s m args below meth c Z own nm bytes maxL rt T' (locs ++ L) (cells + rm.cells) (slots + rm.slots) h → Go p e below En T' m pc' Ls (v :: rest)) (hp : pc + 3 = pc' := by rfl) : Go p e below En T m pc Ls st :=
  Go.callI X pc' argsL rest W hy1 wl wm wz hy hrn wc pd hd ct hlen hst hsz hW hf hl hce hsl (fun T' v' L X' q => by
    obtain ⟨rfl, q2⟩ := q
    rw [q2] at X'
    exact k T' L X') hp
theorem Go.callV (X : Cx p l e R s m args below meth c Z own nm bytes maxL rt T locs cells slots h) (pc' : Nat) {idx : Nat} {y z : MethodName} {C : String} {by' : ByteArray} {ml' : Nat} {rt' : Option FieldType} {rm : Room} {ps : List FieldType} {rr : Option FieldType} {a : Addr} {Q' : Option Value → Heap → Prop} (argsL rest : List Value) (W : Nat) (wl : (Jvm.Cond.methodLink own idx y).before a0 Z = true) (wd : (Jvm.Cond.declares y).before a0 Z = true) (wf : (Jvm.Cond.selects C y z).before a0 Z = true) (nf : NotFace s y) (wm : (Jvm.Cond.instanceMethod z).before a0 Z = true) (wz : (Jvm.Cond.initialized z.cls).before a0 Z = true) (hy : y.cls ≠ "java/lang/invoke/MethodHandle" ∧ y.cls ≠ "java/lang/invoke/VarHandle") (E : Exa Z h a C) (wc : (Jvm.Cond.code z by' ml' rt').before a0 Z = true) (pd : parseMethodDescriptor y.desc = some ⟨ps, rr⟩) (hd : decode bytes pc = .ok (.invokevirtual idx, 3)) (ct : Ct l Z [] z by' ml' rt' rm ((Value.ref a :: argsL).toArray) h Q') (hlen : argsL.length = ps.length) (hst : st = argsL.reverse ++ .ref a :: rest) (hsz : Ls.size = maxL) (hW : (rest.map fun v => v.category).sum ≤ W) (hf : rm.frames + 1 ≤ R.frames) (hl : W + (ml' + 11) + rm.locals ≤ R.locals) (hce : cells + rm.cells ≤ R.cells) (hsl : slots + rm.slots ≤ R.slots)
    (k : ∀ T' v L, Cx p l e R s m args below meth c Z own nm bytes maxL rt T' (locs ++ L) (cells + rm.cells) (slots + rm.slots) T'.heap → Q' v T'.heap → Go p e below En T' m pc' Ls (v.toList ++ rest)) (hp : pc + 3 = pc' := by rfl) : Go p e below En T m pc Ls st := by
  subst hp
  obtain ⟨cq, kq, qa, qb, qc⟩ := isOf X.hZ X.eq E
  obtain ⟨v, _, ⟨T', L', k', n'⟩, -, X', ⟨L, hq, e1, e2, e3⟩, st'⟩ := X.sd.virtualBack X.hx (y := y) (z := z) X.hown (mvT X.hZ wl) (mvT X.hZ wd) nf (mvT X.hZ wf) (mvT X.hZ wm) hy (X.back (W := W) ct wc wz hf hl) qa qc (g := mkF m pc Ls st) rfl (hsz.trans X.hml.symm) (Steps.refl _) (argsL := argsL) (rest := rest) (lenOf pd hlen) hst (by simpa using hW) (hb X.hby hd) (fun _ _ => ⟨rfl, X.eq, hce, hsl⟩)
  dsimp only [Pt.U, Pt.locs, Pt.cells, Pt.slots] at X' e1 e2 e3 st' hq
  subst e1 e2 e3
  exact Go.step (fun _ hr => Steps.trans st' hr) (k T' v L (X.mk' X' rfl (X.fr.app hq.1) hq.2.1) hq.2.2)
theorem Go.callVP (X : Cx p l e R s m args below meth c Z own nm bytes maxL rt T locs cells slots h) (pc' : Nat) {idx : Nat} {y z : MethodName} {C : String} {by' : ByteArray} {ml' : Nat} {rt' : Option FieldType} {rm : Room} {ps : List FieldType} {rr : Option FieldType} {a : Addr} {v : Value} (argsL rest : List Value) (W : Nat) (wl : (Jvm.Cond.methodLink own idx y).before a0 Z = true) (wd : (Jvm.Cond.declares y).before a0 Z = true) (wf : (Jvm.Cond.selects C y z).before a0 Z = true) (nf : NotFace s y) (wm : (Jvm.Cond.instanceMethod z).before a0 Z = true) (wz : (Jvm.Cond.initialized z.cls).before a0 Z = true) (hy : y.cls ≠ "java/lang/invoke/MethodHandle" ∧ y.cls ≠ "java/lang/invoke/VarHandle") (E : Exa Z h a C) (wc : (Jvm.Cond.code z by' ml' rt').before a0 Z = true) (pd : parseMethodDescriptor y.desc = some ⟨ps, rr⟩) (hd : decode bytes pc = .ok (.invokevirtual idx, 3)) (ct : Ct l Z [] z by' ml' rt' rm ((Value.ref a :: argsL).toArray) h (Pu h v)) (hlen : argsL.length = ps.length) (hst : st = argsL.reverse ++ .ref a :: rest) (hsz : Ls.size = maxL) (hW : (rest.map fun v => v.category).sum ≤ W) (hf : rm.frames + 1 ≤ R.frames) (hl : W + (ml' + 11) + rm.locals ≤ R.locals) (hce : cells + rm.cells ≤ R.cells) (hsl : slots + rm.slots ≤ R.slots)
    (k : ∀ T' L, Cx p l e R s m args below meth c Z own nm bytes maxL rt T' (locs ++ L) (cells + rm.cells) (slots + rm.slots) h → Go p e below En T' m pc' Ls (v :: rest)) (hp : pc + 3 = pc' := by rfl) : Go p e below En T m pc Ls st :=
  Go.callV X pc' argsL rest W wl wd wf nf wm wz hy E wc pd hd ct hlen hst hsz hW hf hl hce hsl (fun T' v' L X' q => by
    obtain ⟨rfl, q2⟩ := q
    rw [q2] at X'
    exact k T' L X') hp
theorem Go.callU (X : Cx p l e R s m args below meth c Z own nm bytes maxL rt T locs cells slots h) (pc' : Nat) {idx : Nat} {y z : MethodName} {C owner : String} {by' : ByteArray} {ml' : Nat} {rt' : Option FieldType} {rm : Room} {ps : List FieldType} {rr : Option FieldType} {a : Addr} {Q' : Option Value → Heap → Prop} (argsL rest : List Value) (W : Nat) (wl : (Jvm.Cond.methodLink own idx y).before a0 Z = true) (wsm : (Jvm.Cond.sameMethod y.cls owner y.name y.desc).before a0 Z = true) (wd : (Jvm.Cond.declares ⟨owner, y.name, y.desc⟩).before a0 Z = true) (wf : (Jvm.Cond.selects C y z).before a0 Z = true) (wm : (Jvm.Cond.instanceMethod z).before a0 Z = true) (wz : (Jvm.Cond.initialized z.cls).before a0 Z = true) (hy : owner ≠ "java/lang/invoke/MethodHandle" ∧ owner ≠ "java/lang/invoke/VarHandle") (E : Exa Z h a C) (wc : (Jvm.Cond.code z by' ml' rt').before a0 Z = true) (pd : parseMethodDescriptor y.desc = some ⟨ps, rr⟩) (hd : decode bytes pc = .ok (.invokevirtual idx, 3)) (ct : Ct l Z [] z by' ml' rt' rm ((Value.ref a :: argsL).toArray) h Q') (hlen : argsL.length = ps.length) (hst : st = argsL.reverse ++ .ref a :: rest) (hsz : Ls.size = maxL) (hW : (rest.map fun v => v.category).sum ≤ W) (hf : rm.frames + 1 ≤ R.frames) (hl : W + (ml' + 11) + rm.locals ≤ R.locals) (hce : cells + rm.cells ≤ R.cells) (hsl : slots + rm.slots ≤ R.slots)
    (k : ∀ T' v L, Cx p l e R s m args below meth c Z own nm bytes maxL rt T' (locs ++ L) (cells + rm.cells) (slots + rm.slots) T'.heap → Q' v T'.heap → Go p e below En T' m pc' Ls (v.toList ++ rest)) (hp : pc + 3 = pc' := by rfl) : Go p e below En T m pc Ls st := by
  subst hp
  obtain ⟨cq, kq, qa, qb, qc⟩ := isOf X.hZ X.eq E
  obtain ⟨v, _, ⟨T', L', k', n'⟩, -, X', ⟨L, hq, e1, e2, e3⟩, st'⟩ := X.sd.virtualBackUp X.hx (x := y) (y := z) X.hown (mvT X.hZ wl) (mvT X.hZ wsm) (mvT X.hZ wd) hy (mvT X.hZ wf) (mvT X.hZ wm) (X.back (W := W) ct wc wz hf hl) qa qc (g := mkF m pc Ls st) rfl (hsz.trans X.hml.symm) (Steps.refl _) (argsL := argsL) (rest := rest) (lenOf pd hlen) hst (by simpa using hW) (hb X.hby hd) (fun _ _ => ⟨rfl, X.eq, hce, hsl⟩)
  dsimp only [Pt.U, Pt.locs, Pt.cells, Pt.slots] at X' e1 e2 e3 st' hq
  subst e1 e2 e3
  exact Go.step (fun _ hr => Steps.trans st' hr) (k T' v L (X.mk' X' rfl (X.fr.app hq.1) hq.2.1) hq.2.2)
theorem Go.callUP (X : Cx p l e R s m args below meth c Z own nm bytes maxL rt T locs cells slots h) (pc' : Nat) {idx : Nat} {y z : MethodName} {C owner : String} {by' : ByteArray} {ml' : Nat} {rt' : Option FieldType} {rm : Room} {ps : List FieldType} {rr : Option FieldType} {a : Addr} {v : Value} (argsL rest : List Value) (W : Nat) (wl : (Jvm.Cond.methodLink own idx y).before a0 Z = true) (wsm : (Jvm.Cond.sameMethod y.cls owner y.name y.desc).before a0 Z = true) (wd : (Jvm.Cond.declares ⟨owner, y.name, y.desc⟩).before a0 Z = true) (wf : (Jvm.Cond.selects C y z).before a0 Z = true) (wm : (Jvm.Cond.instanceMethod z).before a0 Z = true) (wz : (Jvm.Cond.initialized z.cls).before a0 Z = true) (hy : owner ≠ "java/lang/invoke/MethodHandle" ∧ owner ≠ "java/lang/invoke/VarHandle") (E : Exa Z h a C) (wc : (Jvm.Cond.code z by' ml' rt').before a0 Z = true) (pd : parseMethodDescriptor y.desc = some ⟨ps, rr⟩) (hd : decode bytes pc = .ok (.invokevirtual idx, 3)) (ct : Ct l Z [] z by' ml' rt' rm ((Value.ref a :: argsL).toArray) h (Pu h v)) (hlen : argsL.length = ps.length) (hst : st = argsL.reverse ++ .ref a :: rest) (hsz : Ls.size = maxL) (hW : (rest.map fun v => v.category).sum ≤ W) (hf : rm.frames + 1 ≤ R.frames) (hl : W + (ml' + 11) + rm.locals ≤ R.locals) (hce : cells + rm.cells ≤ R.cells) (hsl : slots + rm.slots ≤ R.slots)
    (k : ∀ T' L, Cx p l e R s m args below meth c Z own nm bytes maxL rt T' (locs ++ L) (cells + rm.cells) (slots + rm.slots) h → Go p e below En T' m pc' Ls (v :: rest)) (hp : pc + 3 = pc' := by rfl) : Go p e below En T m pc Ls st :=
  Go.callU X pc' argsL rest W wl wsm wd wf wm wz hy E wc pd hd ct hlen hst hsz hW hf hl hce hsl (fun T' v' L X' q => by
    obtain ⟨rfl, q2⟩ := q
    rw [q2] at X'
    exact k T' L X') hp
theorem Cx.more {cells' slots' : Nat} (X : Cx p l e R s m args below meth c Z own nm bytes maxL rt T locs cells slots h) (q : cells ≤ cells' := by decide) (r : slots ≤ slots' := by decide) : Cx p l e R s m args below meth c Z own nm bytes maxL rt T locs cells' slots' h := X.mk' (X.sd.more q r) X.eq X.fr X.old
theorem Go.join (X : Cx p l e R s m args below meth c Z own nm bytes maxL rt T locs cells slots h) {α : Type} (P : α → Heap → Prop) (pc1 : Nat) (Ls1 : α → Array Slot) (st1 : α → List Value) (c1 s1 : Nat)
    (tail : ∀ T' locs' h' a, Cx p l e R s m args below meth c Z own nm bytes maxL rt T' locs' c1 s1 h' → P a h' → Go p e below En T' m pc1 (Ls1 a) (st1 a))
    (heads : (∀ T' locs' h' a, Cx p l e R s m args below meth c Z own nm bytes maxL rt T' locs' c1 s1 h' → P a h' → Go p e below En T' m pc1 (Ls1 a) (st1 a)) → Go p e below En T m pc Ls st) : Go p e below En T m pc Ls st := heads tail
end Kit

section Ankit
variable {p : Program} {l : Launch} {e : Env} {R : Room} {s : State} {m : MethodId} {args : Array Value} {below : List Frame} {meth : Method} {c : Code} {T : State} {locs : List Loc} {cells slots : Nat} {Z : State} {a0 : Array Value} {h h' : Heap} {own nm : String} {bytes : ByteArray} {maxL : Nat} {rt : Option FieldType} {En : Option Value → State → Prop} {pc : Nat} {Ls : Array Slot} {st : List Value}
theorem n_int {n : Nat} (hn : n < 2147483648) : (Int32.ofNat n).toInt = n := len_toInt hn
theorem n_succ (i : Nat) : Int32.ofNat i + 1 = Int32.ofNat (i + 1) := by rw [Int32.ofNat_add]; rfl
theorem n_lt {i n : Nat} (hi : i < n) (hn : n < 2147483648) : Int32.ofNat i < Int32.ofNat n := by rw [Int32.lt_iff_toInt_lt, n_int hn, n_int (by omega)]; omega
theorem n_nlt {i n : Nat} (hi : n ≤ i) (hn : i < 2147483648) : ¬ Int32.ofNat i < Int32.ofNat n := by rw [Int32.lt_iff_toInt_lt, n_int hn, n_int (by omega)]; omega
theorem n_nn {n : Nat} (hn : n < 2147483648) : ¬ Int32.ofNat n < 0 := by rw [Int32.lt_iff_toInt_lt, n_int hn]; simp
theorem n_cl {n : Nat} (hn : n < 2147483648) : (Int32.ofNat n).toNatClampNeg = n := by simp [Int32.toNatClampNeg, n_int hn]
theorem n_inj {i n : Nat} (hi : i < 2147483648) (hn : n < 2147483648) (q : Int32.ofNat i = Int32.ofNat n) : i = n := by
  have := congrArg Int32.toInt q
  rw [n_int hi, n_int hn] at this
  omega
theorem n_b (x : Int32) : x.toInt8.toInt32.toInt8.toInt32 = x.toInt8.toInt32 := by simp
theorem n_nb (x : Int32) : nar .byte x.toInt8.toInt32 = x.toInt8.toInt32 := n_b x
/-- an array of n ints (bytes, chars ..) that holds f 0, f 1, .. -/
def An (Z : State) (h : Heap) (a : Addr) (ty : FieldType) (n : Nat) (f : Nat → Int32) : Prop := n < 2147483648 ∧ ∃ k vs d, Arv Z h a k ty (Int32.ofNat n) vs d ∧ vs.length = n ∧ ∀ j, j < n → vs.getD j d = Value.int (f j)
def upd (f : Nat → Int32) (i : Nat) (x : Int32) : Nat → Int32 := fun j => if j = i then x else f j
variable {a b : Addr} {ty : FieldType} {n : Nat} {f g : Nat → Int32}
theorem An.len (A : An Z h a ty n f) : n < 2147483648 := A.1
theorem An.lt (A : An Z h a ty n f) : a < h.size := by obtain ⟨-, k, vs, d, V, -⟩ := A; exact V.lt
theorem An.ext (A : An Z h a ty n f) (E : Ext h h') : An Z h' a ty n f := by obtain ⟨q, k, vs, d, V, r⟩ := A; exact ⟨q, k, vs, d, V.ext E, r⟩
theorem An.other {i : Nat} {x : Value} (A : An Z h b ty n f) (W : Wr h h' a i x) (q : b ≠ a) : An Z h' b ty n f := by obtain ⟨q0, k, vs, d, V, r⟩ := A; exact ⟨q0, k, vs, d, V.other W q, r⟩
theorem An.keep {ws : List Addr} (A : An Z h a ty n f) (K : Keep h h' ws) (q : a ∉ ws) : An Z h' a ty n f := by obtain ⟨q0, k, vs, d, V, r⟩ := A; exact ⟨q0, k, vs, d, V.keep K q, r⟩
theorem An.congr (A : An Z h a ty n f) (q : ∀ j, j < n → f j = g j) : An Z h a ty n g := by obtain ⟨q0, k, vs, d, V, r1, r2⟩ := A; exact ⟨q0, k, vs, d, V, r1, fun j hj => by rw [r2 j hj, q j hj]⟩
theorem An.new {k : ClassId} (V : Arv Z h a k ty (Int32.ofNat n) [] (.int 0)) (hn : n < 2147483648) : An Z h a ty n (fun _ => 0) := by
  refine ⟨hn, k, List.replicate n (.int 0), .int 0, V.pad (pad_rep [] (.int 0) n), by simp, fun j hj => ?_⟩
  rw [List.getD_eq_getElem?_getD, List.getElem?_replicate]
  simp [hj]
theorem An.inb (A : An Z h a ty n f) {i : Nat} (hi : i < n) : ¬ Int32.ofNat i < 0 ∧ Int32.ofNat i < Int32.ofNat n := ⟨n_nn (Nat.lt_trans hi A.1), n_lt hi A.1⟩
theorem An.sets {k : ClassId} {vs : List Value} {d : Value} {i : Nat} {x : Int32} (V : Arv Z h a k ty (Int32.ofNat n) (vs.set i (.int x)) d) (hn : n < 2147483648) (hl : vs.length = n) (hi : i < n) (r : ∀ j, j < n → vs.getD j d = Value.int (f j)) : An Z h a ty n (upd f i x) := by
  refine ⟨hn, k, vs.set i (.int x), d, V, by simp [hl], fun j hj => ?_⟩
  unfold upd
  rw [List.getD_eq_getElem?_getD]
  by_cases q : j = i
  · subst q
    rw [List.getElem?_set_self (by omega), if_pos rfl]; rfl
  · rw [List.getElem?_set_ne (Ne.symm q), if_neg q, ← List.getD_eq_getElem?_getD]; exact r j hj
theorem Go.alenN (X : Cx p l e R s m args below meth c Z own nm bytes maxL rt T locs cells slots h) (pc' : Nat) (A : An Z h a ty n f) (hd : decode bytes pc = .ok (.arraylength, 1)) (k : Go p e below En T m pc' Ls (.int (Int32.ofNat n) :: st)) (hp : pc + 1 = pc' := by rfl) : Go p e below En T m pc Ls (.ref a :: st) := by
  obtain ⟨q, kA, vs, d, V, r1, r2⟩ := A
  exact Go.alen X pc' V hd k hp
theorem Go.caN (X : Cx p l e R s m args below meth c Z own nm bytes maxL rt T locs cells slots h) (pc' : Nat) (A : An Z h a .char n f) (i : Nat) (hi : i < n) (hd : decode bytes pc = .ok (.caload, 1)) (k : Go p e below En T m pc' Ls (.int (f i) :: st)) (hp : pc + 1 = pc' := by rfl) : Go p e below En T m pc Ls (.int (Int32.ofNat i) :: .ref a :: st) := by
  have hj := A.inb hi
  obtain ⟨q, kA, vs, d, V, r1, r2⟩ := A
  exact Go.caload X pc' V hd hj (by rw [n_cl (Nat.lt_trans hi q)]; exact r2 i hi) k hp
theorem Go.baN (X : Cx p l e R s m args below meth c Z own nm bytes maxL rt T locs cells slots h) (pc' : Nat) (A : An Z h a .byte n f) (i : Nat) (hi : i < n) (hd : decode bytes pc = .ok (.baload, 1)) (k : Go p e below En T m pc' Ls (.int (f i) :: st)) (hp : pc + 1 = pc' := by rfl) : Go p e below En T m pc Ls (.int (Int32.ofNat i) :: .ref a :: st) := by
  have hj := A.inb hi
  obtain ⟨q, kA, vs, d, V, r1, r2⟩ := A
  exact Go.baload X pc' V hd hj (by rw [n_cl (Nat.lt_trans hi q)]; exact r2 i hi) k hp
theorem Go.stCN (X : Cx p l e R s m args below meth c Z own nm bytes maxL rt T locs cells slots h) (pc' : Nat) {x : Int32} (A : An Z h a .char n f) (i : Nat) (hi : i < n) (hd : decode bytes pc = .ok (.castore, 1)) (ha : Z.heap.size ≤ a)
    (k : ∀ T' h' w, Cx p l e R s m args below meth c Z own nm bytes maxL rt T' (locs ++ [⟨a, w⟩]) cells slots h' → Wr h h' a w (.int (nar .char x)) → An Z h' a .char n (upd f i (nar .char x)) → Go p e below En T' m pc' Ls st) (hp : pc + 1 = pc' := by rfl) : Go p e below En T m pc Ls (.int x :: .int (Int32.ofNat i) :: .ref a :: st) := by
  have hj := A.inb hi
  obtain ⟨q, kA, vs, d, V, r1, r2⟩ := A
  exact Go.stC X pc' V hd hj i (n_cl (Nat.lt_trans hi q)) (by omega) ha (fun T' h' X' W V' => k T' h' _ X' W (An.sets V' q r1 hi r2)) hp
theorem Go.stBN (X : Cx p l e R s m args below meth c Z own nm bytes maxL rt T locs cells slots h) (pc' : Nat) {x : Int32} (A : An Z h a .byte n f) (i : Nat) (hi : i < n) (hd : decode bytes pc = .ok (.bastore, 1)) (ha : Z.heap.size ≤ a)
    (k : ∀ T' h' w, Cx p l e R s m args below meth c Z own nm bytes maxL rt T' (locs ++ [⟨a, w⟩]) cells slots h' → Wr h h' a w (.int (nar .byte x)) → An Z h' a .byte n (upd f i (nar .byte x)) → Go p e below En T' m pc' Ls st) (hp : pc + 1 = pc' := by rfl) : Go p e below En T m pc Ls (.int x :: .int (Int32.ofNat i) :: .ref a :: st) := by
  have hj := A.inb hi
  obtain ⟨q, kA, vs, d, V, r1, r2⟩ := A
  exact Go.stB X pc' V hd hj i (n_cl (Nat.lt_trans hi q)) (by omega) ha (fun T' h' X' W V' => k T' h' _ X' W (An.sets V' q r1 hi r2)) hp
theorem Go.newC (X : Cx p l e R s m args below meth c Z own nm bytes maxL rt T locs cells slots h) (pc' : Nat) (w : (Jvm.Cond.arrayClass .char).before a0 Z = true) (hd : decode bytes pc = .ok (.newarray .char, 2)) (cap : Nat) (hcap : n ≤ cap) (hcp : cap ≤ 67108864) (hc : cells + 1 ≤ R.cells) (hl : slots + cap ≤ R.slots)
    (k : ∀ T' h' a, Cx p l e R s m args below meth c Z own nm bytes maxL rt T' locs (cells + 1) (slots + cap) h' → Ext h h' → h.size = a → An Z h' a .char n (fun _ => 0) → Go p e below En T' m pc' Ls (.ref a :: st)) (hp : pc + 2 = pc' := by rfl) : Go p e below En T m pc Ls (.int (Int32.ofNat n) :: st) := by
  have hn : n < 2147483648 := by omega
  exact Go.newP X pc' (aty := .char) w hd cap (n_nn hn) (by rw [n_cl hn]; exact hcap) (by omega) hc hl (fun T' h' a kA X' E q V => k T' h' a X' E q (An.new V hn)) hp
theorem Go.newB (X : Cx p l e R s m args below meth c Z own nm bytes maxL rt T locs cells slots h) (pc' : Nat) (w : (Jvm.Cond.arrayClass .byte).before a0 Z = true) (hd : decode bytes pc = .ok (.newarray .byte, 2)) (cap : Nat) (hcap : n ≤ cap) (hcp : cap ≤ 67108864) (hc : cells + 1 ≤ R.cells) (hl : slots + cap ≤ R.slots)
    (k : ∀ T' h' a, Cx p l e R s m args below meth c Z own nm bytes maxL rt T' locs (cells + 1) (slots + cap) h' → Ext h h' → h.size = a → An Z h' a .byte n (fun _ => 0) → Go p e below En T' m pc' Ls (.ref a :: st)) (hp : pc + 2 = pc' := by rfl) : Go p e below En T m pc Ls (.int (Int32.ofNat n) :: st) := by
  have hn : n < 2147483648 := by omega
  exact Go.newP X pc' (aty := .byte) w hd cap (n_nn hn) (by rw [n_cl hn]; exact hcap) (by omega) hc hl (fun T' h' a kA X' E q V => k T' h' a X' E q (An.new V hn)) hp
end Ankit
section Wide
variable {p : Program} {l : Launch} {e : Env} {R : Room} {s : State} {m : MethodId} {args : Array Value} {below : List Frame} {meth : Method} {c : Code} {T : State} {locs : List Loc} {cells slots : Nat} {Z : State} {a0 : Array Value} {h h' : Heap} {own nm : String} {bytes : ByteArray} {maxL : Nat} {rt : Option FieldType} {Q : Option Value → Heap → Prop} {ce sl : Nat} {En : Option Value → State → Prop} {pc : Nat} {Ls : Array Slot} {st : List Value} {vm0 : Vm} {EL : List (String × Nat)}
/-- the tables vm0 since the start s -/
def WS (s : State) (vm0 : Vm) (h : Heap) : Prop := ∃ k0, s.Since vm0 k0 ∧ k0 ≤ h.size
theorem WS.le (q : h.size ≤ h'.size) (H : WS s vm0 h) : WS s vm0 h' := by obtain ⟨k, k1, k2⟩ := H; exact ⟨k, k1, Nat.le_trans k2 q⟩
def FinW (s Z : State) (EL : List (String × Nat)) (Q : Option Value → Heap → Prop) (ce sl : Nat) : Option Value → State → Prop := fun v t => ∃ L, (Fr Z.heap.size L ∧ Ext Z.heap t.heap ∧ Q v t.heap) ∧ CHr Z EL s.vm s.heap t.vm t.heap ∧ ReturnedEndW s (.returned v) t L ce sl
def FinL (s Z : State) (Q : Option Value → Heap → Prop) (ce sl : Nat) : Option Value → State → Prop := fun v t => ∃ L, (Fr Z.heap.size L ∧ Ext Z.heap t.heap ∧ Q v t.heap) ∧ ReturnedEndW s (.returned v) t L ce sl
def CtW (l : Launch) (Z : State) (EL : List (String × Nat)) (ws : List Jvm.Cond) (y : MethodName) (bytes : ByteArray) (maxL : Nat) (rt : Option FieldType) (rm : Room) (as' : Array Value) (h : Heap) (Q : Option Value → Heap → Prop) : Prop :=
  Ext Z.heap h → MetFree l y (head1 (Jvm.Cond.code y bytes maxL rt :: ws) rm) (fun a U => a = as' ∧ Z.Warmed39 U.vm ∧ U.heap = h ∧ CHv Z EL U.vm h) (fun _ _ _ _ _ => True) (fun _ U o U' => ∃ v L, o = .returned v ∧ (Fr Z.heap.size L ∧ Ext Z.heap U'.heap ∧ Q v U'.heap) ∧ CHr Z EL U.vm U.heap U'.vm U'.heap ∧ ReturnedEndW U o U' L rm.cells rm.slots)
/-- the law's own contract: at its start the constants' words hold -/
def CtL (l : Launch) (Z : State) (EL : List (String × Nat)) (ws : List Jvm.Cond) (y : MethodName) (bytes : ByteArray) (maxL : Nat) (rt : Option FieldType) (rm : Room) (as' : Array Value) (h : Heap) (Q : Option Value → Heap → Prop) : Prop :=
  Ext Z.heap h → MetFree l y (head1 (Jvm.Cond.code y bytes maxL rt :: ws) rm) (fun a U => a = as' ∧ Z.Warmed39 U.vm ∧ U.heap = h ∧ CHv Z EL U.vm h) (fun _ _ _ _ _ => True) (fun _ U o U' => ∃ v L, o = .returned v ∧ (Fr Z.heap.size L ∧ Ext Z.heap U'.heap ∧ Q v U'.heap) ∧ ReturnedEndW U o U' L rm.cells rm.slots)
theorem CtW.of {y : MethodName} {ws : List Jvm.Cond} {rm : Room} {as' : Array Value} {Ls0 : Array Slot} (pn : plainName y.cls = true) (ef : ∀ m, entryFrame m as' maxL = mkF m 0 Ls0 [])
    (body : ∀ p e s m below meth c s₁, Cx p l e rm (s.setVm s.vm) m as' below meth c Z y.cls y.name bytes maxL rt s₁ [] 0 0 h → WS s s.vm h → CHr Z EL s.vm s.heap s.vm h → Go p e below (FinW s Z EL Q rm.cells rm.slots) s₁ m 0 Ls0 []) : CtW l Z EL ws y bytes maxL rt rm as' h Q := by
  intro hE
  refine MetFree.of_bodySF (plainFor_of_name pn) hisR ?_
  intro p e s m args below meth c s₁ Bd hml0 hP hK
  obtain ⟨rfl, hZ, hh, hC⟩ := hP
  have hown : s.vm.findClass y.cls = some m.cls := findClass_of_methodNamed Bd.named
  have hnm := (name_of_methodNamed Bd.named Bd.method).1
  have X0 : Stand p l e rm s m args below meth c s₁ [] 0 0 := Stand.of_body Bd
  have e0 : s₁.heap = h := by rw [← hh, Bd.state]; rfl
  obtain ⟨s₂, v, k1, k2, k3, L, k5, k6, k7⟩ := body p e s m below meth c s₁ ⟨X0, Bd.exec, hZ, hown, Bd.bytes, hml0, Bd.returns, hnm, Bd.notSynchronized, e0, Fr.nil _, hE⟩ ⟨0, (State.WarmedH.refl s).since 0, Nat.zero_le _⟩ (by rw [hh]; exact CHr.refl hC)
  exact ⟨s₂, _, castTop (ef m) k1, k2, k3, v, L, rfl, k5, k6, k7⟩
theorem CtL.of {y : MethodName} {ws : List Jvm.Cond} {rm : Room} {as' : Array Value} {Ls0 : Array Slot} (pn : plainName y.cls = true) (ef : ∀ m, entryFrame m as' maxL = mkF m 0 Ls0 [])
    (body : ∀ p e s m below meth c s₁, Cx p l e rm (s.setVm s.vm) m as' below meth c Z y.cls y.name bytes maxL rt s₁ [] 0 0 h → WS s s.vm h → CHv Z EL s.vm h → Go p e below (FinL s Z Q rm.cells rm.slots) s₁ m 0 Ls0 []) : CtL l Z EL ws y bytes maxL rt rm as' h Q := by
  intro hE
  refine MetFree.of_bodySF (plainFor_of_name pn) hisR ?_
  intro p e s m args below meth c s₁ Bd hml0 hP hK
  obtain ⟨rfl, hZ, hh, hC⟩ := hP
  have hown : s.vm.findClass y.cls = some m.cls := findClass_of_methodNamed Bd.named
  have hnm := (name_of_methodNamed Bd.named Bd.method).1
  have X0 : Stand p l e rm s m args below meth c s₁ [] 0 0 := Stand.of_body Bd
  have e0 : s₁.heap = h := by rw [← hh, Bd.state]; rfl
  obtain ⟨s₂, v, k1, k2, k3, L, k5, k6⟩ := body p e s m below meth c s₁ ⟨X0, Bd.exec, hZ, hown, Bd.bytes, hml0, Bd.returns, hnm, Bd.notSynchronized, e0, Fr.nil _, hE⟩ ⟨0, (State.WarmedH.refl s).since 0, Nat.zero_le _⟩ hC
  exact ⟨s₂, _, castTop (ef m) k1, k2, k3, v, L, rfl, k5, k6⟩
theorem Cx.finL (X : Cx p l e R (s.setVm vm0) m args below meth c Z own nm bytes maxL rt T locs cells slots h) (hS : WS s vm0 h) {v : Option Value} (hQ : Q v h) (hc : cells ≤ ce) (hs : slots ≤ sl) (hv : rt = none → v = none := by (intro q; first | rfl | (cases q; done))) : Lv e below (FinL s Z Q ce sl) T m v := by
  have hlk := X.hlk
  obtain ⟨k0, hk1, hk2⟩ := hS
  obtain ⟨fs, hr, hrun, hended, r1, r2, r3, r4⟩ := X.sd.leaveW hk1 (by rw [X.eq]; exact hk2) (v := v) (fun q => hv (X.hrt ▸ q)) hlk
  have q : (T.setFrames fs).heap = h := X.eq
  exact ⟨fs, hr, hrun, hended, locs, ⟨X.fr, by rw [q]; exact X.old, by rw [q]; exact hQ⟩, r1, r2, r3, r4.mono hc hs⟩
theorem Cx.finW (X : Cx p l e R (s.setVm vm0) m args below meth c Z own nm bytes maxL rt T locs cells slots h) (hEL : EW Z a0 EL) (hS : WS s vm0 h) (H : CHr Z EL s.vm s.heap vm0 h) {v : Option Value} (hQ : Q v h) (hc : cells ≤ ce) (hs : slots ≤ sl) (hv : rt = none → v = none := by (intro q; first | rfl | (cases q; done))) : Lv e below (FinW s Z EL Q ce sl) T m v := by
  have hlk := X.hlk
  obtain ⟨k0, hk1, hk2⟩ := hS
  obtain ⟨fs, hr, hrun, hended, r1, r2, r3, r4⟩ := X.sd.leaveW hk1 (by rw [X.eq]; exact hk2) (v := v) (fun q => hv (X.hrt ▸ q)) hlk
  have q : (T.setFrames fs).heap = h := X.eq
  have hAt : CHr Z EL vm0 h T.vm h := CHv.at X.sd X.hZ hEL H.1
  exact ⟨fs, hr, hrun, hended, locs, ⟨X.fr, by rw [q]; exact X.old, by rw [q]; exact hQ⟩, by rw [q]; exact H.trans hAt, r1, r2, r3, r4.mono hc hs⟩
theorem Cx.backW (X : Cx p l e R (s.setVm vm0) m args below meth c Z own nm bytes maxL rt T locs cells slots h) {y : MethodName} {by' : ByteArray} {ml' : Nat} {rt' : Option FieldType} {rm : Room} {as' : Array Value} {Q' : Option Value → Heap → Prop} {len W : Nat} (hEL : EW Z a0 EL) (H : CHv Z EL vm0 h) (ct : CtW l Z EL [] y by' ml' rt' rm as' h Q') (wc : (Jvm.Cond.code y by' ml' rt').before a0 Z = true) (wz : (Jvm.Cond.initialized y.cls).before a0 Z = true) (hf : rm.frames + 1 ≤ R.frames) (hl : W + (ml' + 11) + rm.locals ≤ R.locals) :
    BackS l R p e below (s.setVm vm0) args y len W (fun A a => a = as' ∧ A.U.heap = h ∧ A.cells + rm.cells ≤ R.cells ∧ A.slots + rm.slots ≤ R.slots) (fun A _ v B => ∃ L, (Fr Z.heap.size L ∧ Ext Z.heap B.U.heap ∧ Q' v B.U.heap) ∧ B.locs = A.locs ++ L ∧ B.cells = A.cells + rm.cells ∧ B.slots = A.slots + rm.slots ∧ CHr Z EL vm0 h B.U.vm B.U.heap) :=
  backOfSH (Q := fun v hh L => Fr Z.heap.size L ∧ Ext Z.heap hh ∧ Q' v hh) (ct X.old) X.hZ wc wz hf hl hEL H
theorem Go.ldcW (X : Cx p l e R (s.setVm vm0) m args below meth c Z own nm bytes maxL rt T locs cells slots h) (pc' : Nat) {idx : Nat} {text : String} (hEL : EW Z a0 EL) (hS : WS s vm0 h) (H : CHv Z EL vm0 h) (w : (Jvm.Cond.stringLink own idx text).before a0 Z = true) (wS : ∀ a ∈ Bundle.stringAtoms, a.before a0 Z = true) (hmem : (own, idx) ∈ EL) {vs : List Value} {z : Int32} (ht : (∀ c ∈ text.toList, c.toNat < 256) ∧ text.toList.map (fun c => Value.int (Jvm.Lit.byteI c.toNat.toUInt16)) = vs) (hz : ¬ z < 0) (hl : z.toNatClampNeg = vs.length) (hd : decode bytes pc = .ok (.ldc idx, 2)) {n : Nat} (hn : 4 * text.toList.length ≤ n) (hbig : n ≤ 536870912) (hc : cells + 2 ≤ R.cells) (hl' : slots + (n + 4) ≤ R.slots)
    (k : ∀ T' h' vm1 a b kA, Cx p l e R (s.setVm vm1) m args below meth c Z own nm bytes maxL rt T' locs (cells + 2) (slots + (n + 4)) h' → WS s vm1 h' → Ext h h' → CHr Z EL vm0 h vm1 h' → Exa Z h' a "java/lang/String" → Fld Z h' a "java/lang/String" "coder" "B" (.int 0) → Fld Z h' a "java/lang/String" "value" "[B" (.ref b) → Arv Z h' b kA .byte z vs (.int 0) → (∀ x, Safe Z EL vm1 h' x → x ≠ a ∧ x ≠ b) → Go p e below En T' m pc' Ls (.ref a :: st)) (hp : pc + 2 = pc' := by rfl) : Go p e below En T m pc Ls st := by
  subst hp
  obtain ⟨k0, hk1, hk2⟩ := hS
  obtain ⟨a, T', h', k1, b, kA, Y, e', E, y1, y2, y3, y4, r1, r2, r3, r4, -, -, r5, -, r6, st'⟩ := ldcCH X.sd X.hx X.hZ X.hown w wS X.eq hk1 hk2 hEL hmem H ht hz hl (g := mkF m pc Ls st) rfl (hb X.hby hd) hn hbig hc hl'
  exact Go.step st' (k T' h' T'.vm a b kA ⟨Y, X.hx, y3, y4, X.hby, X.hml, X.hrt, X.hnm, X.hlk, e', X.fr, Ext.tr X.old E⟩ ⟨_, y1, y2⟩ E r5 r1 r2 r3 r4 r6)
theorem Go.callIW (X : Cx p l e R (s.setVm vm0) m args below meth c Z own nm bytes maxL rt T locs cells slots h) (pc' : Nat) {idx : Nat} {y : MethodName} {by' : ByteArray} {ml' : Nat} {rt' : Option FieldType} {rm : Room} {ps : List FieldType} {rr : Option FieldType} {a : Addr} {Q' : Option Value → Heap → Prop} (hEL : EW Z a0 EL) (hS : WS s vm0 h) (H : CHv Z EL vm0 h) (argsL rest : List Value) (W : Nat) (hy1 : y.name = "<init>") (wl : (Jvm.Cond.methodLink own idx y).before a0 Z = true) (wm : (Jvm.Cond.instanceMethod y).before a0 Z = true) (wz : (Jvm.Cond.initialized y.cls).before a0 Z = true) (hy : y.cls ≠ "java/lang/invoke/MethodHandle" ∧ y.cls ≠ "java/lang/invoke/VarHandle") (hrn : rt' = none) (wc : (Jvm.Cond.code y by' ml' rt').before a0 Z = true) (pd : parseMethodDescriptor y.desc = some ⟨ps, rr⟩) (hd : decode bytes pc = .ok (.invokespecial idx, 3)) (ct : CtW l Z EL [] y by' ml' rt' rm ((Value.ref a :: argsL).toArray) h Q') (hlen : argsL.length = ps.length) (hst : st = argsL.reverse ++ .ref a :: rest) (hsz : Ls.size = maxL) (hW : (rest.map fun v => v.category).sum ≤ W) (hf : rm.frames + 1 ≤ R.frames) (hl : W + (ml' + 11) + rm.locals ≤ R.locals) (hce : cells + rm.cells ≤ R.cells) (hsl : slots + rm.slots ≤ R.slots)
    (k : ∀ T' v L vm1, Cx p l e R (s.setVm vm1) m args below meth c Z own nm bytes maxL rt T' (locs ++ L) (cells + rm.cells) (slots + rm.slots) T'.heap → WS s vm1 T'.heap → CHr Z EL vm0 h vm1 T'.heap → Q' v T'.heap → Go p e below En T' m pc' Ls (v.toList ++ rest)) (hp : pc + 3 = pc' := by rfl) : Go p e below En T m pc Ls st := by
  subst hp
  subst hrn
  obtain ⟨v, _, ⟨T', L', k', n'⟩, -, X', hS2, hg, ⟨L, hq, e1, e2, e3, hr⟩, st'⟩ := X.sd.specialBackS X.hx (y := y) hy1 X.hown (mvT X.hZ wl) (mvT X.hZ wm) (mvT X.hZ wc) hy (X.backW (W := W) hEL H ct wc wz hf hl) (g := mkF m pc Ls st) rfl (hsz.trans X.hml.symm) (Steps.refl _) (a := a) (argsL := argsL) (rest := rest) (lenOf pd hlen) hst (by simpa using hW) (hb X.hby hd) (fun _ _ => ⟨rfl, X.eq, hce, hsl⟩)
  dsimp only [Pt.U, Pt.locs, Pt.cells, Pt.slots] at X' e1 e2 e3 st' hq hg hS2 hr
  subst e1 e2 e3
  obtain ⟨k0, hk1, hk2⟩ := hS
  rw [X.eq] at hg
  obtain ⟨Y, y2, y3, y4⟩ := rebS (Z := Z) (own := own) hk1 hk2 X' hS2 hg X.hZ X.hown
  exact Go.step (fun _ hz => Steps.trans st' hz) (k T' v L T'.vm ⟨Y, X.hx, y3, y4, X.hby, X.hml, X.hrt, X.hnm, X.hlk, rfl, X.fr.app hq.1, hq.2.1⟩ ⟨_, y2, Nat.le_refl _⟩ hr hq.2.2)
theorem Go.callSW (X : Cx p l e R (s.setVm vm0) m args below meth c Z own nm bytes maxL rt T locs cells slots h) (pc' : Nat) {idx : Nat} {y : MethodName} {by' : ByteArray} {ml' : Nat} {rt' : Option FieldType} {rm : Room} {ps : List FieldType} {rr : Option FieldType} {Q' : Option Value → Heap → Prop} (hEL : EW Z a0 EL) (hS : WS s vm0 h) (H : CHv Z EL vm0 h) (argsL rest : List Value) (W : Nat) (wl : (Jvm.Cond.methodLink own idx y).before a0 Z = true) (ws : (Jvm.Cond.static y).before a0 Z = true) (wz : (Jvm.Cond.initialized y.cls).before a0 Z = true) (hy : y.cls ≠ "java/lang/invoke/MethodHandle" ∧ y.cls ≠ "java/lang/invoke/VarHandle") (wc : (Jvm.Cond.code y by' ml' rt').before a0 Z = true) (pd : parseMethodDescriptor y.desc = some ⟨ps, rr⟩) (hd : decode bytes pc = .ok (.invokestatic idx, 3)) (ct : CtW l Z EL [] y by' ml' rt' rm (argsL.toArray) h Q') (hlen : argsL.length = ps.length) (hst : st = argsL.reverse ++ rest) (hsz : Ls.size = maxL) (hW : (rest.map fun v => v.category).sum ≤ W) (hf : rm.frames + 1 ≤ R.frames) (hl : W + (ml' + 11) + rm.locals ≤ R.locals) (hce : cells + rm.cells ≤ R.cells) (hsl : slots + rm.slots ≤ R.slots)
    (k : ∀ T' v L vm1, Cx p l e R (s.setVm vm1) m args below meth c Z own nm bytes maxL rt T' (locs ++ L) (cells + rm.cells) (slots + rm.slots) T'.heap → WS s vm1 T'.heap → CHr Z EL vm0 h vm1 T'.heap → Q' v T'.heap → Go p e below En T' m pc' Ls (v.toList ++ rest)) (hp : pc + 3 = pc' := by rfl) : Go p e below En T m pc Ls st := by
  subst hp
  obtain ⟨v, _, ⟨T', L', k', n'⟩, -, X', hS2, hg, ⟨L, hq, e1, e2, e3, hr⟩, st'⟩ := callSS X.sd X.hx (y := y) X.hown (mvT X.hZ wl) (mvT X.hZ ws) (mvT X.hZ wz) (mvT X.hZ wc) hy (X.backW (W := W) hEL H ct wc wz hf hl) (g := mkF m pc Ls st) rfl (hsz.trans X.hml.symm) (argsL := argsL) (rest := rest) (lenOf pd hlen) hst (by simpa using hW) (hb X.hby hd) (fun _ _ => ⟨rfl, X.eq, hce, hsl⟩)
  dsimp only [Pt.U, Pt.locs, Pt.cells, Pt.slots] at X' e1 e2 e3 st' hq hg hS2 hr
  subst e1 e2 e3
  obtain ⟨k0, hk1, hk2⟩ := hS
  rw [X.eq] at hg
  obtain ⟨Y, y2, y3, y4⟩ := rebS (Z := Z) (own := own) hk1 hk2 X' hS2 hg X.hZ X.hown
  exact Go.step (fun _ hz => Steps.trans st' hz) (k T' v L T'.vm ⟨Y, X.hx, y3, y4, X.hby, X.hml, X.hrt, X.hnm, X.hlk, rfl, X.fr.app hq.1, hq.2.1⟩ ⟨_, y2, Nat.le_refl _⟩ hr hq.2.2)
theorem Go.callVW (X : Cx p l e R (s.setVm vm0) m args below meth c Z own nm bytes maxL rt T locs cells slots h) (pc' : Nat) {idx : Nat} {y : MethodName} {C : String} {by' : ByteArray} {ml' : Nat} {rt' : Option FieldType} {rm : Room} {ps : List FieldType} {rr : Option FieldType} {a : Addr} {Q' : Option Value → Heap → Prop} (hEL : EW Z a0 EL) (hS : WS s vm0 h) (H : CHv Z EL vm0 h) (argsL rest : List Value) (W : Nat) (wl : (Jvm.Cond.methodLink own idx y).before a0 Z = true) (wd : (Jvm.Cond.declares y).before a0 Z = true) (wf : (Jvm.Cond.selects C y y).before a0 Z = true) (wm : (Jvm.Cond.instanceMethod y).before a0 Z = true) (wz : (Jvm.Cond.initialized y.cls).before a0 Z = true) (hy : y.cls ≠ "java/lang/invoke/MethodHandle" ∧ y.cls ≠ "java/lang/invoke/VarHandle") (E : Exa Z h a C) (wc : (Jvm.Cond.code y by' ml' rt').before a0 Z = true) (pd : parseMethodDescriptor y.desc = some ⟨ps, rr⟩) (hd : decode bytes pc = .ok (.invokevirtual idx, 3)) (ct : CtW l Z EL [] y by' ml' rt' rm ((Value.ref a :: argsL).toArray) h Q') (hlen : argsL.length = ps.length) (hst : st = argsL.reverse ++ .ref a :: rest) (hsz : Ls.size = maxL) (hW : (rest.map fun v => v.category).sum ≤ W) (hf : rm.frames + 1 ≤ R.frames) (hl : W + (ml' + 11) + rm.locals ≤ R.locals) (hce : cells + rm.cells ≤ R.cells) (hsl : slots + rm.slots ≤ R.slots)
    (k : ∀ T' v L vm1, Cx p l e R (s.setVm vm1) m args below meth c Z own nm bytes maxL rt T' (locs ++ L) (cells + rm.cells) (slots + rm.slots) T'.heap → WS s vm1 T'.heap → CHr Z EL vm0 h vm1 T'.heap → Q' v T'.heap → Go p e below En T' m pc' Ls (v.toList ++ rest)) (hp : pc + 3 = pc' := by rfl) : Go p e below En T m pc Ls st := by
  subst hp
  obtain ⟨cq, kq, qa, qb, qc⟩ := isOf X.hZ X.eq E
  obtain ⟨v, _, ⟨T', L', k', n'⟩, -, X', hS2, hg, ⟨L, hq, e1, e2, e3, hr⟩, st'⟩ := X.sd.virtualBackS X.hx (y := y) (z := y) X.hown (mvT X.hZ wl) (mvT X.hZ wd) (notFace_of_selects (args := #[]) (mvT X.hZ wf)) (mvT X.hZ wf) (mvT X.hZ wm) hy (X.backW (W := W) hEL H ct wc wz hf hl) qa qc (g := mkF m pc Ls st) rfl (hsz.trans X.hml.symm) (Steps.refl _) (argsL := argsL) (rest := rest) (lenOf pd hlen) hst (by simpa using hW) (hb X.hby hd) (fun _ _ => ⟨rfl, X.eq, hce, hsl⟩)
  dsimp only [Pt.U, Pt.locs, Pt.cells, Pt.slots] at X' e1 e2 e3 st' hq hg hS2 hr
  subst e1 e2 e3
  obtain ⟨k0, hk1, hk2⟩ := hS
  rw [X.eq] at hg
  obtain ⟨Y, y2, y3, y4⟩ := rebS (Z := Z) (own := own) hk1 hk2 X' hS2 hg X.hZ X.hown
  exact Go.step (fun _ hz => Steps.trans st' hz) (k T' v L T'.vm ⟨Y, X.hx, y3, y4, X.hby, X.hml, X.hrt, X.hnm, X.hlk, rfl, X.fr.app hq.1, hq.2.1⟩ ⟨_, y2, Nat.le_refl _⟩ hr hq.2.2)
end Wide
section Copykit
variable {p : Program} {l : Launch} {e : Env} {R : Room} {s : State} {m : MethodId} {args : Array Value} {below : List Frame} {meth : Method} {c : Code} {T : State} {locs : List Loc} {cells slots : Nat} {Z : State} {a0 : Array Value} {h h' : Heap} {own nm : String} {bytes : ByteArray} {maxL : Nat} {rt : Option FieldType} {En : Option Value → State → Prop} {pc : Nat} {Ls : Array Slot} {st : List Value}
theorem n_add (i k : Nat) : Int32.ofNat i + Int32.ofNat k = Int32.ofNat (i + k) := (Int32.ofNat_add i k).symm
theorem n_sub (i k : Nat) : Int32.ofNat (i + k) - Int32.ofNat i = Int32.ofNat k := by
  rw [← n_add]
  apply Int32.toInt_inj.mp
  have h1 := c_isub (Int32.ofNat i + Int32.ofNat k) (Int32.ofNat i)
  have h2 := c_iadd (Int32.ofNat i) (Int32.ofNat k)
  have r1 := rng32 (Int32.ofNat i + Int32.ofNat k - Int32.ofNat i)
  have r2 := rng32 (Int32.ofNat k)
  omega
theorem n_subn {i n : Nat} (h : i ≤ n) : Int32.ofNat n - Int32.ofNat i = Int32.ofNat (n - i) := by
  have e := n_sub i (n - i)
  rwa [Nat.add_sub_cancel' h] at e
theorem Go.acpN (X : Cx p l e R s m args below meth c Z own nm bytes maxL rt T locs cells slots h) (pc' : Nat) {idx : Nat} {a b : Addr} {n k : Nat} {f g : Nat → Int32} (w1 : (Jvm.Cond.methodLink own idx Jvm.Stand.acN).before a0 Z = true) (w2 : (Jvm.Cond.native Jvm.Stand.acN).before a0 Z = true) (w3 : (Jvm.Cond.static Jvm.Stand.acN).before a0 Z = true) (w4 : (Jvm.Cond.initialized "java/lang/System").before a0 Z = true)
    (A : An Z h a .byte n f) (B : An Z h b .byte k g) (i : Nat) (hi : i + k ≤ n) (ge : Z.heap.size ≤ b) (hd : decode bytes pc = .ok (.invokestatic idx, 3)) (W : Nat) (hsz : Ls.size = maxL) (hf : 1 ≤ R.frames) (hW : (st.map fun v => v.category).sum ≤ W) (hl : W + 40 ≤ R.locals)
    (kk : ∀ T' h' L, Cx p l e R s m args below meth c Z own nm bytes maxL rt T' L cells slots h' → Keep h h' [b] → An Z h' b .byte k (fun j => f (i + j)) → Go p e below En T' m pc' Ls st) (hp : pc + 3 = pc' := by rfl) : Go p e below En T m pc Ls (.int (Int32.ofNat k) :: .int (0 : Int32) :: .ref b :: .int (Int32.ofNat i) :: .ref a :: st) := by
  subst hp
  obtain ⟨qn, kA, vs, d, V, r1, r2⟩ := A
  obtain ⟨qk, kB, vd, dd, V', s1, s2⟩ := B
  have e0 : (0 : Int32).toNatClampNeg = 0 := by decide
  have ek : (Int32.ofNat k).toNatClampNeg = k := n_cl qk
  have ei : (Int32.ofNat i).toNatClampNeg = i := n_cl (by omega)
  have en : (Int32.ofNat n).toNatClampNeg = n := n_cl qn
  have nw : nativeFrameWords "java/lang/System" "arraycopy" 5 + 11 ≤ 40 := by decide
  obtain ⟨T', h', L, X', e', F', K', A', st'⟩ := cpA X.sd X.hx X.hZ X.hown w1 w2 w3 w4 X.eq V V' (Or.inl ⟨rfl, rfl⟩) (sp := Int32.ofNat i) (dp := 0) (nn := Int32.ofNat k) (n_nn (by omega)) (by decide) (n_nn qk) (by rw [ei, ek, en]; exact hi) (by rw [e0, ek]; omega) rfl (by rw [e0, ek]; omega) X.fr ge (g := mkF m pc Ls (.int (Int32.ofNat k) :: .int 0 :: .ref b :: .int (Int32.ofNat i) :: .ref a :: st)) rfl (hsz.trans X.hml.symm) rfl (hb X.hby hd) hf (W := W) (by simpa using hW) (by omega)
  rw [e0, ek, ei] at A'
  have el : vd.take 0 ++ (List.range k).map (fun i' => vs.getD (i + i') d) ++ vd.drop (0 + k) = (List.range k).map (fun i' => vs.getD (i + i') d) := by
    rw [Nat.zero_add, List.drop_eq_nil_of_le (by omega)]
    simp
  rw [el] at A'
  refine Go.step st' (kk T' h' L (X.mk' X' e' F' (Ext.kp X.old K' (allS ge all0))) K' ⟨qk, kB, _, dd, A', by simp, fun j hj => ?_⟩)
  rw [List.getD_eq_getElem?_getD, List.getElem?_map, List.getElem?_range hj]
  exact r2 (i + j) (by omega)
theorem own_neE {a b : Addr} {C D : String} (E : Exa Z h a C) (F : Exa Z h b D) (q : C ≠ D) : a ≠ b := fun e => by
  subst e
  obtain ⟨c1, k1, e1, e2, e3, -, -⟩ := E
  obtain ⟨c2, k2, f1, f2, f3, -, -⟩ := F
  cases e1.symm.trans f1
  obtain ⟨x1, q1, q2⟩ := Vm.findClass_spec e2
  obtain ⟨x2, q3, q4⟩ := Vm.findClass_spec f2
  cases q1.symm.trans q3
  exact q (q2.symm.trans q4)
theorem own_neA {a b : Addr} {C : String} {n N : Nat} {g : Nat → Int32} (A : An Z h a .byte n g) (F : Exa Z h b C) (wk : (Jvm.Cond.instantiable C N).before a0 Z = true) : a ≠ b := fun e => by
  subst e
  obtain ⟨-, k, vs, d, ⟨c1, ⟨e1, ⟨-, kk, e3, comp, e4⟩, -⟩, -⟩, -⟩ := A
  obtain ⟨c2, k2, f1, f2, f3, -, -⟩ := F
  cases e1.symm.trans f1
  obtain ⟨t, kt, g1, g2, g3, -⟩ := Cond.instantiable_spec wk
  cases f2.symm.trans g1
  cases g2.symm.trans e3
  rw [g3] at e4
  cases e4
end Copykit
theorem own_mn {n k : Nat} (h : k ≤ n) (hn : n < 2147483648) : (Int32.ofNat k < Int32.ofNat n ∧ Int32.ofNat k = Int32.ofNat k) ∨ (¬ Int32.ofNat k < Int32.ofNat n ∧ Int32.ofNat k = Int32.ofNat n) := by
  by_cases q : k < n
  · exact Or.inl ⟨n_lt q hn, rfl⟩
  · have : k = n := by omega
    subst this
    exact Or.inr ⟨n_nlt (Nat.le_refl _) hn, rfl⟩
theorem pd_0 : parseMethodDescriptor "([CI[BII)I" = some ⟨[(.array .char), .int, (.array .byte), .int, .int], some .int⟩ := by decide +kernel
theorem pd_1 : parseMethodDescriptor "([CII)[B" = some ⟨[(.array .char), .int, .int], some (.array .byte)⟩ := by decide +kernel
theorem pd_2 : parseMethodDescriptor "([BI)B" = some ⟨[(.array .byte), .int], some .byte⟩ := by decide +kernel
theorem pd_3 : parseMethodDescriptor "([CIILjava/lang/Void;)V" = some ⟨[(.array .char), .int, .int, (.object "java/lang/Void")], none⟩ := by decide +kernel
theorem pd_4 : parseMethodDescriptor "()B" = some ⟨[], some .byte⟩ := by decide +kernel
theorem pd_5 : parseMethodDescriptor "(IILjava/util/function/BiFunction;)I" = some ⟨[.int, .int, (.object "java/util/function/BiFunction")], some .int⟩ := by decide +kernel
theorem pd_6 : parseMethodDescriptor "(II)V" = some ⟨[.int, .int], none⟩ := by decide +kernel
theorem pd_7 : parseMethodDescriptor "()Z" = some ⟨[], some .boolean⟩ := by decide +kernel
theorem pd_8 : parseMethodDescriptor "([BI)C" = some ⟨[(.array .byte), .int], some .char⟩ := by decide +kernel
theorem pd_9 : parseMethodDescriptor "(II)I" = some ⟨[.int, .int], some .int⟩ := by decide +kernel
theorem pd_10 : parseMethodDescriptor "([BII)[B" = some ⟨[(.array .byte), .int, .int], some (.array .byte)⟩ := by decide +kernel
theorem pd_11 : parseMethodDescriptor "([BB)V" = some ⟨[(.array .byte), .byte], none⟩ := by decide +kernel
theorem pd_12 : parseMethodDescriptor "(IIILjava/util/function/BiFunction;)I" = some ⟨[.int, .int, .int, (.object "java/util/function/BiFunction")], some .int⟩ := by decide +kernel
theorem pd_13 : parseMethodDescriptor "()I" = some ⟨[], some .int⟩ := by decide +kernel
theorem pd_14 : parseMethodDescriptor "(III)V" = some ⟨[.int, .int, .int], none⟩ := by decide +kernel
theorem pd_15 : parseMethodDescriptor "([BII)Ljava/lang/String;" = some ⟨[(.array .byte), .int, .int], some (.object "java/lang/String")⟩ := by decide +kernel
theorem pd_16 : parseMethodDescriptor "()V" = some ⟨[], none⟩ := by decide +kernel
theorem pd_17 : parseMethodDescriptor "(II)Ljava/lang/String;" = some ⟨[.int, .int], some (.object "java/lang/String")⟩ := by decide +kernel
theorem pd_18 : parseMethodDescriptor "(Ljava/lang/String;I)V" = some ⟨[(.object "java/lang/String"), .int], none⟩ := by decide +kernel
theorem pd_19 : parseMethodDescriptor "(I)C" = some ⟨[.int], some .char⟩ := by decide +kernel
theorem pd_20 : parseMethodDescriptor "([C)V" = some ⟨[(.array .char)], none⟩ := by decide +kernel
theorem pd_21 : parseMethodDescriptor "(IIILjava/util/List;)V" = some ⟨[.int, .int, .int, (.object "java/util/List")], none⟩ := by decide +kernel
theorem pd_22 : parseMethodDescriptor "(Ljava/lang/String;Lcom/example/adder/adder/Lexicon$Statement;)Lcom/example/adder/adder/SqlPiece;" = some ⟨[(.object "java/lang/String"), (.object "com/example/adder/adder/Lexicon$Statement")], some (.object "com/example/adder/adder/SqlPiece")⟩ := by decide +kernel
theorem pd_23 : parseMethodDescriptor "()Ljava/lang/String;" = some ⟨[], some (.object "java/lang/String")⟩ := by decide +kernel
theorem pd_24 : parseMethodDescriptor "(Ljava/lang/String;II[CI)Z" = some ⟨[(.object "java/lang/String"), .int, .int, (.array .char), .int], some .boolean⟩ := by decide +kernel
def lo8 (x : Int32) : Int32 := (x >>> ((0 : Int32) &&& 31)).toInt8.toInt32
def hi8 (x : Int32) : Int32 := (x >>> ((8 : Int32) &&& 31)).toInt8.toInt32
/-- the String at a, its bytes at t, spells the n chars f 0, f 1, .. -/
def Str (Z : State) (h : Heap) (a t : Addr) (n : Nat) (f : Nat → Int32) : Prop :=
  Exa Z h a "java/lang/String" ∧ Fld Z h a "java/lang/String" "value" "[B" (.ref t) ∧ n < 1073741823 ∧ (∀ j, j < n → 0 ≤ (f j).toInt ∧ (f j).toInt < 65536) ∧
  ((Fld Z h a "java/lang/String" "coder" "B" (.int 0) ∧ ∃ g, An Z h t .byte n g ∧ ∀ j, j < n → ¬ 255 < f j ∧ g j = (f j).toInt8.toInt32) ∨
   (Fld Z h a "java/lang/String" "coder" "B" (.int 1) ∧ (∃ j, j < n ∧ 255 < f j) ∧ ∃ g, An Z h t .byte (2 * n) g ∧ ∀ j, j < n → g (2 * j) = lo8 (f j) ∧ g (2 * j + 1) = hi8 (f j)))
section Strings
variable {Z : State} {h h' : Heap} {a t b : Addr} {n : Nat} {f g : Nat → Int32}
theorem Str.exa (S : Str Z h a t n f) : Exa Z h a "java/lang/String" := S.1
theorem Str.lt (S : Str Z h a t n f) : a < h.size := S.1.lt
theorem Str.ltT (S : Str Z h a t n f) : t < h.size := by
  obtain ⟨-, -, -, -, ⟨-, g, A, -⟩ | ⟨-, -, g, A, -⟩⟩ := S
  · exact A.lt
  · exact A.lt
theorem Str.map (S : Str Z h a t n f) (p1 : ∀ {C}, Exa Z h a C → Exa Z h' a C) (p2 : ∀ {C m d v}, Fld Z h a C m d v → Fld Z h' a C m d v) (p3 : ∀ {k g}, An Z h t .byte k g → An Z h' t .byte k g) : Str Z h' a t n f := by
  obtain ⟨S1, S2, S3, S4, ⟨S5, g, A, G⟩ | ⟨S5, S6, g, A, G⟩⟩ := S
  · exact ⟨p1 S1, p2 S2, S3, S4, Or.inl ⟨p2 S5, g, p3 A, G⟩⟩
  · exact ⟨p1 S1, p2 S2, S3, S4, Or.inr ⟨p2 S5, S6, g, p3 A, G⟩⟩
theorem Str.ext (S : Str Z h a t n f) (E : Ext h h') : Str Z h' a t n f := S.map (fun F => F.ext E) (fun F => F.ext E) (fun F => F.ext E)
theorem Str.other {i : Nat} {v : Value} (S : Str Z h a t n f) (W : Wr h h' b i v) (q : a ≠ b) (r : t ≠ b) : Str Z h' a t n f := S.map (fun F => F.wr W) (fun F => F.other W (Or.inl q)) (fun F => F.other W r)
theorem Str.keep {ws : List Addr} (S : Str Z h a t n f) (K : Keep h h' ws) (q : a ∉ ws) (r : t ∉ ws) : Str Z h' a t n f := S.map (fun F => F.keep K) (fun F => F.keep K q) (fun F => F.keep K r)
theorem Str.lat (S : Str Z h a t n f) (hl : ∀ j, j < n → ¬ 255 < f j) : Fld Z h a "java/lang/String" "coder" "B" (.int 0) ∧ ∃ g, An Z h t .byte n g ∧ ∀ j, j < n → ¬ 255 < f j ∧ g j = (f j).toInt8.toInt32 := by
  obtain ⟨-, -, -, -, r | ⟨-, ⟨j, j1, j2⟩, -⟩⟩ := S
  · exact r
  · exact absurd j2 (hl j j1)
theorem Str.congr (S : Str Z h a t n f) (q : ∀ j, j < n → f j = g j) : Str Z h a t n g := by
  obtain ⟨S1, S2, S3, S4, ⟨S5, k, A, G⟩ | ⟨S5, ⟨j, j1, j2⟩, k, A, G⟩⟩ := S
  · exact ⟨S1, S2, S3, fun j hj => q j hj ▸ S4 j hj, Or.inl ⟨S5, k, A, fun j hj => q j hj ▸ G j hj⟩⟩
  · exact ⟨S1, S2, S3, fun j hj => q j hj ▸ S4 j hj, Or.inr ⟨S5, ⟨j, j1, q j j1 ▸ j2⟩, k, A, fun j hj => q j hj ▸ G j hj⟩⟩
theorem n_ge {x : Int32} (h : ¬ x < 0) : 0 ≤ x.toInt := by
  rw [Int32.lt_iff_toInt_lt] at h
  have e0 : (0 : Int32).toInt = 0 := by decide
  omega
/-- a char read back from its low byte -/
theorem n_low {x : Int32} (h0 : 0 ≤ x.toInt) (h1 : ¬ 255 < x) : (x.toInt8.toInt32 &&& 255) = x := by
  apply Int32.toInt_inj.mp
  have e := c_mask x.toInt8.toInt32 255 8 (by decide) (by decide)
  have b := c_i2b x
  rw [Int32.lt_iff_toInt_lt] at h1
  have e2 : (255 : Int32).toInt = 255 := by decide
  rw [e2] at h1
  rw [e]
  have : ((2 ^ 8 : Nat) : Int) = 256 := by decide
  rw [this]
  omega
theorem n_chr {x : Int32} (h0 : 0 ≤ x.toInt) (h1 : x.toInt < 65536) : x.toUInt32.toUInt16.toUInt32.toInt32 = x := by
  apply Int32.toInt_inj.mp
  have := c_i2c x
  omega
theorem n_le {x : Int32} (h : ¬ 255 < x) : x.toInt < 65536 := by
  rw [Int32.lt_iff_toInt_lt] at h
  have e : (255 : Int32).toInt = 255 := by decide
  omega
theorem n_nar {x : Int32} (h0 : 0 ≤ x.toInt) (h1 : x.toInt < 65536) : narrow .char (.int x) = .int x := by
  have := XT.narrow_c x
  rw [n_chr h0 h1] at this
  exact this
theorem n_ne0 {n : Nat} (h : 0 < n) (hn : n < 2147483648) : ¬ Int32.ofNat n = 0 := fun q => by
  have := n_inj hn (by decide) (show Int32.ofNat n = Int32.ofNat 0 from q)
  omega
theorem n_eqb {x y : Int32} (hx : 0 ≤ x.toInt) (hx' : ¬ 255 < x) (hy : 0 ≤ y.toInt) (hy' : ¬ 255 < y) (q : x.toInt8.toInt32 = y.toInt8.toInt32) : x = y := by
  rw [← n_low hx hx', q, n_low hy hy']
end Strings
theorem pn_java_lang_StringUTF16 : plainName "java/lang/StringUTF16" = true := by first | (simp [plainName, overriddenIn]; done) | decide +kernel
theorem dcmp5_0 : decode jdk_52_method_21_code 0 = .ok (.iconst 0, 1) := by decide +kernel
theorem dcmp5_1 : decode jdk_52_method_21_code 1 = .ok (.istore 5, 2) := by decide +kernel
theorem dcmp5_3 : decode jdk_52_method_21_code 3 = .ok (.iload 5, 2) := by decide +kernel
theorem dcmp5_5 : decode jdk_52_method_21_code 5 = .ok (.iload 4, 2) := by decide +kernel
theorem dcmp5_7 : decode jdk_52_method_21_code 7 = .ok (.if_icmp .ge 37, 3) := by decide +kernel
theorem dcmp5_10 : decode jdk_52_method_21_code 10 = .ok (.aload_n 0, 1) := by decide +kernel
theorem dcmp5_11 : decode jdk_52_method_21_code 11 = .ok (.iload_n 1, 1) := by decide +kernel
theorem dcmp5_12 : decode jdk_52_method_21_code 12 = .ok (.caload, 1) := by decide +kernel
theorem dcmp5_13 : decode jdk_52_method_21_code 13 = .ok (.istore 6, 2) := by decide +kernel
theorem dcmp5_15 : decode jdk_52_method_21_code 15 = .ok (.iload 6, 2) := by decide +kernel
theorem dcmp5_17 : decode jdk_52_method_21_code 17 = .ok (.sipush 255, 3) := by decide +kernel
theorem dcmp5_20 : decode jdk_52_method_21_code 20 = .ok (.if_icmp .le 6, 3) := by decide +kernel
theorem dcmp5_23 : decode jdk_52_method_21_code 23 = .ok (.iload 5, 2) := by decide +kernel
theorem dcmp5_25 : decode jdk_52_method_21_code 25 = .ok (.ireturn, 1) := by decide +kernel
theorem dcmp5_26 : decode jdk_52_method_21_code 26 = .ok (.aload_n 2, 1) := by decide +kernel
theorem dcmp5_27 : decode jdk_52_method_21_code 27 = .ok (.iload_n 3, 1) := by decide +kernel
theorem dcmp5_28 : decode jdk_52_method_21_code 28 = .ok (.iload 6, 2) := by decide +kernel
theorem dcmp5_30 : decode jdk_52_method_21_code 30 = .ok (.i2b, 1) := by decide +kernel
theorem dcmp5_31 : decode jdk_52_method_21_code 31 = .ok (.bastore, 1) := by decide +kernel
theorem dcmp5_32 : decode jdk_52_method_21_code 32 = .ok (.iinc 1 1, 3) := by decide +kernel
theorem dcmp5_35 : decode jdk_52_method_21_code 35 = .ok (.iinc 3 1, 3) := by decide +kernel
theorem dcmp5_38 : decode jdk_52_method_21_code 38 = .ok (.iinc 5 1, 3) := by decide +kernel
theorem dcmp5_41 : decode jdk_52_method_21_code 41 = .ok (.goto (-38), 3) := by decide +kernel
theorem dcmp5_44 : decode jdk_52_method_21_code 44 = .ok (.iload 4, 2) := by decide +kernel
theorem dcmp5_46 : decode jdk_52_method_21_code 46 = .ok (.ireturn, 1) := by decide +kernel
def QC (Z : State) (h0 : Heap) (dst : Addr) (n : Nat) (f : Nat → Int32) : Option Value → Heap → Prop := fun v h' => ∃ r g, v = some (.int (Int32.ofNat r)) ∧ r ≤ n ∧ Keep h0 h' [dst] ∧ An Z h' dst .byte n g ∧ (∀ j, j < r → ¬ 255 < f j ∧ g j = (f j).toInt8.toInt32) ∧ (r = n ∨ (r < n ∧ 255 < f r))
set_option maxRecDepth 65536 in
set_option maxHeartbeats 40000000 in
theorem lp_cmp {p : Program} {l : Launch} {e : Env} {R : Room} {s : State} {m : MethodId} {args : Array Value} {below : List Frame} {meth : Method} {c : Code} {Z : State} {nm : String} {ce sl cells slots : Nat} (hce : cells ≤ ce) (hsl : slots ≤ sl) (h0 : Heap) (src dst : Addr) (n : Nat) (f : Nat → Int32) (hne : src ≠ dst) (nd : Z.heap.size ≤ dst) :
    ∀ (k i : Nat), i + k = n → ∀ (T : State) (locs : List Loc) (h : Heap) (g : Nat → Int32) (o6 : Slot), One o6 → Cx p l e R s m args below meth c Z "java/lang/StringUTF16" nm jdk_52_method_21_code 7 (some .int) T locs cells slots h → An Z h src .char n f → An Z h dst .byte n g → (∀ j, j < i → ¬ 255 < f j ∧ g j = (f j).toInt8.toInt32) → Keep h0 h [dst] →
      Go p e below (FinN s Z (QC Z h0 dst n f) ce sl) T m 3 #[.val (.ref src), .val (.int (Int32.ofNat i)), .val (.ref dst), .val (.int (Int32.ofNat i)), .val (.int (Int32.ofNat n)), .val (.int (Int32.ofNat i)), o6] [] := by
  intro k
  induction k with
  | zero =>
    intro i hi T locs h g o6 ho X0 A B hg K
    have hin : i = n := by omega
    subst hin
    refine Go.iload X0 5 dcmp5_3 rfl ?_
    refine Go.iload X0 7 dcmp5_5 rfl ?_
    refine Go.icmpY X0 44 dcmp5_7 (XT.ii_ge_t (n_nlt (Nat.le_refl _) A.1)) ?_
    refine Go.iload X0 46 dcmp5_44 rfl ?_
    exact Go.retI X0 rfl (by simp) rfl dcmp5_46 (X0.fin ⟨_, g, rfl, Nat.le_refl _, K, B, hg, Or.inl rfl⟩ hce hsl)
  | succ k ih =>
    intro i hi T locs h g o6 ho X0 A B hg K
    have hin : i < n := by omega
    refine Go.iload X0 5 dcmp5_3 rfl ?_
    refine Go.iload X0 7 dcmp5_5 rfl ?_
    refine Go.icmpN X0 10 dcmp5_7 (XT.ii_ge_f (n_lt hin A.1)) ?_
    refine Go.aloadN X0 11 dcmp5_10 rfl rfl ?_
    refine Go.iloadN X0 12 dcmp5_11 rfl ?_
    refine Go.caN X0 13 A i hin dcmp5_12 ?_
    refine Go.istore X0 15 #[.val (.ref src), .val (.int (Int32.ofNat i)), .val (.ref dst), .val (.int (Int32.ofNat i)), .val (.int (Int32.ofNat n)), .val (.int (Int32.ofNat i)), .val (.int (f i))] dcmp5_13 (XS.store1 rfl ho rfl) ?_
    refine Go.iload X0 17 dcmp5_15 rfl ?_
    refine Go.sipush X0 20 (255 : Int32) dcmp5_17 ?_
    by_cases c21 : (255 : Int32) < (f i)
    · skip
      refine Go.icmpN X0 23 dcmp5_20 (XT.ii_le_f c21) ?_
      refine Go.iload X0 25 dcmp5_23 rfl ?_
      exact Go.retI X0 rfl (by simp) rfl dcmp5_25 (X0.fin ⟨i, g, rfl, Nat.le_of_lt hin, K, B, hg, Or.inr ⟨hin, c21⟩⟩ hce hsl)
    · skip
      refine Go.icmpY X0 26 dcmp5_20 (XT.ii_le_t c21) ?_
      refine Go.aloadN X0 27 dcmp5_26 rfl rfl ?_
      refine Go.iloadN X0 28 dcmp5_27 rfl ?_
      refine Go.iload X0 30 dcmp5_28 rfl ?_
      refine Go.i2b X0 31 dcmp5_30 ?_
      refine Go.stBN X0 32 B i hin dcmp5_31 nd ?_
      intro T22 h22 w22 X22 W22 V22
      have F23 : An Z h22 src .char n f := A.other W22 hne
      have F24 : An Z h22 dst .byte n (upd g i (nar .byte ((f i).toInt8.toInt32))) := V22
      refine Go.iinc X22 35 (1 : Int32) #[.val (.ref src), .val (.int ((Int32.ofNat i) + (1 : Int32))), .val (.ref dst), .val (.int (Int32.ofNat i)), .val (.int (Int32.ofNat n)), .val (.int (Int32.ofNat i)), .val (.int (f i))] dcmp5_32 rfl rfl ?_
      refine Go.iinc X22 38 (1 : Int32) #[.val (.ref src), .val (.int ((Int32.ofNat i) + (1 : Int32))), .val (.ref dst), .val (.int ((Int32.ofNat i) + (1 : Int32))), .val (.int (Int32.ofNat n)), .val (.int (Int32.ofNat i)), .val (.int (f i))] dcmp5_35 rfl rfl ?_
      refine Go.iinc X22 41 (1 : Int32) #[.val (.ref src), .val (.int ((Int32.ofNat i) + (1 : Int32))), .val (.ref dst), .val (.int ((Int32.ofNat i) + (1 : Int32))), .val (.int (Int32.ofNat n)), .val (.int ((Int32.ofNat i) + (1 : Int32))), .val (.int (f i))] dcmp5_38 rfl rfl ?_
      refine Go.goto X22 3 dcmp5_41 ?_
      rw [n_succ]
      refine ih (i + 1) (by omega) _ _ _ _ _ (One.val rfl) X22 F23 F24 (fun j hj => ?_) (K.wr W22 (Or.inl (List.mem_of_getElem? (i := 0) rfl)))
      by_cases q : j = i
      · subst q
        exact ⟨c21, by simp only [upd, if_pos rfl]; exact n_b _⟩
      · obtain ⟨q1, q2⟩ := hg j (by omega)
        exact ⟨q1, by simp only [upd, if_neg q]; exact q2⟩
theorem ef_cmp5 (m : MethodId) (src : Addr) (z0 : Int32) (dst : Addr) (z1 : Int32) (z2 : Int32) : entryFrame m #[(.ref src), (.int z0), (.ref dst), (.int z1), (.int z2)] 7 = mkF m 0 #[.val (.ref src), .val (.int z0), .val (.ref dst), .val (.int z1), .val (.int z2), .unset, .unset] [] := by first | (simp [entryFrame, mkF, argsToLocals, Value.category]; done) | rfl
set_option maxRecDepth 65536 in
set_option maxHeartbeats 40000000 in
theorem rm_cmp5 (l : Launch) (Z : State) (a0 : Array Value) (hw : ∀ d ∈ tables_1, d.before a0 Z = true) (h0 : Heap) (src dst : Addr) (n : Nat) (f g : Nat → Int32) (hne : src ≠ dst) (nd : Z.heap.size ≤ dst) (A : An Z h0 src .char n f) (B : An Z h0 dst .byte n g) :
    Ct l Z [] (⟨"java/lang/StringUTF16", "compress", "([CI[BII)I"⟩ : MethodName) jdk_52_method_21_code 7 (some .int) (⟨0, 0, 0, 0⟩ : Room) #[(.ref src), (.int (0 : Int32)), (.ref dst), (.int (0 : Int32)), (.int (Int32.ofNat n))] h0 (QC Z h0 dst n f) := by
  refine Ct.of pn_java_lang_StringUTF16 (fun m => ef_cmp5 m src 0 dst 0 (Int32.ofNat n)) ?_
  intro p e s m below meth c s₁ X0
  refine Go.iconst X0 1 (0 : Int32) dcmp5_0 ?_
  refine Go.istore X0 3 #[.val (.ref src), .val (.int (0 : Int32)), .val (.ref dst), .val (.int (0 : Int32)), .val (.int (Int32.ofNat n)), .val (.int (0 : Int32)), .unset] dcmp5_1 rfl ?_
  exact lp_cmp (Nat.le_refl _) (Nat.le_refl _) h0 src dst n f hne nd n 0 (by omega) _ _ _ g _ One.u X0 A B (fun j hj => absurd hj (Nat.not_lt_zero j)) (Keep.refl _ _)
theorem n_cf0 (n : Nat) : (XT.ushr (Int32.ofNat n - Int32.ofNat n) (31 : Int32)).toInt8.toInt32 = 0 := by rw [Int32.sub_self]; decide
theorem n_cf1 {n : Nat} (h0 : 0 < n) (h1 : n < 1073741823) : (XT.ushr (Int32.ofNat n - Int32.ofNat (2 * n)) (31 : Int32)).toInt8.toInt32 = 1 := by
  have e := c_iushr (Int32.ofNat n - Int32.ofNat (2 * n)) 31 31 (by decide) (by decide)
  have d := c_isub (Int32.ofNat n) (Int32.ofNat (2 * n))
  have r := rng32 (Int32.ofNat n - Int32.ofNat (2 * n))
  rw [n_int (by omega), n_int (by omega)] at d
  have p : ((2 ^ 31 : Nat) : Int) = 2147483648 := by decide
  rw [p] at e
  have : XT.ushr (Int32.ofNat n - Int32.ofNat (2 * n)) (31 : Int32) = 1 := by
    apply Int32.toInt_inj.mp
    show ((Int32.ofNat n - Int32.ofNat (2 * n)).toUInt32 >>> ((31 : Int32) &&& 31).toUInt32).toInt32.toInt = (1 : Int32).toInt
    rw [e]
    have : (1 : Int32).toInt = 1 := by decide
    omega
  rw [this]
  decide
theorem dcfal_0 : decode jdk_52_method_15_code 0 = .ok (.iload_n 1, 1) := by decide +kernel
theorem dcfal_1 : decode jdk_52_method_15_code 1 = .ok (.aload_n 0, 1) := by decide +kernel
theorem dcfal_2 : decode jdk_52_method_15_code 2 = .ok (.arraylength, 1) := by decide +kernel
theorem dcfal_3 : decode jdk_52_method_15_code 3 = .ok (.isub, 1) := by decide +kernel
theorem dcfal_4 : decode jdk_52_method_15_code 4 = .ok (.bipush 31, 2) := by decide +kernel
theorem dcfal_6 : decode jdk_52_method_15_code 6 = .ok (.iushr, 1) := by decide +kernel
theorem dcfal_7 : decode jdk_52_method_15_code 7 = .ok (.i2b, 1) := by decide +kernel
theorem dcfal_8 : decode jdk_52_method_15_code 8 = .ok (.ireturn, 1) := by decide +kernel
theorem ef_cfal (m : MethodId) (t : Addr) (z : Int32) : entryFrame m #[(.ref t), (.int z)] 2 = mkF m 0 #[.val (.ref t), .val (.int z)] [] := by first | (simp [entryFrame, mkF, argsToLocals, Value.category]; done) | rfl
set_option maxRecDepth 65536 in
set_option maxHeartbeats 40000000 in
theorem rm_cfal (l : Launch) (Z : State) (a0 : Array Value) (hw : ∀ d ∈ tables_1, d.before a0 Z = true) (h0 : Heap) (t : Addr) (z : Int32) (n k : Nat) (g : Nat → Int32) (r : Int32) (hz : z = Int32.ofNat n) (A : An Z h0 t .byte k g) (hr : (k = n ∧ r = 0) ∨ (k = 2 * n ∧ 0 < n ∧ n < 1073741823 ∧ r = 1)) :
    Ct l Z [] (⟨"java/lang/StringUTF16", "coderFromArrayLen", "([BI)B"⟩ : MethodName) jdk_52_method_15_code 2 (some .byte) (⟨0, 0, 0, 0⟩ : Room) #[(.ref t), (.int z)] h0 (Pu h0 (.int r)) := by
  refine Ct.of pn_java_lang_StringUTF16 (fun m => ef_cfal m t z) ?_
  intro p e s m below meth c s₁ X0
  subst hz
  refine Go.iloadN X0 1 dcfal_0 rfl ?_
  refine Go.aloadN X0 2 dcfal_1 rfl rfl ?_
  refine Go.alenN X0 3 A dcfal_2 ?_
  refine Go.isub X0 4 dcfal_3 ?_
  refine Go.bipush X0 6 (31 : Int32) dcfal_4 ?_
  refine Go.iushr X0 7 dcfal_6 ?_
  refine Go.i2b X0 8 dcfal_7 ?_
  rcases hr with ⟨rfl, rfl⟩ | ⟨rfl, q1, q2, rfl⟩
  · rw [n_cf0]
    exact Go.retI X0 rfl (by simp) rfl dcfal_8 (X0.fin ⟨rfl, rfl⟩ (by decide) (by decide))
  · rw [n_cf1 q1 q2]
    exact Go.retI X0 rfl (by simp) rfl dcfal_8 (X0.fin ⟨rfl, rfl⟩ (by decide) (by decide))
theorem dcmp3_0 : decode jdk_52_method_16_code 0 = .ok (.iload_n 2, 1) := by decide +kernel
theorem dcmp3_1 : decode jdk_52_method_16_code 1 = .ok (.newarray .byte, 2) := by decide +kernel
theorem dcmp3_3 : decode jdk_52_method_16_code 3 = .ok (.astore_n 3, 1) := by decide +kernel
theorem dcmp3_4 : decode jdk_52_method_16_code 4 = .ok (.aload_n 0, 1) := by decide +kernel
theorem dcmp3_5 : decode jdk_52_method_16_code 5 = .ok (.iload_n 1, 1) := by decide +kernel
theorem dcmp3_6 : decode jdk_52_method_16_code 6 = .ok (.aload_n 3, 1) := by decide +kernel
theorem dcmp3_7 : decode jdk_52_method_16_code 7 = .ok (.iconst 0, 1) := by decide +kernel
theorem dcmp3_8 : decode jdk_52_method_16_code 8 = .ok (.iload_n 2, 1) := by decide +kernel
theorem dcmp3_9 : decode jdk_52_method_16_code 9 = .ok (.invokestatic 115, 3) := by decide +kernel
theorem dcmp3_12 : decode jdk_52_method_16_code 12 = .ok (.istore 4, 2) := by decide +kernel
theorem dcmp3_14 : decode jdk_52_method_16_code 14 = .ok (.iload 4, 2) := by decide +kernel
theorem dcmp3_16 : decode jdk_52_method_16_code 16 = .ok (.iload_n 2, 1) := by decide +kernel
theorem dcmp3_17 : decode jdk_52_method_16_code 17 = .ok (.if_icmp .eq 40, 3) := by decide +kernel
theorem dcmp3_20 : decode jdk_52_method_16_code 20 = .ok (.aload_n 0, 1) := by decide +kernel
theorem dcmp3_21 : decode jdk_52_method_16_code 21 = .ok (.iload_n 1, 1) := by decide +kernel
theorem dcmp3_22 : decode jdk_52_method_16_code 22 = .ok (.iload_n 2, 1) := by decide +kernel
theorem dcmp3_23 : decode jdk_52_method_16_code 23 = .ok (.invokestatic 119, 3) := by decide +kernel
theorem dcmp3_26 : decode jdk_52_method_16_code 26 = .ok (.astore 5, 2) := by decide +kernel
theorem dcmp3_28 : decode jdk_52_method_16_code 28 = .ok (.aload 5, 2) := by decide +kernel
theorem dcmp3_30 : decode jdk_52_method_16_code 30 = .ok (.iload 4, 2) := by decide +kernel
theorem dcmp3_32 : decode jdk_52_method_16_code 32 = .ok (.invokestatic 71, 3) := by decide +kernel
theorem dcmp3_35 : decode jdk_52_method_16_code 35 = .ok (.sipush 255, 3) := by decide +kernel
theorem dcmp3_38 : decode jdk_52_method_16_code 38 = .ok (.if_icmp .gt 16, 3) := by decide +kernel
theorem dcmp3_41 : decode jdk_52_method_16_code 41 = .ok (.aload 5, 2) := by decide +kernel
theorem dcmp3_43 : decode jdk_52_method_16_code 43 = .ok (.iconst 0, 1) := by decide +kernel
theorem dcmp3_44 : decode jdk_52_method_16_code 44 = .ok (.aload_n 3, 1) := by decide +kernel
theorem dcmp3_45 : decode jdk_52_method_16_code 45 = .ok (.iconst 0, 1) := by decide +kernel
theorem dcmp3_46 : decode jdk_52_method_16_code 46 = .ok (.iload_n 2, 1) := by decide +kernel
theorem dcmp3_47 : decode jdk_52_method_16_code 47 = .ok (.invokestatic 123, 3) := by decide +kernel
theorem dcmp3_50 : decode jdk_52_method_16_code 50 = .ok (.iload_n 2, 1) := by decide +kernel
theorem dcmp3_51 : decode jdk_52_method_16_code 51 = .ok (.if_icmp .eq 6, 3) := by decide +kernel
theorem dcmp3_54 : decode jdk_52_method_16_code 54 = .ok (.aload 5, 2) := by decide +kernel
theorem dcmp3_56 : decode jdk_52_method_16_code 56 = .ok (.areturn, 1) := by decide +kernel
theorem dcmp3_57 : decode jdk_52_method_16_code 57 = .ok (.aload_n 3, 1) := by decide +kernel
theorem dcmp3_58 : decode jdk_52_method_16_code 58 = .ok (.areturn, 1) := by decide +kernel
theorem ef_cmp3 (m : MethodId) (src : Addr) (z0 : Int32) (z1 : Int32) : entryFrame m #[(.ref src), (.int z0), (.int z1)] 6 = mkF m 0 #[.val (.ref src), .val (.int z0), .val (.int z1), .unset, .unset, .unset] [] := by first | (simp [entryFrame, mkF, argsToLocals, Value.category]; done) | rfl
set_option maxRecDepth 65536 in
set_option maxHeartbeats 40000000 in
theorem rm_cmp3 (l : Launch) (Z : State) (a0 : Array Value) (hw : ∀ d ∈ tables_1, d.before a0 Z = true) (h0 : Heap) (src : Addr) (z0 z1 : Int32) (n : Nat) (f : Nat → Int32) (hz0 : z0 = 0) (hz1 : z1 = Int32.ofNat n) (hcap : n ≤ 4) (A : An Z h0 src .char n f) (hl : ∀ j, j < n → ¬ 255 < f j) :
    Ct l Z [] (⟨"java/lang/StringUTF16", "compress", "([CII)[B"⟩ : MethodName) jdk_52_method_16_code 6 (some (.array .byte)) (⟨1, 1, 4, 18⟩ : Room) #[(.ref src), (.int z0), (.int z1)] h0 (fun v h' => ∃ t g, v = some (.ref t) ∧ Keep h0 h' [] ∧ h0.size ≤ t ∧ An Z h' t .byte n g ∧ ∀ j, j < n → ¬ 255 < f j ∧ g j = (f j).toInt8.toInt32) := by
  refine Ct.of pn_java_lang_StringUTF16 (fun m => ef_cmp3 m src z0 z1) ?_
  intro p e s m below meth c s₁ X0
  subst hz0 hz1
  have K1 : Keep h0 h0 [] := Keep.refl _ _
  refine Go.iloadN X0 1 dcmp3_0 rfl ?_
  refine Go.newB X0 3 (n := n) (hw _ (List.mem_of_getElem? (i := 19) rfl)) dcmp3_1 4 hcap (by decide) (by decide) (by decide) ?_
  intro T2 h2 a2 X2 E2 g2 V2
  have nw_a2 : Z.heap.size ≤ a2 := by rw [← g2]; exact X0.le
  have si_a2 : h0.size ≤ a2 := by rw [← g2]; exact K1.1
  have ne_src_a2 : src ≠ a2 := by rw [← g2]; exact Nat.ne_of_lt A.lt
  have K3 : Keep h0 h2 [] := K1.ext E2
  have F4 : An Z h2 src .char n f := A.ext E2
  refine Go.astoreN X2 4 #[.val (.ref src), .val (.int (0 : Int32)), .val (.int (Int32.ofNat n)), .val (.ref a2), .unset, .unset] dcmp3_3 rfl rfl ?_
  refine Go.aloadN X2 5 dcmp3_4 rfl rfl ?_
  refine Go.iloadN X2 6 dcmp3_5 rfl ?_
  refine Go.aloadN X2 7 dcmp3_6 rfl rfl ?_
  refine Go.iconst X2 8 (0 : Int32) dcmp3_7 ?_
  refine Go.iloadN X2 9 dcmp3_8 rfl ?_
  refine Go.callS X2 12 [(.ref src), (.int (0 : Int32)), (.ref a2), (.int (0 : Int32)), (.int (Int32.ofNat n))] [] 0 (hw _ (List.mem_of_getElem? (i := 20) rfl)) (hw _ (List.mem_of_getElem? (i := 21) rfl)) (hw _ (List.mem_of_getElem? (i := 17) rfl)) (by decide) (hw _ (List.mem_of_getElem? (i := 22) rfl)) pd_0 dcmp3_9 (rm_cmp5 l Z a0 hw h2 src a2 n f _ ne_src_a2 nw_a2 F4 V2) rfl rfl rfl (Nat.le_of_eq rfl) (by decide) (by decide) (by decide) (by decide) ?_
  rintro T5 v5 L5 X5 ⟨r, g, rfl, hr, K, B, hg, hx⟩
  show Go p e below _ T5 m 12 #[.val (.ref src), .val (.int (0 : Int32)), .val (.int (Int32.ofNat n)), .val (.ref a2), .unset, .unset] [(.int (Int32.ofNat r))]
  have K6 : Keep h0 T5.heap [] := K3.trans K (allS (Or.inr si_a2) all0)
  have F7 : An Z T5.heap src .char n f := F4.keep K (ninS ne_src_a2 nin0)
  have hrn : r = n := hx.elim id (fun q => absurd q.2 (hl r q.1))
  subst hrn
  refine Go.istore X5 14 #[.val (.ref src), .val (.int (0 : Int32)), .val (.int (Int32.ofNat r)), .val (.ref a2), .val (.int (Int32.ofNat r)), .unset] dcmp3_12 rfl ?_
  refine Go.iload X5 16 dcmp3_14 rfl ?_
  refine Go.iloadN X5 17 dcmp3_16 rfl ?_
  refine Go.icmpY X5 57 dcmp3_17 (XT.ii_eq_t rfl) ?_
  refine Go.aloadN X5 58 dcmp3_57 rfl rfl ?_
  exact Go.retA X5 rfl rfl rfl dcmp3_58 (X5.fin ⟨_, g, rfl, K6, si_a2, B, hg⟩ (by decide) (by decide))
theorem pn_java_lang_String : plainName "java/lang/String" = true := by first | (simp [plainName, overriddenIn]; done) | decide +kernel
theorem di4_0 : decode jdk_42_method_149_code 0 = .ok (.aload_n 0, 1) := by decide +kernel
theorem di4_1 : decode jdk_42_method_149_code 1 = .ok (.invokespecial 1, 3) := by decide +kernel
theorem di4_4 : decode jdk_42_method_149_code 4 = .ok (.iload_n 3, 1) := by decide +kernel
theorem di4_5 : decode jdk_42_method_149_code 5 = .ok (.ifCond .ne 22, 3) := by decide +kernel
theorem di4_8 : decode jdk_42_method_149_code 8 = .ok (.aload_n 0, 1) := by decide +kernel
theorem di4_9 : decode jdk_42_method_149_code 9 = .ok (.ldc 7, 2) := by decide +kernel
theorem di4_11 : decode jdk_42_method_149_code 11 = .ok (.getfield 9, 3) := by decide +kernel
theorem di4_14 : decode jdk_42_method_149_code 14 = .ok (.putfield 9, 3) := by decide +kernel
theorem di4_17 : decode jdk_42_method_149_code 17 = .ok (.aload_n 0, 1) := by decide +kernel
theorem di4_18 : decode jdk_42_method_149_code 18 = .ok (.ldc 7, 2) := by decide +kernel
theorem di4_20 : decode jdk_42_method_149_code 20 = .ok (.getfield 15, 3) := by decide +kernel
theorem di4_23 : decode jdk_42_method_149_code 23 = .ok (.putfield 15, 3) := by decide +kernel
theorem di4_26 : decode jdk_42_method_149_code 26 = .ok (.return_, 1) := by decide +kernel
theorem di4_27 : decode jdk_42_method_149_code 27 = .ok (.getstatic 38, 3) := by decide +kernel
theorem di4_30 : decode jdk_42_method_149_code 30 = .ok (.ifCond .eq 28, 3) := by decide +kernel
theorem di4_33 : decode jdk_42_method_149_code 33 = .ok (.aload_n 1, 1) := by decide +kernel
theorem di4_34 : decode jdk_42_method_149_code 34 = .ok (.iload_n 2, 1) := by decide +kernel
theorem di4_35 : decode jdk_42_method_149_code 35 = .ok (.iload_n 3, 1) := by decide +kernel
theorem di4_36 : decode jdk_42_method_149_code 36 = .ok (.invokestatic 177, 3) := by decide +kernel
theorem di4_39 : decode jdk_42_method_149_code 39 = .ok (.astore 5, 2) := by decide +kernel
theorem di4_41 : decode jdk_42_method_149_code 41 = .ok (.aload_n 0, 1) := by decide +kernel
theorem di4_42 : decode jdk_42_method_149_code 42 = .ok (.aload 5, 2) := by decide +kernel
theorem di4_44 : decode jdk_42_method_149_code 44 = .ok (.iload_n 3, 1) := by decide +kernel
theorem di4_45 : decode jdk_42_method_149_code 45 = .ok (.invokestatic 47, 3) := by decide +kernel
theorem di4_48 : decode jdk_42_method_149_code 48 = .ok (.putfield 15, 3) := by decide +kernel
theorem di4_51 : decode jdk_42_method_149_code 51 = .ok (.aload_n 0, 1) := by decide +kernel
theorem di4_52 : decode jdk_42_method_149_code 52 = .ok (.aload 5, 2) := by decide +kernel
theorem di4_54 : decode jdk_42_method_149_code 54 = .ok (.putfield 9, 3) := by decide +kernel
theorem di4_57 : decode jdk_42_method_149_code 57 = .ok (.return_, 1) := by decide +kernel
theorem di4_58 : decode jdk_42_method_149_code 58 = .ok (.aload_n 0, 1) := by decide +kernel
theorem di4_59 : decode jdk_42_method_149_code 59 = .ok (.iconst 1, 1) := by decide +kernel
theorem di4_60 : decode jdk_42_method_149_code 60 = .ok (.putfield 15, 3) := by decide +kernel
theorem di4_63 : decode jdk_42_method_149_code 63 = .ok (.aload_n 0, 1) := by decide +kernel
theorem di4_64 : decode jdk_42_method_149_code 64 = .ok (.aload_n 1, 1) := by decide +kernel
theorem di4_65 : decode jdk_42_method_149_code 65 = .ok (.iload_n 2, 1) := by decide +kernel
theorem di4_66 : decode jdk_42_method_149_code 66 = .ok (.iload_n 3, 1) := by decide +kernel
theorem di4_67 : decode jdk_42_method_149_code 67 = .ok (.invokestatic 180, 3) := by decide +kernel
theorem di4_70 : decode jdk_42_method_149_code 70 = .ok (.putfield 9, 3) := by decide +kernel
theorem di4_73 : decode jdk_42_method_149_code 73 = .ok (.return_, 1) := by decide +kernel
theorem ef_i4 (m : MethodId) (a : Addr) (src : Addr) (z0 : Int32) (z1 : Int32) : entryFrame m #[(.ref a), (.ref src), (.int z0), (.int z1), .null] 6 = mkF m 0 #[.val (.ref a), .val (.ref src), .val (.int z0), .val (.int z1), .val .null, .unset] [] := by first | (simp [entryFrame, mkF, argsToLocals, Value.category]; done) | rfl
set_option maxRecDepth 65536 in
set_option maxHeartbeats 40000000 in
theorem rm_i4 (l : Launch) (Z : State) (a0 : Array Value) (hw : ∀ d ∈ tables_1, d.before a0 Z = true) (h0 : Heap) (cz : Int32) (SC : Sta Z Z.heap "java/lang/String" "COMPACT_STRINGS" "Z" (.int cz)) (hcz : ¬ cz = 0) (a src : Addr) (n : Nat) (f : Nat → Int32) (hn : 0 < n) (hcap : n ≤ 4) (E : Exa Z h0 a "java/lang/String") (FV : Fld Z h0 a "java/lang/String" "value" "[B" .null) (FC : Fld Z h0 a "java/lang/String" "coder" "B" (.int 0)) (na : Z.heap.size ≤ a) (hne : src ≠ a) (A : An Z h0 src .char n f) (hf : ∀ j, j < n → 0 ≤ (f j).toInt ∧ (f j).toInt < 65536) (hl : ∀ j, j < n → ¬ 255 < f j) (z0 z1 : Int32) (hz0 : z0 = 0) (hz1 : z1 = Int32.ofNat n) :
    Ct l Z [] (⟨"java/lang/String", "<init>", "([CIILjava/lang/Void;)V"⟩ : MethodName) jdk_42_method_149_code 6 none (⟨2, 1, 4, 35⟩ : Room) #[(.ref a), (.ref src), (.int z0), (.int z1), .null] h0 (fun v h' => v = none ∧ ∃ t, Keep h0 h' [a] ∧ h0.size ≤ t ∧ Str Z h' a t n f) := by
  refine Ct.of pn_java_lang_String (fun m => ef_i4 m a src z0 z1) ?_
  intro p e s m below meth c s₁ X0
  subst hz0 hz1
  have K1 : Keep h0 h0 [a] := Keep.refl _ _
  refine Go.aloadN X0 1 di4_0 rfl rfl ?_
  refine Go.initO X0 4 (hw _ (List.mem_of_getElem? (i := 11) rfl)) (hw _ (List.mem_of_getElem? (i := 12) rfl)) (hw _ (List.mem_of_getElem? (i := 13) rfl)) 0 di4_1 rfl (by decide) (by decide) (by decide) ?_
  intro T2 X2
  refine Go.iloadN X2 5 di4_4 rfl ?_
  refine Go.if0Y X2 27 di4_5 (XT.i0_ne_t (n_ne0 hn (by omega))) ?_
  refine Go.getS X2 30 (hw _ (List.mem_of_getElem? (i := 14) rfl)) SC di4_27 ?_
  intro T3 X3
  refine Go.if0N X3 33 di4_30 (XT.i0_eq_f hcz) ?_
  refine Go.aloadN X3 34 di4_33 rfl rfl ?_
  refine Go.iloadN X3 35 di4_34 rfl ?_
  refine Go.iloadN X3 36 di4_35 rfl ?_
  refine Go.callS X3 39 [(.ref src), (.int (0 : Int32)), (.int (Int32.ofNat n))] [] 0 (hw _ (List.mem_of_getElem? (i := 15) rfl)) (hw _ (List.mem_of_getElem? (i := 16) rfl)) (hw _ (List.mem_of_getElem? (i := 17) rfl)) (by decide) (hw _ (List.mem_of_getElem? (i := 18) rfl)) pd_1 di4_36 (rm_cmp3 l Z a0 hw h0 src 0 (Int32.ofNat n) n f rfl rfl hcap A hl) rfl rfl rfl (Nat.le_of_eq rfl) (by decide) (by decide) (by decide) (by decide) ?_
  rintro T4 v4 L4 X4 ⟨t, g, rfl, K3, gt, B, hg⟩
  show Go p e below _ T4 m 39 #[.val (.ref a), .val (.ref src), .val (.int (0 : Int32)), .val (.int (Int32.ofNat n)), .val .null, .unset] [(.ref t)]
  have nw_t : Z.heap.size ≤ t := Nat.le_trans X3.le gt
  have ne_a_t : a ≠ t := Nat.ne_of_lt (Nat.lt_of_lt_of_le E.lt gt)
  have ne_src_t : src ≠ t := Nat.ne_of_lt (Nat.lt_of_lt_of_le A.lt gt)
  have si_t : h0.size ≤ t := Nat.le_trans K1.1 gt
  have K5 : Keep h0 T4.heap [a] := K1.trans K3 all0
  have F6 : Exa Z T4.heap a "java/lang/String" := E.keep K3
  have F7 : Fld Z T4.heap a "java/lang/String" "value" "[B" .null := FV.keep K3 nin0
  have F8 : Fld Z T4.heap a "java/lang/String" "coder" "B" (.int (0 : Int32)) := FC.keep K3 nin0
  have F9 : An Z T4.heap src .char n f := A.keep K3 nin0
  refine Go.astore X4 41 #[.val (.ref a), .val (.ref src), .val (.int (0 : Int32)), .val (.int (Int32.ofNat n)), .val .null, .val (.ref t)] di4_39 rfl rfl ?_
  refine Go.aloadN X4 42 di4_41 rfl rfl ?_
  refine Go.aload X4 44 di4_42 rfl rfl ?_
  refine Go.iloadN X4 45 di4_44 rfl ?_
  refine Go.callSP X4 48 [(.ref t), (.int (Int32.ofNat n))] [(.ref a)] 1 (hw _ (List.mem_of_getElem? (i := 23) rfl)) (hw _ (List.mem_of_getElem? (i := 24) rfl)) (hw _ (List.mem_of_getElem? (i := 17) rfl)) (by decide) (hw _ (List.mem_of_getElem? (i := 25) rfl)) pd_2 di4_45 (rm_cfal l Z a0 hw T4.heap t (Int32.ofNat n) n n g 0 rfl B (Or.inl ⟨rfl, rfl⟩)) rfl rfl rfl (Nat.le_of_eq rfl) (by decide) (by decide) (by decide) (by decide) ?_
  intro T10 L10 X10
  refine Go.putF X10 51 (hw _ (List.mem_of_getElem? (i := 26) rfl)) F8 F6 (Or.inr ⟨(hw _ (List.mem_of_getElem? (i := 27) rfl)), rfl, rfl⟩) (hw _ (List.mem_of_getElem? (i := 2) rfl)) (ty := .byte) (by decide) rfl rfl na di4_48 ?_
  intro T11 h11 X11 W11
  have K12 : Keep h0 h11 [a] := K5.wr W11 (Or.inl (List.mem_of_getElem? (i := 0) rfl))
  have F13 : Exa Z h11 a "java/lang/String" := F6.wr W11
  have F14 : Fld Z h11 a "java/lang/String" "value" "[B" .null := F7.other W11 (Or.inr (slot_ne (Or.inr (hw _ (List.mem_of_getElem? (i := 29) rfl))) (Or.inr (hw _ (List.mem_of_getElem? (i := 27) rfl))) (by decide) (t := (.array .byte)) (t' := .byte) (by decide) (by decide)))
  have F15 : Fld Z h11 a "java/lang/String" "coder" "B" (.int (0 : Int32)) := F8.same W11
  have F16 : An Z h11 src .char n f := F9.other W11 hne
  have F17 : An Z h11 t .byte n g := B.other W11 (Ne.symm ne_a_t)
  refine Go.aloadN X11 52 di4_51 rfl rfl ?_
  refine Go.aload X11 54 di4_52 rfl rfl ?_
  refine Go.putF X11 57 (hw _ (List.mem_of_getElem? (i := 28) rfl)) F14 F13 (Or.inr ⟨(hw _ (List.mem_of_getElem? (i := 29) rfl)), rfl, rfl⟩) (hw _ (List.mem_of_getElem? (i := 2) rfl)) (ty := (.array .byte)) (by decide) rfl rfl na di4_54 ?_
  intro T18 h18 X18 W18
  have K19 : Keep h0 h18 [a] := K12.wr W18 (Or.inl (List.mem_of_getElem? (i := 0) rfl))
  have F20 : Exa Z h18 a "java/lang/String" := F13.wr W18
  have F21 : Fld Z h18 a "java/lang/String" "value" "[B" (.ref t) := F14.same W18
  have F22 : Fld Z h18 a "java/lang/String" "coder" "B" (.int (0 : Int32)) := F15.other W18 (Or.inr (slot_ne (Or.inr (hw _ (List.mem_of_getElem? (i := 27) rfl))) (Or.inr (hw _ (List.mem_of_getElem? (i := 29) rfl))) (by decide) (t := .byte) (t' := (.array .byte)) (by decide) (by decide)))
  have F23 : An Z h18 src .char n f := F16.other W18 hne
  have F24 : An Z h18 t .byte n g := F17.other W18 (Ne.symm ne_a_t)
  exact Go.retV X18 rfl di4_57 (X18.fin ⟨rfl, t, K19, si_t, F20, F21, by omega, hf, Or.inl ⟨F22, g, F24, hg⟩⟩ (by decide) (by decide))
theorem di1_0 : decode jdk_42_method_3_code 0 = .ok (.aload_n 0, 1) := by decide +kernel
theorem di1_1 : decode jdk_42_method_3_code 1 = .ok (.aload_n 1, 1) := by decide +kernel
theorem di1_2 : decode jdk_42_method_3_code 2 = .ok (.iconst 0, 1) := by decide +kernel
theorem di1_3 : decode jdk_42_method_3_code 3 = .ok (.aload_n 1, 1) := by decide +kernel
theorem di1_4 : decode jdk_42_method_3_code 4 = .ok (.arraylength, 1) := by decide +kernel
theorem di1_5 : decode jdk_42_method_3_code 5 = .ok (.aconst_null, 1) := by decide +kernel
theorem di1_6 : decode jdk_42_method_3_code 6 = .ok (.invokespecial 27, 3) := by decide +kernel
theorem di1_9 : decode jdk_42_method_3_code 9 = .ok (.return_, 1) := by decide +kernel
theorem ef_i1 (m : MethodId) (a : Addr) (src : Addr) : entryFrame m #[(.ref a), (.ref src)] 2 = mkF m 0 #[.val (.ref a), .val (.ref src)] [] := by first | (simp [entryFrame, mkF, argsToLocals, Value.category]; done) | rfl
set_option maxRecDepth 65536 in
set_option maxHeartbeats 40000000 in
theorem rm_i1 (l : Launch) (Z : State) (a0 : Array Value) (hw : ∀ d ∈ tables_1, d.before a0 Z = true) (h0 : Heap) (cz : Int32) (SC : Sta Z Z.heap "java/lang/String" "COMPACT_STRINGS" "Z" (.int cz)) (hcz : ¬ cz = 0) (a src : Addr) (n : Nat) (f : Nat → Int32) (hn : 0 < n) (hcap : n ≤ 4) (E : Exa Z h0 a "java/lang/String") (FV : Fld Z h0 a "java/lang/String" "value" "[B" .null) (FC : Fld Z h0 a "java/lang/String" "coder" "B" (.int 0)) (na : Z.heap.size ≤ a) (hne : src ≠ a) (A : An Z h0 src .char n f) (hf : ∀ j, j < n → 0 ≤ (f j).toInt ∧ (f j).toInt < 65536) (hl : ∀ j, j < n → ¬ 255 < f j) :
    Ct l Z [] (⟨"java/lang/String", "<init>", "([C)V"⟩ : MethodName) jdk_42_method_3_code 2 none (⟨3, 1, 4, 52⟩ : Room) #[(.ref a), (.ref src)] h0 (fun v h' => v = none ∧ ∃ t, Keep h0 h' [a] ∧ h0.size ≤ t ∧ Str Z h' a t n f) := by
  refine Ct.of pn_java_lang_String (fun m => ef_i1 m a src) ?_
  intro p e s m below meth c s₁ X0
  refine Go.aloadN X0 1 di1_0 rfl rfl ?_
  refine Go.aloadN X0 2 di1_1 rfl rfl ?_
  refine Go.iconst X0 3 (0 : Int32) di1_2 ?_
  refine Go.aloadN X0 4 di1_3 rfl rfl ?_
  refine Go.alenN X0 5 A di1_4 ?_
  refine Go.aconst_null X0 6 di1_5 ?_
  refine Go.callI X0 9 [(.ref src), (.int (0 : Int32)), (.int (Int32.ofNat n)), .null] [] 0 rfl (hw _ (List.mem_of_getElem? (i := 7) rfl)) (hw _ (List.mem_of_getElem? (i := 8) rfl)) (hw _ (List.mem_of_getElem? (i := 3) rfl)) (by decide) rfl (hw _ (List.mem_of_getElem? (i := 10) rfl)) pd_3 di1_6 (rm_i4 l Z a0 hw h0 cz SC hcz a src n f hn hcap E FV FC na hne A hf hl 0 (Int32.ofNat n) rfl rfl) rfl rfl rfl (Nat.le_of_eq rfl) (by decide) (by decide) (by decide) (by decide) ?_
  rintro T1 v1 L1 X1 ⟨rfl, hq⟩
  show Go p e below _ T1 m 9 #[.val (.ref a), .val (.ref src)] []
  exact Go.retV X1 rfl di1_9 (X1.fin ⟨rfl, hq⟩ (by decide) (by decide))
theorem dcoder_0 : decode jdk_42_method_152_code 0 = .ok (.getstatic 38, 3) := by decide +kernel
theorem dcoder_3 : decode jdk_42_method_152_code 3 = .ok (.ifCond .eq 10, 3) := by decide +kernel
theorem dcoder_6 : decode jdk_42_method_152_code 6 = .ok (.aload_n 0, 1) := by decide +kernel
theorem dcoder_7 : decode jdk_42_method_152_code 7 = .ok (.getfield 15, 3) := by decide +kernel
theorem dcoder_10 : decode jdk_42_method_152_code 10 = .ok (.goto 4, 3) := by decide +kernel
theorem dcoder_13 : decode jdk_42_method_152_code 13 = .ok (.iconst 1, 1) := by decide +kernel
theorem dcoder_14 : decode jdk_42_method_152_code 14 = .ok (.ireturn, 1) := by decide +kernel
theorem ef_coder (m : MethodId) (a : Addr) : entryFrame m #[(.ref a)] 1 = mkF m 0 #[.val (.ref a)] [] := by first | (simp [entryFrame, mkF, argsToLocals, Value.category]; done) | rfl
set_option maxRecDepth 65536 in
set_option maxHeartbeats 40000000 in
theorem rm_coder (l : Launch) (Z : State) (a0 : Array Value) (hw : ∀ d ∈ tables_1, d.before a0 Z = true) (h0 : Heap) (cz : Int32) (SC : Sta Z Z.heap "java/lang/String" "COMPACT_STRINGS" "Z" (.int cz)) (hcz : ¬ cz = 0) (a : Addr) (z : Int32) (hz : z = 0 ∨ z = 1) (F : Fld Z h0 a "java/lang/String" "coder" "B" (.int z)) :
    Ct l Z [] (⟨"java/lang/String", "coder", "()B"⟩ : MethodName) jdk_42_method_152_code 1 (some .byte) (⟨0, 0, 0, 0⟩ : Room) #[(.ref a)] h0 (Pu h0 (.int z)) := by
  refine Ct.of pn_java_lang_String (fun m => ef_coder m a) ?_
  intro p e s m below meth c s₁ X0
  refine Go.getS X0 3 (hw _ (List.mem_of_getElem? (i := 14) rfl)) SC dcoder_0 ?_
  intro T1 X1
  refine Go.if0N X1 6 dcoder_3 (XT.i0_eq_f hcz) ?_
  refine Go.aloadN X1 7 dcoder_6 rfl rfl ?_
  refine Go.getF X1 10 (hw _ (List.mem_of_getElem? (i := 26) rfl)) F dcoder_7 ?_
  intro T2 X2
  refine Go.goto X2 14 dcoder_10 ?_
  exact Go.retI X2 rfl (by simp) (by rcases hz with rfl | rfl <;> rfl) dcoder_14 (X2.fin ⟨rfl, rfl⟩ (by decide) (by decide))
theorem dlat_0 : decode jdk_42_method_154_code 0 = .ok (.getstatic 38, 3) := by decide +kernel
theorem dlat_3 : decode jdk_42_method_154_code 3 = .ok (.ifCond .eq 14, 3) := by decide +kernel
theorem dlat_6 : decode jdk_42_method_154_code 6 = .ok (.aload_n 0, 1) := by decide +kernel
theorem dlat_7 : decode jdk_42_method_154_code 7 = .ok (.getfield 15, 3) := by decide +kernel
theorem dlat_10 : decode jdk_42_method_154_code 10 = .ok (.ifCond .ne 7, 3) := by decide +kernel
theorem dlat_13 : decode jdk_42_method_154_code 13 = .ok (.iconst 1, 1) := by decide +kernel
theorem dlat_14 : decode jdk_42_method_154_code 14 = .ok (.goto 4, 3) := by decide +kernel
theorem dlat_17 : decode jdk_42_method_154_code 17 = .ok (.iconst 0, 1) := by decide +kernel
theorem dlat_18 : decode jdk_42_method_154_code 18 = .ok (.ireturn, 1) := by decide +kernel
theorem ef_lat (m : MethodId) (a : Addr) : entryFrame m #[(.ref a)] 1 = mkF m 0 #[.val (.ref a)] [] := by first | (simp [entryFrame, mkF, argsToLocals, Value.category]; done) | rfl
set_option maxRecDepth 65536 in
set_option maxHeartbeats 40000000 in
theorem rm_lat (l : Launch) (Z : State) (a0 : Array Value) (hw : ∀ d ∈ tables_1, d.before a0 Z = true) (h0 : Heap) (cz : Int32) (SC : Sta Z Z.heap "java/lang/String" "COMPACT_STRINGS" "Z" (.int cz)) (hcz : ¬ cz = 0) (a : Addr) (z r : Int32) (F : Fld Z h0 a "java/lang/String" "coder" "B" (.int z)) (hz : (z = 0 ∧ r = 1) ∨ (z = 1 ∧ r = 0)) :
    Ct l Z [] (⟨"java/lang/String", "isLatin1", "()Z"⟩ : MethodName) jdk_42_method_154_code 1 (some .boolean) (⟨0, 0, 0, 0⟩ : Room) #[(.ref a)] h0 (Pu h0 (.int r)) := by
  refine Ct.of pn_java_lang_String (fun m => ef_lat m a) ?_
  intro p e s m below meth c s₁ X0
  rcases hz with ⟨rfl, rfl⟩ | ⟨rfl, rfl⟩
  · skip
    refine Go.getS X0 3 (hw _ (List.mem_of_getElem? (i := 14) rfl)) SC dlat_0 ?_
    intro T1 X1
    refine Go.if0N X1 6 dlat_3 (XT.i0_eq_f hcz) ?_
    refine Go.aloadN X1 7 dlat_6 rfl rfl ?_
    refine Go.getF X1 10 (hw _ (List.mem_of_getElem? (i := 26) rfl)) F dlat_7 ?_
    intro T2 X2
    refine Go.if0N X2 13 dlat_10 (XT.i0_ne_f (by decide)) ?_
    refine Go.iconst X2 14 (1 : Int32) dlat_13 ?_
    refine Go.goto X2 18 dlat_14 ?_
    exact Go.retI X2 rfl (by simp) rfl dlat_18 (X2.fin ⟨rfl, rfl⟩ (by decide) (by decide))
  · skip
    refine Go.getS X0 3 (hw _ (List.mem_of_getElem? (i := 14) rfl)) SC dlat_0 ?_
    intro T3 X3
    refine Go.if0N X3 6 dlat_3 (XT.i0_eq_f hcz) ?_
    refine Go.aloadN X3 7 dlat_6 rfl rfl ?_
    refine Go.getF X3 10 (hw _ (List.mem_of_getElem? (i := 26) rfl)) F dlat_7 ?_
    intro T4 X4
    refine Go.if0Y X4 17 dlat_10 (XT.i0_ne_t (by decide)) ?_
    refine Go.iconst X4 18 (0 : Int32) dlat_17 ?_
    exact Go.retI X4 rfl (by simp) rfl dlat_18 (X4.fin ⟨rfl, rfl⟩ (by decide) (by decide))
theorem n_sh0 (x : Int32) : x >>> ((0 : Int32) &&& 31) = x := by
  apply Int32.toInt_inj.mp
  rw [c_ishr x 0 0 (by decide)]
  simp
theorem n_sh1 {n : Nat} (h : n < 1073741823) : Int32.ofNat (2 * n) >>> ((1 : Int32) &&& 31) = Int32.ofNat n := by
  apply Int32.toInt_inj.mp
  rw [c_ishr _ 1 1 (by decide), n_int (by omega), n_int (by omega)]
  have : ((2 ^ 1 : Nat) : Int) = 2 := by decide
  rw [this]
  omega
theorem dlen_0 : decode jdk_42_method_54_code 0 = .ok (.aload_n 0, 1) := by decide +kernel
theorem dlen_1 : decode jdk_42_method_54_code 1 = .ok (.getfield 9, 3) := by decide +kernel
theorem dlen_4 : decode jdk_42_method_54_code 4 = .ok (.arraylength, 1) := by decide +kernel
theorem dlen_5 : decode jdk_42_method_54_code 5 = .ok (.aload_n 0, 1) := by decide +kernel
theorem dlen_6 : decode jdk_42_method_54_code 6 = .ok (.invokevirtual 335, 3) := by decide +kernel
theorem dlen_9 : decode jdk_42_method_54_code 9 = .ok (.ishr, 1) := by decide +kernel
theorem dlen_10 : decode jdk_42_method_54_code 10 = .ok (.ireturn, 1) := by decide +kernel
theorem ef_len (m : MethodId) (a : Addr) : entryFrame m #[(.ref a)] 1 = mkF m 0 #[.val (.ref a)] [] := by first | (simp [entryFrame, mkF, argsToLocals, Value.category]; done) | rfl
set_option maxRecDepth 65536 in
set_option maxHeartbeats 40000000 in
theorem rm_len (l : Launch) (Z : State) (a0 : Array Value) (hw : ∀ d ∈ tables_1, d.before a0 Z = true) (h0 : Heap) (cz : Int32) (SC : Sta Z Z.heap "java/lang/String" "COMPACT_STRINGS" "Z" (.int cz)) (hcz : ¬ cz = 0) (a t : Addr) (n : Nat) (f : Nat → Int32) (S : Str Z h0 a t n f) :
    Ct l Z [] (⟨"java/lang/String", "length", "()I"⟩ : MethodName) jdk_42_method_54_code 1 (some .int) (⟨1, 0, 0, 13⟩ : Room) #[(.ref a)] h0 (Pu h0 (.int (Int32.ofNat n))) := by
  refine Ct.of pn_java_lang_String (fun m => ef_len m a) ?_
  intro p e s m below meth c s₁ X0
  obtain ⟨S1, S2, S3, S4, ⟨S5, g, A, G⟩ | ⟨S5, S6, g, A, G⟩⟩ := S
  · skip
    refine Go.aloadN X0 1 dlen_0 rfl rfl ?_
    refine Go.getF X0 4 (hw _ (List.mem_of_getElem? (i := 28) rfl)) S2 dlen_1 ?_
    intro T1 X1
    refine Go.alenN X1 5 A dlen_4 ?_
    refine Go.aloadN X1 6 dlen_5 rfl rfl ?_
    refine Go.callVP X1 9 [] [(.int (Int32.ofNat n))] 1 (hw _ (List.mem_of_getElem? (i := 101) rfl)) (hw _ (List.mem_of_getElem? (i := 102) rfl)) (hw _ (List.mem_of_getElem? (i := 104) rfl)) (notFace_of_selects (args := #[]) (mvT X1.hZ (hw _ (List.mem_of_getElem? (i := 104) rfl)))) (hw _ (List.mem_of_getElem? (i := 103) rfl)) (hw _ (List.mem_of_getElem? (i := 3) rfl)) (by decide) S1 (hw _ (List.mem_of_getElem? (i := 105) rfl)) pd_4 dlen_6 (rm_coder l Z a0 hw h0 cz SC hcz a 0 (Or.inl rfl) S5) rfl rfl rfl (Nat.le_of_eq rfl) (by decide) (by decide) (by decide) (by decide) ?_
    intro T2 L2 X2
    refine Go.ishr X2 10 dlen_9 ?_
    rw [n_sh0]
    exact Go.retI X2 rfl (by simp) rfl dlen_10 (X2.fin ⟨rfl, rfl⟩ (by decide) (by decide))
  · skip
    refine Go.aloadN X0 1 dlen_0 rfl rfl ?_
    refine Go.getF X0 4 (hw _ (List.mem_of_getElem? (i := 28) rfl)) S2 dlen_1 ?_
    intro T3 X3
    refine Go.alenN X3 5 A dlen_4 ?_
    refine Go.aloadN X3 6 dlen_5 rfl rfl ?_
    refine Go.callVP X3 9 [] [(.int (Int32.ofNat (2 * n)))] 1 (hw _ (List.mem_of_getElem? (i := 101) rfl)) (hw _ (List.mem_of_getElem? (i := 102) rfl)) (hw _ (List.mem_of_getElem? (i := 104) rfl)) (notFace_of_selects (args := #[]) (mvT X3.hZ (hw _ (List.mem_of_getElem? (i := 104) rfl)))) (hw _ (List.mem_of_getElem? (i := 103) rfl)) (hw _ (List.mem_of_getElem? (i := 3) rfl)) (by decide) S1 (hw _ (List.mem_of_getElem? (i := 105) rfl)) pd_4 dlen_6 (rm_coder l Z a0 hw h0 cz SC hcz a 1 (Or.inr rfl) S5) rfl rfl rfl (Nat.le_of_eq rfl) (by decide) (by decide) (by decide) (by decide) ?_
    intro T4 L4 X4
    refine Go.ishr X4 10 dlen_9 ?_
    rw [n_sh1 S3]
    exact Go.retI X4 rfl (by simp) rfl dlen_10 (X4.fin ⟨rfl, rfl⟩ (by decide) (by decide))
theorem pn_jdk_internal_util_Preconditions : plainName "jdk/internal/util/Preconditions" = true := by first | (simp [plainName, overriddenIn]; done) | decide +kernel
theorem dpci_0 : decode jdk_41_method_11_code 0 = .ok (.iload_n 0, 1) := by decide +kernel
theorem dpci_1 : decode jdk_41_method_11_code 1 = .ok (.ifCond .lt 8, 3) := by decide +kernel
theorem dpci_4 : decode jdk_41_method_11_code 4 = .ok (.iload_n 0, 1) := by decide +kernel
theorem dpci_5 : decode jdk_41_method_11_code 5 = .ok (.iload_n 1, 1) := by decide +kernel
theorem dpci_6 : decode jdk_41_method_11_code 6 = .ok (.if_icmp .lt 10, 3) := by decide +kernel
theorem dpci_9 : decode jdk_41_method_11_code 9 = .ok (.aload_n 2, 1) := by decide +kernel
theorem dpci_10 : decode jdk_41_method_11_code 10 = .ok (.iload_n 0, 1) := by decide +kernel
theorem dpci_11 : decode jdk_41_method_11_code 11 = .ok (.iload_n 1, 1) := by decide +kernel
theorem dpci_12 : decode jdk_41_method_11_code 12 = .ok (.invokestatic 95, 3) := by decide +kernel
theorem dpci_15 : decode jdk_41_method_11_code 15 = .ok (.athrow, 1) := by decide +kernel
theorem dpci_16 : decode jdk_41_method_11_code 16 = .ok (.iload_n 0, 1) := by decide +kernel
theorem dpci_17 : decode jdk_41_method_11_code 17 = .ok (.ireturn, 1) := by decide +kernel
theorem ef_pci (m : MethodId) (i : Int32) (n : Int32) (wf : Value) (h_wf : wf.isRef = true) : entryFrame m #[(.int i), (.int n), wf] 3 = mkF m 0 #[.val (.int i), .val (.int n), .val wf] [] := by rcases XT.refc h_wf with rfl | ⟨_, rfl⟩ <;> first | (simp [entryFrame, mkF, argsToLocals, Value.category]; done) | rfl
set_option maxRecDepth 65536 in
set_option maxHeartbeats 40000000 in
theorem rm_pci (l : Launch) (Z : State) (a0 : Array Value) (hw : ∀ d ∈ tables_1, d.before a0 Z = true) (h0 : Heap) (i n : Int32) (wf : Value) (hwf : wf.isRef = true) (h1 : ¬ i < 0) (h2 : i < n) :
    Ct l Z [] (⟨"jdk/internal/util/Preconditions", "checkIndex", "(IILjava/util/function/BiFunction;)I"⟩ : MethodName) jdk_41_method_11_code 3 (some .int) (⟨0, 0, 0, 0⟩ : Room) #[(.int i), (.int n), wf] h0 (Pu h0 (.int i)) := by
  refine Ct.of pn_jdk_internal_util_Preconditions (fun m => ef_pci m i n wf hwf) ?_
  intro p e s m below meth c s₁ X0
  refine Go.iloadN X0 1 dpci_0 rfl ?_
  refine Go.if0N X0 4 dpci_1 (XT.i0_lt_f h1) ?_
  refine Go.iloadN X0 5 dpci_4 rfl ?_
  refine Go.iloadN X0 6 dpci_5 rfl ?_
  refine Go.icmpY X0 16 dpci_6 (XT.ii_lt_t h2) ?_
  refine Go.iloadN X0 17 dpci_16 rfl ?_
  exact Go.retI X0 rfl (by simp) rfl dpci_17 (X0.fin ⟨rfl, rfl⟩ (by decide) (by decide))
theorem dsci_0 : decode jdk_42_method_155_code 0 = .ok (.iload_n 0, 1) := by decide +kernel
theorem dsci_1 : decode jdk_42_method_155_code 1 = .ok (.iload_n 1, 1) := by decide +kernel
theorem dsci_2 : decode jdk_42_method_155_code 2 = .ok (.getstatic 1053, 3) := by decide +kernel
theorem dsci_5 : decode jdk_42_method_155_code 5 = .ok (.invokestatic 1059, 3) := by decide +kernel
theorem dsci_8 : decode jdk_42_method_155_code 8 = .ok (.pop, 1) := by decide +kernel
theorem dsci_9 : decode jdk_42_method_155_code 9 = .ok (.return_, 1) := by decide +kernel
theorem ef_sci (m : MethodId) (i : Int32) (n : Int32) : entryFrame m #[(.int i), (.int n)] 2 = mkF m 0 #[.val (.int i), .val (.int n)] [] := by first | (simp [entryFrame, mkF, argsToLocals, Value.category]; done) | rfl
set_option maxRecDepth 65536 in
set_option maxHeartbeats 40000000 in
theorem rm_sci (l : Launch) (Z : State) (a0 : Array Value) (hw : ∀ d ∈ tables_1, d.before a0 Z = true) (h0 : Heap) (wf : Value) (hwf : wf.isRef = true) (SF : Sta Z Z.heap "jdk/internal/util/Preconditions" "SIOOBE_FORMATTER" "Ljava/util/function/BiFunction;" wf) (i n : Int32) (h1 : ¬ i < 0) (h2 : i < n) :
    Ct l Z [] (⟨"java/lang/String", "checkIndex", "(II)V"⟩ : MethodName) jdk_42_method_155_code 2 none (⟨1, 0, 0, 14⟩ : Room) #[(.int i), (.int n)] h0 (fun v h' => v = none ∧ h' = h0) := by
  refine Ct.of pn_java_lang_String (fun m => ef_sci m i n) ?_
  intro p e s m below meth c s₁ X0
  refine Go.iloadN X0 1 dsci_0 rfl ?_
  refine Go.iloadN X0 2 dsci_1 rfl ?_
  refine Go.getS X0 5 (hw _ (List.mem_of_getElem? (i := 109) rfl)) SF dsci_2 ?_
  intro T1 X1
  refine Go.callSP X1 8 [(.int i), (.int n), wf] [] 0 (hw _ (List.mem_of_getElem? (i := 187) rfl)) (hw _ (List.mem_of_getElem? (i := 188) rfl)) (hw _ (List.mem_of_getElem? (i := 110) rfl)) (by decide) (hw _ (List.mem_of_getElem? (i := 189) rfl)) pd_5 dsci_5 (rm_pci l Z a0 hw h0 i n wf hwf h1 h2) rfl rfl rfl (Nat.le_of_eq rfl) (by decide) (by decide) (by decide) (by decide) ?_
  intro T2 L2 X2
  refine Go.pop X2 9 dsci_8 rfl ?_
  exact Go.retV X2 rfl dsci_9 (X2.fin ⟨rfl, rfl⟩ (by decide) (by decide))
theorem pn_java_lang_StringLatin1 : plainName "java/lang/StringLatin1" = true := by first | (simp [plainName, overriddenIn]; done) | decide +kernel
theorem dl1c_0 : decode jdk_43_method_2_code 0 = .ok (.iload_n 1, 1) := by decide +kernel
theorem dl1c_1 : decode jdk_43_method_2_code 1 = .ok (.aload_n 0, 1) := by decide +kernel
theorem dl1c_2 : decode jdk_43_method_2_code 2 = .ok (.arraylength, 1) := by decide +kernel
theorem dl1c_3 : decode jdk_43_method_2_code 3 = .ok (.invokestatic 9, 3) := by decide +kernel
theorem dl1c_6 : decode jdk_43_method_2_code 6 = .ok (.aload_n 0, 1) := by decide +kernel
theorem dl1c_7 : decode jdk_43_method_2_code 7 = .ok (.iload_n 1, 1) := by decide +kernel
theorem dl1c_8 : decode jdk_43_method_2_code 8 = .ok (.baload, 1) := by decide +kernel
theorem dl1c_9 : decode jdk_43_method_2_code 9 = .ok (.sipush 255, 3) := by decide +kernel
theorem dl1c_12 : decode jdk_43_method_2_code 12 = .ok (.iand, 1) := by decide +kernel
theorem dl1c_13 : decode jdk_43_method_2_code 13 = .ok (.i2c, 1) := by decide +kernel
theorem dl1c_14 : decode jdk_43_method_2_code 14 = .ok (.ireturn, 1) := by decide +kernel
theorem ef_l1c (m : MethodId) (t : Addr) (z : Int32) : entryFrame m #[(.ref t), (.int z)] 2 = mkF m 0 #[.val (.ref t), .val (.int z)] [] := by first | (simp [entryFrame, mkF, argsToLocals, Value.category]; done) | rfl
set_option maxRecDepth 65536 in
set_option maxHeartbeats 40000000 in
theorem rm_l1c (l : Launch) (Z : State) (a0 : Array Value) (hw : ∀ d ∈ tables_1, d.before a0 Z = true) (h0 : Heap) (wf : Value) (hwf : wf.isRef = true) (SF : Sta Z Z.heap "jdk/internal/util/Preconditions" "SIOOBE_FORMATTER" "Ljava/util/function/BiFunction;" wf) (t : Addr) (z : Int32) (n i : Nat) (g : Nat → Int32) (x : Int32) (hz : z = Int32.ofNat i) (A : An Z h0 t .byte n g) (hi : i < n) (hx : g i = x.toInt8.toInt32) (h0x : 0 ≤ x.toInt) (h1x : ¬ 255 < x) :
    Ct l Z [] (⟨"java/lang/StringLatin1", "charAt", "([BI)C"⟩ : MethodName) jdk_43_method_2_code 2 (some .char) (⟨2, 0, 0, 27⟩ : Room) #[(.ref t), (.int z)] h0 (Pu h0 (.int x)) := by
  refine Ct.of pn_java_lang_StringLatin1 (fun m => ef_l1c m t z) ?_
  intro p e s m below meth c s₁ X0
  subst hz
  refine Go.iloadN X0 1 dl1c_0 rfl ?_
  refine Go.aloadN X0 2 dl1c_1 rfl rfl ?_
  refine Go.alenN X0 3 A dl1c_2 ?_
  refine Go.callS X0 6 [(.int (Int32.ofNat i)), (.int (Int32.ofNat n))] [] 0 (hw _ (List.mem_of_getElem? (i := 184) rfl)) (hw _ (List.mem_of_getElem? (i := 185) rfl)) (hw _ (List.mem_of_getElem? (i := 3) rfl)) (by decide) (hw _ (List.mem_of_getElem? (i := 186) rfl)) pd_6 dl1c_3 (rm_sci l Z a0 hw h0 wf hwf SF (Int32.ofNat i) (Int32.ofNat n) (A.inb hi).1 (A.inb hi).2) rfl rfl rfl (Nat.le_of_eq rfl) (by decide) (by decide) (by decide) (by decide) ?_
  rintro T1 v1 L1 X1 ⟨rfl, hh⟩
  rw [hh] at X1
  show Go p e below _ T1 m 6 #[.val (.ref t), .val (.int (Int32.ofNat i))] []
  refine Go.aloadN X1 7 dl1c_6 rfl rfl ?_
  refine Go.iloadN X1 8 dl1c_7 rfl ?_
  refine Go.baN X1 9 A i hi dl1c_8 ?_
  rw [hx]
  refine Go.sipush X1 12 (255 : Int32) dl1c_9 ?_
  refine Go.iand X1 13 dl1c_12 ?_
  rw [n_low h0x h1x]
  refine Go.i2c X1 14 dl1c_13 ?_
  rw [n_chr h0x (n_le h1x)]
  exact Go.retI X1 rfl (by simp) (n_nar h0x (n_le h1x)) dl1c_14 (X1.fin ⟨rfl, rfl⟩ (by decide) (by decide))
theorem dchat_0 : decode jdk_42_method_56_code 0 = .ok (.aload_n 0, 1) := by decide +kernel
theorem dchat_1 : decode jdk_42_method_56_code 1 = .ok (.invokevirtual 492, 3) := by decide +kernel
theorem dchat_4 : decode jdk_42_method_56_code 4 = .ok (.ifCond .eq 12, 3) := by decide +kernel
theorem dchat_7 : decode jdk_42_method_56_code 7 = .ok (.aload_n 0, 1) := by decide +kernel
theorem dchat_8 : decode jdk_42_method_56_code 8 = .ok (.getfield 9, 3) := by decide +kernel
theorem dchat_11 : decode jdk_42_method_56_code 11 = .ok (.iload_n 1, 1) := by decide +kernel
theorem dchat_12 : decode jdk_42_method_56_code 12 = .ok (.invokestatic 495, 3) := by decide +kernel
theorem dchat_15 : decode jdk_42_method_56_code 15 = .ok (.ireturn, 1) := by decide +kernel
theorem dchat_16 : decode jdk_42_method_56_code 16 = .ok (.aload_n 0, 1) := by decide +kernel
theorem dchat_17 : decode jdk_42_method_56_code 17 = .ok (.getfield 9, 3) := by decide +kernel
theorem dchat_20 : decode jdk_42_method_56_code 20 = .ok (.iload_n 1, 1) := by decide +kernel
theorem dchat_21 : decode jdk_42_method_56_code 21 = .ok (.invokestatic 498, 3) := by decide +kernel
theorem dchat_24 : decode jdk_42_method_56_code 24 = .ok (.ireturn, 1) := by decide +kernel
theorem ef_chat (m : MethodId) (a : Addr) (z : Int32) : entryFrame m #[(.ref a), (.int z)] 2 = mkF m 0 #[.val (.ref a), .val (.int z)] [] := by first | (simp [entryFrame, mkF, argsToLocals, Value.category]; done) | rfl
set_option maxRecDepth 65536 in
set_option maxHeartbeats 40000000 in
theorem rm_chat (l : Launch) (Z : State) (a0 : Array Value) (hw : ∀ d ∈ tables_1, d.before a0 Z = true) (h0 : Heap) (cz : Int32) (SC : Sta Z Z.heap "java/lang/String" "COMPACT_STRINGS" "Z" (.int cz)) (hcz : ¬ cz = 0) (wf : Value) (hwf : wf.isRef = true) (SF : Sta Z Z.heap "jdk/internal/util/Preconditions" "SIOOBE_FORMATTER" "Ljava/util/function/BiFunction;" wf) (a t : Addr) (z : Int32) (n i : Nat) (f : Nat → Int32) (hz : z = Int32.ofNat i) (S : Str Z h0 a t n f) (hi : i < n) (hl : ∀ j, j < n → ¬ 255 < f j) :
    Ct l Z [] (⟨"java/lang/String", "charAt", "(I)C"⟩ : MethodName) jdk_42_method_56_code 2 (some .char) (⟨3, 0, 0, 40⟩ : Room) #[(.ref a), (.int z)] h0 (Pu h0 (.int (f i))) := by
  refine Ct.of pn_java_lang_String (fun m => ef_chat m a z) ?_
  intro p e s m below meth c s₁ X0
  subst hz
  obtain ⟨S5, g, A, G⟩ := S.lat hl
  obtain ⟨S1, S2, S3, S4, -⟩ := S
  refine Go.aloadN X0 1 dchat_0 rfl rfl ?_
  refine Go.callVP X0 4 [] [] 0 (hw _ (List.mem_of_getElem? (i := 114) rfl)) (hw _ (List.mem_of_getElem? (i := 115) rfl)) (hw _ (List.mem_of_getElem? (i := 117) rfl)) (notFace_of_selects (args := #[]) (mvT X0.hZ (hw _ (List.mem_of_getElem? (i := 117) rfl)))) (hw _ (List.mem_of_getElem? (i := 116) rfl)) (hw _ (List.mem_of_getElem? (i := 3) rfl)) (by decide) S1 (hw _ (List.mem_of_getElem? (i := 118) rfl)) pd_7 dchat_1 (rm_lat l Z a0 hw h0 cz SC hcz a 0 1 S5 (Or.inl ⟨rfl, rfl⟩)) rfl rfl rfl (Nat.le_of_eq rfl) (by decide) (by decide) (by decide) (by decide) ?_
  intro T1 L1 X1
  refine Go.if0N X1 7 dchat_4 (XT.i0_eq_f (by decide)) ?_
  refine Go.aloadN X1 8 dchat_7 rfl rfl ?_
  refine Go.getF X1 11 (hw _ (List.mem_of_getElem? (i := 28) rfl)) S2 dchat_8 ?_
  intro T2 X2
  refine Go.iloadN X2 12 dchat_11 rfl ?_
  refine Go.callSP X2 15 [(.ref t), (.int (Int32.ofNat i))] [] 0 (hw _ (List.mem_of_getElem? (i := 181) rfl)) (hw _ (List.mem_of_getElem? (i := 182) rfl)) (hw _ (List.mem_of_getElem? (i := 121) rfl)) (by decide) (hw _ (List.mem_of_getElem? (i := 183) rfl)) pd_8 dchat_12 (rm_l1c l Z a0 hw h0 wf hwf SF t (Int32.ofNat i) n i g (f i) rfl A hi (G i hi).2 (S4 i hi).1 (G i hi).1) rfl rfl rfl (Nat.le_of_eq rfl) (by decide) (by decide) (by decide) (by decide) ?_
  intro T3 L3 X3
  exact Go.retI X3 rfl (by simp) (n_nar (S4 i hi).1 (S4 i hi).2) dchat_15 (X3.fin ⟨rfl, rfl⟩ (by decide) (by decide))
theorem di2_0 : decode jdk_42_method_151_code 0 = .ok (.aload_n 0, 1) := by decide +kernel
theorem di2_1 : decode jdk_42_method_151_code 1 = .ok (.invokespecial 1, 3) := by decide +kernel
theorem di2_4 : decode jdk_42_method_151_code 4 = .ok (.aload_n 0, 1) := by decide +kernel
theorem di2_5 : decode jdk_42_method_151_code 5 = .ok (.aload_n 1, 1) := by decide +kernel
theorem di2_6 : decode jdk_42_method_151_code 6 = .ok (.putfield 9, 3) := by decide +kernel
theorem di2_9 : decode jdk_42_method_151_code 9 = .ok (.aload_n 0, 1) := by decide +kernel
theorem di2_10 : decode jdk_42_method_151_code 10 = .ok (.iload_n 2, 1) := by decide +kernel
theorem di2_11 : decode jdk_42_method_151_code 11 = .ok (.putfield 15, 3) := by decide +kernel
theorem di2_14 : decode jdk_42_method_151_code 14 = .ok (.return_, 1) := by decide +kernel
theorem ef_i2 (m : MethodId) (a : Addr) (t : Addr) (z : Int32) : entryFrame m #[(.ref a), (.ref t), (.int z)] 3 = mkF m 0 #[.val (.ref a), .val (.ref t), .val (.int z)] [] := by first | (simp [entryFrame, mkF, argsToLocals, Value.category]; done) | rfl
set_option maxRecDepth 65536 in
set_option maxHeartbeats 40000000 in
theorem rm_i2 (l : Launch) (Z : State) (a0 : Array Value) (hw : ∀ d ∈ tables_1, d.before a0 Z = true) (h0 : Heap) (a t : Addr) (z : Int32) (hz : z = 0) (E : Exa Z h0 a "java/lang/String") (FV : Fld Z h0 a "java/lang/String" "value" "[B" .null) (FC : Fld Z h0 a "java/lang/String" "coder" "B" (.int 0)) (na : Z.heap.size ≤ a) :
    Ct l Z [] (⟨"java/lang/String", "<init>", "([BB)V"⟩ : MethodName) jdk_42_method_151_code 3 none (⟨1, 0, 0, 12⟩ : Room) #[(.ref a), (.ref t), (.int z)] h0 (fun v h' => v = none ∧ Keep h0 h' [a] ∧ Exa Z h' a "java/lang/String" ∧ Fld Z h' a "java/lang/String" "value" "[B" (.ref t) ∧ Fld Z h' a "java/lang/String" "coder" "B" (.int 0)) := by
  refine Ct.of pn_java_lang_String (fun m => ef_i2 m a t z) ?_
  intro p e s m below meth c s₁ X0
  subst hz
  have K1 : Keep h0 h0 [a] := Keep.refl _ _
  refine Go.aloadN X0 1 di2_0 rfl rfl ?_
  refine Go.initO X0 4 (hw _ (List.mem_of_getElem? (i := 11) rfl)) (hw _ (List.mem_of_getElem? (i := 12) rfl)) (hw _ (List.mem_of_getElem? (i := 13) rfl)) 0 di2_1 rfl (by decide) (by decide) (by decide) ?_
  intro T2 X2
  refine Go.aloadN X2 5 di2_4 rfl rfl ?_
  refine Go.aloadN X2 6 di2_5 rfl rfl ?_
  refine Go.putF X2 9 (hw _ (List.mem_of_getElem? (i := 28) rfl)) FV E (Or.inr ⟨(hw _ (List.mem_of_getElem? (i := 29) rfl)), rfl, rfl⟩) (hw _ (List.mem_of_getElem? (i := 2) rfl)) (ty := (.array .byte)) (by decide) rfl rfl na di2_6 ?_
  intro T3 h3 X3 W3
  have K4 : Keep h0 h3 [a] := K1.wr W3 (Or.inl (List.mem_of_getElem? (i := 0) rfl))
  have F5 : Exa Z h3 a "java/lang/String" := E.wr W3
  have F6 : Fld Z h3 a "java/lang/String" "value" "[B" (.ref t) := FV.same W3
  have F7 : Fld Z h3 a "java/lang/String" "coder" "B" (.int (0 : Int32)) := FC.other W3 (Or.inr (slot_ne (Or.inr (hw _ (List.mem_of_getElem? (i := 27) rfl))) (Or.inr (hw _ (List.mem_of_getElem? (i := 29) rfl))) (by decide) (t := .byte) (t' := (.array .byte)) (by decide) (by decide)))
  refine Go.aloadN X3 10 di2_9 rfl rfl ?_
  refine Go.iloadN X3 11 di2_10 rfl ?_
  refine Go.putF X3 14 (hw _ (List.mem_of_getElem? (i := 26) rfl)) F7 F5 (Or.inr ⟨(hw _ (List.mem_of_getElem? (i := 27) rfl)), rfl, rfl⟩) (hw _ (List.mem_of_getElem? (i := 2) rfl)) (ty := .byte) (by decide) rfl rfl na di2_11 ?_
  intro T8 h8 X8 W8
  have K9 : Keep h0 h8 [a] := K4.wr W8 (Or.inl (List.mem_of_getElem? (i := 0) rfl))
  have F10 : Exa Z h8 a "java/lang/String" := F5.wr W8
  have F11 : Fld Z h8 a "java/lang/String" "value" "[B" (.ref t) := F6.other W8 (Or.inr (slot_ne (Or.inr (hw _ (List.mem_of_getElem? (i := 29) rfl))) (Or.inr (hw _ (List.mem_of_getElem? (i := 27) rfl))) (by decide) (t := (.array .byte)) (t' := .byte) (by decide) (by decide)))
  have F12 : Fld Z h8 a "java/lang/String" "coder" "B" (.int (0 : Int32)) := F7.same W8
  exact Go.retV X8 rfl di2_14 (X8.fin ⟨rfl, K9, F10, F11, F12⟩ (by decide) (by decide))
theorem dmin_0 : decode jdk_29_method_69_code 0 = .ok (.iload_n 0, 1) := by decide +kernel
theorem dmin_1 : decode jdk_29_method_69_code 1 = .ok (.iload_n 1, 1) := by decide +kernel
theorem dmin_2 : decode jdk_29_method_69_code 2 = .ok (.if_icmp .gt 7, 3) := by decide +kernel
theorem dmin_5 : decode jdk_29_method_69_code 5 = .ok (.iload_n 0, 1) := by decide +kernel
theorem dmin_6 : decode jdk_29_method_69_code 6 = .ok (.goto 4, 3) := by decide +kernel
theorem dmin_9 : decode jdk_29_method_69_code 9 = .ok (.iload_n 1, 1) := by decide +kernel
theorem dmin_10 : decode jdk_29_method_69_code 10 = .ok (.ireturn, 1) := by decide +kernel
theorem ef_min (m : MethodId) (y : Int32) (z : Int32) : entryFrame m #[(.int y), (.int z)] 2 = mkF m 0 #[.val (.int y), .val (.int z)] [] := by first | (simp [entryFrame, mkF, argsToLocals, Value.category]; done) | rfl
set_option maxRecDepth 65536 in
set_option maxHeartbeats 40000000 in
theorem rm_min (l : Launch) (Z : State) (a0 : Array Value) (hw : ∀ d ∈ tables_1, d.before a0 Z = true) (h0 : Heap) (y z r : Int32) (hr : (z < y ∧ r = z) ∨ (¬ z < y ∧ r = y)) :
    Ct l Z [] (⟨"java/lang/Math", "min", "(II)I"⟩ : MethodName) jdk_29_method_69_code 2 (some .int) (⟨0, 0, 0, 0⟩ : Room) #[(.int y), (.int z)] h0 (Pu h0 (.int r)) := by
  refine Ct.ofF (Jvm.Free.JP.mathPlain rfl (by decide)) (fun m => ef_min m y z) ?_
  intro p e s m below meth c s₁ X0
  rcases hr with ⟨c1, rfl⟩ | ⟨c1, rfl⟩
  · skip
    refine Go.iloadN X0 1 dmin_0 rfl ?_
    refine Go.iloadN X0 2 dmin_1 rfl ?_
    refine Go.icmpY X0 9 dmin_2 (XT.ii_gt_t c1) ?_
    refine Go.iloadN X0 10 dmin_9 rfl ?_
    exact Go.retI X0 rfl (by simp) rfl dmin_10 (X0.fin ⟨rfl, rfl⟩ (by decide) (by decide))
  · skip
    refine Go.iloadN X0 1 dmin_0 rfl ?_
    refine Go.iloadN X0 2 dmin_1 rfl ?_
    refine Go.icmpN X0 5 dmin_2 (XT.ii_gt_f c1) ?_
    refine Go.iloadN X0 6 dmin_5 rfl ?_
    refine Go.goto X0 10 dmin_6 ?_
    exact Go.retI X0 rfl (by simp) rfl dmin_10 (X0.fin ⟨rfl, rfl⟩ (by decide) (by decide))
theorem own_an0 {Z : State} {h : Heap} {b : Addr} {k : ClassId} (V : Arv Z h b k .byte (0 : Int32) [] (.int 0)) : An Z h b .byte 0 (fun _ => (0 : Int32)) := ⟨by decide, k, [], .int 0, V, rfl, fun j hj => absurd hj (Nat.not_lt_zero j)⟩
theorem own_atoms {a0 : Array Value} {Z : State} (hw : ∀ d ∈ tables_1, d.before a0 Z = true) : ∀ a ∈ Bundle.stringAtoms, a.before a0 Z = true := fun a ha => hw a (List.all_eq_true.mp (show (Bundle.stringAtoms.all fun d => decide (d ∈ tables_1)) = true from by decide +kernel) a ha |> of_decide_eq_true)
theorem own_EW {a0 : Array Value} {Z : State} (hw : ∀ d ∈ tables_1, d.before a0 Z = true) : EW Z a0 consts_1 := (EW.cons (hw _ (List.mem_of_getElem? (i := 123) rfl)) (by decide) EW.nil)
theorem own_le {x : Int32} (h1 : ¬ 255 < x) : x.toInt < 65536 := by
  rw [Int32.lt_iff_toInt_lt] at h1
  have e : (255 : Int32).toInt = 255 := by decide
  omega
theorem own_rng {x : Int32} (h0 : 0 ≤ x.toInt) (h1 : x.toInt < 256) : 0 ≤ x.toInt ∧ ¬ 255 < x := by
  refine ⟨h0, ?_⟩
  rw [Int32.lt_iff_toInt_lt]
  have e : (255 : Int32).toInt = 255 := by decide
  omega
theorem own_nr {x : Int32} (h0 : 0 ≤ x.toInt) (h1 : x.toInt < 65536) : nar .char x = x := n_chr h0 h1
theorem own_ne58 {x : Int32} (h1 : ¬ x.toInt = 58) : ¬ x = 58 := fun q => h1 (by rw [q]; decide)
def AllC (n : Nat) (f : Nat → Int32) : Prop := ∀ j, j < n → 0 ≤ (f j).toInt ∧ ¬ 255 < f j
theorem AllC.z {n : Nat} : AllC n (fun _ => (0 : Int32)) := fun j hj => ⟨(by decide : 0 ≤ (0 : Int32).toInt), (by decide : ¬ 255 < (0 : Int32))⟩
theorem AllC.u {n i : Nat} {f : Nat → Int32} {x : Int32} (A : AllC n f) (h : 0 ≤ x.toInt ∧ ¬ 255 < x) : AllC n (upd f i x) := fun j hj => by
  unfold upd
  split
  · exact h
  · exact A j hj
theorem NoC.z {n : Nat} : ∀ j, j < n → ¬ (fun _ => (0 : Int32)) j = 58 := fun j hj => (by decide : ¬ (0 : Int32) = 58)
theorem NoC.u {n i : Nat} {f : Nat → Int32} {x : Int32} (A : ∀ j, j < n → ¬ f j = 58) (h : ¬ x = 58) : ∀ j, j < n → ¬ upd f i x j = 58 := fun j hj => by
  unfold upd
  split
  · exact h
  · exact A j hj
theorem own_r5 (x : Int32) : (x &&& 2147483647) % 5 = 0 ∨ (x &&& 2147483647) % 5 = 1 ∨ (x &&& 2147483647) % 5 = 2 ∨ (x &&& 2147483647) % 5 = 3 ∨ (x &&& 2147483647) % 5 = 4 := by
  have h1 := c_mask x 2147483647 31 (by decide) (by decide)
  have h2 := (c_irem (x &&& 2147483647) 5 5 (by decide)).1 (by omega)
  simp only [← Int32.toInt_inj]
  have e0 : (0 : Int32).toInt = 0 := by decide
  have e1 : (1 : Int32).toInt = 1 := by decide
  have e2 : (2 : Int32).toInt = 2 := by decide
  have e3 : (3 : Int32).toInt = 3 := by decide
  have e4 : (4 : Int32).toInt = 4 := by decide
  rw [e0, e1, e2, e3, e4, h2]
  omega
theorem own_r4 (x : Int32) : (x &&& 2147483647) % 4 = 0 ∨ (x &&& 2147483647) % 4 = 1 ∨ (x &&& 2147483647) % 4 = 2 ∨ (x &&& 2147483647) % 4 = 3 := by
  have h1 := c_mask x 2147483647 31 (by decide) (by decide)
  have h2 := (c_irem (x &&& 2147483647) 4 4 (by decide)).1 (by omega)
  simp only [← Int32.toInt_inj]
  have e0 : (0 : Int32).toInt = 0 := by decide
  have e1 : (1 : Int32).toInt = 1 := by decide
  have e2 : (2 : Int32).toInt = 2 := by decide
  have e3 : (3 : Int32).toInt = 3 := by decide
  rw [e0, e1, e2, e3, h2]
  omega
theorem own_r3 (x : Int32) : (x &&& 2147483647) % 3 = 0 ∨ (x &&& 2147483647) % 3 = 1 ∨ (x &&& 2147483647) % 3 = 2 := by
  have h1 := c_mask x 2147483647 31 (by decide) (by decide)
  have h2 := (c_irem (x &&& 2147483647) 3 3 (by decide)).1 (by omega)
  simp only [← Int32.toInt_inj]
  have e0 : (0 : Int32).toInt = 0 := by decide
  have e1 : (1 : Int32).toInt = 1 := by decide
  have e2 : (2 : Int32).toInt = 2 := by decide
  rw [e0, e1, e2, h2]
  omega
theorem own_r2 (x : Int32) : (x &&& 2147483647) % 2 = 0 ∨ (x &&& 2147483647) % 2 = 1 := by
  have h1 := c_mask x 2147483647 31 (by decide) (by decide)
  have h2 := (c_irem (x &&& 2147483647) 2 2 (by decide)).1 (by omega)
  simp only [← Int32.toInt_inj]
  have e0 : (0 : Int32).toInt = 0 := by decide
  have e1 : (1 : Int32).toInt = 1 := by decide
  rw [e0, e1, h2]
  omega
theorem own_r1 (x : Int32) : (x &&& 2147483647) % 1 = 0 := by
  have h1 := c_mask x 2147483647 31 (by decide) (by decide)
  have h2 := (c_irem (x &&& 2147483647) 1 1 (by decide)).1 (by omega)
  apply Int32.toInt_inj.mp
  have e0 : (0 : Int32).toInt = 0 := by decide
  rw [e0, h2]
  omega
theorem own_i (x : Int32) : ∃ i : Nat, i ≤ 4 ∧ (x &&& 2147483647) % 5 = Int32.ofNat i := by
  rcases own_r5 x with h | h | h | h | h
  · exact ⟨0, by omega, h⟩
  · exact ⟨1, by omega, h⟩
  · exact ⟨2, by omega, h⟩
  · exact ⟨3, by omega, h⟩
  · exact ⟨4, by omega, h⟩
theorem own_5 {i : Nat} (hi : i ≤ 4) : (5 : Int32) - Int32.ofNat i ≠ 0 := by
  have : i = 0 ∨ i = 1 ∨ i = 2 ∨ i = 3 ∨ i = 4 := by omega
  rcases this with rfl | rfl | rfl | rfl | rfl <;> decide
theorem own_e (x : Int32) {i : Nat} (hi : i ≤ 4) : ∃ k : Nat, i + k ≤ 4 ∧ (x &&& 2147483647) % ((5 : Int32) - Int32.ofNat i) = Int32.ofNat k := by
  have : i = 0 ∨ i = 1 ∨ i = 2 ∨ i = 3 ∨ i = 4 := by omega
  rcases this with rfl | rfl | rfl | rfl | rfl
  · rw [show (5 : Int32) - Int32.ofNat 0 = 5 from by decide]
    obtain ⟨k, h1, h2⟩ := own_i x
    exact ⟨k, by omega, h2⟩
  · rw [show (5 : Int32) - Int32.ofNat 1 = 4 from by decide]
    rcases own_r4 x with h | h | h | h
    · exact ⟨0, by omega, h⟩
    · exact ⟨1, by omega, h⟩
    · exact ⟨2, by omega, h⟩
    · exact ⟨3, by omega, h⟩
  · rw [show (5 : Int32) - Int32.ofNat 2 = 3 from by decide]
    rcases own_r3 x with h | h | h
    · exact ⟨0, by omega, h⟩
    · exact ⟨1, by omega, h⟩
    · exact ⟨2, by omega, h⟩
  · rw [show (5 : Int32) - Int32.ofNat 3 = 2 from by decide]
    rcases own_r2 x with h | h
    · exact ⟨0, by omega, h⟩
    · exact ⟨1, by omega, h⟩
  · rw [show (5 : Int32) - Int32.ofNat 4 = 1 from by decide]
    exact ⟨0, by omega, own_r1 x⟩
theorem own_255 (x : Int32) : 0 ≤ (x &&& 255).toInt ∧ ¬ 255 < (x &&& 255) := by
  have e : (255 : Int32).toInt = 255 := by decide
  have := c_and x 255 (by decide)
  rw [Int32.lt_iff_toInt_lt, e]
  rw [e] at this
  omega
theorem own_neS {Z : State} {a0 : Array Value} {h : Heap} {a t b : Addr} {n N : Nat} {f : Nat → Int32} {C : String} (S : Str Z h a t n f) (F : Exa Z h b C) (wk : (Jvm.Cond.instantiable C N).before a0 Z = true) (q : "java/lang/String" ≠ C) : a ≠ b ∧ t ≠ b := by
  refine ⟨own_neE S.exa F q, ?_⟩
  obtain ⟨-, -, -, -, ⟨-, g, A, -⟩ | ⟨-, -, g, A, -⟩⟩ := S
  · exact own_neA A F wk
  · exact own_neA A F wk
theorem pn_java_util_Arrays : plainName "java/util/Arrays" = true := by first | (simp [plainName, overriddenIn]; done) | decide +kernel
theorem dcl_0 : decode jdk_65_method_131_code 0 = .ok (.iload_n 1, 1) := by decide +kernel
theorem dcl_1 : decode jdk_65_method_131_code 1 = .ok (.iload_n 0, 1) := by decide +kernel
theorem dcl_2 : decode jdk_65_method_131_code 2 = .ok (.if_icmp .ge 35, 3) := by decide +kernel
theorem dcl_5 : decode jdk_65_method_131_code 5 = .ok (.new 43, 3) := by decide +kernel
theorem dcl_8 : decode jdk_65_method_131_code 8 = .ok (.dup, 1) := by decide +kernel
theorem dcl_9 : decode jdk_65_method_131_code 9 = .ok (.new 45, 3) := by decide +kernel
theorem dcl_12 : decode jdk_65_method_131_code 12 = .ok (.dup, 1) := by decide +kernel
theorem dcl_13 : decode jdk_65_method_131_code 13 = .ok (.invokespecial 47, 3) := by decide +kernel
theorem dcl_16 : decode jdk_65_method_131_code 16 = .ok (.iload_n 0, 1) := by decide +kernel
theorem dcl_17 : decode jdk_65_method_131_code 17 = .ok (.invokevirtual 54, 3) := by decide +kernel
theorem dcl_20 : decode jdk_65_method_131_code 20 = .ok (.ldc_w 337, 3) := by decide +kernel
theorem dcl_23 : decode jdk_65_method_131_code 23 = .ok (.invokevirtual 50, 3) := by decide +kernel
theorem dcl_26 : decode jdk_65_method_131_code 26 = .ok (.iload_n 1, 1) := by decide +kernel
theorem dcl_27 : decode jdk_65_method_131_code 27 = .ok (.invokevirtual 54, 3) := by decide +kernel
theorem dcl_30 : decode jdk_65_method_131_code 30 = .ok (.invokevirtual 61, 3) := by decide +kernel
theorem dcl_33 : decode jdk_65_method_131_code 33 = .ok (.invokespecial 65, 3) := by decide +kernel
theorem dcl_36 : decode jdk_65_method_131_code 36 = .ok (.athrow, 1) := by decide +kernel
theorem dcl_37 : decode jdk_65_method_131_code 37 = .ok (.return_, 1) := by decide +kernel
theorem ef_cl (m : MethodId) (y : Int32) (z : Int32) : entryFrame m #[(.int y), (.int z)] 2 = mkF m 0 #[.val (.int y), .val (.int z)] [] := by first | (simp [entryFrame, mkF, argsToLocals, Value.category]; done) | rfl
set_option maxRecDepth 65536 in
set_option maxHeartbeats 40000000 in
theorem rm_cl (l : Launch) (Z : State) (a0 : Array Value) (hw : ∀ d ∈ tables_1, d.before a0 Z = true) (h0 : Heap) (y z : Int32) (h1 : ¬ z < y) :
    Ct l Z [] (⟨"java/util/Arrays", "checkLength", "(II)V"⟩ : MethodName) jdk_65_method_131_code 2 none (⟨0, 0, 0, 0⟩ : Room) #[(.int y), (.int z)] h0 (fun v h' => v = none ∧ h' = h0) := by
  refine Ct.of pn_java_util_Arrays (fun m => ef_cl m y z) ?_
  intro p e s m below meth c s₁ X0
  refine Go.iloadN X0 1 dcl_0 rfl ?_
  refine Go.iloadN X0 2 dcl_1 rfl ?_
  refine Go.icmpY X0 37 dcl_2 (XT.ii_ge_t h1) ?_
  exact Go.retV X0 rfl dcl_37 (X0.fin ⟨rfl, rfl⟩ (by decide) (by decide))
theorem dcb_0 : decode jdk_65_method_133_code 0 = .ok (.iload_n 1, 1) := by decide +kernel
theorem dcb_1 : decode jdk_65_method_133_code 1 = .ok (.iload_n 2, 1) := by decide +kernel
theorem dcb_2 : decode jdk_65_method_133_code 2 = .ok (.invokestatic 343, 3) := by decide +kernel
theorem dcb_5 : decode jdk_65_method_133_code 5 = .ok (.iload_n 2, 1) := by decide +kernel
theorem dcb_6 : decode jdk_65_method_133_code 6 = .ok (.iload_n 1, 1) := by decide +kernel
theorem dcb_7 : decode jdk_65_method_133_code 7 = .ok (.isub, 1) := by decide +kernel
theorem dcb_8 : decode jdk_65_method_133_code 8 = .ok (.istore_n 3, 1) := by decide +kernel
theorem dcb_9 : decode jdk_65_method_133_code 9 = .ok (.iload_n 3, 1) := by decide +kernel
theorem dcb_10 : decode jdk_65_method_133_code 10 = .ok (.newarray .byte, 2) := by decide +kernel
theorem dcb_12 : decode jdk_65_method_133_code 12 = .ok (.astore 4, 2) := by decide +kernel
theorem dcb_14 : decode jdk_65_method_133_code 14 = .ok (.aload_n 0, 1) := by decide +kernel
theorem dcb_15 : decode jdk_65_method_133_code 15 = .ok (.iload_n 1, 1) := by decide +kernel
theorem dcb_16 : decode jdk_65_method_133_code 16 = .ok (.aload 4, 2) := by decide +kernel
theorem dcb_18 : decode jdk_65_method_133_code 18 = .ok (.iconst 0, 1) := by decide +kernel
theorem dcb_19 : decode jdk_65_method_133_code 19 = .ok (.aload_n 0, 1) := by decide +kernel
theorem dcb_20 : decode jdk_65_method_133_code 20 = .ok (.arraylength, 1) := by decide +kernel
theorem dcb_21 : decode jdk_65_method_133_code 21 = .ok (.iload_n 1, 1) := by decide +kernel
theorem dcb_22 : decode jdk_65_method_133_code 22 = .ok (.isub, 1) := by decide +kernel
theorem dcb_23 : decode jdk_65_method_133_code 23 = .ok (.iload_n 3, 1) := by decide +kernel
theorem dcb_24 : decode jdk_65_method_133_code 24 = .ok (.invokestatic 304, 3) := by decide +kernel
theorem dcb_27 : decode jdk_65_method_133_code 27 = .ok (.invokestatic 150, 3) := by decide +kernel
theorem dcb_30 : decode jdk_65_method_133_code 30 = .ok (.aload 4, 2) := by decide +kernel
theorem dcb_32 : decode jdk_65_method_133_code 32 = .ok (.areturn, 1) := by decide +kernel
theorem ef_cb (m : MethodId) (t : Addr) (z0 : Int32) (z1 : Int32) : entryFrame m #[(.ref t), (.int z0), (.int z1)] 5 = mkF m 0 #[.val (.ref t), .val (.int z0), .val (.int z1), .unset, .unset] [] := by first | (simp [entryFrame, mkF, argsToLocals, Value.category]; done) | rfl
set_option maxRecDepth 65536 in
set_option maxHeartbeats 40000000 in
theorem rm_cb (l : Launch) (Z : State) (a0 : Array Value) (hw : ∀ d ∈ tables_1, d.before a0 Z = true) (h0 : Heap) (t : Addr) (z0 z1 : Int32) (n i k : Nat) (g : Nat → Int32) (hz0 : z0 = Int32.ofNat i) (hz1 : z1 = Int32.ofNat (i + k)) (A : An Z h0 t .byte n g) (hn : n ≤ 4) (hik : i + k ≤ n) :
    Ct l Z [] (⟨"java/util/Arrays", "copyOfRangeByte", "([BII)[B"⟩ : MethodName) jdk_65_method_133_code 5 (some (.array .byte)) (⟨1, 1, 4, 40⟩ : Room) #[(.ref t), (.int z0), (.int z1)] h0 (fun v h' => ∃ u, v = some (.ref u) ∧ Keep h0 h' [] ∧ h0.size ≤ u ∧ An Z h' u .byte k (fun j => g (i + j))) := by
  refine Ct.of pn_java_util_Arrays (fun m => ef_cb m t z0 z1) ?_
  intro p e s m below meth c s₁ X0
  subst hz0 hz1
  have K11 : Keep h0 h0 [] := Keep.refl _ _
  refine Go.iloadN X0 1 dcb_0 rfl ?_
  refine Go.iloadN X0 2 dcb_1 rfl ?_
  refine Go.callS X0 5 [(.int (Int32.ofNat i)), (.int (Int32.ofNat (i + k)))] [] 0 (hw _ (List.mem_of_getElem? (i := 162) rfl)) (hw _ (List.mem_of_getElem? (i := 163) rfl)) (hw _ (List.mem_of_getElem? (i := 157) rfl)) (by decide) (hw _ (List.mem_of_getElem? (i := 164) rfl)) pd_6 dcb_2 (rm_cl l Z a0 hw h0 (Int32.ofNat i) (Int32.ofNat (i + k)) (n_nlt (by omega) (by omega))) rfl rfl rfl (Nat.le_of_eq rfl) (by decide) (by decide) (by decide) (by decide) ?_
  rintro T12 v12 L12 X12 ⟨rfl, hh⟩
  rw [hh] at X12
  show Go p e below _ T12 m 5 #[.val (.ref t), .val (.int (Int32.ofNat i)), .val (.int (Int32.ofNat (i + k))), .unset, .unset] []
  refine Go.iloadN X12 6 dcb_5 rfl ?_
  refine Go.iloadN X12 7 dcb_6 rfl ?_
  refine Go.isub X12 8 dcb_7 ?_
  rw [n_sub]
  refine Go.istoreN X12 9 #[.val (.ref t), .val (.int (Int32.ofNat i)), .val (.int (Int32.ofNat (i + k))), .val (.int (Int32.ofNat k)), .unset] dcb_8 rfl ?_
  refine Go.iloadN X12 10 dcb_9 rfl ?_
  refine Go.newB X12 12 (n := k) (hw _ (List.mem_of_getElem? (i := 19) rfl)) dcb_10 4 (by omega) (by decide) (by decide) (by decide) ?_
  intro T13 h13 a13 X13 E13 g13 V13
  have nw_a13 : Z.heap.size ≤ a13 := by rw [← g13]; exact X12.le
  have si_a13 : h0.size ≤ a13 := by rw [← g13]; exact K11.1
  have ne_t_a13 : t ≠ a13 := by rw [← g13]; exact Nat.ne_of_lt A.lt
  have K14 : Keep h0 h13 [] := K11.ext E13
  have F15 : An Z h13 t .byte n g := A.ext E13
  refine Go.astore X13 14 #[.val (.ref t), .val (.int (Int32.ofNat i)), .val (.int (Int32.ofNat (i + k))), .val (.int (Int32.ofNat k)), .val (.ref a13)] dcb_12 rfl rfl ?_
  refine Go.aloadN X13 15 dcb_14 rfl rfl ?_
  refine Go.iloadN X13 16 dcb_15 rfl ?_
  refine Go.aload X13 18 dcb_16 rfl rfl ?_
  refine Go.iconst X13 19 (0 : Int32) dcb_18 ?_
  refine Go.aloadN X13 20 dcb_19 rfl rfl ?_
  refine Go.alenN X13 21 F15 dcb_20 ?_
  refine Go.iloadN X13 22 dcb_21 rfl ?_
  refine Go.isub X13 23 dcb_22 ?_
  rw [n_subn (by omega)]
  refine Go.iloadN X13 24 dcb_23 rfl ?_
  refine Go.callSP X13 27 [(.int (Int32.ofNat (n - i))), (.int (Int32.ofNat k))] [(.int (0 : Int32)), (.ref a13), (.int (Int32.ofNat i)), (.ref t)] 4 (hw _ (List.mem_of_getElem? (i := 165) rfl)) (hw _ (List.mem_of_getElem? (i := 166) rfl)) (hw _ (List.mem_of_getElem? (i := 167) rfl)) (by decide) (hw _ (List.mem_of_getElem? (i := 168) rfl)) pd_9 dcb_24 (rm_min l Z a0 hw h13 (Int32.ofNat (n - i)) (Int32.ofNat k) (Int32.ofNat k) (own_mn (by omega) (by omega))) rfl rfl rfl (Nat.le_of_eq rfl) (by decide) (by decide) (by decide) (by decide) ?_
  intro T16 L16 X16
  refine Go.acpN X16 30 (hw _ (List.mem_of_getElem? (i := 169) rfl)) (hw _ (List.mem_of_getElem? (i := 172) rfl)) (hw _ (List.mem_of_getElem? (i := 170) rfl)) (hw _ (List.mem_of_getElem? (i := 171) rfl)) F15 V13 i hik nw_a13 dcb_27 0 rfl (by decide) (by decide) (by decide) ?_
  intro T17 h17 L17 X17 Ka Va
  have K18 : Keep h0 h17 [] := K14.trans Ka (allS (Or.inr si_a13) all0)
  have F19 : An Z h17 t .byte n g := F15.keep Ka (ninS ne_t_a13 nin0)
  refine Go.aload X17 32 dcb_30 rfl rfl ?_
  exact Go.retA X17 rfl rfl rfl dcb_32 (X17.fin ⟨_, rfl, K18, si_a13, Va⟩ (by decide) (by decide))
theorem dco_0 : decode jdk_65_method_132_code 0 = .ok (.iload_n 1, 1) := by decide +kernel
theorem dco_1 : decode jdk_65_method_132_code 1 = .ok (.ifCond .ne 9, 3) := by decide +kernel
theorem dco_4 : decode jdk_65_method_132_code 4 = .ok (.iload_n 2, 1) := by decide +kernel
theorem dco_5 : decode jdk_65_method_132_code 5 = .ok (.aload_n 0, 1) := by decide +kernel
theorem dco_6 : decode jdk_65_method_132_code 6 = .ok (.arraylength, 1) := by decide +kernel
theorem dco_7 : decode jdk_65_method_132_code 7 = .ok (.if_icmp .eq 10, 3) := by decide +kernel
theorem dco_10 : decode jdk_65_method_132_code 10 = .ok (.aload_n 0, 1) := by decide +kernel
theorem dco_11 : decode jdk_65_method_132_code 11 = .ok (.iload_n 1, 1) := by decide +kernel
theorem dco_12 : decode jdk_65_method_132_code 12 = .ok (.iload_n 2, 1) := by decide +kernel
theorem dco_13 : decode jdk_65_method_132_code 13 = .ok (.invokestatic 339, 3) := by decide +kernel
theorem dco_16 : decode jdk_65_method_132_code 16 = .ok (.areturn, 1) := by decide +kernel
theorem dco_17 : decode jdk_65_method_132_code 17 = .ok (.aload_n 0, 1) := by decide +kernel
theorem dco_18 : decode jdk_65_method_132_code 18 = .ok (.invokevirtual 310, 3) := by decide +kernel
theorem dco_21 : decode jdk_65_method_132_code 21 = .ok (.checkcast 311, 3) := by decide +kernel
theorem dco_24 : decode jdk_65_method_132_code 24 = .ok (.areturn, 1) := by decide +kernel
theorem ef_co (m : MethodId) (t : Addr) (z0 : Int32) (z1 : Int32) : entryFrame m #[(.ref t), (.int z0), (.int z1)] 3 = mkF m 0 #[.val (.ref t), .val (.int z0), .val (.int z1)] [] := by first | (simp [entryFrame, mkF, argsToLocals, Value.category]; done) | rfl
set_option maxRecDepth 65536 in
set_option maxHeartbeats 40000000 in
theorem rm_co (l : Launch) (Z : State) (a0 : Array Value) (hw : ∀ d ∈ tables_1, d.before a0 Z = true) (h0 : Heap) (t : Addr) (z0 z1 : Int32) (n i k : Nat) (g : Nat → Int32) (hz0 : z0 = Int32.ofNat i) (hz1 : z1 = Int32.ofNat (i + k)) (A : An Z h0 t .byte n g) (hn : n ≤ 4) (hik : i + k ≤ n) (hx : ¬ (i = 0 ∧ k = n)) :
    Ct l Z [] (⟨"java/util/Arrays", "copyOfRange", "([BII)[B"⟩ : MethodName) jdk_65_method_132_code 3 (some (.array .byte)) (⟨2, 1, 4, 56⟩ : Room) #[(.ref t), (.int z0), (.int z1)] h0 (fun v h' => ∃ u, v = some (.ref u) ∧ Keep h0 h' [] ∧ h0.size ≤ u ∧ An Z h' u .byte k (fun j => g (i + j))) := by
  refine Ct.of pn_java_util_Arrays (fun m => ef_co m t z0 z1) ?_
  intro p e s m below meth c s₁ X0
  subst hz0 hz1
  by_cases hi0 : i = 0
  · skip
    refine Go.iloadN X0 1 dco_0 rfl ?_
    refine Go.if0N X0 4 dco_1 (XT.i0_ne_f (by rw [hi0]; rfl)) ?_
    refine Go.iloadN X0 5 dco_4 rfl ?_
    refine Go.aloadN X0 6 dco_5 rfl rfl ?_
    refine Go.alenN X0 7 A dco_6 ?_
    refine Go.icmpN X0 10 dco_7 (XT.ii_eq_f (fun q => hx ⟨hi0, by have := n_inj (by omega) (by omega) q; omega⟩)) ?_
    refine Go.aloadN X0 11 dco_10 rfl rfl ?_
    refine Go.iloadN X0 12 dco_11 rfl ?_
    refine Go.iloadN X0 13 dco_12 rfl ?_
    refine Go.callS X0 16 [(.ref t), (.int (Int32.ofNat i)), (.int (Int32.ofNat (i + k)))] [] 0 (hw _ (List.mem_of_getElem? (i := 159) rfl)) (hw _ (List.mem_of_getElem? (i := 160) rfl)) (hw _ (List.mem_of_getElem? (i := 157) rfl)) (by decide) (hw _ (List.mem_of_getElem? (i := 161) rfl)) pd_10 dco_13 (rm_cb l Z a0 hw h0 t (Int32.ofNat i) (Int32.ofNat (i + k)) n i k g rfl rfl A hn hik) rfl rfl rfl (Nat.le_of_eq rfl) (by decide) (by decide) (by decide) (by decide) ?_
    rintro T11 v11 L11 X11 ⟨u, rfl, hq⟩
    show Go p e below _ T11 m 16 #[.val (.ref t), .val (.int (Int32.ofNat i)), .val (.int (Int32.ofNat (i + k)))] [(.ref u)]
    exact Go.retA X11 rfl rfl rfl dco_16 (X11.fin ⟨u, rfl, hq⟩ (by decide) (by decide))
  · skip
    refine Go.iloadN X0 1 dco_0 rfl ?_
    refine Go.if0Y X0 10 dco_1 (XT.i0_ne_t (n_ne0 (by omega) (by omega))) ?_
    refine Go.aloadN X0 11 dco_10 rfl rfl ?_
    refine Go.iloadN X0 12 dco_11 rfl ?_
    refine Go.iloadN X0 13 dco_12 rfl ?_
    refine Go.callS X0 16 [(.ref t), (.int (Int32.ofNat i)), (.int (Int32.ofNat (i + k)))] [] 0 (hw _ (List.mem_of_getElem? (i := 159) rfl)) (hw _ (List.mem_of_getElem? (i := 160) rfl)) (hw _ (List.mem_of_getElem? (i := 157) rfl)) (by decide) (hw _ (List.mem_of_getElem? (i := 161) rfl)) pd_10 dco_13 (rm_cb l Z a0 hw h0 t (Int32.ofNat i) (Int32.ofNat (i + k)) n i k g rfl rfl A hn hik) rfl rfl rfl (Nat.le_of_eq rfl) (by decide) (by decide) (by decide) (by decide) ?_
    rintro T12 v12 L12 X12 ⟨u, rfl, hq⟩
    show Go p e below _ T12 m 16 #[.val (.ref t), .val (.int (Int32.ofNat i)), .val (.int (Int32.ofNat (i + k)))] [(.ref u)]
    exact Go.retA X12 rfl rfl rfl dco_16 (X12.fin ⟨u, rfl, hq⟩ (by decide) (by decide))
theorem dns_0 : decode jdk_43_method_47_code 0 = .ok (.iload_n 2, 1) := by decide +kernel
theorem dns_1 : decode jdk_43_method_47_code 1 = .ok (.ifCond .ne 6, 3) := by decide +kernel
theorem dns_4 : decode jdk_43_method_47_code 4 = .ok (.ldc 151, 2) := by decide +kernel
theorem dns_6 : decode jdk_43_method_47_code 6 = .ok (.areturn, 1) := by decide +kernel
theorem dns_7 : decode jdk_43_method_47_code 7 = .ok (.new 1, 3) := by decide +kernel
theorem dns_10 : decode jdk_43_method_47_code 10 = .ok (.dup, 1) := by decide +kernel
theorem dns_11 : decode jdk_43_method_47_code 11 = .ok (.aload_n 0, 1) := by decide +kernel
theorem dns_12 : decode jdk_43_method_47_code 12 = .ok (.iload_n 1, 1) := by decide +kernel
theorem dns_13 : decode jdk_43_method_47_code 13 = .ok (.iload_n 1, 1) := by decide +kernel
theorem dns_14 : decode jdk_43_method_47_code 14 = .ok (.iload_n 2, 1) := by decide +kernel
theorem dns_15 : decode jdk_43_method_47_code 15 = .ok (.iadd, 1) := by decide +kernel
theorem dns_16 : decode jdk_43_method_47_code 16 = .ok (.invokestatic 232, 3) := by decide +kernel
theorem dns_19 : decode jdk_43_method_47_code 19 = .ok (.iconst 0, 1) := by decide +kernel
theorem dns_20 : decode jdk_43_method_47_code 20 = .ok (.invokespecial 112, 3) := by decide +kernel
theorem dns_23 : decode jdk_43_method_47_code 23 = .ok (.areturn, 1) := by decide +kernel
theorem ef_ns (m : MethodId) (t : Addr) (z0 : Int32) (z1 : Int32) : entryFrame m #[(.ref t), (.int z0), (.int z1)] 3 = mkF m 0 #[.val (.ref t), .val (.int z0), .val (.int z1)] [] := by first | (simp [entryFrame, mkF, argsToLocals, Value.category]; done) | rfl
set_option maxRecDepth 65536 in
set_option maxHeartbeats 40000000 in
theorem rm_ns (l : Launch) (Z : State) (a0 : Array Value) (hw : ∀ d ∈ tables_1, d.before a0 Z = true) (h0 : Heap) (t : Addr) (z0 z1 : Int32) (n i k : Nat) (f g : Nat → Int32) (hz0 : z0 = Int32.ofNat i) (hz1 : z1 = Int32.ofNat k) (A : An Z h0 t .byte n g) (hg : ∀ j, j < n → (0 ≤ (f j).toInt ∧ (f j).toInt < 65536) ∧ ¬ 255 < f j ∧ g j = (f j).toInt8.toInt32) (hn : n ≤ 4) (hik : i + k ≤ n) (hx : ¬ (i = 0 ∧ k = n)) :
    CtW l Z consts_1 [] (⟨"java/lang/StringLatin1", "newString", "([BII)Ljava/lang/String;"⟩ : MethodName) jdk_43_method_47_code 3 (some (.object "java/lang/String")) (⟨3, 4, 12, 72⟩ : Room) #[(.ref t), (.int z0), (.int z1)] h0 (fun v h' => ∃ b u, v = some (.ref b) ∧ Keep h0 h' [] ∧ Str Z h' b u k (fun j => f (i + j))) := by
  refine CtW.of pn_java_lang_StringLatin1 (fun m => ef_ns m t z0 z1) ?_
  intro p e s m below meth c s₁ X0 ws0 C0
  have hEL := own_EW hw
  subst hz0 hz1
  have K11 : Keep h0 h0 [] := Keep.refl _ _
  by_cases hk0 : k = 0
  · skip
    refine Go.iloadN X0 1 dns_0 rfl ?_
    refine Go.if0N X0 4 dns_1 (XT.i0_ne_f (by rw [hk0]; rfl)) ?_
    refine Go.ldcW X0 6 hEL ws0 C0.1 (hw _ (List.mem_of_getElem? (i := 123) rfl)) (own_atoms hw) (by decide) (vs := []) (z := 0) ⟨by decide, rfl⟩ (by decide) rfl dns_4 (n := 0) (by decide) (by decide) (by decide) (by decide) ?_
    intro T12 h12 vm12 x12 b12 k12 X12 ws12 E12 R12 G12 C12 V12 A12 S12
    have ch12 := C0.trans R12
    have K13 : Keep h0 h12 [] := K11.ext E12
    have F14 : An Z h12 t .byte n g := A.ext E12
    have SE : Str Z h12 x12 b12 k (fun j => f (i + j)) := by
      subst hk0
      exact ⟨G12, V12, by decide, fun j hj => absurd hj (Nat.not_lt_zero j), Or.inl ⟨C12, _, own_an0 A12, fun j hj => absurd hj (Nat.not_lt_zero j)⟩⟩
    exact Go.retA X12 rfl rfl rfl dns_6 (X12.finW hEL ws12 ch12 ⟨_, _, rfl, K13, SE⟩ (by decide) (by decide))
  · skip
    refine Go.iloadN X0 1 dns_0 rfl ?_
    refine Go.if0Y X0 7 dns_1 (XT.i0_ne_t (n_ne0 (by omega) (by omega))) ?_
    refine Go.newO X0 10 (hw _ (List.mem_of_getElem? (i := 154) rfl)) (hw _ (List.mem_of_getElem? (i := 2) rfl)) (hw _ (List.mem_of_getElem? (i := 3) rfl)) dns_7 (by decide) (by decide) ?_
    intro T15 h15 a15 X15 E15 g15 A15 D15
    have nw_a15 : Z.heap.size ≤ a15 := by rw [← g15]; exact X0.le
    have si_a15 : h0.size ≤ a15 := by rw [← g15]; exact K11.1
    have ne_t_a15 : t ≠ a15 := by rw [← g15]; exact Nat.ne_of_lt A.lt
    have ws16 : WS s s.vm h15 := ws0.le E15.1
    have K17 : Keep h0 h15 [] := K11.ext E15
    have F18 : An Z h15 t .byte n g := A.ext E15
    have F19 : Fld Z h15 a15 "java/lang/String" "coder" "B" (.int (0 : Int32)) := D15 (Or.inr (hw _ (List.mem_of_getElem? (i := 27) rfl))) (ty := .byte) (by decide)
    have F20 : Fld Z h15 a15 "java/lang/String" "value" "[B" .null := D15 (Or.inr (hw _ (List.mem_of_getElem? (i := 29) rfl))) (ty := (.array .byte)) (by decide)
    refine Go.dup X15 11 dns_10 rfl ?_
    refine Go.aloadN X15 12 dns_11 rfl rfl ?_
    refine Go.iloadN X15 13 dns_12 rfl ?_
    refine Go.iloadN X15 14 dns_13 rfl ?_
    refine Go.iloadN X15 15 dns_14 rfl ?_
    refine Go.iadd X15 16 dns_15 ?_
    rw [n_add]
    refine Go.callS X15 19 [(.ref t), (.int (Int32.ofNat i)), (.int (Int32.ofNat (i + k)))] [(.ref a15), (.ref a15)] 2 (hw _ (List.mem_of_getElem? (i := 155) rfl)) (hw _ (List.mem_of_getElem? (i := 156) rfl)) (hw _ (List.mem_of_getElem? (i := 157) rfl)) (by decide) (hw _ (List.mem_of_getElem? (i := 158) rfl)) pd_10 dns_16 (rm_co l Z a0 hw h15 t (Int32.ofNat i) (Int32.ofNat (i + k)) n i k g rfl rfl F18 hn hik hx) rfl rfl rfl (Nat.le_of_eq rfl) (by decide) (by decide) (by decide) (by decide) ?_
    rintro T21 v21 L21 X21 ⟨u, rfl, Ku, gu, Bu⟩
    show Go p e below _ T21 m 19 #[.val (.ref t), .val (.int (Int32.ofNat i)), .val (.int (Int32.ofNat k))] [(.ref u), (.ref a15), (.ref a15)]
    have nw_u : Z.heap.size ≤ u := Nat.le_trans X15.le gu
    have ne_t_u : t ≠ u := Nat.ne_of_lt (Nat.lt_of_lt_of_le F18.lt gu)
    have ne_a15_u : a15 ≠ u := Nat.ne_of_lt (Nat.lt_of_lt_of_le A15.lt gu)
    have si_u : h0.size ≤ u := Nat.le_trans K17.1 gu
    have ws22 : WS s s.vm T21.heap := ws16.le Ku.1
    have K23 : Keep h0 T21.heap [] := K17.trans Ku all0
    have F24 : An Z T21.heap t .byte n g := F18.keep Ku nin0
    have F25 : Exa Z T21.heap a15 "java/lang/String" := A15.keep Ku
    have F26 : Fld Z T21.heap a15 "java/lang/String" "coder" "B" (.int (0 : Int32)) := F19.keep Ku nin0
    have F27 : Fld Z T21.heap a15 "java/lang/String" "value" "[B" .null := F20.keep Ku nin0
    refine Go.iconst X21 20 (0 : Int32) dns_19 ?_
    refine Go.callI X21 23 [(.ref u), (.int (0 : Int32))] [(.ref a15)] 1 rfl (hw _ (List.mem_of_getElem? (i := 173) rfl)) (hw _ (List.mem_of_getElem? (i := 174) rfl)) (hw _ (List.mem_of_getElem? (i := 3) rfl)) (by decide) rfl (hw _ (List.mem_of_getElem? (i := 175) rfl)) pd_11 dns_20 (rm_i2 l Z a0 hw T21.heap a15 u 0 rfl F25 F27 F26 nw_a15) rfl rfl rfl (Nat.le_of_eq rfl) (by decide) (by decide) (by decide) (by decide) ?_
    rintro T28 v28 L28 X28 ⟨rfl, Ki, Ei, Vi, Ci⟩
    show Go p e below _ T28 m 23 #[.val (.ref t), .val (.int (Int32.ofNat i)), .val (.int (Int32.ofNat k))] [(.ref a15)]
    have ws29 : WS s s.vm T28.heap := ws22.le Ki.1
    have K30 : Keep h0 T28.heap [] := K23.trans Ki (allS (Or.inr si_a15) all0)
    have F31 : An Z T28.heap t .byte n g := F24.keep Ki (ninS ne_t_a15 nin0)
    have F32 : Exa Z T28.heap a15 "java/lang/String" := F25.keep Ki
    have F33 : An Z T28.heap u .byte k (fun j => g (i + j)) := Bu.keep Ki (ninS (Ne.symm ne_a15_u) nin0)
    exact Go.retA X28 rfl rfl rfl dns_23 (X28.finW hEL ws29 (C0.trans (CHr.keep K30 sf0 C0.1)) ⟨_, u, rfl, K30, Ei, Vi, by omega, fun j hj => (hg (i + j) (by omega)).1, Or.inl ⟨Ci, _, F33, fun j hj => (hg (i + j) (by omega)).2⟩⟩ (by decide) (by decide))
theorem dcft_0 : decode jdk_41_method_12_code 0 = .ok (.iload_n 0, 1) := by decide +kernel
theorem dcft_1 : decode jdk_41_method_12_code 1 = .ok (.ifCond .lt 13, 3) := by decide +kernel
theorem dcft_4 : decode jdk_41_method_12_code 4 = .ok (.iload_n 0, 1) := by decide +kernel
theorem dcft_5 : decode jdk_41_method_12_code 5 = .ok (.iload_n 1, 1) := by decide +kernel
theorem dcft_6 : decode jdk_41_method_12_code 6 = .ok (.if_icmp .gt 8, 3) := by decide +kernel
theorem dcft_9 : decode jdk_41_method_12_code 9 = .ok (.iload_n 1, 1) := by decide +kernel
theorem dcft_10 : decode jdk_41_method_12_code 10 = .ok (.iload_n 2, 1) := by decide +kernel
theorem dcft_11 : decode jdk_41_method_12_code 11 = .ok (.if_icmp .le 11, 3) := by decide +kernel
theorem dcft_14 : decode jdk_41_method_12_code 14 = .ok (.aload_n 3, 1) := by decide +kernel
theorem dcft_15 : decode jdk_41_method_12_code 15 = .ok (.iload_n 0, 1) := by decide +kernel
theorem dcft_16 : decode jdk_41_method_12_code 16 = .ok (.iload_n 1, 1) := by decide +kernel
theorem dcft_17 : decode jdk_41_method_12_code 17 = .ok (.iload_n 2, 1) := by decide +kernel
theorem dcft_18 : decode jdk_41_method_12_code 18 = .ok (.invokestatic 99, 3) := by decide +kernel
theorem dcft_21 : decode jdk_41_method_12_code 21 = .ok (.athrow, 1) := by decide +kernel
theorem dcft_22 : decode jdk_41_method_12_code 22 = .ok (.iload_n 0, 1) := by decide +kernel
theorem dcft_23 : decode jdk_41_method_12_code 23 = .ok (.ireturn, 1) := by decide +kernel
theorem ef_cft (m : MethodId) (y : Int32) (z : Int32) (n : Int32) (wf : Value) (h_wf : wf.isRef = true) : entryFrame m #[(.int y), (.int z), (.int n), wf] 4 = mkF m 0 #[.val (.int y), .val (.int z), .val (.int n), .val wf] [] := by rcases XT.refc h_wf with rfl | ⟨_, rfl⟩ <;> first | (simp [entryFrame, mkF, argsToLocals, Value.category]; done) | rfl
set_option maxRecDepth 65536 in
set_option maxHeartbeats 40000000 in
theorem rm_cft (l : Launch) (Z : State) (a0 : Array Value) (hw : ∀ d ∈ tables_1, d.before a0 Z = true) (h0 : Heap) (y z n : Int32) (wf : Value) (hwf : wf.isRef = true) (h1 : ¬ y < 0) (h2 : ¬ z < y) (h3 : ¬ n < z) :
    Ct l Z [] (⟨"jdk/internal/util/Preconditions", "checkFromToIndex", "(IIILjava/util/function/BiFunction;)I"⟩ : MethodName) jdk_41_method_12_code 4 (some .int) (⟨0, 0, 0, 0⟩ : Room) #[(.int y), (.int z), (.int n), wf] h0 (Pu h0 (.int y)) := by
  refine Ct.of pn_jdk_internal_util_Preconditions (fun m => ef_cft m y z n wf hwf) ?_
  intro p e s m below meth c s₁ X0
  refine Go.iloadN X0 1 dcft_0 rfl ?_
  refine Go.if0N X0 4 dcft_1 (XT.i0_lt_f h1) ?_
  refine Go.iloadN X0 5 dcft_4 rfl ?_
  refine Go.iloadN X0 6 dcft_5 rfl ?_
  refine Go.icmpN X0 9 dcft_6 (XT.ii_gt_f h2) ?_
  refine Go.iloadN X0 10 dcft_9 rfl ?_
  refine Go.iloadN X0 11 dcft_10 rfl ?_
  refine Go.icmpY X0 22 dcft_11 (XT.ii_le_t h3) ?_
  refine Go.iloadN X0 23 dcft_22 rfl ?_
  exact Go.retI X0 rfl (by simp) rfl dcft_23 (X0.fin ⟨rfl, rfl⟩ (by decide) (by decide))
theorem dcbe_0 : decode jdk_42_method_158_code 0 = .ok (.iload_n 0, 1) := by decide +kernel
theorem dcbe_1 : decode jdk_42_method_158_code 1 = .ok (.iload_n 1, 1) := by decide +kernel
theorem dcbe_2 : decode jdk_42_method_158_code 2 = .ok (.iload_n 2, 1) := by decide +kernel
theorem dcbe_3 : decode jdk_42_method_158_code 3 = .ok (.getstatic 1053, 3) := by decide +kernel
theorem dcbe_6 : decode jdk_42_method_158_code 6 = .ok (.invokestatic 1062, 3) := by decide +kernel
theorem dcbe_9 : decode jdk_42_method_158_code 9 = .ok (.pop, 1) := by decide +kernel
theorem dcbe_10 : decode jdk_42_method_158_code 10 = .ok (.return_, 1) := by decide +kernel
theorem ef_cbe (m : MethodId) (y : Int32) (z : Int32) (n : Int32) : entryFrame m #[(.int y), (.int z), (.int n)] 3 = mkF m 0 #[.val (.int y), .val (.int z), .val (.int n)] [] := by first | (simp [entryFrame, mkF, argsToLocals, Value.category]; done) | rfl
set_option maxRecDepth 65536 in
set_option maxHeartbeats 40000000 in
theorem rm_cbe (l : Launch) (Z : State) (a0 : Array Value) (hw : ∀ d ∈ tables_1, d.before a0 Z = true) (h0 : Heap) (wf : Value) (hwf : wf.isRef = true) (SF : Sta Z Z.heap "jdk/internal/util/Preconditions" "SIOOBE_FORMATTER" "Ljava/util/function/BiFunction;" wf) (y z n : Int32) (h1 : ¬ y < 0) (h2 : ¬ z < y) (h3 : ¬ n < z) :
    Ct l Z [] (⟨"java/lang/String", "checkBoundsBeginEnd", "(III)V"⟩ : MethodName) jdk_42_method_158_code 3 none (⟨1, 0, 0, 15⟩ : Room) #[(.int y), (.int z), (.int n)] h0 (fun v h' => v = none ∧ h' = h0) := by
  refine Ct.of pn_java_lang_String (fun m => ef_cbe m y z n) ?_
  intro p e s m below meth c s₁ X0
  refine Go.iloadN X0 1 dcbe_0 rfl ?_
  refine Go.iloadN X0 2 dcbe_1 rfl ?_
  refine Go.iloadN X0 3 dcbe_2 rfl ?_
  refine Go.getS X0 6 (hw _ (List.mem_of_getElem? (i := 109) rfl)) SF dcbe_3 ?_
  intro T1 X1
  refine Go.callSP X1 9 [(.int y), (.int z), (.int n), wf] [] 0 (hw _ (List.mem_of_getElem? (i := 111) rfl)) (hw _ (List.mem_of_getElem? (i := 112) rfl)) (hw _ (List.mem_of_getElem? (i := 110) rfl)) (by decide) (hw _ (List.mem_of_getElem? (i := 113) rfl)) pd_12 dcbe_6 (rm_cft l Z a0 hw h0 y z n wf hwf h1 h2 h3) rfl rfl rfl (Nat.le_of_eq rfl) (by decide) (by decide) (by decide) (by decide) ?_
  intro T2 L2 X2
  refine Go.pop X2 10 dcbe_9 rfl ?_
  exact Go.retV X2 rfl dcbe_10 (X2.fin ⟨rfl, rfl⟩ (by decide) (by decide))
theorem dsub_0 : decode jdk_42_method_92_code 0 = .ok (.aload_n 0, 1) := by decide +kernel
theorem dsub_1 : decode jdk_42_method_92_code 1 = .ok (.invokevirtual 505, 3) := by decide +kernel
theorem dsub_4 : decode jdk_42_method_92_code 4 = .ok (.istore_n 3, 1) := by decide +kernel
theorem dsub_5 : decode jdk_42_method_92_code 5 = .ok (.iload_n 1, 1) := by decide +kernel
theorem dsub_6 : decode jdk_42_method_92_code 6 = .ok (.iload_n 2, 1) := by decide +kernel
theorem dsub_7 : decode jdk_42_method_92_code 7 = .ok (.iload_n 3, 1) := by decide +kernel
theorem dsub_8 : decode jdk_42_method_92_code 8 = .ok (.invokestatic 521, 3) := by decide +kernel
theorem dsub_11 : decode jdk_42_method_92_code 11 = .ok (.iload_n 1, 1) := by decide +kernel
theorem dsub_12 : decode jdk_42_method_92_code 12 = .ok (.ifCond .ne 10, 3) := by decide +kernel
theorem dsub_15 : decode jdk_42_method_92_code 15 = .ok (.iload_n 2, 1) := by decide +kernel
theorem dsub_16 : decode jdk_42_method_92_code 16 = .ok (.iload_n 3, 1) := by decide +kernel
theorem dsub_17 : decode jdk_42_method_92_code 17 = .ok (.if_icmp .ne 5, 3) := by decide +kernel
theorem dsub_20 : decode jdk_42_method_92_code 20 = .ok (.aload_n 0, 1) := by decide +kernel
theorem dsub_21 : decode jdk_42_method_92_code 21 = .ok (.areturn, 1) := by decide +kernel
theorem dsub_22 : decode jdk_42_method_92_code 22 = .ok (.iload_n 2, 1) := by decide +kernel
theorem dsub_23 : decode jdk_42_method_92_code 23 = .ok (.iload_n 1, 1) := by decide +kernel
theorem dsub_24 : decode jdk_42_method_92_code 24 = .ok (.isub, 1) := by decide +kernel
theorem dsub_25 : decode jdk_42_method_92_code 25 = .ok (.istore 4, 2) := by decide +kernel
theorem dsub_27 : decode jdk_42_method_92_code 27 = .ok (.aload_n 0, 1) := by decide +kernel
theorem dsub_28 : decode jdk_42_method_92_code 28 = .ok (.invokevirtual 492, 3) := by decide +kernel
theorem dsub_31 : decode jdk_42_method_92_code 31 = .ok (.ifCond .eq 16, 3) := by decide +kernel
theorem dsub_34 : decode jdk_42_method_92_code 34 = .ok (.aload_n 0, 1) := by decide +kernel
theorem dsub_35 : decode jdk_42_method_92_code 35 = .ok (.getfield 9, 3) := by decide +kernel
theorem dsub_38 : decode jdk_42_method_92_code 38 = .ok (.iload_n 1, 1) := by decide +kernel
theorem dsub_39 : decode jdk_42_method_92_code 39 = .ok (.iload 4, 2) := by decide +kernel
theorem dsub_41 : decode jdk_42_method_92_code 41 = .ok (.invokestatic 685, 3) := by decide +kernel
theorem dsub_44 : decode jdk_42_method_92_code 44 = .ok (.goto 13, 3) := by decide +kernel
theorem dsub_47 : decode jdk_42_method_92_code 47 = .ok (.aload_n 0, 1) := by decide +kernel
theorem dsub_48 : decode jdk_42_method_92_code 48 = .ok (.getfield 9, 3) := by decide +kernel
theorem dsub_51 : decode jdk_42_method_92_code 51 = .ok (.iload_n 1, 1) := by decide +kernel
theorem dsub_52 : decode jdk_42_method_92_code 52 = .ok (.iload 4, 2) := by decide +kernel
theorem dsub_54 : decode jdk_42_method_92_code 54 = .ok (.invokestatic 689, 3) := by decide +kernel
theorem dsub_57 : decode jdk_42_method_92_code 57 = .ok (.areturn, 1) := by decide +kernel
theorem ef_sub (m : MethodId) (a : Addr) (z0 : Int32) (z1 : Int32) : entryFrame m #[(.ref a), (.int z0), (.int z1)] 5 = mkF m 0 #[.val (.ref a), .val (.int z0), .val (.int z1), .unset, .unset] [] := by first | (simp [entryFrame, mkF, argsToLocals, Value.category]; done) | rfl
set_option maxRecDepth 65536 in
set_option maxHeartbeats 40000000 in
theorem rm_sub (l : Launch) (Z : State) (a0 : Array Value) (hw : ∀ d ∈ tables_1, d.before a0 Z = true) (h0 : Heap) (cz : Int32) (SC : Sta Z Z.heap "java/lang/String" "COMPACT_STRINGS" "Z" (.int cz)) (hcz : ¬ cz = 0) (wf : Value) (hwf : wf.isRef = true) (SF : Sta Z Z.heap "jdk/internal/util/Preconditions" "SIOOBE_FORMATTER" "Ljava/util/function/BiFunction;" wf) (a t : Addr) (z0 z1 : Int32) (n i k : Nat) (f : Nat → Int32) (S : Str Z h0 a t n f) (hl : ∀ j, j < n → ¬ 255 < f j) (hn : n ≤ 4) (hik : i + k ≤ n) (hz0 : z0 = Int32.ofNat i) (hz1 : z1 = Int32.ofNat (i + k)) :
    CtW l Z consts_1 [] (⟨"java/lang/String", "substring", "(II)Ljava/lang/String;"⟩ : MethodName) jdk_42_method_92_code 5 (some (.object "java/lang/String")) (⟨4, 4, 12, 86⟩ : Room) #[(.ref a), (.int z0), (.int z1)] h0 (fun v h' => ∃ b u, v = some (.ref b) ∧ Keep h0 h' [] ∧ Str Z h' b u k (fun j => f (i + j))) := by
  refine CtW.of pn_java_lang_String (fun m => ef_sub m a z0 z1) ?_
  intro p e s m below meth c s₁ X0 ws0 C0
  have hEL := own_EW hw
  subst hz0 hz1
  obtain ⟨S5, g, A, G⟩ := S.lat hl
  by_cases hx : i = 0 ∧ k = n
  · skip
    have S' : Str Z h0 a t k (fun j => f (i + j)) := by
      obtain ⟨q1, q2⟩ := hx
      subst q2
      exact S.congr (fun j hj => by rw [q1, Nat.zero_add])
    refine Go.aloadN X0 1 dsub_0 rfl rfl ?_
    refine Go.callVP X0 4 [] [] 0 (hw _ (List.mem_of_getElem? (i := 96) rfl)) (hw _ (List.mem_of_getElem? (i := 97) rfl)) (hw _ (List.mem_of_getElem? (i := 99) rfl)) (notFace_of_selects (args := #[]) (mvT X0.hZ (hw _ (List.mem_of_getElem? (i := 99) rfl)))) (hw _ (List.mem_of_getElem? (i := 98) rfl)) (hw _ (List.mem_of_getElem? (i := 3) rfl)) (by decide) S.exa (hw _ (List.mem_of_getElem? (i := 100) rfl)) pd_13 dsub_1 (rm_len l Z a0 hw h0 cz SC hcz a t n f S) rfl rfl rfl (Nat.le_of_eq rfl) (by decide) (by decide) (by decide) (by decide) ?_
    intro T11 L11 X11
    refine Go.istoreN X11 5 #[.val (.ref a), .val (.int (Int32.ofNat i)), .val (.int (Int32.ofNat (i + k))), .val (.int (Int32.ofNat n)), .unset] dsub_4 rfl ?_
    refine Go.iloadN X11 6 dsub_5 rfl ?_
    refine Go.iloadN X11 7 dsub_6 rfl ?_
    refine Go.iloadN X11 8 dsub_7 rfl ?_
    refine Go.callS X11 11 [(.int (Int32.ofNat i)), (.int (Int32.ofNat (i + k))), (.int (Int32.ofNat n))] [] 0 (hw _ (List.mem_of_getElem? (i := 106) rfl)) (hw _ (List.mem_of_getElem? (i := 107) rfl)) (hw _ (List.mem_of_getElem? (i := 3) rfl)) (by decide) (hw _ (List.mem_of_getElem? (i := 108) rfl)) pd_14 dsub_8 (rm_cbe l Z a0 hw h0 wf hwf SF (Int32.ofNat i) (Int32.ofNat (i + k)) (Int32.ofNat n) (n_nn (by omega)) (n_nlt (by omega) (by omega)) (n_nlt (by omega) (by omega))) rfl rfl rfl (Nat.le_of_eq rfl) (by decide) (by decide) (by decide) (by decide) ?_
    rintro T12 v12 L12 X12 ⟨rfl, hh⟩
    rw [hh] at X12
    show Go p e below _ T12 m 11 #[.val (.ref a), .val (.int (Int32.ofNat i)), .val (.int (Int32.ofNat (i + k))), .val (.int (Int32.ofNat n)), .unset] []
    refine Go.iloadN X12 12 dsub_11 rfl ?_
    refine Go.if0N X12 15 dsub_12 (XT.i0_ne_f (by rw [hx.1]; rfl)) ?_
    refine Go.iloadN X12 16 dsub_15 rfl ?_
    refine Go.iloadN X12 17 dsub_16 rfl ?_
    refine Go.icmpN X12 20 dsub_17 (XT.ii_ne_f (by rw [hx.1, hx.2, Nat.zero_add])) ?_
    refine Go.aloadN X12 21 dsub_20 rfl rfl ?_
    exact Go.retA X12 rfl rfl rfl dsub_21 (X12.finW hEL ws0 C0 ⟨a, t, rfl, Keep.refl _ _, S'⟩ (by decide) (by decide))
  · by_cases hi0 : i = 0
    · skip
      refine Go.aloadN X0 1 dsub_0 rfl rfl ?_
      refine Go.callVP X0 4 [] [] 0 (hw _ (List.mem_of_getElem? (i := 96) rfl)) (hw _ (List.mem_of_getElem? (i := 97) rfl)) (hw _ (List.mem_of_getElem? (i := 99) rfl)) (notFace_of_selects (args := #[]) (mvT X0.hZ (hw _ (List.mem_of_getElem? (i := 99) rfl)))) (hw _ (List.mem_of_getElem? (i := 98) rfl)) (hw _ (List.mem_of_getElem? (i := 3) rfl)) (by decide) S.exa (hw _ (List.mem_of_getElem? (i := 100) rfl)) pd_13 dsub_1 (rm_len l Z a0 hw h0 cz SC hcz a t n f S) rfl rfl rfl (Nat.le_of_eq rfl) (by decide) (by decide) (by decide) (by decide) ?_
      intro T13 L13 X13
      refine Go.istoreN X13 5 #[.val (.ref a), .val (.int (Int32.ofNat i)), .val (.int (Int32.ofNat (i + k))), .val (.int (Int32.ofNat n)), .unset] dsub_4 rfl ?_
      refine Go.iloadN X13 6 dsub_5 rfl ?_
      refine Go.iloadN X13 7 dsub_6 rfl ?_
      refine Go.iloadN X13 8 dsub_7 rfl ?_
      refine Go.callS X13 11 [(.int (Int32.ofNat i)), (.int (Int32.ofNat (i + k))), (.int (Int32.ofNat n))] [] 0 (hw _ (List.mem_of_getElem? (i := 106) rfl)) (hw _ (List.mem_of_getElem? (i := 107) rfl)) (hw _ (List.mem_of_getElem? (i := 3) rfl)) (by decide) (hw _ (List.mem_of_getElem? (i := 108) rfl)) pd_14 dsub_8 (rm_cbe l Z a0 hw h0 wf hwf SF (Int32.ofNat i) (Int32.ofNat (i + k)) (Int32.ofNat n) (n_nn (by omega)) (n_nlt (by omega) (by omega)) (n_nlt (by omega) (by omega))) rfl rfl rfl (Nat.le_of_eq rfl) (by decide) (by decide) (by decide) (by decide) ?_
      rintro T14 v14 L14 X14 ⟨rfl, hh⟩
      rw [hh] at X14
      show Go p e below _ T14 m 11 #[.val (.ref a), .val (.int (Int32.ofNat i)), .val (.int (Int32.ofNat (i + k))), .val (.int (Int32.ofNat n)), .unset] []
      refine Go.iloadN X14 12 dsub_11 rfl ?_
      refine Go.if0N X14 15 dsub_12 (XT.i0_ne_f (by rw [hi0]; rfl)) ?_
      refine Go.iloadN X14 16 dsub_15 rfl ?_
      refine Go.iloadN X14 17 dsub_16 rfl ?_
      refine Go.icmpY X14 22 dsub_17 (XT.ii_ne_t (fun q => hx ⟨hi0, by have := n_inj (by omega) (by omega) q; omega⟩)) ?_
      refine Go.iloadN X14 23 dsub_22 rfl ?_
      refine Go.iloadN X14 24 dsub_23 rfl ?_
      refine Go.isub X14 25 dsub_24 ?_
      rw [n_sub]
      refine Go.istore X14 27 #[.val (.ref a), .val (.int (Int32.ofNat i)), .val (.int (Int32.ofNat (i + k))), .val (.int (Int32.ofNat n)), .val (.int (Int32.ofNat k))] dsub_25 rfl ?_
      refine Go.aloadN X14 28 dsub_27 rfl rfl ?_
      refine Go.callVP X14 31 [] [] 0 (hw _ (List.mem_of_getElem? (i := 114) rfl)) (hw _ (List.mem_of_getElem? (i := 115) rfl)) (hw _ (List.mem_of_getElem? (i := 117) rfl)) (notFace_of_selects (args := #[]) (mvT X14.hZ (hw _ (List.mem_of_getElem? (i := 117) rfl)))) (hw _ (List.mem_of_getElem? (i := 116) rfl)) (hw _ (List.mem_of_getElem? (i := 3) rfl)) (by decide) S.exa (hw _ (List.mem_of_getElem? (i := 118) rfl)) pd_7 dsub_28 (rm_lat l Z a0 hw h0 cz SC hcz a 0 1 S5 (Or.inl ⟨rfl, rfl⟩)) rfl rfl rfl (Nat.le_of_eq rfl) (by decide) (by decide) (by decide) (by decide) ?_
      intro T15 L15 X15
      refine Go.if0N X15 34 dsub_31 (XT.i0_eq_f (by decide)) ?_
      refine Go.aloadN X15 35 dsub_34 rfl rfl ?_
      refine Go.getF X15 38 (hw _ (List.mem_of_getElem? (i := 28) rfl)) S.2.1 dsub_35 ?_
      intro T16 X16
      refine Go.iloadN X16 39 dsub_38 rfl ?_
      refine Go.iload X16 41 dsub_39 rfl ?_
      refine Go.callSW X16 44 hEL ws0 C0.1 [(.ref t), (.int (Int32.ofNat i)), (.int (Int32.ofNat k))] [] 0 (hw _ (List.mem_of_getElem? (i := 119) rfl)) (hw _ (List.mem_of_getElem? (i := 120) rfl)) (hw _ (List.mem_of_getElem? (i := 121) rfl)) (by decide) (hw _ (List.mem_of_getElem? (i := 122) rfl)) pd_15 dsub_41 (rm_ns l Z a0 hw h0 t (Int32.ofNat i) (Int32.ofNat k) n i k f g rfl rfl A (fun j hj => ⟨S.2.2.2.1 j hj, G j hj⟩) hn hik hx) rfl rfl rfl (Nat.le_of_eq rfl) (by decide) (by decide) (by decide) (by decide) ?_
      rintro T17 v17 L17 vm17 X17 ws17 R17 ⟨b, u, rfl, hq⟩
      show Go p e below _ T17 m 44 #[.val (.ref a), .val (.int (Int32.ofNat i)), .val (.int (Int32.ofNat (i + k))), .val (.int (Int32.ofNat n)), .val (.int (Int32.ofNat k))] [(.ref b)]
      have c9 := C0.trans R17
      refine Go.goto X17 57 dsub_44 ?_
      exact Go.retA X17 rfl rfl rfl dsub_57 (X17.finW hEL ws17 c9 ⟨b, u, rfl, hq⟩ (by decide) (by decide))
    · skip
      refine Go.aloadN X0 1 dsub_0 rfl rfl ?_
      refine Go.callVP X0 4 [] [] 0 (hw _ (List.mem_of_getElem? (i := 96) rfl)) (hw _ (List.mem_of_getElem? (i := 97) rfl)) (hw _ (List.mem_of_getElem? (i := 99) rfl)) (notFace_of_selects (args := #[]) (mvT X0.hZ (hw _ (List.mem_of_getElem? (i := 99) rfl)))) (hw _ (List.mem_of_getElem? (i := 98) rfl)) (hw _ (List.mem_of_getElem? (i := 3) rfl)) (by decide) S.exa (hw _ (List.mem_of_getElem? (i := 100) rfl)) pd_13 dsub_1 (rm_len l Z a0 hw h0 cz SC hcz a t n f S) rfl rfl rfl (Nat.le_of_eq rfl) (by decide) (by decide) (by decide) (by decide) ?_
      intro T18 L18 X18
      refine Go.istoreN X18 5 #[.val (.ref a), .val (.int (Int32.ofNat i)), .val (.int (Int32.ofNat (i + k))), .val (.int (Int32.ofNat n)), .unset] dsub_4 rfl ?_
      refine Go.iloadN X18 6 dsub_5 rfl ?_
      refine Go.iloadN X18 7 dsub_6 rfl ?_
      refine Go.iloadN X18 8 dsub_7 rfl ?_
      refine Go.callS X18 11 [(.int (Int32.ofNat i)), (.int (Int32.ofNat (i + k))), (.int (Int32.ofNat n))] [] 0 (hw _ (List.mem_of_getElem? (i := 106) rfl)) (hw _ (List.mem_of_getElem? (i := 107) rfl)) (hw _ (List.mem_of_getElem? (i := 3) rfl)) (by decide) (hw _ (List.mem_of_getElem? (i := 108) rfl)) pd_14 dsub_8 (rm_cbe l Z a0 hw h0 wf hwf SF (Int32.ofNat i) (Int32.ofNat (i + k)) (Int32.ofNat n) (n_nn (by omega)) (n_nlt (by omega) (by omega)) (n_nlt (by omega) (by omega))) rfl rfl rfl (Nat.le_of_eq rfl) (by decide) (by decide) (by decide) (by decide) ?_
      rintro T19 v19 L19 X19 ⟨rfl, hh⟩
      rw [hh] at X19
      show Go p e below _ T19 m 11 #[.val (.ref a), .val (.int (Int32.ofNat i)), .val (.int (Int32.ofNat (i + k))), .val (.int (Int32.ofNat n)), .unset] []
      refine Go.iloadN X19 12 dsub_11 rfl ?_
      refine Go.if0Y X19 22 dsub_12 (XT.i0_ne_t (n_ne0 (by omega) (by omega))) ?_
      refine Go.iloadN X19 23 dsub_22 rfl ?_
      refine Go.iloadN X19 24 dsub_23 rfl ?_
      refine Go.isub X19 25 dsub_24 ?_
      rw [n_sub]
      refine Go.istore X19 27 #[.val (.ref a), .val (.int (Int32.ofNat i)), .val (.int (Int32.ofNat (i + k))), .val (.int (Int32.ofNat n)), .val (.int (Int32.ofNat k))] dsub_25 rfl ?_
      refine Go.aloadN X19 28 dsub_27 rfl rfl ?_
      refine Go.callVP X19 31 [] [] 0 (hw _ (List.mem_of_getElem? (i := 114) rfl)) (hw _ (List.mem_of_getElem? (i := 115) rfl)) (hw _ (List.mem_of_getElem? (i := 117) rfl)) (notFace_of_selects (args := #[]) (mvT X19.hZ (hw _ (List.mem_of_getElem? (i := 117) rfl)))) (hw _ (List.mem_of_getElem? (i := 116) rfl)) (hw _ (List.mem_of_getElem? (i := 3) rfl)) (by decide) S.exa (hw _ (List.mem_of_getElem? (i := 118) rfl)) pd_7 dsub_28 (rm_lat l Z a0 hw h0 cz SC hcz a 0 1 S5 (Or.inl ⟨rfl, rfl⟩)) rfl rfl rfl (Nat.le_of_eq rfl) (by decide) (by decide) (by decide) (by decide) ?_
      intro T20 L20 X20
      refine Go.if0N X20 34 dsub_31 (XT.i0_eq_f (by decide)) ?_
      refine Go.aloadN X20 35 dsub_34 rfl rfl ?_
      refine Go.getF X20 38 (hw _ (List.mem_of_getElem? (i := 28) rfl)) S.2.1 dsub_35 ?_
      intro T21 X21
      refine Go.iloadN X21 39 dsub_38 rfl ?_
      refine Go.iload X21 41 dsub_39 rfl ?_
      refine Go.callSW X21 44 hEL ws0 C0.1 [(.ref t), (.int (Int32.ofNat i)), (.int (Int32.ofNat k))] [] 0 (hw _ (List.mem_of_getElem? (i := 119) rfl)) (hw _ (List.mem_of_getElem? (i := 120) rfl)) (hw _ (List.mem_of_getElem? (i := 121) rfl)) (by decide) (hw _ (List.mem_of_getElem? (i := 122) rfl)) pd_15 dsub_41 (rm_ns l Z a0 hw h0 t (Int32.ofNat i) (Int32.ofNat k) n i k f g rfl rfl A (fun j hj => ⟨S.2.2.2.1 j hj, G j hj⟩) hn hik hx) rfl rfl rfl (Nat.le_of_eq rfl) (by decide) (by decide) (by decide) (by decide) ?_
      rintro T22 v22 L22 vm22 X22 ws22 R22 ⟨b, u, rfl, hq⟩
      show Go p e below _ T22 m 44 #[.val (.ref a), .val (.int (Int32.ofNat i)), .val (.int (Int32.ofNat (i + k))), .val (.int (Int32.ofNat n)), .val (.int (Int32.ofNat k))] [(.ref b)]
      have c9 := C0.trans R22
      refine Go.goto X22 57 dsub_44 ?_
      exact Go.retA X22 rfl rfl rfl dsub_57 (X22.finW hEL ws22 c9 ⟨b, u, rfl, hq⟩ (by decide) (by decide))
theorem pn_java_util_AbstractCollection : plainName "java/util/AbstractCollection" = true := by first | (simp [plainName, overriddenIn]; done) | decide +kernel
theorem diac_0 : decode jdk_22_method_1_code 0 = .ok (.aload_n 0, 1) := by decide +kernel
theorem diac_1 : decode jdk_22_method_1_code 1 = .ok (.invokespecial 1, 3) := by decide +kernel
theorem diac_4 : decode jdk_22_method_1_code 4 = .ok (.return_, 1) := by decide +kernel
theorem ef_iac (m : MethodId) (a : Addr) : entryFrame m #[(.ref a)] 1 = mkF m 0 #[.val (.ref a)] [] := by first | (simp [entryFrame, mkF, argsToLocals, Value.category]; done) | rfl
set_option maxRecDepth 65536 in
set_option maxHeartbeats 40000000 in
theorem rm_iac (l : Launch) (Z : State) (a0 : Array Value) (hw : ∀ d ∈ tables_1, d.before a0 Z = true) (h0 : Heap) (a : Addr) :
    Ct l Z [] (⟨"java/util/AbstractCollection", "<init>", "()V"⟩ : MethodName) jdk_22_method_1_code 1 none (⟨1, 0, 0, 12⟩ : Room) #[(.ref a)] h0 (fun v h' => v = none ∧ h' = h0) := by
  refine Ct.of pn_java_util_AbstractCollection (fun m => ef_iac m a) ?_
  intro p e s m below meth c s₁ X0
  refine Go.aloadN X0 1 diac_0 rfl rfl ?_
  refine Go.initO X0 4 (hw _ (List.mem_of_getElem? (i := 52) rfl)) (hw _ (List.mem_of_getElem? (i := 12) rfl)) (hw _ (List.mem_of_getElem? (i := 13) rfl)) 0 diac_1 rfl (by decide) (by decide) (by decide) ?_
  intro T1 X1
  exact Go.retV X1 rfl diac_4 (X1.fin ⟨rfl, rfl⟩ (by decide) (by decide))
theorem pn_java_lang_Record : plainName "java/lang/Record" = true := by first | (simp [plainName, overriddenIn]; done) | decide +kernel
theorem dirc_0 : decode jdk_30_method_1_code 0 = .ok (.aload_n 0, 1) := by decide +kernel
theorem dirc_1 : decode jdk_30_method_1_code 1 = .ok (.invokespecial 1, 3) := by decide +kernel
theorem dirc_4 : decode jdk_30_method_1_code 4 = .ok (.return_, 1) := by decide +kernel
theorem ef_irc (m : MethodId) (a : Addr) : entryFrame m #[(.ref a)] 1 = mkF m 0 #[.val (.ref a)] [] := by first | (simp [entryFrame, mkF, argsToLocals, Value.category]; done) | rfl
set_option maxRecDepth 65536 in
set_option maxHeartbeats 40000000 in
theorem rm_irc (l : Launch) (Z : State) (a0 : Array Value) (hw : ∀ d ∈ tables_1, d.before a0 Z = true) (h0 : Heap) (a : Addr) :
    Ct l Z [] (⟨"java/lang/Record", "<init>", "()V"⟩ : MethodName) jdk_30_method_1_code 1 none (⟨1, 0, 0, 12⟩ : Room) #[(.ref a)] h0 (fun v h' => v = none ∧ h' = h0) := by
  refine Ct.of pn_java_lang_Record (fun m => ef_irc m a) ?_
  intro p e s m below meth c s₁ X0
  refine Go.aloadN X0 1 dirc_0 rfl rfl ?_
  refine Go.initO X0 4 (hw _ (List.mem_of_getElem? (i := 66) rfl)) (hw _ (List.mem_of_getElem? (i := 12) rfl)) (hw _ (List.mem_of_getElem? (i := 13) rfl)) 0 dirc_1 rfl (by decide) (by decide) (by decide) ?_
  intro T1 X1
  exact Go.retV X1 rfl dirc_4 (X1.fin ⟨rfl, rfl⟩ (by decide) (by decide))
theorem pn_java_util_AbstractList : plainName "java/util/AbstractList" = true := by first | (simp [plainName, overriddenIn]; done) | decide +kernel
theorem diab_0 : decode jdk_39_method_1_code 0 = .ok (.aload_n 0, 1) := by decide +kernel
theorem diab_1 : decode jdk_39_method_1_code 1 = .ok (.invokespecial 1, 3) := by decide +kernel
theorem diab_4 : decode jdk_39_method_1_code 4 = .ok (.aload_n 0, 1) := by decide +kernel
theorem diab_5 : decode jdk_39_method_1_code 5 = .ok (.iconst 0, 1) := by decide +kernel
theorem diab_6 : decode jdk_39_method_1_code 6 = .ok (.putfield 7, 3) := by decide +kernel
theorem diab_9 : decode jdk_39_method_1_code 9 = .ok (.return_, 1) := by decide +kernel
theorem ef_iab (m : MethodId) (a : Addr) : entryFrame m #[(.ref a)] 1 = mkF m 0 #[.val (.ref a)] [] := by first | (simp [entryFrame, mkF, argsToLocals, Value.category]; done) | rfl
set_option maxRecDepth 65536 in
set_option maxHeartbeats 40000000 in
theorem rm_iab (l : Launch) (Z : State) (a0 : Array Value) (hw : ∀ d ∈ tables_1, d.before a0 Z = true) (h0 : Heap) (a : Addr) (E : Exa Z h0 a "java/util/ArrayList") (F0 : Fld Z h0 a "java/util/AbstractList" "modCount" "I" (.int 0)) (F1 : Fld Z h0 a "java/util/ArrayList" "elementData" "[Ljava/lang/Object;" .null) (na : Z.heap.size ≤ a) :
    Ct l Z [] (⟨"java/util/AbstractList", "<init>", "()V"⟩ : MethodName) jdk_39_method_1_code 1 none (⟨2, 0, 0, 24⟩ : Room) #[(.ref a)] h0 (fun v h' => v = none ∧ Keep h0 h' [a] ∧ Exa Z h' a "java/util/ArrayList" ∧ Fld Z h' a "java/util/ArrayList" "elementData" "[Ljava/lang/Object;" .null) := by
  refine Ct.of pn_java_util_AbstractList (fun m => ef_iab m a) ?_
  intro p e s m below meth c s₁ X0
  have K11 : Keep h0 h0 [a] := Keep.refl _ _
  refine Go.aloadN X0 1 diab_0 rfl rfl ?_
  refine Go.callI X0 4 [] [] 0 rfl (hw _ (List.mem_of_getElem? (i := 46) rfl)) (hw _ (List.mem_of_getElem? (i := 47) rfl)) (hw _ (List.mem_of_getElem? (i := 50) rfl)) (by decide) rfl (hw _ (List.mem_of_getElem? (i := 51) rfl)) pd_16 diab_1 (rm_iac l Z a0 hw h0 a) rfl rfl rfl (Nat.le_of_eq rfl) (by decide) (by decide) (by decide) (by decide) ?_
  rintro T12 v12 L12 X12 ⟨rfl, hh⟩
  rw [hh] at X12
  show Go p e below _ T12 m 4 #[.val (.ref a)] []
  refine Go.aloadN X12 5 diab_4 rfl rfl ?_
  refine Go.iconst X12 6 (0 : Int32) diab_5 ?_
  refine Go.putF X12 9 (hw _ (List.mem_of_getElem? (i := 53) rfl)) F0 E (Or.inl (hw _ (List.mem_of_getElem? (i := 54) rfl))) (hw _ (List.mem_of_getElem? (i := 35) rfl)) (ty := .int) (by decide) rfl rfl na diab_6 ?_
  intro T13 h13 X13 W13
  have K14 : Keep h0 h13 [a] := K11.wr W13 (Or.inl (List.mem_of_getElem? (i := 0) rfl))
  have F15 : Exa Z h13 a "java/util/ArrayList" := E.wr W13
  have F16 : Fld Z h13 a "java/util/AbstractList" "modCount" "I" (.int (0 : Int32)) := F0.same W13
  have F17 : Fld Z h13 a "java/util/ArrayList" "elementData" "[Ljava/lang/Object;" .null := F1.other W13 (Or.inr (slot_ne (Or.inl (hw _ (List.mem_of_getElem? (i := 57) rfl))) (Or.inl (hw _ (List.mem_of_getElem? (i := 54) rfl))) (by decide) (t := (.array (.object "java/lang/Object"))) (t' := .int) (by decide) (by decide)))
  exact Go.retV X13 rfl diab_9 (X13.fin ⟨rfl, K14, F15, F17⟩ (by decide) (by decide))
theorem pn_java_util_ArrayList : plainName "java/util/ArrayList" = true := by first | (simp [plainName, overriddenIn]; done) | decide +kernel
theorem dial_0 : decode jdk_38_method_2_code 0 = .ok (.aload_n 0, 1) := by decide +kernel
theorem dial_1 : decode jdk_38_method_2_code 1 = .ok (.invokespecial 1, 3) := by decide +kernel
theorem dial_4 : decode jdk_38_method_2_code 4 = .ok (.aload_n 0, 1) := by decide +kernel
theorem dial_5 : decode jdk_38_method_2_code 5 = .ok (.getstatic 39, 3) := by decide +kernel
theorem dial_8 : decode jdk_38_method_2_code 8 = .ok (.putfield 9, 3) := by decide +kernel
theorem dial_11 : decode jdk_38_method_2_code 11 = .ok (.return_, 1) := by decide +kernel
theorem ef_ial (m : MethodId) (a : Addr) : entryFrame m #[(.ref a)] 1 = mkF m 0 #[.val (.ref a)] [] := by first | (simp [entryFrame, mkF, argsToLocals, Value.category]; done) | rfl
set_option maxRecDepth 65536 in
set_option maxHeartbeats 40000000 in
theorem rm_ial (l : Launch) (Z : State) (a0 : Array Value) (hw : ∀ d ∈ tables_1, d.before a0 Z = true) (h0 : Heap) (de : Addr) (SD : Sta Z Z.heap "java/util/ArrayList" "DEFAULTCAPACITY_EMPTY_ELEMENTDATA" "[Ljava/lang/Object;" (.ref de)) (a : Addr) (E : Exa Z h0 a "java/util/ArrayList") (F0 : Fld Z h0 a "java/util/AbstractList" "modCount" "I" (.int 0)) (F1 : Fld Z h0 a "java/util/ArrayList" "elementData" "[Ljava/lang/Object;" .null) (na : Z.heap.size ≤ a) :
    Ct l Z [] (⟨"java/util/ArrayList", "<init>", "()V"⟩ : MethodName) jdk_38_method_2_code 1 none (⟨3, 0, 0, 36⟩ : Room) #[(.ref a)] h0 (fun v h' => v = none ∧ Keep h0 h' [a]) := by
  refine Ct.of pn_java_util_ArrayList (fun m => ef_ial m a) ?_
  intro p e s m below meth c s₁ X0
  have K11 : Keep h0 h0 [a] := Keep.refl _ _
  refine Go.aloadN X0 1 dial_0 rfl rfl ?_
  refine Go.callI X0 4 [] [] 0 rfl (hw _ (List.mem_of_getElem? (i := 40) rfl)) (hw _ (List.mem_of_getElem? (i := 41) rfl)) (hw _ (List.mem_of_getElem? (i := 44) rfl)) (by decide) rfl (hw _ (List.mem_of_getElem? (i := 45) rfl)) pd_16 dial_1 (rm_iab l Z a0 hw h0 a E F0 F1 na) rfl rfl rfl (Nat.le_of_eq rfl) (by decide) (by decide) (by decide) (by decide) ?_
  rintro T12 v12 L12 X12 ⟨rfl, K, E', F1'⟩
  show Go p e below _ T12 m 4 #[.val (.ref a)] []
  have K13 : Keep h0 T12.heap [a] := K11.trans K (allS (Or.inl (List.mem_of_getElem? (i := 0) rfl)) all0)
  refine Go.aloadN X12 5 dial_4 rfl rfl ?_
  refine Go.getS X12 8 (hw _ (List.mem_of_getElem? (i := 55) rfl)) SD dial_5 ?_
  intro T14 X14
  refine Go.putF X14 11 (hw _ (List.mem_of_getElem? (i := 56) rfl)) F1' E' (Or.inl (hw _ (List.mem_of_getElem? (i := 57) rfl))) (hw _ (List.mem_of_getElem? (i := 35) rfl)) (ty := (.array (.object "java/lang/Object"))) (by decide) rfl rfl na dial_8 ?_
  intro T15 h15 X15 W15
  have K16 : Keep h0 h15 [a] := K13.wr W15 (Or.inl (List.mem_of_getElem? (i := 0) rfl))
  have F17 : Exa Z h15 a "java/util/ArrayList" := E'.wr W15
  have F18 : Fld Z h15 a "java/util/ArrayList" "elementData" "[Ljava/lang/Object;" (.ref de) := F1'.same W15
  exact Go.retV X15 rfl dial_11 (X15.fin ⟨rfl, K16⟩ (by decide) (by decide))
theorem pn_com_example_adder_adder_Lexicon_Statement : plainName "com/example/adder/adder/Lexicon$Statement" = true := by first | (simp [plainName, overriddenIn]; done) | decide +kernel
theorem dist_0 : decode prog_27_method_1_code 0 = .ok (.aload_n 0, 1) := by decide +kernel
theorem dist_1 : decode prog_27_method_1_code 1 = .ok (.invokespecial 1, 3) := by decide +kernel
theorem dist_4 : decode prog_27_method_1_code 4 = .ok (.aload_n 0, 1) := by decide +kernel
theorem dist_5 : decode prog_27_method_1_code 5 = .ok (.iload_n 1, 1) := by decide +kernel
theorem dist_6 : decode prog_27_method_1_code 6 = .ok (.putfield 7, 3) := by decide +kernel
theorem dist_9 : decode prog_27_method_1_code 9 = .ok (.aload_n 0, 1) := by decide +kernel
theorem dist_10 : decode prog_27_method_1_code 10 = .ok (.iload_n 2, 1) := by decide +kernel
theorem dist_11 : decode prog_27_method_1_code 11 = .ok (.putfield 13, 3) := by decide +kernel
theorem dist_14 : decode prog_27_method_1_code 14 = .ok (.aload_n 0, 1) := by decide +kernel
theorem dist_15 : decode prog_27_method_1_code 15 = .ok (.iload_n 3, 1) := by decide +kernel
theorem dist_16 : decode prog_27_method_1_code 16 = .ok (.putfield 16, 3) := by decide +kernel
theorem dist_19 : decode prog_27_method_1_code 19 = .ok (.aload_n 0, 1) := by decide +kernel
theorem dist_20 : decode prog_27_method_1_code 20 = .ok (.aload 4, 2) := by decide +kernel
theorem dist_22 : decode prog_27_method_1_code 22 = .ok (.putfield 19, 3) := by decide +kernel
theorem dist_25 : decode prog_27_method_1_code 25 = .ok (.return_, 1) := by decide +kernel
theorem ef_ist (m : MethodId) (a : Addr) (start_ : Int32) (end_ : Int32) (line_ : Int32) (tokens_ : Addr) : entryFrame m #[(.ref a), (.int start_), (.int end_), (.int line_), (.ref tokens_)] 5 = mkF m 0 #[.val (.ref a), .val (.int start_), .val (.int end_), .val (.int line_), .val (.ref tokens_)] [] := by first | (simp [entryFrame, mkF, argsToLocals, Value.category]; done) | rfl
set_option maxRecDepth 65536 in
set_option maxHeartbeats 40000000 in
theorem rm_ist (l : Launch) (Z : State) (a0 : Array Value) (hw : ∀ d ∈ tables_1, d.before a0 Z = true) (h0 : Heap) (a : Addr) (start_ : Int32) (end_ : Int32) (line_ : Int32) (tokens_ : Addr) (E : Exa Z h0 a "com/example/adder/adder/Lexicon$Statement") (F0 : Fld Z h0 a "com/example/adder/adder/Lexicon$Statement" "start" "I" (.int 0)) (F1 : Fld Z h0 a "com/example/adder/adder/Lexicon$Statement" "end" "I" (.int 0)) (F2 : Fld Z h0 a "com/example/adder/adder/Lexicon$Statement" "line" "I" (.int 0)) (F3 : Fld Z h0 a "com/example/adder/adder/Lexicon$Statement" "tokens" "Ljava/util/List;" .null) (na : Z.heap.size ≤ a) :
    Ct l Z [] (⟨"com/example/adder/adder/Lexicon$Statement", "<init>", "(IIILjava/util/List;)V"⟩ : MethodName) prog_27_method_1_code 5 none (⟨2, 0, 0, 24⟩ : Room) #[(.ref a), (.int start_), (.int end_), (.int line_), (.ref tokens_)] h0 (fun v h' => v = none ∧ Keep h0 h' [a] ∧ Exa Z h' a "com/example/adder/adder/Lexicon$Statement" ∧ Fld Z h' a "com/example/adder/adder/Lexicon$Statement" "start" "I" (.int start_) ∧ Fld Z h' a "com/example/adder/adder/Lexicon$Statement" "end" "I" (.int end_) ∧ Fld Z h' a "com/example/adder/adder/Lexicon$Statement" "line" "I" (.int line_) ∧ Fld Z h' a "com/example/adder/adder/Lexicon$Statement" "tokens" "Ljava/util/List;" (.ref tokens_)) := by
  refine Ct.of pn_com_example_adder_adder_Lexicon_Statement (fun m => ef_ist m a start_ end_ line_ tokens_) ?_
  intro p e s m below meth c s₁ X0
  have K11 : Keep h0 h0 [a] := Keep.refl _ _
  refine Go.aloadN X0 1 dist_0 rfl rfl ?_
  refine Go.callI X0 4 [] [] 0 rfl (hw _ (List.mem_of_getElem? (i := 61) rfl)) (hw _ (List.mem_of_getElem? (i := 62) rfl)) (hw _ (List.mem_of_getElem? (i := 64) rfl)) (by decide) rfl (hw _ (List.mem_of_getElem? (i := 65) rfl)) pd_16 dist_1 (rm_irc l Z a0 hw h0 a) rfl rfl rfl (Nat.le_of_eq rfl) (by decide) (by decide) (by decide) (by decide) ?_
  rintro T12 v12 L12 X12 ⟨rfl, hh⟩
  rw [hh] at X12
  show Go p e below _ T12 m 4 #[.val (.ref a), .val (.int start_), .val (.int end_), .val (.int line_), .val (.ref tokens_)] []
  refine Go.aloadN X12 5 dist_4 rfl rfl ?_
  refine Go.iloadN X12 6 dist_5 rfl ?_
  refine Go.putF X12 9 (hw _ (List.mem_of_getElem? (i := 67) rfl)) F0 E (Or.inr ⟨(hw _ (List.mem_of_getElem? (i := 68) rfl)), rfl, rfl⟩) (hw _ (List.mem_of_getElem? (i := 32) rfl)) (ty := .int) (by decide) rfl rfl na dist_6 ?_
  intro T13 h13 X13 W13
  have K14 : Keep h0 h13 [a] := K11.wr W13 (Or.inl (List.mem_of_getElem? (i := 0) rfl))
  have F15 : Exa Z h13 a "com/example/adder/adder/Lexicon$Statement" := E.wr W13
  have F16 : Fld Z h13 a "com/example/adder/adder/Lexicon$Statement" "start" "I" (.int start_) := F0.same W13
  have F17 : Fld Z h13 a "com/example/adder/adder/Lexicon$Statement" "end" "I" (.int (0 : Int32)) := F1.other W13 (Or.inr (slot_ne (Or.inr (hw _ (List.mem_of_getElem? (i := 70) rfl))) (Or.inr (hw _ (List.mem_of_getElem? (i := 68) rfl))) (by decide) (t := .int) (t' := .int) (by decide) (by decide)))
  have F18 : Fld Z h13 a "com/example/adder/adder/Lexicon$Statement" "line" "I" (.int (0 : Int32)) := F2.other W13 (Or.inr (slot_ne (Or.inr (hw _ (List.mem_of_getElem? (i := 72) rfl))) (Or.inr (hw _ (List.mem_of_getElem? (i := 68) rfl))) (by decide) (t := .int) (t' := .int) (by decide) (by decide)))
  have F19 : Fld Z h13 a "com/example/adder/adder/Lexicon$Statement" "tokens" "Ljava/util/List;" .null := F3.other W13 (Or.inr (slot_ne (Or.inr (hw _ (List.mem_of_getElem? (i := 74) rfl))) (Or.inr (hw _ (List.mem_of_getElem? (i := 68) rfl))) (by decide) (t := (.object "java/util/List")) (t' := .int) (by decide) (by decide)))
  refine Go.aloadN X13 10 dist_9 rfl rfl ?_
  refine Go.iloadN X13 11 dist_10 rfl ?_
  refine Go.putF X13 14 (hw _ (List.mem_of_getElem? (i := 69) rfl)) F17 F15 (Or.inr ⟨(hw _ (List.mem_of_getElem? (i := 70) rfl)), rfl, rfl⟩) (hw _ (List.mem_of_getElem? (i := 32) rfl)) (ty := .int) (by decide) rfl rfl na dist_11 ?_
  intro T20 h20 X20 W20
  have K21 : Keep h0 h20 [a] := K14.wr W20 (Or.inl (List.mem_of_getElem? (i := 0) rfl))
  have F22 : Exa Z h20 a "com/example/adder/adder/Lexicon$Statement" := F15.wr W20
  have F23 : Fld Z h20 a "com/example/adder/adder/Lexicon$Statement" "start" "I" (.int start_) := F16.other W20 (Or.inr (slot_ne (Or.inr (hw _ (List.mem_of_getElem? (i := 68) rfl))) (Or.inr (hw _ (List.mem_of_getElem? (i := 70) rfl))) (by decide) (t := .int) (t' := .int) (by decide) (by decide)))
  have F24 : Fld Z h20 a "com/example/adder/adder/Lexicon$Statement" "end" "I" (.int end_) := F17.same W20
  have F25 : Fld Z h20 a "com/example/adder/adder/Lexicon$Statement" "line" "I" (.int (0 : Int32)) := F18.other W20 (Or.inr (slot_ne (Or.inr (hw _ (List.mem_of_getElem? (i := 72) rfl))) (Or.inr (hw _ (List.mem_of_getElem? (i := 70) rfl))) (by decide) (t := .int) (t' := .int) (by decide) (by decide)))
  have F26 : Fld Z h20 a "com/example/adder/adder/Lexicon$Statement" "tokens" "Ljava/util/List;" .null := F19.other W20 (Or.inr (slot_ne (Or.inr (hw _ (List.mem_of_getElem? (i := 74) rfl))) (Or.inr (hw _ (List.mem_of_getElem? (i := 70) rfl))) (by decide) (t := (.object "java/util/List")) (t' := .int) (by decide) (by decide)))
  refine Go.aloadN X20 15 dist_14 rfl rfl ?_
  refine Go.iloadN X20 16 dist_15 rfl ?_
  refine Go.putF X20 19 (hw _ (List.mem_of_getElem? (i := 71) rfl)) F25 F22 (Or.inr ⟨(hw _ (List.mem_of_getElem? (i := 72) rfl)), rfl, rfl⟩) (hw _ (List.mem_of_getElem? (i := 32) rfl)) (ty := .int) (by decide) rfl rfl na dist_16 ?_
  intro T27 h27 X27 W27
  have K28 : Keep h0 h27 [a] := K21.wr W27 (Or.inl (List.mem_of_getElem? (i := 0) rfl))
  have F29 : Exa Z h27 a "com/example/adder/adder/Lexicon$Statement" := F22.wr W27
  have F30 : Fld Z h27 a "com/example/adder/adder/Lexicon$Statement" "start" "I" (.int start_) := F23.other W27 (Or.inr (slot_ne (Or.inr (hw _ (List.mem_of_getElem? (i := 68) rfl))) (Or.inr (hw _ (List.mem_of_getElem? (i := 72) rfl))) (by decide) (t := .int) (t' := .int) (by decide) (by decide)))
  have F31 : Fld Z h27 a "com/example/adder/adder/Lexicon$Statement" "end" "I" (.int end_) := F24.other W27 (Or.inr (slot_ne (Or.inr (hw _ (List.mem_of_getElem? (i := 70) rfl))) (Or.inr (hw _ (List.mem_of_getElem? (i := 72) rfl))) (by decide) (t := .int) (t' := .int) (by decide) (by decide)))
  have F32 : Fld Z h27 a "com/example/adder/adder/Lexicon$Statement" "line" "I" (.int line_) := F25.same W27
  have F33 : Fld Z h27 a "com/example/adder/adder/Lexicon$Statement" "tokens" "Ljava/util/List;" .null := F26.other W27 (Or.inr (slot_ne (Or.inr (hw _ (List.mem_of_getElem? (i := 74) rfl))) (Or.inr (hw _ (List.mem_of_getElem? (i := 72) rfl))) (by decide) (t := (.object "java/util/List")) (t' := .int) (by decide) (by decide)))
  refine Go.aloadN X27 20 dist_19 rfl rfl ?_
  refine Go.aload X27 22 dist_20 rfl rfl ?_
  refine Go.putF X27 25 (hw _ (List.mem_of_getElem? (i := 73) rfl)) F33 F29 (Or.inr ⟨(hw _ (List.mem_of_getElem? (i := 74) rfl)), rfl, rfl⟩) (hw _ (List.mem_of_getElem? (i := 32) rfl)) (ty := (.object "java/util/List")) (by decide) rfl rfl na dist_22 ?_
  intro T34 h34 X34 W34
  have K35 : Keep h0 h34 [a] := K28.wr W34 (Or.inl (List.mem_of_getElem? (i := 0) rfl))
  have F36 : Exa Z h34 a "com/example/adder/adder/Lexicon$Statement" := F29.wr W34
  have F37 : Fld Z h34 a "com/example/adder/adder/Lexicon$Statement" "start" "I" (.int start_) := F30.other W34 (Or.inr (slot_ne (Or.inr (hw _ (List.mem_of_getElem? (i := 68) rfl))) (Or.inr (hw _ (List.mem_of_getElem? (i := 74) rfl))) (by decide) (t := .int) (t' := (.object "java/util/List")) (by decide) (by decide)))
  have F38 : Fld Z h34 a "com/example/adder/adder/Lexicon$Statement" "end" "I" (.int end_) := F31.other W34 (Or.inr (slot_ne (Or.inr (hw _ (List.mem_of_getElem? (i := 70) rfl))) (Or.inr (hw _ (List.mem_of_getElem? (i := 74) rfl))) (by decide) (t := .int) (t' := (.object "java/util/List")) (by decide) (by decide)))
  have F39 : Fld Z h34 a "com/example/adder/adder/Lexicon$Statement" "line" "I" (.int line_) := F32.other W34 (Or.inr (slot_ne (Or.inr (hw _ (List.mem_of_getElem? (i := 72) rfl))) (Or.inr (hw _ (List.mem_of_getElem? (i := 74) rfl))) (by decide) (t := .int) (t' := (.object "java/util/List")) (by decide) (by decide)))
  have F40 : Fld Z h34 a "com/example/adder/adder/Lexicon$Statement" "tokens" "Ljava/util/List;" (.ref tokens_) := F33.same W34
  exact Go.retV X34 rfl dist_25 (X34.fin ⟨rfl, K35, F36, F37, F38, F39, F40⟩ (by decide) (by decide))
theorem pn_com_example_adder_adder_SqlPiece : plainName "com/example/adder/adder/SqlPiece" = true := by first | (simp [plainName, overriddenIn]; done) | decide +kernel
theorem disp_0 : decode prog_41_method_1_code 0 = .ok (.aload_n 0, 1) := by decide +kernel
theorem disp_1 : decode prog_41_method_1_code 1 = .ok (.invokespecial 1, 3) := by decide +kernel
theorem disp_4 : decode prog_41_method_1_code 4 = .ok (.aload_n 0, 1) := by decide +kernel
theorem disp_5 : decode prog_41_method_1_code 5 = .ok (.aload_n 1, 1) := by decide +kernel
theorem disp_6 : decode prog_41_method_1_code 6 = .ok (.putfield 7, 3) := by decide +kernel
theorem disp_9 : decode prog_41_method_1_code 9 = .ok (.aload_n 0, 1) := by decide +kernel
theorem disp_10 : decode prog_41_method_1_code 10 = .ok (.iload_n 2, 1) := by decide +kernel
theorem disp_11 : decode prog_41_method_1_code 11 = .ok (.putfield 13, 3) := by decide +kernel
theorem disp_14 : decode prog_41_method_1_code 14 = .ok (.return_, 1) := by decide +kernel
theorem ef_isp (m : MethodId) (a : Addr) (sql_ : Addr) (line_ : Int32) : entryFrame m #[(.ref a), (.ref sql_), (.int line_)] 3 = mkF m 0 #[.val (.ref a), .val (.ref sql_), .val (.int line_)] [] := by first | (simp [entryFrame, mkF, argsToLocals, Value.category]; done) | rfl
set_option maxRecDepth 65536 in
set_option maxHeartbeats 40000000 in
theorem rm_isp (l : Launch) (Z : State) (a0 : Array Value) (hw : ∀ d ∈ tables_1, d.before a0 Z = true) (h0 : Heap) (a : Addr) (sql_ : Addr) (line_ : Int32) (E : Exa Z h0 a "com/example/adder/adder/SqlPiece") (F0 : Fld Z h0 a "com/example/adder/adder/SqlPiece" "sql" "Ljava/lang/String;" .null) (F1 : Fld Z h0 a "com/example/adder/adder/SqlPiece" "line" "I" (.int 0)) (na : Z.heap.size ≤ a) :
    Ct l Z [] (⟨"com/example/adder/adder/SqlPiece", "<init>", "(Ljava/lang/String;I)V"⟩ : MethodName) prog_41_method_1_code 3 none (⟨2, 0, 0, 24⟩ : Room) #[(.ref a), (.ref sql_), (.int line_)] h0 (fun v h' => v = none ∧ Keep h0 h' [a] ∧ Exa Z h' a "com/example/adder/adder/SqlPiece" ∧ Fld Z h' a "com/example/adder/adder/SqlPiece" "sql" "Ljava/lang/String;" (.ref sql_) ∧ Fld Z h' a "com/example/adder/adder/SqlPiece" "line" "I" (.int line_)) := by
  refine Ct.of pn_com_example_adder_adder_SqlPiece (fun m => ef_isp m a sql_ line_) ?_
  intro p e s m below meth c s₁ X0
  have K11 : Keep h0 h0 [a] := Keep.refl _ _
  refine Go.aloadN X0 1 disp_0 rfl rfl ?_
  refine Go.callI X0 4 [] [] 0 rfl (hw _ (List.mem_of_getElem? (i := 134) rfl)) (hw _ (List.mem_of_getElem? (i := 62) rfl)) (hw _ (List.mem_of_getElem? (i := 64) rfl)) (by decide) rfl (hw _ (List.mem_of_getElem? (i := 65) rfl)) pd_16 disp_1 (rm_irc l Z a0 hw h0 a) rfl rfl rfl (Nat.le_of_eq rfl) (by decide) (by decide) (by decide) (by decide) ?_
  rintro T12 v12 L12 X12 ⟨rfl, hh⟩
  rw [hh] at X12
  show Go p e below _ T12 m 4 #[.val (.ref a), .val (.ref sql_), .val (.int line_)] []
  refine Go.aloadN X12 5 disp_4 rfl rfl ?_
  refine Go.aloadN X12 6 disp_5 rfl rfl ?_
  refine Go.putF X12 9 (hw _ (List.mem_of_getElem? (i := 135) rfl)) F0 E (Or.inr ⟨(hw _ (List.mem_of_getElem? (i := 136) rfl)), rfl, rfl⟩) (hw _ (List.mem_of_getElem? (i := 80) rfl)) (ty := (.object "java/lang/String")) (by decide) rfl rfl na disp_6 ?_
  intro T13 h13 X13 W13
  have K14 : Keep h0 h13 [a] := K11.wr W13 (Or.inl (List.mem_of_getElem? (i := 0) rfl))
  have F15 : Exa Z h13 a "com/example/adder/adder/SqlPiece" := E.wr W13
  have F16 : Fld Z h13 a "com/example/adder/adder/SqlPiece" "sql" "Ljava/lang/String;" (.ref sql_) := F0.same W13
  have F17 : Fld Z h13 a "com/example/adder/adder/SqlPiece" "line" "I" (.int (0 : Int32)) := F1.other W13 (Or.inr (slot_ne (Or.inr (hw _ (List.mem_of_getElem? (i := 138) rfl))) (Or.inr (hw _ (List.mem_of_getElem? (i := 136) rfl))) (by decide) (t := .int) (t' := (.object "java/lang/String")) (by decide) (by decide)))
  refine Go.aloadN X13 10 disp_9 rfl rfl ?_
  refine Go.iloadN X13 11 disp_10 rfl ?_
  refine Go.putF X13 14 (hw _ (List.mem_of_getElem? (i := 137) rfl)) F17 F15 (Or.inr ⟨(hw _ (List.mem_of_getElem? (i := 138) rfl)), rfl, rfl⟩) (hw _ (List.mem_of_getElem? (i := 80) rfl)) (ty := .int) (by decide) rfl rfl na disp_11 ?_
  intro T18 h18 X18 W18
  have K19 : Keep h0 h18 [a] := K14.wr W18 (Or.inl (List.mem_of_getElem? (i := 0) rfl))
  have F20 : Exa Z h18 a "com/example/adder/adder/SqlPiece" := F15.wr W18
  have F21 : Fld Z h18 a "com/example/adder/adder/SqlPiece" "sql" "Ljava/lang/String;" (.ref sql_) := F16.other W18 (Or.inr (slot_ne (Or.inr (hw _ (List.mem_of_getElem? (i := 136) rfl))) (Or.inr (hw _ (List.mem_of_getElem? (i := 138) rfl))) (by decide) (t := (.object "java/lang/String")) (t' := .int) (by decide) (by decide)))
  have F22 : Fld Z h18 a "com/example/adder/adder/SqlPiece" "line" "I" (.int line_) := F17.same W18
  exact Go.retV X18 rfl disp_14 (X18.fin ⟨rfl, K19, F20, F21, F22⟩ (by decide) (by decide))
theorem dgs_0 : decode prog_27_method_7_code 0 = .ok (.aload_n 0, 1) := by decide +kernel
theorem dgs_1 : decode prog_27_method_7_code 1 = .ok (.getfield 7, 3) := by decide +kernel
theorem dgs_4 : decode prog_27_method_7_code 4 = .ok (.ireturn, 1) := by decide +kernel
theorem ef_gs (m : MethodId) (a : Addr) : entryFrame m #[(.ref a)] 1 = mkF m 0 #[.val (.ref a)] [] := by first | (simp [entryFrame, mkF, argsToLocals, Value.category]; done) | rfl
set_option maxRecDepth 65536 in
set_option maxHeartbeats 40000000 in
theorem rm_gs (l : Launch) (Z : State) (a0 : Array Value) (hw : ∀ d ∈ tables_1, d.before a0 Z = true) (h0 : Heap) (a : Addr) (y : Int32) (F : Fld Z h0 a "com/example/adder/adder/Lexicon$Statement" "start" "I" (.int y)) :
    Ct l Z [] (⟨"com/example/adder/adder/Lexicon$Statement", "start", "()I"⟩ : MethodName) prog_27_method_7_code 1 (some .int) (⟨0, 0, 0, 0⟩ : Room) #[(.ref a)] h0 (Pu h0 (.int y)) := by
  refine Ct.of pn_com_example_adder_adder_Lexicon_Statement (fun m => ef_gs m a) ?_
  intro p e s m below meth c s₁ X0
  refine Go.aloadN X0 1 dgs_0 rfl rfl ?_
  refine Go.getF X0 4 (hw _ (List.mem_of_getElem? (i := 67) rfl)) F dgs_1 ?_
  intro T1 X1
  exact Go.retI X1 rfl (by simp) rfl dgs_4 (X1.fin ⟨rfl, rfl⟩ (by decide) (by decide))
theorem dge_0 : decode prog_27_method_8_code 0 = .ok (.aload_n 0, 1) := by decide +kernel
theorem dge_1 : decode prog_27_method_8_code 1 = .ok (.getfield 13, 3) := by decide +kernel
theorem dge_4 : decode prog_27_method_8_code 4 = .ok (.ireturn, 1) := by decide +kernel
theorem ef_ge (m : MethodId) (a : Addr) : entryFrame m #[(.ref a)] 1 = mkF m 0 #[.val (.ref a)] [] := by first | (simp [entryFrame, mkF, argsToLocals, Value.category]; done) | rfl
set_option maxRecDepth 65536 in
set_option maxHeartbeats 40000000 in
theorem rm_ge (l : Launch) (Z : State) (a0 : Array Value) (hw : ∀ d ∈ tables_1, d.before a0 Z = true) (h0 : Heap) (a : Addr) (y : Int32) (F : Fld Z h0 a "com/example/adder/adder/Lexicon$Statement" "end" "I" (.int y)) :
    Ct l Z [] (⟨"com/example/adder/adder/Lexicon$Statement", "end", "()I"⟩ : MethodName) prog_27_method_8_code 1 (some .int) (⟨0, 0, 0, 0⟩ : Room) #[(.ref a)] h0 (Pu h0 (.int y)) := by
  refine Ct.of pn_com_example_adder_adder_Lexicon_Statement (fun m => ef_ge m a) ?_
  intro p e s m below meth c s₁ X0
  refine Go.aloadN X0 1 dge_0 rfl rfl ?_
  refine Go.getF X0 4 (hw _ (List.mem_of_getElem? (i := 69) rfl)) F dge_1 ?_
  intro T1 X1
  exact Go.retI X1 rfl (by simp) rfl dge_4 (X1.fin ⟨rfl, rfl⟩ (by decide) (by decide))
theorem dgl_0 : decode prog_27_method_9_code 0 = .ok (.aload_n 0, 1) := by decide +kernel
theorem dgl_1 : decode prog_27_method_9_code 1 = .ok (.getfield 16, 3) := by decide +kernel
theorem dgl_4 : decode prog_27_method_9_code 4 = .ok (.ireturn, 1) := by decide +kernel
theorem ef_gl (m : MethodId) (a : Addr) : entryFrame m #[(.ref a)] 1 = mkF m 0 #[.val (.ref a)] [] := by first | (simp [entryFrame, mkF, argsToLocals, Value.category]; done) | rfl
set_option maxRecDepth 65536 in
set_option maxHeartbeats 40000000 in
theorem rm_gl (l : Launch) (Z : State) (a0 : Array Value) (hw : ∀ d ∈ tables_1, d.before a0 Z = true) (h0 : Heap) (a : Addr) (y : Int32) (F : Fld Z h0 a "com/example/adder/adder/Lexicon$Statement" "line" "I" (.int y)) :
    Ct l Z [] (⟨"com/example/adder/adder/Lexicon$Statement", "line", "()I"⟩ : MethodName) prog_27_method_9_code 1 (some .int) (⟨0, 0, 0, 0⟩ : Room) #[(.ref a)] h0 (Pu h0 (.int y)) := by
  refine Ct.of pn_com_example_adder_adder_Lexicon_Statement (fun m => ef_gl m a) ?_
  intro p e s m below meth c s₁ X0
  refine Go.aloadN X0 1 dgl_0 rfl rfl ?_
  refine Go.getF X0 4 (hw _ (List.mem_of_getElem? (i := 71) rfl)) F dgl_1 ?_
  intro T1 X1
  exact Go.retI X1 rfl (by simp) rfl dgl_4 (X1.fin ⟨rfl, rfl⟩ (by decide) (by decide))
theorem dpq_0 : decode prog_41_method_6_code 0 = .ok (.aload_n 0, 1) := by decide +kernel
theorem dpq_1 : decode prog_41_method_6_code 1 = .ok (.getfield 7, 3) := by decide +kernel
theorem dpq_4 : decode prog_41_method_6_code 4 = .ok (.areturn, 1) := by decide +kernel
theorem ef_pq (m : MethodId) (a : Addr) : entryFrame m #[(.ref a)] 1 = mkF m 0 #[.val (.ref a)] [] := by first | (simp [entryFrame, mkF, argsToLocals, Value.category]; done) | rfl
set_option maxRecDepth 65536 in
set_option maxHeartbeats 40000000 in
theorem rm_pq (l : Launch) (Z : State) (a0 : Array Value) (hw : ∀ d ∈ tables_1, d.before a0 Z = true) (h0 : Heap) (a : Addr) (y : Addr) (F : Fld Z h0 a "com/example/adder/adder/SqlPiece" "sql" "Ljava/lang/String;" (.ref y)) :
    Ct l Z [] (⟨"com/example/adder/adder/SqlPiece", "sql", "()Ljava/lang/String;"⟩ : MethodName) prog_41_method_6_code 1 (some (.object "java/lang/String")) (⟨0, 0, 0, 0⟩ : Room) #[(.ref a)] h0 (Pu h0 (.ref y)) := by
  refine Ct.of pn_com_example_adder_adder_SqlPiece (fun m => ef_pq m a) ?_
  intro p e s m below meth c s₁ X0
  refine Go.aloadN X0 1 dpq_0 rfl rfl ?_
  refine Go.getF X0 4 (hw _ (List.mem_of_getElem? (i := 135) rfl)) F dpq_1 ?_
  intro T1 X1
  exact Go.retA X1 rfl rfl rfl dpq_4 (X1.fin ⟨rfl, rfl⟩ (by decide) (by decide))
theorem dpl_0 : decode prog_41_method_7_code 0 = .ok (.aload_n 0, 1) := by decide +kernel
theorem dpl_1 : decode prog_41_method_7_code 1 = .ok (.getfield 13, 3) := by decide +kernel
theorem dpl_4 : decode prog_41_method_7_code 4 = .ok (.ireturn, 1) := by decide +kernel
theorem ef_pl (m : MethodId) (a : Addr) : entryFrame m #[(.ref a)] 1 = mkF m 0 #[.val (.ref a)] [] := by first | (simp [entryFrame, mkF, argsToLocals, Value.category]; done) | rfl
set_option maxRecDepth 65536 in
set_option maxHeartbeats 40000000 in
theorem rm_pl (l : Launch) (Z : State) (a0 : Array Value) (hw : ∀ d ∈ tables_1, d.before a0 Z = true) (h0 : Heap) (a : Addr) (y : Int32) (F : Fld Z h0 a "com/example/adder/adder/SqlPiece" "line" "I" (.int y)) :
    Ct l Z [] (⟨"com/example/adder/adder/SqlPiece", "line", "()I"⟩ : MethodName) prog_41_method_7_code 1 (some .int) (⟨0, 0, 0, 0⟩ : Room) #[(.ref a)] h0 (Pu h0 (.int y)) := by
  refine Ct.of pn_com_example_adder_adder_SqlPiece (fun m => ef_pl m a) ?_
  intro p e s m below meth c s₁ X0
  refine Go.aloadN X0 1 dpl_0 rfl rfl ?_
  refine Go.getF X0 4 (hw _ (List.mem_of_getElem? (i := 137) rfl)) F dpl_1 ?_
  intro T1 X1
  exact Go.retI X1 rfl (by simp) rfl dpl_4 (X1.fin ⟨rfl, rfl⟩ (by decide) (by decide))
theorem dof_0 : decode prog_41_method_2_code 0 = .ok (.new 8, 3) := by decide +kernel
theorem dof_3 : decode prog_41_method_2_code 3 = .ok (.dup, 1) := by decide +kernel
theorem dof_4 : decode prog_41_method_2_code 4 = .ok (.aload_n 0, 1) := by decide +kernel
theorem dof_5 : decode prog_41_method_2_code 5 = .ok (.aload_n 1, 1) := by decide +kernel
theorem dof_6 : decode prog_41_method_2_code 6 = .ok (.invokevirtual 17, 3) := by decide +kernel
theorem dof_9 : decode prog_41_method_2_code 9 = .ok (.aload_n 1, 1) := by decide +kernel
theorem dof_10 : decode prog_41_method_2_code 10 = .ok (.invokevirtual 23, 3) := by decide +kernel
theorem dof_13 : decode prog_41_method_2_code 13 = .ok (.invokevirtual 26, 3) := by decide +kernel
theorem dof_16 : decode prog_41_method_2_code 16 = .ok (.aload_n 1, 1) := by decide +kernel
theorem dof_17 : decode prog_41_method_2_code 17 = .ok (.invokevirtual 32, 3) := by decide +kernel
theorem dof_20 : decode prog_41_method_2_code 20 = .ok (.invokespecial 34, 3) := by decide +kernel
theorem dof_23 : decode prog_41_method_2_code 23 = .ok (.areturn, 1) := by decide +kernel
theorem ef_of (m : MethodId) (a : Addr) (q : Addr) : entryFrame m #[(.ref a), (.ref q)] 2 = mkF m 0 #[.val (.ref a), .val (.ref q)] [] := by first | (simp [entryFrame, mkF, argsToLocals, Value.category]; done) | rfl
set_option maxRecDepth 65536 in
set_option maxHeartbeats 40000000 in
theorem rm_of (l : Launch) (Z : State) (a0 : Array Value) (hw : ∀ d ∈ tables_1, d.before a0 Z = true) (h0 : Heap) (cz : Int32) (SC : Sta Z Z.heap "java/lang/String" "COMPACT_STRINGS" "Z" (.int cz)) (hcz : ¬ cz = 0) (wf : Value) (hwf : wf.isRef = true) (SF : Sta Z Z.heap "jdk/internal/util/Preconditions" "SIOOBE_FORMATTER" "Ljava/util/function/BiFunction;" wf) (a t q : Addr) (ln : Int32) (n i k : Nat) (f : Nat → Int32) (S : Str Z h0 a t n f) (hl : ∀ j, j < n → ¬ 255 < f j) (hn : n ≤ 4) (hik : i + k ≤ n) (EQ : Exa Z h0 q "com/example/adder/adder/Lexicon$Statement") (Q0 : Fld Z h0 q "com/example/adder/adder/Lexicon$Statement" "start" "I" (.int (Int32.ofNat i))) (Q1 : Fld Z h0 q "com/example/adder/adder/Lexicon$Statement" "end" "I" (.int (Int32.ofNat (i + k)))) (Q2 : Fld Z h0 q "com/example/adder/adder/Lexicon$Statement" "line" "I" (.int ln)) :
    CtW l Z consts_1 [] (⟨"com/example/adder/adder/SqlPiece", "of", "(Ljava/lang/String;Lcom/example/adder/adder/Lexicon$Statement;)Lcom/example/adder/adder/SqlPiece;"⟩ : MethodName) prog_41_method_2_code 2 (some (.object "com/example/adder/adder/SqlPiece")) (⟨5, 5, 14, 104⟩ : Room) #[(.ref a), (.ref q)] h0 (fun v h' => ∃ r b u, v = some (.ref r) ∧ Keep h0 h' [] ∧ Exa Z h' r "com/example/adder/adder/SqlPiece" ∧ Fld Z h' r "com/example/adder/adder/SqlPiece" "sql" "Ljava/lang/String;" (.ref b) ∧ Fld Z h' r "com/example/adder/adder/SqlPiece" "line" "I" (.int ln) ∧ Str Z h' b u k (fun j => f (i + j))) := by
  refine CtW.of pn_com_example_adder_adder_SqlPiece (fun m => ef_of m a q) ?_
  intro p e s m below meth c s₁ X0 ws0 C0
  have hEL := own_EW hw
  have K11 : Keep h0 h0 [] := Keep.refl _ _
  refine Go.newO X0 3 (hw _ (List.mem_of_getElem? (i := 79) rfl)) (hw _ (List.mem_of_getElem? (i := 80) rfl)) (hw _ (List.mem_of_getElem? (i := 77) rfl)) dof_0 (by decide) (by decide) ?_
  intro T12 h12 a12 X12 E12 g12 A12 D12
  have nw_a12 : Z.heap.size ≤ a12 := by rw [← g12]; exact X0.le
  have si_a12 : h0.size ≤ a12 := by rw [← g12]; exact K11.1
  have ne_a_a12 : a ≠ a12 := by rw [← g12]; exact Nat.ne_of_lt S.lt
  have ne_t_a12 : t ≠ a12 := by rw [← g12]; exact Nat.ne_of_lt S.ltT
  have ne_q_a12 : q ≠ a12 := by rw [← g12]; exact Nat.ne_of_lt EQ.lt
  have ws13 : WS s s.vm h12 := ws0.le E12.1
  have K14 : Keep h0 h12 [] := K11.ext E12
  have F15 : Str Z h12 a t n f := S.ext E12
  have F16 : Exa Z h12 q "com/example/adder/adder/Lexicon$Statement" := EQ.ext E12
  have F17 : Fld Z h12 q "com/example/adder/adder/Lexicon$Statement" "start" "I" (.int (Int32.ofNat i)) := Q0.ext E12
  have F18 : Fld Z h12 q "com/example/adder/adder/Lexicon$Statement" "end" "I" (.int (Int32.ofNat (i + k))) := Q1.ext E12
  have F19 : Fld Z h12 q "com/example/adder/adder/Lexicon$Statement" "line" "I" (.int ln) := Q2.ext E12
  have F20 : Fld Z h12 a12 "com/example/adder/adder/SqlPiece" "sql" "Ljava/lang/String;" .null := D12 (Or.inr (hw _ (List.mem_of_getElem? (i := 136) rfl))) (ty := (.object "java/lang/String")) (by decide)
  have F21 : Fld Z h12 a12 "com/example/adder/adder/SqlPiece" "line" "I" (.int (0 : Int32)) := D12 (Or.inr (hw _ (List.mem_of_getElem? (i := 138) rfl))) (ty := .int) (by decide)
  have cn12 := C0.trans (CHr.ext E12 C0.1)
  refine Go.dup X12 4 dof_3 rfl ?_
  refine Go.aloadN X12 5 dof_4 rfl rfl ?_
  refine Go.aloadN X12 6 dof_5 rfl rfl ?_
  refine Go.callVP X12 9 [] [(.ref a), (.ref a12), (.ref a12)] 3 (hw _ (List.mem_of_getElem? (i := 81) rfl)) (hw _ (List.mem_of_getElem? (i := 82) rfl)) (hw _ (List.mem_of_getElem? (i := 84) rfl)) (notFace_of_selects (args := #[]) (mvT X12.hZ (hw _ (List.mem_of_getElem? (i := 84) rfl)))) (hw _ (List.mem_of_getElem? (i := 83) rfl)) (hw _ (List.mem_of_getElem? (i := 33) rfl)) (by decide) F16 (hw _ (List.mem_of_getElem? (i := 85) rfl)) pd_13 dof_6 (rm_gs l Z a0 hw h12 q (Int32.ofNat i) F17) rfl rfl rfl (Nat.le_of_eq rfl) (by decide) (by decide) (by decide) (by decide) ?_
  intro T22 L22 X22
  refine Go.aloadN X22 10 dof_9 rfl rfl ?_
  refine Go.callVP X22 13 [] [(.int (Int32.ofNat i)), (.ref a), (.ref a12), (.ref a12)] 4 (hw _ (List.mem_of_getElem? (i := 86) rfl)) (hw _ (List.mem_of_getElem? (i := 87) rfl)) (hw _ (List.mem_of_getElem? (i := 89) rfl)) (notFace_of_selects (args := #[]) (mvT X22.hZ (hw _ (List.mem_of_getElem? (i := 89) rfl)))) (hw _ (List.mem_of_getElem? (i := 88) rfl)) (hw _ (List.mem_of_getElem? (i := 33) rfl)) (by decide) F16 (hw _ (List.mem_of_getElem? (i := 90) rfl)) pd_13 dof_10 (rm_ge l Z a0 hw h12 q (Int32.ofNat (i + k)) F18) rfl rfl rfl (Nat.le_of_eq rfl) (by decide) (by decide) (by decide) (by decide) ?_
  intro T23 L23 X23
  refine Go.callVW X23 16 hEL ws13 cn12.1 [(.int (Int32.ofNat i)), (.int (Int32.ofNat (i + k)))] [(.ref a12), (.ref a12)] 2 (hw _ (List.mem_of_getElem? (i := 91) rfl)) (hw _ (List.mem_of_getElem? (i := 92) rfl)) (hw _ (List.mem_of_getElem? (i := 94) rfl)) (hw _ (List.mem_of_getElem? (i := 93) rfl)) (hw _ (List.mem_of_getElem? (i := 3) rfl)) (by decide) F15.exa (hw _ (List.mem_of_getElem? (i := 95) rfl)) pd_17 dof_13 (rm_sub l Z a0 hw h12 cz SC hcz wf hwf SF a t (Int32.ofNat i) (Int32.ofNat (i + k)) n i k f F15 hl hn hik rfl rfl) rfl rfl rfl (Nat.le_of_eq rfl) (by decide) (by decide) (by decide) (by decide) ?_
  rintro T24 v24 L24 vm24 X24 ws24 R24 ⟨b, u, rfl, Kb, Sb⟩
  show Go p e below _ T24 m 16 #[.val (.ref a), .val (.ref q)] [(.ref b), (.ref a12), (.ref a12)]
  have c8 := cn12.trans R24
  have K25 : Keep h0 T24.heap [] := K14.trans Kb all0
  have F26 : Str Z T24.heap a t n f := F15.keep Kb nin0 nin0
  have F27 : Exa Z T24.heap q "com/example/adder/adder/Lexicon$Statement" := F16.keep Kb
  have F28 : Fld Z T24.heap q "com/example/adder/adder/Lexicon$Statement" "start" "I" (.int (Int32.ofNat i)) := F17.keep Kb nin0
  have F29 : Fld Z T24.heap q "com/example/adder/adder/Lexicon$Statement" "end" "I" (.int (Int32.ofNat (i + k))) := F18.keep Kb nin0
  have F30 : Fld Z T24.heap q "com/example/adder/adder/Lexicon$Statement" "line" "I" (.int ln) := F19.keep Kb nin0
  have F31 : Exa Z T24.heap a12 "com/example/adder/adder/SqlPiece" := A12.keep Kb
  have F32 : Fld Z T24.heap a12 "com/example/adder/adder/SqlPiece" "sql" "Ljava/lang/String;" .null := F20.keep Kb nin0
  have F33 : Fld Z T24.heap a12 "com/example/adder/adder/SqlPiece" "line" "I" (.int (0 : Int32)) := F21.keep Kb nin0
  have neb := own_neS Sb F31 (hw _ (List.mem_of_getElem? (i := 80) rfl)) (by decide)
  refine Go.aloadN X24 17 dof_16 rfl rfl ?_
  refine Go.callVP X24 20 [] [(.ref b), (.ref a12), (.ref a12)] 3 (hw _ (List.mem_of_getElem? (i := 126) rfl)) (hw _ (List.mem_of_getElem? (i := 127) rfl)) (hw _ (List.mem_of_getElem? (i := 129) rfl)) (notFace_of_selects (args := #[]) (mvT X24.hZ (hw _ (List.mem_of_getElem? (i := 129) rfl)))) (hw _ (List.mem_of_getElem? (i := 128) rfl)) (hw _ (List.mem_of_getElem? (i := 33) rfl)) (by decide) F27 (hw _ (List.mem_of_getElem? (i := 130) rfl)) pd_13 dof_17 (rm_gl l Z a0 hw T24.heap q ln F30) rfl rfl rfl (Nat.le_of_eq rfl) (by decide) (by decide) (by decide) (by decide) ?_
  intro T34 L34 X34
  have sfA : Safe Z consts_1 vm24 T24.heap a12 := Safe.exa X34.hZ.alike F31 (by decide) (by decide)
  refine Go.callI X34 23 [(.ref b), (.int ln)] [(.ref a12)] 1 rfl (hw _ (List.mem_of_getElem? (i := 131) rfl)) (hw _ (List.mem_of_getElem? (i := 132) rfl)) (hw _ (List.mem_of_getElem? (i := 77) rfl)) (by decide) rfl (hw _ (List.mem_of_getElem? (i := 133) rfl)) pd_18 dof_20 (rm_isp l Z a0 hw T24.heap a12 b ln F31 F32 F33 nw_a12) rfl rfl rfl (Nat.le_of_eq rfl) (by decide) (by decide) (by decide) (by decide) ?_
  rintro T35 v35 L35 X35 ⟨rfl, K, E9, G0, G1⟩
  show Go p e below _ T35 m 23 #[.val (.ref a), .val (.ref q)] [(.ref a12)]
  have c9 := c8.trans (CHr.keep K (allS sfA all0) c8.1)
  have ws36 : WS s vm24 T35.heap := ws24.le K.1
  have K37 : Keep h0 T35.heap [] := K25.trans K (allS (Or.inr si_a12) all0)
  have F38 : Str Z T35.heap b u k (fun j => f (i + j)) := Sb.keep K (ninS neb.1 nin0) (ninS neb.2 nin0)
  exact Go.retA X35 rfl rfl rfl dof_23 (X35.finW hEL ws36 c9 ⟨_, b, u, rfl, K37, E9, G0, G1, F38⟩ (by decide) (by decide))
theorem pn_com_example_adder_adder_SqlPieceOfPinLaw : plainName "com/example/adder/adder/SqlPieceOfPinLaw" = true := by first | (simp [plainName, overriddenIn]; done) | decide +kernel
theorem dat_0 : decode method_2_code 0 = .ok (.iload_n 1, 1) := by decide +kernel
theorem dat_1 : decode method_2_code 1 = .ok (.iload_n 2, 1) := by decide +kernel
theorem dat_2 : decode method_2_code 2 = .ok (.if_icmp .ge 17, 3) := by decide +kernel
theorem dat_5 : decode method_2_code 5 = .ok (.aload_n 0, 1) := by decide +kernel
theorem dat_6 : decode method_2_code 6 = .ok (.iload_n 1, 1) := by decide +kernel
theorem dat_7 : decode method_2_code 7 = .ok (.invokevirtual 7, 3) := by decide +kernel
theorem dat_10 : decode method_2_code 10 = .ok (.aload_n 3, 1) := by decide +kernel
theorem dat_11 : decode method_2_code 11 = .ok (.iload 4, 2) := by decide +kernel
theorem dat_13 : decode method_2_code 13 = .ok (.iload_n 1, 1) := by decide +kernel
theorem dat_14 : decode method_2_code 14 = .ok (.iadd, 1) := by decide +kernel
theorem dat_15 : decode method_2_code 15 = .ok (.caload, 1) := by decide +kernel
theorem dat_16 : decode method_2_code 16 = .ok (.if_icmp .ne 7, 3) := by decide +kernel
theorem dat_19 : decode method_2_code 19 = .ok (.iconst 1, 1) := by decide +kernel
theorem dat_20 : decode method_2_code 20 = .ok (.goto 4, 3) := by decide +kernel
theorem dat_23 : decode method_2_code 23 = .ok (.iconst 0, 1) := by decide +kernel
theorem dat_24 : decode method_2_code 24 = .ok (.ireturn, 1) := by decide +kernel
theorem ef_at (m : MethodId) (b : Addr) (zj : Int32) (zk : Int32) (c4 : Addr) (zi : Int32) : entryFrame m #[(.ref b), (.int zj), (.int zk), (.ref c4), (.int zi)] 5 = mkF m 0 #[.val (.ref b), .val (.int zj), .val (.int zk), .val (.ref c4), .val (.int zi)] [] := by first | (simp [entryFrame, mkF, argsToLocals, Value.category]; done) | rfl
set_option maxRecDepth 65536 in
set_option maxHeartbeats 40000000 in
theorem rm_at (l : Launch) (Z : State) (a0 : Array Value) (hw : ∀ d ∈ tables_1, d.before a0 Z = true) (h0 : Heap) (cz : Int32) (SC : Sta Z Z.heap "java/lang/String" "COMPACT_STRINGS" "Z" (.int cz)) (hcz : ¬ cz = 0) (wf : Value) (hwf : wf.isRef = true) (SF : Sta Z Z.heap "jdk/internal/util/Preconditions" "SIOOBE_FORMATTER" "Ljava/util/function/BiFunction;" wf) (b u c4 : Addr) (zj zk zi : Int32) (j i k : Nat) (f : Nat → Int32) (hzj : zj = Int32.ofNat j) (hzk : zk = Int32.ofNat k) (hzi : zi = Int32.ofNat i) (S : Str Z h0 b u k (fun j => f (i + j))) (hl : ∀ j, j < k → ¬ 255 < (fun j => f (i + j)) j) (A : An Z h0 c4 .char 4 f) (hik : i + k ≤ 4) (hj : j ≤ 3) :
    Ct l Z [] (⟨"com/example/adder/adder/SqlPieceOfPinLaw", "at", "(Ljava/lang/String;II[CI)Z"⟩ : MethodName) method_2_code 5 (some .boolean) (⟨4, 0, 0, 53⟩ : Room) #[(.ref b), (.int zj), (.int zk), (.ref c4), (.int zi)] h0 (Pu h0 (.int 1)) := by
  refine Ct.of pn_com_example_adder_adder_SqlPieceOfPinLaw (fun m => ef_at m b zj zk c4 zi) ?_
  intro p e s m below meth c s₁ X0
  subst hzj hzk hzi
  by_cases hjk : j < k
  · skip
    refine Go.iloadN X0 1 dat_0 rfl ?_
    refine Go.iloadN X0 2 dat_1 rfl ?_
    refine Go.icmpN X0 5 dat_2 (XT.ii_ge_f (n_lt hjk (by omega))) ?_
    refine Go.aloadN X0 6 dat_5 rfl rfl ?_
    refine Go.iloadN X0 7 dat_6 rfl ?_
    refine Go.callVP X0 10 [(.int (Int32.ofNat j))] [] 0 (hw _ (List.mem_of_getElem? (i := 176) rfl)) (hw _ (List.mem_of_getElem? (i := 177) rfl)) (hw _ (List.mem_of_getElem? (i := 179) rfl)) (notFace_of_selects (args := #[]) (mvT X0.hZ (hw _ (List.mem_of_getElem? (i := 179) rfl)))) (hw _ (List.mem_of_getElem? (i := 178) rfl)) (hw _ (List.mem_of_getElem? (i := 3) rfl)) (by decide) S.exa (hw _ (List.mem_of_getElem? (i := 180) rfl)) pd_19 dat_7 (rm_chat l Z a0 hw h0 cz SC hcz wf hwf SF b u (Int32.ofNat j) k j (fun j => f (i + j)) rfl S hjk hl) rfl rfl rfl (Nat.le_of_eq rfl) (by decide) (by decide) (by decide) (by decide) ?_
    intro T11 L11 X11
    refine Go.aloadN X11 11 dat_10 rfl rfl ?_
    refine Go.iload X11 13 dat_11 rfl ?_
    refine Go.iloadN X11 14 dat_13 rfl ?_
    refine Go.iadd X11 15 dat_14 ?_
    rw [n_add]
    refine Go.caN X11 16 A (i + j) (by omega) dat_15 ?_
    refine Go.icmpN X11 19 dat_16 (XT.ii_ne_f rfl) ?_
    refine Go.iconst X11 20 (1 : Int32) dat_19 ?_
    refine Go.goto X11 24 dat_20 ?_
    exact Go.retI X11 rfl (by simp) rfl dat_24 (X11.fin ⟨rfl, rfl⟩ (by decide) (by decide))
  · skip
    refine Go.iloadN X0 1 dat_0 rfl ?_
    refine Go.iloadN X0 2 dat_1 rfl ?_
    refine Go.icmpY X0 19 dat_2 (XT.ii_ge_t (n_nlt (by omega) (by omega))) ?_
    refine Go.iconst X0 20 (1 : Int32) dat_19 ?_
    refine Go.goto X0 24 dat_20 ?_
    exact Go.retI X0 rfl (by simp) rfl dat_24 (X0.fin ⟨rfl, rfl⟩ (by decide) (by decide))
theorem ef_l (m : MethodId) (q0 : Int32) (q1 : Int32) (q2 : Int32) (q3 : Int32) : entryFrame m #[(.int q0), (.int q1), (.int q2), (.int q3)] maxLocals = mkF m 0 #[.val (.int q0), .val (.int q1), .val (.int q2), .val (.int q3), .unset, .unset, .unset, .unset, .unset, .unset, .unset, .unset, .unset] [] := by first | (simp [entryFrame, mkF, argsToLocals, Value.category, maxLocals]; done) | rfl
set_option maxRecDepth 65536 in
set_option maxHeartbeats 40000000 in
theorem rm_l (l : Launch) (Z : State) (a0 : Array Value) (hw : ∀ d ∈ tables_1, d.before a0 Z = true) (h0 : Heap) (cz : Int32) (SC : Sta Z Z.heap "java/lang/String" "COMPACT_STRINGS" "Z" (.int cz)) (hcz : ¬ cz = 0) (wf : Value) (hwf : wf.isRef = true) (SF : Sta Z Z.heap "jdk/internal/util/Preconditions" "SIOOBE_FORMATTER" "Ljava/util/function/BiFunction;" wf) (de : Addr) (SD : Sta Z Z.heap "java/util/ArrayList" "DEFAULTCAPACITY_EMPTY_ELEMENTDATA" "[Ljava/lang/Object;" (.ref de)) (q0 q1 q2 q3 : Int32) :
    CtL l Z consts_1 tables_1 x code maxLocals ret room_1 #[(.int q0), (.int q1), (.int q2), (.int q3)] h0 (fun v _ => v = some (.int 1)) := by
  refine CtL.of pn_com_example_adder_adder_SqlPieceOfPinLaw (fun m => ef_l m q0 q1 q2 q3) ?_
  intro p e s m below meth c s₁ X0 ws0 H0
  have hEL := own_EW hw
  have K21 : Keep h0 h0 [] := Keep.refl _ _
  refine Go.iconst X0 1 (4 : Int32) at_0 ?_
  refine Go.newC X0 3 (n := 4) (hw _ (List.mem_of_getElem? (i := 0) rfl)) at_1 4 (by decide) (by decide) (by decide) (by decide) ?_
  intro T22 h22 a22 X22 E22 g22 V22
  have nw_a22 : Z.heap.size ≤ a22 := by rw [← g22]; exact X0.le
  have si_a22 : h0.size ≤ a22 := by rw [← g22]; exact K21.1
  have ws23 : WS s s.vm h22 := ws0.le E22.1
  have K24 : Keep h0 h22 [] := K21.ext E22
  refine Go.astore X22 5 #[.val (.int q0), .val (.int q1), .val (.int q2), .val (.int q3), .val (.ref a22), .unset, .unset, .unset, .unset, .unset, .unset, .unset, .unset] at_3 rfl rfl ?_
  refine Go.aload X22 7 at_5 rfl rfl ?_
  refine Go.iconst X22 8 (0 : Int32) at_7 ?_
  refine Go.iloadN X22 9 at_8 rfl ?_
  refine Go.sipush X22 12 (255 : Int32) at_9 ?_
  refine Go.iand X22 13 at_12 ?_
  refine Go.i2c X22 14 at_13 ?_
  rw [i2c_mask q0]
  have rx0 := own_255 q0
  generalize (q0 &&& (255 : Int32)) = x0 at rx0 ⊢
  refine Go.stCN X22 15 V22 0 (by decide) at_14 nw_a22 ?_
  intro T25 h25 w25 X25 W25 V25
  rw [(own_nr rx0.1 (own_le rx0.2) : nar .char x0 = x0)] at V25
  have ws26 : WS s s.vm h25 := ws23.le (Nat.le_of_eq W25.size.symm)
  have K27 : Keep h0 h25 [] := K24.wr W25 (Or.inr si_a22)
  have F28 : An Z h25 a22 .char 4 (upd (fun _ => (0 : Int32)) 0 x0) := V25
  refine Go.aload X25 17 at_15 rfl rfl ?_
  refine Go.iconst X25 18 (1 : Int32) at_17 ?_
  refine Go.iloadN X25 19 at_18 rfl ?_
  refine Go.bipush X25 21 (8 : Int32) at_19 ?_
  refine Go.iushr X25 22 at_21 ?_
  refine Go.sipush X25 25 (255 : Int32) at_22 ?_
  refine Go.iand X25 26 at_25 ?_
  refine Go.i2c X25 27 at_26 ?_
  rw [i2c_mask (XT.ushr q0 (8 : Int32))]
  have rx1 := own_255 (XT.ushr q0 (8 : Int32))
  generalize ((XT.ushr q0 (8 : Int32)) &&& (255 : Int32)) = x1 at rx1 ⊢
  refine Go.stCN X25 28 F28 1 (by decide) at_27 nw_a22 ?_
  intro T29 h29 w29 X29 W29 V29
  rw [(own_nr rx1.1 (own_le rx1.2) : nar .char x1 = x1)] at V29
  have ws30 : WS s s.vm h29 := ws26.le (Nat.le_of_eq W29.size.symm)
  have K31 : Keep h0 h29 [] := K27.wr W29 (Or.inr si_a22)
  have F32 : An Z h29 a22 .char 4 (upd (upd (fun _ => (0 : Int32)) 0 x0) 1 x1) := V29
  refine Go.aload X29 30 at_28 rfl rfl ?_
  refine Go.iconst X29 31 (2 : Int32) at_30 ?_
  refine Go.iloadN X29 32 at_31 rfl ?_
  refine Go.bipush X29 34 (16 : Int32) at_32 ?_
  refine Go.iushr X29 35 at_34 ?_
  refine Go.sipush X29 38 (255 : Int32) at_35 ?_
  refine Go.iand X29 39 at_38 ?_
  refine Go.i2c X29 40 at_39 ?_
  rw [i2c_mask (XT.ushr q0 (16 : Int32))]
  have rx2 := own_255 (XT.ushr q0 (16 : Int32))
  generalize ((XT.ushr q0 (16 : Int32)) &&& (255 : Int32)) = x2 at rx2 ⊢
  refine Go.stCN X29 41 F32 2 (by decide) at_40 nw_a22 ?_
  intro T33 h33 w33 X33 W33 V33
  rw [(own_nr rx2.1 (own_le rx2.2) : nar .char x2 = x2)] at V33
  have ws34 : WS s s.vm h33 := ws30.le (Nat.le_of_eq W33.size.symm)
  have K35 : Keep h0 h33 [] := K31.wr W33 (Or.inr si_a22)
  have F36 : An Z h33 a22 .char 4 (upd (upd (upd (fun _ => (0 : Int32)) 0 x0) 1 x1) 2 x2) := V33
  refine Go.aload X33 43 at_41 rfl rfl ?_
  refine Go.iconst X33 44 (3 : Int32) at_43 ?_
  refine Go.iloadN X33 45 at_44 rfl ?_
  refine Go.bipush X33 47 (24 : Int32) at_45 ?_
  refine Go.iushr X33 48 at_47 ?_
  refine Go.sipush X33 51 (255 : Int32) at_48 ?_
  refine Go.iand X33 52 at_51 ?_
  refine Go.i2c X33 53 at_52 ?_
  rw [i2c_mask (XT.ushr q0 (24 : Int32))]
  have rx3 := own_255 (XT.ushr q0 (24 : Int32))
  generalize ((XT.ushr q0 (24 : Int32)) &&& (255 : Int32)) = x3 at rx3 ⊢
  refine Go.stCN X33 54 F36 3 (by decide) at_53 nw_a22 ?_
  intro T37 h37 w37 X37 W37 V37
  rw [(own_nr rx3.1 (own_le rx3.2) : nar .char x3 = x3)] at V37
  have ws38 : WS s s.vm h37 := ws34.le (Nat.le_of_eq W37.size.symm)
  have K39 : Keep h0 h37 [] := K35.wr W37 (Or.inr si_a22)
  have F40 : An Z h37 a22 .char 4 (upd (upd (upd (upd (fun _ => (0 : Int32)) 0 x0) 1 x1) 2 x2) 3 x3) := V37
  refine Go.newO X37 57 (hw _ (List.mem_of_getElem? (i := 1) rfl)) (hw _ (List.mem_of_getElem? (i := 2) rfl)) (hw _ (List.mem_of_getElem? (i := 3) rfl)) at_54 (by decide) (by decide) ?_
  intro T41 h41 a41 X41 E41 g41 A41 D41
  have nw_a41 : Z.heap.size ≤ a41 := by rw [← g41]; exact X37.le
  have si_a41 : h0.size ≤ a41 := by rw [← g41]; exact K39.1
  have ne_a22_a41 : a22 ≠ a41 := by rw [← g41]; exact Nat.ne_of_lt F40.lt
  have ws42 : WS s s.vm h41 := ws38.le E41.1
  have K43 : Keep h0 h41 [] := K39.ext E41
  have F44 : An Z h41 a22 .char 4 (upd (upd (upd (upd (fun _ => (0 : Int32)) 0 x0) 1 x1) 2 x2) 3 x3) := F40.ext E41
  have F45 : Fld Z h41 a41 "java/lang/String" "coder" "B" (.int (0 : Int32)) := D41 (Or.inr (hw _ (List.mem_of_getElem? (i := 27) rfl))) (ty := .byte) (by decide)
  have F46 : Fld Z h41 a41 "java/lang/String" "value" "[B" .null := D41 (Or.inr (hw _ (List.mem_of_getElem? (i := 29) rfl))) (ty := (.array .byte)) (by decide)
  refine Go.dup X41 58 at_57 rfl ?_
  refine Go.aload X41 60 at_58 rfl rfl ?_
  have hall : AllC 4 (upd (upd (upd (upd (fun _ => (0 : Int32)) 0 x0) 1 x1) 2 x2) 3 x3) := (AllC.u (AllC.u (AllC.u (AllC.u AllC.z rx0) rx1) rx2) rx3)
  refine Go.callI X41 63 [(.ref a22)] [(.ref a41)] 1 rfl (hw _ (List.mem_of_getElem? (i := 4) rfl)) (hw _ (List.mem_of_getElem? (i := 5) rfl)) (hw _ (List.mem_of_getElem? (i := 3) rfl)) (by decide) rfl (hw _ (List.mem_of_getElem? (i := 6) rfl)) pd_20 at_60 (rm_i1 l Z a0 hw h41 cz SC hcz a41 a22 4 (upd (upd (upd (upd (fun _ => (0 : Int32)) 0 x0) 1 x1) 2 x2) 3 x3) (by decide) (by decide) A41 F46 F45 nw_a41 ne_a22_a41 F44 (fun j hj => ⟨(hall j hj).1, own_le (hall j hj).2⟩) (fun j hj => (hall j hj).2)) rfl rfl rfl (Nat.le_of_eq rfl) (by decide) (by decide) (by decide) (by decide) ?_
  rintro T47 v47 L47 X47 ⟨rfl, t, K, gt, S⟩
  show Go p e below _ T47 m 63 #[.val (.int q0), .val (.int q1), .val (.int q2), .val (.int q3), .val (.ref a22), .unset, .unset, .unset, .unset, .unset, .unset, .unset, .unset] [(.ref a41)]
  have ws48 : WS s s.vm T47.heap := ws42.le K.1
  have K49 : Keep h0 T47.heap [] := K43.trans K (allS (Or.inr si_a41) all0)
  have F50 : An Z T47.heap a22 .char 4 (upd (upd (upd (upd (fun _ => (0 : Int32)) 0 x0) 1 x1) 2 x2) 3 x3) := F44.keep K (ninS ne_a22_a41 nin0)
  refine Go.astore X47 65 #[.val (.int q0), .val (.int q1), .val (.int q2), .val (.int q3), .val (.ref a22), .val (.ref a41), .unset, .unset, .unset, .unset, .unset, .unset, .unset] at_63 rfl rfl ?_
  refine Go.iloadN X47 66 at_65 rfl ?_
  refine Go.ldcI X47 68 (hw _ (List.mem_of_getElem? (i := 30) rfl)) at_66 ?_
  refine Go.iand X47 69 at_68 ?_
  refine Go.iconst X47 70 (5 : Int32) at_69 ?_
  refine Go.irem X47 71 at_70 (by decide) ?_
  obtain ⟨ni, hi, ei⟩ := own_i q1
  rw [ei]
  refine Go.istore X47 73 #[.val (.int q0), .val (.int q1), .val (.int q2), .val (.int q3), .val (.ref a22), .val (.ref a41), .val (.int (Int32.ofNat ni)), .unset, .unset, .unset, .unset, .unset, .unset] at_71 rfl ?_
  refine Go.iload X47 75 at_73 rfl ?_
  refine Go.iloadN X47 76 at_75 rfl ?_
  refine Go.ldcI X47 78 (hw _ (List.mem_of_getElem? (i := 30) rfl)) at_76 ?_
  refine Go.iand X47 79 at_78 ?_
  refine Go.iconst X47 80 (5 : Int32) at_79 ?_
  refine Go.iload X47 82 at_80 rfl ?_
  refine Go.isub X47 83 at_82 ?_
  refine Go.irem X47 84 at_83 (own_5 hi) ?_
  obtain ⟨nk, hk, ek⟩ := own_e q2 hi
  rw [ek]
  refine Go.iadd X47 85 at_84 ?_
  rw [n_add]
  refine Go.istore X47 87 #[.val (.int q0), .val (.int q1), .val (.int q2), .val (.int q3), .val (.ref a22), .val (.ref a41), .val (.int (Int32.ofNat ni)), .val (.int (Int32.ofNat (ni + nk))), .unset, .unset, .unset, .unset, .unset] at_85 rfl ?_
  refine Go.newO X47 90 (hw _ (List.mem_of_getElem? (i := 31) rfl)) (hw _ (List.mem_of_getElem? (i := 32) rfl)) (hw _ (List.mem_of_getElem? (i := 33) rfl)) at_87 (by decide) (by decide) ?_
  intro T51 h51 a51 X51 E51 g51 A51 D51
  have nw_a51 : Z.heap.size ≤ a51 := by rw [← g51]; exact X47.le
  have si_a51 : h0.size ≤ a51 := by rw [← g51]; exact K49.1
  have ne_a22_a51 : a22 ≠ a51 := by rw [← g51]; exact Nat.ne_of_lt F50.lt
  have ne_a41_a51 : a41 ≠ a51 := by rw [← g51]; exact Nat.ne_of_lt S.lt
  have ne_t_a51 : t ≠ a51 := by rw [← g51]; exact Nat.ne_of_lt S.ltT
  have ws52 : WS s s.vm h51 := ws48.le E51.1
  have K53 : Keep h0 h51 [] := K49.ext E51
  have F54 : An Z h51 a22 .char 4 (upd (upd (upd (upd (fun _ => (0 : Int32)) 0 x0) 1 x1) 2 x2) 3 x3) := F50.ext E51
  have F55 : Str Z h51 a41 t 4 (upd (upd (upd (upd (fun _ => (0 : Int32)) 0 x0) 1 x1) 2 x2) 3 x3) := S.ext E51
  have F56 : Fld Z h51 a51 "com/example/adder/adder/Lexicon$Statement" "start" "I" (.int (0 : Int32)) := D51 (Or.inr (hw _ (List.mem_of_getElem? (i := 68) rfl))) (ty := .int) (by decide)
  have F57 : Fld Z h51 a51 "com/example/adder/adder/Lexicon$Statement" "end" "I" (.int (0 : Int32)) := D51 (Or.inr (hw _ (List.mem_of_getElem? (i := 70) rfl))) (ty := .int) (by decide)
  have F58 : Fld Z h51 a51 "com/example/adder/adder/Lexicon$Statement" "line" "I" (.int (0 : Int32)) := D51 (Or.inr (hw _ (List.mem_of_getElem? (i := 72) rfl))) (ty := .int) (by decide)
  have F59 : Fld Z h51 a51 "com/example/adder/adder/Lexicon$Statement" "tokens" "Ljava/util/List;" .null := D51 (Or.inr (hw _ (List.mem_of_getElem? (i := 74) rfl))) (ty := (.object "java/util/List")) (by decide)
  refine Go.dup X51 91 at_90 rfl ?_
  refine Go.iload X51 93 at_91 rfl ?_
  refine Go.iload X51 95 at_93 rfl ?_
  refine Go.iloadN X51 96 at_95 rfl ?_
  refine Go.newO X51 99 (hw _ (List.mem_of_getElem? (i := 34) rfl)) (hw _ (List.mem_of_getElem? (i := 35) rfl)) (hw _ (List.mem_of_getElem? (i := 36) rfl)) at_96 (by decide) (by decide) ?_
  intro T60 h60 a60 X60 E60 g60 A60 D60
  have nw_a60 : Z.heap.size ≤ a60 := by rw [← g60]; exact X51.le
  have si_a60 : h0.size ≤ a60 := by rw [← g60]; exact K53.1
  have ne_a22_a60 : a22 ≠ a60 := by rw [← g60]; exact Nat.ne_of_lt F54.lt
  have ne_a41_a60 : a41 ≠ a60 := by rw [← g60]; exact Nat.ne_of_lt F55.lt
  have ne_t_a60 : t ≠ a60 := by rw [← g60]; exact Nat.ne_of_lt F55.ltT
  have ne_a51_a60 : a51 ≠ a60 := by rw [← g60]; exact Nat.ne_of_lt A51.lt
  have ws61 : WS s s.vm h60 := ws52.le E60.1
  have K62 : Keep h0 h60 [] := K53.ext E60
  have F63 : An Z h60 a22 .char 4 (upd (upd (upd (upd (fun _ => (0 : Int32)) 0 x0) 1 x1) 2 x2) 3 x3) := F54.ext E60
  have F64 : Str Z h60 a41 t 4 (upd (upd (upd (upd (fun _ => (0 : Int32)) 0 x0) 1 x1) 2 x2) 3 x3) := F55.ext E60
  have F65 : Exa Z h60 a51 "com/example/adder/adder/Lexicon$Statement" := A51.ext E60
  have F66 : Fld Z h60 a51 "com/example/adder/adder/Lexicon$Statement" "start" "I" (.int (0 : Int32)) := F56.ext E60
  have F67 : Fld Z h60 a51 "com/example/adder/adder/Lexicon$Statement" "end" "I" (.int (0 : Int32)) := F57.ext E60
  have F68 : Fld Z h60 a51 "com/example/adder/adder/Lexicon$Statement" "line" "I" (.int (0 : Int32)) := F58.ext E60
  have F69 : Fld Z h60 a51 "com/example/adder/adder/Lexicon$Statement" "tokens" "Ljava/util/List;" .null := F59.ext E60
  have F70 : Fld Z h60 a60 "java/util/AbstractList" "modCount" "I" (.int (0 : Int32)) := D60 (Or.inl (hw _ (List.mem_of_getElem? (i := 54) rfl))) (ty := .int) (by decide)
  have F71 : Fld Z h60 a60 "java/util/ArrayList" "elementData" "[Ljava/lang/Object;" .null := D60 (Or.inl (hw _ (List.mem_of_getElem? (i := 57) rfl))) (ty := (.array (.object "java/lang/Object"))) (by decide)
  refine Go.dup X60 100 at_99 rfl ?_
  refine Go.callI X60 103 [] [(.ref a60), (.int q3), (.int (Int32.ofNat (ni + nk))), (.int (Int32.ofNat ni)), (.ref a51), (.ref a51)] 6 rfl (hw _ (List.mem_of_getElem? (i := 37) rfl)) (hw _ (List.mem_of_getElem? (i := 38) rfl)) (hw _ (List.mem_of_getElem? (i := 36) rfl)) (by decide) rfl (hw _ (List.mem_of_getElem? (i := 39) rfl)) pd_16 at_100 (rm_ial l Z a0 hw h60 de SD a60 A60 F70 F71 nw_a60) rfl rfl rfl (Nat.le_of_eq rfl) (by decide) (by decide) (by decide) (by decide) ?_
  rintro T72 v72 L72 X72 ⟨rfl, Kl⟩
  show Go p e below _ T72 m 103 #[.val (.int q0), .val (.int q1), .val (.int q2), .val (.int q3), .val (.ref a22), .val (.ref a41), .val (.int (Int32.ofNat ni)), .val (.int (Int32.ofNat (ni + nk))), .unset, .unset, .unset, .unset, .unset] [(.ref a60), (.int q3), (.int (Int32.ofNat (ni + nk))), (.int (Int32.ofNat ni)), (.ref a51), (.ref a51)]
  have ws73 : WS s s.vm T72.heap := ws61.le Kl.1
  have K74 : Keep h0 T72.heap [] := K62.trans Kl (allS (Or.inr si_a60) all0)
  have F75 : An Z T72.heap a22 .char 4 (upd (upd (upd (upd (fun _ => (0 : Int32)) 0 x0) 1 x1) 2 x2) 3 x3) := F63.keep Kl (ninS ne_a22_a60 nin0)
  have F76 : Str Z T72.heap a41 t 4 (upd (upd (upd (upd (fun _ => (0 : Int32)) 0 x0) 1 x1) 2 x2) 3 x3) := F64.keep Kl (ninS ne_a41_a60 nin0) (ninS ne_t_a60 nin0)
  have F77 : Exa Z T72.heap a51 "com/example/adder/adder/Lexicon$Statement" := F65.keep Kl
  have F78 : Fld Z T72.heap a51 "com/example/adder/adder/Lexicon$Statement" "start" "I" (.int (0 : Int32)) := F66.keep Kl (ninS ne_a51_a60 nin0)
  have F79 : Fld Z T72.heap a51 "com/example/adder/adder/Lexicon$Statement" "end" "I" (.int (0 : Int32)) := F67.keep Kl (ninS ne_a51_a60 nin0)
  have F80 : Fld Z T72.heap a51 "com/example/adder/adder/Lexicon$Statement" "line" "I" (.int (0 : Int32)) := F68.keep Kl (ninS ne_a51_a60 nin0)
  have F81 : Fld Z T72.heap a51 "com/example/adder/adder/Lexicon$Statement" "tokens" "Ljava/util/List;" .null := F69.keep Kl (ninS ne_a51_a60 nin0)
  refine Go.callI X72 106 [(.int (Int32.ofNat ni)), (.int (Int32.ofNat (ni + nk))), (.int q3), (.ref a60)] [(.ref a51)] 1 rfl (hw _ (List.mem_of_getElem? (i := 58) rfl)) (hw _ (List.mem_of_getElem? (i := 59) rfl)) (hw _ (List.mem_of_getElem? (i := 33) rfl)) (by decide) rfl (hw _ (List.mem_of_getElem? (i := 60) rfl)) pd_21 at_103 (rm_ist l Z a0 hw T72.heap a51 (Int32.ofNat ni) (Int32.ofNat (ni + nk)) q3 a60 F77 F78 F79 F80 F81 nw_a51) rfl rfl rfl (Nat.le_of_eq rfl) (by decide) (by decide) (by decide) (by decide) ?_
  rintro T82 v82 L82 X82 ⟨rfl, Kq, EQ, Q0, Q1, Q2, -⟩
  show Go p e below _ T82 m 106 #[.val (.int q0), .val (.int q1), .val (.int q2), .val (.int q3), .val (.ref a22), .val (.ref a41), .val (.int (Int32.ofNat ni)), .val (.int (Int32.ofNat (ni + nk))), .unset, .unset, .unset, .unset, .unset] [(.ref a51)]
  have ws83 : WS s s.vm T82.heap := ws73.le Kq.1
  have K84 : Keep h0 T82.heap [] := K74.trans Kq (allS (Or.inr si_a51) all0)
  have F85 : An Z T82.heap a22 .char 4 (upd (upd (upd (upd (fun _ => (0 : Int32)) 0 x0) 1 x1) 2 x2) 3 x3) := F75.keep Kq (ninS ne_a22_a51 nin0)
  have F86 : Str Z T82.heap a41 t 4 (upd (upd (upd (upd (fun _ => (0 : Int32)) 0 x0) 1 x1) 2 x2) 3 x3) := F76.keep Kq (ninS ne_a41_a51 nin0) (ninS ne_t_a51 nin0)
  refine Go.astore X82 108 #[.val (.int q0), .val (.int q1), .val (.int q2), .val (.int q3), .val (.ref a22), .val (.ref a41), .val (.int (Int32.ofNat ni)), .val (.int (Int32.ofNat (ni + nk))), .val (.ref a51), .unset, .unset, .unset, .unset] at_106 rfl rfl ?_
  refine Go.aload X82 110 at_108 rfl rfl ?_
  refine Go.aload X82 112 at_110 rfl rfl ?_
  refine Go.callSW X82 115 hEL ws83 (H0.keep K84 sf0) [(.ref a41), (.ref a51)] [] 0 (hw _ (List.mem_of_getElem? (i := 75) rfl)) (hw _ (List.mem_of_getElem? (i := 76) rfl)) (hw _ (List.mem_of_getElem? (i := 77) rfl)) (by decide) (hw _ (List.mem_of_getElem? (i := 78) rfl)) pd_22 at_112 (rm_of l Z a0 hw T82.heap cz SC hcz wf hwf SF a41 t a51 q3 4 ni nk (upd (upd (upd (upd (fun _ => (0 : Int32)) 0 x0) 1 x1) 2 x2) 3 x3) F86 (fun j hj => (hall j hj).2) (by decide) hk EQ Q0 Q1 Q2) rfl rfl rfl (Nat.le_of_eq rfl) (by decide) (by decide) (by decide) (by decide) ?_
  rintro T87 v87 L87 vm87 X87 ws87 R87 ⟨rp, b, u, rfl, Ko, EP, P0, P1, SBb⟩
  show Go p e below _ T87 m 115 #[.val (.int q0), .val (.int q1), .val (.int q2), .val (.int q3), .val (.ref a22), .val (.ref a41), .val (.int (Int32.ofNat ni)), .val (.int (Int32.ofNat (ni + nk))), .val (.ref a51), .unset, .unset, .unset, .unset] [(.ref rp)]
  have K88 : Keep h0 T87.heap [] := K84.trans Ko all0
  have F89 : An Z T87.heap a22 .char 4 (upd (upd (upd (upd (fun _ => (0 : Int32)) 0 x0) 1 x1) 2 x2) 3 x3) := F85.keep Ko nin0
  have hlb : ∀ j, j < nk → ¬ 255 < (fun j => (upd (upd (upd (upd (fun _ => (0 : Int32)) 0 x0) 1 x1) 2 x2) 3 x3) (ni + j)) j := fun j hj => (hall (ni + j) (by omega)).2
  refine Go.astore X87 117 #[.val (.int q0), .val (.int q1), .val (.int q2), .val (.int q3), .val (.ref a22), .val (.ref a41), .val (.int (Int32.ofNat ni)), .val (.int (Int32.ofNat (ni + nk))), .val (.ref a51), .val (.ref rp), .unset, .unset, .unset] at_115 rfl rfl ?_
  refine Go.aload X87 119 at_117 rfl rfl ?_
  refine Go.callVP X87 122 [] [] 0 (hw _ (List.mem_of_getElem? (i := 139) rfl)) (hw _ (List.mem_of_getElem? (i := 140) rfl)) (hw _ (List.mem_of_getElem? (i := 142) rfl)) (notFace_of_selects (args := #[]) (mvT X87.hZ (hw _ (List.mem_of_getElem? (i := 142) rfl)))) (hw _ (List.mem_of_getElem? (i := 141) rfl)) (hw _ (List.mem_of_getElem? (i := 77) rfl)) (by decide) EP (hw _ (List.mem_of_getElem? (i := 143) rfl)) pd_23 at_119 (rm_pq l Z a0 hw T87.heap rp b P0) rfl rfl rfl (Nat.le_of_eq rfl) (by decide) (by decide) (by decide) (by decide) ?_
  intro T90 L90 X90
  refine Go.astore X90 124 #[.val (.int q0), .val (.int q1), .val (.int q2), .val (.int q3), .val (.ref a22), .val (.ref a41), .val (.int (Int32.ofNat ni)), .val (.int (Int32.ofNat (ni + nk))), .val (.ref a51), .val (.ref rp), .val (.ref b), .unset, .unset] at_122 rfl rfl ?_
  refine Go.iload X90 126 at_124 rfl ?_
  refine Go.iload X90 128 at_126 rfl ?_
  refine Go.isub X90 129 at_128 ?_
  rw [n_sub]
  refine Go.istore X90 131 #[.val (.int q0), .val (.int q1), .val (.int q2), .val (.int q3), .val (.ref a22), .val (.ref a41), .val (.int (Int32.ofNat ni)), .val (.int (Int32.ofNat (ni + nk))), .val (.ref a51), .val (.ref rp), .val (.ref b), .val (.int (Int32.ofNat nk)), .unset] at_129 rfl ?_
  refine Go.aload X90 133 at_131 rfl rfl ?_
  refine Go.ifnullN X90 136 at_133 ?_
  refine Go.aload X90 138 at_136 rfl rfl ?_
  refine Go.callVP X90 141 [] [] 0 (hw _ (List.mem_of_getElem? (i := 144) rfl)) (hw _ (List.mem_of_getElem? (i := 97) rfl)) (hw _ (List.mem_of_getElem? (i := 99) rfl)) (notFace_of_selects (args := #[]) (mvT X90.hZ (hw _ (List.mem_of_getElem? (i := 99) rfl)))) (hw _ (List.mem_of_getElem? (i := 98) rfl)) (hw _ (List.mem_of_getElem? (i := 3) rfl)) (by decide) SBb.exa (hw _ (List.mem_of_getElem? (i := 100) rfl)) pd_13 at_138 (rm_len l Z a0 hw T87.heap cz SC hcz b u nk (fun j => (upd (upd (upd (upd (fun _ => (0 : Int32)) 0 x0) 1 x1) 2 x2) 3 x3) (ni + j)) SBb) rfl rfl rfl (Nat.le_of_eq rfl) (by decide) (by decide) (by decide) (by decide) ?_
  intro T91 L91 X91
  refine Go.iload X91 143 at_141 rfl ?_
  refine Go.icmpN X91 146 at_143 (XT.ii_ne_f rfl) ?_
  refine Go.aload X91 148 at_146 rfl rfl ?_
  refine Go.callVP X91 151 [] [] 0 (hw _ (List.mem_of_getElem? (i := 145) rfl)) (hw _ (List.mem_of_getElem? (i := 146) rfl)) (hw _ (List.mem_of_getElem? (i := 148) rfl)) (notFace_of_selects (args := #[]) (mvT X91.hZ (hw _ (List.mem_of_getElem? (i := 148) rfl)))) (hw _ (List.mem_of_getElem? (i := 147) rfl)) (hw _ (List.mem_of_getElem? (i := 77) rfl)) (by decide) EP (hw _ (List.mem_of_getElem? (i := 149) rfl)) pd_13 at_148 (rm_pl l Z a0 hw T87.heap rp q3 P1) rfl rfl rfl (Nat.le_of_eq rfl) (by decide) (by decide) (by decide) (by decide) ?_
  intro T92 L92 X92
  refine Go.iloadN X92 152 at_151 rfl ?_
  refine Go.icmpN X92 155 at_152 (XT.ii_ne_f rfl) ?_
  refine Go.iconst X92 156 (1 : Int32) at_155 ?_
  refine Go.goto X92 160 at_156 ?_
  refine Go.istore X92 162 #[.val (.int q0), .val (.int q1), .val (.int q2), .val (.int q3), .val (.ref a22), .val (.ref a41), .val (.int (Int32.ofNat ni)), .val (.int (Int32.ofNat (ni + nk))), .val (.ref a51), .val (.ref rp), .val (.ref b), .val (.int (Int32.ofNat nk)), .val (.int (1 : Int32))] at_160 rfl ?_
  refine Go.iload X92 164 at_162 rfl ?_
  refine Go.if0N X92 167 at_164 (XT.i0_eq_f (by decide)) ?_
  refine Go.aload X92 169 at_167 rfl rfl ?_
  refine Go.iconst X92 170 (0 : Int32) at_169 ?_
  refine Go.iload X92 172 at_170 rfl ?_
  refine Go.aload X92 174 at_172 rfl rfl ?_
  refine Go.iload X92 176 at_174 rfl ?_
  refine Go.callSP X92 179 [(.ref b), (.int (0 : Int32)), (.int (Int32.ofNat nk)), (.ref a22), (.int (Int32.ofNat ni))] [] 0 (hw _ (List.mem_of_getElem? (i := 150) rfl)) (hw _ (List.mem_of_getElem? (i := 151) rfl)) (hw _ (List.mem_of_getElem? (i := 152) rfl)) (by decide) (hw _ (List.mem_of_getElem? (i := 153) rfl)) pd_24 at_176 (rm_at l Z a0 hw T87.heap cz SC hcz wf hwf SF b u a22 0 (Int32.ofNat nk) (Int32.ofNat ni) 0 ni nk (upd (upd (upd (upd (fun _ => (0 : Int32)) 0 x0) 1 x1) 2 x2) 3 x3) rfl rfl rfl SBb hlb F89 hk (by decide)) rfl rfl rfl (Nat.le_of_eq rfl) (by decide) (by decide) (by decide) (by decide) ?_
  intro T93 L93 X93
  refine Go.if0N X93 182 at_179 (XT.i0_eq_f (by decide)) ?_
  refine Go.aload X93 184 at_182 rfl rfl ?_
  refine Go.iconst X93 185 (1 : Int32) at_184 ?_
  refine Go.iload X93 187 at_185 rfl ?_
  refine Go.aload X93 189 at_187 rfl rfl ?_
  refine Go.iload X93 191 at_189 rfl ?_
  refine Go.callSP X93 194 [(.ref b), (.int (1 : Int32)), (.int (Int32.ofNat nk)), (.ref a22), (.int (Int32.ofNat ni))] [] 0 (hw _ (List.mem_of_getElem? (i := 150) rfl)) (hw _ (List.mem_of_getElem? (i := 151) rfl)) (hw _ (List.mem_of_getElem? (i := 152) rfl)) (by decide) (hw _ (List.mem_of_getElem? (i := 153) rfl)) pd_24 at_191 (rm_at l Z a0 hw T87.heap cz SC hcz wf hwf SF b u a22 1 (Int32.ofNat nk) (Int32.ofNat ni) 1 ni nk (upd (upd (upd (upd (fun _ => (0 : Int32)) 0 x0) 1 x1) 2 x2) 3 x3) rfl rfl rfl SBb hlb F89 hk (by decide)) rfl rfl rfl (Nat.le_of_eq rfl) (by decide) (by decide) (by decide) (by decide) ?_
  intro T94 L94 X94
  refine Go.if0N X94 197 at_194 (XT.i0_eq_f (by decide)) ?_
  refine Go.aload X94 199 at_197 rfl rfl ?_
  refine Go.iconst X94 200 (2 : Int32) at_199 ?_
  refine Go.iload X94 202 at_200 rfl ?_
  refine Go.aload X94 204 at_202 rfl rfl ?_
  refine Go.iload X94 206 at_204 rfl ?_
  refine Go.callSP X94 209 [(.ref b), (.int (2 : Int32)), (.int (Int32.ofNat nk)), (.ref a22), (.int (Int32.ofNat ni))] [] 0 (hw _ (List.mem_of_getElem? (i := 150) rfl)) (hw _ (List.mem_of_getElem? (i := 151) rfl)) (hw _ (List.mem_of_getElem? (i := 152) rfl)) (by decide) (hw _ (List.mem_of_getElem? (i := 153) rfl)) pd_24 at_206 (rm_at l Z a0 hw T87.heap cz SC hcz wf hwf SF b u a22 2 (Int32.ofNat nk) (Int32.ofNat ni) 2 ni nk (upd (upd (upd (upd (fun _ => (0 : Int32)) 0 x0) 1 x1) 2 x2) 3 x3) rfl rfl rfl SBb hlb F89 hk (by decide)) rfl rfl rfl (Nat.le_of_eq rfl) (by decide) (by decide) (by decide) (by decide) ?_
  intro T95 L95 X95
  refine Go.if0N X95 212 at_209 (XT.i0_eq_f (by decide)) ?_
  refine Go.aload X95 214 at_212 rfl rfl ?_
  refine Go.iconst X95 215 (3 : Int32) at_214 ?_
  refine Go.iload X95 217 at_215 rfl ?_
  refine Go.aload X95 219 at_217 rfl rfl ?_
  refine Go.iload X95 221 at_219 rfl ?_
  refine Go.callSP X95 224 [(.ref b), (.int (3 : Int32)), (.int (Int32.ofNat nk)), (.ref a22), (.int (Int32.ofNat ni))] [] 0 (hw _ (List.mem_of_getElem? (i := 150) rfl)) (hw _ (List.mem_of_getElem? (i := 151) rfl)) (hw _ (List.mem_of_getElem? (i := 152) rfl)) (by decide) (hw _ (List.mem_of_getElem? (i := 153) rfl)) pd_24 at_221 (rm_at l Z a0 hw T87.heap cz SC hcz wf hwf SF b u a22 3 (Int32.ofNat nk) (Int32.ofNat ni) 3 ni nk (upd (upd (upd (upd (fun _ => (0 : Int32)) 0 x0) 1 x1) 2 x2) 3 x3) rfl rfl rfl SBb hlb F89 hk (by decide)) rfl rfl rfl (Nat.le_of_eq rfl) (by decide) (by decide) (by decide) (by decide) ?_
  intro T96 L96 X96
  refine Go.if0N X96 227 at_224 (XT.i0_eq_f (by decide)) ?_
  refine Go.iconst X96 228 (1 : Int32) at_227 ?_
  refine Go.goto X96 232 at_228 ?_
  exact Go.retI X96 rfl (by simp) rfl at_232 (X96.finL ws87 rfl (by decide) (by decide))
theorem eq_I {a b : Term} {args : Array Value} {s : State} {x y : Int32} (ha : a.eval args s none [] s = some (.int x)) (hb : b.eval args s none [] s = some (.int y)) : (Jvm.Cond.eq a b).value args s none s [] = some (decide (x = y)) := by simp [Cond.value, ha, hb]
theorem own_eqI {t : Term} {args : Array Value} {s : State} {z : Int32} (h : (Jvm.Cond.eq t (.int z)).value args s none s [] = some true) : t.eval args s none [] s = some (.int z) := by
  obtain ⟨x, y, e1, e2, -, k⟩ := cmp_v (Or.inl h)
  have e3 : y = .int z := Option.some.inj (e2.symm.trans (Term.int_eval z))
  subst e3
  obtain ⟨w, rfl⟩ := k
  have := gotT (eq_I e1 e2) h
  rw [this] at e1
  exact e1
theorem own_sta {C n d : String} {args : Array Value} {s : State} (hx : (Jvm.Cond.exactly (.static C n d) C).value args s none s [] = some true) (wi : (Jvm.Cond.initialized C).before args s = true) (wl : (Jvm.Cond.laysStatic C n d).before args s = true) : ∃ a, Sta s s.heap C n d (.ref a) ∧ Exa s s.heap a C ∧ (Term.static C n d).eval args s none [] s = some (.ref a) := by
  obtain ⟨a, ev⟩ := exa_v hx
  exact ⟨a, Sta.start ev (Or.inr ⟨wi, wl⟩), Exa.start ev hx, ev⟩
theorem own_fldI {t : Term} {C n d : String} {args : Array Value} {s : State} {a : Addr} {z : Int32} (ev : t.eval args s none [] s = some (.ref a)) (hz : (Jvm.Cond.eq (.field t C n d) (.int z)).value args s none s [] = some true) : Fld s s.heap a C n d (.int z) := by
  have := own_eqI hz
  rw [fld_at ev] at this
  exact Fld.start this
theorem own_nz {t : Term} {args : Array Value} {s : State} {z : Int32} (ev : t.eval args s none [] s = some (.int z)) (h : (Jvm.Cond.not (.eq t (.int 0))).value args s none s [] = some true) : ¬ z = 0 := by
  have h1 := not_v h
  exact gotF (eq_I ev (Term.int_eval 0)) h1
theorem own_held {tb : Tables} {e : Env} {args : Array Value} {s : State} (h : call_1_1 tb e args s) : ∀ p ∈ consts_1, Jvm.Lit.constHeld s p.1 p.2 := h
set_option maxRecDepth 65536 in
set_option maxHeartbeats 40000000 in
theorem comes_1 {Post : Tables → Env → Array Value → State → Outcome → State → Prop} (hpost : ∀ tb e args s v u, (limb_1_1.after args s (.returned v) u = true ∧ limb_1_2.after args s (.returned v) u = true ∧ True) → ReturnedEndW s (.returned v) u (Jvm.fieldLocs frame_1_writes args s ++ Jvm.arrayLocs frame_1_arrays args s ++ Jvm.staticLocs frame_1_statics s) 32 1152 → Post tb e args s (.returned v) u) :
    ArmFor flags0 classFile x code maxLocals ret World_1 tables_1 room_1 Calls_1 rest_1 Pre_1 Post := by
  intro l hfl _ _ p e ha hc hk s m args below hf hA hF happ hP
  obtain ⟨hcalls, hrest, hpre⟩ := hP
  obtain ⟨-, -, -, hnamed, -, -, -, hat⟩ := (Spec.applies_iff hf).mp happ
  obtain ⟨hg, hn⟩ := and_e (Cond.before_iff.mp (show (Jvm.Cond.and given_1 narrow_1).before args s = true from hpre))
  obtain ⟨hcount, hr_hcount⟩ := and_e hg
  obtain ⟨hk0, hr_hk0⟩ := and_e hr_hcount
  obtain ⟨hk1, hr_hk1⟩ := and_e hr_hk0
  obtain ⟨hk2, hr_hk2⟩ := and_e hr_hk1
  have hk3 := hr_hk2
  obtain ⟨w0, w1, w2, w3, rfl⟩ : ∃ w0 w1 w2 w3 : Value, args = #[w0, w1, w2, w3] := by
    have hs : args.size = 4 := by simpa [Cond.value, given_1] using hcount
    obtain ⟨L⟩ := args
    match L, hs with
    | [w0, w1, w2, w3], _ => exact ⟨w0, w1, w2, w3, rfl⟩
  have hw := fun d (hd : d ∈ tables_1) => atoms_spec (ws := Jvm.Cond.code x code maxLocals ret :: tables_1) hat d (List.mem_cons_of_mem _ hd)
  obtain ⟨i0, e0⟩ := is_v hk0
  obtain rfl : w0 = (.int i0) := Option.some.inj e0
  obtain ⟨i1, e1⟩ := is_v hk1
  obtain rfl : w1 = (.int i1) := Option.some.inj e1
  obtain ⟨i2, e2⟩ := is_v hk2
  obtain rfl : w2 = (.int i2) := Option.some.inj e2
  obtain ⟨i3, e3⟩ := is_v hk3
  obtain rfl : w3 = (.int i3) := Option.some.inj e3
  have hsets := (atoms_of jdkStatics_1 (rest_1_c_eq ▸ (show rest_1_c.before _ s = true from hrest))).1
  obtain ⟨cz, evc⟩ := is_v (Cond.before_iff.mp (hsets _ (List.mem_of_getElem? (i := 1) rfl)))
  have SC := Sta.start evc (Or.inl (hsets _ (List.mem_of_getElem? (i := 0) rfl)))
  have hcz := own_nz evc (Cond.before_iff.mp (hsets _ (List.mem_of_getElem? (i := 2) rfl)))
  obtain ⟨wf, evf, hwf⟩ := isR_v (Cond.before_iff.mp (hsets _ (List.mem_of_getElem? (i := 8) rfl)))
  have SF := Sta.start evf (Or.inl (hsets _ (List.mem_of_getElem? (i := 7) rfl)))
  obtain ⟨de, evd⟩ := arr_v (Cond.before_iff.mp (hsets _ (List.mem_of_getElem? (i := 15) rfl)))
  have SD := Sta.start evd (Or.inr ⟨(hw _ (List.mem_of_getElem? (i := 36) rfl)), (hsets _ (List.mem_of_getElem? (i := 11) rfl))⟩)
  have hCH : CHv s consts_1 s.vm s.heap := CHv.start (own_EW hw) (own_held hcalls.1) (hsets _ (List.mem_of_getElem? (i := 2) rfl)) (hw _ (List.mem_of_getElem? (i := 19) rfl)) (hw _ (List.mem_of_getElem? (i := 2) rfl))
  obtain ⟨n, o, h1, h2, h3, _, L, rfl, ⟨N, -, rfl⟩, hq⟩ := rm_l l s _ hw s.heap cz SC hcz wf hwf SF de SD i0 i1 i2 i3 (Ext.rf _) p e ha hc hk s m _ below hf ((Spec.applies_iff_loose hf).mp happ).1 ⟨rfl, State.Warmed39.refl s, rfl, hCH⟩ trivial
  refine ⟨n, _, h1, h2, h3, hpost _ _ _ _ _ _ ⟨Cond.after_iff.mpr rfl, Cond.after_iff.mpr (eq_i res_at (Term.int_eval (1)) rfl), trivial⟩ ⟨hq.1, hq.2.1, hq.2.2.1, (hq.2.2.2.sift fun y hy => Or.inr (N y hy)).mono (by decide) (by decide)⟩⟩
theorem main_1_1 : Claimed_1_1 := comes_1 fun _ _ _ _ _ _ h hF => ⟨h.1, hF⟩
theorem main_1_2 : Claimed_1_2 := comes_1 fun _ _ _ _ _ _ h hF => ⟨h.2.1, hF⟩
end Jvm.Pilot.@@N@@
namespace Jvm.Pilot.@@N@@
open Jvm Jvm.ClassFile Sem Op Lib Jvm.Free Jvm.Stand Jvm.Pilot.@@N@@.Jvm.D
/-! MADE BY PROGRAM (witnessworld.py) out of the Statement's table words and the real class files: 34 classes; the members and pool entries that the words name. The judged class is class 1, her method 2. -/
namespace start1
open Jvm.ClassFile
def u (s : String) : CpInfo := .utf8 (stringToUtf16 s)
/-- a pool by its gaps: so many unusable entries, then the entry; so many at the end -/
def gap : Nat → List CpInfo → List CpInfo
  | 0, r => r
  | n + 1, r => .unusable :: gap n r
def poolList (es : List (Nat × CpInfo)) (last : Nat) : List CpInfo := es.foldr (fun e r => gap e.1 (e.2 :: r)) (gap last [])
def pool (es : List (Nat × CpInfo)) (last : Nat) : Array CpInfo := ⟨poolList es last⟩
def fileOf (pool : Array CpInfo) (this : Nat) (attrs : Array Attribute := #[]) (ms : Array MethodInfo := #[]) (fl : Nat := 33) (sup : Nat := 0) (ifs : Array Nat := #[]) (fds : Array FieldInfo := #[]) : ClassFile where
  minorVersion := 0
  majorVersion := 65
  constantPool := pool
  accessFlags := fl
  thisClass := this
  superClass := sup
  interfaces := ifs
  fields := fds
  methods := ms
  attributes := attrs
def plain (name : String) (sup : Option ClassId) : Class where
  name := name
  kind := .ordinary
  loader := none
  accessFlags := 33
  super := sup
  interfaces := #[]
  cf := none
  fields := #[]
  methods := #[]
  instanceTypes := #[]
  staticTypes := #[]
  resolved := #[]
  callSites := []
  init := .initialized
  statics := none
  mirror := none

def pool0 : Array CpInfo := pool [(5, u "<init>"), (0, u "()V"), (1, .class_ 10), (1, u "java/lang/Object")] 113

def k0c0 : Code := { maxStack := 0, maxLocals := 1, code := object_method_1_code, exceptionTable := #[], attributes := #[] }
def k0m0 : Method := { name := "<init>", desc := "()V", sig := { parameters := [], returnType := none }, accessFlags := 1, code := some k0c0 }
/-- java/lang/Object -/
def k0 : Class := { plain "java/lang/Object" none with
  accessFlags := 33
  interfaces := #[]
  cf := some (fileOf pool0 8 #[] #[{ accessFlags := 1, nameIndex := 5, descriptorIndex := 6, attributes := #[] }] 33 0 #[] #[])
  fields := #[]
  methods := #[k0m0]
  instanceTypes := #[]
  staticTypes := #[]
  resolved := Array.replicate 124 none
  statics := none }

def pool1 : Array CpInfo := pool [(2, .class_ 4), (0, .nameAndType 5 6), (0, u "java/lang/Object"), (0, u "<init>"), (0, u "()V"), (0, .methodref 8 9), (0, .class_ 10), (0, .nameAndType 11 12), (0, u "java/lang/String"), (0, u "charAt"), (0, u "(I)C"), (0, .methodref 8 14), (0, .nameAndType 5 15), (0, u "([C)V"), (0, .integer 2147483647), (0, .class_ 18), (0, u "com/example/adder/adder/Lexicon$Statement"), (0, .class_ 20), (0, u "java/util/ArrayList"), (0, .methodref 19 3), (0, .methodref 17 23), (0, .nameAndType 5 24), (0, u "(IIILjava/util/List;)V"), (0, .methodref 26 27), (0, .class_ 28), (0, .nameAndType 29 30), (0, u "com/example/adder/adder/SqlPiece"), (0, u "of"), (0, u "(Ljava/lang/String;Lcom/example/adder/adder/Lexicon$Statement;)Lcom/example/adder/adder/SqlPiece;"), (0, .methodref 26 32), (0, .nameAndType 33 34), (0, u "sql"), (0, u "()Ljava/lang/String;"), (0, .methodref 8 36), (0, .nameAndType 37 38), (0, u "length"), (0, u "()I"), (0, .methodref 26 40), (0, .nameAndType 41 38), (0, u "line"), (0, .methodref 43 44), (0, .class_ 45), (0, .nameAndType 46 47), (0, u "com/example/adder/adder/SqlPieceOfPinLaw"), (0, u "at"), (0, u "(Ljava/lang/String;II[CI)Z"), (3, u "law"), (0, u "(IIII)Z")] 8

def k1m0 : Method := { name := "<init>", desc := "()V", sig := { parameters := [], returnType := none }, accessFlags := 1, code := none }
def k1c1 : Code := { maxStack := 4, maxLocals := 5, code := method_2_code, exceptionTable := #[], attributes := #[] }
def k1m1 : Method := { name := "at", desc := "(Ljava/lang/String;II[CI)Z", sig := { parameters := [(.object "java/lang/String"), .int, .int, (.array .char), .int], returnType := some .boolean }, accessFlags := 10, code := some k1c1 }
def k1c2 : Code := { maxStack := 7, maxLocals := 13, code := code, exceptionTable := #[], attributes := #[] }
def k1m2 : Method := { name := "law", desc := "(IIII)Z", sig := { parameters := [.int, .int, .int, .int], returnType := some .boolean }, accessFlags := 9, code := some k1c2 }
/-- com/example/adder/adder/SqlPieceOfPinLaw -/
def k1 : Class := { plain "com/example/adder/adder/SqlPieceOfPinLaw" (some 0) with
  accessFlags := 49
  interfaces := #[]
  cf := some (fileOf pool1 43 #[] #[{ accessFlags := 1, nameIndex := 5, descriptorIndex := 6, attributes := #[] }, { accessFlags := 10, nameIndex := 46, descriptorIndex := 47, attributes := #[] }, { accessFlags := 9, nameIndex := 51, descriptorIndex := 52, attributes := #[] }] 49 2 #[] #[])
  fields := #[]
  methods := #[k1m0, k1m1, k1m2]
  instanceTypes := #[]
  staticTypes := #[]
  resolved := Array.replicate 61 none
  statics := none }

def pool2 : Array CpInfo := pool [(1, .class_ 2), (0, u "java/io/Serializable"), (0, .class_ 4), (0, u "java/lang/Object")] 2

/-- java/io/Serializable -/
def k2 : Class := { plain "java/io/Serializable" (some 0) with
  accessFlags := 1537
  interfaces := #[]
  cf := some (fileOf pool2 1 #[] #[] 1537 3 #[] #[])
  fields := #[]
  methods := #[]
  instanceTypes := #[]
  staticTypes := #[]
  resolved := Array.replicate 7 none
  statics := none }

def pool3 : Array CpInfo := pool [(1, .class_ 2), (0, u "java/lang/Comparable"), (0, .class_ 4), (0, u "java/lang/Object")] 7

/-- java/lang/Comparable -/
def k3 : Class := { plain "java/lang/Comparable" (some 0) with
  accessFlags := 1537
  interfaces := #[]
  cf := some (fileOf pool3 1 #[] #[] 1537 3 #[] #[])
  fields := #[]
  methods := #[]
  instanceTypes := #[]
  staticTypes := #[]
  resolved := Array.replicate 12 none
  statics := none }

def pool4 : Array CpInfo := pool [(2, .class_ 4), (1, u "java/lang/CharSequence"), (42, .class_ 48), (0, u "java/lang/CharSequence$1CodePointIterator"), (10, .class_ 60), (0, u "java/lang/CharSequence$1CharIterator"), (5, .class_ 67), (0, u "java/lang/Object")] 63

/-- java/lang/CharSequence -/
def k4 : Class := { plain "java/lang/CharSequence" (some 0) with
  accessFlags := 1537
  interfaces := #[]
  cf := some (fileOf pool4 2 #[.nestMembers #[47, 59]] #[] 1537 66 #[] #[])
  fields := #[]
  methods := #[]
  instanceTypes := #[]
  staticTypes := #[]
  resolved := Array.replicate 131 none
  statics := none }

def pool5 : Array CpInfo := pool [(1, .class_ 2), (0, u "java/lang/constant/Constable"), (0, .class_ 4), (0, u "java/lang/Object")] 6

/-- java/lang/constant/Constable -/
def k5 : Class := { plain "java/lang/constant/Constable" (some 0) with
  accessFlags := 1537
  interfaces := #[]
  cf := some (fileOf pool5 1 #[] #[] 1537 3 #[] #[])
  fields := #[]
  methods := #[]
  instanceTypes := #[]
  staticTypes := #[]
  resolved := Array.replicate 11 none
  statics := none }

def pool6 : Array CpInfo := pool [(1, .class_ 2), (0, u "java/lang/constant/ConstantDesc"), (0, .class_ 4), (0, u "java/lang/Object")] 32

/-- java/lang/constant/ConstantDesc -/
def k6 : Class := { plain "java/lang/constant/ConstantDesc" (some 0) with
  accessFlags := 1537
  interfaces := #[]
  cf := some (fileOf pool6 1 #[] #[] 1537 3 #[] #[])
  fields := #[]
  methods := #[]
  instanceTypes := #[]
  staticTypes := #[]
  resolved := Array.replicate 37 none
  statics := none }

def pool7 : Array CpInfo := pool [(1, .methodref 2 3), (0, .class_ 4), (0, .nameAndType 5 6), (0, u "java/lang/Object"), (0, u "<init>"), (0, u "()V"), (2, .fieldref 10 11), (0, .class_ 12), (0, .nameAndType 13 14), (0, u "java/lang/String"), (0, u "value"), (0, u "[B"), (0, .fieldref 10 16), (0, .nameAndType 17 18), (0, u "coder"), (0, u "B"), (2, u "hash"), (0, u "I"), (2, u "hashIsZero"), (0, u "Z"), (0, .methodref 10 28), (0, .nameAndType 5 29), (0, u "([CIILjava/lang/Void;)V"), (8, .fieldref 10 39), (0, .nameAndType 40 26), (0, u "COMPACT_STRINGS"), (1, .class_ 44), (1, u "java/lang/StringUTF16"), (0, u "compress"), (1, .methodref 42 48), (0, .nameAndType 49 50), (0, u "coderFromArrayLen"), (0, u "([BI)B"), (56, .class_ 109), (1, u "java/lang/StringLatin1"), (32, u "()Z"), (34, .methodref 42 178), (0, .nameAndType 45 179), (0, u "([CII)[B"), (31, u "([BB)V"), (122, u "()I"), (0, .methodref 10 336), (0, .nameAndType 17 337), (0, u "()B"), (25, u "([BI)C"), (27, u "(II)V"), (35, u "(I)C"), (64, .methodref 10 493), (0, .nameAndType 494 142), (0, u "isLatin1"), (0, .methodref 107 496), (0, .nameAndType 497 363), (0, u "charAt"), (3, u "checkIndex"), (3, .methodref 10 506), (0, .nameAndType 507 334), (0, u "length"), (5, u "checkFromToIndex"), (7, .methodref 10 522), (0, .nameAndType 523 524), (0, u "checkBoundsBeginEnd"), (0, u "(III)V"), (50, .class_ 576), (0, u "java/lang/CharSequence"), (22, u "CASE_INSENSITIVE_ORDER"), (0, u "Ljava/util/Comparator;"), (82, u "substring"), (0, u "(II)Ljava/lang/String;"), (0, .methodref 107 686), (0, .nameAndType 687 688), (0, u "newString"), (0, u "([BII)Ljava/lang/String;"), (321, u "([C)V"), (42, .fieldref 1054 1055), (0, .class_ 1056), (0, .nameAndType 1057 1058), (0, u "jdk/internal/util/Preconditions"), (0, u "SIOOBE_FORMATTER"), (0, u "Ljava/util/function/BiFunction;"), (0, .methodref 1054 1060), (0, .nameAndType 501 1061), (0, u "(IILjava/util/function/BiFunction;)I"), (0, .methodref 1054 1063), (0, .nameAndType 513 1064), (0, u "(IIILjava/util/function/BiFunction;)I"), (36, u "serialPersistentFields"), (0, u "[Ljava/io/ObjectStreamField;"), (0, .class_ 1104), (0, u "java/lang/String$CaseInsensitiveComparator"), (1, .class_ 1107), (0, u "java/io/Serializable"), (0, .class_ 1109), (0, u "java/lang/Comparable"), (0, .class_ 1111), (0, u "java/lang/constant/Constable"), (0, .class_ 1113), (0, u "java/lang/constant/ConstantDesc"), (2, u "serialVersionUID"), (0, u "J"), (3, u "REPL"), (0, u "C"), (2, u "LATIN1"), (1, u "UTF16")] 323

def k7m0 : Method := { name := "<init>", desc := "()V", sig := { parameters := [], returnType := none }, accessFlags := 1, code := none }
def k7c1 : Code := { maxStack := 5, maxLocals := 2, code := jdk_42_method_3_code, exceptionTable := #[], attributes := #[] }
def k7m1 : Method := { name := "<init>", desc := "([C)V", sig := { parameters := [(.array .char)], returnType := none }, accessFlags := 1, code := some k7c1 }
def k7c2 : Code := { maxStack := 2, maxLocals := 1, code := jdk_42_method_54_code, exceptionTable := #[], attributes := #[] }
def k7m2 : Method := { name := "length", desc := "()I", sig := { parameters := [], returnType := some .int }, accessFlags := 1, code := some k7c2 }
def k7c3 : Code := { maxStack := 2, maxLocals := 2, code := jdk_42_method_56_code, exceptionTable := #[], attributes := #[] }
def k7m3 : Method := { name := "charAt", desc := "(I)C", sig := { parameters := [.int], returnType := some .char }, accessFlags := 1, code := some k7c3 }
def k7c4 : Code := { maxStack := 3, maxLocals := 5, code := jdk_42_method_92_code, exceptionTable := #[], attributes := #[] }
def k7m4 : Method := { name := "substring", desc := "(II)Ljava/lang/String;", sig := { parameters := [.int, .int], returnType := some (.object "java/lang/String") }, accessFlags := 1, code := some k7c4 }
def k7c5 : Code := { maxStack := 4, maxLocals := 6, code := jdk_42_method_149_code, exceptionTable := #[], attributes := #[] }
def k7m5 : Method := { name := "<init>", desc := "([CIILjava/lang/Void;)V", sig := { parameters := [(.array .char), .int, .int, (.object "java/lang/Void")], returnType := none }, accessFlags := 2, code := some k7c5 }
def k7c6 : Code := { maxStack := 2, maxLocals := 3, code := jdk_42_method_151_code, exceptionTable := #[], attributes := #[] }
def k7m6 : Method := { name := "<init>", desc := "([BB)V", sig := { parameters := [(.array .byte), .byte], returnType := none }, accessFlags := 0, code := some k7c6 }
def k7c7 : Code := { maxStack := 1, maxLocals := 1, code := jdk_42_method_152_code, exceptionTable := #[], attributes := #[] }
def k7m7 : Method := { name := "coder", desc := "()B", sig := { parameters := [], returnType := some .byte }, accessFlags := 0, code := some k7c7 }
def k7c8 : Code := { maxStack := 1, maxLocals := 1, code := jdk_42_method_154_code, exceptionTable := #[], attributes := #[] }
def k7m8 : Method := { name := "isLatin1", desc := "()Z", sig := { parameters := [], returnType := some .boolean }, accessFlags := 0, code := some k7c8 }
def k7c9 : Code := { maxStack := 3, maxLocals := 2, code := jdk_42_method_155_code, exceptionTable := #[], attributes := #[] }
def k7m9 : Method := { name := "checkIndex", desc := "(II)V", sig := { parameters := [.int, .int], returnType := none }, accessFlags := 8, code := some k7c9 }
def k7c10 : Code := { maxStack := 4, maxLocals := 3, code := jdk_42_method_158_code, exceptionTable := #[], attributes := #[] }
def k7m10 : Method := { name := "checkBoundsBeginEnd", desc := "(III)V", sig := { parameters := [.int, .int, .int], returnType := none }, accessFlags := 8, code := some k7c10 }
/-- java/lang/String -/
def k7 : Class := { plain "java/lang/String" (some 0) with
  accessFlags := 49
  interfaces := #[2, 3, 4, 5, 6]
  cf := some (fileOf pool7 10 #[.nestMembers #[1103]] #[{ accessFlags := 1, nameIndex := 5, descriptorIndex := 6, attributes := #[] }, { accessFlags := 1, nameIndex := 5, descriptorIndex := 1010, attributes := #[] }, { accessFlags := 1, nameIndex := 507, descriptorIndex := 334, attributes := #[] }, { accessFlags := 1, nameIndex := 497, descriptorIndex := 427, attributes := #[] }, { accessFlags := 1, nameIndex := 683, descriptorIndex := 684, attributes := #[] }, { accessFlags := 2, nameIndex := 5, descriptorIndex := 29, attributes := #[] }, { accessFlags := 0, nameIndex := 5, descriptorIndex := 211, attributes := #[] }, { accessFlags := 0, nameIndex := 17, descriptorIndex := 337, attributes := #[] }, { accessFlags := 0, nameIndex := 494, descriptorIndex := 142, attributes := #[] }, { accessFlags := 8, nameIndex := 501, descriptorIndex := 391, attributes := #[] }, { accessFlags := 8, nameIndex := 523, descriptorIndex := 524, attributes := #[] }] 49 2 #[1106, 1108, 575, 1110, 1112] #[{ accessFlags := 18, nameIndex := 13, descriptorIndex := 14, attributes := #[] }, { accessFlags := 18, nameIndex := 17, descriptorIndex := 18, attributes := #[] }, { accessFlags := 2, nameIndex := 21, descriptorIndex := 22, attributes := #[] }, { accessFlags := 2, nameIndex := 25, descriptorIndex := 26, attributes := #[] }, { accessFlags := 26, nameIndex := 1116, descriptorIndex := 1117, attributes := #[] }, { accessFlags := 24, nameIndex := 40, descriptorIndex := 26, attributes := #[] }, { accessFlags := 26, nameIndex := 1101, descriptorIndex := 1102, attributes := #[] }, { accessFlags := 26, nameIndex := 1121, descriptorIndex := 1122, attributes := #[] }, { accessFlags := 25, nameIndex := 599, descriptorIndex := 600, attributes := #[] }, { accessFlags := 24, nameIndex := 1125, descriptorIndex := 18, attributes := #[] }, { accessFlags := 24, nameIndex := 1127, descriptorIndex := 18, attributes := #[] }])
  fields := #[{ name := "value", type := (.array .byte), accessFlags := 18, slot := 0, constantValue := 0 }, { name := "coder", type := .byte, accessFlags := 18, slot := 1, constantValue := 0 }, { name := "hash", type := .int, accessFlags := 2, slot := 2, constantValue := 0 }, { name := "hashIsZero", type := .boolean, accessFlags := 2, slot := 3, constantValue := 0 }, { name := "serialVersionUID", type := .long, accessFlags := 26, slot := 0, constantValue := 0 }, { name := "COMPACT_STRINGS", type := .boolean, accessFlags := 24, slot := 1, constantValue := 0 }, { name := "serialPersistentFields", type := (.array (.object "java/io/ObjectStreamField")), accessFlags := 26, slot := 2, constantValue := 0 }, { name := "REPL", type := .char, accessFlags := 26, slot := 3, constantValue := 0 }, { name := "CASE_INSENSITIVE_ORDER", type := (.object "java/util/Comparator"), accessFlags := 25, slot := 4, constantValue := 0 }, { name := "LATIN1", type := .byte, accessFlags := 24, slot := 5, constantValue := 0 }, { name := "UTF16", type := .byte, accessFlags := 24, slot := 6, constantValue := 0 }]
  methods := #[k7m0, k7m1, k7m2, k7m3, k7m4, k7m5, k7m6, k7m7, k7m8, k7m9, k7m10]
  instanceTypes := #[(.array .byte), .byte, .int, .boolean]
  staticTypes := #[.long, .boolean, (.array (.object "java/io/ObjectStreamField")), .char, (.object "java/util/Comparator"), .byte, .byte]
  resolved := Array.replicate 1451 none
  statics := some 0 }

def pool8 : Array CpInfo := pool [(6, .class_ 8), (1, u "java/lang/Object"), (0, u "<init>"), (0, u "()V"), (1, .class_ 14), (1, u "java/lang/StringUTF16"), (31, u "$assertionsDisabled"), (0, u "Z"), (13, u "HI_BYTE_SHIFT"), (0, u "I"), (2, u "LO_BYTE_SHIFT"), (49, .methodref 12 116), (0, .nameAndType 117 118), (0, u "compress"), (0, u "([CI[BII)I"), (3, u "([CII)[B"), (138, u "coderFromArrayLen"), (0, u "([BI)B"), (106, .class_ 371), (1, u "java/lang/StringUTF16$LinesSpliterator"), (58, u "MAX_LENGTH"), (196, .class_ 628), (0, u "java/lang/StringUTF16$CodePointsSpliterator"), (0, .class_ 630), (0, u "java/lang/StringUTF16$CharsSpliterator")] 4

def k8m0 : Method := { name := "<init>", desc := "()V", sig := { parameters := [], returnType := none }, accessFlags := 0, code := none }
def k8c1 : Code := { maxStack := 2, maxLocals := 2, code := jdk_52_method_15_code, exceptionTable := #[], attributes := #[] }
def k8m1 : Method := { name := "coderFromArrayLen", desc := "([BI)B", sig := { parameters := [(.array .byte), .int], returnType := some .byte }, accessFlags := 8, code := some k8c1 }
def k8c2 : Code := { maxStack := 5, maxLocals := 6, code := jdk_52_method_16_code, exceptionTable := #[], attributes := #[] }
def k8m2 : Method := { name := "compress", desc := "([CII)[B", sig := { parameters := [(.array .char), .int, .int], returnType := some (.array .byte) }, accessFlags := 9, code := some k8c2 }
def k8c3 : Code := { maxStack := 3, maxLocals := 7, code := jdk_52_method_21_code, exceptionTable := #[], attributes := #[] }
def k8m3 : Method := { name := "compress", desc := "([CI[BII)I", sig := { parameters := [(.array .char), .int, (.array .byte), .int, .int], returnType := some .int }, accessFlags := 9, code := some k8c3 }
/-- java/lang/StringUTF16 -/
def k8 : Class := { plain "java/lang/StringUTF16" (some 0) with
  accessFlags := 48
  interfaces := #[]
  cf := some (fileOf pool8 12 #[.nestMembers #[627, 629, 369]] #[{ accessFlags := 0, nameIndex := 9, descriptorIndex := 10, attributes := #[] }, { accessFlags := 8, nameIndex := 261, descriptorIndex := 262, attributes := #[] }, { accessFlags := 9, nameIndex := 117, descriptorIndex := 122, attributes := #[] }, { accessFlags := 9, nameIndex := 117, descriptorIndex := 118, attributes := #[] }] 48 6 #[] #[{ accessFlags := 26, nameIndex := 61, descriptorIndex := 62, attributes := #[] }, { accessFlags := 26, nameIndex := 65, descriptorIndex := 62, attributes := #[] }, { accessFlags := 24, nameIndex := 430, descriptorIndex := 62, attributes := #[] }, { accessFlags := 4120, nameIndex := 46, descriptorIndex := 47, attributes := #[] }])
  fields := #[{ name := "HI_BYTE_SHIFT", type := .int, accessFlags := 26, slot := 0, constantValue := 0 }, { name := "LO_BYTE_SHIFT", type := .int, accessFlags := 26, slot := 1, constantValue := 0 }, { name := "MAX_LENGTH", type := .int, accessFlags := 24, slot := 2, constantValue := 0 }, { name := "$assertionsDisabled", type := .boolean, accessFlags := 4120, slot := 3, constantValue := 0 }]
  methods := #[k8m0, k8m1, k8m2, k8m3]
  instanceTypes := #[]
  staticTypes := #[.int, .int, .int, .boolean]
  resolved := Array.replicate 635 none
  statics := none }

def pool9 : Array CpInfo := pool [(1, .methodref 2 3), (0, .class_ 4), (0, .nameAndType 5 6), (0, u "java/lang/Object"), (0, u "<init>"), (0, u "()V"), (0, .class_ 8), (0, u "java/lang/Record")] 13

def k9c0 : Code := { maxStack := 1, maxLocals := 1, code := jdk_30_method_1_code, exceptionTable := #[], attributes := #[] }
def k9m0 : Method := { name := "<init>", desc := "()V", sig := { parameters := [], returnType := none }, accessFlags := 4, code := some k9c0 }
/-- java/lang/Record -/
def k9 : Class := { plain "java/lang/Record" (some 0) with
  accessFlags := 1057
  interfaces := #[]
  cf := some (fileOf pool9 7 #[] #[{ accessFlags := 4, nameIndex := 5, descriptorIndex := 6, attributes := #[] }] 1057 2 #[] #[])
  fields := #[]
  methods := #[k9m0]
  instanceTypes := #[]
  staticTypes := #[]
  resolved := Array.replicate 22 none
  statics := none }

def pool10 : Array CpInfo := pool [(1, .methodref 2 3), (0, .class_ 4), (0, .nameAndType 5 6), (0, u "java/lang/Record"), (0, u "<init>"), (0, u "()V"), (0, .fieldref 8 9), (0, .class_ 10), (0, .nameAndType 11 12), (0, u "com/example/adder/adder/Lexicon$Statement"), (0, u "start"), (0, u "I"), (0, .fieldref 8 14), (0, .nameAndType 15 12), (0, u "end"), (0, .fieldref 8 17), (0, .nameAndType 18 12), (0, u "line"), (0, .fieldref 8 20), (0, .nameAndType 21 22), (0, u "tokens"), (0, u "Ljava/util/List;"), (8, u "()I"), (86, u "(IIILjava/util/List;)V"), (12, .class_ 132), (0, u "com/example/adder/adder/Lexicon")] 25

def k10c0 : Code := { maxStack := 2, maxLocals := 5, code := prog_27_method_1_code, exceptionTable := #[], attributes := #[] }
def k10m0 : Method := { name := "<init>", desc := "(IIILjava/util/List;)V", sig := { parameters := [.int, .int, .int, (.object "java/util/List")], returnType := none }, accessFlags := 0, code := some k10c0 }
def k10c1 : Code := { maxStack := 1, maxLocals := 1, code := prog_27_method_7_code, exceptionTable := #[], attributes := #[] }
def k10m1 : Method := { name := "start", desc := "()I", sig := { parameters := [], returnType := some .int }, accessFlags := 1, code := some k10c1 }
def k10c2 : Code := { maxStack := 1, maxLocals := 1, code := prog_27_method_8_code, exceptionTable := #[], attributes := #[] }
def k10m2 : Method := { name := "end", desc := "()I", sig := { parameters := [], returnType := some .int }, accessFlags := 1, code := some k10c2 }
def k10c3 : Code := { maxStack := 1, maxLocals := 1, code := prog_27_method_9_code, exceptionTable := #[], attributes := #[] }
def k10m3 : Method := { name := "line", desc := "()I", sig := { parameters := [], returnType := some .int }, accessFlags := 1, code := some k10c3 }
/-- com/example/adder/adder/Lexicon$Statement -/
def k10 : Class := { plain "com/example/adder/adder/Lexicon$Statement" (some 9) with
  accessFlags := 48
  interfaces := #[]
  cf := some (fileOf pool10 8 #[.nestHost 131] #[{ accessFlags := 0, nameIndex := 5, descriptorIndex := 118, attributes := #[] }, { accessFlags := 1, nameIndex := 11, descriptorIndex := 31, attributes := #[] }, { accessFlags := 1, nameIndex := 15, descriptorIndex := 31, attributes := #[] }, { accessFlags := 1, nameIndex := 18, descriptorIndex := 31, attributes := #[] }] 48 2 #[] #[{ accessFlags := 18, nameIndex := 11, descriptorIndex := 12, attributes := #[] }, { accessFlags := 18, nameIndex := 15, descriptorIndex := 12, attributes := #[] }, { accessFlags := 18, nameIndex := 18, descriptorIndex := 12, attributes := #[] }, { accessFlags := 18, nameIndex := 21, descriptorIndex := 22, attributes := #[] }])
  fields := #[{ name := "start", type := .int, accessFlags := 18, slot := 0, constantValue := 0 }, { name := "end", type := .int, accessFlags := 18, slot := 1, constantValue := 0 }, { name := "line", type := .int, accessFlags := 18, slot := 2, constantValue := 0 }, { name := "tokens", type := (.object "java/util/List"), accessFlags := 18, slot := 3, constantValue := 0 }]
  methods := #[k10m0, k10m1, k10m2, k10m3]
  instanceTypes := #[.int, .int, .int, (.object "java/util/List")]
  staticTypes := #[]
  resolved := Array.replicate 158 none
  statics := none }

def pool11 : Array CpInfo := pool [(8, .class_ 10), (1, u "java/lang/Iterable"), (24, .class_ 36), (0, u "java/lang/Object")] 25

/-- java/lang/Iterable -/
def k11 : Class := { plain "java/lang/Iterable" (some 0) with
  accessFlags := 1537
  interfaces := #[]
  cf := some (fileOf pool11 8 #[] #[] 1537 35 #[] #[])
  fields := #[]
  methods := #[]
  instanceTypes := #[]
  staticTypes := #[]
  resolved := Array.replicate 62 none
  statics := none }

def pool12 : Array CpInfo := pool [(10, .class_ 12), (1, u "java/util/Collection"), (47, .class_ 61), (0, u "java/lang/Object"), (0, .class_ 63), (0, u "java/lang/Iterable")] 51

/-- java/util/Collection -/
def k12 : Class := { plain "java/util/Collection" (some 0) with
  accessFlags := 1537
  interfaces := #[11]
  cf := some (fileOf pool12 10 #[] #[] 1537 60 #[62] #[])
  fields := #[]
  methods := #[]
  instanceTypes := #[]
  staticTypes := #[]
  resolved := Array.replicate 115 none
  statics := none }

def pool13 : Array CpInfo := pool [(1, .methodref 2 3), (0, .class_ 4), (0, .nameAndType 5 6), (0, u "java/lang/Object"), (0, u "<init>"), (0, u "()V"), (1, .class_ 10), (1, u "java/util/AbstractCollection"), (66, .class_ 78), (0, u "java/util/Collection")] 81

def k13c0 : Code := { maxStack := 1, maxLocals := 1, code := jdk_22_method_1_code, exceptionTable := #[], attributes := #[] }
def k13m0 : Method := { name := "<init>", desc := "()V", sig := { parameters := [], returnType := none }, accessFlags := 4, code := some k13c0 }
/-- java/util/AbstractCollection -/
def k13 : Class := { plain "java/util/AbstractCollection" (some 0) with
  accessFlags := 1057
  interfaces := #[12]
  cf := some (fileOf pool13 8 #[] #[{ accessFlags := 4, nameIndex := 5, descriptorIndex := 6, attributes := #[] }] 1057 2 #[77] #[])
  fields := #[]
  methods := #[k13m0]
  instanceTypes := #[]
  staticTypes := #[]
  resolved := Array.replicate 160 none
  statics := none }

def pool14 : Array CpInfo := pool [(8, .class_ 10), (1, u "java/util/SequencedCollection"), (15, .class_ 27), (0, u "java/lang/Object"), (0, .class_ 29), (0, u "java/util/Collection")] 27

/-- java/util/SequencedCollection -/
def k14 : Class := { plain "java/util/SequencedCollection" (some 0) with
  accessFlags := 1537
  interfaces := #[12]
  cf := some (fileOf pool14 8 #[] #[] 1537 26 #[28] #[])
  fields := #[]
  methods := #[]
  instanceTypes := #[]
  staticTypes := #[]
  resolved := Array.replicate 57 none
  statics := none }

def pool15 : Array CpInfo := pool [(8, .class_ 10), (1, u "java/util/List"), (92, .class_ 104), (0, u "java/lang/Object"), (15, .class_ 121), (0, u "java/util/SequencedCollection")] 129

/-- java/util/List -/
def k15 : Class := { plain "java/util/List" (some 0) with
  accessFlags := 1537
  interfaces := #[14]
  cf := some (fileOf pool15 8 #[] #[] 1537 103 #[120] #[])
  fields := #[]
  methods := #[]
  instanceTypes := #[]
  staticTypes := #[]
  resolved := Array.replicate 251 none
  statics := none }

def pool16 : Array CpInfo := pool [(1, .methodref 2 3), (0, .class_ 4), (0, .nameAndType 5 6), (0, u "java/util/AbstractCollection"), (0, u "<init>"), (0, u "()V"), (0, .fieldref 8 9), (0, .class_ 10), (0, .nameAndType 11 12), (0, u "java/util/AbstractList"), (0, u "modCount"), (0, u "I"), (64, .class_ 78), (0, u "java/util/AbstractList$Itr"), (3, .class_ 83), (0, u "java/util/AbstractList$ListItr"), (9, .class_ 94), (0, u "java/util/AbstractList$RandomAccessSubList"), (3, .class_ 99), (0, u "java/util/AbstractList$SubList"), (33, .class_ 134), (0, u "java/util/List"), (73, .class_ 209), (0, u "java/util/AbstractList$SubList$1"), (0, .class_ 211), (0, u "java/util/AbstractList$RandomAccessSpliterator")] 6

def k16c0 : Code := { maxStack := 2, maxLocals := 1, code := jdk_39_method_1_code, exceptionTable := #[], attributes := #[] }
def k16m0 : Method := { name := "<init>", desc := "()V", sig := { parameters := [], returnType := none }, accessFlags := 4, code := some k16c0 }
/-- java/util/AbstractList -/
def k16 : Class := { plain "java/util/AbstractList" (some 13) with
  accessFlags := 1057
  interfaces := #[15]
  cf := some (fileOf pool16 8 #[.nestMembers #[93, 98, 208, 210, 82, 77]] #[{ accessFlags := 4, nameIndex := 5, descriptorIndex := 6, attributes := #[] }] 1057 2 #[133] #[{ accessFlags := 132, nameIndex := 11, descriptorIndex := 12, attributes := #[] }])
  fields := #[{ name := "modCount", type := .int, accessFlags := 132, slot := 0, constantValue := 0 }]
  methods := #[k16m0]
  instanceTypes := #[.int]
  staticTypes := #[]
  resolved := Array.replicate 218 none
  statics := none }

def pool17 : Array CpInfo := pool [(1, .class_ 2), (0, u "java/util/RandomAccess"), (0, .class_ 4), (0, u "java/lang/Object")] 2

/-- java/util/RandomAccess -/
def k17 : Class := { plain "java/util/RandomAccess" (some 0) with
  accessFlags := 1537
  interfaces := #[]
  cf := some (fileOf pool17 1 #[] #[] 1537 3 #[] #[])
  fields := #[]
  methods := #[]
  instanceTypes := #[]
  staticTypes := #[]
  resolved := Array.replicate 7 none
  statics := none }

def pool18 : Array CpInfo := pool [(1, .class_ 2), (0, u "java/lang/Cloneable"), (0, .class_ 4), (0, u "java/lang/Object")] 2

/-- java/lang/Cloneable -/
def k18 : Class := { plain "java/lang/Cloneable" (some 0) with
  accessFlags := 1537
  interfaces := #[]
  cf := some (fileOf pool18 1 #[] #[] 1537 3 #[] #[])
  fields := #[]
  methods := #[]
  instanceTypes := #[]
  staticTypes := #[]
  resolved := Array.replicate 7 none
  statics := none }

def pool19 : Array CpInfo := pool [(1, .methodref 2 3), (0, .class_ 4), (0, .nameAndType 5 6), (0, u "java/util/AbstractList"), (0, u "<init>"), (0, u "()V"), (2, .fieldref 10 11), (0, .class_ 12), (0, .nameAndType 13 14), (0, u "java/util/ArrayList"), (0, u "elementData"), (0, u "[Ljava/lang/Object;"), (2, u "EMPTY_ELEMENTDATA"), (21, .fieldref 10 40), (0, .nameAndType 41 14), (0, u "DEFAULTCAPACITY_EMPTY_ELEMENTDATA"), (8, u "size"), (0, u "I"), (96, .class_ 149), (0, u "java/util/List"), (112, .class_ 263), (0, u "java/util/ArrayList$ListItr"), (3, .class_ 268), (0, u "java/util/ArrayList$Itr"), (7, .class_ 277), (0, u "java/util/ArrayList$SubList"), (12, .class_ 291), (0, u "java/util/ArrayList$ArrayListSpliterator"), (37, .class_ 330), (0, u "java/util/RandomAccess"), (0, .class_ 332), (0, u "java/lang/Cloneable"), (0, .class_ 334), (0, u "java/io/Serializable"), (0, u "serialVersionUID"), (0, u "J"), (3, u "DEFAULT_CAPACITY"), (159, .class_ 501), (0, u "java/util/ArrayList$SubList$2"), (0, .class_ 503), (0, u "java/util/ArrayList$SubList$1")] 5

def k19c0 : Code := { maxStack := 2, maxLocals := 1, code := jdk_38_method_2_code, exceptionTable := #[], attributes := #[] }
def k19m0 : Method := { name := "<init>", desc := "()V", sig := { parameters := [], returnType := none }, accessFlags := 1, code := some k19c0 }
/-- java/util/ArrayList -/
def k19 : Class := { plain "java/util/ArrayList" (some 16) with
  accessFlags := 33
  interfaces := #[15, 17, 18, 2]
  cf := some (fileOf pool19 10 #[.nestMembers #[290, 276, 500, 502, 262, 267]] #[{ accessFlags := 1, nameIndex := 5, descriptorIndex := 6, attributes := #[] }] 33 2 #[148, 329, 331, 333] #[{ accessFlags := 26, nameIndex := 335, descriptorIndex := 336, attributes := #[] }, { accessFlags := 26, nameIndex := 340, descriptorIndex := 51, attributes := #[] }, { accessFlags := 26, nameIndex := 17, descriptorIndex := 14, attributes := #[] }, { accessFlags := 26, nameIndex := 41, descriptorIndex := 14, attributes := #[] }, { accessFlags := 128, nameIndex := 13, descriptorIndex := 14, attributes := #[] }, { accessFlags := 2, nameIndex := 50, descriptorIndex := 51, attributes := #[] }])
  fields := #[{ name := "serialVersionUID", type := .long, accessFlags := 26, slot := 0, constantValue := 0 }, { name := "DEFAULT_CAPACITY", type := .int, accessFlags := 26, slot := 1, constantValue := 0 }, { name := "EMPTY_ELEMENTDATA", type := (.array (.object "java/lang/Object")), accessFlags := 26, slot := 2, constantValue := 0 }, { name := "DEFAULTCAPACITY_EMPTY_ELEMENTDATA", type := (.array (.object "java/lang/Object")), accessFlags := 26, slot := 3, constantValue := 0 }, { name := "elementData", type := (.array (.object "java/lang/Object")), accessFlags := 128, slot := 1, constantValue := 0 }, { name := "size", type := .int, accessFlags := 2, slot := 2, constantValue := 0 }]
  methods := #[k19m0]
  instanceTypes := #[.int, (.array (.object "java/lang/Object")), .int]
  staticTypes := #[.long, .int, (.array (.object "java/lang/Object")), (.array (.object "java/lang/Object"))]
  resolved := Array.replicate 509 none
  statics := some 1 }

def pool20 : Array CpInfo := pool [(1, .methodref 2 3), (0, .class_ 4), (0, .nameAndType 5 6), (0, u "java/lang/Record"), (0, u "<init>"), (0, u "()V"), (0, .fieldref 8 9), (0, .class_ 10), (0, .nameAndType 11 12), (0, u "com/example/adder/adder/SqlPiece"), (0, u "sql"), (0, u "Ljava/lang/String;"), (0, .fieldref 8 14), (0, .nameAndType 15 16), (0, u "line"), (0, u "I"), (0, .methodref 18 19), (0, .class_ 20), (0, .nameAndType 21 22), (0, u "com/example/adder/adder/Lexicon$Statement"), (0, u "start"), (0, u "()I"), (0, .methodref 18 24), (0, .nameAndType 25 22), (0, u "end"), (0, .methodref 27 28), (0, .class_ 29), (0, .nameAndType 30 31), (0, u "java/lang/String"), (0, u "substring"), (0, u "(II)Ljava/lang/String;"), (0, .methodref 18 33), (0, .nameAndType 15 22), (0, .methodref 8 35), (0, .nameAndType 5 36), (0, u "(Ljava/lang/String;I)V"), (15, u "of"), (0, u "(Ljava/lang/String;Lcom/example/adder/adder/Lexicon$Statement;)Lcom/example/adder/adder/SqlPiece;"), (0, u "()Ljava/lang/String;")] 25

def k20c0 : Code := { maxStack := 2, maxLocals := 3, code := prog_41_method_1_code, exceptionTable := #[], attributes := #[] }
def k20m0 : Method := { name := "<init>", desc := "(Ljava/lang/String;I)V", sig := { parameters := [(.object "java/lang/String"), .int], returnType := none }, accessFlags := 0, code := some k20c0 }
def k20c1 : Code := { maxStack := 5, maxLocals := 2, code := prog_41_method_2_code, exceptionTable := #[], attributes := #[] }
def k20m1 : Method := { name := "of", desc := "(Ljava/lang/String;Lcom/example/adder/adder/Lexicon$Statement;)Lcom/example/adder/adder/SqlPiece;", sig := { parameters := [(.object "java/lang/String"), (.object "com/example/adder/adder/Lexicon$Statement")], returnType := some (.object "com/example/adder/adder/SqlPiece") }, accessFlags := 8, code := some k20c1 }
def k20c2 : Code := { maxStack := 1, maxLocals := 1, code := prog_41_method_6_code, exceptionTable := #[], attributes := #[] }
def k20m2 : Method := { name := "sql", desc := "()Ljava/lang/String;", sig := { parameters := [], returnType := some (.object "java/lang/String") }, accessFlags := 1, code := some k20c2 }
def k20c3 : Code := { maxStack := 1, maxLocals := 1, code := prog_41_method_7_code, exceptionTable := #[], attributes := #[] }
def k20m3 : Method := { name := "line", desc := "()I", sig := { parameters := [], returnType := some .int }, accessFlags := 1, code := some k20c3 }
/-- com/example/adder/adder/SqlPiece -/
def k20 : Class := { plain "com/example/adder/adder/SqlPiece" (some 9) with
  accessFlags := 48
  interfaces := #[]
  cf := some (fileOf pool20 8 #[] #[{ accessFlags := 0, nameIndex := 5, descriptorIndex := 36, attributes := #[] }, { accessFlags := 8, nameIndex := 52, descriptorIndex := 53, attributes := #[] }, { accessFlags := 1, nameIndex := 11, descriptorIndex := 54, attributes := #[] }, { accessFlags := 1, nameIndex := 15, descriptorIndex := 22, attributes := #[] }] 48 2 #[] #[{ accessFlags := 18, nameIndex := 11, descriptorIndex := 12, attributes := #[] }, { accessFlags := 18, nameIndex := 15, descriptorIndex := 16, attributes := #[] }])
  fields := #[{ name := "sql", type := (.object "java/lang/String"), accessFlags := 18, slot := 0, constantValue := 0 }, { name := "line", type := .int, accessFlags := 18, slot := 1, constantValue := 0 }]
  methods := #[k20m0, k20m1, k20m2, k20m3]
  instanceTypes := #[(.object "java/lang/String"), .int]
  staticTypes := #[]
  resolved := Array.replicate 80 none
  statics := none }

def pool21 : Array CpInfo := pool [(2, .class_ 4), (1, u "java/lang/Object"), (0, u "<init>"), (0, u "()V"), (17, .class_ 26), (1, u "jdk/internal/util/Preconditions"), (6, u "checkIndex"), (13, u "checkFromToIndex"), (7, .class_ 56), (0, u "jdk/internal/util/Preconditions$4"), (57, .class_ 115), (0, u "jdk/internal/util/Preconditions$1"), (7, u "SIOOBE_FORMATTER"), (0, u "Ljava/util/function/BiFunction;"), (0, .class_ 126), (0, u "jdk/internal/util/Preconditions$2"), (3, u "AIOOBE_FORMATTER"), (0, .class_ 132), (0, u "jdk/internal/util/Preconditions$3"), (3, u "IOOBE_FORMATTER"), (41, u "(IILjava/util/function/BiFunction;)I"), (4, u "(IIILjava/util/function/BiFunction;)I")] 10

def k21m0 : Method := { name := "<init>", desc := "()V", sig := { parameters := [], returnType := none }, accessFlags := 1, code := none }
def k21c1 : Code := { maxStack := 3, maxLocals := 3, code := jdk_41_method_11_code, exceptionTable := #[], attributes := #[] }
def k21m1 : Method := { name := "checkIndex", desc := "(IILjava/util/function/BiFunction;)I", sig := { parameters := [.int, .int, (.object "java/util/function/BiFunction")], returnType := some .int }, accessFlags := 9, code := some k21c1 }
def k21c2 : Code := { maxStack := 4, maxLocals := 4, code := jdk_41_method_12_code, exceptionTable := #[], attributes := #[] }
def k21m2 : Method := { name := "checkFromToIndex", desc := "(IIILjava/util/function/BiFunction;)I", sig := { parameters := [.int, .int, .int, (.object "java/util/function/BiFunction")], returnType := some .int }, accessFlags := 9, code := some k21c2 }
/-- jdk/internal/util/Preconditions -/
def k21 : Class := { plain "jdk/internal/util/Preconditions" (some 0) with
  accessFlags := 33
  interfaces := #[]
  cf := some (fileOf pool21 24 #[.nestMembers #[55, 131, 125, 114]] #[{ accessFlags := 1, nameIndex := 5, descriptorIndex := 6, attributes := #[] }, { accessFlags := 9, nameIndex := 33, descriptorIndex := 178, attributes := #[] }, { accessFlags := 9, nameIndex := 47, descriptorIndex := 183, attributes := #[] }] 33 2 #[] #[{ accessFlags := 25, nameIndex := 123, descriptorIndex := 124, attributes := #[] }, { accessFlags := 25, nameIndex := 130, descriptorIndex := 124, attributes := #[] }, { accessFlags := 25, nameIndex := 136, descriptorIndex := 124, attributes := #[] }])
  fields := #[{ name := "SIOOBE_FORMATTER", type := (.object "java/util/function/BiFunction"), accessFlags := 25, slot := 0, constantValue := 0 }, { name := "AIOOBE_FORMATTER", type := (.object "java/util/function/BiFunction"), accessFlags := 25, slot := 1, constantValue := 0 }, { name := "IOOBE_FORMATTER", type := (.object "java/util/function/BiFunction"), accessFlags := 25, slot := 2, constantValue := 0 }]
  methods := #[k21m0, k21m1, k21m2]
  instanceTypes := #[]
  staticTypes := #[(.object "java/util/function/BiFunction"), (.object "java/util/function/BiFunction"), (.object "java/util/function/BiFunction")]
  resolved := Array.replicate 194 none
  statics := some 2 }

def pool22 : Array CpInfo := pool [(1, .class_ 2), (0, u "java/lang/String"), (1, .class_ 6), (1, u "java/lang/Object"), (0, u "<init>"), (0, u "()V"), (0, .methodref 1 10), (0, .nameAndType 11 12), (0, u "checkIndex"), (0, u "(II)V"), (1, .class_ 16), (1, u "java/lang/StringLatin1"), (36, u "([BI)C"), (58, .methodref 1 113), (0, .nameAndType 7 114), (0, u "([BB)V"), (6, u "$assertionsDisabled"), (0, u "Z"), (8, .class_ 133), (1, u "java/util/Arrays"), (17, .string 152), (0, u ""), (43, u "newString"), (0, u "([BII)Ljava/lang/String;"), (23, .class_ 223), (1, u "java/lang/StringLatin1$LinesSpliterator"), (8, .methodref 131 233), (0, .nameAndType 234 235), (0, u "copyOfRange"), (0, u "([BII)[B"), (16, u "charAt"), (137, .class_ 391), (0, u "java/lang/StringLatin1$CharsSpliterator")] 3

def k22m0 : Method := { name := "<init>", desc := "()V", sig := { parameters := [], returnType := none }, accessFlags := 0, code := none }
def k22c1 : Code := { maxStack := 2, maxLocals := 2, code := jdk_43_method_2_code, exceptionTable := #[], attributes := #[] }
def k22m1 : Method := { name := "charAt", desc := "([BI)C", sig := { parameters := [(.array .byte), .int], returnType := some .char }, accessFlags := 9, code := some k22c1 }
def k22c2 : Code := { maxStack := 6, maxLocals := 3, code := jdk_43_method_47_code, exceptionTable := #[], attributes := #[] }
def k22m2 : Method := { name := "newString", desc := "([BII)Ljava/lang/String;", sig := { parameters := [(.array .byte), .int, .int], returnType := some (.object "java/lang/String") }, accessFlags := 9, code := some k22c2 }
/-- java/lang/StringLatin1 -/
def k22 : Class := { plain "java/lang/StringLatin1" (some 0) with
  accessFlags := 48
  interfaces := #[]
  cf := some (fileOf pool22 14 #[.nestMembers #[390, 221]] #[{ accessFlags := 0, nameIndex := 7, descriptorIndex := 8, attributes := #[] }, { accessFlags := 9, nameIndex := 252, descriptorIndex := 53, attributes := #[] }, { accessFlags := 9, nameIndex := 196, descriptorIndex := 197, attributes := #[] }] 48 4 #[] #[{ accessFlags := 4120, nameIndex := 121, descriptorIndex := 122, attributes := #[] }])
  fields := #[{ name := "$assertionsDisabled", type := .boolean, accessFlags := 4120, slot := 0, constantValue := 0 }]
  methods := #[k22m0, k22m1, k22m2]
  instanceTypes := #[]
  staticTypes := #[.boolean]
  resolved := Array.replicate 395 none
  statics := none }

def pool23 : Array CpInfo := pool [(2, .class_ 4), (1, u "java/lang/Object"), (0, u "<init>"), (0, u "()V"), (7, .class_ 16), (1, u "java/util/Arrays"), (57, .class_ 76), (1, u "java/util/Arrays$NaturalOrder"), (36, .class_ 115), (1, u "java/util/Arrays$LegacyMergeSort"), (1, u "Z"), (21, u "copyOfRange"), (10, .methodref 151 152), (0, .class_ 153), (0, .nameAndType 154 155), (0, u "java/lang/System"), (0, u "arraycopy"), (0, u "(Ljava/lang/Object;ILjava/lang/Object;II)V"), (148, .methodref 305 306), (0, .class_ 307), (0, .nameAndType 308 309), (0, u "java/lang/Math"), (0, u "min"), (0, u "(II)I"), (29, .methodref 14 340), (0, .nameAndType 341 342), (0, u "copyOfRangeByte"), (0, u "([BII)[B"), (0, .methodref 14 344), (0, .nameAndType 345 346), (0, u "checkLength"), (0, u "(II)V"), (28, .class_ 376), (0, u "java/util/Arrays$ArrayList"), (68, u "$assertionsDisabled"), (269, u "MIN_ARRAY_SORT_GRAN"), (0, u "I"), (2, u "INSERTIONSORT_THRESHOLD"), (255, .class_ 976), (0, u "java/util/Arrays$ArrayItr")] 52

def k23m0 : Method := { name := "<init>", desc := "()V", sig := { parameters := [], returnType := none }, accessFlags := 2, code := none }
def k23c1 : Code := { maxStack := 4, maxLocals := 2, code := jdk_65_method_131_code, exceptionTable := #[], attributes := #[] }
def k23m1 : Method := { name := "checkLength", desc := "(II)V", sig := { parameters := [.int, .int], returnType := none }, accessFlags := 10, code := some k23c1 }
def k23c2 : Code := { maxStack := 3, maxLocals := 3, code := jdk_65_method_132_code, exceptionTable := #[], attributes := #[] }
def k23m2 : Method := { name := "copyOfRange", desc := "([BII)[B", sig := { parameters := [(.array .byte), .int, .int], returnType := some (.array .byte) }, accessFlags := 9, code := some k23c2 }
def k23c3 : Code := { maxStack := 6, maxLocals := 5, code := jdk_65_method_133_code, exceptionTable := #[], attributes := #[] }
def k23m3 : Method := { name := "copyOfRangeByte", desc := "([BII)[B", sig := { parameters := [(.array .byte), .int, .int], returnType := some (.array .byte) }, accessFlags := 10, code := some k23c3 }
/-- java/util/Arrays -/
def k23 : Class := { plain "java/util/Arrays" (some 0) with
  accessFlags := 49
  interfaces := #[]
  cf := some (fileOf pool23 14 #[.nestMembers #[975, 375, 113, 74]] #[{ accessFlags := 2, nameIndex := 5, descriptorIndex := 6, attributes := #[] }, { accessFlags := 10, nameIndex := 345, descriptorIndex := 346, attributes := #[] }, { accessFlags := 9, nameIndex := 139, descriptorIndex := 342, attributes := #[] }, { accessFlags := 10, nameIndex := 341, descriptorIndex := 342, attributes := #[] }] 49 2 #[] #[{ accessFlags := 26, nameIndex := 715, descriptorIndex := 716, attributes := #[] }, { accessFlags := 26, nameIndex := 719, descriptorIndex := 716, attributes := #[] }, { accessFlags := 4120, nameIndex := 445, descriptorIndex := 117, attributes := #[] }])
  fields := #[{ name := "MIN_ARRAY_SORT_GRAN", type := .int, accessFlags := 26, slot := 0, constantValue := 0 }, { name := "INSERTIONSORT_THRESHOLD", type := .int, accessFlags := 26, slot := 1, constantValue := 0 }, { name := "$assertionsDisabled", type := .boolean, accessFlags := 4120, slot := 2, constantValue := 0 }]
  methods := #[k23m0, k23m1, k23m2, k23m3]
  instanceTypes := #[]
  staticTypes := #[.int, .int, .boolean]
  resolved := Array.replicate 1029 none
  statics := none }

def pool24 : Array CpInfo := pool [(1, .class_ 2), (0, u "java/lang/Math"), (1, .class_ 6), (1, u "java/lang/Object"), (0, u "<init>"), (0, u "()V"), (89, .class_ 100), (1, u "java/lang/Math$RandomNumberGeneratorHolder"), (71, u "negativeZeroFloatBits"), (0, u "J"), (2, u "negativeZeroDoubleBits"), (24, u "min"), (43, u "$assertionsDisabled"), (0, u "Z"), (88, u "(II)I"), (2, u "twoToTheDoubleScaleDown"), (0, u "D"), (4, u "twoToTheDoubleScaleUp"), (9, u "E"), (3, u "PI"), (2, u "TAU"), (2, u "DEGREES_TO_RADIANS"), (0, u "RADIANS_TO_DEGREES")] 94

def k24m0 : Method := { name := "<init>", desc := "()V", sig := { parameters := [], returnType := none }, accessFlags := 2, code := none }
def k24c1 : Code := { maxStack := 2, maxLocals := 2, code := jdk_29_method_69_code, exceptionTable := #[], attributes := #[] }
def k24m1 : Method := { name := "min", desc := "(II)I", sig := { parameters := [.int, .int], returnType := some .int }, accessFlags := 9, code := some k24c1 }
/-- java/lang/Math -/
def k24 : Class := { plain "java/lang/Math" (some 0) with
  accessFlags := 49
  interfaces := #[]
  cf := some (fileOf pool24 1 #[.nestMembers #[98]] #[{ accessFlags := 2, nameIndex := 7, descriptorIndex := 8, attributes := #[] }, { accessFlags := 9, nameIndex := 201, descriptorIndex := 335, attributes := #[] }] 49 4 #[] #[{ accessFlags := 25, nameIndex := 354, descriptorIndex := 339, attributes := #[] }, { accessFlags := 25, nameIndex := 358, descriptorIndex := 339, attributes := #[] }, { accessFlags := 25, nameIndex := 361, descriptorIndex := 339, attributes := #[] }, { accessFlags := 26, nameIndex := 364, descriptorIndex := 339, attributes := #[] }, { accessFlags := 26, nameIndex := 365, descriptorIndex := 339, attributes := #[] }, { accessFlags := 26, nameIndex := 172, descriptorIndex := 173, attributes := #[] }, { accessFlags := 26, nameIndex := 176, descriptorIndex := 173, attributes := #[] }, { accessFlags := 8, nameIndex := 344, descriptorIndex := 339, attributes := #[] }, { accessFlags := 8, nameIndex := 338, descriptorIndex := 339, attributes := #[] }, { accessFlags := 4120, nameIndex := 245, descriptorIndex := 246, attributes := #[] }])
  fields := #[{ name := "E", type := .double, accessFlags := 25, slot := 0, constantValue := 0 }, { name := "PI", type := .double, accessFlags := 25, slot := 1, constantValue := 0 }, { name := "TAU", type := .double, accessFlags := 25, slot := 2, constantValue := 0 }, { name := "DEGREES_TO_RADIANS", type := .double, accessFlags := 26, slot := 3, constantValue := 0 }, { name := "RADIANS_TO_DEGREES", type := .double, accessFlags := 26, slot := 4, constantValue := 0 }, { name := "negativeZeroFloatBits", type := .long, accessFlags := 26, slot := 5, constantValue := 0 }, { name := "negativeZeroDoubleBits", type := .long, accessFlags := 26, slot := 6, constantValue := 0 }, { name := "twoToTheDoubleScaleUp", type := .double, accessFlags := 8, slot := 7, constantValue := 0 }, { name := "twoToTheDoubleScaleDown", type := .double, accessFlags := 8, slot := 8, constantValue := 0 }, { name := "$assertionsDisabled", type := .boolean, accessFlags := 4120, slot := 9, constantValue := 0 }]
  methods := #[k24m0, k24m1]
  instanceTypes := #[]
  staticTypes := #[.double, .double, .double, .double, .double, .long, .long, .double, .double, .boolean]
  resolved := Array.replicate 460 none
  statics := none }

def pool25 : Array CpInfo := pool [(2, .class_ 4), (1, u "java/lang/Object"), (0, u "<init>"), (0, u "()V"), (1, .class_ 10), (1, u "java/lang/System"), (0, u "allowSecurityManager"), (0, u "I"), (16, u "cons"), (0, u "Ljava/io/Console;"), (77, .class_ 110), (1, u "java/lang/System$CallersHolder"), (43, u "initialErrStream"), (0, u "Ljava/io/PrintStream;"), (19, u "security"), (0, u "Ljava/lang/SecurityManager;"), (31, .class_ 209), (0, u "java/lang/System$1"), (7, u "props"), (0, u "Ljava/util/Properties;"), (2, u "lineSeparator"), (0, u "Ljava/lang/String;"), (96, .class_ 321), (1, u "java/lang/System$LoggerFinder"), (5, .class_ 328), (0, u "java/lang/System$Logger"), (67, u "err"), (2, u "out"), (91, u "notSupportedJnuEncoding"), (15, u "in"), (17, u "initialIn"), (0, u "Ljava/io/InputStream;"), (35, u "bootLayer"), (0, u "Ljava/lang/ModuleLayer;"), (99, .class_ 664), (0, u "java/lang/System$2"), (9, u "NEVER"), (2, u "MAYBE"), (49, u "arraycopy"), (0, u "(Ljava/lang/Object;ILjava/lang/Object;II)V"), (72, .class_ 802), (0, u "java/lang/System$Logger$Level")] 31

def k25m0 : Method := { name := "<init>", desc := "()V", sig := { parameters := [], returnType := none }, accessFlags := 2, code := none }
def k25m1 : Method := { name := "arraycopy", desc := "(Ljava/lang/Object;ILjava/lang/Object;II)V", sig := { parameters := [(.object "java/lang/Object"), .int, (.object "java/lang/Object"), .int, .int], returnType := none }, accessFlags := 265, code := none }
/-- java/lang/System -/
def k25 : Class := { plain "java/lang/System" (some 0) with
  accessFlags := 49
  interfaces := #[]
  cf := some (fileOf pool25 8 #[.nestMembers #[319, 327, 801, 108, 663, 208]] #[{ accessFlags := 2, nameIndex := 5, descriptorIndex := 6, attributes := #[] }, { accessFlags := 265, nameIndex := 727, descriptorIndex := 728, attributes := #[] }] 49 2 #[] #[{ accessFlags := 25, nameIndex := 507, descriptorIndex := 526, attributes := #[] }, { accessFlags := 25, nameIndex := 399, descriptorIndex := 155, attributes := #[] }, { accessFlags := 25, nameIndex := 396, descriptorIndex := 155, attributes := #[] }, { accessFlags := 10, nameIndex := 525, descriptorIndex := 526, attributes := #[] }, { accessFlags := 26, nameIndex := 674, descriptorIndex := 12, attributes := #[] }, { accessFlags := 26, nameIndex := 677, descriptorIndex := 12, attributes := #[] }, { accessFlags := 10, nameIndex := 11, descriptorIndex := 12, attributes := #[] }, { accessFlags := 74, nameIndex := 175, descriptorIndex := 176, attributes := #[] }, { accessFlags := 10, nameIndex := 491, descriptorIndex := 222, attributes := #[] }, { accessFlags := 74, nameIndex := 29, descriptorIndex := 30, attributes := #[] }, { accessFlags := 74, nameIndex := 154, descriptorIndex := 155, attributes := #[] }, { accessFlags := 10, nameIndex := 217, descriptorIndex := 218, attributes := #[] }, { accessFlags := 10, nameIndex := 221, descriptorIndex := 222, attributes := #[] }, { accessFlags := 8, nameIndex := 562, descriptorIndex := 563, attributes := #[] }])
  fields := #[{ name := "in", type := (.object "java/io/InputStream"), accessFlags := 25, slot := 0, constantValue := 0 }, { name := "out", type := (.object "java/io/PrintStream"), accessFlags := 25, slot := 1, constantValue := 0 }, { name := "err", type := (.object "java/io/PrintStream"), accessFlags := 25, slot := 2, constantValue := 0 }, { name := "initialIn", type := (.object "java/io/InputStream"), accessFlags := 10, slot := 3, constantValue := 0 }, { name := "NEVER", type := .int, accessFlags := 26, slot := 4, constantValue := 0 }, { name := "MAYBE", type := .int, accessFlags := 26, slot := 5, constantValue := 0 }, { name := "allowSecurityManager", type := .int, accessFlags := 10, slot := 6, constantValue := 0 }, { name := "security", type := (.object "java/lang/SecurityManager"), accessFlags := 74, slot := 7, constantValue := 0 }, { name := "notSupportedJnuEncoding", type := (.object "java/lang/String"), accessFlags := 10, slot := 8, constantValue := 0 }, { name := "cons", type := (.object "java/io/Console"), accessFlags := 74, slot := 9, constantValue := 0 }, { name := "initialErrStream", type := (.object "java/io/PrintStream"), accessFlags := 74, slot := 10, constantValue := 0 }, { name := "props", type := (.object "java/util/Properties"), accessFlags := 10, slot := 11, constantValue := 0 }, { name := "lineSeparator", type := (.object "java/lang/String"), accessFlags := 10, slot := 12, constantValue := 0 }, { name := "bootLayer", type := (.object "java/lang/ModuleLayer"), accessFlags := 8, slot := 13, constantValue := 0 }]
  methods := #[k25m0, k25m1]
  instanceTypes := #[]
  staticTypes := #[(.object "java/io/InputStream"), (.object "java/io/PrintStream"), (.object "java/io/PrintStream"), (.object "java/io/InputStream"), .int, .int, .int, (.object "java/lang/SecurityManager"), (.object "java/lang/String"), (.object "java/io/Console"), (.object "java/io/PrintStream"), (.object "java/util/Properties"), (.object "java/lang/String"), (.object "java/lang/ModuleLayer")]
  resolved := Array.replicate 834 none
  statics := none }

def pool26 : Array CpInfo := pool [(9, u "<init>"), (6, .class_ 18), (1, u "java/lang/Object"), (0, u "()V"), (1, .class_ 23), (1, u "jdk/internal/util/ArraysSupport"), (0, u "LOG2_ARRAY_LONG_INDEX_SCALE"), (0, u "I"), (2, u "U"), (0, u "Ljdk/internal/misc/Unsafe;"), (8, u "BIG_ENDIAN"), (0, u "Z"), (8, u "LOG2_BYTE_BIT_SIZE"), (4, u "LOG2_ARRAY_INT_INDEX_SCALE"), (54, u "JLA"), (0, u "Ljdk/internal/access/JavaLangAccess;"), (11, u "LOG2_ARRAY_BOOLEAN_INDEX_SCALE"), (9, u "LOG2_ARRAY_BYTE_INDEX_SCALE"), (5, u "LOG2_ARRAY_CHAR_INDEX_SCALE"), (5, u "LOG2_ARRAY_SHORT_INDEX_SCALE"), (18, u "LOG2_ARRAY_FLOAT_INDEX_SCALE"), (24, u "LOG2_ARRAY_DOUBLE_INDEX_SCALE"), (89, u "T_BOOLEAN"), (2, u "T_CHAR"), (1, u "T_FLOAT"), (1, u "T_DOUBLE"), (1, u "T_BYTE"), (1, u "T_SHORT"), (1, u "T_INT"), (1, u "T_LONG"), (1, u "SOFT_MAX_ARRAY_LENGTH")] 83

def k26m0 : Method := { name := "<init>", desc := "()V", sig := { parameters := [], returnType := none }, accessFlags := 2, code := none }
/-- jdk/internal/util/ArraysSupport -/
def k26 : Class := { plain "jdk/internal/util/ArraysSupport" (some 0) with
  accessFlags := 33
  interfaces := #[]
  cf := some (fileOf pool26 21 #[] #[{ accessFlags := 2, nameIndex := 9, descriptorIndex := 19, attributes := #[] }] 33 16 #[] #[{ accessFlags := 24, nameIndex := 28, descriptorIndex := 29, attributes := #[] }, { accessFlags := 26, nameIndex := 38, descriptorIndex := 39, attributes := #[] }, { accessFlags := 25, nameIndex := 121, descriptorIndex := 25, attributes := #[] }, { accessFlags := 25, nameIndex := 131, descriptorIndex := 25, attributes := #[] }, { accessFlags := 25, nameIndex := 137, descriptorIndex := 25, attributes := #[] }, { accessFlags := 25, nameIndex := 143, descriptorIndex := 25, attributes := #[] }, { accessFlags := 25, nameIndex := 53, descriptorIndex := 25, attributes := #[] }, { accessFlags := 25, nameIndex := 24, descriptorIndex := 25, attributes := #[] }, { accessFlags := 25, nameIndex := 162, descriptorIndex := 25, attributes := #[] }, { accessFlags := 25, nameIndex := 187, descriptorIndex := 25, attributes := #[] }, { accessFlags := 26, nameIndex := 48, descriptorIndex := 25, attributes := #[] }, { accessFlags := 25, nameIndex := 277, descriptorIndex := 25, attributes := #[] }, { accessFlags := 25, nameIndex := 280, descriptorIndex := 25, attributes := #[] }, { accessFlags := 25, nameIndex := 282, descriptorIndex := 25, attributes := #[] }, { accessFlags := 25, nameIndex := 284, descriptorIndex := 25, attributes := #[] }, { accessFlags := 25, nameIndex := 286, descriptorIndex := 25, attributes := #[] }, { accessFlags := 25, nameIndex := 288, descriptorIndex := 25, attributes := #[] }, { accessFlags := 25, nameIndex := 290, descriptorIndex := 25, attributes := #[] }, { accessFlags := 25, nameIndex := 292, descriptorIndex := 25, attributes := #[] }, { accessFlags := 26, nameIndex := 108, descriptorIndex := 109, attributes := #[] }, { accessFlags := 25, nameIndex := 294, descriptorIndex := 25, attributes := #[] }])
  fields := #[{ name := "U", type := (.object "jdk/internal/misc/Unsafe"), accessFlags := 24, slot := 0, constantValue := 0 }, { name := "BIG_ENDIAN", type := .boolean, accessFlags := 26, slot := 1, constantValue := 0 }, { name := "LOG2_ARRAY_BOOLEAN_INDEX_SCALE", type := .int, accessFlags := 25, slot := 2, constantValue := 0 }, { name := "LOG2_ARRAY_BYTE_INDEX_SCALE", type := .int, accessFlags := 25, slot := 3, constantValue := 0 }, { name := "LOG2_ARRAY_CHAR_INDEX_SCALE", type := .int, accessFlags := 25, slot := 4, constantValue := 0 }, { name := "LOG2_ARRAY_SHORT_INDEX_SCALE", type := .int, accessFlags := 25, slot := 5, constantValue := 0 }, { name := "LOG2_ARRAY_INT_INDEX_SCALE", type := .int, accessFlags := 25, slot := 6, constantValue := 0 }, { name := "LOG2_ARRAY_LONG_INDEX_SCALE", type := .int, accessFlags := 25, slot := 7, constantValue := 0 }, { name := "LOG2_ARRAY_FLOAT_INDEX_SCALE", type := .int, accessFlags := 25, slot := 8, constantValue := 0 }, { name := "LOG2_ARRAY_DOUBLE_INDEX_SCALE", type := .int, accessFlags := 25, slot := 9, constantValue := 0 }, { name := "LOG2_BYTE_BIT_SIZE", type := .int, accessFlags := 26, slot := 10, constantValue := 0 }, { name := "T_BOOLEAN", type := .int, accessFlags := 25, slot := 11, constantValue := 0 }, { name := "T_CHAR", type := .int, accessFlags := 25, slot := 12, constantValue := 0 }, { name := "T_FLOAT", type := .int, accessFlags := 25, slot := 13, constantValue := 0 }, { name := "T_DOUBLE", type := .int, accessFlags := 25, slot := 14, constantValue := 0 }, { name := "T_BYTE", type := .int, accessFlags := 25, slot := 15, constantValue := 0 }, { name := "T_SHORT", type := .int, accessFlags := 25, slot := 16, constantValue := 0 }, { name := "T_INT", type := .int, accessFlags := 25, slot := 17, constantValue := 0 }, { name := "T_LONG", type := .int, accessFlags := 25, slot := 18, constantValue := 0 }, { name := "JLA", type := (.object "jdk/internal/access/JavaLangAccess"), accessFlags := 26, slot := 19, constantValue := 0 }, { name := "SOFT_MAX_ARRAY_LENGTH", type := .int, accessFlags := 25, slot := 20, constantValue := 0 }]
  methods := #[k26m0]
  instanceTypes := #[]
  staticTypes := #[(.object "jdk/internal/misc/Unsafe"), .boolean, .int, .int, .int, .int, .int, .int, .int, .int, .int, .int, .int, .int, .int, .int, .int, .int, .int, (.object "jdk/internal/access/JavaLangAccess"), .int]
  resolved := Array.replicate 378 none
  statics := none }

/-- the primitive byte -/
def k27 : Class := { plain "byte" none with kind := .primitive 'B', accessFlags := 0x411 }
/-- [B -/
def k28 : Class := { plain "[B" (some 0) with kind := .array 27 .byte, interfaces := #[18, 2], accessFlags := 1041 }

/-- the primitive char -/
def k29 : Class := { plain "char" none with kind := .primitive 'C', accessFlags := 0x411 }
/-- [C -/
def k30 : Class := { plain "[C" (some 0) with kind := .array 29 .char, interfaces := #[18, 2], accessFlags := 1041 }

/-- the primitive int -/
def k31 : Class := { plain "int" none with kind := .primitive 'I', accessFlags := 0x411 }
/-- [I -/
def k32 : Class := { plain "[I" (some 0) with kind := .array 31 .int, interfaces := #[18, 2], accessFlags := 1041 }

/-- [Ljava/lang/Object; -/
def k33 : Class := { plain "[Ljava/lang/Object;" (some 0) with kind := .array 0 (.object "java/lang/Object"), interfaces := #[18, 2], accessFlags := 1041 }

def heap : Heap := #[{ cls := 7, slots := #[.long 0, .int 1, .null, .int 0, .null, .int 0, .int 0], vm := .statics 7 },
  { cls := 19, slots := #[.long 0, .int 0, .ref 3, .ref 4], vm := .statics 19 },
  { cls := 21, slots := #[.null, .null, .null], vm := .statics 21 },
  { cls := 33, slots := #[], vm := .none },
  { cls := 33, slots := #[], vm := .none }]
def classes : Array Class := #[k0, k1, k2, k3, k4, k5, k6, k7, k8, k9, k10, k11, k12, k13, k14, k15, k16, k17, k18, k19, k20, k21, k22, k23, k24, k25, k26, k27, k28, k29, k30, k31, k32, k33]
def interned : List (Array UInt16 × Addr) := []
def slotsUsed : Nat := 14
def theMethod : MethodId := ⟨1, 2⟩
def args0 : Array Value := #[.int 5, .int 6, .int 7, .int 8]
def aboutOver (below : List Frame) : State where
  vm := { classes := classes, interned := interned.toArray }
  heap := heap
  slotsUsed := slotsUsed
  threads := #[{ frames := .invoking theMethod args0 :: below }]
def below0 : List Frame := [.native { method := ⟨0, 0⟩, args := #[] }]
def about1 : State := aboutOver below0
def p0 : Program := .bare "" "" ""
def e0 : Env := launch0.env 0 0 0
theorem w_frames : about1.frames = Frame.invoking theMethod args0 :: below0 := rfl
set_option maxRecDepth 65536 in
theorem w_args : argsFit about1.vm theMethod args0 = true := by decide +kernel
set_option maxRecDepth 65536 in
theorem w_heap : heapFits about1 = true := by decide +kernel
set_option maxRecDepth 65536 in
theorem w_runnable : about1.curStatus? = some .runnable := by decide +kernel
set_option maxRecDepth 65536 in
theorem w_alone : about1.alone = true := by decide +kernel
set_option maxRecDepth 65536 in
theorem w_named : about1.methodNamed? x = some theMethod := by decide +kernel
set_option maxRecDepth 65536 in
theorem w_hears : about1.hears theMethod below0 = true := by decide +kernel
set_option maxRecDepth 65536 in
theorem w_ripe : about1.ripe theMethod args0 below0 = true := by decide +kernel
theorem w_running : about1.status = .running := rfl
set_option maxRecDepth 65536 in
theorem w_room : about1.hasRoom e0.platform room_1 = true :=
  launch0.hasRoom_least _ room_1 (by decide +kernel) (by decide +kernel) (by decide +kernel) (by decide +kernel) (by decide +kernel) (by decide +kernel)
theorem allAtoms_all (ts : List Jvm.Cond) (a : Array Jvm.Value) (st : Jvm.State) : (allAtoms ts).before a st = ts.all (fun c => c.before a st) := by
  induction ts with
  | nil => rfl
  | cons c t ih =>
    show (Jvm.Cond.and c (allAtoms t)).before a st = _
    rw [Jvm.Cond.before_and, ih, List.all_cons]
def words1 : List Jvm.Cond := Jvm.Cond.code x code maxLocals ret :: tables_1
/-- a 'code' word, met by the world's own term for the bytes: nothing is compared byte by byte -/
theorem code_word {y : MethodName} {bytes : ByteArray} {mx : Nat} {rt : Option FieldType} {a : Array Value} {s : State} {m : MethodId} {meth : Method} {c : Code} (h1 : s.methodNamed? y = some m) (h2 : s.vm.method? m = some meth) (h3 : meth.code = some c) (h4 : c.code = bytes)
    (h5 : (c.maxLocals == mx && c.exceptionTable.isEmpty && decide (c.maxStack ≤ mostOperands) && decide (meth.sig.returnType = rt) && !meth.locks && decide (parseMethodDescriptor y.desc = some meth.sig)) = true) : (Jvm.Cond.code y bytes mx rt).before a s = true := by
  simp only [Bool.and_eq_true, beq_iff_eq, Bool.not_eq_true', decide_eq_true_eq] at h5
  obtain ⟨⟨⟨⟨⟨g1, g2⟩, g3⟩, g4⟩, g5⟩, g6⟩ := h5
  simp [Cond.before, Cond.holds, Cond.value, h1, h2, h3, h4, g1, g2, g3, g4, g5, g6]
def isCode : Jvm.Cond → Bool
  | .code _ _ _ _ => true
  | _ => false
theorem all_split {L : List Jvm.Cond} {P : Jvm.Cond → Bool} (h1 : L.all (fun c => isCode c || P c) = true) (h2 : ∀ c ∈ L.filter isCode, P c = true) : L.all P = true := by
  refine List.all_eq_true.mpr fun c hc => ?_
  have h := List.all_eq_true.mp h1 c hc
  rcases Bool.eq_false_or_eq_true (isCode c) with hi | hi
  · exact h2 c (List.mem_filter.mpr ⟨hc, hi⟩)
  · simpa [hi] using h
set_option maxRecDepth 65536 in
theorem w_c0 : (Jvm.Cond.code x code maxLocals ret).before args0 about1 = true := code_word (m := ⟨1, 2⟩) (meth := k1m2) (c := k1c2) (by decide +kernel) rfl rfl rfl (by decide +kernel)
set_option maxRecDepth 65536 in
theorem w_c1 : (Jvm.Cond.code ({ cls := "java/lang/String", name := "<init>", desc := "([C)V" } : Jvm.MethodName) jdk_42_method_3_code (2 : Nat) (Option.none : Option Jvm.ClassFile.FieldType)).before args0 about1 = true := code_word (m := ⟨7, 1⟩) (meth := k7m1) (c := k7c1) (by decide +kernel) rfl rfl rfl (by decide +kernel)
set_option maxRecDepth 65536 in
theorem w_c2 : (Jvm.Cond.code ({ cls := "java/lang/String", name := "<init>", desc := "([CIILjava/lang/Void;)V" } : Jvm.MethodName) jdk_42_method_149_code (6 : Nat) (Option.none : Option Jvm.ClassFile.FieldType)).before args0 about1 = true := code_word (m := ⟨7, 5⟩) (meth := k7m5) (c := k7c5) (by decide +kernel) rfl rfl rfl (by decide +kernel)
set_option maxRecDepth 65536 in
theorem w_c3 : (Jvm.Cond.code ({ cls := "java/lang/Object", name := "<init>", desc := "()V" } : Jvm.MethodName) object_method_1_code (1 : Nat) (Option.none : Option Jvm.ClassFile.FieldType)).before args0 about1 = true := code_word (m := ⟨0, 0⟩) (meth := k0m0) (c := k0c0) (by decide +kernel) rfl rfl rfl (by decide +kernel)
set_option maxRecDepth 65536 in
theorem w_c4 : (Jvm.Cond.code ({ cls := "java/lang/StringUTF16", name := "compress", desc := "([CII)[B" } : Jvm.MethodName) jdk_52_method_16_code (6 : Nat) (Option.some (Jvm.ClassFile.FieldType.array Jvm.ClassFile.FieldType.byte))).before args0 about1 = true := code_word (m := ⟨8, 2⟩) (meth := k8m2) (c := k8c2) (by decide +kernel) rfl rfl rfl (by decide +kernel)
set_option maxRecDepth 65536 in
theorem w_c5 : (Jvm.Cond.code ({ cls := "java/lang/StringUTF16", name := "compress", desc := "([CI[BII)I" } : Jvm.MethodName) jdk_52_method_21_code (7 : Nat) (Option.some Jvm.ClassFile.FieldType.int)).before args0 about1 = true := code_word (m := ⟨8, 3⟩) (meth := k8m3) (c := k8c3) (by decide +kernel) rfl rfl rfl (by decide +kernel)
set_option maxRecDepth 65536 in
theorem w_c6 : (Jvm.Cond.code ({ cls := "java/lang/StringUTF16", name := "coderFromArrayLen", desc := "([BI)B" } : Jvm.MethodName) jdk_52_method_15_code (2 : Nat) (Option.some Jvm.ClassFile.FieldType.byte)).before args0 about1 = true := code_word (m := ⟨8, 1⟩) (meth := k8m1) (c := k8c1) (by decide +kernel) rfl rfl rfl (by decide +kernel)
set_option maxRecDepth 65536 in
theorem w_c7 : (Jvm.Cond.code ({ cls := "java/util/ArrayList", name := "<init>", desc := "()V" } : Jvm.MethodName) jdk_38_method_2_code (1 : Nat) (Option.none : Option Jvm.ClassFile.FieldType)).before args0 about1 = true := code_word (m := ⟨19, 0⟩) (meth := k19m0) (c := k19c0) (by decide +kernel) rfl rfl rfl (by decide +kernel)
set_option maxRecDepth 65536 in
theorem w_c8 : (Jvm.Cond.code ({ cls := "java/util/AbstractList", name := "<init>", desc := "()V" } : Jvm.MethodName) jdk_39_method_1_code (1 : Nat) (Option.none : Option Jvm.ClassFile.FieldType)).before args0 about1 = true := code_word (m := ⟨16, 0⟩) (meth := k16m0) (c := k16c0) (by decide +kernel) rfl rfl rfl (by decide +kernel)
set_option maxRecDepth 65536 in
theorem w_c9 : (Jvm.Cond.code ({ cls := "java/util/AbstractCollection", name := "<init>", desc := "()V" } : Jvm.MethodName) jdk_22_method_1_code (1 : Nat) (Option.none : Option Jvm.ClassFile.FieldType)).before args0 about1 = true := code_word (m := ⟨13, 0⟩) (meth := k13m0) (c := k13c0) (by decide +kernel) rfl rfl rfl (by decide +kernel)
set_option maxRecDepth 65536 in
theorem w_c10 : (Jvm.Cond.code ({ cls := "com/example/adder/adder/Lexicon$Statement", name := "<init>", desc := "(IIILjava/util/List;)V" } : Jvm.MethodName) prog_27_method_1_code (5 : Nat) (Option.none : Option Jvm.ClassFile.FieldType)).before args0 about1 = true := code_word (m := ⟨10, 0⟩) (meth := k10m0) (c := k10c0) (by decide +kernel) rfl rfl rfl (by decide +kernel)
set_option maxRecDepth 65536 in
theorem w_c11 : (Jvm.Cond.code ({ cls := "java/lang/Record", name := "<init>", desc := "()V" } : Jvm.MethodName) jdk_30_method_1_code (1 : Nat) (Option.none : Option Jvm.ClassFile.FieldType)).before args0 about1 = true := code_word (m := ⟨9, 0⟩) (meth := k9m0) (c := k9c0) (by decide +kernel) rfl rfl rfl (by decide +kernel)
set_option maxRecDepth 65536 in
theorem w_c12 : (Jvm.Cond.code ({ cls := "com/example/adder/adder/SqlPiece", name := "of", desc := "(Ljava/lang/String;Lcom/example/adder/adder/Lexicon$Statement;)Lcom/example/adder/adder/SqlPiece;" } : Jvm.MethodName) prog_41_method_2_code (2 : Nat) (Option.some (Jvm.ClassFile.FieldType.object "com/example/adder/adder/SqlPiece"))).before args0 about1 = true := code_word (m := ⟨20, 1⟩) (meth := k20m1) (c := k20c1) (by decide +kernel) rfl rfl rfl (by decide +kernel)
set_option maxRecDepth 65536 in
theorem w_c13 : (Jvm.Cond.code ({ cls := "com/example/adder/adder/Lexicon$Statement", name := "start", desc := "()I" } : Jvm.MethodName) prog_27_method_7_code (1 : Nat) (Option.some Jvm.ClassFile.FieldType.int)).before args0 about1 = true := code_word (m := ⟨10, 1⟩) (meth := k10m1) (c := k10c1) (by decide +kernel) rfl rfl rfl (by decide +kernel)
set_option maxRecDepth 65536 in
theorem w_c14 : (Jvm.Cond.code ({ cls := "com/example/adder/adder/Lexicon$Statement", name := "end", desc := "()I" } : Jvm.MethodName) prog_27_method_8_code (1 : Nat) (Option.some Jvm.ClassFile.FieldType.int)).before args0 about1 = true := code_word (m := ⟨10, 2⟩) (meth := k10m2) (c := k10c2) (by decide +kernel) rfl rfl rfl (by decide +kernel)
set_option maxRecDepth 65536 in
theorem w_c15 : (Jvm.Cond.code ({ cls := "java/lang/String", name := "substring", desc := "(II)Ljava/lang/String;" } : Jvm.MethodName) jdk_42_method_92_code (5 : Nat) (Option.some (Jvm.ClassFile.FieldType.object "java/lang/String"))).before args0 about1 = true := code_word (m := ⟨7, 4⟩) (meth := k7m4) (c := k7c4) (by decide +kernel) rfl rfl rfl (by decide +kernel)
set_option maxRecDepth 65536 in
theorem w_c16 : (Jvm.Cond.code ({ cls := "java/lang/String", name := "length", desc := "()I" } : Jvm.MethodName) jdk_42_method_54_code (1 : Nat) (Option.some Jvm.ClassFile.FieldType.int)).before args0 about1 = true := code_word (m := ⟨7, 2⟩) (meth := k7m2) (c := k7c2) (by decide +kernel) rfl rfl rfl (by decide +kernel)
set_option maxRecDepth 65536 in
theorem w_c17 : (Jvm.Cond.code ({ cls := "java/lang/String", name := "coder", desc := "()B" } : Jvm.MethodName) jdk_42_method_152_code (1 : Nat) (Option.some Jvm.ClassFile.FieldType.byte)).before args0 about1 = true := code_word (m := ⟨7, 7⟩) (meth := k7m7) (c := k7c7) (by decide +kernel) rfl rfl rfl (by decide +kernel)
set_option maxRecDepth 65536 in
theorem w_c18 : (Jvm.Cond.code ({ cls := "java/lang/String", name := "checkBoundsBeginEnd", desc := "(III)V" } : Jvm.MethodName) jdk_42_method_158_code (3 : Nat) (Option.none : Option Jvm.ClassFile.FieldType)).before args0 about1 = true := code_word (m := ⟨7, 10⟩) (meth := k7m10) (c := k7c10) (by decide +kernel) rfl rfl rfl (by decide +kernel)
set_option maxRecDepth 65536 in
theorem w_c19 : (Jvm.Cond.code ({ cls := "jdk/internal/util/Preconditions", name := "checkFromToIndex", desc := "(IIILjava/util/function/BiFunction;)I" } : Jvm.MethodName) jdk_41_method_12_code (4 : Nat) (Option.some Jvm.ClassFile.FieldType.int)).before args0 about1 = true := code_word (m := ⟨21, 2⟩) (meth := k21m2) (c := k21c2) (by decide +kernel) rfl rfl rfl (by decide +kernel)
set_option maxRecDepth 65536 in
theorem w_c20 : (Jvm.Cond.code ({ cls := "java/lang/String", name := "isLatin1", desc := "()Z" } : Jvm.MethodName) jdk_42_method_154_code (1 : Nat) (Option.some Jvm.ClassFile.FieldType.boolean)).before args0 about1 = true := code_word (m := ⟨7, 8⟩) (meth := k7m8) (c := k7c8) (by decide +kernel) rfl rfl rfl (by decide +kernel)
set_option maxRecDepth 65536 in
theorem w_c21 : (Jvm.Cond.code ({ cls := "java/lang/StringLatin1", name := "newString", desc := "([BII)Ljava/lang/String;" } : Jvm.MethodName) jdk_43_method_47_code (3 : Nat) (Option.some (Jvm.ClassFile.FieldType.object "java/lang/String"))).before args0 about1 = true := code_word (m := ⟨22, 2⟩) (meth := k22m2) (c := k22c2) (by decide +kernel) rfl rfl rfl (by decide +kernel)
set_option maxRecDepth 65536 in
theorem w_c22 : (Jvm.Cond.code ({ cls := "com/example/adder/adder/Lexicon$Statement", name := "line", desc := "()I" } : Jvm.MethodName) prog_27_method_9_code (1 : Nat) (Option.some Jvm.ClassFile.FieldType.int)).before args0 about1 = true := code_word (m := ⟨10, 3⟩) (meth := k10m3) (c := k10c3) (by decide +kernel) rfl rfl rfl (by decide +kernel)
set_option maxRecDepth 65536 in
theorem w_c23 : (Jvm.Cond.code ({ cls := "com/example/adder/adder/SqlPiece", name := "<init>", desc := "(Ljava/lang/String;I)V" } : Jvm.MethodName) prog_41_method_1_code (3 : Nat) (Option.none : Option Jvm.ClassFile.FieldType)).before args0 about1 = true := code_word (m := ⟨20, 0⟩) (meth := k20m0) (c := k20c0) (by decide +kernel) rfl rfl rfl (by decide +kernel)
set_option maxRecDepth 65536 in
theorem w_c24 : (Jvm.Cond.code ({ cls := "com/example/adder/adder/SqlPiece", name := "sql", desc := "()Ljava/lang/String;" } : Jvm.MethodName) prog_41_method_6_code (1 : Nat) (Option.some (Jvm.ClassFile.FieldType.object "java/lang/String"))).before args0 about1 = true := code_word (m := ⟨20, 2⟩) (meth := k20m2) (c := k20c2) (by decide +kernel) rfl rfl rfl (by decide +kernel)
set_option maxRecDepth 65536 in
theorem w_c25 : (Jvm.Cond.code ({ cls := "com/example/adder/adder/SqlPiece", name := "line", desc := "()I" } : Jvm.MethodName) prog_41_method_7_code (1 : Nat) (Option.some Jvm.ClassFile.FieldType.int)).before args0 about1 = true := code_word (m := ⟨20, 3⟩) (meth := k20m3) (c := k20c3) (by decide +kernel) rfl rfl rfl (by decide +kernel)
set_option maxRecDepth 65536 in
theorem w_c26 : (Jvm.Cond.code ({ cls := "com/example/adder/adder/SqlPieceOfPinLaw", name := "at", desc := "(Ljava/lang/String;II[CI)Z" } : Jvm.MethodName) method_2_code (5 : Nat) (Option.some Jvm.ClassFile.FieldType.boolean)).before args0 about1 = true := code_word (m := ⟨1, 1⟩) (meth := k1m1) (c := k1c1) (by decide +kernel) rfl rfl rfl (by decide +kernel)
set_option maxRecDepth 65536 in
theorem w_c27 : (Jvm.Cond.code ({ cls := "java/util/Arrays", name := "copyOfRange", desc := "([BII)[B" } : Jvm.MethodName) jdk_65_method_132_code (3 : Nat) (Option.some (Jvm.ClassFile.FieldType.array Jvm.ClassFile.FieldType.byte))).before args0 about1 = true := code_word (m := ⟨23, 2⟩) (meth := k23m2) (c := k23c2) (by decide +kernel) rfl rfl rfl (by decide +kernel)
set_option maxRecDepth 65536 in
theorem w_c28 : (Jvm.Cond.code ({ cls := "java/util/Arrays", name := "copyOfRangeByte", desc := "([BII)[B" } : Jvm.MethodName) jdk_65_method_133_code (5 : Nat) (Option.some (Jvm.ClassFile.FieldType.array Jvm.ClassFile.FieldType.byte))).before args0 about1 = true := code_word (m := ⟨23, 3⟩) (meth := k23m3) (c := k23c3) (by decide +kernel) rfl rfl rfl (by decide +kernel)
set_option maxRecDepth 65536 in
theorem w_c29 : (Jvm.Cond.code ({ cls := "java/util/Arrays", name := "checkLength", desc := "(II)V" } : Jvm.MethodName) jdk_65_method_131_code (2 : Nat) (Option.none : Option Jvm.ClassFile.FieldType)).before args0 about1 = true := code_word (m := ⟨23, 1⟩) (meth := k23m1) (c := k23c1) (by decide +kernel) rfl rfl rfl (by decide +kernel)
set_option maxRecDepth 65536 in
theorem w_c30 : (Jvm.Cond.code ({ cls := "java/lang/Math", name := "min", desc := "(II)I" } : Jvm.MethodName) jdk_29_method_69_code (2 : Nat) (Option.some Jvm.ClassFile.FieldType.int)).before args0 about1 = true := code_word (m := ⟨24, 1⟩) (meth := k24m1) (c := k24c1) (by decide +kernel) rfl rfl rfl (by decide +kernel)
set_option maxRecDepth 65536 in
theorem w_c31 : (Jvm.Cond.code ({ cls := "java/lang/String", name := "<init>", desc := "([BB)V" } : Jvm.MethodName) jdk_42_method_151_code (3 : Nat) (Option.none : Option Jvm.ClassFile.FieldType)).before args0 about1 = true := code_word (m := ⟨7, 6⟩) (meth := k7m6) (c := k7c6) (by decide +kernel) rfl rfl rfl (by decide +kernel)
set_option maxRecDepth 65536 in
theorem w_c32 : (Jvm.Cond.code ({ cls := "java/lang/String", name := "charAt", desc := "(I)C" } : Jvm.MethodName) jdk_42_method_56_code (2 : Nat) (Option.some Jvm.ClassFile.FieldType.char)).before args0 about1 = true := code_word (m := ⟨7, 3⟩) (meth := k7m3) (c := k7c3) (by decide +kernel) rfl rfl rfl (by decide +kernel)
set_option maxRecDepth 65536 in
theorem w_c33 : (Jvm.Cond.code ({ cls := "java/lang/StringLatin1", name := "charAt", desc := "([BI)C" } : Jvm.MethodName) jdk_43_method_2_code (2 : Nat) (Option.some Jvm.ClassFile.FieldType.char)).before args0 about1 = true := code_word (m := ⟨22, 1⟩) (meth := k22m1) (c := k22c1) (by decide +kernel) rfl rfl rfl (by decide +kernel)
set_option maxRecDepth 65536 in
theorem w_c34 : (Jvm.Cond.code ({ cls := "java/lang/String", name := "checkIndex", desc := "(II)V" } : Jvm.MethodName) jdk_42_method_155_code (2 : Nat) (Option.none : Option Jvm.ClassFile.FieldType)).before args0 about1 = true := code_word (m := ⟨7, 9⟩) (meth := k7m9) (c := k7c9) (by decide +kernel) rfl rfl rfl (by decide +kernel)
set_option maxRecDepth 65536 in
theorem w_c35 : (Jvm.Cond.code ({ cls := "jdk/internal/util/Preconditions", name := "checkIndex", desc := "(IILjava/util/function/BiFunction;)I" } : Jvm.MethodName) jdk_41_method_11_code (3 : Nat) (Option.some Jvm.ClassFile.FieldType.int)).before args0 about1 = true := code_word (m := ⟨21, 1⟩) (meth := k21m1) (c := k21c1) (by decide +kernel) rfl rfl rfl (by decide +kernel)
def codes1 : List Jvm.Cond := [Jvm.Cond.code x code maxLocals ret, Jvm.Cond.code ({ cls := "java/lang/String", name := "<init>", desc := "([C)V" } : Jvm.MethodName) jdk_42_method_3_code (2 : Nat) (Option.none : Option Jvm.ClassFile.FieldType), Jvm.Cond.code ({ cls := "java/lang/String", name := "<init>", desc := "([CIILjava/lang/Void;)V" } : Jvm.MethodName) jdk_42_method_149_code (6 : Nat) (Option.none : Option Jvm.ClassFile.FieldType), Jvm.Cond.code ({ cls := "java/lang/Object", name := "<init>", desc := "()V" } : Jvm.MethodName) object_method_1_code (1 : Nat) (Option.none : Option Jvm.ClassFile.FieldType), Jvm.Cond.code ({ cls := "java/lang/StringUTF16", name := "compress", desc := "([CII)[B" } : Jvm.MethodName) jdk_52_method_16_code (6 : Nat) (Option.some (Jvm.ClassFile.FieldType.array Jvm.ClassFile.FieldType.byte)), Jvm.Cond.code ({ cls := "java/lang/StringUTF16", name := "compress", desc := "([CI[BII)I" } : Jvm.MethodName) jdk_52_method_21_code (7 : Nat) (Option.some Jvm.ClassFile.FieldType.int), Jvm.Cond.code ({ cls := "java/lang/StringUTF16", name := "coderFromArrayLen", desc := "([BI)B" } : Jvm.MethodName) jdk_52_method_15_code (2 : Nat) (Option.some Jvm.ClassFile.FieldType.byte), Jvm.Cond.code ({ cls := "java/util/ArrayList", name := "<init>", desc := "()V" } : Jvm.MethodName) jdk_38_method_2_code (1 : Nat) (Option.none : Option Jvm.ClassFile.FieldType), Jvm.Cond.code ({ cls := "java/util/AbstractList", name := "<init>", desc := "()V" } : Jvm.MethodName) jdk_39_method_1_code (1 : Nat) (Option.none : Option Jvm.ClassFile.FieldType), Jvm.Cond.code ({ cls := "java/util/AbstractCollection", name := "<init>", desc := "()V" } : Jvm.MethodName) jdk_22_method_1_code (1 : Nat) (Option.none : Option Jvm.ClassFile.FieldType), Jvm.Cond.code ({ cls := "com/example/adder/adder/Lexicon$Statement", name := "<init>", desc := "(IIILjava/util/List;)V" } : Jvm.MethodName) prog_27_method_1_code (5 : Nat) (Option.none : Option Jvm.ClassFile.FieldType), Jvm.Cond.code ({ cls := "java/lang/Record", name := "<init>", desc := "()V" } : Jvm.MethodName) jdk_30_method_1_code (1 : Nat) (Option.none : Option Jvm.ClassFile.FieldType), Jvm.Cond.code ({ cls := "com/example/adder/adder/SqlPiece", name := "of", desc := "(Ljava/lang/String;Lcom/example/adder/adder/Lexicon$Statement;)Lcom/example/adder/adder/SqlPiece;" } : Jvm.MethodName) prog_41_method_2_code (2 : Nat) (Option.some (Jvm.ClassFile.FieldType.object "com/example/adder/adder/SqlPiece")), Jvm.Cond.code ({ cls := "com/example/adder/adder/Lexicon$Statement", name := "start", desc := "()I" } : Jvm.MethodName) prog_27_method_7_code (1 : Nat) (Option.some Jvm.ClassFile.FieldType.int), Jvm.Cond.code ({ cls := "com/example/adder/adder/Lexicon$Statement", name := "end", desc := "()I" } : Jvm.MethodName) prog_27_method_8_code (1 : Nat) (Option.some Jvm.ClassFile.FieldType.int), Jvm.Cond.code ({ cls := "java/lang/String", name := "substring", desc := "(II)Ljava/lang/String;" } : Jvm.MethodName) jdk_42_method_92_code (5 : Nat) (Option.some (Jvm.ClassFile.FieldType.object "java/lang/String")), Jvm.Cond.code ({ cls := "java/lang/String", name := "length", desc := "()I" } : Jvm.MethodName) jdk_42_method_54_code (1 : Nat) (Option.some Jvm.ClassFile.FieldType.int), Jvm.Cond.code ({ cls := "java/lang/String", name := "coder", desc := "()B" } : Jvm.MethodName) jdk_42_method_152_code (1 : Nat) (Option.some Jvm.ClassFile.FieldType.byte), Jvm.Cond.code ({ cls := "java/lang/String", name := "checkBoundsBeginEnd", desc := "(III)V" } : Jvm.MethodName) jdk_42_method_158_code (3 : Nat) (Option.none : Option Jvm.ClassFile.FieldType), Jvm.Cond.code ({ cls := "jdk/internal/util/Preconditions", name := "checkFromToIndex", desc := "(IIILjava/util/function/BiFunction;)I" } : Jvm.MethodName) jdk_41_method_12_code (4 : Nat) (Option.some Jvm.ClassFile.FieldType.int), Jvm.Cond.code ({ cls := "java/lang/String", name := "isLatin1", desc := "()Z" } : Jvm.MethodName) jdk_42_method_154_code (1 : Nat) (Option.some Jvm.ClassFile.FieldType.boolean), Jvm.Cond.code ({ cls := "java/lang/StringLatin1", name := "newString", desc := "([BII)Ljava/lang/String;" } : Jvm.MethodName) jdk_43_method_47_code (3 : Nat) (Option.some (Jvm.ClassFile.FieldType.object "java/lang/String")), Jvm.Cond.code ({ cls := "com/example/adder/adder/Lexicon$Statement", name := "line", desc := "()I" } : Jvm.MethodName) prog_27_method_9_code (1 : Nat) (Option.some Jvm.ClassFile.FieldType.int), Jvm.Cond.code ({ cls := "com/example/adder/adder/SqlPiece", name := "<init>", desc := "(Ljava/lang/String;I)V" } : Jvm.MethodName) prog_41_method_1_code (3 : Nat) (Option.none : Option Jvm.ClassFile.FieldType), Jvm.Cond.code ({ cls := "com/example/adder/adder/SqlPiece", name := "sql", desc := "()Ljava/lang/String;" } : Jvm.MethodName) prog_41_method_6_code (1 : Nat) (Option.some (Jvm.ClassFile.FieldType.object "java/lang/String")), Jvm.Cond.code ({ cls := "com/example/adder/adder/SqlPiece", name := "line", desc := "()I" } : Jvm.MethodName) prog_41_method_7_code (1 : Nat) (Option.some Jvm.ClassFile.FieldType.int), Jvm.Cond.code ({ cls := "com/example/adder/adder/SqlPieceOfPinLaw", name := "at", desc := "(Ljava/lang/String;II[CI)Z" } : Jvm.MethodName) method_2_code (5 : Nat) (Option.some Jvm.ClassFile.FieldType.boolean), Jvm.Cond.code ({ cls := "java/util/Arrays", name := "copyOfRange", desc := "([BII)[B" } : Jvm.MethodName) jdk_65_method_132_code (3 : Nat) (Option.some (Jvm.ClassFile.FieldType.array Jvm.ClassFile.FieldType.byte)), Jvm.Cond.code ({ cls := "java/util/Arrays", name := "copyOfRangeByte", desc := "([BII)[B" } : Jvm.MethodName) jdk_65_method_133_code (5 : Nat) (Option.some (Jvm.ClassFile.FieldType.array Jvm.ClassFile.FieldType.byte)), Jvm.Cond.code ({ cls := "java/util/Arrays", name := "checkLength", desc := "(II)V" } : Jvm.MethodName) jdk_65_method_131_code (2 : Nat) (Option.none : Option Jvm.ClassFile.FieldType), Jvm.Cond.code ({ cls := "java/lang/Math", name := "min", desc := "(II)I" } : Jvm.MethodName) jdk_29_method_69_code (2 : Nat) (Option.some Jvm.ClassFile.FieldType.int), Jvm.Cond.code ({ cls := "java/lang/String", name := "<init>", desc := "([BB)V" } : Jvm.MethodName) jdk_42_method_151_code (3 : Nat) (Option.none : Option Jvm.ClassFile.FieldType), Jvm.Cond.code ({ cls := "java/lang/String", name := "charAt", desc := "(I)C" } : Jvm.MethodName) jdk_42_method_56_code (2 : Nat) (Option.some Jvm.ClassFile.FieldType.char), Jvm.Cond.code ({ cls := "java/lang/StringLatin1", name := "charAt", desc := "([BI)C" } : Jvm.MethodName) jdk_43_method_2_code (2 : Nat) (Option.some Jvm.ClassFile.FieldType.char), Jvm.Cond.code ({ cls := "java/lang/String", name := "checkIndex", desc := "(II)V" } : Jvm.MethodName) jdk_42_method_155_code (2 : Nat) (Option.none : Option Jvm.ClassFile.FieldType), Jvm.Cond.code ({ cls := "jdk/internal/util/Preconditions", name := "checkIndex", desc := "(IILjava/util/function/BiFunction;)I" } : Jvm.MethodName) jdk_41_method_11_code (3 : Nat) (Option.some Jvm.ClassFile.FieldType.int)]
set_option maxRecDepth 65536 in
theorem codes_eq : words1.filter isCode = codes1 := rfl
theorem w_codes : ∀ c ∈ words1.filter isCode, c.before args0 about1 = true := by
  rw [codes_eq]
  intro c hc
  simp only [codes1, List.mem_cons, List.not_mem_nil, or_false] at hc
  rcases hc with rfl | rfl | rfl | rfl | rfl | rfl | rfl | rfl | rfl | rfl | rfl | rfl | rfl | rfl | rfl | rfl | rfl | rfl | rfl | rfl | rfl | rfl | rfl | rfl | rfl | rfl | rfl | rfl | rfl | rfl | rfl | rfl | rfl | rfl | rfl | rfl
  · exact w_c0
  · exact w_c1
  · exact w_c2
  · exact w_c3
  · exact w_c4
  · exact w_c5
  · exact w_c6
  · exact w_c7
  · exact w_c8
  · exact w_c9
  · exact w_c10
  · exact w_c11
  · exact w_c12
  · exact w_c13
  · exact w_c14
  · exact w_c15
  · exact w_c16
  · exact w_c17
  · exact w_c18
  · exact w_c19
  · exact w_c20
  · exact w_c21
  · exact w_c22
  · exact w_c23
  · exact w_c24
  · exact w_c25
  · exact w_c26
  · exact w_c27
  · exact w_c28
  · exact w_c29
  · exact w_c30
  · exact w_c31
  · exact w_c32
  · exact w_c33
  · exact w_c34
  · exact w_c35
set_option maxRecDepth 65536 in
theorem w_t1 : (words1.take 24).all (fun c => isCode c || c.before args0 about1) = true := by decide +kernel
set_option maxRecDepth 65536 in
theorem w_t2 : ((words1.drop 24).take 24).all (fun c => isCode c || c.before args0 about1) = true := by decide +kernel
set_option maxRecDepth 65536 in
theorem w_t3 : (((words1.drop 24).drop 24).take 24).all (fun c => isCode c || c.before args0 about1) = true := by decide +kernel
set_option maxRecDepth 65536 in
theorem w_t4 : ((((words1.drop 24).drop 24).drop 24).take 24).all (fun c => isCode c || c.before args0 about1) = true := by decide +kernel
set_option maxRecDepth 65536 in
theorem w_t5 : (((((words1.drop 24).drop 24).drop 24).drop 24).take 24).all (fun c => isCode c || c.before args0 about1) = true := by decide +kernel
set_option maxRecDepth 65536 in
theorem w_t6 : ((((((words1.drop 24).drop 24).drop 24).drop 24).drop 24).take 24).all (fun c => isCode c || c.before args0 about1) = true := by decide +kernel
set_option maxRecDepth 65536 in
theorem w_t7 : (((((((words1.drop 24).drop 24).drop 24).drop 24).drop 24).drop 24).take 24).all (fun c => isCode c || c.before args0 about1) = true := by decide +kernel
set_option maxRecDepth 65536 in
theorem w_t8 : (((((((words1.drop 24).drop 24).drop 24).drop 24).drop 24).drop 24).drop 24).all (fun c => isCode c || c.before args0 about1) = true := by decide +kernel
theorem w_tables : (allAtoms (Jvm.Cond.code x code maxLocals ret :: tables_1)).before args0 about1 = true := by
  rw [allAtoms_all]
  show words1.all (fun c => c.before args0 about1) = true
  refine all_split ?_ w_codes
  rw [← List.take_append_drop 24 words1, List.all_append, w_t1, ← List.take_append_drop 24 (words1.drop 24), List.all_append, w_t2, ← List.take_append_drop 24 ((words1.drop 24).drop 24), List.all_append, w_t3, ← List.take_append_drop 24 (((words1.drop 24).drop 24).drop 24), List.all_append, w_t4, ← List.take_append_drop 24 ((((words1.drop 24).drop 24).drop 24).drop 24), List.all_append, w_t5, ← List.take_append_drop 24 (((((words1.drop 24).drop 24).drop 24).drop 24).drop 24), List.all_append, w_t6, ← List.take_append_drop 24 ((((((words1.drop 24).drop 24).drop 24).drop 24).drop 24).drop 24), List.all_append, w_t7, w_t8]
  rfl
set_option maxRecDepth 65536 in
theorem w_rest : rest_1_c.before args0 about1 = true := by decide +kernel
set_option maxRecDepth 65536 in
theorem w_case : (Jvm.Cond.and given_1 narrow_1).before args0 about1 = true := by decide +kernel
set_option maxRecDepth 65536 in
theorem w_consts : constsHeld consts_1 about1 := Jvm.Lit.constsHeldB_iff.mp (by decide +kernel)
theorem w_applies : (headSpec (Jvm.Cond.code x code maxLocals ret :: tables_1) room_1).applies x e0.platform about1 = true :=
  (Spec.applies_iff w_frames).mpr ⟨w_running, w_runnable, w_alone, w_named, w_hears, w_ripe, w_room, w_tables⟩
theorem atStart : AtStart classFile x code maxLocals ret World_1 tables_1 room_1 Calls_1 rest_1 Pre_1 launch0 p0 e0 about1 theMethod args0 below0 :=
  ⟨lists_1, trivial, launch0.admits_env _ _ _, launch0.least_env, fairChoices_fair.cas, fairChoices_fair.clock, w_frames, w_args, w_heap, w_applies, ⟨w_consts, trivial⟩, w_rest, w_case⟩
end start1
theorem witness_1 : WitnessClaimed_1 := ⟨start1.p0, start1.e0, start1.about1, start1.theMethod, start1.args0, start1.below0, start1.atStart⟩
end Jvm.Pilot.@@N@@
