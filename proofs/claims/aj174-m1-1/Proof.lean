import JvmDerived
import JvmDerived.Pilot.@@N@@Statement
import JvmDerived.Pilot.@@N@@Code
set_option linter.unusedVariables false
set_option linter.unusedSimpArgs false
namespace Jvm.Pilot.@@N@@
open Jvm Jvm.ClassFile Sem Op Lib Jvm.Free Jvm.Stand Jvm.LawKit Jvm.RoadKit Bundle Jvm.Pilot.@@N@@.Jvm.D
section Kit
variable {p : Program} {l : Launch} {e : Env} {R : Room} {s : State} {m : MethodId} {args : Array Value} {below : List Frame} {meth : Method} {c : Code} {T : State} {locs : List Loc} {cells slots : Nat} {Z : State} {a0 : Array Value} {h : Heap} {own nm : String} {bytes : ByteArray} {maxL : Nat} {rt : Option FieldType} {Q : Option Value → Heap → Prop} {ce sl : Nat} {En : Option Value → State → Prop} {pc : Nat} {Ls : Array Slot} {st : List Value}
/-- where a walk stands: the state T, its heap h; all that lay in the heap at the start Z is there unchanged, and all that was written is new -/
def Cx (p : Program) (l : Launch) (e : Env) (R : Room) (s : State) (m : MethodId) (args : Array Value) (below : List Frame) (meth : Method) (c : Code) (Z : State) (own nm : String) (bytes : ByteArray) (maxL : Nat) (rt : Option FieldType) (T : State) (locs : List Loc) (cells slots : Nat) (h : Heap) : Prop :=
  Stand p l e R s m args below meth c T locs cells slots ∧ p.tables.exec = Jvm.exec ∧ Z.Warmed39 s.vm ∧ s.vm.findClass own = some m.cls ∧ c.code = bytes ∧ c.maxLocals = maxL ∧ meth.sig.returnType = rt ∧ meth.name = nm ∧ meth.locks = false ∧ T.heap = h ∧ Fr Z.heap.size locs ∧ Ext Z.heap h
/-- from this frame the body comes to its end, and En holds of what it returns and of the state there -/
def Go (p : Program) (e : Env) (below : List Frame) (En : Option Value → State → Prop) (T : State) (m : MethodId) (pc : Nat) (Ls : Array Slot) (st : List Value) : Prop :=
  ∃ s₂ v, Steps p.tables e below (T.setTop (mkF m pc Ls st)) s₂ ∧ s₂.status = .running ∧ Ended s₂ below (.returned v) ∧ En v s₂
/-- a return of v from here: where it leads, and that En holds there -/
def Lv (e : Env) (below : List Frame) (En : Option Value → State → Prop) (T : State) (m : MethodId) (v : Option Value) : Prop :=
  ∃ fs, (∀ (f : JFrame) (acts : List Action), f.method = m → f.locked = none → f.entered = [] → (doReturn e (T.setTop f) acts v).1 = T.setFrames fs) ∧ (T.setFrames fs).status = .running ∧ Ended (T.setFrames fs) below (.returned v) ∧ En v (T.setFrames fs)
/-- the end of a body that interns nothing -/
def FinN (s Z : State) (Q : Option Value → Heap → Prop) (ce sl : Nat) : Option Value → State → Prop := fun v t => ∃ L, (Fr Z.heap.size L ∧ Ext Z.heap t.heap ∧ Q v t.heap) ∧ FrameEnd s (.returned v) t L ce sl
/-- the contract of a method called with the arguments as' over the heap h -/
def Ct (l : Launch) (Z : State) (ws : List Jvm.Cond) (y : MethodName) (bytes : ByteArray) (maxL : Nat) (rt : Option FieldType) (rm : Room) (as' : Array Value) (h : Heap) (Q : Option Value → Heap → Prop) : Prop :=
  Ext Z.heap h → MetFree l y (head1 (Jvm.Cond.code y bytes maxL rt :: ws) rm) (fun a U => a = as' ∧ Z.Warmed39 U.vm ∧ U.heap = h) (fun _ _ _ _ _ => True) (fun _ U o U' => ∃ v L, o = .returned v ∧ (Fr Z.heap.size L ∧ Ext Z.heap U'.heap ∧ Q v U'.heap) ∧ FrameEnd U o U' L rm.cells rm.slots)
/-- it returns v and leaves the heap as it was -/
def Pu (h : Heap) (v : Value) : Option Value → Heap → Prop := fun w h' => w = some v ∧ h' = h
theorem Ext.rf (h : Heap) : Ext h h := ⟨Nat.le_refl _, fun _ _ q => q⟩
theorem Ext.tr {h1 h2 h3 : Heap} (E : Ext h1 h2) (F : Ext h2 h3) : Ext h1 h3 := ⟨Nat.le_trans E.1 F.1, fun a c q => F.2 a c (E.2 a c q)⟩
theorem Ext.kp {h1 h2 h3 : Heap} {ws : List Addr} (E : Ext h1 h2) (K : Keep h2 h3 ws) (q : ∀ x ∈ ws, h1.size ≤ x) : Ext h1 h3 := ⟨Nat.le_trans E.1 K.1, fun a c r => K.2.1 a c (E.2 a c r) fun z => absurd (Array.getElem?_eq_some_iff.mp r).1 (Nat.not_lt.mpr (q a z))⟩
theorem Ext.wr {h1 h2 h3 : Heap} {a : Addr} {k : Nat} {v : Value} (E : Ext h1 h2) (W : Wr h2 h3 a k v) (q : h1.size ≤ a) : Ext h1 h3 := Ext.kp E (Keep.of_wr W) (allS q all0)
theorem Ext.keep {h1 h2 : Heap} (E : Ext h1 h2) (ws : List Addr) : Keep h1 h2 ws := (Keep.refl _ _).ext E
theorem Cx.sd (X : Cx p l e R s m args below meth c Z own nm bytes maxL rt T locs cells slots h) : Stand p l e R s m args below meth c T locs cells slots := X.1
theorem Cx.here (X : Cx p l e R s m args below meth c Z own nm bytes maxL rt T locs cells slots h) : At T m c below := X.1.here
theorem Cx.hx (X : Cx p l e R s m args below meth c Z own nm bytes maxL rt T locs cells slots h) : p.tables.exec = Jvm.exec := X.2.1
theorem Cx.hZ (X : Cx p l e R s m args below meth c Z own nm bytes maxL rt T locs cells slots h) : Z.Warmed39 s.vm := X.2.2.1
theorem Cx.hown (X : Cx p l e R s m args below meth c Z own nm bytes maxL rt T locs cells slots h) : s.vm.findClass own = some m.cls := X.2.2.2.1
theorem Cx.hby (X : Cx p l e R s m args below meth c Z own nm bytes maxL rt T locs cells slots h) : c.code = bytes := X.2.2.2.2.1
theorem Cx.hml (X : Cx p l e R s m args below meth c Z own nm bytes maxL rt T locs cells slots h) : c.maxLocals = maxL := X.2.2.2.2.2.1
theorem Cx.hrt (X : Cx p l e R s m args below meth c Z own nm bytes maxL rt T locs cells slots h) : meth.sig.returnType = rt := X.2.2.2.2.2.2.1
theorem Cx.hnm (X : Cx p l e R s m args below meth c Z own nm bytes maxL rt T locs cells slots h) : meth.name = nm := X.2.2.2.2.2.2.2.1
theorem Cx.hlk (X : Cx p l e R s m args below meth c Z own nm bytes maxL rt T locs cells slots h) : meth.locks = false := X.2.2.2.2.2.2.2.2.1
theorem Cx.eq (X : Cx p l e R s m args below meth c Z own nm bytes maxL rt T locs cells slots h) : T.heap = h := X.2.2.2.2.2.2.2.2.2.1
theorem Cx.fr (X : Cx p l e R s m args below meth c Z own nm bytes maxL rt T locs cells slots h) : Fr Z.heap.size locs := X.2.2.2.2.2.2.2.2.2.2.1
theorem Cx.old (X : Cx p l e R s m args below meth c Z own nm bytes maxL rt T locs cells slots h) : Ext Z.heap h := X.2.2.2.2.2.2.2.2.2.2.2
theorem Cx.le (X : Cx p l e R s m args below meth c Z own nm bytes maxL rt T locs cells slots h) : Z.heap.size ≤ h.size := X.old.1
theorem Cx.mk' {T' : State} {locs' : List Loc} {cells' slots' : Nat} {h' : Heap} (X : Cx p l e R s m args below meth c Z own nm bytes maxL rt T locs cells slots h) (Y : Stand p l e R s m args below meth c T' locs' cells' slots') (q : T'.heap = h') (f : Fr Z.heap.size locs') (o : Ext Z.heap h') : Cx p l e R s m args below meth c Z own nm bytes maxL rt T' locs' cells' slots' h' := ⟨Y, X.hx, X.hZ, X.hown, X.hby, X.hml, X.hrt, X.hnm, X.hlk, q, f, o⟩
theorem Go.step {T' : State} {pc' : Nat} {Ls' : Array Slot} {st' : List Value} (f : ∀ t, Steps p.tables e below (T'.setTop (mkF m pc' Ls' st')) t → Steps p.tables e below (T.setTop (mkF m pc Ls st)) t) (k : Go p e below En T' m pc' Ls' st') : Go p e below En T m pc Ls st := by
  obtain ⟨s₂, v, k1, k2⟩ := k
  exact ⟨s₂, v, f _ k1, k2⟩
theorem Ct.ofF {y : MethodName} {ws : List Jvm.Cond} {rm : Room} {as' : Array Value} {Ls0 : Array Slot} (pn : plainFor y = true) (ef : ∀ m, entryFrame m as' maxL = mkF m 0 Ls0 [])
    (body : ∀ p e s m below meth c s₁, Cx p l e rm s m as' below meth c Z y.cls y.name bytes maxL rt s₁ [] 0 0 h → Go p e below (FinN s Z Q rm.cells rm.slots) s₁ m 0 Ls0 []) : Ct l Z ws y bytes maxL rt rm as' h Q := by
  intro hE
  refine MetFree.of_bodySF pn hisR ?_
  intro p e s m args below meth c s₁ Bd hml0 hP hK
  obtain ⟨rfl, hZ, hh⟩ := hP
  have hown : s.vm.findClass y.cls = some m.cls := findClass_of_methodNamed Bd.named
  have hnm := (name_of_methodNamed Bd.named Bd.method).1
  have X0 : Stand p l e rm s m args below meth c s₁ [] 0 0 := Stand.of_body Bd
  have e0 : s₁.heap = h := by rw [← hh, Bd.state]; rfl
  obtain ⟨s₂, v, k1, k2, k3, L, k5, k6⟩ := body p e s m below meth c s₁ ⟨X0, Bd.exec, hZ, hown, Bd.bytes, hml0, Bd.returns, hnm, Bd.notSynchronized, e0, Fr.nil _, hE⟩
  exact ⟨s₂, _, castTop (ef m) k1, k2, k3, v, L, rfl, k5, k6⟩
theorem Ct.of {y : MethodName} {ws : List Jvm.Cond} {rm : Room} {as' : Array Value} {Ls0 : Array Slot} (pn : plainName y.cls = true) (ef : ∀ m, entryFrame m as' maxL = mkF m 0 Ls0 [])
    (body : ∀ p e s m below meth c s₁, Cx p l e rm s m as' below meth c Z y.cls y.name bytes maxL rt s₁ [] 0 0 h → Go p e below (FinN s Z Q rm.cells rm.slots) s₁ m 0 Ls0 []) : Ct l Z ws y bytes maxL rt rm as' h Q := Ct.ofF (plainFor_of_name pn) ef body
theorem Cx.fin (X : Cx p l e R s m args below meth c Z own nm bytes maxL rt T locs cells slots h) {v : Option Value} (hQ : Q v h) (hc : cells ≤ ce) (hs : slots ≤ sl) (hv : rt = none → v = none := by (intro q; first | rfl | (cases q; done))) : Lv e below (FinN s Z Q ce sl) T m v := by
  have hlk := X.hlk
  obtain ⟨fs, hr, hrun, hended, hW, hsame⟩ := X.sd.leave (v := v) (fun q => hv (X.hrt ▸ q)) hlk
  have q : (T.setFrames fs).heap = h := X.eq
  exact ⟨fs, hr, hrun, hended, locs, ⟨X.fr, by rw [q]; exact X.old, by rw [q]; exact hQ⟩, ⟨_, rfl⟩, hW, hsame.mono hc hs⟩
theorem Go.ret0 (X : Cx p l e R s m args below meth c Z own nm bytes maxL rt T locs cells slots h) {v : Option Value}
    (f : ∀ fs, (∀ (f : JFrame) (acts : List Action), f.method = m → f.locked = none → f.entered = [] → (doReturn e (T.setTop f) acts v).1 = T.setFrames fs) → Steps p.tables e below (T.setTop (mkF m pc Ls st)) (T.setFrames fs)) (hF : Lv e below En T m v) : Go p e below En T m pc Ls st := by
  obtain ⟨fs, hr, hrun, hended, hq⟩ := hF
  exact ⟨_, _, f fs hr, hrun, hended, hq⟩
theorem Go.ret (X : Cx p l e R s m args below meth c Z own nm bytes maxL rt T locs cells slots h) {t : FieldType} {i : Instr} {w : Value} {rest : List Value} (hret : rt = some t) (hn : narrow t w = w)
    (hi : (i = .ireturn ∧ (t = .int ∨ t = .boolean ∨ t = .byte ∨ t = .char ∨ t = .short) ∧ ∃ z, w = .int z) ∨ (i = .lreturn ∧ t = .long ∧ ∃ z, w = .long z) ∨ (i = .dreturn ∧ t = .double ∧ ∃ z, w = .double z) ∨ (i = .freturn ∧ t = .float ∧ ∃ z, w = .float z) ∨ (i = .areturn ∧ t.isReference = true ∧ w.isRef = true))
    (hd : decode bytes pc = .ok (i, 1)) (hF : Lv e below En T m (some w)) : Go p e below En T m pc Ls (w :: rest) :=
  Go.ret0 X (fun fs hr => retOut X.sd X.hx (X.hrt.trans hret) hn hi (hb X.hby hd) hr) hF
theorem Go.retI (X : Cx p l e R s m args below meth c Z own nm bytes maxL rt T locs cells slots h) {t : FieldType} {z : Int32} {rest : List Value} (hret : rt = some t) (ht : t = .int ∨ t = .boolean ∨ t = .byte ∨ t = .char ∨ t = .short) (hn : narrow t (.int z) = .int z) (hd : decode bytes pc = .ok (.ireturn, 1)) (hF : Lv e below En T m (some (.int z))) : Go p e below En T m pc Ls (.int z :: rest) :=
  Go.ret X hret hn (Or.inl ⟨rfl, ht, z, rfl⟩) hd hF
theorem Go.retJ (X : Cx p l e R s m args below meth c Z own nm bytes maxL rt T locs cells slots h) {z : Int64} {rest : List Value} (hret : rt = some .long) (hd : decode bytes pc = .ok (.lreturn, 1)) (hF : Lv e below En T m (some (.long z))) : Go p e below En T m pc Ls (.long z :: rest) :=
  Go.ret X hret rfl (Or.inr (Or.inl ⟨rfl, rfl, z, rfl⟩)) hd hF
theorem Go.retA (X : Cx p l e R s m args below meth c Z own nm bytes maxL rt T locs cells slots h) {t : FieldType} {w : Value} {rest : List Value} (hret : rt = some t) (ht : t.isReference = true) (hw : w.isRef = true) (hd : decode bytes pc = .ok (.areturn, 1)) (hF : Lv e below En T m (some w)) : Go p e below En T m pc Ls (w :: rest) :=
  Go.ret X hret (by cases t <;> first | rfl | (cases ht; done)) (Or.inr (Or.inr (Or.inr (Or.inr ⟨rfl, ht, hw⟩)))) hd hF
theorem Go.retV (X : Cx p l e R s m args below meth c Z own nm bytes maxL rt T locs cells slots h) (hret : rt = none) (hd : decode bytes pc = .ok (.return_, 1)) (hF : Lv e below En T m none) : Go p e below En T m pc Ls [] :=
  Go.ret0 X (fun fs hr => X.sd.returnOut X.hx (X.hrt.trans hret) (hb X.hby hd) hr) hF
theorem Go.aloadN (X : Cx p l e R s m args below meth c Z own nm bytes maxL rt T locs cells slots h) (pc' : Nat) {i : Fin 4} {v : Value} (hd : decode bytes pc = .ok (.aload_n i, 1)) (hl : Ls[i.val]? = some (.val v)) (hv : v.isRef = true) (k : Go p e below En T m pc' Ls (v :: st)) (hp : pc + 1 = pc' := by rfl) : Go p e below En T m pc Ls st := by
  subst hp
  exact Go.step (fun _ hr => XS.aloadN X.here X.hx rfl (hb X.hby hd) hl hv hr) k
theorem Go.aload (X : Cx p l e R s m args below meth c Z own nm bytes maxL rt T locs cells slots h) (pc' : Nat) {i : Nat} {v : Value} (hd : decode bytes pc = .ok (.aload i, 2)) (hl : Ls[i]? = some (.val v)) (hv : v.isRef = true) (k : Go p e below En T m pc' Ls (v :: st)) (hp : pc + 2 = pc' := by rfl) : Go p e below En T m pc Ls st := by
  subst hp
  exact Go.step (fun _ hr => XS.aload X.here X.hx rfl (hb X.hby hd) hl hv hr) k
theorem Go.iloadN (X : Cx p l e R s m args below meth c Z own nm bytes maxL rt T locs cells slots h) (pc' : Nat) {i : Fin 4} {v : Int32} (hd : decode bytes pc = .ok (.iload_n i, 1)) (hl : Ls[i.val]? = some (.val (.int v))) (k : Go p e below En T m pc' Ls (.int v :: st)) (hp : pc + 1 = pc' := by rfl) : Go p e below En T m pc Ls st := by
  subst hp
  exact Go.step (fun _ hr => XS.iloadN X.here X.hx rfl (hb X.hby hd) hl hr) k
theorem Go.iload (X : Cx p l e R s m args below meth c Z own nm bytes maxL rt T locs cells slots h) (pc' : Nat) {i : Nat} {v : Int32} (hd : decode bytes pc = .ok (.iload i, 2)) (hl : Ls[i]? = some (.val (.int v))) (k : Go p e below En T m pc' Ls (.int v :: st)) (hp : pc + 2 = pc' := by rfl) : Go p e below En T m pc Ls st := by
  subst hp
  exact Go.step (fun _ hr => XS.iload X.here X.hx rfl (hb X.hby hd) hl hr) k
theorem Go.lloadN (X : Cx p l e R s m args below meth c Z own nm bytes maxL rt T locs cells slots h) (pc' : Nat) {i : Fin 4} {v : Int64} (hd : decode bytes pc = .ok (.lload_n i, 1)) (hl : Ls[i.val]? = some (.val (.long v))) (k : Go p e below En T m pc' Ls (.long v :: st)) (hp : pc + 1 = pc' := by rfl) : Go p e below En T m pc Ls st := by
  subst hp
  exact Go.step (fun _ hr => XT.lloadN X.here X.hx rfl (hb X.hby hd) hl hr) k
theorem Go.lload (X : Cx p l e R s m args below meth c Z own nm bytes maxL rt T locs cells slots h) (pc' : Nat) {i : Nat} {v : Int64} (hd : decode bytes pc = .ok (.lload i, 2)) (hl : Ls[i]? = some (.val (.long v))) (k : Go p e below En T m pc' Ls (.long v :: st)) (hp : pc + 2 = pc' := by rfl) : Go p e below En T m pc Ls st := by
  subst hp
  exact Go.step (fun _ hr => XT.lload X.here X.hx rfl (hb X.hby hd) hl hr) k
theorem Go.iconst (X : Cx p l e R s m args below meth c Z own nm bytes maxL rt T locs cells slots h) (pc' : Nat) {i : Int} (z : Int32) (hd : decode bytes pc = .ok (.iconst i, 1)) (k : Go p e below En T m pc' Ls (.int z :: st)) (hp : pc + 1 = pc' := by rfl) (hv : Int32.ofInt i = z := by rfl) : Go p e below En T m pc Ls st := by
  subst hp
  exact Go.step (fun _ hr => XT.iconstV X.here X.hx rfl z (hb X.hby hd) hv hr) k
theorem Go.bipush (X : Cx p l e R s m args below meth c Z own nm bytes maxL rt T locs cells slots h) (pc' : Nat) {i : Int} (z : Int32) (hd : decode bytes pc = .ok (.bipush i, 2)) (k : Go p e below En T m pc' Ls (.int z :: st)) (hp : pc + 2 = pc' := by rfl) (hv : (Int8.ofInt i).toInt32 = z := by rfl) : Go p e below En T m pc Ls st := by
  subst hp
  exact Go.step (fun _ hr => XT.bipushV X.here X.hx rfl z (hb X.hby hd) hv hr) k
theorem Go.sipush (X : Cx p l e R s m args below meth c Z own nm bytes maxL rt T locs cells slots h) (pc' : Nat) {i : Int} (z : Int32) (hd : decode bytes pc = .ok (.sipush i, 3)) (k : Go p e below En T m pc' Ls (.int z :: st)) (hp : pc + 3 = pc' := by rfl) (hv : (Int16.ofInt i).toInt32 = z := by rfl) : Go p e below En T m pc Ls st := by
  subst hp
  exact Go.step (fun _ hr => XT.sipushV X.here X.hx rfl z (hb X.hby hd) hv hr) k
theorem Go.lconst (X : Cx p l e R s m args below meth c Z own nm bytes maxL rt T locs cells slots h) (pc' : Nat) {i : Fin 2} (z : Int64) (hd : decode bytes pc = .ok (.lconst i, 1)) (k : Go p e below En T m pc' Ls (.long z :: st)) (hp : pc + 1 = pc' := by rfl) (hv : Int64.ofNat i = z := by rfl) : Go p e below En T m pc Ls st := by
  subst hp
  exact Go.step (fun _ hr => XT.lconstV X.here X.hx rfl z (hb X.hby hd) hv hr) k
theorem Go.aconst_null (X : Cx p l e R s m args below meth c Z own nm bytes maxL rt T locs cells slots h) (pc' : Nat)  (hd : decode bytes pc = .ok (.aconst_null, 1))  (k : Go p e below En T m pc' Ls (.null :: st)) (hp : pc + 1 = pc' := by rfl) : Go p e below En T m pc Ls st := by
  subst hp
  exact Go.step (fun _ hr => XS.aconstNull X.here X.hx rfl (hb X.hby hd)  hr) k
theorem Go.iadd (X : Cx p l e R s m args below meth c Z own nm bytes maxL rt T locs cells slots h) (pc' : Nat) {x y : Int32} (hd : decode bytes pc = .ok (.iadd, 1))  (k : Go p e below En T m pc' Ls (.int (x + y) :: st)) (hp : pc + 1 = pc' := by rfl) : Go p e below En T m pc Ls (.int y :: .int x :: st) := by
  subst hp
  exact Go.step (fun _ hr => XS.iadd X.here X.hx rfl (hb X.hby hd) rfl hr) k
theorem Go.isub (X : Cx p l e R s m args below meth c Z own nm bytes maxL rt T locs cells slots h) (pc' : Nat) {x y : Int32} (hd : decode bytes pc = .ok (.isub, 1))  (k : Go p e below En T m pc' Ls (.int (x - y) :: st)) (hp : pc + 1 = pc' := by rfl) : Go p e below En T m pc Ls (.int y :: .int x :: st) := by
  subst hp
  exact Go.step (fun _ hr => XS.isub X.here X.hx rfl (hb X.hby hd) rfl hr) k
theorem Go.imul (X : Cx p l e R s m args below meth c Z own nm bytes maxL rt T locs cells slots h) (pc' : Nat) {x y : Int32} (hd : decode bytes pc = .ok (.imul, 1))  (k : Go p e below En T m pc' Ls (.int (x * y) :: st)) (hp : pc + 1 = pc' := by rfl) : Go p e below En T m pc Ls (.int y :: .int x :: st) := by
  subst hp
  exact Go.step (fun _ hr => XS.imul X.here X.hx rfl (hb X.hby hd) rfl hr) k
theorem Go.iand (X : Cx p l e R s m args below meth c Z own nm bytes maxL rt T locs cells slots h) (pc' : Nat) {x y : Int32} (hd : decode bytes pc = .ok (.iand, 1))  (k : Go p e below En T m pc' Ls (.int (x &&& y) :: st)) (hp : pc + 1 = pc' := by rfl) : Go p e below En T m pc Ls (.int y :: .int x :: st) := by
  subst hp
  exact Go.step (fun _ hr => XS.iand X.here X.hx rfl (hb X.hby hd) rfl hr) k
theorem Go.ior (X : Cx p l e R s m args below meth c Z own nm bytes maxL rt T locs cells slots h) (pc' : Nat) {x y : Int32} (hd : decode bytes pc = .ok (.ior, 1))  (k : Go p e below En T m pc' Ls (.int (x ||| y) :: st)) (hp : pc + 1 = pc' := by rfl) : Go p e below En T m pc Ls (.int y :: .int x :: st) := by
  subst hp
  exact Go.step (fun _ hr => XT.ior X.here X.hx rfl (hb X.hby hd) rfl hr) k
theorem Go.ixor (X : Cx p l e R s m args below meth c Z own nm bytes maxL rt T locs cells slots h) (pc' : Nat) {x y : Int32} (hd : decode bytes pc = .ok (.ixor, 1))  (k : Go p e below En T m pc' Ls (.int (x ^^^ y) :: st)) (hp : pc + 1 = pc' := by rfl) : Go p e below En T m pc Ls (.int y :: .int x :: st) := by
  subst hp
  exact Go.step (fun _ hr => XT.ixor X.here X.hx rfl (hb X.hby hd) rfl hr) k
theorem Go.idiv (X : Cx p l e R s m args below meth c Z own nm bytes maxL rt T locs cells slots h) (pc' : Nat) {x y : Int32} (hd : decode bytes pc = .ok (.idiv, 1)) (hy : y ≠ 0) (k : Go p e below En T m pc' Ls (.int (x / y) :: st)) (hp : pc + 1 = pc' := by rfl) : Go p e below En T m pc Ls (.int y :: .int x :: st) := by
  subst hp
  exact Go.step (fun _ hr => XS.idiv X.here X.hx rfl (hb X.hby hd) rfl hy hr) k
theorem Go.irem (X : Cx p l e R s m args below meth c Z own nm bytes maxL rt T locs cells slots h) (pc' : Nat) {x y : Int32} (hd : decode bytes pc = .ok (.irem, 1)) (hy : y ≠ 0) (k : Go p e below En T m pc' Ls (.int (x % y) :: st)) (hp : pc + 1 = pc' := by rfl) : Go p e below En T m pc Ls (.int y :: .int x :: st) := by
  subst hp
  exact Go.step (fun _ hr => iremM X.sd X.hx rfl (hb X.hby hd) rfl hy hr) k
theorem Go.ishl (X : Cx p l e R s m args below meth c Z own nm bytes maxL rt T locs cells slots h) (pc' : Nat) {x y : Int32} (hd : decode bytes pc = .ok (.ishl, 1))  (k : Go p e below En T m pc' Ls (.int (x <<< (y &&& 31)) :: st)) (hp : pc + 1 = pc' := by rfl) : Go p e below En T m pc Ls (.int y :: .int x :: st) := by
  subst hp
  exact Go.step (fun _ hr => XT.ishl X.here X.hx rfl (hb X.hby hd) rfl hr) k
theorem Go.ishr (X : Cx p l e R s m args below meth c Z own nm bytes maxL rt T locs cells slots h) (pc' : Nat) {x y : Int32} (hd : decode bytes pc = .ok (.ishr, 1))  (k : Go p e below En T m pc' Ls (.int (x >>> (y &&& 31)) :: st)) (hp : pc + 1 = pc' := by rfl) : Go p e below En T m pc Ls (.int y :: .int x :: st) := by
  subst hp
  exact Go.step (fun _ hr => XT.ishr X.here X.hx rfl (hb X.hby hd) rfl hr) k
theorem Go.iushr (X : Cx p l e R s m args below meth c Z own nm bytes maxL rt T locs cells slots h) (pc' : Nat) {x y : Int32} (hd : decode bytes pc = .ok (.iushr, 1))  (k : Go p e below En T m pc' Ls (.int (XT.ushr x y) :: st)) (hp : pc + 1 = pc' := by rfl) : Go p e below En T m pc Ls (.int y :: .int x :: st) := by
  subst hp
  exact Go.step (fun _ hr => XT.iushr X.here X.hx rfl (hb X.hby hd) rfl hr) k
theorem Go.ladd (X : Cx p l e R s m args below meth c Z own nm bytes maxL rt T locs cells slots h) (pc' : Nat) {x y : Int64} (hd : decode bytes pc = .ok (.ladd, 1))  (k : Go p e below En T m pc' Ls (.long (x + y) :: st)) (hp : pc + 1 = pc' := by rfl) : Go p e below En T m pc Ls (.long y :: .long x :: st) := by
  subst hp
  exact Go.step (fun _ hr => XT.ladd X.here X.hx rfl (hb X.hby hd) rfl hr) k
theorem Go.lsub (X : Cx p l e R s m args below meth c Z own nm bytes maxL rt T locs cells slots h) (pc' : Nat) {x y : Int64} (hd : decode bytes pc = .ok (.lsub, 1))  (k : Go p e below En T m pc' Ls (.long (x - y) :: st)) (hp : pc + 1 = pc' := by rfl) : Go p e below En T m pc Ls (.long y :: .long x :: st) := by
  subst hp
  exact Go.step (fun _ hr => XT.lsub X.here X.hx rfl (hb X.hby hd) rfl hr) k
theorem Go.lmul (X : Cx p l e R s m args below meth c Z own nm bytes maxL rt T locs cells slots h) (pc' : Nat) {x y : Int64} (hd : decode bytes pc = .ok (.lmul, 1))  (k : Go p e below En T m pc' Ls (.long (x * y) :: st)) (hp : pc + 1 = pc' := by rfl) : Go p e below En T m pc Ls (.long y :: .long x :: st) := by
  subst hp
  exact Go.step (fun _ hr => XT.lmul X.here X.hx rfl (hb X.hby hd) rfl hr) k
theorem Go.land (X : Cx p l e R s m args below meth c Z own nm bytes maxL rt T locs cells slots h) (pc' : Nat) {x y : Int64} (hd : decode bytes pc = .ok (.land, 1))  (k : Go p e below En T m pc' Ls (.long (x &&& y) :: st)) (hp : pc + 1 = pc' := by rfl) : Go p e below En T m pc Ls (.long y :: .long x :: st) := by
  subst hp
  exact Go.step (fun _ hr => XT.land X.here X.hx rfl (hb X.hby hd) rfl hr) k
theorem Go.lor (X : Cx p l e R s m args below meth c Z own nm bytes maxL rt T locs cells slots h) (pc' : Nat) {x y : Int64} (hd : decode bytes pc = .ok (.lor, 1))  (k : Go p e below En T m pc' Ls (.long (x ||| y) :: st)) (hp : pc + 1 = pc' := by rfl) : Go p e below En T m pc Ls (.long y :: .long x :: st) := by
  subst hp
  exact Go.step (fun _ hr => XT.lor X.here X.hx rfl (hb X.hby hd) rfl hr) k
theorem Go.lxor (X : Cx p l e R s m args below meth c Z own nm bytes maxL rt T locs cells slots h) (pc' : Nat) {x y : Int64} (hd : decode bytes pc = .ok (.lxor, 1))  (k : Go p e below En T m pc' Ls (.long (x ^^^ y) :: st)) (hp : pc + 1 = pc' := by rfl) : Go p e below En T m pc Ls (.long y :: .long x :: st) := by
  subst hp
  exact Go.step (fun _ hr => XT.lxor X.here X.hx rfl (hb X.hby hd) rfl hr) k
theorem Go.lcmp (X : Cx p l e R s m args below meth c Z own nm bytes maxL rt T locs cells slots h) (pc' : Nat) {x y : Int64} (hd : decode bytes pc = .ok (.lcmp, 1))  (k : Go p e below En T m pc' Ls (.int (XT.cmpL x y) :: st)) (hp : pc + 1 = pc' := by rfl) : Go p e below En T m pc Ls (.long y :: .long x :: st) := by
  subst hp
  exact Go.step (fun _ hr => XT.lcmp X.here X.hx rfl (hb X.hby hd) rfl hr) k
theorem Go.ldiv (X : Cx p l e R s m args below meth c Z own nm bytes maxL rt T locs cells slots h) (pc' : Nat) {x y : Int64} (hd : decode bytes pc = .ok (.ldiv, 1)) (hy : y ≠ 0) (k : Go p e below En T m pc' Ls (.long (x / y) :: st)) (hp : pc + 1 = pc' := by rfl) : Go p e below En T m pc Ls (.long y :: .long x :: st) := by
  subst hp
  exact Go.step (fun _ hr => XT.ldiv X.here X.hx rfl (hb X.hby hd) rfl hy hr) k
theorem Go.lrem (X : Cx p l e R s m args below meth c Z own nm bytes maxL rt T locs cells slots h) (pc' : Nat) {x y : Int64} (hd : decode bytes pc = .ok (.lrem, 1)) (hy : y ≠ 0) (k : Go p e below En T m pc' Ls (.long (x - (x / y) * y) :: st)) (hp : pc + 1 = pc' := by rfl) : Go p e below En T m pc Ls (.long y :: .long x :: st) := by
  subst hp
  exact Go.step (fun _ hr => XT.lrem X.here X.hx rfl (hb X.hby hd) rfl hy hr) k
theorem Go.lshl (X : Cx p l e R s m args below meth c Z own nm bytes maxL rt T locs cells slots h) (pc' : Nat) {x : Int64} {y : Int32} (hd : decode bytes pc = .ok (.lshl, 1))  (k : Go p e below En T m pc' Ls (.long (x <<< (y.toInt64 &&& 63)) :: st)) (hp : pc + 1 = pc' := by rfl) : Go p e below En T m pc Ls (.int y :: .long x :: st) := by
  subst hp
  exact Go.step (fun _ hr => XT.lshl X.here X.hx rfl (hb X.hby hd) rfl hr) k
theorem Go.lshr (X : Cx p l e R s m args below meth c Z own nm bytes maxL rt T locs cells slots h) (pc' : Nat) {x : Int64} {y : Int32} (hd : decode bytes pc = .ok (.lshr, 1))  (k : Go p e below En T m pc' Ls (.long (x >>> (y.toInt64 &&& 63)) :: st)) (hp : pc + 1 = pc' := by rfl) : Go p e below En T m pc Ls (.int y :: .long x :: st) := by
  subst hp
  exact Go.step (fun _ hr => XT.lshr X.here X.hx rfl (hb X.hby hd) rfl hr) k
theorem Go.lushr (X : Cx p l e R s m args below meth c Z own nm bytes maxL rt T locs cells slots h) (pc' : Nat) {x : Int64} {y : Int32} (hd : decode bytes pc = .ok (.lushr, 1))  (k : Go p e below En T m pc' Ls (.long (XT.ushrL x y) :: st)) (hp : pc + 1 = pc' := by rfl) : Go p e below En T m pc Ls (.int y :: .long x :: st) := by
  subst hp
  exact Go.step (fun _ hr => XT.lushr X.here X.hx rfl (hb X.hby hd) rfl hr) k
theorem Go.i2l (X : Cx p l e R s m args below meth c Z own nm bytes maxL rt T locs cells slots h) (pc' : Nat) {x : Int32} (hd : decode bytes pc = .ok (.i2l, 1))  (k : Go p e below En T m pc' Ls (.long (x.toInt64) :: st)) (hp : pc + 1 = pc' := by rfl) : Go p e below En T m pc Ls (.int x :: st) := by
  subst hp
  exact Go.step (fun _ hr => XT.i2l X.here X.hx rfl (hb X.hby hd) rfl hr) k
theorem Go.i2b (X : Cx p l e R s m args below meth c Z own nm bytes maxL rt T locs cells slots h) (pc' : Nat) {x : Int32} (hd : decode bytes pc = .ok (.i2b, 1))  (k : Go p e below En T m pc' Ls (.int (x.toInt8.toInt32) :: st)) (hp : pc + 1 = pc' := by rfl) : Go p e below En T m pc Ls (.int x :: st) := by
  subst hp
  exact Go.step (fun _ hr => XT.i2b X.here X.hx rfl (hb X.hby hd) rfl hr) k
theorem Go.i2c (X : Cx p l e R s m args below meth c Z own nm bytes maxL rt T locs cells slots h) (pc' : Nat) {x : Int32} (hd : decode bytes pc = .ok (.i2c, 1))  (k : Go p e below En T m pc' Ls (.int (x.toUInt32.toUInt16.toUInt32.toInt32) :: st)) (hp : pc + 1 = pc' := by rfl) : Go p e below En T m pc Ls (.int x :: st) := by
  subst hp
  exact Go.step (fun _ hr => XT.i2c X.here X.hx rfl (hb X.hby hd) rfl hr) k
theorem Go.i2s (X : Cx p l e R s m args below meth c Z own nm bytes maxL rt T locs cells slots h) (pc' : Nat) {x : Int32} (hd : decode bytes pc = .ok (.i2s, 1))  (k : Go p e below En T m pc' Ls (.int (x.toInt16.toInt32) :: st)) (hp : pc + 1 = pc' := by rfl) : Go p e below En T m pc Ls (.int x :: st) := by
  subst hp
  exact Go.step (fun _ hr => XT.i2s X.here X.hx rfl (hb X.hby hd) rfl hr) k
theorem Go.l2i (X : Cx p l e R s m args below meth c Z own nm bytes maxL rt T locs cells slots h) (pc' : Nat) {x : Int64} (hd : decode bytes pc = .ok (.l2i, 1))  (k : Go p e below En T m pc' Ls (.int (x.toInt32) :: st)) (hp : pc + 1 = pc' := by rfl) : Go p e below En T m pc Ls (.long x :: st) := by
  subst hp
  exact Go.step (fun _ hr => XT.l2i X.here X.hx rfl (hb X.hby hd) rfl hr) k
theorem Go.dup (X : Cx p l e R s m args below meth c Z own nm bytes maxL rt T locs cells slots h) (pc' : Nat) {v : Value} (hd : decode bytes pc = .ok (.dup, 1)) (hc : v.category = 1) (k : Go p e below En T m pc' Ls (v :: v :: st)) (hp : pc + 1 = pc' := by rfl) : Go p e below En T m pc Ls (v :: st) := by
  subst hp
  exact Go.step (fun _ hr => XS.dup X.here X.hx rfl (hb X.hby hd) rfl hc hr) k
theorem Go.pop (X : Cx p l e R s m args below meth c Z own nm bytes maxL rt T locs cells slots h) (pc' : Nat) {v : Value} (hd : decode bytes pc = .ok (.pop, 1)) (hc : v.category = 1) (k : Go p e below En T m pc' Ls st) (hp : pc + 1 = pc' := by rfl) : Go p e below En T m pc Ls (v :: st) := by
  subst hp
  exact Go.step (fun _ hr => XT.pop X.here X.hx rfl (hb X.hby hd) rfl hc hr) k
theorem Go.dup_x1 (X : Cx p l e R s m args below meth c Z own nm bytes maxL rt T locs cells slots h) (pc' : Nat) {v w : Value} (hd : decode bytes pc = .ok (.dup_x1, 1)) (hc : v.category = 1) (hc' : w.category = 1) (k : Go p e below En T m pc' Ls (v :: w :: v :: st)) (hp : pc + 1 = pc' := by rfl) : Go p e below En T m pc Ls (v :: w :: st) := by
  subst hp
  exact Go.step (fun _ hr => XT.dupX1 X.here X.hx rfl (hb X.hby hd) rfl hc hc' hr) k
theorem Go.dup2 (X : Cx p l e R s m args below meth c Z own nm bytes maxL rt T locs cells slots h) (pc' : Nat) {v w : Value} (hd : decode bytes pc = .ok (.dup2, 1)) (hc : v.category = 1) (hc' : w.category = 1) (k : Go p e below En T m pc' Ls (v :: w :: v :: w :: st)) (hp : pc + 1 = pc' := by rfl) : Go p e below En T m pc Ls (v :: w :: st) := by
  subst hp
  exact Go.step (fun _ hr => XT.dup2 X.here X.hx rfl (hb X.hby hd) rfl hc hc' hr) k
theorem Go.istoreN (X : Cx p l e R s m args below meth c Z own nm bytes maxL rt T locs cells slots h) (pc' : Nat) {i : Fin 4} {z : Int32} (Ls' : Array Slot) (hd : decode bytes pc = .ok (.istore_n i, 1))  (hl : storeLocals Ls i.val (.int z) = some Ls') (k : Go p e below En T m pc' Ls' st) (hp : pc + 1 = pc' := by rfl) : Go p e below En T m pc Ls (.int z :: st) := by
  subst hp
  exact Go.step (fun _ hr => XS.istoreN X.here X.hx rfl (hb X.hby hd) rfl  hl hr) k
theorem Go.istore (X : Cx p l e R s m args below meth c Z own nm bytes maxL rt T locs cells slots h) (pc' : Nat) {i : Nat} {z : Int32} (Ls' : Array Slot) (hd : decode bytes pc = .ok (.istore i, 2))  (hl : storeLocals Ls i (.int z) = some Ls') (k : Go p e below En T m pc' Ls' st) (hp : pc + 2 = pc' := by rfl) : Go p e below En T m pc Ls (.int z :: st) := by
  subst hp
  exact Go.step (fun _ hr => XS.istore X.here X.hx rfl (hb X.hby hd) rfl  hl hr) k
theorem Go.lstoreN (X : Cx p l e R s m args below meth c Z own nm bytes maxL rt T locs cells slots h) (pc' : Nat) {i : Fin 4} {z : Int64} (Ls' : Array Slot) (hd : decode bytes pc = .ok (.lstore_n i, 1))  (hl : storeLocals Ls i.val (.long z) = some Ls') (k : Go p e below En T m pc' Ls' st) (hp : pc + 1 = pc' := by rfl) : Go p e below En T m pc Ls (.long z :: st) := by
  subst hp
  exact Go.step (fun _ hr => XT.lstoreN X.here X.hx rfl (hb X.hby hd) rfl  hl hr) k
theorem Go.lstore (X : Cx p l e R s m args below meth c Z own nm bytes maxL rt T locs cells slots h) (pc' : Nat) {i : Nat} {z : Int64} (Ls' : Array Slot) (hd : decode bytes pc = .ok (.lstore i, 2))  (hl : storeLocals Ls i (.long z) = some Ls') (k : Go p e below En T m pc' Ls' st) (hp : pc + 2 = pc' := by rfl) : Go p e below En T m pc Ls (.long z :: st) := by
  subst hp
  exact Go.step (fun _ hr => XT.lstore X.here X.hx rfl (hb X.hby hd) rfl  hl hr) k
theorem Go.astoreN (X : Cx p l e R s m args below meth c Z own nm bytes maxL rt T locs cells slots h) (pc' : Nat) {i : Fin 4} {v : Value} (Ls' : Array Slot) (hd : decode bytes pc = .ok (.astore_n i, 1)) (hv : v.isRef = true) (hl : storeLocals Ls i.val (v) = some Ls') (k : Go p e below En T m pc' Ls' st) (hp : pc + 1 = pc' := by rfl) : Go p e below En T m pc Ls (v :: st) := by
  subst hp
  exact Go.step (fun _ hr => XS.astoreN X.here X.hx rfl (hb X.hby hd) rfl hv hl hr) k
theorem Go.astore (X : Cx p l e R s m args below meth c Z own nm bytes maxL rt T locs cells slots h) (pc' : Nat) {i : Nat} {v : Value} (Ls' : Array Slot) (hd : decode bytes pc = .ok (.astore i, 2)) (hv : v.isRef = true) (hl : storeLocals Ls i (v) = some Ls') (k : Go p e below En T m pc' Ls' st) (hp : pc + 2 = pc' := by rfl) : Go p e below En T m pc Ls (v :: st) := by
  subst hp
  exact Go.step (fun _ hr => XS.astore X.here X.hx rfl (hb X.hby hd) rfl hv hl hr) k
theorem Go.iinc (X : Cx p l e R s m args below meth c Z own nm bytes maxL rt T locs cells slots h) (pc' : Nat) {i : Nat} {x : Int32} {cst : Int} (z : Int32) (Ls' : Array Slot) (hd : decode bytes pc = .ok (.iinc i cst, 3)) (hl0 : Ls[i]? = some (.val (.int x))) (hl : storeLocals Ls i (.int (x + z)) = some Ls') (k : Go p e below En T m pc' Ls' st) (hp : pc + 3 = pc' := by rfl) (hv : Int32.ofInt cst = z := by rfl) : Go p e below En T m pc Ls st := by
  subst hp
  exact Go.step (fun _ hr => XT.iincV X.here X.hx rfl z (hb X.hby hd) hv hl0 hl hr) k
theorem Go.goto (X : Cx p l e R s m args below meth c Z own nm bytes maxL rt T locs cells slots h) (pc' : Nat) {o : Int} (hd : decode bytes pc = .ok (.goto o, 3)) (k : Go p e below En T m pc' Ls st) (ho : 0 ≤ (pc : Int) + o := by decide) (hp : ((pc : Int) + o).toNat = pc' := by decide) : Go p e below En T m pc Ls st :=
  Go.step (fun _ hr => XS.goto X.here X.hx rfl rfl (hb X.hby hd) ho hp hr) k
theorem Go.if0Y (X : Cx p l e R s m args below meth c Z own nm bytes maxL rt T locs cells slots h) (pc' : Nat) {cd : ClassFile.Cond} {x : Int32} {o : Int} (hd : decode bytes pc = .ok (.ifCond cd o, 3)) (hc : ifCond.holds cd x = true) (k : Go p e below En T m pc' Ls st) (ho : 0 ≤ (pc : Int) + o := by decide) (hp : ((pc : Int) + o).toNat = pc' := by decide) : Go p e below En T m pc Ls (.int x :: st) :=
  Go.step (fun _ hr => XS.ifYes X.here X.hx rfl rfl (hb X.hby hd) rfl hc ho hp hr) k
theorem Go.if0N (X : Cx p l e R s m args below meth c Z own nm bytes maxL rt T locs cells slots h) (pc' : Nat) {cd : ClassFile.Cond} {x : Int32} {o : Int} (hd : decode bytes pc = .ok (.ifCond cd o, 3)) (hc : ifCond.holds cd x = false) (k : Go p e below En T m pc' Ls st) (hp : pc + 3 = pc' := by rfl) : Go p e below En T m pc Ls (.int x :: st) := by
  subst hp
  exact Go.step (fun _ hr => XS.ifNo X.here X.hx rfl (hb X.hby hd) rfl hc hr) k
theorem Go.icmpY (X : Cx p l e R s m args below meth c Z own nm bytes maxL rt T locs cells slots h) (pc' : Nat) {cd : ClassFile.Cond} {x y : Int32} {o : Int} (hd : decode bytes pc = .ok (.if_icmp cd o, 3)) (hc : if_icmp.holds cd x y = true) (k : Go p e below En T m pc' Ls st) (ho : 0 ≤ (pc : Int) + o := by decide) (hp : ((pc : Int) + o).toNat = pc' := by decide) : Go p e below En T m pc Ls (.int y :: .int x :: st) :=
  Go.step (fun _ hr => XS.icmpYes X.here X.hx rfl rfl (hb X.hby hd) rfl hc ho hp hr) k
theorem Go.icmpN (X : Cx p l e R s m args below meth c Z own nm bytes maxL rt T locs cells slots h) (pc' : Nat) {cd : ClassFile.Cond} {x y : Int32} {o : Int} (hd : decode bytes pc = .ok (.if_icmp cd o, 3)) (hc : if_icmp.holds cd x y = false) (k : Go p e below En T m pc' Ls st) (hp : pc + 3 = pc' := by rfl) : Go p e below En T m pc Ls (.int y :: .int x :: st) := by
  subst hp
  exact Go.step (fun _ hr => XS.icmpNo X.here X.hx rfl (hb X.hby hd) rfl hc hr) k
theorem Go.acmpY (X : Cx p l e R s m args below meth c Z own nm bytes maxL rt T locs cells slots h) (pc' : Nat) {cd : ClassFile.ACond} {x y : Value} {o : Int} (hd : decode bytes pc = .ok (.if_acmp cd o, 3)) (hx' : x.isRef = true) (hy' : y.isRef = true) (hc : XT.acmp cd x y = true) (k : Go p e below En T m pc' Ls st) (ho : 0 ≤ (pc : Int) + o := by decide) (hp : ((pc : Int) + o).toNat = pc' := by decide) : Go p e below En T m pc Ls (y :: x :: st) :=
  Go.step (fun _ hr => XT.acmpYes X.here X.hx rfl rfl (hb X.hby hd) rfl hx' hy' hc ho hp hr) k
theorem Go.acmpN (X : Cx p l e R s m args below meth c Z own nm bytes maxL rt T locs cells slots h) (pc' : Nat) {cd : ClassFile.ACond} {x y : Value} {o : Int} (hd : decode bytes pc = .ok (.if_acmp cd o, 3)) (hx' : x.isRef = true) (hy' : y.isRef = true) (hc : XT.acmp cd x y = false) (k : Go p e below En T m pc' Ls st) (hp : pc + 3 = pc' := by rfl) : Go p e below En T m pc Ls (y :: x :: st) := by
  subst hp
  exact Go.step (fun _ hr => XT.acmpNo X.here X.hx rfl (hb X.hby hd) rfl hx' hy' hc hr) k
theorem Go.ifnullY (X : Cx p l e R s m args below meth c Z own nm bytes maxL rt T locs cells slots h) (pc' : Nat) {o : Int} (hd : decode bytes pc = .ok (.ifnull o, 3)) (k : Go p e below En T m pc' Ls st) (ho : 0 ≤ (pc : Int) + o := by decide) (hp : ((pc : Int) + o).toNat = pc' := by decide) : Go p e below En T m pc Ls (.null :: st) :=
  Go.step (fun _ hr => XS.ifnullYes X.here X.hx rfl rfl (hb X.hby hd) rfl ho hp hr) k
theorem Go.ifnullN (X : Cx p l e R s m args below meth c Z own nm bytes maxL rt T locs cells slots h) (pc' : Nat) {a : Addr} {o : Int} (hd : decode bytes pc = .ok (.ifnull o, 3)) (k : Go p e below En T m pc' Ls st) (hp : pc + 3 = pc' := by rfl) : Go p e below En T m pc Ls (.ref a :: st) := by
  subst hp
  exact Go.step (fun _ hr => XS.ifnullNo X.here X.hx rfl (hb X.hby hd) rfl hr) k
theorem Go.ifnonnullY (X : Cx p l e R s m args below meth c Z own nm bytes maxL rt T locs cells slots h) (pc' : Nat) {a : Addr} {o : Int} (hd : decode bytes pc = .ok (.ifnonnull o, 3)) (k : Go p e below En T m pc' Ls st) (ho : 0 ≤ (pc : Int) + o := by decide) (hp : ((pc : Int) + o).toNat = pc' := by decide) : Go p e below En T m pc Ls (.ref a :: st) :=
  Go.step (fun _ hr => XT.ifnonnullYes X.here X.hx rfl rfl (hb X.hby hd) rfl ho hp hr) k
theorem Go.ifnonnullN (X : Cx p l e R s m args below meth c Z own nm bytes maxL rt T locs cells slots h) (pc' : Nat) {o : Int} (hd : decode bytes pc = .ok (.ifnonnull o, 3)) (k : Go p e below En T m pc' Ls st) (hp : pc + 3 = pc' := by rfl) : Go p e below En T m pc Ls (.null :: st) := by
  subst hp
  exact Go.step (fun _ hr => XT.ifnonnullNo X.here X.hx rfl (hb X.hby hd) rfl hr) k
theorem Go.tsw (X : Cx p l e R s m args below meth c Z own nm bytes maxL rt T locs cells slots h) (pc' : Nat) {dflt low high o : Int} {offs : Array Int} {len : Nat} {i : Int32} (hd : decode bytes pc = .ok (.tableswitch dflt low high offs, len)) (hin : ¬ (i.toInt < low ∨ i.toInt > high)) (hoff : offs[(i.toInt - low).toNat]? = some o) (k : Go p e below En T m pc' Ls st) (ho : 0 ≤ (pc : Int) + o := by decide) (hp : ((pc : Int) + o).toNat = pc' := by decide) : Go p e below En T m pc Ls (.int i :: st) :=
  Go.step (fun _ hr => XS.tswIn X.here X.hx rfl rfl (hb X.hby hd) rfl hin hoff ho hp hr) k
theorem Go.ldcI (X : Cx p l e R s m args below meth c Z own nm bytes maxL rt T locs cells slots h) (pc' : Nat) {idx : Nat} {v : Int32} (w : (Jvm.Cond.constant own idx v).before a0 Z = true) (hd : decode bytes pc = .ok (.ldc idx, 2)) (k : Go p e below En T m pc' Ls (.int v :: st)) (hp : pc + 2 = pc' := by rfl) : Go p e below En T m pc Ls st := by
  subst hp
  exact Go.step (fun _ hr => X.sd.ldcI X.hx X.hown (mvT X.hZ w) rfl (hb X.hby hd) hr) k
theorem Go.ldcJ (X : Cx p l e R s m args below meth c Z own nm bytes maxL rt T locs cells slots h) (pc' : Nat) {idx : Nat} {v : Int64} (w : (Jvm.Cond.constantLong own idx v).before a0 Z = true) (hd : decode bytes pc = .ok (.ldc2_w idx, 3)) (k : Go p e below En T m pc' Ls (.long v :: st)) (hp : pc + 3 = pc' := by rfl) : Go p e below En T m pc Ls st := by
  subst hp
  exact Go.step (fun _ hr => X.sd.ldc2J X.hx X.hown (mvT X.hZ w) rfl (hb X.hby hd) hr) k
theorem Go.getS (X : Cx p l e R s m args below meth c Z own nm bytes maxL rt T locs cells slots h) (pc' : Nat) {O n d : String} {idx : Nat} {v : Value} (w : (Jvm.Cond.fieldLink own idx O n d).before a0 Z = true) (F : Sta Z Z.heap O n d v) (hd : decode bytes pc = .ok (.getstatic idx, 3)) (k : ∀ T', Cx p l e R s m args below meth c Z own nm bytes maxL rt T' locs cells slots h → Go p e below En T' m pc' Ls (v :: st)) (hp : pc + 3 = pc' := by rfl) : Go p e below En T m pc Ls st := by
  subst hp
  obtain ⟨T', X', e', st'⟩ := RoadKit.getS (host := "") X.sd X.hx X.hZ X.hown w Via.refl X.eq (F.ext X.old) (g := mkF m pc Ls st) rfl (hb X.hby hd)
  exact Go.step st' (k T' (X.mk' X' e' X.fr X.old))
theorem Go.getF (X : Cx p l e R s m args below meth c Z own nm bytes maxL rt T locs cells slots h) (pc' : Nat) {O n d : String} {idx : Nat} {a : Addr} {v : Value} (w : (Jvm.Cond.fieldLink own idx O n d).before a0 Z = true) (F : Fld Z h a O n d v) (hd : decode bytes pc = .ok (.getfield idx, 3)) (k : ∀ T', Cx p l e R s m args below meth c Z own nm bytes maxL rt T' locs cells slots h → Go p e below En T' m pc' Ls (v :: st)) (hp : pc + 3 = pc' := by rfl) : Go p e below En T m pc Ls (.ref a :: st) := by
  subst hp
  obtain ⟨T', X', e', st'⟩ := RoadKit.getF (host := "") X.sd X.hx X.hZ X.hown (Or.inl w) Via.refl X.eq F (g := mkF m pc Ls (.ref a :: st)) rfl rfl (hb X.hby hd)
  exact Go.step st' (k T' (X.mk' X' e' X.fr X.old))
theorem Go.getFN (X : Cx p l e R s m args below meth c Z own nm bytes maxL rt T locs cells slots h) (pc' : Nat) {O n d host : String} {idx : Nat} {a : Addr} {v : Value} (w : (Jvm.Cond.fieldLinkNest own idx O n d host).before a0 Z = true) (F : Fld Z h a O n d v) (hd : decode bytes pc = .ok (.getfield idx, 3)) (k : ∀ T', Cx p l e R s m args below meth c Z own nm bytes maxL rt T' locs cells slots h → Go p e below En T' m pc' Ls (v :: st)) (hp : pc + 3 = pc' := by rfl) : Go p e below En T m pc Ls (.ref a :: st) := by
  subst hp
  obtain ⟨T', X', e', st'⟩ := RoadKit.getF X.sd X.hx X.hZ X.hown (Or.inr w) Via.refl X.eq F (g := mkF m pc Ls (.ref a :: st)) rfl rfl (hb X.hby hd)
  exact Go.step st' (k T' (X.mk' X' e' X.fr X.old))
theorem Go.putF (X : Cx p l e R s m args below meth c Z own nm bytes maxL rt T locs cells slots h) (pc' : Nat) {O n d C : String} {idx kk : Nat} {ty : FieldType} {a : Addr} {v old : Value} (w : (Jvm.Cond.fieldLink own idx O n d).before a0 Z = true) (F : Fld Z h a O n d old) (E : Exa Z h a C) (L : (Jvm.Cond.lays C O n d).before a0 Z = true ∨ ((Jvm.Cond.laysFinal C O n d).before a0 Z = true ∧ own = O ∧ nm = "<init>")) (wi : (Jvm.Cond.instantiable C kk).before a0 Z = true) (hty : parseFieldDescriptor d = some ty) (hn : narrow ty v = v) (hf : fits ty v = true) (ha : Z.heap.size ≤ a) (hd : decode bytes pc = .ok (.putfield idx, 3))
    (k : ∀ T' h', Cx p l e R s m args below meth c Z own nm bytes maxL rt T' (locs ++ [⟨a, RoadKit.slotOf Z O n d⟩]) cells slots h' → Wr h h' a (RoadKit.slotOf Z O n d) v → Go p e below En T' m pc' Ls st) (hp : pc + 3 = pc' := by rfl) : Go p e below En T m pc Ls (v :: .ref a :: st) := by
  subst hp
  obtain ⟨T', h', X', e', W, st'⟩ := RoadKit.putF (host := "") X.sd X.hx X.hZ X.hown (Or.inl w) Via.refl X.eq F E (L.imp id fun q => ⟨q.1, q.2.1, X.hnm.trans q.2.2⟩) wi hty hn hf (g := mkF m pc Ls (v :: .ref a :: st)) rfl rfl (hb X.hby hd)
  exact Go.step st' (k T' h' (X.mk' X' e' (Fr.snoc X' X.fr ha) (Ext.wr X.old W ha)) W)
theorem Go.newO (X : Cx p l e R s m args below meth c Z own nm bytes maxL rt T locs cells slots h) (pc' : Nat) {C : String} {idx n : Nat} (w : (Jvm.Cond.classLink own idx C).before a0 Z = true) (wi : (Jvm.Cond.instantiable C n).before a0 Z = true) (wz : (Jvm.Cond.initialized C).before a0 Z = true) (hd : decode bytes pc = .ok (.new idx, 3)) (hc : cells + 1 ≤ R.cells) (hl : slots + n ≤ R.slots)
    (k : ∀ T' h' a, Cx p l e R s m args below meth c Z own nm bytes maxL rt T' locs (cells + 1) (slots + n) h' → Ext h h' → h.size = a → Exa Z h' a C → (∀ {O nm d : String} {ty : FieldType}, Laid Z a0 C O nm d → parseFieldDescriptor d = some ty → Fld Z h' a O nm d (defaultValue ty)) → Go p e below En T' m pc' Ls (.ref a :: st)) (hp : pc + 3 = pc' := by rfl) : Go p e below En T m pc Ls st := by
  subst hp
  obtain ⟨T', h', X', e', E, A, D, -, st'⟩ := RoadKit.newO X.sd X.hx X.hZ X.hown w wi wz X.eq (g := mkF m pc Ls st) rfl (hb X.hby hd) hc hl
  exact Go.step st' (k T' h' _ (X.mk' X' e' X.fr (Ext.tr X.old E)) E rfl A D)
theorem Go.initO (X : Cx p l e R s m args below meth c Z own nm bytes maxL rt T locs cells slots h) (pc' : Nat) {idx : Nat} {a : Addr} (w1 : (Jvm.Cond.methodLink own idx Lib.objectInit).before a0 Z = true) (w2 : (Jvm.Cond.instanceMethod Lib.objectInit).before a0 Z = true) (w3 : (Jvm.Cond.code Lib.objectInit ⟨#[0xb1]⟩ 1 none).before a0 Z = true) (W : Nat) (hd : decode bytes pc = .ok (.invokespecial idx, 3)) (hsz : Ls.size = maxL) (hf : 1 ≤ R.frames) (hW : (st.map fun v => v.category).sum ≤ W) (hl : W + 12 ≤ R.locals)
    (k : ∀ T', Cx p l e R s m args below meth c Z own nm bytes maxL rt T' locs cells slots h → Go p e below En T' m pc' Ls st) (hp : pc + 3 = pc' := by rfl) : Go p e below En T m pc Ls (.ref a :: st) := by
  subst hp
  obtain ⟨T', X', e', st'⟩ := RoadKit.initO X.sd X.hx X.hZ X.hown w1 w2 w3 X.eq (g := mkF m pc Ls (.ref a :: st)) rfl (hsz.trans X.hml.symm) rfl (hb X.hby hd) hf (W := W) (by simpa using hW) hl
  exact Go.step st' (k T' (X.mk' X' e' X.fr X.old))
theorem Go.newP (X : Cx p l e R s m args below meth c Z own nm bytes maxL rt T locs cells slots h) (pc' : Nat) {aty : ArrayType} {n : Int32} (w : (Jvm.Cond.arrayClass (newarray.typeOf aty)).before a0 Z = true) (hd : decode bytes pc = .ok (.newarray aty, 2)) (cap : Nat) (hn : ¬ n < 0) (hcap : n.toNatClampNeg ≤ cap) (hb' : cap * 8 ≤ 536870912) (hc : cells + 1 ≤ R.cells) (hl : slots + cap ≤ R.slots)
    (k : ∀ T' h' a kA, Cx p l e R s m args below meth c Z own nm bytes maxL rt T' locs (cells + 1) (slots + cap) h' → Ext h h' → h.size = a → Arv Z h' a kA (newarray.typeOf aty) n [] (defaultValue (newarray.typeOf aty)) → Go p e below En T' m pc' Ls (.ref a :: st)) (hp : pc + 2 = pc' := by rfl) : Go p e below En T m pc Ls (.int n :: st) := by
  subst hp
  obtain ⟨T', h', kA, X', e', E, A, st'⟩ := RoadKit.newP X.sd X.hx X.hZ w X.eq (g := mkF m pc Ls (.int n :: st)) rfl (hb X.hby hd) rfl hn hcap hb' hc hl
  exact Go.step st' (k T' h' _ kA (X.mk' X' e' X.fr (Ext.tr X.old E)) E rfl (Arv.new A hn))
theorem Go.newR (X : Cx p l e R s m args below meth c Z own nm bytes maxL rt T locs cells slots h) (pc' : Nat) {D : String} {idx : Nat} {n : Int32} (w1 : (Jvm.Cond.classLink own idx D).before a0 Z = true) (w2 : (Jvm.Cond.arrayOver (.object D)).before a0 Z = true) (hd : decode bytes pc = .ok (.anewarray idx, 3)) (cap : Nat) (hn : ¬ n < 0) (hcap : n.toNatClampNeg ≤ cap) (hb' : cap * 8 ≤ 536870912) (hc : cells + 1 ≤ R.cells) (hl : slots + cap ≤ R.slots)
    (k : ∀ T' h' a kA, Cx p l e R s m args below meth c Z own nm bytes maxL rt T' locs (cells + 1) (slots + cap) h' → Ext h h' → h.size = a → Ovr Z kA D → Arv Z h' a kA (.object D) n [] .null → Go p e below En T' m pc' Ls (.ref a :: st)) (hp : pc + 3 = pc' := by rfl) : Go p e below En T m pc Ls (.int n :: st) := by
  subst hp
  obtain ⟨T', h', kA, X', e', E, A, O, st'⟩ := RoadKit.newR X.sd X.hx X.hZ X.hown w1 w2 X.eq (g := mkF m pc Ls (.int n :: st)) rfl (hb X.hby hd) rfl hn hcap hb' hc hl
  exact Go.step st' (k T' h' _ kA (X.mk' X' e' X.fr (Ext.tr X.old E)) E rfl O (Arv.new A hn))
theorem Go.stC (X : Cx p l e R s m args below meth c Z own nm bytes maxL rt T locs cells slots h) (pc' : Nat) {a : Addr} {kA : ClassId} {n j x : Int32} {vs : List Value} {d : Value} (V : Arv Z h a kA .char n vs d) (hd : decode bytes pc = .ok (.castore, 1)) (hj : ¬ j < 0 ∧ j < n) (i : Nat) (hi : j.toNatClampNeg = i) (hlt : i < vs.length) (ha : Z.heap.size ≤ a)
    (k : ∀ T' h', Cx p l e R s m args below meth c Z own nm bytes maxL rt T' (locs ++ [⟨a, j.toNatClampNeg⟩]) cells slots h' → Wr h h' a j.toNatClampNeg (.int (nar .char x)) → Arv Z h' a kA .char n (vs.set i (.int (nar .char x))) d → Go p e below En T' m pc' Ls st) (hp : pc + 1 = pc' := by rfl) : Go p e below En T m pc Ls (.int x :: .int j :: .ref a :: st) := by
  subst hp
  obtain ⟨cl, A, q1, S, q3, H, G⟩ := V
  obtain ⟨T', h', X', e', W, st'⟩ := RoadKit.stC X.sd X.hx X.hZ X.eq A (inb_of S hj) (g := mkF m pc Ls (.int x :: .int j :: .ref a :: st)) rfl rfl (hb X.hby hd)
  exact Go.step st' (k T' h' (X.mk' X' e' (Fr.snoc X' X.fr ha) (Ext.wr X.old W ha)) W (Arv.set A q1 S q3 H G (fits_nar_char x) W i hi hlt))
theorem Go.stB (X : Cx p l e R s m args below meth c Z own nm bytes maxL rt T locs cells slots h) (pc' : Nat) {a : Addr} {kA : ClassId} {n j x : Int32} {vs : List Value} {d : Value} (V : Arv Z h a kA .byte n vs d) (hd : decode bytes pc = .ok (.bastore, 1)) (hj : ¬ j < 0 ∧ j < n) (i : Nat) (hi : j.toNatClampNeg = i) (hlt : i < vs.length) (ha : Z.heap.size ≤ a)
    (k : ∀ T' h', Cx p l e R s m args below meth c Z own nm bytes maxL rt T' (locs ++ [⟨a, j.toNatClampNeg⟩]) cells slots h' → Wr h h' a j.toNatClampNeg (.int (nar .byte x)) → Arv Z h' a kA .byte n (vs.set i (.int (nar .byte x))) d → Go p e below En T' m pc' Ls st) (hp : pc + 1 = pc' := by rfl) : Go p e below En T m pc Ls (.int x :: .int j :: .ref a :: st) := by
  subst hp
  obtain ⟨cl, A, q1, S, q3, H, G⟩ := V
  obtain ⟨T', h', X', e', W, st'⟩ := RoadKit.stB X.sd X.hx X.hZ X.eq A (inb_of S hj) (g := mkF m pc Ls (.int x :: .int j :: .ref a :: st)) rfl rfl (hb X.hby hd)
  exact Go.step st' (k T' h' (X.mk' X' e' (Fr.snoc X' X.fr ha) (Ext.wr X.old W ha)) W (Arv.set A q1 S q3 H G (fits_nar_byte x) W i hi hlt))
theorem Go.stR (X : Cx p l e R s m args below meth c Z own nm bytes maxL rt T locs cells slots h) (pc' : Nat) {a y : Addr} {kA : ClassId} {D : String} {n j : Int32} {vs : List Value} {d : Value} (V : Arv Z h a kA (.object D) n vs d) (O : Ovr Z kA D) (I : Ins Z h y D true) (hd : decode bytes pc = .ok (.aastore, 1)) (hj : ¬ j < 0 ∧ j < n) (i : Nat) (hi : j.toNatClampNeg = i) (hlt : i < vs.length) (ha : Z.heap.size ≤ a)
    (k : ∀ T' h', Cx p l e R s m args below meth c Z own nm bytes maxL rt T' (locs ++ [⟨a, j.toNatClampNeg⟩]) cells slots h' → Wr h h' a j.toNatClampNeg (.ref y) → Arv Z h' a kA (.object D) n (vs.set i (.ref y)) d → Go p e below En T' m pc' Ls st) (hp : pc + 1 = pc' := by rfl) : Go p e below En T m pc Ls (.ref y :: .int j :: .ref a :: st) := by
  subst hp
  obtain ⟨cl, A, q1, S, q3, H, G⟩ := V
  obtain ⟨T', h', X', e', W, st'⟩ := RoadKit.stR X.sd X.hx X.hZ X.eq A (inb_of S hj) rfl (Sto.ofV A q1 O I) (g := mkF m pc Ls (.ref y :: .int j :: .ref a :: st)) rfl rfl (hb X.hby hd)
  exact Go.step st' (k T' h' (X.mk' X' e' (Fr.snoc X' X.fr ha) (Ext.wr X.old W ha)) W (Arv.set A q1 S q3 H G rfl W i hi hlt))
theorem Go.alen (X : Cx p l e R s m args below meth c Z own nm bytes maxL rt T locs cells slots h) (pc' : Nat) {a : Addr} {kA : ClassId} {ty : FieldType} {n : Int32} {vs : List Value} {d : Value} (V : Arv Z h a kA ty n vs d) (hd : decode bytes pc = .ok (.arraylength, 1)) (k : Go p e below En T m pc' Ls (.int n :: st)) (hp : pc + 1 = pc' := by rfl) : Go p e below En T m pc Ls (.ref a :: st) := by
  subst hp
  obtain ⟨cl, A, q1, S, q3, H, G⟩ := V
  refine Go.step (fun _ hr => X.sd.arraylength X.hx (by rw [X.eq]; exact A.1) (State.isArrayOf_alike X.hZ.alike A.2.1) (g := mkF m pc Ls (.ref a :: st)) rfl rfl (hb X.hby hd) _ hr) ?_
  rw [len_of S q3]; exact k
theorem Go.caload (X : Cx p l e R s m args below meth c Z own nm bytes maxL rt T locs cells slots h) (pc' : Nat) {a : Addr} {kA : ClassId} {n j : Int32} {vs : List Value} {d v : Value} (V : Arv Z h a kA .char n vs d) (hd : decode bytes pc = .ok (.caload, 1)) (hj : ¬ j < 0 ∧ j < n) (u : vs.getD j.toNatClampNeg d = v) (k : Go p e below En T m pc' Ls (v :: st)) (hp : pc + 1 = pc' := by rfl) : Go p e below En T m pc Ls (.int j :: .ref a :: st) := by
  subst hp
  obtain ⟨cl, A, q1, S, q3, H, G⟩ := V
  exact Go.step (fun _ hr => X.sd.caload X.hx (by rw [X.eq]; exact A.1) (State.isArrayOf_alike X.hZ.alike A.2.1) A.2.2 (inb_of S hj) (H.at (inb_of S hj) u) (g := mkF m pc Ls (.int j :: .ref a :: st)) rfl rfl (hb X.hby hd) _ hr) k
theorem Go.baload (X : Cx p l e R s m args below meth c Z own nm bytes maxL rt T locs cells slots h) (pc' : Nat) {a : Addr} {kA : ClassId} {n j : Int32} {vs : List Value} {d v : Value} (V : Arv Z h a kA .byte n vs d) (hd : decode bytes pc = .ok (.baload, 1)) (hj : ¬ j < 0 ∧ j < n) (u : vs.getD j.toNatClampNeg d = v) (k : Go p e below En T m pc' Ls (v :: st)) (hp : pc + 1 = pc' := by rfl) : Go p e below En T m pc Ls (.int j :: .ref a :: st) := by
  subst hp
  obtain ⟨cl, A, q1, S, q3, H, G⟩ := V
  exact Go.step (fun _ hr => X.sd.baloadBytes X.hx (by rw [X.eq]; exact A.1) (State.isArrayOf_alike X.hZ.alike A.2.1) A.2.2 (inb_of S hj) (H.at (inb_of S hj) u) (g := mkF m pc Ls (.int j :: .ref a :: st)) rfl rfl (hb X.hby hd) _ hr) k
theorem Go.aaload (X : Cx p l e R s m args below meth c Z own nm bytes maxL rt T locs cells slots h) (pc' : Nat) {a : Addr} {kA : ClassId} {ty : FieldType} {n j : Int32} {vs : List Value} {d v : Value} (V : Arv Z h a kA ty n vs d) (hty : ty.isReference = true) (hd : decode bytes pc = .ok (.aaload, 1)) (hj : ¬ j < 0 ∧ j < n) (u : vs.getD j.toNatClampNeg d = v) (k : Go p e below En T m pc' Ls (v :: st)) (hp : pc + 1 = pc' := by rfl) : Go p e below En T m pc Ls (.int j :: .ref a :: st) := by
  subst hp
  obtain ⟨cl, A, q1, S, q3, H, G⟩ := V
  exact Go.step (fun _ hr => X.sd.aaload X.hx (by rw [X.eq]; exact A.1) (State.isArrayOf_alike X.hZ.alike A.2.1) hty A.2.2 (inb_of S hj) (H.at (inb_of S hj) u) (g := mkF m pc Ls (.int j :: .ref a :: st)) rfl rfl (hb X.hby hd) _ hr) k
theorem Go.castY (X : Cx p l e R s m args below meth c Z own nm bytes maxL rt T locs cells slots h) (pc' : Nat) {K : String} {idx : Nat} {a : Addr} (w : (Jvm.Cond.classLink own idx K).before a0 Z = true) (F : Ins Z h a K true) (hd : decode bytes pc = .ok (.checkcast idx, 3)) (k : ∀ T', Cx p l e R s m args below meth c Z own nm bytes maxL rt T' locs cells slots h → Go p e below En T' m pc' Ls (.ref a :: st)) (hp : pc + 3 = pc' := by rfl) : Go p e below En T m pc Ls (.ref a :: st) := by
  subst hp
  obtain ⟨T', X', e', st'⟩ := RoadKit.castY X.sd X.hx X.hZ X.hown w X.eq F (g := mkF m pc Ls (.ref a :: st)) rfl rfl (hb X.hby hd)
  exact Go.step st' (k T' (X.mk' X' e' X.fr X.old))
theorem Go.instY (X : Cx p l e R s m args below meth c Z own nm bytes maxL rt T locs cells slots h) (pc' : Nat) {K : String} {idx : Nat} {a : Addr} (w : (Jvm.Cond.classLink own idx K).before a0 Z = true) (F : Ins Z h a K true) (hd : decode bytes pc = .ok (.instanceof idx, 3)) (k : ∀ T', Cx p l e R s m args below meth c Z own nm bytes maxL rt T' locs cells slots h → Go p e below En T' m pc' Ls (.int 1 :: st)) (hp : pc + 3 = pc' := by rfl) : Go p e below En T m pc Ls (.ref a :: st) := by
  subst hp
  obtain ⟨T', X', e', st'⟩ := RoadKit.instY X.sd X.hx X.hZ X.hown w X.eq F (g := mkF m pc Ls (.ref a :: st)) rfl rfl (hb X.hby hd)
  exact Go.step st' (k T' (X.mk' X' e' X.fr X.old))
theorem Go.instNo (X : Cx p l e R s m args below meth c Z own nm bytes maxL rt T locs cells slots h) (pc' : Nat) {K D : String} {idx : Nat} {a : Addr} (w : (Jvm.Cond.classLink own idx K).before a0 Z = true) (E : Exa Z h a D) (F : ∃ c t, Z.vm.findClass D = some c ∧ Z.vm.findClass K = some t ∧ Z.vm.assignable c t = false) (hd : decode bytes pc = .ok (.instanceof idx, 3)) (k : ∀ T', Cx p l e R s m args below meth c Z own nm bytes maxL rt T' locs cells slots h → Go p e below En T' m pc' Ls (.int 0 :: st)) (hp : pc + 3 = pc' := by rfl) : Go p e below En T m pc Ls (.ref a :: st) := by
  subst hp
  obtain ⟨T', X', e', st'⟩ := RoadKit.instNo X.sd X.hx X.hZ X.hown w X.eq E F (g := mkF m pc Ls (.ref a :: st)) rfl rfl (hb X.hby hd)
  exact Go.step st' (k T' (X.mk' X' e' X.fr X.old))
theorem Go.instNull (X : Cx p l e R s m args below meth c Z own nm bytes maxL rt T locs cells slots h) (pc' : Nat) {idx : Nat} (hd : decode bytes pc = .ok (.instanceof idx, 3)) (k : Go p e below En T m pc' Ls (.int 0 :: st)) (hp : pc + 3 = pc' := by rfl) : Go p e below En T m pc Ls (.null :: st) := by
  subst hp
  exact Go.step (Jvm.Stand.instanceofNull X.sd X.hx (g := mkF m pc Ls (.null :: st)) rfl rfl (hb X.hby hd)) k
theorem own_noSub {C S K : String} {n : Nat} (w : (Jvm.Cond.superclass C S).before a0 Z = true) (wk : (Jvm.Cond.instantiable K n).before a0 Z = true) (wr : (Jvm.Cond.noSuperclass S).before a0 Z = true) (h1 : C ≠ K) (h2 : S ≠ K) : ∃ c t, Z.vm.findClass C = some c ∧ Z.vm.findClass K = some t ∧ Z.vm.assignable c t = false := by
  obtain ⟨t, kt, g1, g2, g3, g4, -⟩ := Cond.instantiable_spec wk
  have hi : kt.isInterface = false := by rw [Bool.or_eq_false_iff] at g4; exact g4.1
  have nr : NS Z S K := by
    obtain ⟨c, k, r1, r2, r3, -, -⟩ := Cond.noSuperclass_spec wr
    refine ⟨c, t, r1, g1, fun fuel => ?_⟩
    have ne := ids_ne r1 g1 h2
    cases fuel with
    | zero => rfl
    | succ f => simp [Vm.isSubclassAux, ne, r2, r3]
  obtain ⟨c, t', h0, g0, n3⟩ := NS.step w nr h1
  cases g1.symm.trans g0
  obtain ⟨p, k, kp, -, k2, -, -, k5, -, -⟩ := Cond.superclass_spec h0 w
  have ne := ids_ne h0 g1 h1
  refine ⟨c, t, h0, g1, ?_⟩
  show Z.vm.assignableAux (255 + 1) c t = false
  simp [Vm.assignableAux, ne, k2, g2, k5, g3, hi, Vm.isSubclass, n3]
theorem Go.mono {En' : Option Value → State → Prop} (f : ∀ v t, En' v t → En v t) (k : Go p e below En' T m pc Ls st) : Go p e below En T m pc Ls st := by
  obtain ⟨s₂, v, k1, k2, k3, k4⟩ := k
  exact ⟨s₂, v, k1, k2, k3, f _ _ k4⟩
theorem Cx.back (X : Cx p l e R s m args below meth c Z own nm bytes maxL rt T locs cells slots h) {y : MethodName} {by' : ByteArray} {ml' : Nat} {rt' : Option FieldType} {rm : Room} {as' : Array Value} {Q' : Option Value → Heap → Prop} {len W : Nat} (ct : Ct l Z [] y by' ml' rt' rm as' h Q') (wc : (Jvm.Cond.code y by' ml' rt').before a0 Z = true) (wz : (Jvm.Cond.initialized y.cls).before a0 Z = true) (hf : rm.frames + 1 ≤ R.frames) (hl : W + (ml' + 11) + rm.locals ≤ R.locals) :
    Back l R p e below s args y len W (fun A a => a = as' ∧ A.U.heap = h ∧ A.cells + rm.cells ≤ R.cells ∧ A.slots + rm.slots ≤ R.slots) (fun A _ v B => ∃ L, (Fr Z.heap.size L ∧ Ext Z.heap B.U.heap ∧ Q' v B.U.heap) ∧ B.locs = A.locs ++ L ∧ B.cells = A.cells + rm.cells ∧ B.slots = A.slots + rm.slots) :=
  backOf (Q := fun v hh L => Fr Z.heap.size L ∧ Ext Z.heap hh ∧ Q' v hh) (ct X.old) X.hZ wc wz hf hl
theorem Go.callS (X : Cx p l e R s m args below meth c Z own nm bytes maxL rt T locs cells slots h) (pc' : Nat) {idx : Nat} {y : MethodName} {by' : ByteArray} {ml' : Nat} {rt' : Option FieldType} {rm : Room} {ps : List FieldType} {rr : Option FieldType} {Q' : Option Value → Heap → Prop} (argsL rest : List Value) (W : Nat) (wl : (Jvm.Cond.methodLink own idx y).before a0 Z = true) (ws : (Jvm.Cond.static y).before a0 Z = true) (wz : (Jvm.Cond.initialized y.cls).before a0 Z = true) (hy : y.cls ≠ "java/lang/invoke/MethodHandle" ∧ y.cls ≠ "java/lang/invoke/VarHandle") (wc : (Jvm.Cond.code y by' ml' rt').before a0 Z = true) (pd : parseMethodDescriptor y.desc = some ⟨ps, rr⟩) (hd : decode bytes pc = .ok (.invokestatic idx, 3)) (ct : Ct l Z [] y by' ml' rt' rm (argsL.toArray) h Q') (hlen : argsL.length = ps.length) (hst : st = argsL.reverse ++ rest) (hsz : Ls.size = maxL) (hW : (rest.map fun v => v.category).sum ≤ W) (hf : rm.frames + 1 ≤ R.frames) (hl : W + (ml' + 11) + rm.locals ≤ R.locals) (hce : cells + rm.cells ≤ R.cells) (hsl : slots + rm.slots ≤ R.slots)
    (k : ∀ T' v L, Cx p l e R s m args below meth c Z own nm bytes maxL rt T' (locs ++ L) (cells + rm.cells) (slots + rm.slots) T'.heap → Q' v T'.heap → Go p e below En T' m pc' Ls (v.toList ++ rest)) (hp : pc + 3 = pc' := by rfl) : Go p e below En T m pc Ls st := by
  subst hp
  obtain ⟨v, _, ⟨T', L', k', n'⟩, -, X', ⟨L, hq, e1, e2, e3⟩, st'⟩ := Jvm.LawKit.callS X.sd X.hx (y := y) X.hown (mvT X.hZ wl) (mvT X.hZ ws) (mvT X.hZ wz) (mvT X.hZ wc) hy (X.back (W := W) ct wc wz hf hl) (g := mkF m pc Ls st) rfl (hsz.trans X.hml.symm) (argsL := argsL) (rest := rest) (lenOf pd hlen) hst (by simpa using hW) (hb X.hby hd) (fun _ _ => ⟨rfl, X.eq, hce, hsl⟩)
  dsimp only [Pt.U, Pt.locs, Pt.cells, Pt.slots] at X' e1 e2 e3 st' hq
  subst e1 e2 e3
  exact Go.step st' (k T' v L (X.mk' X' rfl (X.fr.app hq.1) hq.2.1) hq.2.2)
theorem Go.callSP (X : Cx p l e R s m args below meth c Z own nm bytes maxL rt T locs cells slots h) (pc' : Nat) {idx : Nat} {y : MethodName} {by' : ByteArray} {ml' : Nat} {rt' : Option FieldType} {rm : Room} {ps : List FieldType} {rr : Option FieldType} {v : Value} (argsL rest : List Value) (W : Nat) (wl : (Jvm.Cond.methodLink own idx y).before a0 Z = true) (ws : (Jvm.Cond.static y).before a0 Z = true) (wz : (Jvm.Cond.initialized y.cls).before a0 Z = true) (hy : y.cls ≠ "java/lang/invoke/MethodHandle" ∧ y.cls ≠ "java/lang/invoke/VarHandle") (wc : (Jvm.Cond.code y by' ml' rt').before a0 Z = true) (pd : parseMethodDescriptor y.desc = some ⟨ps, rr⟩) (hd : decode bytes pc = .ok (.invokestatic idx, 3)) (ct : Ct l Z [] y by' ml' rt' rm (argsL.toArray) h (Pu h v)) (hlen : argsL.length = ps.length) (hst : st = argsL.reverse ++ rest) (hsz : Ls.size = maxL) (hW : (rest.map fun v => v.category).sum ≤ W) (hf : rm.frames + 1 ≤ R.frames) (hl : W + (ml' + 11) + rm.locals ≤ R.locals) (hce : cells + rm.cells ≤ R.cells) (hsl : slots + rm.slots ≤ R.slots)
    (k : ∀ T' L, Cx p l e R s m args below meth c Z own nm bytes maxL rt T' (locs ++ L) (cells + rm.cells) (slots + rm.slots) h → Go p e below En T' m pc' Ls (v :: rest)) (hp : pc + 3 = pc' := by rfl) : Go p e below En T m pc Ls st :=
  Go.callS X pc' argsL rest W wl ws wz hy wc pd hd ct hlen hst hsz hW hf hl hce hsl (fun T' v' L X' q => by
    obtain ⟨rfl, q2⟩ := q
    rw [q2] at X'
    exact k T' L X') hp
theorem Go.callI (X : Cx p l e R s m args below meth c Z own nm bytes maxL rt T locs cells slots h) (pc' : Nat) {idx : Nat} {y : MethodName} {by' : ByteArray} {ml' : Nat} {rt' : Option FieldType} {rm : Room} {ps : List FieldType} {rr : Option FieldType} {a : Addr} {Q' : Option Value → Heap → Prop} (argsL rest : List Value) (W : Nat) (hy1 : y.name = "<init>") (wl : (Jvm.Cond.methodLink own idx y).before a0 Z = true) (wm : (Jvm.Cond.instanceMethod y).before a0 Z = true) (wz : (Jvm.Cond.initialized y.cls).before a0 Z = true) (hy : y.cls ≠ "java/lang/invoke/MethodHandle" ∧ y.cls ≠ "java/lang/invoke/VarHandle") (hrn : rt' = none) (wc : (Jvm.Cond.code y by' ml' rt').before a0 Z = true) (pd : parseMethodDescriptor y.desc = some ⟨ps, rr⟩) (hd : decode bytes pc = .ok (.invokespecial idx, 3)) (ct : Ct l Z [] y by' ml' rt' rm ((Value.ref a :: argsL).toArray) h Q') (hlen : argsL.length = ps.length) (hst : st = argsL.reverse ++ .ref a :: rest) (hsz : Ls.size = maxL) (hW : (rest.map fun v => v.category).sum ≤ W) (hf : rm.frames + 1 ≤ R.frames) (hl : W + (ml' + 11) + rm.locals ≤ R.locals) (hce : cells + rm.cells ≤ R.cells) (hsl : slots + rm.slots ≤ R.slots)
    (k : ∀ T' v L, Cx p l e R s m args below meth c Z own nm bytes maxL rt T' (locs ++ L) (cells + rm.cells) (slots + rm.slots) T'.heap → Q' v T'.heap → Go p e below En T' m pc' Ls (v.toList ++ rest)) (hp : pc + 3 = pc' := by rfl) : Go p e below En T m pc Ls st := by
  subst hp
  subst hrn
  obtain ⟨v, _, ⟨T', L', k', n'⟩, -, X', ⟨L, hq, e1, e2, e3⟩, st'⟩ := X.sd.specialBack X.hx (y := y) hy1 X.hown (mvT X.hZ wl) (mvT X.hZ wm) (mvT X.hZ wc) hy (X.back (W := W) ct wc wz hf hl) (g := mkF m pc Ls st) rfl (hsz.trans X.hml.symm) (Steps.refl _) (a := a) (argsL := argsL) (rest := rest) (lenOf pd hlen) hst (by simpa using hW) (hb X.hby hd) (fun _ _ => ⟨rfl, X.eq, hce, hsl⟩)
  dsimp only [Pt.U, Pt.locs, Pt.cells, Pt.slots] at X' e1 e2 e3 st' hq
  subst e1 e2 e3
  exact Go.step (fun _ hr => Steps.trans st' hr) (k T' v L (X.mk' X' rfl (X.fr.app hq.1) hq.2.1) hq.2.2)
theorem Go.callIP (X : Cx p l e R s m args below meth c Z own nm bytes maxL rt T locs cells slots h) (pc' : Nat) {idx : Nat} {y : MethodName} {by' : ByteArray} {ml' : Nat} {rt' : Option FieldType} {rm : Room} {ps : List FieldType} {rr : Option FieldType} {a : Addr} {v : Value} (argsL rest : List Value) (W : Nat) (hy1 : y.name = "<init>") (wl : (Jvm.Cond.methodLink own idx y).before a0 Z = true) (wm : (Jvm.Cond.instanceMethod y).before a0 Z = true) (wz : (Jvm.Cond.initialized y.cls).before a0 Z = true) (hy : y.cls ≠ "java/lang/invoke/MethodHandle" ∧ y.cls ≠ "java/lang/invoke/VarHandle") (hrn : rt' = none) (wc : (Jvm.Cond.code y by' ml' rt').before a0 Z = true) (pd : parseMethodDescriptor y.desc = some ⟨ps, rr⟩) (hd : decode bytes pc = .ok (.invokespecial idx, 3)) (ct : Ct l Z [] y by' ml' rt' rm ((Value.ref a :: argsL).toArray) h (Pu h v)) (hlen : argsL.length = ps.length) (hst : st = argsL.reverse ++ .ref a :: rest) (hsz : Ls.size = maxL) (hW : (rest.map fun v => v.category).sum ≤ W) (hf : rm.frames + 1 ≤ R.frames) (hl : W + (ml' + 11) + rm.locals ≤ R.locals) (hce : cells + rm.cells ≤ R.cells) (hsl : slots + rm.slots ≤ R.slots)
    (k : ∀ T' L, Cx p l e R s m args below meth c Z own nm bytes maxL rt T' (locs ++ L) (cells + rm.cells) (slots + rm.slots) h → Go p e below En T' m pc' Ls (v :: rest)) (hp : pc + 3 = pc' := by rfl) : Go p e below En T m pc Ls st :=
  Go.callI X pc' argsL rest W hy1 wl wm wz hy hrn wc pd hd ct hlen hst hsz hW hf hl hce hsl (fun T' v' L X' q => by
    obtain ⟨rfl, q2⟩ := q
    rw [q2] at X'
    exact k T' L X') hp
theorem Go.callV (X : Cx p l e R s m args below meth c Z own nm bytes maxL rt T locs cells slots h) (pc' : Nat) {idx : Nat} {y z : MethodName} {C : String} {by' : ByteArray} {ml' : Nat} {rt' : Option FieldType} {rm : Room} {ps : List FieldType} {rr : Option FieldType} {a : Addr} {Q' : Option Value → Heap → Prop} (argsL rest : List Value) (W : Nat) (wl : (Jvm.Cond.methodLink own idx y).before a0 Z = true) (wd : (Jvm.Cond.declares y).before a0 Z = true) (wf : (Jvm.Cond.selects C y z).before a0 Z = true) (nf : NotFace s y) (wm : (Jvm.Cond.instanceMethod z).before a0 Z = true) (wz : (Jvm.Cond.initialized z.cls).before a0 Z = true) (hy : y.cls ≠ "java/lang/invoke/MethodHandle" ∧ y.cls ≠ "java/lang/invoke/VarHandle") (E : Exa Z h a C) (wc : (Jvm.Cond.code z by' ml' rt').before a0 Z = true) (pd : parseMethodDescriptor y.desc = some ⟨ps, rr⟩) (hd : decode bytes pc = .ok (.invokevirtual idx, 3)) (ct : Ct l Z [] z by' ml' rt' rm ((Value.ref a :: argsL).toArray) h Q') (hlen : argsL.length = ps.length) (hst : st = argsL.reverse ++ .ref a :: rest) (hsz : Ls.size = maxL) (hW : (rest.map fun v => v.category).sum ≤ W) (hf : rm.frames + 1 ≤ R.frames) (hl : W + (ml' + 11) + rm.locals ≤ R.locals) (hce : cells + rm.cells ≤ R.cells) (hsl : slots + rm.slots ≤ R.slots)
    (k : ∀ T' v L, Cx p l e R s m args below meth c Z own nm bytes maxL rt T' (locs ++ L) (cells + rm.cells) (slots + rm.slots) T'.heap → Q' v T'.heap → Go p e below En T' m pc' Ls (v.toList ++ rest)) (hp : pc + 3 = pc' := by rfl) : Go p e below En T m pc Ls st := by
  subst hp
  obtain ⟨cq, kq, qa, qb, qc⟩ := isOf X.hZ X.eq E
  obtain ⟨v, _, ⟨T', L', k', n'⟩, -, X', ⟨L, hq, e1, e2, e3⟩, st'⟩ := X.sd.virtualBack X.hx (y := y) (z := z) X.hown (mvT X.hZ wl) (mvT X.hZ wd) nf (mvT X.hZ wf) (mvT X.hZ wm) hy (X.back (W := W) ct wc wz hf hl) qa qc (g := mkF m pc Ls st) rfl (hsz.trans X.hml.symm) (Steps.refl _) (argsL := argsL) (rest := rest) (lenOf pd hlen) hst (by simpa using hW) (hb X.hby hd) (fun _ _ => ⟨rfl, X.eq, hce, hsl⟩)
  dsimp only [Pt.U, Pt.locs, Pt.cells, Pt.slots] at X' e1 e2 e3 st' hq
  subst e1 e2 e3
  exact Go.step (fun _ hr => Steps.trans st' hr) (k T' v L (X.mk' X' rfl (X.fr.app hq.1) hq.2.1) hq.2.2)
theorem Go.callVP (X : Cx p l e R s m args below meth c Z own nm bytes maxL rt T locs cells slots h) (pc' : Nat) {idx : Nat} {y z : MethodName} {C : String} {by' : ByteArray} {ml' : Nat} {rt' : Option FieldType} {rm : Room} {ps : List FieldType} {rr : Option FieldType} {a : Addr} {v : Value} (argsL rest : List Value) (W : Nat) (wl : (Jvm.Cond.methodLink own idx y).before a0 Z = true) (wd : (Jvm.Cond.declares y).before a0 Z = true) (wf : (Jvm.Cond.selects C y z).before a0 Z = true) (nf : NotFace s y) (wm : (Jvm.Cond.instanceMethod z).before a0 Z = true) (wz : (Jvm.Cond.initialized z.cls).before a0 Z = true) (hy : y.cls ≠ "java/lang/invoke/MethodHandle" ∧ y.cls ≠ "java/lang/invoke/VarHandle") (E : Exa Z h a C) (wc : (Jvm.Cond.code z by' ml' rt').before a0 Z = true) (pd : parseMethodDescriptor y.desc = some ⟨ps, rr⟩) (hd : decode bytes pc = .ok (.invokevirtual idx, 3)) (ct : Ct l Z [] z by' ml' rt' rm ((Value.ref a :: argsL).toArray) h (Pu h v)) (hlen : argsL.length = ps.length) (hst : st = argsL.reverse ++ .ref a :: rest) (hsz : Ls.size = maxL) (hW : (rest.map fun v => v.category).sum ≤ W) (hf : rm.frames + 1 ≤ R.frames) (hl : W + (ml' + 11) + rm.locals ≤ R.locals) (hce : cells + rm.cells ≤ R.cells) (hsl : slots + rm.slots ≤ R.slots)
    (k : ∀ T' L, Cx p l e R s m args below meth c Z own nm bytes maxL rt T' (locs ++ L) (cells + rm.cells) (slots + rm.slots) h → Go p e below En T' m pc' Ls (v :: rest)) (hp : pc + 3 = pc' := by rfl) : Go p e below En T m pc Ls st :=
  Go.callV X pc' argsL rest W wl wd wf nf wm wz hy E wc pd hd ct hlen hst hsz hW hf hl hce hsl (fun T' v' L X' q => by
    obtain ⟨rfl, q2⟩ := q
    rw [q2] at X'
    exact k T' L X') hp
theorem Go.callU (X : Cx p l e R s m args below meth c Z own nm bytes maxL rt T locs cells slots h) (pc' : Nat) {idx : Nat} {y z : MethodName} {C owner : String} {by' : ByteArray} {ml' : Nat} {rt' : Option FieldType} {rm : Room} {ps : List FieldType} {rr : Option FieldType} {a : Addr} {Q' : Option Value → Heap → Prop} (argsL rest : List Value) (W : Nat) (wl : (Jvm.Cond.methodLink own idx y).before a0 Z = true) (wsm : (Jvm.Cond.sameMethod y.cls owner y.name y.desc).before a0 Z = true) (wd : (Jvm.Cond.declares ⟨owner, y.name, y.desc⟩).before a0 Z = true) (wf : (Jvm.Cond.selects C y z).before a0 Z = true) (wm : (Jvm.Cond.instanceMethod z).before a0 Z = true) (wz : (Jvm.Cond.initialized z.cls).before a0 Z = true) (hy : owner ≠ "java/lang/invoke/MethodHandle" ∧ owner ≠ "java/lang/invoke/VarHandle") (E : Exa Z h a C) (wc : (Jvm.Cond.code z by' ml' rt').before a0 Z = true) (pd : parseMethodDescriptor y.desc = some ⟨ps, rr⟩) (hd : decode bytes pc = .ok (.invokevirtual idx, 3)) (ct : Ct l Z [] z by' ml' rt' rm ((Value.ref a :: argsL).toArray) h Q') (hlen : argsL.length = ps.length) (hst : st = argsL.reverse ++ .ref a :: rest) (hsz : Ls.size = maxL) (hW : (rest.map fun v => v.category).sum ≤ W) (hf : rm.frames + 1 ≤ R.frames) (hl : W + (ml' + 11) + rm.locals ≤ R.locals) (hce : cells + rm.cells ≤ R.cells) (hsl : slots + rm.slots ≤ R.slots)
    (k : ∀ T' v L, Cx p l e R s m args below meth c Z own nm bytes maxL rt T' (locs ++ L) (cells + rm.cells) (slots + rm.slots) T'.heap → Q' v T'.heap → Go p e below En T' m pc' Ls (v.toList ++ rest)) (hp : pc + 3 = pc' := by rfl) : Go p e below En T m pc Ls st := by
  subst hp
  obtain ⟨cq, kq, qa, qb, qc⟩ := isOf X.hZ X.eq E
  obtain ⟨v, _, ⟨T', L', k', n'⟩, -, X', ⟨L, hq, e1, e2, e3⟩, st'⟩ := X.sd.virtualBackUp X.hx (x := y) (y := z) X.hown (mvT X.hZ wl) (mvT X.hZ wsm) (mvT X.hZ wd) hy (mvT X.hZ wf) (mvT X.hZ wm) (X.back (W := W) ct wc wz hf hl) qa qc (g := mkF m pc Ls st) rfl (hsz.trans X.hml.symm) (Steps.refl _) (argsL := argsL) (rest := rest) (lenOf pd hlen) hst (by simpa using hW) (hb X.hby hd) (fun _ _ => ⟨rfl, X.eq, hce, hsl⟩)
  dsimp only [Pt.U, Pt.locs, Pt.cells, Pt.slots] at X' e1 e2 e3 st' hq
  subst e1 e2 e3
  exact Go.step (fun _ hr => Steps.trans st' hr) (k T' v L (X.mk' X' rfl (X.fr.app hq.1) hq.2.1) hq.2.2)
theorem Go.callUP (X : Cx p l e R s m args below meth c Z own nm bytes maxL rt T locs cells slots h) (pc' : Nat) {idx : Nat} {y z : MethodName} {C owner : String} {by' : ByteArray} {ml' : Nat} {rt' : Option FieldType} {rm : Room} {ps : List FieldType} {rr : Option FieldType} {a : Addr} {v : Value} (argsL rest : List Value) (W : Nat) (wl : (Jvm.Cond.methodLink own idx y).before a0 Z = true) (wsm : (Jvm.Cond.sameMethod y.cls owner y.name y.desc).before a0 Z = true) (wd : (Jvm.Cond.declares ⟨owner, y.name, y.desc⟩).before a0 Z = true) (wf : (Jvm.Cond.selects C y z).before a0 Z = true) (wm : (Jvm.Cond.instanceMethod z).before a0 Z = true) (wz : (Jvm.Cond.initialized z.cls).before a0 Z = true) (hy : owner ≠ "java/lang/invoke/MethodHandle" ∧ owner ≠ "java/lang/invoke/VarHandle") (E : Exa Z h a C) (wc : (Jvm.Cond.code z by' ml' rt').before a0 Z = true) (pd : parseMethodDescriptor y.desc = some ⟨ps, rr⟩) (hd : decode bytes pc = .ok (.invokevirtual idx, 3)) (ct : Ct l Z [] z by' ml' rt' rm ((Value.ref a :: argsL).toArray) h (Pu h v)) (hlen : argsL.length = ps.length) (hst : st = argsL.reverse ++ .ref a :: rest) (hsz : Ls.size = maxL) (hW : (rest.map fun v => v.category).sum ≤ W) (hf : rm.frames + 1 ≤ R.frames) (hl : W + (ml' + 11) + rm.locals ≤ R.locals) (hce : cells + rm.cells ≤ R.cells) (hsl : slots + rm.slots ≤ R.slots)
    (k : ∀ T' L, Cx p l e R s m args below meth c Z own nm bytes maxL rt T' (locs ++ L) (cells + rm.cells) (slots + rm.slots) h → Go p e below En T' m pc' Ls (v :: rest)) (hp : pc + 3 = pc' := by rfl) : Go p e below En T m pc Ls st :=
  Go.callU X pc' argsL rest W wl wsm wd wf wm wz hy E wc pd hd ct hlen hst hsz hW hf hl hce hsl (fun T' v' L X' q => by
    obtain ⟨rfl, q2⟩ := q
    rw [q2] at X'
    exact k T' L X') hp
theorem Cx.more {cells' slots' : Nat} (X : Cx p l e R s m args below meth c Z own nm bytes maxL rt T locs cells slots h) (q : cells ≤ cells' := by decide) (r : slots ≤ slots' := by decide) : Cx p l e R s m args below meth c Z own nm bytes maxL rt T locs cells' slots' h := X.mk' (X.sd.more q r) X.eq X.fr X.old
theorem Go.join (X : Cx p l e R s m args below meth c Z own nm bytes maxL rt T locs cells slots h) {α : Type} (P : α → Heap → Prop) (pc1 : Nat) (Ls1 : α → Array Slot) (st1 : α → List Value) (c1 s1 : Nat)
    (tail : ∀ T' locs' h' a, Cx p l e R s m args below meth c Z own nm bytes maxL rt T' locs' c1 s1 h' → P a h' → Go p e below En T' m pc1 (Ls1 a) (st1 a))
    (heads : (∀ T' locs' h' a, Cx p l e R s m args below meth c Z own nm bytes maxL rt T' locs' c1 s1 h' → P a h' → Go p e below En T' m pc1 (Ls1 a) (st1 a)) → Go p e below En T m pc Ls st) : Go p e below En T m pc Ls st := heads tail
end Kit

theorem pd_0 : parseMethodDescriptor "()I" = some ⟨[], some .int⟩ := by decide +kernel
theorem pd_1 : parseMethodDescriptor "(I)Lcom/example/peerloom/peerloom/directory/Condition$Operator;" = some ⟨[.int], some (.object "com/example/peerloom/peerloom/directory/Condition$Operator")⟩ := by decide +kernel
theorem pd_2 : parseMethodDescriptor "(I)I" = some ⟨[.int], some .int⟩ := by decide +kernel
theorem pd_3 : parseMethodDescriptor "(I)Z" = some ⟨[.int], some .boolean⟩ := by decide +kernel
theorem do_0 : decode jdk_37_method_2_code 0 = .ok (.aload_n 0, 1) := by decide +kernel
theorem do_1 : decode jdk_37_method_2_code 1 = .ok (.getfield 7, 3) := by decide +kernel
theorem do_4 : decode jdk_37_method_2_code 4 = .ok (.ireturn, 1) := by decide +kernel
theorem ef_o (m : MethodId) (a : Addr) : entryFrame m #[(.ref a)] 1 = mkF m 0 #[.val (.ref a)] [] := by first | (simp [entryFrame, mkF, argsToLocals, Value.category]; done) | rfl
theorem pn_o : plainName "java/lang/Enum" = true := by first | (simp [plainName, overriddenIn]; done) | decide +kernel
set_option maxRecDepth 65536 in
set_option maxHeartbeats 40000000 in
theorem rm_o (l : Launch) (Z : State) (a0 : Array Value) (hw : ∀ d ∈ tables_1, d.before a0 Z = true) (h0 : Heap) (a : Addr) (z : Int32) (F : Fld Z h0 a "java/lang/Enum" "ordinal" "I" (.int z)) :
    Ct l Z [] (⟨"java/lang/Enum", "ordinal", "()I"⟩ : MethodName) jdk_37_method_2_code 1 (some .int) (⟨0, 0, 0, 0⟩ : Room) #[(.ref a)] h0 (Pu h0 (.int z)) := by
  refine Ct.of pn_o (fun m => ef_o m a) ?_
  intro p e s m below meth c s₁ X0
  refine Go.aloadN X0 1 do_0 rfl rfl ?_
  refine Go.getF X0 4 (hw _ (List.mem_of_getElem? (i := 23) rfl)) F do_1 ?_
  intro T1 X1
  exact Go.retI X1 rfl (by simp) rfl do_4 (X1.fin ⟨rfl, rfl⟩ (by decide) (by decide))
theorem pn_l : plainName "com/example/peerloom/peerloom/directory/OperatorHoldsPinLaw" = true := by first | (simp [plainName, overriddenIn]; done) | decide +kernel
theorem dp_0 : decode method_2_code 0 = .ok (.iload_n 0, 1) := by decide +kernel
theorem dp_1 : decode method_2_code 1 = .ok (.ifCond .ne 7, 3) := by decide +kernel
theorem dp_4 : decode method_2_code 4 = .ok (.getstatic 7, 3) := by decide +kernel
theorem dp_7 : decode method_2_code 7 = .ok (.areturn, 1) := by decide +kernel
theorem dp_8 : decode method_2_code 8 = .ok (.iload_n 0, 1) := by decide +kernel
theorem dp_9 : decode method_2_code 9 = .ok (.iconst 1, 1) := by decide +kernel
theorem dp_10 : decode method_2_code 10 = .ok (.if_icmp .ne 7, 3) := by decide +kernel
theorem dp_13 : decode method_2_code 13 = .ok (.getstatic 13, 3) := by decide +kernel
theorem dp_16 : decode method_2_code 16 = .ok (.areturn, 1) := by decide +kernel
theorem dp_17 : decode method_2_code 17 = .ok (.iload_n 0, 1) := by decide +kernel
theorem dp_18 : decode method_2_code 18 = .ok (.iconst 2, 1) := by decide +kernel
theorem dp_19 : decode method_2_code 19 = .ok (.if_icmp .ne 7, 3) := by decide +kernel
theorem dp_22 : decode method_2_code 22 = .ok (.getstatic 16, 3) := by decide +kernel
theorem dp_25 : decode method_2_code 25 = .ok (.areturn, 1) := by decide +kernel
theorem dp_26 : decode method_2_code 26 = .ok (.iload_n 0, 1) := by decide +kernel
theorem dp_27 : decode method_2_code 27 = .ok (.iconst 3, 1) := by decide +kernel
theorem dp_28 : decode method_2_code 28 = .ok (.if_icmp .ne 7, 3) := by decide +kernel
theorem dp_31 : decode method_2_code 31 = .ok (.getstatic 19, 3) := by decide +kernel
theorem dp_34 : decode method_2_code 34 = .ok (.areturn, 1) := by decide +kernel
theorem dp_35 : decode method_2_code 35 = .ok (.iload_n 0, 1) := by decide +kernel
theorem dp_36 : decode method_2_code 36 = .ok (.iconst 4, 1) := by decide +kernel
theorem dp_37 : decode method_2_code 37 = .ok (.if_icmp .ne 7, 3) := by decide +kernel
theorem dp_40 : decode method_2_code 40 = .ok (.getstatic 22, 3) := by decide +kernel
theorem dp_43 : decode method_2_code 43 = .ok (.areturn, 1) := by decide +kernel
theorem dp_44 : decode method_2_code 44 = .ok (.getstatic 25, 3) := by decide +kernel
theorem dp_47 : decode method_2_code 47 = .ok (.areturn, 1) := by decide +kernel
theorem ef_p (m : MethodId) (k : Int32) : entryFrame m #[(.int k)] 1 = mkF m 0 #[.val (.int k)] [] := by first | (simp [entryFrame, mkF, argsToLocals, Value.category]; done) | rfl
set_option maxRecDepth 65536 in
set_option maxHeartbeats 40000000 in
theorem rm_p (l : Launch) (Z : State) (a0 : Array Value) (hw : ∀ d ∈ tables_1, d.before a0 Z = true) (h0 : Heap) (b0 : Addr) (b1 : Addr) (b2 : Addr) (b3 : Addr) (b4 : Addr) (b5 : Addr) (S0 : Sta Z Z.heap "com/example/peerloom/peerloom/directory/Condition$Operator" "EQUAL" "Lcom/example/peerloom/peerloom/directory/Condition$Operator;" (.ref b0)) (S1 : Sta Z Z.heap "com/example/peerloom/peerloom/directory/Condition$Operator" "NOT_EQUAL" "Lcom/example/peerloom/peerloom/directory/Condition$Operator;" (.ref b1)) (S2 : Sta Z Z.heap "com/example/peerloom/peerloom/directory/Condition$Operator" "LESS" "Lcom/example/peerloom/peerloom/directory/Condition$Operator;" (.ref b2)) (S3 : Sta Z Z.heap "com/example/peerloom/peerloom/directory/Condition$Operator" "AT_MOST" "Lcom/example/peerloom/peerloom/directory/Condition$Operator;" (.ref b3)) (S4 : Sta Z Z.heap "com/example/peerloom/peerloom/directory/Condition$Operator" "GREATER" "Lcom/example/peerloom/peerloom/directory/Condition$Operator;" (.ref b4)) (S5 : Sta Z Z.heap "com/example/peerloom/peerloom/directory/Condition$Operator" "AT_LEAST" "Lcom/example/peerloom/peerloom/directory/Condition$Operator;" (.ref b5)) (k : Int32) (w : Addr) (hk : (k = 0 ∧ w = b0) ∨ (k = 1 ∧ w = b1) ∨ (k = 2 ∧ w = b2) ∨ (k = 3 ∧ w = b3) ∨ (k = 4 ∧ w = b4) ∨ (k = 5 ∧ w = b5)) :
    Ct l Z [] (⟨"com/example/peerloom/peerloom/directory/OperatorHoldsPinLaw", "pick", "(I)Lcom/example/peerloom/peerloom/directory/Condition$Operator;"⟩ : MethodName) method_2_code 1 (some (.object "com/example/peerloom/peerloom/directory/Condition$Operator")) (⟨0, 0, 0, 0⟩ : Room) #[(.int k)] h0 (Pu h0 (.ref w)) := by
  refine Ct.of pn_l (fun m => ef_p m k) ?_
  intro p e s m below meth c s₁ X0
  rcases hk with ⟨rfl, rfl⟩ | ⟨rfl, rfl⟩ | ⟨rfl, rfl⟩ | ⟨rfl, rfl⟩ | ⟨rfl, rfl⟩ | ⟨rfl, rfl⟩
  · skip
    refine Go.iloadN X0 1 dp_0 rfl ?_
    refine Go.if0N X0 4 dp_1 (XT.i0_ne_f (by decide)) ?_
    refine Go.getS X0 7 (hw _ (List.mem_of_getElem? (i := 5) rfl)) S0 dp_4 ?_
    intro T1 X1
    exact Go.retA X1 rfl rfl rfl dp_7 (X1.fin ⟨rfl, rfl⟩ (by decide) (by decide))
  · skip
    refine Go.iloadN X0 1 dp_0 rfl ?_
    refine Go.if0Y X0 8 dp_1 (XT.i0_ne_t (by decide)) ?_
    refine Go.iloadN X0 9 dp_8 rfl ?_
    refine Go.iconst X0 10 (1 : Int32) dp_9 ?_
    refine Go.icmpN X0 13 dp_10 (XT.ii_ne_f (by decide)) ?_
    refine Go.getS X0 16 (hw _ (List.mem_of_getElem? (i := 29) rfl)) S1 dp_13 ?_
    intro T1 X1
    exact Go.retA X1 rfl rfl rfl dp_16 (X1.fin ⟨rfl, rfl⟩ (by decide) (by decide))
  · skip
    refine Go.iloadN X0 1 dp_0 rfl ?_
    refine Go.if0Y X0 8 dp_1 (XT.i0_ne_t (by decide)) ?_
    refine Go.iloadN X0 9 dp_8 rfl ?_
    refine Go.iconst X0 10 (1 : Int32) dp_9 ?_
    refine Go.icmpY X0 17 dp_10 (XT.ii_ne_t (by decide)) ?_
    refine Go.iloadN X0 18 dp_17 rfl ?_
    refine Go.iconst X0 19 (2 : Int32) dp_18 ?_
    refine Go.icmpN X0 22 dp_19 (XT.ii_ne_f (by decide)) ?_
    refine Go.getS X0 25 (hw _ (List.mem_of_getElem? (i := 25) rfl)) S2 dp_22 ?_
    intro T1 X1
    exact Go.retA X1 rfl rfl rfl dp_25 (X1.fin ⟨rfl, rfl⟩ (by decide) (by decide))
  · skip
    refine Go.iloadN X0 1 dp_0 rfl ?_
    refine Go.if0Y X0 8 dp_1 (XT.i0_ne_t (by decide)) ?_
    refine Go.iloadN X0 9 dp_8 rfl ?_
    refine Go.iconst X0 10 (1 : Int32) dp_9 ?_
    refine Go.icmpY X0 17 dp_10 (XT.ii_ne_t (by decide)) ?_
    refine Go.iloadN X0 18 dp_17 rfl ?_
    refine Go.iconst X0 19 (2 : Int32) dp_18 ?_
    refine Go.icmpY X0 26 dp_19 (XT.ii_ne_t (by decide)) ?_
    refine Go.iloadN X0 27 dp_26 rfl ?_
    refine Go.iconst X0 28 (3 : Int32) dp_27 ?_
    refine Go.icmpN X0 31 dp_28 (XT.ii_ne_f (by decide)) ?_
    refine Go.getS X0 34 (hw _ (List.mem_of_getElem? (i := 33) rfl)) S3 dp_31 ?_
    intro T1 X1
    exact Go.retA X1 rfl rfl rfl dp_34 (X1.fin ⟨rfl, rfl⟩ (by decide) (by decide))
  · skip
    refine Go.iloadN X0 1 dp_0 rfl ?_
    refine Go.if0Y X0 8 dp_1 (XT.i0_ne_t (by decide)) ?_
    refine Go.iloadN X0 9 dp_8 rfl ?_
    refine Go.iconst X0 10 (1 : Int32) dp_9 ?_
    refine Go.icmpY X0 17 dp_10 (XT.ii_ne_t (by decide)) ?_
    refine Go.iloadN X0 18 dp_17 rfl ?_
    refine Go.iconst X0 19 (2 : Int32) dp_18 ?_
    refine Go.icmpY X0 26 dp_19 (XT.ii_ne_t (by decide)) ?_
    refine Go.iloadN X0 27 dp_26 rfl ?_
    refine Go.iconst X0 28 (3 : Int32) dp_27 ?_
    refine Go.icmpY X0 35 dp_28 (XT.ii_ne_t (by decide)) ?_
    refine Go.iloadN X0 36 dp_35 rfl ?_
    refine Go.iconst X0 37 (4 : Int32) dp_36 ?_
    refine Go.icmpN X0 40 dp_37 (XT.ii_ne_f (by decide)) ?_
    refine Go.getS X0 43 (hw _ (List.mem_of_getElem? (i := 27) rfl)) S4 dp_40 ?_
    intro T1 X1
    exact Go.retA X1 rfl rfl rfl dp_43 (X1.fin ⟨rfl, rfl⟩ (by decide) (by decide))
  · skip
    refine Go.iloadN X0 1 dp_0 rfl ?_
    refine Go.if0Y X0 8 dp_1 (XT.i0_ne_t (by decide)) ?_
    refine Go.iloadN X0 9 dp_8 rfl ?_
    refine Go.iconst X0 10 (1 : Int32) dp_9 ?_
    refine Go.icmpY X0 17 dp_10 (XT.ii_ne_t (by decide)) ?_
    refine Go.iloadN X0 18 dp_17 rfl ?_
    refine Go.iconst X0 19 (2 : Int32) dp_18 ?_
    refine Go.icmpY X0 26 dp_19 (XT.ii_ne_t (by decide)) ?_
    refine Go.iloadN X0 27 dp_26 rfl ?_
    refine Go.iconst X0 28 (3 : Int32) dp_27 ?_
    refine Go.icmpY X0 35 dp_28 (XT.ii_ne_t (by decide)) ?_
    refine Go.iloadN X0 36 dp_35 rfl ?_
    refine Go.iconst X0 37 (4 : Int32) dp_36 ?_
    refine Go.icmpY X0 44 dp_37 (XT.ii_ne_t (by decide)) ?_
    refine Go.getS X0 47 (hw _ (List.mem_of_getElem? (i := 31) rfl)) S5 dp_44 ?_
    intro T1 X1
    exact Go.retA X1 rfl rfl rfl dp_47 (X1.fin ⟨rfl, rfl⟩ (by decide) (by decide))
theorem da_0 : decode method_3_code 0 = .ok (.iload_n 0, 1) := by decide +kernel
theorem da_1 : decode method_3_code 1 = .ok (.ifCond .ne 5, 3) := by decide +kernel
theorem da_4 : decode method_3_code 4 = .ok (.iconst 2, 1) := by decide +kernel
theorem da_5 : decode method_3_code 5 = .ok (.ireturn, 1) := by decide +kernel
theorem da_6 : decode method_3_code 6 = .ok (.iload_n 0, 1) := by decide +kernel
theorem da_7 : decode method_3_code 7 = .ok (.iconst 1, 1) := by decide +kernel
theorem da_8 : decode method_3_code 8 = .ok (.if_icmp .ne 5, 3) := by decide +kernel
theorem da_11 : decode method_3_code 11 = .ok (.iconst 5, 1) := by decide +kernel
theorem da_12 : decode method_3_code 12 = .ok (.ireturn, 1) := by decide +kernel
theorem da_13 : decode method_3_code 13 = .ok (.iload_n 0, 1) := by decide +kernel
theorem da_14 : decode method_3_code 14 = .ok (.iconst 2, 1) := by decide +kernel
theorem da_15 : decode method_3_code 15 = .ok (.if_icmp .ne 5, 3) := by decide +kernel
theorem da_18 : decode method_3_code 18 = .ok (.iconst 1, 1) := by decide +kernel
theorem da_19 : decode method_3_code 19 = .ok (.ireturn, 1) := by decide +kernel
theorem da_20 : decode method_3_code 20 = .ok (.iload_n 0, 1) := by decide +kernel
theorem da_21 : decode method_3_code 21 = .ok (.iconst 3, 1) := by decide +kernel
theorem da_22 : decode method_3_code 22 = .ok (.if_icmp .ne 5, 3) := by decide +kernel
theorem da_25 : decode method_3_code 25 = .ok (.iconst 3, 1) := by decide +kernel
theorem da_26 : decode method_3_code 26 = .ok (.ireturn, 1) := by decide +kernel
theorem da_27 : decode method_3_code 27 = .ok (.iload_n 0, 1) := by decide +kernel
theorem da_28 : decode method_3_code 28 = .ok (.iconst 4, 1) := by decide +kernel
theorem da_29 : decode method_3_code 29 = .ok (.if_icmp .ne 5, 3) := by decide +kernel
theorem da_32 : decode method_3_code 32 = .ok (.iconst 4, 1) := by decide +kernel
theorem da_33 : decode method_3_code 33 = .ok (.ireturn, 1) := by decide +kernel
theorem da_34 : decode method_3_code 34 = .ok (.bipush 6, 2) := by decide +kernel
theorem da_36 : decode method_3_code 36 = .ok (.ireturn, 1) := by decide +kernel
theorem ef_a (m : MethodId) (k : Int32) : entryFrame m #[(.int k)] 1 = mkF m 0 #[.val (.int k)] [] := by first | (simp [entryFrame, mkF, argsToLocals, Value.category]; done) | rfl
set_option maxRecDepth 65536 in
set_option maxHeartbeats 40000000 in
theorem rm_a (l : Launch) (Z : State) (a0 : Array Value) (hw : ∀ d ∈ tables_1, d.before a0 Z = true) (h0 : Heap) (k z : Int32) (hk : (k = 0 ∧ z = 2) ∨ (k = 1 ∧ z = 5) ∨ (k = 2 ∧ z = 1) ∨ (k = 3 ∧ z = 3) ∨ (k = 4 ∧ z = 4) ∨ (k = 5 ∧ z = 6)) :
    Ct l Z [] (⟨"com/example/peerloom/peerloom/directory/OperatorHoldsPinLaw", "accepted", "(I)I"⟩ : MethodName) method_3_code 1 (some .int) (⟨0, 0, 0, 0⟩ : Room) #[(.int k)] h0 (Pu h0 (.int z)) := by
  refine Ct.of pn_l (fun m => ef_a m k) ?_
  intro p e s m below meth c s₁ X0
  rcases hk with ⟨rfl, rfl⟩ | ⟨rfl, rfl⟩ | ⟨rfl, rfl⟩ | ⟨rfl, rfl⟩ | ⟨rfl, rfl⟩ | ⟨rfl, rfl⟩
  · skip
    refine Go.iloadN X0 1 da_0 rfl ?_
    refine Go.if0N X0 4 da_1 (XT.i0_ne_f (by decide)) ?_
    refine Go.iconst X0 5 (2 : Int32) da_4 ?_
    exact Go.retI X0 rfl (by simp) rfl da_5 (X0.fin ⟨rfl, rfl⟩ (by decide) (by decide))
  · skip
    refine Go.iloadN X0 1 da_0 rfl ?_
    refine Go.if0Y X0 6 da_1 (XT.i0_ne_t (by decide)) ?_
    refine Go.iloadN X0 7 da_6 rfl ?_
    refine Go.iconst X0 8 (1 : Int32) da_7 ?_
    refine Go.icmpN X0 11 da_8 (XT.ii_ne_f (by decide)) ?_
    refine Go.iconst X0 12 (5 : Int32) da_11 ?_
    exact Go.retI X0 rfl (by simp) rfl da_12 (X0.fin ⟨rfl, rfl⟩ (by decide) (by decide))
  · skip
    refine Go.iloadN X0 1 da_0 rfl ?_
    refine Go.if0Y X0 6 da_1 (XT.i0_ne_t (by decide)) ?_
    refine Go.iloadN X0 7 da_6 rfl ?_
    refine Go.iconst X0 8 (1 : Int32) da_7 ?_
    refine Go.icmpY X0 13 da_8 (XT.ii_ne_t (by decide)) ?_
    refine Go.iloadN X0 14 da_13 rfl ?_
    refine Go.iconst X0 15 (2 : Int32) da_14 ?_
    refine Go.icmpN X0 18 da_15 (XT.ii_ne_f (by decide)) ?_
    refine Go.iconst X0 19 (1 : Int32) da_18 ?_
    exact Go.retI X0 rfl (by simp) rfl da_19 (X0.fin ⟨rfl, rfl⟩ (by decide) (by decide))
  · skip
    refine Go.iloadN X0 1 da_0 rfl ?_
    refine Go.if0Y X0 6 da_1 (XT.i0_ne_t (by decide)) ?_
    refine Go.iloadN X0 7 da_6 rfl ?_
    refine Go.iconst X0 8 (1 : Int32) da_7 ?_
    refine Go.icmpY X0 13 da_8 (XT.ii_ne_t (by decide)) ?_
    refine Go.iloadN X0 14 da_13 rfl ?_
    refine Go.iconst X0 15 (2 : Int32) da_14 ?_
    refine Go.icmpY X0 20 da_15 (XT.ii_ne_t (by decide)) ?_
    refine Go.iloadN X0 21 da_20 rfl ?_
    refine Go.iconst X0 22 (3 : Int32) da_21 ?_
    refine Go.icmpN X0 25 da_22 (XT.ii_ne_f (by decide)) ?_
    refine Go.iconst X0 26 (3 : Int32) da_25 ?_
    exact Go.retI X0 rfl (by simp) rfl da_26 (X0.fin ⟨rfl, rfl⟩ (by decide) (by decide))
  · skip
    refine Go.iloadN X0 1 da_0 rfl ?_
    refine Go.if0Y X0 6 da_1 (XT.i0_ne_t (by decide)) ?_
    refine Go.iloadN X0 7 da_6 rfl ?_
    refine Go.iconst X0 8 (1 : Int32) da_7 ?_
    refine Go.icmpY X0 13 da_8 (XT.ii_ne_t (by decide)) ?_
    refine Go.iloadN X0 14 da_13 rfl ?_
    refine Go.iconst X0 15 (2 : Int32) da_14 ?_
    refine Go.icmpY X0 20 da_15 (XT.ii_ne_t (by decide)) ?_
    refine Go.iloadN X0 21 da_20 rfl ?_
    refine Go.iconst X0 22 (3 : Int32) da_21 ?_
    refine Go.icmpY X0 27 da_22 (XT.ii_ne_t (by decide)) ?_
    refine Go.iloadN X0 28 da_27 rfl ?_
    refine Go.iconst X0 29 (4 : Int32) da_28 ?_
    refine Go.icmpN X0 32 da_29 (XT.ii_ne_f (by decide)) ?_
    refine Go.iconst X0 33 (4 : Int32) da_32 ?_
    exact Go.retI X0 rfl (by simp) rfl da_33 (X0.fin ⟨rfl, rfl⟩ (by decide) (by decide))
  · skip
    refine Go.iloadN X0 1 da_0 rfl ?_
    refine Go.if0Y X0 6 da_1 (XT.i0_ne_t (by decide)) ?_
    refine Go.iloadN X0 7 da_6 rfl ?_
    refine Go.iconst X0 8 (1 : Int32) da_7 ?_
    refine Go.icmpY X0 13 da_8 (XT.ii_ne_t (by decide)) ?_
    refine Go.iloadN X0 14 da_13 rfl ?_
    refine Go.iconst X0 15 (2 : Int32) da_14 ?_
    refine Go.icmpY X0 20 da_15 (XT.ii_ne_t (by decide)) ?_
    refine Go.iloadN X0 21 da_20 rfl ?_
    refine Go.iconst X0 22 (3 : Int32) da_21 ?_
    refine Go.icmpY X0 27 da_22 (XT.ii_ne_t (by decide)) ?_
    refine Go.iloadN X0 28 da_27 rfl ?_
    refine Go.iconst X0 29 (4 : Int32) da_28 ?_
    refine Go.icmpY X0 34 da_29 (XT.ii_ne_t (by decide)) ?_
    refine Go.bipush X0 36 (6 : Int32) da_34 ?_
    exact Go.retI X0 rfl (by simp) rfl da_36 (X0.fin ⟨rfl, rfl⟩ (by decide) (by decide))
theorem pn_h : plainName "com/example/peerloom/peerloom/directory/Condition$Operator" = true := by first | (simp [plainName, overriddenIn]; done) | decide +kernel
theorem dh_0 : decode prog_14_method_4_code 0 = .ok (.aload_n 0, 1) := by decide +kernel
theorem dh_1 : decode prog_14_method_4_code 1 = .ok (.invokevirtual 45, 3) := by decide +kernel
theorem dh_4 : decode prog_14_method_4_code 4 = .ok (.tableswitch 40 0 5 #[50, 62, 74, 86, 98, 110], 40) := by decide +kernel
theorem dh_44 : decode prog_14_method_4_code 44 = .ok (.new 49, 3) := by decide +kernel
theorem dh_47 : decode prog_14_method_4_code 47 = .ok (.dup, 1) := by decide +kernel
theorem dh_48 : decode prog_14_method_4_code 48 = .ok (.aconst_null, 1) := by decide +kernel
theorem dh_49 : decode prog_14_method_4_code 49 = .ok (.aconst_null, 1) := by decide +kernel
theorem dh_50 : decode prog_14_method_4_code 50 = .ok (.invokespecial 51, 3) := by decide +kernel
theorem dh_53 : decode prog_14_method_4_code 53 = .ok (.athrow, 1) := by decide +kernel
theorem dh_54 : decode prog_14_method_4_code 54 = .ok (.iload_n 1, 1) := by decide +kernel
theorem dh_55 : decode prog_14_method_4_code 55 = .ok (.ifCond .ne 7, 3) := by decide +kernel
theorem dh_58 : decode prog_14_method_4_code 58 = .ok (.iconst 1, 1) := by decide +kernel
theorem dh_59 : decode prog_14_method_4_code 59 = .ok (.goto 64, 3) := by decide +kernel
theorem dh_62 : decode prog_14_method_4_code 62 = .ok (.iconst 0, 1) := by decide +kernel
theorem dh_63 : decode prog_14_method_4_code 63 = .ok (.goto 60, 3) := by decide +kernel
theorem dh_66 : decode prog_14_method_4_code 66 = .ok (.iload_n 1, 1) := by decide +kernel
theorem dh_67 : decode prog_14_method_4_code 67 = .ok (.ifCond .eq 7, 3) := by decide +kernel
theorem dh_70 : decode prog_14_method_4_code 70 = .ok (.iconst 1, 1) := by decide +kernel
theorem dh_71 : decode prog_14_method_4_code 71 = .ok (.goto 52, 3) := by decide +kernel
theorem dh_74 : decode prog_14_method_4_code 74 = .ok (.iconst 0, 1) := by decide +kernel
theorem dh_75 : decode prog_14_method_4_code 75 = .ok (.goto 48, 3) := by decide +kernel
theorem dh_78 : decode prog_14_method_4_code 78 = .ok (.iload_n 1, 1) := by decide +kernel
theorem dh_79 : decode prog_14_method_4_code 79 = .ok (.ifCond .ge 7, 3) := by decide +kernel
theorem dh_82 : decode prog_14_method_4_code 82 = .ok (.iconst 1, 1) := by decide +kernel
theorem dh_83 : decode prog_14_method_4_code 83 = .ok (.goto 40, 3) := by decide +kernel
theorem dh_86 : decode prog_14_method_4_code 86 = .ok (.iconst 0, 1) := by decide +kernel
theorem dh_87 : decode prog_14_method_4_code 87 = .ok (.goto 36, 3) := by decide +kernel
theorem dh_90 : decode prog_14_method_4_code 90 = .ok (.iload_n 1, 1) := by decide +kernel
theorem dh_91 : decode prog_14_method_4_code 91 = .ok (.ifCond .gt 7, 3) := by decide +kernel
theorem dh_94 : decode prog_14_method_4_code 94 = .ok (.iconst 1, 1) := by decide +kernel
theorem dh_95 : decode prog_14_method_4_code 95 = .ok (.goto 28, 3) := by decide +kernel
theorem dh_98 : decode prog_14_method_4_code 98 = .ok (.iconst 0, 1) := by decide +kernel
theorem dh_99 : decode prog_14_method_4_code 99 = .ok (.goto 24, 3) := by decide +kernel
theorem dh_102 : decode prog_14_method_4_code 102 = .ok (.iload_n 1, 1) := by decide +kernel
theorem dh_103 : decode prog_14_method_4_code 103 = .ok (.ifCond .le 7, 3) := by decide +kernel
theorem dh_106 : decode prog_14_method_4_code 106 = .ok (.iconst 1, 1) := by decide +kernel
theorem dh_107 : decode prog_14_method_4_code 107 = .ok (.goto 16, 3) := by decide +kernel
theorem dh_110 : decode prog_14_method_4_code 110 = .ok (.iconst 0, 1) := by decide +kernel
theorem dh_111 : decode prog_14_method_4_code 111 = .ok (.goto 12, 3) := by decide +kernel
theorem dh_114 : decode prog_14_method_4_code 114 = .ok (.iload_n 1, 1) := by decide +kernel
theorem dh_115 : decode prog_14_method_4_code 115 = .ok (.ifCond .lt 7, 3) := by decide +kernel
theorem dh_118 : decode prog_14_method_4_code 118 = .ok (.iconst 1, 1) := by decide +kernel
theorem dh_119 : decode prog_14_method_4_code 119 = .ok (.goto 4, 3) := by decide +kernel
theorem dh_122 : decode prog_14_method_4_code 122 = .ok (.iconst 0, 1) := by decide +kernel
theorem dh_123 : decode prog_14_method_4_code 123 = .ok (.ireturn, 1) := by decide +kernel
theorem ef_h (m : MethodId) (a : Addr) (q : Int32) : entryFrame m #[(.ref a), (.int q)] 2 = mkF m 0 #[.val (.ref a), .val (.int q)] [] := by first | (simp [entryFrame, mkF, argsToLocals, Value.category]; done) | rfl
set_option maxRecDepth 65536 in
set_option maxHeartbeats 40000000 in
theorem rm_h (l : Launch) (Z : State) (a0 : Array Value) (hw : ∀ d ∈ tables_1, d.before a0 Z = true) (h0 : Heap) (a : Addr) (z q r : Int32) (E : Exa Z h0 a "com/example/peerloom/peerloom/directory/Condition$Operator") (F : Fld Z h0 a "java/lang/Enum" "ordinal" "I" (.int z)) (hz : (z = 0 ∧ r = if q = 0 then 1 else 0) ∨ (z = 1 ∧ r = if ¬ q = 0 then 1 else 0) ∨ (z = 2 ∧ r = if q < 0 then 1 else 0) ∨ (z = 3 ∧ r = if ¬ 0 < q then 1 else 0) ∨ (z = 4 ∧ r = if 0 < q then 1 else 0) ∨ (z = 5 ∧ r = if ¬ q < 0 then 1 else 0)) :
    Ct l Z [] (⟨"com/example/peerloom/peerloom/directory/Condition$Operator", "holds", "(I)Z"⟩ : MethodName) prog_14_method_4_code 2 (some .boolean) (⟨1, 0, 0, 12⟩ : Room) #[(.ref a), (.int q)] h0 (Pu h0 (.int r)) := by
  refine Ct.of pn_h (fun m => ef_h m a q) ?_
  intro p e s m below meth c s₁ X0
  rcases hz with ⟨rfl, rfl⟩ | ⟨rfl, rfl⟩ | ⟨rfl, rfl⟩ | ⟨rfl, rfl⟩ | ⟨rfl, rfl⟩ | ⟨rfl, rfl⟩
  · skip
    refine Go.aloadN X0 1 dh_0 rfl rfl ?_
    refine Go.callUP X0 4 [] [] 0 (y := (⟨"com/example/peerloom/peerloom/directory/Condition$Operator", "ordinal", "()I"⟩ : MethodName)) (owner := "java/lang/Enum") (hw _ (List.mem_of_getElem? (i := 16) rfl)) (hw _ (List.mem_of_getElem? (i := 17) rfl)) (hw _ (List.mem_of_getElem? (i := 18) rfl)) (hw _ (List.mem_of_getElem? (i := 20) rfl)) (hw _ (List.mem_of_getElem? (i := 19) rfl)) (hw _ (List.mem_of_getElem? (i := 21) rfl)) (by decide) E (hw _ (List.mem_of_getElem? (i := 22) rfl)) pd_0 dh_1 (rm_o l Z a0 hw h0 a (0 : Int32) F) rfl rfl rfl (Nat.le_of_eq rfl) (by decide) (by decide) (by decide) (by decide) ?_
    intro T1 L1 X1
    refine Go.tsw X1 54 (o := 50) dh_4 (by decide) (by decide) ?_
    refine Go.iloadN X1 55 dh_54 rfl ?_
    by_cases c2 : q = 0
    · skip
      refine Go.if0N X1 58 dh_55 (XT.i0_ne_f c2) ?_
      refine Go.iconst X1 59 (1 : Int32) dh_58 ?_
      refine Go.goto X1 123 dh_59 ?_
      exact Go.retI X1 rfl (by simp) rfl dh_123 (X1.fin ⟨by simp [c2], rfl⟩ (by decide) (by decide))
    · skip
      refine Go.if0Y X1 62 dh_55 (XT.i0_ne_t c2) ?_
      refine Go.iconst X1 63 (0 : Int32) dh_62 ?_
      refine Go.goto X1 123 dh_63 ?_
      exact Go.retI X1 rfl (by simp) rfl dh_123 (X1.fin ⟨by simp [c2], rfl⟩ (by decide) (by decide))
  · skip
    refine Go.aloadN X0 1 dh_0 rfl rfl ?_
    refine Go.callUP X0 4 [] [] 0 (y := (⟨"com/example/peerloom/peerloom/directory/Condition$Operator", "ordinal", "()I"⟩ : MethodName)) (owner := "java/lang/Enum") (hw _ (List.mem_of_getElem? (i := 16) rfl)) (hw _ (List.mem_of_getElem? (i := 17) rfl)) (hw _ (List.mem_of_getElem? (i := 18) rfl)) (hw _ (List.mem_of_getElem? (i := 20) rfl)) (hw _ (List.mem_of_getElem? (i := 19) rfl)) (hw _ (List.mem_of_getElem? (i := 21) rfl)) (by decide) E (hw _ (List.mem_of_getElem? (i := 22) rfl)) pd_0 dh_1 (rm_o l Z a0 hw h0 a (1 : Int32) F) rfl rfl rfl (Nat.le_of_eq rfl) (by decide) (by decide) (by decide) (by decide) ?_
    intro T1 L1 X1
    refine Go.tsw X1 66 (o := 62) dh_4 (by decide) (by decide) ?_
    refine Go.iloadN X1 67 dh_66 rfl ?_
    by_cases c2 : q = 0
    · skip
      refine Go.if0Y X1 74 dh_67 (XT.i0_eq_t c2) ?_
      refine Go.iconst X1 75 (0 : Int32) dh_74 ?_
      refine Go.goto X1 123 dh_75 ?_
      exact Go.retI X1 rfl (by simp) rfl dh_123 (X1.fin ⟨by simp [c2], rfl⟩ (by decide) (by decide))
    · skip
      refine Go.if0N X1 70 dh_67 (XT.i0_eq_f c2) ?_
      refine Go.iconst X1 71 (1 : Int32) dh_70 ?_
      refine Go.goto X1 123 dh_71 ?_
      exact Go.retI X1 rfl (by simp) rfl dh_123 (X1.fin ⟨by simp [c2], rfl⟩ (by decide) (by decide))
  · skip
    refine Go.aloadN X0 1 dh_0 rfl rfl ?_
    refine Go.callUP X0 4 [] [] 0 (y := (⟨"com/example/peerloom/peerloom/directory/Condition$Operator", "ordinal", "()I"⟩ : MethodName)) (owner := "java/lang/Enum") (hw _ (List.mem_of_getElem? (i := 16) rfl)) (hw _ (List.mem_of_getElem? (i := 17) rfl)) (hw _ (List.mem_of_getElem? (i := 18) rfl)) (hw _ (List.mem_of_getElem? (i := 20) rfl)) (hw _ (List.mem_of_getElem? (i := 19) rfl)) (hw _ (List.mem_of_getElem? (i := 21) rfl)) (by decide) E (hw _ (List.mem_of_getElem? (i := 22) rfl)) pd_0 dh_1 (rm_o l Z a0 hw h0 a (2 : Int32) F) rfl rfl rfl (Nat.le_of_eq rfl) (by decide) (by decide) (by decide) (by decide) ?_
    intro T1 L1 X1
    refine Go.tsw X1 78 (o := 74) dh_4 (by decide) (by decide) ?_
    refine Go.iloadN X1 79 dh_78 rfl ?_
    by_cases c2 : q < 0
    · skip
      refine Go.if0N X1 82 dh_79 (XT.i0_ge_f c2) ?_
      refine Go.iconst X1 83 (1 : Int32) dh_82 ?_
      refine Go.goto X1 123 dh_83 ?_
      exact Go.retI X1 rfl (by simp) rfl dh_123 (X1.fin ⟨by simp [c2], rfl⟩ (by decide) (by decide))
    · skip
      refine Go.if0Y X1 86 dh_79 (XT.i0_ge_t c2) ?_
      refine Go.iconst X1 87 (0 : Int32) dh_86 ?_
      refine Go.goto X1 123 dh_87 ?_
      exact Go.retI X1 rfl (by simp) rfl dh_123 (X1.fin ⟨by simp [c2], rfl⟩ (by decide) (by decide))
  · skip
    refine Go.aloadN X0 1 dh_0 rfl rfl ?_
    refine Go.callUP X0 4 [] [] 0 (y := (⟨"com/example/peerloom/peerloom/directory/Condition$Operator", "ordinal", "()I"⟩ : MethodName)) (owner := "java/lang/Enum") (hw _ (List.mem_of_getElem? (i := 16) rfl)) (hw _ (List.mem_of_getElem? (i := 17) rfl)) (hw _ (List.mem_of_getElem? (i := 18) rfl)) (hw _ (List.mem_of_getElem? (i := 20) rfl)) (hw _ (List.mem_of_getElem? (i := 19) rfl)) (hw _ (List.mem_of_getElem? (i := 21) rfl)) (by decide) E (hw _ (List.mem_of_getElem? (i := 22) rfl)) pd_0 dh_1 (rm_o l Z a0 hw h0 a (3 : Int32) F) rfl rfl rfl (Nat.le_of_eq rfl) (by decide) (by decide) (by decide) (by decide) ?_
    intro T1 L1 X1
    refine Go.tsw X1 90 (o := 86) dh_4 (by decide) (by decide) ?_
    refine Go.iloadN X1 91 dh_90 rfl ?_
    by_cases c2 : 0 < q
    · skip
      refine Go.if0Y X1 98 dh_91 (XT.i0_gt_t c2) ?_
      refine Go.iconst X1 99 (0 : Int32) dh_98 ?_
      refine Go.goto X1 123 dh_99 ?_
      exact Go.retI X1 rfl (by simp) rfl dh_123 (X1.fin ⟨by simp [c2], rfl⟩ (by decide) (by decide))
    · skip
      refine Go.if0N X1 94 dh_91 (XT.i0_gt_f c2) ?_
      refine Go.iconst X1 95 (1 : Int32) dh_94 ?_
      refine Go.goto X1 123 dh_95 ?_
      exact Go.retI X1 rfl (by simp) rfl dh_123 (X1.fin ⟨by simp [c2], rfl⟩ (by decide) (by decide))
  · skip
    refine Go.aloadN X0 1 dh_0 rfl rfl ?_
    refine Go.callUP X0 4 [] [] 0 (y := (⟨"com/example/peerloom/peerloom/directory/Condition$Operator", "ordinal", "()I"⟩ : MethodName)) (owner := "java/lang/Enum") (hw _ (List.mem_of_getElem? (i := 16) rfl)) (hw _ (List.mem_of_getElem? (i := 17) rfl)) (hw _ (List.mem_of_getElem? (i := 18) rfl)) (hw _ (List.mem_of_getElem? (i := 20) rfl)) (hw _ (List.mem_of_getElem? (i := 19) rfl)) (hw _ (List.mem_of_getElem? (i := 21) rfl)) (by decide) E (hw _ (List.mem_of_getElem? (i := 22) rfl)) pd_0 dh_1 (rm_o l Z a0 hw h0 a (4 : Int32) F) rfl rfl rfl (Nat.le_of_eq rfl) (by decide) (by decide) (by decide) (by decide) ?_
    intro T1 L1 X1
    refine Go.tsw X1 102 (o := 98) dh_4 (by decide) (by decide) ?_
    refine Go.iloadN X1 103 dh_102 rfl ?_
    by_cases c2 : 0 < q
    · skip
      refine Go.if0N X1 106 dh_103 (XT.i0_le_f c2) ?_
      refine Go.iconst X1 107 (1 : Int32) dh_106 ?_
      refine Go.goto X1 123 dh_107 ?_
      exact Go.retI X1 rfl (by simp) rfl dh_123 (X1.fin ⟨by simp [c2], rfl⟩ (by decide) (by decide))
    · skip
      refine Go.if0Y X1 110 dh_103 (XT.i0_le_t c2) ?_
      refine Go.iconst X1 111 (0 : Int32) dh_110 ?_
      refine Go.goto X1 123 dh_111 ?_
      exact Go.retI X1 rfl (by simp) rfl dh_123 (X1.fin ⟨by simp [c2], rfl⟩ (by decide) (by decide))
  · skip
    refine Go.aloadN X0 1 dh_0 rfl rfl ?_
    refine Go.callUP X0 4 [] [] 0 (y := (⟨"com/example/peerloom/peerloom/directory/Condition$Operator", "ordinal", "()I"⟩ : MethodName)) (owner := "java/lang/Enum") (hw _ (List.mem_of_getElem? (i := 16) rfl)) (hw _ (List.mem_of_getElem? (i := 17) rfl)) (hw _ (List.mem_of_getElem? (i := 18) rfl)) (hw _ (List.mem_of_getElem? (i := 20) rfl)) (hw _ (List.mem_of_getElem? (i := 19) rfl)) (hw _ (List.mem_of_getElem? (i := 21) rfl)) (by decide) E (hw _ (List.mem_of_getElem? (i := 22) rfl)) pd_0 dh_1 (rm_o l Z a0 hw h0 a (5 : Int32) F) rfl rfl rfl (Nat.le_of_eq rfl) (by decide) (by decide) (by decide) (by decide) ?_
    intro T1 L1 X1
    refine Go.tsw X1 114 (o := 110) dh_4 (by decide) (by decide) ?_
    refine Go.iloadN X1 115 dh_114 rfl ?_
    by_cases c2 : q < 0
    · skip
      refine Go.if0Y X1 122 dh_115 (XT.i0_lt_t c2) ?_
      refine Go.iconst X1 123 (0 : Int32) dh_122 ?_
      exact Go.retI X1 rfl (by simp) rfl dh_123 (X1.fin ⟨by simp [c2], rfl⟩ (by decide) (by decide))
    · skip
      refine Go.if0N X1 118 dh_115 (XT.i0_lt_f c2) ?_
      refine Go.iconst X1 119 (1 : Int32) dh_118 ?_
      refine Go.goto X1 123 dh_119 ?_
      exact Go.retI X1 rfl (by simp) rfl dh_123 (X1.fin ⟨by simp [c2], rfl⟩ (by decide) (by decide))
theorem own_neg {q : Int32} (h : q < 0) : (0 : Int32) = (if q = 0 then 1 else 0) ∧ (1 : Int32) = (if ¬ q = 0 then 1 else 0) ∧ (1 : Int32) = (if q < 0 then 1 else 0) ∧ (1 : Int32) = (if ¬ 0 < q then 1 else 0) ∧ (0 : Int32) = (if 0 < q then 1 else 0) ∧ (0 : Int32) = (if ¬ q < 0 then 1 else 0) := by
  have h1 : ¬ q = 0 := fun e => by subst e; exact absurd h (by decide)
  have h2 : ¬ 0 < q := Int32.lt_asymm h
  simp [h, h1, h2]
theorem own_zer {q : Int32} (h : q = 0) : (1 : Int32) = (if q = 0 then 1 else 0) ∧ (0 : Int32) = (if ¬ q = 0 then 1 else 0) ∧ (0 : Int32) = (if q < 0 then 1 else 0) ∧ (1 : Int32) = (if ¬ 0 < q then 1 else 0) ∧ (0 : Int32) = (if 0 < q then 1 else 0) ∧ (1 : Int32) = (if ¬ q < 0 then 1 else 0) := by
  subst h
  decide
theorem own_pos {q : Int32} (h : ¬ q < 0) (h' : ¬ q = 0) : (0 : Int32) = (if q = 0 then 1 else 0) ∧ (1 : Int32) = (if ¬ q = 0 then 1 else 0) ∧ (0 : Int32) = (if q < 0 then 1 else 0) ∧ (0 : Int32) = (if ¬ 0 < q then 1 else 0) ∧ (1 : Int32) = (if 0 < q then 1 else 0) ∧ (1 : Int32) = (if ¬ q < 0 then 1 else 0) := by
  have h2 : 0 < q := by
    have e0 : (0 : Int32).toInt = 0 := by decide
    rw [Int32.lt_iff_toInt_lt, e0] at h
    rw [← Int32.toInt_inj, e0] at h'
    rw [Int32.lt_iff_toInt_lt, e0]
    omega
  simp [h, h', h2]
theorem ef_l (m : MethodId) (p1 : Int32) (p2 : Int32) : entryFrame m #[(.int p1), (.int p2)] maxLocals = mkF m 0 #[.val (.int p1), .val (.int p2), .unset, .unset, .unset, .unset] [] := by first | (simp [entryFrame, mkF, argsToLocals, Value.category, maxLocals]; done) | rfl
theorem own_k6 (x : Int32) : (x &&& 2147483647) % 6 = 0 ∨ (x &&& 2147483647) % 6 = 1 ∨ (x &&& 2147483647) % 6 = 2 ∨ (x &&& 2147483647) % 6 = 3 ∨ (x &&& 2147483647) % 6 = 4 ∨ (x &&& 2147483647) % 6 = 5 := by
  have h1 := c_mask x 2147483647 31 (by decide) (by decide)
  have h2 := (c_irem (x &&& 2147483647) 6 6 (by decide)).1 (by omega)
  simp only [← Int32.toInt_inj]
  have e0 : (0 : Int32).toInt = 0 := by decide
  have e1 : (1 : Int32).toInt = 1 := by decide
  have e2 : (2 : Int32).toInt = 2 := by decide
  have e3 : (3 : Int32).toInt = 3 := by decide
  have e4 : (4 : Int32).toInt = 4 := by decide
  have e5 : (5 : Int32).toInt = 5 := by decide
  rw [e0, e1, e2, e3, e4, e5, h2]
  omega
set_option maxRecDepth 65536 in
set_option maxHeartbeats 40000000 in
theorem rm_l (l : Launch) (Z : State) (a0 : Array Value) (hw : ∀ d ∈ tables_1, d.before a0 Z = true) (h0 : Heap) (b0 : Addr) (b1 : Addr) (b2 : Addr) (b3 : Addr) (b4 : Addr) (b5 : Addr) (S0 : Sta Z Z.heap "com/example/peerloom/peerloom/directory/Condition$Operator" "EQUAL" "Lcom/example/peerloom/peerloom/directory/Condition$Operator;" (.ref b0)) (S1 : Sta Z Z.heap "com/example/peerloom/peerloom/directory/Condition$Operator" "NOT_EQUAL" "Lcom/example/peerloom/peerloom/directory/Condition$Operator;" (.ref b1)) (S2 : Sta Z Z.heap "com/example/peerloom/peerloom/directory/Condition$Operator" "LESS" "Lcom/example/peerloom/peerloom/directory/Condition$Operator;" (.ref b2)) (S3 : Sta Z Z.heap "com/example/peerloom/peerloom/directory/Condition$Operator" "AT_MOST" "Lcom/example/peerloom/peerloom/directory/Condition$Operator;" (.ref b3)) (S4 : Sta Z Z.heap "com/example/peerloom/peerloom/directory/Condition$Operator" "GREATER" "Lcom/example/peerloom/peerloom/directory/Condition$Operator;" (.ref b4)) (S5 : Sta Z Z.heap "com/example/peerloom/peerloom/directory/Condition$Operator" "AT_LEAST" "Lcom/example/peerloom/peerloom/directory/Condition$Operator;" (.ref b5)) (E0 : Exa Z Z.heap b0 "com/example/peerloom/peerloom/directory/Condition$Operator") (F0 : Fld Z Z.heap b0 "java/lang/Enum" "ordinal" "I" (.int 0)) (E1 : Exa Z Z.heap b1 "com/example/peerloom/peerloom/directory/Condition$Operator") (F1 : Fld Z Z.heap b1 "java/lang/Enum" "ordinal" "I" (.int 1)) (E2 : Exa Z Z.heap b2 "com/example/peerloom/peerloom/directory/Condition$Operator") (F2 : Fld Z Z.heap b2 "java/lang/Enum" "ordinal" "I" (.int 2)) (E3 : Exa Z Z.heap b3 "com/example/peerloom/peerloom/directory/Condition$Operator") (F3 : Fld Z Z.heap b3 "java/lang/Enum" "ordinal" "I" (.int 3)) (E4 : Exa Z Z.heap b4 "com/example/peerloom/peerloom/directory/Condition$Operator") (F4 : Fld Z Z.heap b4 "java/lang/Enum" "ordinal" "I" (.int 4)) (E5 : Exa Z Z.heap b5 "com/example/peerloom/peerloom/directory/Condition$Operator") (F5 : Fld Z Z.heap b5 "java/lang/Enum" "ordinal" "I" (.int 5)) (p1 p2 : Int32) :
    Ct l Z tables_1 x code maxLocals ret room_1 #[(.int p1), (.int p2)] h0 (fun v _ => v = some (.int 1)) := by
  refine Ct.of pn_l (fun m => ef_l m p1 p2) ?_
  intro p e s m below meth c s₁ X0
  refine Go.iloadN X0 1 at_0 rfl ?_
  refine Go.ldcI X0 3 (hw _ (List.mem_of_getElem? (i := 0) rfl)) at_1 ?_
  refine Go.iand X0 4 at_3 ?_
  refine Go.bipush X0 6 (6 : Int32) at_4 ?_
  refine Go.irem X0 7 at_6 (by decide) ?_
  rcases own_k6 p1 with hk | hk | hk | hk | hk | hk
  · rw [hk]
    refine Go.istoreN X0 8 #[.val (.int p1), .val (.int p2), .val (.int (0 : Int32)), .unset, .unset, .unset] at_7 rfl ?_
    refine Go.iloadN X0 9 at_8 rfl ?_
    refine Go.callSP X0 12 [(.int (0 : Int32))] [] 0 (hw _ (List.mem_of_getElem? (i := 1) rfl)) (hw _ (List.mem_of_getElem? (i := 2) rfl)) (hw _ (List.mem_of_getElem? (i := 3) rfl)) (by decide) (hw _ (List.mem_of_getElem? (i := 4) rfl)) pd_1 at_9 (rm_p l Z a0 hw h0 b0 b1 b2 b3 b4 b5 S0 S1 S2 S3 S4 S5 (0 : Int32) b0 (Or.inl ⟨rfl, rfl⟩)) rfl rfl rfl (Nat.le_of_eq rfl) (by decide) (by decide) (by decide) (by decide) ?_
    intro T1 L1 X1
    refine Go.astoreN X1 13 #[.val (.int p1), .val (.int p2), .val (.int (0 : Int32)), .val (.ref b0), .unset, .unset] at_12 rfl rfl ?_
    refine Go.iloadN X1 14 at_13 rfl ?_
    by_cases c2 : p2 < 0
    · skip
      refine Go.if0N X1 17 at_14 (XT.i0_ge_f c2) ?_
      refine Go.iconst X1 18 (0 : Int32) at_17 ?_
      refine Go.goto X1 30 at_18 ?_
      refine Go.istore X1 32 #[.val (.int p1), .val (.int p2), .val (.int (0 : Int32)), .val (.ref b0), .val (.int (0 : Int32)), .unset] at_30 rfl ?_
      refine Go.iloadN X1 33 at_32 rfl ?_
      refine Go.callSP X1 36 [(.int (0 : Int32))] [] 0 (hw _ (List.mem_of_getElem? (i := 8) rfl)) (hw _ (List.mem_of_getElem? (i := 9) rfl)) (hw _ (List.mem_of_getElem? (i := 3) rfl)) (by decide) (hw _ (List.mem_of_getElem? (i := 10) rfl)) pd_2 at_33 (rm_a l Z a0 hw h0 (0 : Int32) (2 : Int32) (Or.inl ⟨rfl, rfl⟩)) rfl rfl rfl (Nat.le_of_eq rfl) (by decide) (by decide) (by decide) (by decide) ?_
      intro T3 L3 X3
      refine Go.iload X3 38 at_36 rfl ?_
      refine Go.ishr X3 39 at_38 ?_
      refine Go.iconst X3 40 (1 : Int32) at_39 ?_
      refine Go.iand X3 41 at_40 ?_
      refine Go.if0Y X3 48 at_41 (XT.i0_eq_t (by decide)) ?_
      refine Go.iconst X3 49 (0 : Int32) at_48 ?_
      refine Go.istore X3 51 #[.val (.int p1), .val (.int p2), .val (.int (0 : Int32)), .val (.ref b0), .val (.int (0 : Int32)), .val (.int (0 : Int32))] at_49 rfl ?_
      refine Go.aloadN X3 52 at_51 rfl rfl ?_
      refine Go.iloadN X3 53 at_52 rfl ?_
      refine Go.callVP X3 56 [(.int p2)] [] 0 (hw _ (List.mem_of_getElem? (i := 11) rfl)) (hw _ (List.mem_of_getElem? (i := 12) rfl)) (hw _ (List.mem_of_getElem? (i := 14) rfl)) (notFace_of_selects (args := #[]) (mvT X3.hZ (hw _ (List.mem_of_getElem? (i := 14) rfl)))) (hw _ (List.mem_of_getElem? (i := 13) rfl)) (hw _ (List.mem_of_getElem? (i := 6) rfl)) (by decide) (E0.ext X3.old) (hw _ (List.mem_of_getElem? (i := 15) rfl)) pd_3 at_53 (rm_h l Z a0 hw h0 b0 (0 : Int32) p2 (0 : Int32) (E0.ext X3.old) (F0.ext X3.old) (Or.inl ⟨rfl, (own_neg c2).1⟩)) rfl rfl rfl (Nat.le_of_eq rfl) (by decide) (by decide) (by decide) (by decide) ?_
      intro T4 L4 X4
      refine Go.iload X4 58 at_56 rfl ?_
      refine Go.icmpN X4 61 at_58 (XT.ii_ne_f (by decide)) ?_
      refine Go.iconst X4 62 (1 : Int32) at_61 ?_
      refine Go.goto X4 66 at_62 ?_
      exact Go.retI X4 rfl (by simp) rfl at_66 (X4.fin rfl (by decide) (by decide))
    · skip
      refine Go.if0Y X1 21 at_14 (XT.i0_ge_t c2) ?_
      refine Go.iloadN X1 22 at_21 rfl ?_
      by_cases c5 : p2 = 0
      · skip
        refine Go.if0N X1 25 at_22 (XT.i0_ne_f c5) ?_
        refine Go.iconst X1 26 (1 : Int32) at_25 ?_
        refine Go.goto X1 30 at_26 ?_
        refine Go.istore X1 32 #[.val (.int p1), .val (.int p2), .val (.int (0 : Int32)), .val (.ref b0), .val (.int (1 : Int32)), .unset] at_30 rfl ?_
        refine Go.iloadN X1 33 at_32 rfl ?_
        refine Go.callSP X1 36 [(.int (0 : Int32))] [] 0 (hw _ (List.mem_of_getElem? (i := 8) rfl)) (hw _ (List.mem_of_getElem? (i := 9) rfl)) (hw _ (List.mem_of_getElem? (i := 3) rfl)) (by decide) (hw _ (List.mem_of_getElem? (i := 10) rfl)) pd_2 at_33 (rm_a l Z a0 hw h0 (0 : Int32) (2 : Int32) (Or.inl ⟨rfl, rfl⟩)) rfl rfl rfl (Nat.le_of_eq rfl) (by decide) (by decide) (by decide) (by decide) ?_
        intro T6 L6 X6
        refine Go.iload X6 38 at_36 rfl ?_
        refine Go.ishr X6 39 at_38 ?_
        refine Go.iconst X6 40 (1 : Int32) at_39 ?_
        refine Go.iand X6 41 at_40 ?_
        refine Go.if0N X6 44 at_41 (XT.i0_eq_f (by decide)) ?_
        refine Go.iconst X6 45 (1 : Int32) at_44 ?_
        refine Go.goto X6 49 at_45 ?_
        refine Go.istore X6 51 #[.val (.int p1), .val (.int p2), .val (.int (0 : Int32)), .val (.ref b0), .val (.int (1 : Int32)), .val (.int (1 : Int32))] at_49 rfl ?_
        refine Go.aloadN X6 52 at_51 rfl rfl ?_
        refine Go.iloadN X6 53 at_52 rfl ?_
        refine Go.callVP X6 56 [(.int p2)] [] 0 (hw _ (List.mem_of_getElem? (i := 11) rfl)) (hw _ (List.mem_of_getElem? (i := 12) rfl)) (hw _ (List.mem_of_getElem? (i := 14) rfl)) (notFace_of_selects (args := #[]) (mvT X6.hZ (hw _ (List.mem_of_getElem? (i := 14) rfl)))) (hw _ (List.mem_of_getElem? (i := 13) rfl)) (hw _ (List.mem_of_getElem? (i := 6) rfl)) (by decide) (E0.ext X6.old) (hw _ (List.mem_of_getElem? (i := 15) rfl)) pd_3 at_53 (rm_h l Z a0 hw h0 b0 (0 : Int32) p2 (1 : Int32) (E0.ext X6.old) (F0.ext X6.old) (Or.inl ⟨rfl, (own_zer c5).1⟩)) rfl rfl rfl (Nat.le_of_eq rfl) (by decide) (by decide) (by decide) (by decide) ?_
        intro T7 L7 X7
        refine Go.iload X7 58 at_56 rfl ?_
        refine Go.icmpN X7 61 at_58 (XT.ii_ne_f (by decide)) ?_
        refine Go.iconst X7 62 (1 : Int32) at_61 ?_
        refine Go.goto X7 66 at_62 ?_
        exact Go.retI X7 rfl (by simp) rfl at_66 (X7.fin rfl (by decide) (by decide))
      · skip
        refine Go.if0Y X1 29 at_22 (XT.i0_ne_t c5) ?_
        refine Go.iconst X1 30 (2 : Int32) at_29 ?_
        refine Go.istore X1 32 #[.val (.int p1), .val (.int p2), .val (.int (0 : Int32)), .val (.ref b0), .val (.int (2 : Int32)), .unset] at_30 rfl ?_
        refine Go.iloadN X1 33 at_32 rfl ?_
        refine Go.callSP X1 36 [(.int (0 : Int32))] [] 0 (hw _ (List.mem_of_getElem? (i := 8) rfl)) (hw _ (List.mem_of_getElem? (i := 9) rfl)) (hw _ (List.mem_of_getElem? (i := 3) rfl)) (by decide) (hw _ (List.mem_of_getElem? (i := 10) rfl)) pd_2 at_33 (rm_a l Z a0 hw h0 (0 : Int32) (2 : Int32) (Or.inl ⟨rfl, rfl⟩)) rfl rfl rfl (Nat.le_of_eq rfl) (by decide) (by decide) (by decide) (by decide) ?_
        intro T8 L8 X8
        refine Go.iload X8 38 at_36 rfl ?_
        refine Go.ishr X8 39 at_38 ?_
        refine Go.iconst X8 40 (1 : Int32) at_39 ?_
        refine Go.iand X8 41 at_40 ?_
        refine Go.if0Y X8 48 at_41 (XT.i0_eq_t (by decide)) ?_
        refine Go.iconst X8 49 (0 : Int32) at_48 ?_
        refine Go.istore X8 51 #[.val (.int p1), .val (.int p2), .val (.int (0 : Int32)), .val (.ref b0), .val (.int (2 : Int32)), .val (.int (0 : Int32))] at_49 rfl ?_
        refine Go.aloadN X8 52 at_51 rfl rfl ?_
        refine Go.iloadN X8 53 at_52 rfl ?_
        refine Go.callVP X8 56 [(.int p2)] [] 0 (hw _ (List.mem_of_getElem? (i := 11) rfl)) (hw _ (List.mem_of_getElem? (i := 12) rfl)) (hw _ (List.mem_of_getElem? (i := 14) rfl)) (notFace_of_selects (args := #[]) (mvT X8.hZ (hw _ (List.mem_of_getElem? (i := 14) rfl)))) (hw _ (List.mem_of_getElem? (i := 13) rfl)) (hw _ (List.mem_of_getElem? (i := 6) rfl)) (by decide) (E0.ext X8.old) (hw _ (List.mem_of_getElem? (i := 15) rfl)) pd_3 at_53 (rm_h l Z a0 hw h0 b0 (0 : Int32) p2 (0 : Int32) (E0.ext X8.old) (F0.ext X8.old) (Or.inl ⟨rfl, (own_pos c2 c5).1⟩)) rfl rfl rfl (Nat.le_of_eq rfl) (by decide) (by decide) (by decide) (by decide) ?_
        intro T9 L9 X9
        refine Go.iload X9 58 at_56 rfl ?_
        refine Go.icmpN X9 61 at_58 (XT.ii_ne_f (by decide)) ?_
        refine Go.iconst X9 62 (1 : Int32) at_61 ?_
        refine Go.goto X9 66 at_62 ?_
        exact Go.retI X9 rfl (by simp) rfl at_66 (X9.fin rfl (by decide) (by decide))
  · rw [hk]
    refine Go.istoreN X0 8 #[.val (.int p1), .val (.int p2), .val (.int (1 : Int32)), .unset, .unset, .unset] at_7 rfl ?_
    refine Go.iloadN X0 9 at_8 rfl ?_
    refine Go.callSP X0 12 [(.int (1 : Int32))] [] 0 (hw _ (List.mem_of_getElem? (i := 1) rfl)) (hw _ (List.mem_of_getElem? (i := 2) rfl)) (hw _ (List.mem_of_getElem? (i := 3) rfl)) (by decide) (hw _ (List.mem_of_getElem? (i := 4) rfl)) pd_1 at_9 (rm_p l Z a0 hw h0 b0 b1 b2 b3 b4 b5 S0 S1 S2 S3 S4 S5 (1 : Int32) b1 (Or.inr (Or.inl ⟨rfl, rfl⟩))) rfl rfl rfl (Nat.le_of_eq rfl) (by decide) (by decide) (by decide) (by decide) ?_
    intro T10 L10 X10
    refine Go.astoreN X10 13 #[.val (.int p1), .val (.int p2), .val (.int (1 : Int32)), .val (.ref b1), .unset, .unset] at_12 rfl rfl ?_
    refine Go.iloadN X10 14 at_13 rfl ?_
    by_cases c11 : p2 < 0
    · skip
      refine Go.if0N X10 17 at_14 (XT.i0_ge_f c11) ?_
      refine Go.iconst X10 18 (0 : Int32) at_17 ?_
      refine Go.goto X10 30 at_18 ?_
      refine Go.istore X10 32 #[.val (.int p1), .val (.int p2), .val (.int (1 : Int32)), .val (.ref b1), .val (.int (0 : Int32)), .unset] at_30 rfl ?_
      refine Go.iloadN X10 33 at_32 rfl ?_
      refine Go.callSP X10 36 [(.int (1 : Int32))] [] 0 (hw _ (List.mem_of_getElem? (i := 8) rfl)) (hw _ (List.mem_of_getElem? (i := 9) rfl)) (hw _ (List.mem_of_getElem? (i := 3) rfl)) (by decide) (hw _ (List.mem_of_getElem? (i := 10) rfl)) pd_2 at_33 (rm_a l Z a0 hw h0 (1 : Int32) (5 : Int32) (Or.inr (Or.inl ⟨rfl, rfl⟩))) rfl rfl rfl (Nat.le_of_eq rfl) (by decide) (by decide) (by decide) (by decide) ?_
      intro T12 L12 X12
      refine Go.iload X12 38 at_36 rfl ?_
      refine Go.ishr X12 39 at_38 ?_
      refine Go.iconst X12 40 (1 : Int32) at_39 ?_
      refine Go.iand X12 41 at_40 ?_
      refine Go.if0N X12 44 at_41 (XT.i0_eq_f (by decide)) ?_
      refine Go.iconst X12 45 (1 : Int32) at_44 ?_
      refine Go.goto X12 49 at_45 ?_
      refine Go.istore X12 51 #[.val (.int p1), .val (.int p2), .val (.int (1 : Int32)), .val (.ref b1), .val (.int (0 : Int32)), .val (.int (1 : Int32))] at_49 rfl ?_
      refine Go.aloadN X12 52 at_51 rfl rfl ?_
      refine Go.iloadN X12 53 at_52 rfl ?_
      refine Go.callVP X12 56 [(.int p2)] [] 0 (hw _ (List.mem_of_getElem? (i := 11) rfl)) (hw _ (List.mem_of_getElem? (i := 12) rfl)) (hw _ (List.mem_of_getElem? (i := 14) rfl)) (notFace_of_selects (args := #[]) (mvT X12.hZ (hw _ (List.mem_of_getElem? (i := 14) rfl)))) (hw _ (List.mem_of_getElem? (i := 13) rfl)) (hw _ (List.mem_of_getElem? (i := 6) rfl)) (by decide) (E1.ext X12.old) (hw _ (List.mem_of_getElem? (i := 15) rfl)) pd_3 at_53 (rm_h l Z a0 hw h0 b1 (1 : Int32) p2 (1 : Int32) (E1.ext X12.old) (F1.ext X12.old) (Or.inr (Or.inl ⟨rfl, (own_neg c11).2.1⟩))) rfl rfl rfl (Nat.le_of_eq rfl) (by decide) (by decide) (by decide) (by decide) ?_
      intro T13 L13 X13
      refine Go.iload X13 58 at_56 rfl ?_
      refine Go.icmpN X13 61 at_58 (XT.ii_ne_f (by decide)) ?_
      refine Go.iconst X13 62 (1 : Int32) at_61 ?_
      refine Go.goto X13 66 at_62 ?_
      exact Go.retI X13 rfl (by simp) rfl at_66 (X13.fin rfl (by decide) (by decide))
    · skip
      refine Go.if0Y X10 21 at_14 (XT.i0_ge_t c11) ?_
      refine Go.iloadN X10 22 at_21 rfl ?_
      by_cases c14 : p2 = 0
      · skip
        refine Go.if0N X10 25 at_22 (XT.i0_ne_f c14) ?_
        refine Go.iconst X10 26 (1 : Int32) at_25 ?_
        refine Go.goto X10 30 at_26 ?_
        refine Go.istore X10 32 #[.val (.int p1), .val (.int p2), .val (.int (1 : Int32)), .val (.ref b1), .val (.int (1 : Int32)), .unset] at_30 rfl ?_
        refine Go.iloadN X10 33 at_32 rfl ?_
        refine Go.callSP X10 36 [(.int (1 : Int32))] [] 0 (hw _ (List.mem_of_getElem? (i := 8) rfl)) (hw _ (List.mem_of_getElem? (i := 9) rfl)) (hw _ (List.mem_of_getElem? (i := 3) rfl)) (by decide) (hw _ (List.mem_of_getElem? (i := 10) rfl)) pd_2 at_33 (rm_a l Z a0 hw h0 (1 : Int32) (5 : Int32) (Or.inr (Or.inl ⟨rfl, rfl⟩))) rfl rfl rfl (Nat.le_of_eq rfl) (by decide) (by decide) (by decide) (by decide) ?_
        intro T15 L15 X15
        refine Go.iload X15 38 at_36 rfl ?_
        refine Go.ishr X15 39 at_38 ?_
        refine Go.iconst X15 40 (1 : Int32) at_39 ?_
        refine Go.iand X15 41 at_40 ?_
        refine Go.if0Y X15 48 at_41 (XT.i0_eq_t (by decide)) ?_
        refine Go.iconst X15 49 (0 : Int32) at_48 ?_
        refine Go.istore X15 51 #[.val (.int p1), .val (.int p2), .val (.int (1 : Int32)), .val (.ref b1), .val (.int (1 : Int32)), .val (.int (0 : Int32))] at_49 rfl ?_
        refine Go.aloadN X15 52 at_51 rfl rfl ?_
        refine Go.iloadN X15 53 at_52 rfl ?_
        refine Go.callVP X15 56 [(.int p2)] [] 0 (hw _ (List.mem_of_getElem? (i := 11) rfl)) (hw _ (List.mem_of_getElem? (i := 12) rfl)) (hw _ (List.mem_of_getElem? (i := 14) rfl)) (notFace_of_selects (args := #[]) (mvT X15.hZ (hw _ (List.mem_of_getElem? (i := 14) rfl)))) (hw _ (List.mem_of_getElem? (i := 13) rfl)) (hw _ (List.mem_of_getElem? (i := 6) rfl)) (by decide) (E1.ext X15.old) (hw _ (List.mem_of_getElem? (i := 15) rfl)) pd_3 at_53 (rm_h l Z a0 hw h0 b1 (1 : Int32) p2 (0 : Int32) (E1.ext X15.old) (F1.ext X15.old) (Or.inr (Or.inl ⟨rfl, (own_zer c14).2.1⟩))) rfl rfl rfl (Nat.le_of_eq rfl) (by decide) (by decide) (by decide) (by decide) ?_
        intro T16 L16 X16
        refine Go.iload X16 58 at_56 rfl ?_
        refine Go.icmpN X16 61 at_58 (XT.ii_ne_f (by decide)) ?_
        refine Go.iconst X16 62 (1 : Int32) at_61 ?_
        refine Go.goto X16 66 at_62 ?_
        exact Go.retI X16 rfl (by simp) rfl at_66 (X16.fin rfl (by decide) (by decide))
      · skip
        refine Go.if0Y X10 29 at_22 (XT.i0_ne_t c14) ?_
        refine Go.iconst X10 30 (2 : Int32) at_29 ?_
        refine Go.istore X10 32 #[.val (.int p1), .val (.int p2), .val (.int (1 : Int32)), .val (.ref b1), .val (.int (2 : Int32)), .unset] at_30 rfl ?_
        refine Go.iloadN X10 33 at_32 rfl ?_
        refine Go.callSP X10 36 [(.int (1 : Int32))] [] 0 (hw _ (List.mem_of_getElem? (i := 8) rfl)) (hw _ (List.mem_of_getElem? (i := 9) rfl)) (hw _ (List.mem_of_getElem? (i := 3) rfl)) (by decide) (hw _ (List.mem_of_getElem? (i := 10) rfl)) pd_2 at_33 (rm_a l Z a0 hw h0 (1 : Int32) (5 : Int32) (Or.inr (Or.inl ⟨rfl, rfl⟩))) rfl rfl rfl (Nat.le_of_eq rfl) (by decide) (by decide) (by decide) (by decide) ?_
        intro T17 L17 X17
        refine Go.iload X17 38 at_36 rfl ?_
        refine Go.ishr X17 39 at_38 ?_
        refine Go.iconst X17 40 (1 : Int32) at_39 ?_
        refine Go.iand X17 41 at_40 ?_
        refine Go.if0N X17 44 at_41 (XT.i0_eq_f (by decide)) ?_
        refine Go.iconst X17 45 (1 : Int32) at_44 ?_
        refine Go.goto X17 49 at_45 ?_
        refine Go.istore X17 51 #[.val (.int p1), .val (.int p2), .val (.int (1 : Int32)), .val (.ref b1), .val (.int (2 : Int32)), .val (.int (1 : Int32))] at_49 rfl ?_
        refine Go.aloadN X17 52 at_51 rfl rfl ?_
        refine Go.iloadN X17 53 at_52 rfl ?_
        refine Go.callVP X17 56 [(.int p2)] [] 0 (hw _ (List.mem_of_getElem? (i := 11) rfl)) (hw _ (List.mem_of_getElem? (i := 12) rfl)) (hw _ (List.mem_of_getElem? (i := 14) rfl)) (notFace_of_selects (args := #[]) (mvT X17.hZ (hw _ (List.mem_of_getElem? (i := 14) rfl)))) (hw _ (List.mem_of_getElem? (i := 13) rfl)) (hw _ (List.mem_of_getElem? (i := 6) rfl)) (by decide) (E1.ext X17.old) (hw _ (List.mem_of_getElem? (i := 15) rfl)) pd_3 at_53 (rm_h l Z a0 hw h0 b1 (1 : Int32) p2 (1 : Int32) (E1.ext X17.old) (F1.ext X17.old) (Or.inr (Or.inl ⟨rfl, (own_pos c11 c14).2.1⟩))) rfl rfl rfl (Nat.le_of_eq rfl) (by decide) (by decide) (by decide) (by decide) ?_
        intro T18 L18 X18
        refine Go.iload X18 58 at_56 rfl ?_
        refine Go.icmpN X18 61 at_58 (XT.ii_ne_f (by decide)) ?_
        refine Go.iconst X18 62 (1 : Int32) at_61 ?_
        refine Go.goto X18 66 at_62 ?_
        exact Go.retI X18 rfl (by simp) rfl at_66 (X18.fin rfl (by decide) (by decide))
  · rw [hk]
    refine Go.istoreN X0 8 #[.val (.int p1), .val (.int p2), .val (.int (2 : Int32)), .unset, .unset, .unset] at_7 rfl ?_
    refine Go.iloadN X0 9 at_8 rfl ?_
    refine Go.callSP X0 12 [(.int (2 : Int32))] [] 0 (hw _ (List.mem_of_getElem? (i := 1) rfl)) (hw _ (List.mem_of_getElem? (i := 2) rfl)) (hw _ (List.mem_of_getElem? (i := 3) rfl)) (by decide) (hw _ (List.mem_of_getElem? (i := 4) rfl)) pd_1 at_9 (rm_p l Z a0 hw h0 b0 b1 b2 b3 b4 b5 S0 S1 S2 S3 S4 S5 (2 : Int32) b2 (Or.inr (Or.inr (Or.inl ⟨rfl, rfl⟩)))) rfl rfl rfl (Nat.le_of_eq rfl) (by decide) (by decide) (by decide) (by decide) ?_
    intro T19 L19 X19
    refine Go.astoreN X19 13 #[.val (.int p1), .val (.int p2), .val (.int (2 : Int32)), .val (.ref b2), .unset, .unset] at_12 rfl rfl ?_
    refine Go.iloadN X19 14 at_13 rfl ?_
    by_cases c20 : p2 < 0
    · skip
      refine Go.if0N X19 17 at_14 (XT.i0_ge_f c20) ?_
      refine Go.iconst X19 18 (0 : Int32) at_17 ?_
      refine Go.goto X19 30 at_18 ?_
      refine Go.istore X19 32 #[.val (.int p1), .val (.int p2), .val (.int (2 : Int32)), .val (.ref b2), .val (.int (0 : Int32)), .unset] at_30 rfl ?_
      refine Go.iloadN X19 33 at_32 rfl ?_
      refine Go.callSP X19 36 [(.int (2 : Int32))] [] 0 (hw _ (List.mem_of_getElem? (i := 8) rfl)) (hw _ (List.mem_of_getElem? (i := 9) rfl)) (hw _ (List.mem_of_getElem? (i := 3) rfl)) (by decide) (hw _ (List.mem_of_getElem? (i := 10) rfl)) pd_2 at_33 (rm_a l Z a0 hw h0 (2 : Int32) (1 : Int32) (Or.inr (Or.inr (Or.inl ⟨rfl, rfl⟩)))) rfl rfl rfl (Nat.le_of_eq rfl) (by decide) (by decide) (by decide) (by decide) ?_
      intro T21 L21 X21
      refine Go.iload X21 38 at_36 rfl ?_
      refine Go.ishr X21 39 at_38 ?_
      refine Go.iconst X21 40 (1 : Int32) at_39 ?_
      refine Go.iand X21 41 at_40 ?_
      refine Go.if0N X21 44 at_41 (XT.i0_eq_f (by decide)) ?_
      refine Go.iconst X21 45 (1 : Int32) at_44 ?_
      refine Go.goto X21 49 at_45 ?_
      refine Go.istore X21 51 #[.val (.int p1), .val (.int p2), .val (.int (2 : Int32)), .val (.ref b2), .val (.int (0 : Int32)), .val (.int (1 : Int32))] at_49 rfl ?_
      refine Go.aloadN X21 52 at_51 rfl rfl ?_
      refine Go.iloadN X21 53 at_52 rfl ?_
      refine Go.callVP X21 56 [(.int p2)] [] 0 (hw _ (List.mem_of_getElem? (i := 11) rfl)) (hw _ (List.mem_of_getElem? (i := 12) rfl)) (hw _ (List.mem_of_getElem? (i := 14) rfl)) (notFace_of_selects (args := #[]) (mvT X21.hZ (hw _ (List.mem_of_getElem? (i := 14) rfl)))) (hw _ (List.mem_of_getElem? (i := 13) rfl)) (hw _ (List.mem_of_getElem? (i := 6) rfl)) (by decide) (E2.ext X21.old) (hw _ (List.mem_of_getElem? (i := 15) rfl)) pd_3 at_53 (rm_h l Z a0 hw h0 b2 (2 : Int32) p2 (1 : Int32) (E2.ext X21.old) (F2.ext X21.old) (Or.inr (Or.inr (Or.inl ⟨rfl, (own_neg c20).2.2.1⟩)))) rfl rfl rfl (Nat.le_of_eq rfl) (by decide) (by decide) (by decide) (by decide) ?_
      intro T22 L22 X22
      refine Go.iload X22 58 at_56 rfl ?_
      refine Go.icmpN X22 61 at_58 (XT.ii_ne_f (by decide)) ?_
      refine Go.iconst X22 62 (1 : Int32) at_61 ?_
      refine Go.goto X22 66 at_62 ?_
      exact Go.retI X22 rfl (by simp) rfl at_66 (X22.fin rfl (by decide) (by decide))
    · skip
      refine Go.if0Y X19 21 at_14 (XT.i0_ge_t c20) ?_
      refine Go.iloadN X19 22 at_21 rfl ?_
      by_cases c23 : p2 = 0
      · skip
        refine Go.if0N X19 25 at_22 (XT.i0_ne_f c23) ?_
        refine Go.iconst X19 26 (1 : Int32) at_25 ?_
        refine Go.goto X19 30 at_26 ?_
        refine Go.istore X19 32 #[.val (.int p1), .val (.int p2), .val (.int (2 : Int32)), .val (.ref b2), .val (.int (1 : Int32)), .unset] at_30 rfl ?_
        refine Go.iloadN X19 33 at_32 rfl ?_
        refine Go.callSP X19 36 [(.int (2 : Int32))] [] 0 (hw _ (List.mem_of_getElem? (i := 8) rfl)) (hw _ (List.mem_of_getElem? (i := 9) rfl)) (hw _ (List.mem_of_getElem? (i := 3) rfl)) (by decide) (hw _ (List.mem_of_getElem? (i := 10) rfl)) pd_2 at_33 (rm_a l Z a0 hw h0 (2 : Int32) (1 : Int32) (Or.inr (Or.inr (Or.inl ⟨rfl, rfl⟩)))) rfl rfl rfl (Nat.le_of_eq rfl) (by decide) (by decide) (by decide) (by decide) ?_
        intro T24 L24 X24
        refine Go.iload X24 38 at_36 rfl ?_
        refine Go.ishr X24 39 at_38 ?_
        refine Go.iconst X24 40 (1 : Int32) at_39 ?_
        refine Go.iand X24 41 at_40 ?_
        refine Go.if0Y X24 48 at_41 (XT.i0_eq_t (by decide)) ?_
        refine Go.iconst X24 49 (0 : Int32) at_48 ?_
        refine Go.istore X24 51 #[.val (.int p1), .val (.int p2), .val (.int (2 : Int32)), .val (.ref b2), .val (.int (1 : Int32)), .val (.int (0 : Int32))] at_49 rfl ?_
        refine Go.aloadN X24 52 at_51 rfl rfl ?_
        refine Go.iloadN X24 53 at_52 rfl ?_
        refine Go.callVP X24 56 [(.int p2)] [] 0 (hw _ (List.mem_of_getElem? (i := 11) rfl)) (hw _ (List.mem_of_getElem? (i := 12) rfl)) (hw _ (List.mem_of_getElem? (i := 14) rfl)) (notFace_of_selects (args := #[]) (mvT X24.hZ (hw _ (List.mem_of_getElem? (i := 14) rfl)))) (hw _ (List.mem_of_getElem? (i := 13) rfl)) (hw _ (List.mem_of_getElem? (i := 6) rfl)) (by decide) (E2.ext X24.old) (hw _ (List.mem_of_getElem? (i := 15) rfl)) pd_3 at_53 (rm_h l Z a0 hw h0 b2 (2 : Int32) p2 (0 : Int32) (E2.ext X24.old) (F2.ext X24.old) (Or.inr (Or.inr (Or.inl ⟨rfl, (own_zer c23).2.2.1⟩)))) rfl rfl rfl (Nat.le_of_eq rfl) (by decide) (by decide) (by decide) (by decide) ?_
        intro T25 L25 X25
        refine Go.iload X25 58 at_56 rfl ?_
        refine Go.icmpN X25 61 at_58 (XT.ii_ne_f (by decide)) ?_
        refine Go.iconst X25 62 (1 : Int32) at_61 ?_
        refine Go.goto X25 66 at_62 ?_
        exact Go.retI X25 rfl (by simp) rfl at_66 (X25.fin rfl (by decide) (by decide))
      · skip
        refine Go.if0Y X19 29 at_22 (XT.i0_ne_t c23) ?_
        refine Go.iconst X19 30 (2 : Int32) at_29 ?_
        refine Go.istore X19 32 #[.val (.int p1), .val (.int p2), .val (.int (2 : Int32)), .val (.ref b2), .val (.int (2 : Int32)), .unset] at_30 rfl ?_
        refine Go.iloadN X19 33 at_32 rfl ?_
        refine Go.callSP X19 36 [(.int (2 : Int32))] [] 0 (hw _ (List.mem_of_getElem? (i := 8) rfl)) (hw _ (List.mem_of_getElem? (i := 9) rfl)) (hw _ (List.mem_of_getElem? (i := 3) rfl)) (by decide) (hw _ (List.mem_of_getElem? (i := 10) rfl)) pd_2 at_33 (rm_a l Z a0 hw h0 (2 : Int32) (1 : Int32) (Or.inr (Or.inr (Or.inl ⟨rfl, rfl⟩)))) rfl rfl rfl (Nat.le_of_eq rfl) (by decide) (by decide) (by decide) (by decide) ?_
        intro T26 L26 X26
        refine Go.iload X26 38 at_36 rfl ?_
        refine Go.ishr X26 39 at_38 ?_
        refine Go.iconst X26 40 (1 : Int32) at_39 ?_
        refine Go.iand X26 41 at_40 ?_
        refine Go.if0Y X26 48 at_41 (XT.i0_eq_t (by decide)) ?_
        refine Go.iconst X26 49 (0 : Int32) at_48 ?_
        refine Go.istore X26 51 #[.val (.int p1), .val (.int p2), .val (.int (2 : Int32)), .val (.ref b2), .val (.int (2 : Int32)), .val (.int (0 : Int32))] at_49 rfl ?_
        refine Go.aloadN X26 52 at_51 rfl rfl ?_
        refine Go.iloadN X26 53 at_52 rfl ?_
        refine Go.callVP X26 56 [(.int p2)] [] 0 (hw _ (List.mem_of_getElem? (i := 11) rfl)) (hw _ (List.mem_of_getElem? (i := 12) rfl)) (hw _ (List.mem_of_getElem? (i := 14) rfl)) (notFace_of_selects (args := #[]) (mvT X26.hZ (hw _ (List.mem_of_getElem? (i := 14) rfl)))) (hw _ (List.mem_of_getElem? (i := 13) rfl)) (hw _ (List.mem_of_getElem? (i := 6) rfl)) (by decide) (E2.ext X26.old) (hw _ (List.mem_of_getElem? (i := 15) rfl)) pd_3 at_53 (rm_h l Z a0 hw h0 b2 (2 : Int32) p2 (0 : Int32) (E2.ext X26.old) (F2.ext X26.old) (Or.inr (Or.inr (Or.inl ⟨rfl, (own_pos c20 c23).2.2.1⟩)))) rfl rfl rfl (Nat.le_of_eq rfl) (by decide) (by decide) (by decide) (by decide) ?_
        intro T27 L27 X27
        refine Go.iload X27 58 at_56 rfl ?_
        refine Go.icmpN X27 61 at_58 (XT.ii_ne_f (by decide)) ?_
        refine Go.iconst X27 62 (1 : Int32) at_61 ?_
        refine Go.goto X27 66 at_62 ?_
        exact Go.retI X27 rfl (by simp) rfl at_66 (X27.fin rfl (by decide) (by decide))
  · rw [hk]
    refine Go.istoreN X0 8 #[.val (.int p1), .val (.int p2), .val (.int (3 : Int32)), .unset, .unset, .unset] at_7 rfl ?_
    refine Go.iloadN X0 9 at_8 rfl ?_
    refine Go.callSP X0 12 [(.int (3 : Int32))] [] 0 (hw _ (List.mem_of_getElem? (i := 1) rfl)) (hw _ (List.mem_of_getElem? (i := 2) rfl)) (hw _ (List.mem_of_getElem? (i := 3) rfl)) (by decide) (hw _ (List.mem_of_getElem? (i := 4) rfl)) pd_1 at_9 (rm_p l Z a0 hw h0 b0 b1 b2 b3 b4 b5 S0 S1 S2 S3 S4 S5 (3 : Int32) b3 (Or.inr (Or.inr (Or.inr (Or.inl ⟨rfl, rfl⟩))))) rfl rfl rfl (Nat.le_of_eq rfl) (by decide) (by decide) (by decide) (by decide) ?_
    intro T28 L28 X28
    refine Go.astoreN X28 13 #[.val (.int p1), .val (.int p2), .val (.int (3 : Int32)), .val (.ref b3), .unset, .unset] at_12 rfl rfl ?_
    refine Go.iloadN X28 14 at_13 rfl ?_
    by_cases c29 : p2 < 0
    · skip
      refine Go.if0N X28 17 at_14 (XT.i0_ge_f c29) ?_
      refine Go.iconst X28 18 (0 : Int32) at_17 ?_
      refine Go.goto X28 30 at_18 ?_
      refine Go.istore X28 32 #[.val (.int p1), .val (.int p2), .val (.int (3 : Int32)), .val (.ref b3), .val (.int (0 : Int32)), .unset] at_30 rfl ?_
      refine Go.iloadN X28 33 at_32 rfl ?_
      refine Go.callSP X28 36 [(.int (3 : Int32))] [] 0 (hw _ (List.mem_of_getElem? (i := 8) rfl)) (hw _ (List.mem_of_getElem? (i := 9) rfl)) (hw _ (List.mem_of_getElem? (i := 3) rfl)) (by decide) (hw _ (List.mem_of_getElem? (i := 10) rfl)) pd_2 at_33 (rm_a l Z a0 hw h0 (3 : Int32) (3 : Int32) (Or.inr (Or.inr (Or.inr (Or.inl ⟨rfl, rfl⟩))))) rfl rfl rfl (Nat.le_of_eq rfl) (by decide) (by decide) (by decide) (by decide) ?_
      intro T30 L30 X30
      refine Go.iload X30 38 at_36 rfl ?_
      refine Go.ishr X30 39 at_38 ?_
      refine Go.iconst X30 40 (1 : Int32) at_39 ?_
      refine Go.iand X30 41 at_40 ?_
      refine Go.if0N X30 44 at_41 (XT.i0_eq_f (by decide)) ?_
      refine Go.iconst X30 45 (1 : Int32) at_44 ?_
      refine Go.goto X30 49 at_45 ?_
      refine Go.istore X30 51 #[.val (.int p1), .val (.int p2), .val (.int (3 : Int32)), .val (.ref b3), .val (.int (0 : Int32)), .val (.int (1 : Int32))] at_49 rfl ?_
      refine Go.aloadN X30 52 at_51 rfl rfl ?_
      refine Go.iloadN X30 53 at_52 rfl ?_
      refine Go.callVP X30 56 [(.int p2)] [] 0 (hw _ (List.mem_of_getElem? (i := 11) rfl)) (hw _ (List.mem_of_getElem? (i := 12) rfl)) (hw _ (List.mem_of_getElem? (i := 14) rfl)) (notFace_of_selects (args := #[]) (mvT X30.hZ (hw _ (List.mem_of_getElem? (i := 14) rfl)))) (hw _ (List.mem_of_getElem? (i := 13) rfl)) (hw _ (List.mem_of_getElem? (i := 6) rfl)) (by decide) (E3.ext X30.old) (hw _ (List.mem_of_getElem? (i := 15) rfl)) pd_3 at_53 (rm_h l Z a0 hw h0 b3 (3 : Int32) p2 (1 : Int32) (E3.ext X30.old) (F3.ext X30.old) (Or.inr (Or.inr (Or.inr (Or.inl ⟨rfl, (own_neg c29).2.2.2.1⟩))))) rfl rfl rfl (Nat.le_of_eq rfl) (by decide) (by decide) (by decide) (by decide) ?_
      intro T31 L31 X31
      refine Go.iload X31 58 at_56 rfl ?_
      refine Go.icmpN X31 61 at_58 (XT.ii_ne_f (by decide)) ?_
      refine Go.iconst X31 62 (1 : Int32) at_61 ?_
      refine Go.goto X31 66 at_62 ?_
      exact Go.retI X31 rfl (by simp) rfl at_66 (X31.fin rfl (by decide) (by decide))
    · skip
      refine Go.if0Y X28 21 at_14 (XT.i0_ge_t c29) ?_
      refine Go.iloadN X28 22 at_21 rfl ?_
      by_cases c32 : p2 = 0
      · skip
        refine Go.if0N X28 25 at_22 (XT.i0_ne_f c32) ?_
        refine Go.iconst X28 26 (1 : Int32) at_25 ?_
        refine Go.goto X28 30 at_26 ?_
        refine Go.istore X28 32 #[.val (.int p1), .val (.int p2), .val (.int (3 : Int32)), .val (.ref b3), .val (.int (1 : Int32)), .unset] at_30 rfl ?_
        refine Go.iloadN X28 33 at_32 rfl ?_
        refine Go.callSP X28 36 [(.int (3 : Int32))] [] 0 (hw _ (List.mem_of_getElem? (i := 8) rfl)) (hw _ (List.mem_of_getElem? (i := 9) rfl)) (hw _ (List.mem_of_getElem? (i := 3) rfl)) (by decide) (hw _ (List.mem_of_getElem? (i := 10) rfl)) pd_2 at_33 (rm_a l Z a0 hw h0 (3 : Int32) (3 : Int32) (Or.inr (Or.inr (Or.inr (Or.inl ⟨rfl, rfl⟩))))) rfl rfl rfl (Nat.le_of_eq rfl) (by decide) (by decide) (by decide) (by decide) ?_
        intro T33 L33 X33
        refine Go.iload X33 38 at_36 rfl ?_
        refine Go.ishr X33 39 at_38 ?_
        refine Go.iconst X33 40 (1 : Int32) at_39 ?_
        refine Go.iand X33 41 at_40 ?_
        refine Go.if0N X33 44 at_41 (XT.i0_eq_f (by decide)) ?_
        refine Go.iconst X33 45 (1 : Int32) at_44 ?_
        refine Go.goto X33 49 at_45 ?_
        refine Go.istore X33 51 #[.val (.int p1), .val (.int p2), .val (.int (3 : Int32)), .val (.ref b3), .val (.int (1 : Int32)), .val (.int (1 : Int32))] at_49 rfl ?_
        refine Go.aloadN X33 52 at_51 rfl rfl ?_
        refine Go.iloadN X33 53 at_52 rfl ?_
        refine Go.callVP X33 56 [(.int p2)] [] 0 (hw _ (List.mem_of_getElem? (i := 11) rfl)) (hw _ (List.mem_of_getElem? (i := 12) rfl)) (hw _ (List.mem_of_getElem? (i := 14) rfl)) (notFace_of_selects (args := #[]) (mvT X33.hZ (hw _ (List.mem_of_getElem? (i := 14) rfl)))) (hw _ (List.mem_of_getElem? (i := 13) rfl)) (hw _ (List.mem_of_getElem? (i := 6) rfl)) (by decide) (E3.ext X33.old) (hw _ (List.mem_of_getElem? (i := 15) rfl)) pd_3 at_53 (rm_h l Z a0 hw h0 b3 (3 : Int32) p2 (1 : Int32) (E3.ext X33.old) (F3.ext X33.old) (Or.inr (Or.inr (Or.inr (Or.inl ⟨rfl, (own_zer c32).2.2.2.1⟩))))) rfl rfl rfl (Nat.le_of_eq rfl) (by decide) (by decide) (by decide) (by decide) ?_
        intro T34 L34 X34
        refine Go.iload X34 58 at_56 rfl ?_
        refine Go.icmpN X34 61 at_58 (XT.ii_ne_f (by decide)) ?_
        refine Go.iconst X34 62 (1 : Int32) at_61 ?_
        refine Go.goto X34 66 at_62 ?_
        exact Go.retI X34 rfl (by simp) rfl at_66 (X34.fin rfl (by decide) (by decide))
      · skip
        refine Go.if0Y X28 29 at_22 (XT.i0_ne_t c32) ?_
        refine Go.iconst X28 30 (2 : Int32) at_29 ?_
        refine Go.istore X28 32 #[.val (.int p1), .val (.int p2), .val (.int (3 : Int32)), .val (.ref b3), .val (.int (2 : Int32)), .unset] at_30 rfl ?_
        refine Go.iloadN X28 33 at_32 rfl ?_
        refine Go.callSP X28 36 [(.int (3 : Int32))] [] 0 (hw _ (List.mem_of_getElem? (i := 8) rfl)) (hw _ (List.mem_of_getElem? (i := 9) rfl)) (hw _ (List.mem_of_getElem? (i := 3) rfl)) (by decide) (hw _ (List.mem_of_getElem? (i := 10) rfl)) pd_2 at_33 (rm_a l Z a0 hw h0 (3 : Int32) (3 : Int32) (Or.inr (Or.inr (Or.inr (Or.inl ⟨rfl, rfl⟩))))) rfl rfl rfl (Nat.le_of_eq rfl) (by decide) (by decide) (by decide) (by decide) ?_
        intro T35 L35 X35
        refine Go.iload X35 38 at_36 rfl ?_
        refine Go.ishr X35 39 at_38 ?_
        refine Go.iconst X35 40 (1 : Int32) at_39 ?_
        refine Go.iand X35 41 at_40 ?_
        refine Go.if0Y X35 48 at_41 (XT.i0_eq_t (by decide)) ?_
        refine Go.iconst X35 49 (0 : Int32) at_48 ?_
        refine Go.istore X35 51 #[.val (.int p1), .val (.int p2), .val (.int (3 : Int32)), .val (.ref b3), .val (.int (2 : Int32)), .val (.int (0 : Int32))] at_49 rfl ?_
        refine Go.aloadN X35 52 at_51 rfl rfl ?_
        refine Go.iloadN X35 53 at_52 rfl ?_
        refine Go.callVP X35 56 [(.int p2)] [] 0 (hw _ (List.mem_of_getElem? (i := 11) rfl)) (hw _ (List.mem_of_getElem? (i := 12) rfl)) (hw _ (List.mem_of_getElem? (i := 14) rfl)) (notFace_of_selects (args := #[]) (mvT X35.hZ (hw _ (List.mem_of_getElem? (i := 14) rfl)))) (hw _ (List.mem_of_getElem? (i := 13) rfl)) (hw _ (List.mem_of_getElem? (i := 6) rfl)) (by decide) (E3.ext X35.old) (hw _ (List.mem_of_getElem? (i := 15) rfl)) pd_3 at_53 (rm_h l Z a0 hw h0 b3 (3 : Int32) p2 (0 : Int32) (E3.ext X35.old) (F3.ext X35.old) (Or.inr (Or.inr (Or.inr (Or.inl ⟨rfl, (own_pos c29 c32).2.2.2.1⟩))))) rfl rfl rfl (Nat.le_of_eq rfl) (by decide) (by decide) (by decide) (by decide) ?_
        intro T36 L36 X36
        refine Go.iload X36 58 at_56 rfl ?_
        refine Go.icmpN X36 61 at_58 (XT.ii_ne_f (by decide)) ?_
        refine Go.iconst X36 62 (1 : Int32) at_61 ?_
        refine Go.goto X36 66 at_62 ?_
        exact Go.retI X36 rfl (by simp) rfl at_66 (X36.fin rfl (by decide) (by decide))
  · rw [hk]
    refine Go.istoreN X0 8 #[.val (.int p1), .val (.int p2), .val (.int (4 : Int32)), .unset, .unset, .unset] at_7 rfl ?_
    refine Go.iloadN X0 9 at_8 rfl ?_
    refine Go.callSP X0 12 [(.int (4 : Int32))] [] 0 (hw _ (List.mem_of_getElem? (i := 1) rfl)) (hw _ (List.mem_of_getElem? (i := 2) rfl)) (hw _ (List.mem_of_getElem? (i := 3) rfl)) (by decide) (hw _ (List.mem_of_getElem? (i := 4) rfl)) pd_1 at_9 (rm_p l Z a0 hw h0 b0 b1 b2 b3 b4 b5 S0 S1 S2 S3 S4 S5 (4 : Int32) b4 (Or.inr (Or.inr (Or.inr (Or.inr (Or.inl ⟨rfl, rfl⟩)))))) rfl rfl rfl (Nat.le_of_eq rfl) (by decide) (by decide) (by decide) (by decide) ?_
    intro T37 L37 X37
    refine Go.astoreN X37 13 #[.val (.int p1), .val (.int p2), .val (.int (4 : Int32)), .val (.ref b4), .unset, .unset] at_12 rfl rfl ?_
    refine Go.iloadN X37 14 at_13 rfl ?_
    by_cases c38 : p2 < 0
    · skip
      refine Go.if0N X37 17 at_14 (XT.i0_ge_f c38) ?_
      refine Go.iconst X37 18 (0 : Int32) at_17 ?_
      refine Go.goto X37 30 at_18 ?_
      refine Go.istore X37 32 #[.val (.int p1), .val (.int p2), .val (.int (4 : Int32)), .val (.ref b4), .val (.int (0 : Int32)), .unset] at_30 rfl ?_
      refine Go.iloadN X37 33 at_32 rfl ?_
      refine Go.callSP X37 36 [(.int (4 : Int32))] [] 0 (hw _ (List.mem_of_getElem? (i := 8) rfl)) (hw _ (List.mem_of_getElem? (i := 9) rfl)) (hw _ (List.mem_of_getElem? (i := 3) rfl)) (by decide) (hw _ (List.mem_of_getElem? (i := 10) rfl)) pd_2 at_33 (rm_a l Z a0 hw h0 (4 : Int32) (4 : Int32) (Or.inr (Or.inr (Or.inr (Or.inr (Or.inl ⟨rfl, rfl⟩)))))) rfl rfl rfl (Nat.le_of_eq rfl) (by decide) (by decide) (by decide) (by decide) ?_
      intro T39 L39 X39
      refine Go.iload X39 38 at_36 rfl ?_
      refine Go.ishr X39 39 at_38 ?_
      refine Go.iconst X39 40 (1 : Int32) at_39 ?_
      refine Go.iand X39 41 at_40 ?_
      refine Go.if0Y X39 48 at_41 (XT.i0_eq_t (by decide)) ?_
      refine Go.iconst X39 49 (0 : Int32) at_48 ?_
      refine Go.istore X39 51 #[.val (.int p1), .val (.int p2), .val (.int (4 : Int32)), .val (.ref b4), .val (.int (0 : Int32)), .val (.int (0 : Int32))] at_49 rfl ?_
      refine Go.aloadN X39 52 at_51 rfl rfl ?_
      refine Go.iloadN X39 53 at_52 rfl ?_
      refine Go.callVP X39 56 [(.int p2)] [] 0 (hw _ (List.mem_of_getElem? (i := 11) rfl)) (hw _ (List.mem_of_getElem? (i := 12) rfl)) (hw _ (List.mem_of_getElem? (i := 14) rfl)) (notFace_of_selects (args := #[]) (mvT X39.hZ (hw _ (List.mem_of_getElem? (i := 14) rfl)))) (hw _ (List.mem_of_getElem? (i := 13) rfl)) (hw _ (List.mem_of_getElem? (i := 6) rfl)) (by decide) (E4.ext X39.old) (hw _ (List.mem_of_getElem? (i := 15) rfl)) pd_3 at_53 (rm_h l Z a0 hw h0 b4 (4 : Int32) p2 (0 : Int32) (E4.ext X39.old) (F4.ext X39.old) (Or.inr (Or.inr (Or.inr (Or.inr (Or.inl ⟨rfl, (own_neg c38).2.2.2.2.1⟩)))))) rfl rfl rfl (Nat.le_of_eq rfl) (by decide) (by decide) (by decide) (by decide) ?_
      intro T40 L40 X40
      refine Go.iload X40 58 at_56 rfl ?_
      refine Go.icmpN X40 61 at_58 (XT.ii_ne_f (by decide)) ?_
      refine Go.iconst X40 62 (1 : Int32) at_61 ?_
      refine Go.goto X40 66 at_62 ?_
      exact Go.retI X40 rfl (by simp) rfl at_66 (X40.fin rfl (by decide) (by decide))
    · skip
      refine Go.if0Y X37 21 at_14 (XT.i0_ge_t c38) ?_
      refine Go.iloadN X37 22 at_21 rfl ?_
      by_cases c41 : p2 = 0
      · skip
        refine Go.if0N X37 25 at_22 (XT.i0_ne_f c41) ?_
        refine Go.iconst X37 26 (1 : Int32) at_25 ?_
        refine Go.goto X37 30 at_26 ?_
        refine Go.istore X37 32 #[.val (.int p1), .val (.int p2), .val (.int (4 : Int32)), .val (.ref b4), .val (.int (1 : Int32)), .unset] at_30 rfl ?_
        refine Go.iloadN X37 33 at_32 rfl ?_
        refine Go.callSP X37 36 [(.int (4 : Int32))] [] 0 (hw _ (List.mem_of_getElem? (i := 8) rfl)) (hw _ (List.mem_of_getElem? (i := 9) rfl)) (hw _ (List.mem_of_getElem? (i := 3) rfl)) (by decide) (hw _ (List.mem_of_getElem? (i := 10) rfl)) pd_2 at_33 (rm_a l Z a0 hw h0 (4 : Int32) (4 : Int32) (Or.inr (Or.inr (Or.inr (Or.inr (Or.inl ⟨rfl, rfl⟩)))))) rfl rfl rfl (Nat.le_of_eq rfl) (by decide) (by decide) (by decide) (by decide) ?_
        intro T42 L42 X42
        refine Go.iload X42 38 at_36 rfl ?_
        refine Go.ishr X42 39 at_38 ?_
        refine Go.iconst X42 40 (1 : Int32) at_39 ?_
        refine Go.iand X42 41 at_40 ?_
        refine Go.if0Y X42 48 at_41 (XT.i0_eq_t (by decide)) ?_
        refine Go.iconst X42 49 (0 : Int32) at_48 ?_
        refine Go.istore X42 51 #[.val (.int p1), .val (.int p2), .val (.int (4 : Int32)), .val (.ref b4), .val (.int (1 : Int32)), .val (.int (0 : Int32))] at_49 rfl ?_
        refine Go.aloadN X42 52 at_51 rfl rfl ?_
        refine Go.iloadN X42 53 at_52 rfl ?_
        refine Go.callVP X42 56 [(.int p2)] [] 0 (hw _ (List.mem_of_getElem? (i := 11) rfl)) (hw _ (List.mem_of_getElem? (i := 12) rfl)) (hw _ (List.mem_of_getElem? (i := 14) rfl)) (notFace_of_selects (args := #[]) (mvT X42.hZ (hw _ (List.mem_of_getElem? (i := 14) rfl)))) (hw _ (List.mem_of_getElem? (i := 13) rfl)) (hw _ (List.mem_of_getElem? (i := 6) rfl)) (by decide) (E4.ext X42.old) (hw _ (List.mem_of_getElem? (i := 15) rfl)) pd_3 at_53 (rm_h l Z a0 hw h0 b4 (4 : Int32) p2 (0 : Int32) (E4.ext X42.old) (F4.ext X42.old) (Or.inr (Or.inr (Or.inr (Or.inr (Or.inl ⟨rfl, (own_zer c41).2.2.2.2.1⟩)))))) rfl rfl rfl (Nat.le_of_eq rfl) (by decide) (by decide) (by decide) (by decide) ?_
        intro T43 L43 X43
        refine Go.iload X43 58 at_56 rfl ?_
        refine Go.icmpN X43 61 at_58 (XT.ii_ne_f (by decide)) ?_
        refine Go.iconst X43 62 (1 : Int32) at_61 ?_
        refine Go.goto X43 66 at_62 ?_
        exact Go.retI X43 rfl (by simp) rfl at_66 (X43.fin rfl (by decide) (by decide))
      · skip
        refine Go.if0Y X37 29 at_22 (XT.i0_ne_t c41) ?_
        refine Go.iconst X37 30 (2 : Int32) at_29 ?_
        refine Go.istore X37 32 #[.val (.int p1), .val (.int p2), .val (.int (4 : Int32)), .val (.ref b4), .val (.int (2 : Int32)), .unset] at_30 rfl ?_
        refine Go.iloadN X37 33 at_32 rfl ?_
        refine Go.callSP X37 36 [(.int (4 : Int32))] [] 0 (hw _ (List.mem_of_getElem? (i := 8) rfl)) (hw _ (List.mem_of_getElem? (i := 9) rfl)) (hw _ (List.mem_of_getElem? (i := 3) rfl)) (by decide) (hw _ (List.mem_of_getElem? (i := 10) rfl)) pd_2 at_33 (rm_a l Z a0 hw h0 (4 : Int32) (4 : Int32) (Or.inr (Or.inr (Or.inr (Or.inr (Or.inl ⟨rfl, rfl⟩)))))) rfl rfl rfl (Nat.le_of_eq rfl) (by decide) (by decide) (by decide) (by decide) ?_
        intro T44 L44 X44
        refine Go.iload X44 38 at_36 rfl ?_
        refine Go.ishr X44 39 at_38 ?_
        refine Go.iconst X44 40 (1 : Int32) at_39 ?_
        refine Go.iand X44 41 at_40 ?_
        refine Go.if0N X44 44 at_41 (XT.i0_eq_f (by decide)) ?_
        refine Go.iconst X44 45 (1 : Int32) at_44 ?_
        refine Go.goto X44 49 at_45 ?_
        refine Go.istore X44 51 #[.val (.int p1), .val (.int p2), .val (.int (4 : Int32)), .val (.ref b4), .val (.int (2 : Int32)), .val (.int (1 : Int32))] at_49 rfl ?_
        refine Go.aloadN X44 52 at_51 rfl rfl ?_
        refine Go.iloadN X44 53 at_52 rfl ?_
        refine Go.callVP X44 56 [(.int p2)] [] 0 (hw _ (List.mem_of_getElem? (i := 11) rfl)) (hw _ (List.mem_of_getElem? (i := 12) rfl)) (hw _ (List.mem_of_getElem? (i := 14) rfl)) (notFace_of_selects (args := #[]) (mvT X44.hZ (hw _ (List.mem_of_getElem? (i := 14) rfl)))) (hw _ (List.mem_of_getElem? (i := 13) rfl)) (hw _ (List.mem_of_getElem? (i := 6) rfl)) (by decide) (E4.ext X44.old) (hw _ (List.mem_of_getElem? (i := 15) rfl)) pd_3 at_53 (rm_h l Z a0 hw h0 b4 (4 : Int32) p2 (1 : Int32) (E4.ext X44.old) (F4.ext X44.old) (Or.inr (Or.inr (Or.inr (Or.inr (Or.inl ⟨rfl, (own_pos c38 c41).2.2.2.2.1⟩)))))) rfl rfl rfl (Nat.le_of_eq rfl) (by decide) (by decide) (by decide) (by decide) ?_
        intro T45 L45 X45
        refine Go.iload X45 58 at_56 rfl ?_
        refine Go.icmpN X45 61 at_58 (XT.ii_ne_f (by decide)) ?_
        refine Go.iconst X45 62 (1 : Int32) at_61 ?_
        refine Go.goto X45 66 at_62 ?_
        exact Go.retI X45 rfl (by simp) rfl at_66 (X45.fin rfl (by decide) (by decide))
  · rw [hk]
    refine Go.istoreN X0 8 #[.val (.int p1), .val (.int p2), .val (.int (5 : Int32)), .unset, .unset, .unset] at_7 rfl ?_
    refine Go.iloadN X0 9 at_8 rfl ?_
    refine Go.callSP X0 12 [(.int (5 : Int32))] [] 0 (hw _ (List.mem_of_getElem? (i := 1) rfl)) (hw _ (List.mem_of_getElem? (i := 2) rfl)) (hw _ (List.mem_of_getElem? (i := 3) rfl)) (by decide) (hw _ (List.mem_of_getElem? (i := 4) rfl)) pd_1 at_9 (rm_p l Z a0 hw h0 b0 b1 b2 b3 b4 b5 S0 S1 S2 S3 S4 S5 (5 : Int32) b5 (Or.inr (Or.inr (Or.inr (Or.inr (Or.inr (⟨rfl, rfl⟩))))))) rfl rfl rfl (Nat.le_of_eq rfl) (by decide) (by decide) (by decide) (by decide) ?_
    intro T46 L46 X46
    refine Go.astoreN X46 13 #[.val (.int p1), .val (.int p2), .val (.int (5 : Int32)), .val (.ref b5), .unset, .unset] at_12 rfl rfl ?_
    refine Go.iloadN X46 14 at_13 rfl ?_
    by_cases c47 : p2 < 0
    · skip
      refine Go.if0N X46 17 at_14 (XT.i0_ge_f c47) ?_
      refine Go.iconst X46 18 (0 : Int32) at_17 ?_
      refine Go.goto X46 30 at_18 ?_
      refine Go.istore X46 32 #[.val (.int p1), .val (.int p2), .val (.int (5 : Int32)), .val (.ref b5), .val (.int (0 : Int32)), .unset] at_30 rfl ?_
      refine Go.iloadN X46 33 at_32 rfl ?_
      refine Go.callSP X46 36 [(.int (5 : Int32))] [] 0 (hw _ (List.mem_of_getElem? (i := 8) rfl)) (hw _ (List.mem_of_getElem? (i := 9) rfl)) (hw _ (List.mem_of_getElem? (i := 3) rfl)) (by decide) (hw _ (List.mem_of_getElem? (i := 10) rfl)) pd_2 at_33 (rm_a l Z a0 hw h0 (5 : Int32) (6 : Int32) (Or.inr (Or.inr (Or.inr (Or.inr (Or.inr (⟨rfl, rfl⟩))))))) rfl rfl rfl (Nat.le_of_eq rfl) (by decide) (by decide) (by decide) (by decide) ?_
      intro T48 L48 X48
      refine Go.iload X48 38 at_36 rfl ?_
      refine Go.ishr X48 39 at_38 ?_
      refine Go.iconst X48 40 (1 : Int32) at_39 ?_
      refine Go.iand X48 41 at_40 ?_
      refine Go.if0Y X48 48 at_41 (XT.i0_eq_t (by decide)) ?_
      refine Go.iconst X48 49 (0 : Int32) at_48 ?_
      refine Go.istore X48 51 #[.val (.int p1), .val (.int p2), .val (.int (5 : Int32)), .val (.ref b5), .val (.int (0 : Int32)), .val (.int (0 : Int32))] at_49 rfl ?_
      refine Go.aloadN X48 52 at_51 rfl rfl ?_
      refine Go.iloadN X48 53 at_52 rfl ?_
      refine Go.callVP X48 56 [(.int p2)] [] 0 (hw _ (List.mem_of_getElem? (i := 11) rfl)) (hw _ (List.mem_of_getElem? (i := 12) rfl)) (hw _ (List.mem_of_getElem? (i := 14) rfl)) (notFace_of_selects (args := #[]) (mvT X48.hZ (hw _ (List.mem_of_getElem? (i := 14) rfl)))) (hw _ (List.mem_of_getElem? (i := 13) rfl)) (hw _ (List.mem_of_getElem? (i := 6) rfl)) (by decide) (E5.ext X48.old) (hw _ (List.mem_of_getElem? (i := 15) rfl)) pd_3 at_53 (rm_h l Z a0 hw h0 b5 (5 : Int32) p2 (0 : Int32) (E5.ext X48.old) (F5.ext X48.old) (Or.inr (Or.inr (Or.inr (Or.inr (Or.inr (⟨rfl, (own_neg c47).2.2.2.2.2⟩))))))) rfl rfl rfl (Nat.le_of_eq rfl) (by decide) (by decide) (by decide) (by decide) ?_
      intro T49 L49 X49
      refine Go.iload X49 58 at_56 rfl ?_
      refine Go.icmpN X49 61 at_58 (XT.ii_ne_f (by decide)) ?_
      refine Go.iconst X49 62 (1 : Int32) at_61 ?_
      refine Go.goto X49 66 at_62 ?_
      exact Go.retI X49 rfl (by simp) rfl at_66 (X49.fin rfl (by decide) (by decide))
    · skip
      refine Go.if0Y X46 21 at_14 (XT.i0_ge_t c47) ?_
      refine Go.iloadN X46 22 at_21 rfl ?_
      by_cases c50 : p2 = 0
      · skip
        refine Go.if0N X46 25 at_22 (XT.i0_ne_f c50) ?_
        refine Go.iconst X46 26 (1 : Int32) at_25 ?_
        refine Go.goto X46 30 at_26 ?_
        refine Go.istore X46 32 #[.val (.int p1), .val (.int p2), .val (.int (5 : Int32)), .val (.ref b5), .val (.int (1 : Int32)), .unset] at_30 rfl ?_
        refine Go.iloadN X46 33 at_32 rfl ?_
        refine Go.callSP X46 36 [(.int (5 : Int32))] [] 0 (hw _ (List.mem_of_getElem? (i := 8) rfl)) (hw _ (List.mem_of_getElem? (i := 9) rfl)) (hw _ (List.mem_of_getElem? (i := 3) rfl)) (by decide) (hw _ (List.mem_of_getElem? (i := 10) rfl)) pd_2 at_33 (rm_a l Z a0 hw h0 (5 : Int32) (6 : Int32) (Or.inr (Or.inr (Or.inr (Or.inr (Or.inr (⟨rfl, rfl⟩))))))) rfl rfl rfl (Nat.le_of_eq rfl) (by decide) (by decide) (by decide) (by decide) ?_
        intro T51 L51 X51
        refine Go.iload X51 38 at_36 rfl ?_
        refine Go.ishr X51 39 at_38 ?_
        refine Go.iconst X51 40 (1 : Int32) at_39 ?_
        refine Go.iand X51 41 at_40 ?_
        refine Go.if0N X51 44 at_41 (XT.i0_eq_f (by decide)) ?_
        refine Go.iconst X51 45 (1 : Int32) at_44 ?_
        refine Go.goto X51 49 at_45 ?_
        refine Go.istore X51 51 #[.val (.int p1), .val (.int p2), .val (.int (5 : Int32)), .val (.ref b5), .val (.int (1 : Int32)), .val (.int (1 : Int32))] at_49 rfl ?_
        refine Go.aloadN X51 52 at_51 rfl rfl ?_
        refine Go.iloadN X51 53 at_52 rfl ?_
        refine Go.callVP X51 56 [(.int p2)] [] 0 (hw _ (List.mem_of_getElem? (i := 11) rfl)) (hw _ (List.mem_of_getElem? (i := 12) rfl)) (hw _ (List.mem_of_getElem? (i := 14) rfl)) (notFace_of_selects (args := #[]) (mvT X51.hZ (hw _ (List.mem_of_getElem? (i := 14) rfl)))) (hw _ (List.mem_of_getElem? (i := 13) rfl)) (hw _ (List.mem_of_getElem? (i := 6) rfl)) (by decide) (E5.ext X51.old) (hw _ (List.mem_of_getElem? (i := 15) rfl)) pd_3 at_53 (rm_h l Z a0 hw h0 b5 (5 : Int32) p2 (1 : Int32) (E5.ext X51.old) (F5.ext X51.old) (Or.inr (Or.inr (Or.inr (Or.inr (Or.inr (⟨rfl, (own_zer c50).2.2.2.2.2⟩))))))) rfl rfl rfl (Nat.le_of_eq rfl) (by decide) (by decide) (by decide) (by decide) ?_
        intro T52 L52 X52
        refine Go.iload X52 58 at_56 rfl ?_
        refine Go.icmpN X52 61 at_58 (XT.ii_ne_f (by decide)) ?_
        refine Go.iconst X52 62 (1 : Int32) at_61 ?_
        refine Go.goto X52 66 at_62 ?_
        exact Go.retI X52 rfl (by simp) rfl at_66 (X52.fin rfl (by decide) (by decide))
      · skip
        refine Go.if0Y X46 29 at_22 (XT.i0_ne_t c50) ?_
        refine Go.iconst X46 30 (2 : Int32) at_29 ?_
        refine Go.istore X46 32 #[.val (.int p1), .val (.int p2), .val (.int (5 : Int32)), .val (.ref b5), .val (.int (2 : Int32)), .unset] at_30 rfl ?_
        refine Go.iloadN X46 33 at_32 rfl ?_
        refine Go.callSP X46 36 [(.int (5 : Int32))] [] 0 (hw _ (List.mem_of_getElem? (i := 8) rfl)) (hw _ (List.mem_of_getElem? (i := 9) rfl)) (hw _ (List.mem_of_getElem? (i := 3) rfl)) (by decide) (hw _ (List.mem_of_getElem? (i := 10) rfl)) pd_2 at_33 (rm_a l Z a0 hw h0 (5 : Int32) (6 : Int32) (Or.inr (Or.inr (Or.inr (Or.inr (Or.inr (⟨rfl, rfl⟩))))))) rfl rfl rfl (Nat.le_of_eq rfl) (by decide) (by decide) (by decide) (by decide) ?_
        intro T53 L53 X53
        refine Go.iload X53 38 at_36 rfl ?_
        refine Go.ishr X53 39 at_38 ?_
        refine Go.iconst X53 40 (1 : Int32) at_39 ?_
        refine Go.iand X53 41 at_40 ?_
        refine Go.if0N X53 44 at_41 (XT.i0_eq_f (by decide)) ?_
        refine Go.iconst X53 45 (1 : Int32) at_44 ?_
        refine Go.goto X53 49 at_45 ?_
        refine Go.istore X53 51 #[.val (.int p1), .val (.int p2), .val (.int (5 : Int32)), .val (.ref b5), .val (.int (2 : Int32)), .val (.int (1 : Int32))] at_49 rfl ?_
        refine Go.aloadN X53 52 at_51 rfl rfl ?_
        refine Go.iloadN X53 53 at_52 rfl ?_
        refine Go.callVP X53 56 [(.int p2)] [] 0 (hw _ (List.mem_of_getElem? (i := 11) rfl)) (hw _ (List.mem_of_getElem? (i := 12) rfl)) (hw _ (List.mem_of_getElem? (i := 14) rfl)) (notFace_of_selects (args := #[]) (mvT X53.hZ (hw _ (List.mem_of_getElem? (i := 14) rfl)))) (hw _ (List.mem_of_getElem? (i := 13) rfl)) (hw _ (List.mem_of_getElem? (i := 6) rfl)) (by decide) (E5.ext X53.old) (hw _ (List.mem_of_getElem? (i := 15) rfl)) pd_3 at_53 (rm_h l Z a0 hw h0 b5 (5 : Int32) p2 (1 : Int32) (E5.ext X53.old) (F5.ext X53.old) (Or.inr (Or.inr (Or.inr (Or.inr (Or.inr (⟨rfl, (own_pos c47 c50).2.2.2.2.2⟩))))))) rfl rfl rfl (Nat.le_of_eq rfl) (by decide) (by decide) (by decide) (by decide) ?_
        intro T54 L54 X54
        refine Go.iload X54 58 at_56 rfl ?_
        refine Go.icmpN X54 61 at_58 (XT.ii_ne_f (by decide)) ?_
        refine Go.iconst X54 62 (1 : Int32) at_61 ?_
        refine Go.goto X54 66 at_62 ?_
        exact Go.retI X54 rfl (by simp) rfl at_66 (X54.fin rfl (by decide) (by decide))
theorem eq_I {a b : Term} {args : Array Value} {s : State} {x y : Int32} (ha : a.eval args s none [] s = some (.int x)) (hb : b.eval args s none [] s = some (.int y)) : (Jvm.Cond.eq a b).value args s none s [] = some (decide (x = y)) := by simp [Cond.value, ha, hb]
theorem own_eqI {t : Term} {args : Array Value} {s : State} {z : Int32} (h : (Jvm.Cond.eq t (.int z)).value args s none s [] = some true) : t.eval args s none [] s = some (.int z) := by
  obtain ⟨x, y, e1, e2, -, k⟩ := cmp_v (Or.inl h)
  have e3 : y = .int z := Option.some.inj (e2.symm.trans (Term.int_eval z))
  subst e3
  obtain ⟨w, rfl⟩ := k
  have := gotT (eq_I e1 e2) h
  rw [this] at e1
  exact e1
theorem own_enum {C n d : String} {args : Array Value} {s : State} {z : Int32} (hx : (Jvm.Cond.exactly (.static C n d) C).value args s none s [] = some true) (hz : (Jvm.Cond.eq (.field (.static C n d) "java/lang/Enum" "ordinal" "I") (.int z)).value args s none s [] = some true) (wi : (Jvm.Cond.initialized C).before args s = true) (wl : (Jvm.Cond.laysStatic C n d).before args s = true) : ∃ a, Sta s s.heap C n d (.ref a) ∧ Exa s s.heap a C ∧ Fld s s.heap a "java/lang/Enum" "ordinal" "I" (.int z) := by
  obtain ⟨a, ev⟩ := exa_v hx
  refine ⟨a, Sta.start ev (Or.inr ⟨wi, wl⟩), Exa.start ev hx, Fld.start ?_⟩
  have := own_eqI hz
  rw [fld_at ev] at this
  exact this
set_option maxRecDepth 65536 in
set_option maxHeartbeats 40000000 in
theorem comes_1 {Post : Tables → Env → Array Value → State → Outcome → State → Prop} (hpost : ∀ tb e args s v u, (limb_1_1.after args s (.returned v) u = true ∧ limb_1_2.after args s (.returned v) u = true ∧ True) → FrameEnd s (.returned v) u (Jvm.fieldLocs frame_1_writes args s ++ Jvm.arrayLocs frame_1_arrays args s ++ Jvm.staticLocs frame_1_statics s) 0 0 → Post tb e args s (.returned v) u) :
    ArmFor flags0 classFile x code maxLocals ret World_1 tables_1 room_1 Calls_1 rest_1 Pre_1 Post := by
  intro l hfl _ _ p e ha hc hk s m args below hf hA hF happ hP
  obtain ⟨hcalls, hrest, hpre⟩ := hP
  obtain ⟨-, -, -, hnamed, -, -, -, hat⟩ := (Spec.applies_iff hf).mp happ
  obtain ⟨hg, hn⟩ := and_e (Cond.before_iff.mp (show (Jvm.Cond.and given_1 narrow_1).before args s = true from hpre))
  obtain ⟨h1, h2⟩ := and_e hg
  obtain ⟨h3, h4⟩ := and_e h2
  obtain ⟨w0, w1, rfl⟩ : ∃ w0 w1 : Value, args = #[w0, w1] := by
    have hs : args.size = 2 := by simpa [Cond.value, given_1] using h1
    obtain ⟨L⟩ := args
    match L, hs with
    | [w0, w1], _ => exact ⟨w0, w1, rfl⟩
  have hw := fun d (hd : d ∈ tables_1) => atoms_spec (ws := Jvm.Cond.code x code maxLocals ret :: tables_1) hat d (List.mem_cons_of_mem _ hd)
  obtain ⟨i1, e1⟩ := is_v h3
  obtain rfl : w0 = (.int i1) := Option.some.inj e1
  obtain ⟨i2, e2⟩ := is_v h4
  obtain rfl : w1 = (.int i2) := Option.some.inj e2
  obtain ⟨xEQUAL, rEQUAL⟩ := and_e hn
  obtain ⟨zEQUAL, tEQUAL⟩ := and_e rEQUAL
  obtain ⟨xLESS, rLESS⟩ := and_e tEQUAL
  obtain ⟨zLESS, tLESS⟩ := and_e rLESS
  obtain ⟨xGREATER, rGREATER⟩ := and_e tLESS
  obtain ⟨zGREATER, tGREATER⟩ := and_e rGREATER
  obtain ⟨xNOT_EQUAL, rNOT_EQUAL⟩ := and_e tGREATER
  obtain ⟨zNOT_EQUAL, tNOT_EQUAL⟩ := and_e rNOT_EQUAL
  obtain ⟨xAT_LEAST, rAT_LEAST⟩ := and_e tNOT_EQUAL
  obtain ⟨zAT_LEAST, tAT_LEAST⟩ := and_e rAT_LEAST
  obtain ⟨xAT_MOST, rAT_MOST⟩ := and_e tAT_LEAST
  have zAT_MOST := rAT_MOST
  obtain ⟨b0, S0, E0, F0⟩ := (own_enum xEQUAL zEQUAL (hw _ (List.mem_of_getElem? (i := 6) rfl)) (hw _ (List.mem_of_getElem? (i := 7) rfl)))
  obtain ⟨b2, S2, E2, F2⟩ := (own_enum xLESS zLESS (hw _ (List.mem_of_getElem? (i := 6) rfl)) (hw _ (List.mem_of_getElem? (i := 26) rfl)))
  obtain ⟨b4, S4, E4, F4⟩ := (own_enum xGREATER zGREATER (hw _ (List.mem_of_getElem? (i := 6) rfl)) (hw _ (List.mem_of_getElem? (i := 28) rfl)))
  obtain ⟨b1, S1, E1, F1⟩ := (own_enum xNOT_EQUAL zNOT_EQUAL (hw _ (List.mem_of_getElem? (i := 6) rfl)) (hw _ (List.mem_of_getElem? (i := 30) rfl)))
  obtain ⟨b5, S5, E5, F5⟩ := (own_enum xAT_LEAST zAT_LEAST (hw _ (List.mem_of_getElem? (i := 6) rfl)) (hw _ (List.mem_of_getElem? (i := 32) rfl)))
  obtain ⟨b3, S3, E3, F3⟩ := (own_enum xAT_MOST zAT_MOST (hw _ (List.mem_of_getElem? (i := 6) rfl)) (hw _ (List.mem_of_getElem? (i := 34) rfl)))
  obtain ⟨n, o, h1, h2, h3, _, L, rfl, ⟨N, -, rfl⟩, hq⟩ := rm_l l s _ hw s.heap b0 b1 b2 b3 b4 b5 S0 S1 S2 S3 S4 S5 E0 F0 E1 F1 E2 F2 E3 F3 E4 F4 E5 F5 i1 i2 (Ext.rf _) p e ha hc hk s m _ below hf ((Spec.applies_iff_loose hf).mp happ).1 ⟨rfl, State.Warmed39.refl s, rfl⟩ trivial
  refine ⟨n, _, h1, h2, h3, hpost _ _ _ _ _ _ ⟨Cond.after_iff.mpr rfl, Cond.after_iff.mpr (eq_i res_at (Term.int_eval (1)) rfl), trivial⟩ ⟨hq.1, hq.2.1, (hq.2.2.sift fun y hy => Or.inr (N y hy)).mono (by decide) (by decide)⟩⟩
theorem main_1_1 : Claimed_1_1 := comes_1 fun _ _ _ _ _ _ h hF => ⟨h.1, hF⟩
theorem main_1_2 : Claimed_1_2 := comes_1 fun _ _ _ _ _ _ h hF => ⟨h.2.1, hF⟩
end Jvm.Pilot.@@N@@
namespace Jvm.Pilot.@@N@@
open Jvm Jvm.ClassFile Sem Op Lib Jvm.Free Jvm.Stand Jvm.Pilot.@@N@@.Jvm.D
/-! MADE BY PROGRAM (witnessworld.py) out of the Statement's table words and the real class files: 12 classes; the members and pool entries that the words name. The judged class is class 1, her method 3. -/
namespace start1
open Jvm.ClassFile
def u (s : String) : CpInfo := .utf8 (stringToUtf16 s)
/-- a pool by its gaps: so many unusable entries, then the entry; so many at the end -/
def gap : Nat → List CpInfo → List CpInfo
  | 0, r => r
  | n + 1, r => .unusable :: gap n r
def poolList (es : List (Nat × CpInfo)) (last : Nat) : List CpInfo := es.foldr (fun e r => gap e.1 (e.2 :: r)) (gap last [])
def pool (es : List (Nat × CpInfo)) (last : Nat) : Array CpInfo := ⟨poolList es last⟩
def fileOf (pool : Array CpInfo) (this : Nat) (attrs : Array Attribute := #[]) (ms : Array MethodInfo := #[]) (fl : Nat := 33) (sup : Nat := 0) (ifs : Array Nat := #[]) (fds : Array FieldInfo := #[]) : ClassFile where
  minorVersion := 0
  majorVersion := 65
  constantPool := pool
  accessFlags := fl
  thisClass := this
  superClass := sup
  interfaces := ifs
  fields := fds
  methods := ms
  attributes := attrs
def plain (name : String) (sup : Option ClassId) : Class where
  name := name
  kind := .ordinary
  loader := none
  accessFlags := 33
  super := sup
  interfaces := #[]
  cf := none
  fields := #[]
  methods := #[]
  instanceTypes := #[]
  staticTypes := #[]
  resolved := #[]
  callSites := []
  init := .initialized
  statics := none
  mirror := none

def pool0 : Array CpInfo := pool [(5, u "<init>"), (0, u "()V"), (1, .class_ 10), (1, u "java/lang/Object")] 113

def k0m0 : Method := { name := "<init>", desc := "()V", sig := { parameters := [], returnType := none }, accessFlags := 1, code := none }
/-- java/lang/Object -/
def k0 : Class := { plain "java/lang/Object" none with
  accessFlags := 33
  interfaces := #[]
  cf := some (fileOf pool0 8 #[] #[{ accessFlags := 1, nameIndex := 5, descriptorIndex := 6, attributes := #[] }] 33 0 #[] #[])
  fields := #[]
  methods := #[k0m0]
  instanceTypes := #[]
  staticTypes := #[]
  resolved := Array.replicate 124 none
  statics := none }

def pool1 : Array CpInfo := pool [(2, .class_ 4), (1, u "java/lang/Object"), (0, u "<init>"), (0, u "()V"), (0, .fieldref 8 9), (0, .class_ 10), (0, .nameAndType 11 12), (0, u "com/example/peerloom/peerloom/directory/Condition$Operator"), (0, u "EQUAL"), (0, u "Lcom/example/peerloom/peerloom/directory/Condition$Operator;"), (0, .fieldref 8 14), (0, .nameAndType 15 12), (0, u "NOT_EQUAL"), (0, .fieldref 8 17), (0, .nameAndType 18 12), (0, u "LESS"), (0, .fieldref 8 20), (0, .nameAndType 21 12), (0, u "AT_MOST"), (0, .fieldref 8 23), (0, .nameAndType 24 12), (0, u "GREATER"), (0, .fieldref 8 26), (0, .nameAndType 27 12), (0, u "AT_LEAST"), (0, .integer 2147483647), (0, .methodref 30 31), (0, .class_ 32), (0, .nameAndType 33 34), (0, u "com/example/peerloom/peerloom/directory/OperatorHoldsPinLaw"), (0, u "pick"), (0, u "(I)Lcom/example/peerloom/peerloom/directory/Condition$Operator;"), (0, .methodref 30 36), (0, .nameAndType 37 38), (0, u "accepted"), (0, u "(I)I"), (0, .methodref 8 40), (0, .nameAndType 41 42), (0, u "holds"), (0, u "(I)Z"), (3, u "law"), (0, u "(II)Z")] 6

def k1m0 : Method := { name := "<init>", desc := "()V", sig := { parameters := [], returnType := none }, accessFlags := 2, code := none }
def k1c1 : Code := { maxStack := 2, maxLocals := 1, code := method_2_code, exceptionTable := #[], attributes := #[] }
def k1m1 : Method := { name := "pick", desc := "(I)Lcom/example/peerloom/peerloom/directory/Condition$Operator;", sig := { parameters := [.int], returnType := some (.object "com/example/peerloom/peerloom/directory/Condition$Operator") }, accessFlags := 10, code := some k1c1 }
def k1c2 : Code := { maxStack := 2, maxLocals := 1, code := method_3_code, exceptionTable := #[], attributes := #[] }
def k1m2 : Method := { name := "accepted", desc := "(I)I", sig := { parameters := [.int], returnType := some .int }, accessFlags := 10, code := some k1c2 }
def k1c3 : Code := { maxStack := 2, maxLocals := 6, code := code, exceptionTable := #[], attributes := #[] }
def k1m3 : Method := { name := "law", desc := "(II)Z", sig := { parameters := [.int, .int], returnType := some .boolean }, accessFlags := 9, code := some k1c3 }
/-- com/example/peerloom/peerloom/directory/OperatorHoldsPinLaw -/
def k1 : Class := { plain "com/example/peerloom/peerloom/directory/OperatorHoldsPinLaw" (some 0) with
  accessFlags := 49
  interfaces := #[]
  cf := some (fileOf pool1 30 #[] #[{ accessFlags := 2, nameIndex := 5, descriptorIndex := 6, attributes := #[] }, { accessFlags := 10, nameIndex := 33, descriptorIndex := 34, attributes := #[] }, { accessFlags := 10, nameIndex := 37, descriptorIndex := 38, attributes := #[] }, { accessFlags := 9, nameIndex := 46, descriptorIndex := 47, attributes := #[] }] 49 2 #[] #[])
  fields := #[]
  methods := #[k1m0, k1m1, k1m2, k1m3]
  instanceTypes := #[]
  staticTypes := #[]
  resolved := Array.replicate 54 none
  statics := none }

def pool2 : Array CpInfo := pool [(1, .class_ 2), (0, u "java/lang/constant/Constable"), (0, .class_ 4), (0, u "java/lang/Object")] 6

/-- java/lang/constant/Constable -/
def k2 : Class := { plain "java/lang/constant/Constable" (some 0) with
  accessFlags := 1537
  interfaces := #[]
  cf := some (fileOf pool2 1 #[] #[] 1537 3 #[] #[])
  fields := #[]
  methods := #[]
  instanceTypes := #[]
  staticTypes := #[]
  resolved := Array.replicate 11 none
  statics := none }

def pool3 : Array CpInfo := pool [(1, .class_ 2), (0, u "java/lang/Comparable"), (0, .class_ 4), (0, u "java/lang/Object")] 7

/-- java/lang/Comparable -/
def k3 : Class := { plain "java/lang/Comparable" (some 0) with
  accessFlags := 1537
  interfaces := #[]
  cf := some (fileOf pool3 1 #[] #[] 1537 3 #[] #[])
  fields := #[]
  methods := #[]
  instanceTypes := #[]
  staticTypes := #[]
  resolved := Array.replicate 12 none
  statics := none }

def pool4 : Array CpInfo := pool [(1, .class_ 2), (0, u "java/io/Serializable"), (0, .class_ 4), (0, u "java/lang/Object")] 2

/-- java/io/Serializable -/
def k4 : Class := { plain "java/io/Serializable" (some 0) with
  accessFlags := 1537
  interfaces := #[]
  cf := some (fileOf pool4 1 #[] #[] 1537 3 #[] #[])
  fields := #[]
  methods := #[]
  instanceTypes := #[]
  staticTypes := #[]
  resolved := Array.replicate 7 none
  statics := none }

def pool5 : Array CpInfo := pool [(2, .class_ 4), (1, u "java/lang/Enum"), (0, u "name"), (0, u "Ljava/lang/String;"), (0, .fieldref 2 8), (0, .nameAndType 9 10), (0, u "ordinal"), (0, u "I"), (1, .class_ 14), (1, u "java/lang/Object"), (4, u "hash"), (86, .class_ 108), (1, u "java/lang/Enum$EnumDesc"), (2, .class_ 112), (0, u "java/lang/constant/Constable"), (0, .class_ 114), (0, u "java/lang/Comparable"), (0, .class_ 116), (0, u "java/io/Serializable"), (9, u "()I")] 77

def k5c0 : Code := { maxStack := 1, maxLocals := 1, code := jdk_37_method_2_code, exceptionTable := #[], attributes := #[] }
def k5m0 : Method := { name := "ordinal", desc := "()I", sig := { parameters := [], returnType := some .int }, accessFlags := 17, code := some k5c0 }
/-- java/lang/Enum -/
def k5 : Class := { plain "java/lang/Enum" (some 0) with
  accessFlags := 1057
  interfaces := #[2, 3, 4]
  cf := some (fileOf pool5 2 #[.nestMembers #[106]] #[{ accessFlags := 17, nameIndex := 9, descriptorIndex := 126, attributes := #[] }] 1057 12 #[111, 113, 115] #[{ accessFlags := 18, nameIndex := 5, descriptorIndex := 6, attributes := #[] }, { accessFlags := 18, nameIndex := 9, descriptorIndex := 10, attributes := #[] }, { accessFlags := 2, nameIndex := 19, descriptorIndex := 10, attributes := #[] }])
  fields := #[{ name := "name", type := (.object "java/lang/String"), accessFlags := 18, slot := 0, constantValue := 0 }, { name := "ordinal", type := .int, accessFlags := 18, slot := 1, constantValue := 0 }, { name := "hash", type := .int, accessFlags := 2, slot := 2, constantValue := 0 }]
  methods := #[k5m0]
  instanceTypes := #[(.object "java/lang/String"), .int, .int]
  staticTypes := #[]
  resolved := Array.replicate 204 none
  statics := none }

def pool6 : Array CpInfo := pool [(1, .class_ 2), (0, u "com/example/peerloom/peerloom/directory/Condition$Operator"), (2, u "EQUAL"), (0, u "Lcom/example/peerloom/peerloom/directory/Condition$Operator;"), (2, u "NOT_EQUAL"), (2, u "LESS"), (2, u "AT_MOST"), (2, u "GREATER"), (2, u "AT_LEAST"), (2, u "$VALUES"), (0, u "[Lcom/example/peerloom/peerloom/directory/Condition$Operator;"), (6, .class_ 34), (1, u "java/lang/Enum"), (8, u "symbol"), (0, u "Ljava/lang/String;"), (0, .methodref 1 46), (0, .nameAndType 47 48), (0, u "ordinal"), (0, u "()I"), (37, u "holds"), (0, u "(I)Z"), (7, .class_ 96), (0, u "com/example/peerloom/peerloom/directory/Condition")] 2

def k6c0 : Code := { maxStack := 4, maxLocals := 2, code := prog_14_method_4_code, exceptionTable := #[], attributes := #[] }
def k6m0 : Method := { name := "holds", desc := "(I)Z", sig := { parameters := [.int], returnType := some .boolean }, accessFlags := 0, code := some k6c0 }
/-- com/example/peerloom/peerloom/directory/Condition$Operator -/
def k6 : Class := { plain "com/example/peerloom/peerloom/directory/Condition$Operator" (some 5) with
  accessFlags := 16433
  interfaces := #[]
  cf := some (fileOf pool6 1 #[.nestHost 95] #[{ accessFlags := 0, nameIndex := 86, descriptorIndex := 87, attributes := #[] }] 16433 32 #[] #[{ accessFlags := 16409, nameIndex := 5, descriptorIndex := 6, attributes := #[] }, { accessFlags := 16409, nameIndex := 9, descriptorIndex := 6, attributes := #[] }, { accessFlags := 16409, nameIndex := 12, descriptorIndex := 6, attributes := #[] }, { accessFlags := 16409, nameIndex := 15, descriptorIndex := 6, attributes := #[] }, { accessFlags := 16409, nameIndex := 18, descriptorIndex := 6, attributes := #[] }, { accessFlags := 16409, nameIndex := 21, descriptorIndex := 6, attributes := #[] }, { accessFlags := 18, nameIndex := 43, descriptorIndex := 44, attributes := #[] }, { accessFlags := 4122, nameIndex := 24, descriptorIndex := 25, attributes := #[] }])
  fields := #[{ name := "EQUAL", type := (.object "com/example/peerloom/peerloom/directory/Condition$Operator"), accessFlags := 16409, slot := 0, constantValue := 0 }, { name := "NOT_EQUAL", type := (.object "com/example/peerloom/peerloom/directory/Condition$Operator"), accessFlags := 16409, slot := 1, constantValue := 0 }, { name := "LESS", type := (.object "com/example/peerloom/peerloom/directory/Condition$Operator"), accessFlags := 16409, slot := 2, constantValue := 0 }, { name := "AT_MOST", type := (.object "com/example/peerloom/peerloom/directory/Condition$Operator"), accessFlags := 16409, slot := 3, constantValue := 0 }, { name := "GREATER", type := (.object "com/example/peerloom/peerloom/directory/Condition$Operator"), accessFlags := 16409, slot := 4, constantValue := 0 }, { name := "AT_LEAST", type := (.object "com/example/peerloom/peerloom/directory/Condition$Operator"), accessFlags := 16409, slot := 5, constantValue := 0 }, { name := "symbol", type := (.object "java/lang/String"), accessFlags := 18, slot := 3, constantValue := 0 }, { name := "$VALUES", type := (.array (.object "com/example/peerloom/peerloom/directory/Condition$Operator")), accessFlags := 4122, slot := 6, constantValue := 0 }]
  methods := #[k6m0]
  instanceTypes := #[(.object "java/lang/String"), .int, .int, (.object "java/lang/String")]
  staticTypes := #[(.object "com/example/peerloom/peerloom/directory/Condition$Operator"), (.object "com/example/peerloom/peerloom/directory/Condition$Operator"), (.object "com/example/peerloom/peerloom/directory/Condition$Operator"), (.object "com/example/peerloom/peerloom/directory/Condition$Operator"), (.object "com/example/peerloom/peerloom/directory/Condition$Operator"), (.object "com/example/peerloom/peerloom/directory/Condition$Operator"), (.array (.object "com/example/peerloom/peerloom/directory/Condition$Operator"))]
  resolved := Array.replicate 99 none
  statics := some 0 }

def pool7 : Array CpInfo := pool [(1, u "java/lang/Cloneable"), (0, .class_ 1), (0, u "java/lang/Object"), (0, .class_ 3)] 3

/-- java/lang/Cloneable -/
def k7 : Class := { plain "java/lang/Cloneable" (some 0) with
  accessFlags := 1537
  interfaces := #[]
  cf := some (fileOf pool7 2 #[] #[] 1537 4 #[] #[])
  fields := #[]
  methods := #[]
  instanceTypes := #[]
  staticTypes := #[]
  resolved := Array.replicate 8 none
  statics := none }

/-- the primitive byte -/
def k8 : Class := { plain "byte" none with kind := .primitive 'B', accessFlags := 0x411 }
/-- [B -/
def k9 : Class := { plain "[B" (some 0) with kind := .array 8 .byte, interfaces := #[7, 4], accessFlags := 1041 }

/-- the primitive int -/
def k10 : Class := { plain "int" none with kind := .primitive 'I', accessFlags := 0x411 }
/-- [I -/
def k11 : Class := { plain "[I" (some 0) with kind := .array 10 .int, interfaces := #[7, 4], accessFlags := 1041 }

def heap : Heap := #[{ cls := 6, slots := #[.ref 1, .ref 4, .ref 2, .ref 6, .ref 3, .ref 5, .null], vm := .statics 6 },
  { cls := 6, slots := #[.null, .int 0, .int 0, .null], vm := .none },
  { cls := 6, slots := #[.null, .int 2, .int 0, .null], vm := .none },
  { cls := 6, slots := #[.null, .int 4, .int 0, .null], vm := .none },
  { cls := 6, slots := #[.null, .int 1, .int 0, .null], vm := .none },
  { cls := 6, slots := #[.null, .int 5, .int 0, .null], vm := .none },
  { cls := 6, slots := #[.null, .int 3, .int 0, .null], vm := .none }]
def classes : Array Class := #[k0, k1, k2, k3, k4, k5, k6, k7, k8, k9, k10, k11]
def interned : List (Array UInt16 × Addr) := []
def slotsUsed : Nat := 31
def theMethod : MethodId := ⟨1, 3⟩
def args0 : Array Value := #[.int 5, .int 6]
def aboutOver (below : List Frame) : State where
  vm := { classes := classes, interned := interned.toArray }
  heap := heap
  slotsUsed := slotsUsed
  threads := #[{ frames := .invoking theMethod args0 :: below }]
def below0 : List Frame := [.native { method := ⟨0, 0⟩, args := #[] }]
def about1 : State := aboutOver below0
def p0 : Program := .bare "" "" ""
def e0 : Env := launch0.env 0 0 0
theorem w_frames : about1.frames = Frame.invoking theMethod args0 :: below0 := rfl
set_option maxRecDepth 65536 in
theorem w_args : argsFit about1.vm theMethod args0 = true := by decide +kernel
set_option maxRecDepth 65536 in
theorem w_heap : heapFits about1 = true := by decide +kernel
set_option maxRecDepth 65536 in
theorem w_runnable : about1.curStatus? = some .runnable := by decide +kernel
set_option maxRecDepth 65536 in
theorem w_alone : about1.alone = true := by decide +kernel
set_option maxRecDepth 65536 in
theorem w_named : about1.methodNamed? x = some theMethod := by decide +kernel
set_option maxRecDepth 65536 in
theorem w_hears : about1.hears theMethod below0 = true := by decide +kernel
set_option maxRecDepth 65536 in
theorem w_ripe : about1.ripe theMethod args0 below0 = true := by decide +kernel
theorem w_running : about1.status = .running := rfl
set_option maxRecDepth 65536 in
theorem w_room : about1.hasRoom e0.platform room_1 = true :=
  launch0.hasRoom_least _ room_1 (by decide +kernel) (by decide +kernel) (by decide +kernel) (by decide +kernel) (by decide +kernel) (by decide +kernel)
theorem allAtoms_all (ts : List Jvm.Cond) (a : Array Jvm.Value) (st : Jvm.State) : (allAtoms ts).before a st = ts.all (fun c => c.before a st) := by
  induction ts with
  | nil => rfl
  | cons c t ih =>
    show (Jvm.Cond.and c (allAtoms t)).before a st = _
    rw [Jvm.Cond.before_and, ih, List.all_cons]
def words1 : List Jvm.Cond := Jvm.Cond.code x code maxLocals ret :: tables_1
/-- a 'code' word, met by the world's own term for the bytes: nothing is compared byte by byte -/
theorem code_word {y : MethodName} {bytes : ByteArray} {mx : Nat} {rt : Option FieldType} {a : Array Value} {s : State} {m : MethodId} {meth : Method} {c : Code} (h1 : s.methodNamed? y = some m) (h2 : s.vm.method? m = some meth) (h3 : meth.code = some c) (h4 : c.code = bytes)
    (h5 : (c.maxLocals == mx && c.exceptionTable.isEmpty && decide (c.maxStack ≤ mostOperands) && decide (meth.sig.returnType = rt) && !meth.locks && decide (parseMethodDescriptor y.desc = some meth.sig)) = true) : (Jvm.Cond.code y bytes mx rt).before a s = true := by
  simp only [Bool.and_eq_true, beq_iff_eq, Bool.not_eq_true', decide_eq_true_eq] at h5
  obtain ⟨⟨⟨⟨⟨g1, g2⟩, g3⟩, g4⟩, g5⟩, g6⟩ := h5
  simp [Cond.before, Cond.holds, Cond.value, h1, h2, h3, h4, g1, g2, g3, g4, g5, g6]
def isCode : Jvm.Cond → Bool
  | .code _ _ _ _ => true
  | _ => false
theorem all_split {L : List Jvm.Cond} {P : Jvm.Cond → Bool} (h1 : L.all (fun c => isCode c || P c) = true) (h2 : ∀ c ∈ L.filter isCode, P c = true) : L.all P = true := by
  refine List.all_eq_true.mpr fun c hc => ?_
  have h := List.all_eq_true.mp h1 c hc
  rcases Bool.eq_false_or_eq_true (isCode c) with hi | hi
  · exact h2 c (List.mem_filter.mpr ⟨hc, hi⟩)
  · simpa [hi] using h
set_option maxRecDepth 65536 in
theorem w_c0 : (Jvm.Cond.code x code maxLocals ret).before args0 about1 = true := code_word (m := ⟨1, 3⟩) (meth := k1m3) (c := k1c3) (by decide +kernel) rfl rfl rfl (by decide +kernel)
set_option maxRecDepth 65536 in
theorem w_c1 : (Jvm.Cond.code ({ cls := "com/example/peerloom/peerloom/directory/OperatorHoldsPinLaw", name := "pick", desc := "(I)Lcom/example/peerloom/peerloom/directory/Condition$Operator;" } : Jvm.MethodName) method_2_code (1 : Nat) (Option.some (Jvm.ClassFile.FieldType.object "com/example/peerloom/peerloom/directory/Condition$Operator"))).before args0 about1 = true := code_word (m := ⟨1, 1⟩) (meth := k1m1) (c := k1c1) (by decide +kernel) rfl rfl rfl (by decide +kernel)
set_option maxRecDepth 65536 in
theorem w_c2 : (Jvm.Cond.code ({ cls := "com/example/peerloom/peerloom/directory/OperatorHoldsPinLaw", name := "accepted", desc := "(I)I" } : Jvm.MethodName) method_3_code (1 : Nat) (Option.some Jvm.ClassFile.FieldType.int)).before args0 about1 = true := code_word (m := ⟨1, 2⟩) (meth := k1m2) (c := k1c2) (by decide +kernel) rfl rfl rfl (by decide +kernel)
set_option maxRecDepth 65536 in
theorem w_c3 : (Jvm.Cond.code ({ cls := "com/example/peerloom/peerloom/directory/Condition$Operator", name := "holds", desc := "(I)Z" } : Jvm.MethodName) prog_14_method_4_code (2 : Nat) (Option.some Jvm.ClassFile.FieldType.boolean)).before args0 about1 = true := code_word (m := ⟨6, 0⟩) (meth := k6m0) (c := k6c0) (by decide +kernel) rfl rfl rfl (by decide +kernel)
set_option maxRecDepth 65536 in
theorem w_c4 : (Jvm.Cond.code ({ cls := "java/lang/Enum", name := "ordinal", desc := "()I" } : Jvm.MethodName) jdk_37_method_2_code (1 : Nat) (Option.some Jvm.ClassFile.FieldType.int)).before args0 about1 = true := code_word (m := ⟨5, 0⟩) (meth := k5m0) (c := k5c0) (by decide +kernel) rfl rfl rfl (by decide +kernel)
def codes1 : List Jvm.Cond := [Jvm.Cond.code x code maxLocals ret, Jvm.Cond.code ({ cls := "com/example/peerloom/peerloom/directory/OperatorHoldsPinLaw", name := "pick", desc := "(I)Lcom/example/peerloom/peerloom/directory/Condition$Operator;" } : Jvm.MethodName) method_2_code (1 : Nat) (Option.some (Jvm.ClassFile.FieldType.object "com/example/peerloom/peerloom/directory/Condition$Operator")), Jvm.Cond.code ({ cls := "com/example/peerloom/peerloom/directory/OperatorHoldsPinLaw", name := "accepted", desc := "(I)I" } : Jvm.MethodName) method_3_code (1 : Nat) (Option.some Jvm.ClassFile.FieldType.int), Jvm.Cond.code ({ cls := "com/example/peerloom/peerloom/directory/Condition$Operator", name := "holds", desc := "(I)Z" } : Jvm.MethodName) prog_14_method_4_code (2 : Nat) (Option.some Jvm.ClassFile.FieldType.boolean), Jvm.Cond.code ({ cls := "java/lang/Enum", name := "ordinal", desc := "()I" } : Jvm.MethodName) jdk_37_method_2_code (1 : Nat) (Option.some Jvm.ClassFile.FieldType.int)]
set_option maxRecDepth 65536 in
theorem codes_eq : words1.filter isCode = codes1 := rfl
theorem w_codes : ∀ c ∈ words1.filter isCode, c.before args0 about1 = true := by
  rw [codes_eq]
  intro c hc
  simp only [codes1, List.mem_cons, List.not_mem_nil, or_false] at hc
  rcases hc with rfl | rfl | rfl | rfl | rfl
  · exact w_c0
  · exact w_c1
  · exact w_c2
  · exact w_c3
  · exact w_c4
set_option maxRecDepth 65536 in
theorem w_t1 : (words1.take 24).all (fun c => isCode c || c.before args0 about1) = true := by decide +kernel
set_option maxRecDepth 65536 in
theorem w_t2 : (words1.drop 24).all (fun c => isCode c || c.before args0 about1) = true := by decide +kernel
theorem w_tables : (allAtoms (Jvm.Cond.code x code maxLocals ret :: tables_1)).before args0 about1 = true := by
  rw [allAtoms_all]
  show words1.all (fun c => c.before args0 about1) = true
  refine all_split ?_ w_codes
  rw [← List.take_append_drop 24 words1, List.all_append, w_t1, w_t2]
  rfl
set_option maxRecDepth 65536 in
theorem w_case : (Jvm.Cond.and given_1 narrow_1).before args0 about1 = true := by decide +kernel
theorem w_applies : (headSpec (Jvm.Cond.code x code maxLocals ret :: tables_1) room_1).applies x e0.platform about1 = true :=
  (Spec.applies_iff w_frames).mpr ⟨w_running, w_runnable, w_alone, w_named, w_hears, w_ripe, w_room, w_tables⟩
theorem atStart : AtStart classFile x code maxLocals ret World_1 tables_1 room_1 Calls_1 rest_1 Pre_1 launch0 p0 e0 about1 theMethod args0 below0 :=
  ⟨lists_1, trivial, launch0.admits_env _ _ _, launch0.least_env, fairChoices_fair.cas, fairChoices_fair.clock, w_frames, w_args, w_heap, w_applies, trivial, trivial, w_case⟩
end start1
theorem witness_1 : WitnessClaimed_1 := ⟨start1.p0, start1.e0, start1.about1, start1.theMethod, start1.args0, start1.below0, start1.atStart⟩
end Jvm.Pilot.@@N@@
