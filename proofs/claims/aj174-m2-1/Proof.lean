import JvmDerived
import JvmDerived.Pilot.@@N@@Statement
import JvmDerived.Pilot.@@N@@Code
set_option linter.unusedVariables false
set_option linter.unusedSimpArgs false
namespace Jvm.Pilot.@@N@@
open Jvm Jvm.ClassFile Sem Op Lib Jvm.Free Jvm.Stand Jvm.LawKit Jvm.RoadKit Bundle Jvm.Pilot.@@N@@.Jvm.D
section Kit
variable {p : Program} {l : Launch} {e : Env} {R : Room} {s : State} {m : MethodId} {args : Array Value} {below : List Frame} {meth : Method} {c : Code} {T : State} {locs : List Loc} {cells slots : Nat} {Z : State} {a0 : Array Value} {h : Heap} {own nm : String} {bytes : ByteArray} {maxL : Nat} {rt : Option FieldType} {Q : Option Value → Heap → Prop} {ce sl : Nat} {En : Option Value → State → Prop} {pc : Nat} {Ls : Array Slot} {st : List Value}
/-- where a walk stands: the state T, its heap h; all that lay in the heap at the start Z is there unchanged, and all that was written is new -/
def Cx (p : Program) (l : Launch) (e : Env) (R : Room) (s : State) (m : MethodId) (args : Array Value) (below : List Frame) (meth : Method) (c : Code) (Z : State) (own nm : String) (bytes : ByteArray) (maxL : Nat) (rt : Option FieldType) (T : State) (locs : List Loc) (cells slots : Nat) (h : Heap) : Prop :=
  Stand p l e R s m args below meth c T locs cells slots ∧ p.tables.exec = Jvm.exec ∧ Z.Warmed39 s.vm ∧ s.vm.findClass own = some m.cls ∧ c.code = bytes ∧ c.maxLocals = maxL ∧ meth.sig.returnType = rt ∧ meth.name = nm ∧ meth.locks = false ∧ T.heap = h ∧ Fr Z.heap.size locs ∧ Ext Z.heap h
/-- from this frame the body comes to its end, and En holds of what it returns and of the state there -/
def Go (p : Program) (e : Env) (below : List Frame) (En : Option Value → State → Prop) (T : State) (m : MethodId) (pc : Nat) (Ls : Array Slot) (st : List Value) : Prop :=
  ∃ s₂ v, Steps p.tables e below (T.setTop (mkF m pc Ls st)) s₂ ∧ s₂.status = .running ∧ Ended s₂ below (.returned v) ∧ En v s₂
/-- a return of v from here: where it leads, and that En holds there -/
def Lv (e : Env) (below : List Frame) (En : Option Value → State → Prop) (T : State) (m : MethodId) (v : Option Value) : Prop :=
  ∃ fs, (∀ (f : JFrame) (acts : List Action), f.method = m → f.locked = none → f.entered = [] → (doReturn e (T.setTop f) acts v).1 = T.setFrames fs) ∧ (T.setFrames fs).status = .running ∧ Ended (T.setFrames fs) below (.returned v) ∧ En v (T.setFrames fs)
/-- the end of a body that interns nothing -/
def FinN (s Z : State) (Q : Option Value → Heap → Prop) (ce sl : Nat) : Option Value → State → Prop := fun v t => ∃ L, (Fr Z.heap.size L ∧ Ext Z.heap t.heap ∧ Q v t.heap) ∧ FrameEnd s (.returned v) t L ce sl
/-- the contract of a method called with the arguments as' over the heap h -/
def Ct (l : Launch) (Z : State) (ws : List Jvm.Cond) (y : MethodName) (bytes : ByteArray) (maxL : Nat) (rt : Option FieldType) (rm : Room) (as' : Array Value) (h : Heap) (Q : Option Value → Heap → Prop) : Prop :=
  Ext Z.heap h → MetFree l y (head1 (Jvm.Cond.code y bytes maxL rt :: ws) rm) (fun a U => a = as' ∧ Z.Warmed39 U.vm ∧ U.heap = h) (fun _ _ _ _ _ => True) (fun _ U o U' => ∃ v L, o = .returned v ∧ (Fr Z.heap.size L ∧ Ext Z.heap U'.heap ∧ Q v U'.heap) ∧ FrameEnd U o U' L rm.cells rm.slots)
/-- it returns v and leaves the heap as it was -/
def Pu (h : Heap) (v : Value) : Option Value → Heap → Prop := fun w h' => w = some v ∧ h' = h
theorem Ext.rf (h : Heap) : Ext h h := ⟨Nat.le_refl _, fun _ _ q => q⟩
theorem Ext.tr {h1 h2 h3 : Heap} (E : Ext h1 h2) (F : Ext h2 h3) : Ext h1 h3 := ⟨Nat.le_trans E.1 F.1, fun a c q => F.2 a c (E.2 a c q)⟩
theorem Ext.kp {h1 h2 h3 : Heap} {ws : List Addr} (E : Ext h1 h2) (K : Keep h2 h3 ws) (q : ∀ x ∈ ws, h1.size ≤ x) : Ext h1 h3 := ⟨Nat.le_trans E.1 K.1, fun a c r => K.2.1 a c (E.2 a c r) fun z => absurd (Array.getElem?_eq_some_iff.mp r).1 (Nat.not_lt.mpr (q a z))⟩
theorem Ext.wr {h1 h2 h3 : Heap} {a : Addr} {k : Nat} {v : Value} (E : Ext h1 h2) (W : Wr h2 h3 a k v) (q : h1.size ≤ a) : Ext h1 h3 := Ext.kp E (Keep.of_wr W) (allS q all0)
theorem Ext.keep {h1 h2 : Heap} (E : Ext h1 h2) (ws : List Addr) : Keep h1 h2 ws := (Keep.refl _ _).ext E
theorem Cx.sd (X : Cx p l e R s m args below meth c Z own nm bytes maxL rt T locs cells slots h) : Stand p l e R s m args below meth c T locs cells slots := X.1
theorem Cx.here (X : Cx p l e R s m args below meth c Z own nm bytes maxL rt T locs cells slots h) : At T m c below := X.1.here
theorem Cx.hx (X : Cx p l e R s m args below meth c Z own nm bytes maxL rt T locs cells slots h) : p.tables.exec = Jvm.exec := X.2.1
theorem Cx.hZ (X : Cx p l e R s m args below meth c Z own nm bytes maxL rt T locs cells slots h) : Z.Warmed39 s.vm := X.2.2.1
theorem Cx.hown (X : Cx p l e R s m args below meth c Z own nm bytes maxL rt T locs cells slots h) : s.vm.findClass own = some m.cls := X.2.2.2.1
theorem Cx.hby (X : Cx p l e R s m args below meth c Z own nm bytes maxL rt T locs cells slots h) : c.code = bytes := X.2.2.2.2.1
theorem Cx.hml (X : Cx p l e R s m args below meth c Z own nm bytes maxL rt T locs cells slots h) : c.maxLocals = maxL := X.2.2.2.2.2.1
theorem Cx.hrt (X : Cx p l e R s m args below meth c Z own nm bytes maxL rt T locs cells slots h) : meth.sig.returnType = rt := X.2.2.2.2.2.2.1
theorem Cx.hnm (X : Cx p l e R s m args below meth c Z own nm bytes maxL rt T locs cells slots h) : meth.name = nm := X.2.2.2.2.2.2.2.1
theorem Cx.hlk (X : Cx p l e R s m args below meth c Z own nm bytes maxL rt T locs cells slots h) : meth.locks = false := X.2.2.2.2.2.2.2.2.1
theorem Cx.eq (X : Cx p l e R s m args below meth c Z own nm bytes maxL rt T locs cells slots h) : T.heap = h := X.2.2.2.2.2.2.2.2.2.1
theorem Cx.fr (X : Cx p l e R s m args below meth c Z own nm bytes maxL rt T locs cells slots h) : Fr Z.heap.size locs := X.2.2.2.2.2.2.2.2.2.2.1
theorem Cx.old (X : Cx p l e R s m args below meth c Z own nm bytes maxL rt T locs cells slots h) : Ext Z.heap h := X.2.2.2.2.2.2.2.2.2.2.2
theorem Cx.le (X : Cx p l e R s m args below meth c Z own nm bytes maxL rt T locs cells slots h) : Z.heap.size ≤ h.size := X.old.1
theorem Cx.mk' {T' : State} {locs' : List Loc} {cells' slots' : Nat} {h' : Heap} (X : Cx p l e R s m args below meth c Z own nm bytes maxL rt T locs cells slots h) (Y : Stand p l e R s m args below meth c T' locs' cells' slots') (q : T'.heap = h') (f : Fr Z.heap.size locs') (o : Ext Z.heap h') : Cx p l e R s m args below meth c Z own nm bytes maxL rt T' locs' cells' slots' h' := ⟨Y, X.hx, X.hZ, X.hown, X.hby, X.hml, X.hrt, X.hnm, X.hlk, q, f, o⟩
theorem Go.step {T' : State} {pc' : Nat} {Ls' : Array Slot} {st' : List Value} (f : ∀ t, Steps p.tables e below (T'.setTop (mkF m pc' Ls' st')) t → Steps p.tables e below (T.setTop (mkF m pc Ls st)) t) (k : Go p e below En T' m pc' Ls' st') : Go p e below En T m pc Ls st := by
  obtain ⟨s₂, v, k1, k2⟩ := k
  exact ⟨s₂, v, f _ k1, k2⟩
theorem Ct.ofF {y : MethodName} {ws : List Jvm.Cond} {rm : Room} {as' : Array Value} {Ls0 : Array Slot} (pn : plainFor y = true) (ef : ∀ m, entryFrame m as' maxL = mkF m 0 Ls0 [])
    (body : ∀ p e s m below meth c s₁, Cx p l e rm s m as' below meth c Z y.cls y.name bytes maxL rt s₁ [] 0 0 h → Go p e below (FinN s Z Q rm.cells rm.slots) s₁ m 0 Ls0 []) : Ct l Z ws y bytes maxL rt rm as' h Q := by
  intro hE
  refine MetFree.of_bodySF pn hisR ?_
  intro p e s m args below meth c s₁ Bd hml0 hP hK
  obtain ⟨rfl, hZ, hh⟩ := hP
  have hown : s.vm.findClass y.cls = some m.cls := findClass_of_methodNamed Bd.named
  have hnm := (name_of_methodNamed Bd.named Bd.method).1
  have X0 : Stand p l e rm s m args below meth c s₁ [] 0 0 := Stand.of_body Bd
  have e0 : s₁.heap = h := by rw [← hh, Bd.state]; rfl
  obtain ⟨s₂, v, k1, k2, k3, L, k5, k6⟩ := body p e s m below meth c s₁ ⟨X0, Bd.exec, hZ, hown, Bd.bytes, hml0, Bd.returns, hnm, Bd.notSynchronized, e0, Fr.nil _, hE⟩
  exact ⟨s₂, _, castTop (ef m) k1, k2, k3, v, L, rfl, k5, k6⟩
theorem Ct.of {y : MethodName} {ws : List Jvm.Cond} {rm : Room} {as' : Array Value} {Ls0 : Array Slot} (pn : plainName y.cls = true) (ef : ∀ m, entryFrame m as' maxL = mkF m 0 Ls0 [])
    (body : ∀ p e s m below meth c s₁, Cx p l e rm s m as' below meth c Z y.cls y.name bytes maxL rt s₁ [] 0 0 h → Go p e below (FinN s Z Q rm.cells rm.slots) s₁ m 0 Ls0 []) : Ct l Z ws y bytes maxL rt rm as' h Q := Ct.ofF (plainFor_of_name pn) ef body
theorem Cx.fin (X : Cx p l e R s m args below meth c Z own nm bytes maxL rt T locs cells slots h) {v : Option Value} (hQ : Q v h) (hc : cells ≤ ce) (hs : slots ≤ sl) (hv : rt = none → v = none := by (intro q; first | rfl | (cases q; done))) : Lv e below (FinN s Z Q ce sl) T m v := by
  have hlk := X.hlk
  obtain ⟨fs, hr, hrun, hended, hW, hsame⟩ := X.sd.leave (v := v) (fun q => hv (X.hrt ▸ q)) hlk
  have q : (T.setFrames fs).heap = h := X.eq
  exact ⟨fs, hr, hrun, hended, locs, ⟨X.fr, by rw [q]; exact X.old, by rw [q]; exact hQ⟩, ⟨_, rfl⟩, hW, hsame.mono hc hs⟩
theorem Go.ret0 (X : Cx p l e R s m args below meth c Z own nm bytes maxL rt T locs cells slots h) {v : Option Value}
    (f : ∀ fs, (∀ (f : JFrame) (acts : List Action), f.method = m → f.locked = none → f.entered = [] → (doReturn e (T.setTop f) acts v).1 = T.setFrames fs) → Steps p.tables e below (T.setTop (mkF m pc Ls st)) (T.setFrames fs)) (hF : Lv e below En T m v) : Go p e below En T m pc Ls st := by
  obtain ⟨fs, hr, hrun, hended, hq⟩ := hF
  exact ⟨_, _, f fs hr, hrun, hended, hq⟩
theorem Go.ret (X : Cx p l e R s m args below meth c Z own nm bytes maxL rt T locs cells slots h) {t : FieldType} {i : Instr} {w : Value} {rest : List Value} (hret : rt = some t) (hn : narrow t w = w)
    (hi : (i = .ireturn ∧ (t = .int ∨ t = .boolean ∨ t = .byte ∨ t = .char ∨ t = .short) ∧ ∃ z, w = .int z) ∨ (i = .lreturn ∧ t = .long ∧ ∃ z, w = .long z) ∨ (i = .dreturn ∧ t = .double ∧ ∃ z, w = .double z) ∨ (i = .freturn ∧ t = .float ∧ ∃ z, w = .float z) ∨ (i = .areturn ∧ t.isReference = true ∧ w.isRef = true))
    (hd : decode bytes pc = .ok (i, 1)) (hF : Lv e below En T m (some w)) : Go p e below En T m pc Ls (w :: rest) :=
  Go.ret0 X (fun fs hr => retOut X.sd X.hx (X.hrt.trans hret) hn hi (hb X.hby hd) hr) hF
theorem Go.retI (X : Cx p l e R s m args below meth c Z own nm bytes maxL rt T locs cells slots h) {t : FieldType} {z : Int32} {rest : List Value} (hret : rt = some t) (ht : t = .int ∨ t = .boolean ∨ t = .byte ∨ t = .char ∨ t = .short) (hn : narrow t (.int z) = .int z) (hd : decode bytes pc = .ok (.ireturn, 1)) (hF : Lv e below En T m (some (.int z))) : Go p e below En T m pc Ls (.int z :: rest) :=
  Go.ret X hret hn (Or.inl ⟨rfl, ht, z, rfl⟩) hd hF
theorem Go.retJ (X : Cx p l e R s m args below meth c Z own nm bytes maxL rt T locs cells slots h) {z : Int64} {rest : List Value} (hret : rt = some .long) (hd : decode bytes pc = .ok (.lreturn, 1)) (hF : Lv e below En T m (some (.long z))) : Go p e below En T m pc Ls (.long z :: rest) :=
  Go.ret X hret rfl (Or.inr (Or.inl ⟨rfl, rfl, z, rfl⟩)) hd hF
theorem Go.retA (X : Cx p l e R s m args below meth c Z own nm bytes maxL rt T locs cells slots h) {t : FieldType} {w : Value} {rest : List Value} (hret : rt = some t) (ht : t.isReference = true) (hw : w.isRef = true) (hd : decode bytes pc = .ok (.areturn, 1)) (hF : Lv e below En T m (some w)) : Go p e below En T m pc Ls (w :: rest) :=
  Go.ret X hret (by cases t <;> first | rfl | (cases ht; done)) (Or.inr (Or.inr (Or.inr (Or.inr ⟨rfl, ht, hw⟩)))) hd hF
theorem Go.retV (X : Cx p l e R s m args below meth c Z own nm bytes maxL rt T locs cells slots h) (hret : rt = none) (hd : decode bytes pc = .ok (.return_, 1)) (hF : Lv e below En T m none) : Go p e below En T m pc Ls [] :=
  Go.ret0 X (fun fs hr => X.sd.returnOut X.hx (X.hrt.trans hret) (hb X.hby hd) hr) hF
theorem Go.aloadN (X : Cx p l e R s m args below meth c Z own nm bytes maxL rt T locs cells slots h) (pc' : Nat) {i : Fin 4} {v : Value} (hd : decode bytes pc = .ok (.aload_n i, 1)) (hl : Ls[i.val]? = some (.val v)) (hv : v.isRef = true) (k : Go p e below En T m pc' Ls (v :: st)) (hp : pc + 1 = pc' := by rfl) : Go p e below En T m pc Ls st := by
  subst hp
  exact Go.step (fun _ hr => XS.aloadN X.here X.hx rfl (hb X.hby hd) hl hv hr) k
theorem Go.aload (X : Cx p l e R s m args below meth c Z own nm bytes maxL rt T locs cells slots h) (pc' : Nat) {i : Nat} {v : Value} (hd : decode bytes pc = .ok (.aload i, 2)) (hl : Ls[i]? = some (.val v)) (hv : v.isRef = true) (k : Go p e below En T m pc' Ls (v :: st)) (hp : pc + 2 = pc' := by rfl) : Go p e below En T m pc Ls st := by
  subst hp
  exact Go.step (fun _ hr => XS.aload X.here X.hx rfl (hb X.hby hd) hl hv hr) k
theorem Go.iloadN (X : Cx p l e R s m args below meth c Z own nm bytes maxL rt T locs cells slots h) (pc' : Nat) {i : Fin 4} {v : Int32} (hd : decode bytes pc = .ok (.iload_n i, 1)) (hl : Ls[i.val]? = some (.val (.int v))) (k : Go p e below En T m pc' Ls (.int v :: st)) (hp : pc + 1 = pc' := by rfl) : Go p e below En T m pc Ls st := by
  subst hp
  exact Go.step (fun _ hr => XS.iloadN X.here X.hx rfl (hb X.hby hd) hl hr) k
theorem Go.iload (X : Cx p l e R s m args below meth c Z own nm bytes maxL rt T locs cells slots h) (pc' : Nat) {i : Nat} {v : Int32} (hd : decode bytes pc = .ok (.iload i, 2)) (hl : Ls[i]? = some (.val (.int v))) (k : Go p e below En T m pc' Ls (.int v :: st)) (hp : pc + 2 = pc' := by rfl) : Go p e below En T m pc Ls st := by
  subst hp
  exact Go.step (fun _ hr => XS.iload X.here X.hx rfl (hb X.hby hd) hl hr) k
theorem Go.lloadN (X : Cx p l e R s m args below meth c Z own nm bytes maxL rt T locs cells slots h) (pc' : Nat) {i : Fin 4} {v : Int64} (hd : decode bytes pc = .ok (.lload_n i, 1)) (hl : Ls[i.val]? = some (.val (.long v))) (k : Go p e below En T m pc' Ls (.long v :: st)) (hp : pc + 1 = pc' := by rfl) : Go p e below En T m pc Ls st := by
  subst hp
  exact Go.step (fun _ hr => XT.lloadN X.here X.hx rfl (hb X.hby hd) hl hr) k
theorem Go.lload (X : Cx p l e R s m args below meth c Z own nm bytes maxL rt T locs cells slots h) (pc' : Nat) {i : Nat} {v : Int64} (hd : decode bytes pc = .ok (.lload i, 2)) (hl : Ls[i]? = some (.val (.long v))) (k : Go p e below En T m pc' Ls (.long v :: st)) (hp : pc + 2 = pc' := by rfl) : Go p e below En T m pc Ls st := by
  subst hp
  exact Go.step (fun _ hr => XT.lload X.here X.hx rfl (hb X.hby hd) hl hr) k
theorem Go.iconst (X : Cx p l e R s m args below meth c Z own nm bytes maxL rt T locs cells slots h) (pc' : Nat) {i : Int} (z : Int32) (hd : decode bytes pc = .ok (.iconst i, 1)) (k : Go p e below En T m pc' Ls (.int z :: st)) (hp : pc + 1 = pc' := by rfl) (hv : Int32.ofInt i = z := by rfl) : Go p e below En T m pc Ls st := by
  subst hp
  exact Go.step (fun _ hr => XT.iconstV X.here X.hx rfl z (hb X.hby hd) hv hr) k
theorem Go.bipush (X : Cx p l e R s m args below meth c Z own nm bytes maxL rt T locs cells slots h) (pc' : Nat) {i : Int} (z : Int32) (hd : decode bytes pc = .ok (.bipush i, 2)) (k : Go p e below En T m pc' Ls (.int z :: st)) (hp : pc + 2 = pc' := by rfl) (hv : (Int8.ofInt i).toInt32 = z := by rfl) : Go p e below En T m pc Ls st := by
  subst hp
  exact Go.step (fun _ hr => XT.bipushV X.here X.hx rfl z (hb X.hby hd) hv hr) k
theorem Go.sipush (X : Cx p l e R s m args below meth c Z own nm bytes maxL rt T locs cells slots h) (pc' : Nat) {i : Int} (z : Int32) (hd : decode bytes pc = .ok (.sipush i, 3)) (k : Go p e below En T m pc' Ls (.int z :: st)) (hp : pc + 3 = pc' := by rfl) (hv : (Int16.ofInt i).toInt32 = z := by rfl) : Go p e below En T m pc Ls st := by
  subst hp
  exact Go.step (fun _ hr => XT.sipushV X.here X.hx rfl z (hb X.hby hd) hv hr) k
theorem Go.lconst (X : Cx p l e R s m args below meth c Z own nm bytes maxL rt T locs cells slots h) (pc' : Nat) {i : Fin 2} (z : Int64) (hd : decode bytes pc = .ok (.lconst i, 1)) (k : Go p e below En T m pc' Ls (.long z :: st)) (hp : pc + 1 = pc' := by rfl) (hv : Int64.ofNat i = z := by rfl) : Go p e below En T m pc Ls st := by
  subst hp
  exact Go.step (fun _ hr => XT.lconstV X.here X.hx rfl z (hb X.hby hd) hv hr) k
theorem Go.aconst_null (X : Cx p l e R s m args below meth c Z own nm bytes maxL rt T locs cells slots h) (pc' : Nat)  (hd : decode bytes pc = .ok (.aconst_null, 1))  (k : Go p e below En T m pc' Ls (.null :: st)) (hp : pc + 1 = pc' := by rfl) : Go p e below En T m pc Ls st := by
  subst hp
  exact Go.step (fun _ hr => XS.aconstNull X.here X.hx rfl (hb X.hby hd)  hr) k
theorem Go.iadd (X : Cx p l e R s m args below meth c Z own nm bytes maxL rt T locs cells slots h) (pc' : Nat) {x y : Int32} (hd : decode bytes pc = .ok (.iadd, 1))  (k : Go p e below En T m pc' Ls (.int (x + y) :: st)) (hp : pc + 1 = pc' := by rfl) : Go p e below En T m pc Ls (.int y :: .int x :: st) := by
  subst hp
  exact Go.step (fun _ hr => XS.iadd X.here X.hx rfl (hb X.hby hd) rfl hr) k
theorem Go.isub (X : Cx p l e R s m args below meth c Z own nm bytes maxL rt T locs cells slots h) (pc' : Nat) {x y : Int32} (hd : decode bytes pc = .ok (.isub, 1))  (k : Go p e below En T m pc' Ls (.int (x - y) :: st)) (hp : pc + 1 = pc' := by rfl) : Go p e below En T m pc Ls (.int y :: .int x :: st) := by
  subst hp
  exact Go.step (fun _ hr => XS.isub X.here X.hx rfl (hb X.hby hd) rfl hr) k
theorem Go.imul (X : Cx p l e R s m args below meth c Z own nm bytes maxL rt T locs cells slots h) (pc' : Nat) {x y : Int32} (hd : decode bytes pc = .ok (.imul, 1))  (k : Go p e below En T m pc' Ls (.int (x * y) :: st)) (hp : pc + 1 = pc' := by rfl) : Go p e below En T m pc Ls (.int y :: .int x :: st) := by
  subst hp
  exact Go.step (fun _ hr => XS.imul X.here X.hx rfl (hb X.hby hd) rfl hr) k
theorem Go.iand (X : Cx p l e R s m args below meth c Z own nm bytes maxL rt T locs cells slots h) (pc' : Nat) {x y : Int32} (hd : decode bytes pc = .ok (.iand, 1))  (k : Go p e below En T m pc' Ls (.int (x &&& y) :: st)) (hp : pc + 1 = pc' := by rfl) : Go p e below En T m pc Ls (.int y :: .int x :: st) := by
  subst hp
  exact Go.step (fun _ hr => XS.iand X.here X.hx rfl (hb X.hby hd) rfl hr) k
theorem Go.ior (X : Cx p l e R s m args below meth c Z own nm bytes maxL rt T locs cells slots h) (pc' : Nat) {x y : Int32} (hd : decode bytes pc = .ok (.ior, 1))  (k : Go p e below En T m pc' Ls (.int (x ||| y) :: st)) (hp : pc + 1 = pc' := by rfl) : Go p e below En T m pc Ls (.int y :: .int x :: st) := by
  subst hp
  exact Go.step (fun _ hr => XT.ior X.here X.hx rfl (hb X.hby hd) rfl hr) k
theorem Go.ixor (X : Cx p l e R s m args below meth c Z own nm bytes maxL rt T locs cells slots h) (pc' : Nat) {x y : Int32} (hd : decode bytes pc = .ok (.ixor, 1))  (k : Go p e below En T m pc' Ls (.int (x ^^^ y) :: st)) (hp : pc + 1 = pc' := by rfl) : Go p e below En T m pc Ls (.int y :: .int x :: st) := by
  subst hp
  exact Go.step (fun _ hr => XT.ixor X.here X.hx rfl (hb X.hby hd) rfl hr) k
theorem Go.idiv (X : Cx p l e R s m args below meth c Z own nm bytes maxL rt T locs cells slots h) (pc' : Nat) {x y : Int32} (hd : decode bytes pc = .ok (.idiv, 1)) (hy : y ≠ 0) (k : Go p e below En T m pc' Ls (.int (x / y) :: st)) (hp : pc + 1 = pc' := by rfl) : Go p e below En T m pc Ls (.int y :: .int x :: st) := by
  subst hp
  exact Go.step (fun _ hr => XS.idiv X.here X.hx rfl (hb X.hby hd) rfl hy hr) k
theorem Go.irem (X : Cx p l e R s m args below meth c Z own nm bytes maxL rt T locs cells slots h) (pc' : Nat) {x y : Int32} (hd : decode bytes pc = .ok (.irem, 1)) (hy : y ≠ 0) (k : Go p e below En T m pc' Ls (.int (x % y) :: st)) (hp : pc + 1 = pc' := by rfl) : Go p e below En T m pc Ls (.int y :: .int x :: st) := by
  subst hp
  exact Go.step (fun _ hr => iremM X.sd X.hx rfl (hb X.hby hd) rfl hy hr) k
theorem Go.ishl (X : Cx p l e R s m args below meth c Z own nm bytes maxL rt T locs cells slots h) (pc' : Nat) {x y : Int32} (hd : decode bytes pc = .ok (.ishl, 1))  (k : Go p e below En T m pc' Ls (.int (x <<< (y &&& 31)) :: st)) (hp : pc + 1 = pc' := by rfl) : Go p e below En T m pc Ls (.int y :: .int x :: st) := by
  subst hp
  exact Go.step (fun _ hr => XT.ishl X.here X.hx rfl (hb X.hby hd) rfl hr) k
theorem Go.ishr (X : Cx p l e R s m args below meth c Z own nm bytes maxL rt T locs cells slots h) (pc' : Nat) {x y : Int32} (hd : decode bytes pc = .ok (.ishr, 1))  (k : Go p e below En T m pc' Ls (.int (x >>> (y &&& 31)) :: st)) (hp : pc + 1 = pc' := by rfl) : Go p e below En T m pc Ls (.int y :: .int x :: st) := by
  subst hp
  exact Go.step (fun _ hr => XT.ishr X.here X.hx rfl (hb X.hby hd) rfl hr) k
theorem Go.iushr (X : Cx p l e R s m args below meth c Z own nm bytes maxL rt T locs cells slots h) (pc' : Nat) {x y : Int32} (hd : decode bytes pc = .ok (.iushr, 1))  (k : Go p e below En T m pc' Ls (.int (XT.ushr x y) :: st)) (hp : pc + 1 = pc' := by rfl) : Go p e below En T m pc Ls (.int y :: .int x :: st) := by
  subst hp
  exact Go.step (fun _ hr => XT.iushr X.here X.hx rfl (hb X.hby hd) rfl hr) k
theorem Go.ladd (X : Cx p l e R s m args below meth c Z own nm bytes maxL rt T locs cells slots h) (pc' : Nat) {x y : Int64} (hd : decode bytes pc = .ok (.ladd, 1))  (k : Go p e below En T m pc' Ls (.long (x + y) :: st)) (hp : pc + 1 = pc' := by rfl) : Go p e below En T m pc Ls (.long y :: .long x :: st) := by
  subst hp
  exact Go.step (fun _ hr => XT.ladd X.here X.hx rfl (hb X.hby hd) rfl hr) k
theorem Go.lsub (X : Cx p l e R s m args below meth c Z own nm bytes maxL rt T locs cells slots h) (pc' : Nat) {x y : Int64} (hd : decode bytes pc = .ok (.lsub, 1))  (k : Go p e below En T m pc' Ls (.long (x - y) :: st)) (hp : pc + 1 = pc' := by rfl) : Go p e below En T m pc Ls (.long y :: .long x :: st) := by
  subst hp
  exact Go.step (fun _ hr => XT.lsub X.here X.hx rfl (hb X.hby hd) rfl hr) k
theorem Go.lmul (X : Cx p l e R s m args below meth c Z own nm bytes maxL rt T locs cells slots h) (pc' : Nat) {x y : Int64} (hd : decode bytes pc = .ok (.lmul, 1))  (k : Go p e below En T m pc' Ls (.long (x * y) :: st)) (hp : pc + 1 = pc' := by rfl) : Go p e below En T m pc Ls (.long y :: .long x :: st) := by
  subst hp
  exact Go.step (fun _ hr => XT.lmul X.here X.hx rfl (hb X.hby hd) rfl hr) k
theorem Go.land (X : Cx p l e R s m args below meth c Z own nm bytes maxL rt T locs cells slots h) (pc' : Nat) {x y : Int64} (hd : decode bytes pc = .ok (.land, 1))  (k : Go p e below En T m pc' Ls (.long (x &&& y) :: st)) (hp : pc + 1 = pc' := by rfl) : Go p e below En T m pc Ls (.long y :: .long x :: st) := by
  subst hp
  exact Go.step (fun _ hr => XT.land X.here X.hx rfl (hb X.hby hd) rfl hr) k
theorem Go.lor (X : Cx p l e R s m args below meth c Z own nm bytes maxL rt T locs cells slots h) (pc' : Nat) {x y : Int64} (hd : decode bytes pc = .ok (.lor, 1))  (k : Go p e below En T m pc' Ls (.long (x ||| y) :: st)) (hp : pc + 1 = pc' := by rfl) : Go p e below En T m pc Ls (.long y :: .long x :: st) := by
  subst hp
  exact Go.step (fun _ hr => XT.lor X.here X.hx rfl (hb X.hby hd) rfl hr) k
theorem Go.lxor (X : Cx p l e R s m args below meth c Z own nm bytes maxL rt T locs cells slots h) (pc' : Nat) {x y : Int64} (hd : decode bytes pc = .ok (.lxor, 1))  (k : Go p e below En T m pc' Ls (.long (x ^^^ y) :: st)) (hp : pc + 1 = pc' := by rfl) : Go p e below En T m pc Ls (.long y :: .long x :: st) := by
  subst hp
  exact Go.step (fun _ hr => XT.lxor X.here X.hx rfl (hb X.hby hd) rfl hr) k
theorem Go.lcmp (X : Cx p l e R s m args below meth c Z own nm bytes maxL rt T locs cells slots h) (pc' : Nat) {x y : Int64} (hd : decode bytes pc = .ok (.lcmp, 1))  (k : Go p e below En T m pc' Ls (.int (XT.cmpL x y) :: st)) (hp : pc + 1 = pc' := by rfl) : Go p e below En T m pc Ls (.long y :: .long x :: st) := by
  subst hp
  exact Go.step (fun _ hr => XT.lcmp X.here X.hx rfl (hb X.hby hd) rfl hr) k
theorem Go.ldiv (X : Cx p l e R s m args below meth c Z own nm bytes maxL rt T locs cells slots h) (pc' : Nat) {x y : Int64} (hd : decode bytes pc = .ok (.ldiv, 1)) (hy : y ≠ 0) (k : Go p e below En T m pc' Ls (.long (x / y) :: st)) (hp : pc + 1 = pc' := by rfl) : Go p e below En T m pc Ls (.long y :: .long x :: st) := by
  subst hp
  exact Go.step (fun _ hr => XT.ldiv X.here X.hx rfl (hb X.hby hd) rfl hy hr) k
theorem Go.lrem (X : Cx p l e R s m args below meth c Z own nm bytes maxL rt T locs cells slots h) (pc' : Nat) {x y : Int64} (hd : decode bytes pc = .ok (.lrem, 1)) (hy : y ≠ 0) (k : Go p e below En T m pc' Ls (.long (x - (x / y) * y) :: st)) (hp : pc + 1 = pc' := by rfl) : Go p e below En T m pc Ls (.long y :: .long x :: st) := by
  subst hp
  exact Go.step (fun _ hr => XT.lrem X.here X.hx rfl (hb X.hby hd) rfl hy hr) k
theorem Go.lshl (X : Cx p l e R s m args below meth c Z own nm bytes maxL rt T locs cells slots h) (pc' : Nat) {x : Int64} {y : Int32} (hd : decode bytes pc = .ok (.lshl, 1))  (k : Go p e below En T m pc' Ls (.long (x <<< (y.toInt64 &&& 63)) :: st)) (hp : pc + 1 = pc' := by rfl) : Go p e below En T m pc Ls (.int y :: .long x :: st) := by
  subst hp
  exact Go.step (fun _ hr => XT.lshl X.here X.hx rfl (hb X.hby hd) rfl hr) k
theorem Go.lshr (X : Cx p l e R s m args below meth c Z own nm bytes maxL rt T locs cells slots h) (pc' : Nat) {x : Int64} {y : Int32} (hd : decode bytes pc = .ok (.lshr, 1))  (k : Go p e below En T m pc' Ls (.long (x >>> (y.toInt64 &&& 63)) :: st)) (hp : pc + 1 = pc' := by rfl) : Go p e below En T m pc Ls (.int y :: .long x :: st) := by
  subst hp
  exact Go.step (fun _ hr => XT.lshr X.here X.hx rfl (hb X.hby hd) rfl hr) k
theorem Go.lushr (X : Cx p l e R s m args below meth c Z own nm bytes maxL rt T locs cells slots h) (pc' : Nat) {x : Int64} {y : Int32} (hd : decode bytes pc = .ok (.lushr, 1))  (k : Go p e below En T m pc' Ls (.long (XT.ushrL x y) :: st)) (hp : pc + 1 = pc' := by rfl) : Go p e below En T m pc Ls (.int y :: .long x :: st) := by
  subst hp
  exact Go.step (fun _ hr => XT.lushr X.here X.hx rfl (hb X.hby hd) rfl hr) k
theorem Go.i2l (X : Cx p l e R s m args below meth c Z own nm bytes maxL rt T locs cells slots h) (pc' : Nat) {x : Int32} (hd : decode bytes pc = .ok (.i2l, 1))  (k : Go p e below En T m pc' Ls (.long (x.toInt64) :: st)) (hp : pc + 1 = pc' := by rfl) : Go p e below En T m pc Ls (.int x :: st) := by
  subst hp
  exact Go.step (fun _ hr => XT.i2l X.here X.hx rfl (hb X.hby hd) rfl hr) k
theorem Go.i2b (X : Cx p l e R s m args below meth c Z own nm bytes maxL rt T locs cells slots h) (pc' : Nat) {x : Int32} (hd : decode bytes pc = .ok (.i2b, 1))  (k : Go p e below En T m pc' Ls (.int (x.toInt8.toInt32) :: st)) (hp : pc + 1 = pc' := by rfl) : Go p e below En T m pc Ls (.int x :: st) := by
  subst hp
  exact Go.step (fun _ hr => XT.i2b X.here X.hx rfl (hb X.hby hd) rfl hr) k
theorem Go.i2c (X : Cx p l e R s m args below meth c Z own nm bytes maxL rt T locs cells slots h) (pc' : Nat) {x : Int32} (hd : decode bytes pc = .ok (.i2c, 1))  (k : Go p e below En T m pc' Ls (.int (x.toUInt32.toUInt16.toUInt32.toInt32) :: st)) (hp : pc + 1 = pc' := by rfl) : Go p e below En T m pc Ls (.int x :: st) := by
  subst hp
  exact Go.step (fun _ hr => XT.i2c X.here X.hx rfl (hb X.hby hd) rfl hr) k
theorem Go.i2s (X : Cx p l e R s m args below meth c Z own nm bytes maxL rt T locs cells slots h) (pc' : Nat) {x : Int32} (hd : decode bytes pc = .ok (.i2s, 1))  (k : Go p e below En T m pc' Ls (.int (x.toInt16.toInt32) :: st)) (hp : pc + 1 = pc' := by rfl) : Go p e below En T m pc Ls (.int x :: st) := by
  subst hp
  exact Go.step (fun _ hr => XT.i2s X.here X.hx rfl (hb X.hby hd) rfl hr) k
theorem Go.l2i (X : Cx p l e R s m args below meth c Z own nm bytes maxL rt T locs cells slots h) (pc' : Nat) {x : Int64} (hd : decode bytes pc = .ok (.l2i, 1))  (k : Go p e below En T m pc' Ls (.int (x.toInt32) :: st)) (hp : pc + 1 = pc' := by rfl) : Go p e below En T m pc Ls (.long x :: st) := by
  subst hp
  exact Go.step (fun _ hr => XT.l2i X.here X.hx rfl (hb X.hby hd) rfl hr) k
theorem Go.dup (X : Cx p l e R s m args below meth c Z own nm bytes maxL rt T locs cells slots h) (pc' : Nat) {v : Value} (hd : decode bytes pc = .ok (.dup, 1)) (hc : v.category = 1) (k : Go p e below En T m pc' Ls (v :: v :: st)) (hp : pc + 1 = pc' := by rfl) : Go p e below En T m pc Ls (v :: st) := by
  subst hp
  exact Go.step (fun _ hr => XS.dup X.here X.hx rfl (hb X.hby hd) rfl hc hr) k
theorem Go.pop (X : Cx p l e R s m args below meth c Z own nm bytes maxL rt T locs cells slots h) (pc' : Nat) {v : Value} (hd : decode bytes pc = .ok (.pop, 1)) (hc : v.category = 1) (k : Go p e below En T m pc' Ls st) (hp : pc + 1 = pc' := by rfl) : Go p e below En T m pc Ls (v :: st) := by
  subst hp
  exact Go.step (fun _ hr => XT.pop X.here X.hx rfl (hb X.hby hd) rfl hc hr) k
theorem Go.dup_x1 (X : Cx p l e R s m args below meth c Z own nm bytes maxL rt T locs cells slots h) (pc' : Nat) {v w : Value} (hd : decode bytes pc = .ok (.dup_x1, 1)) (hc : v.category = 1) (hc' : w.category = 1) (k : Go p e below En T m pc' Ls (v :: w :: v :: st)) (hp : pc + 1 = pc' := by rfl) : Go p e below En T m pc Ls (v :: w :: st) := by
  subst hp
  exact Go.step (fun _ hr => XT.dupX1 X.here X.hx rfl (hb X.hby hd) rfl hc hc' hr) k
theorem Go.dup2 (X : Cx p l e R s m args below meth c Z own nm bytes maxL rt T locs cells slots h) (pc' : Nat) {v w : Value} (hd : decode bytes pc = .ok (.dup2, 1)) (hc : v.category = 1) (hc' : w.category = 1) (k : Go p e below En T m pc' Ls (v :: w :: v :: w :: st)) (hp : pc + 1 = pc' := by rfl) : Go p e below En T m pc Ls (v :: w :: st) := by
  subst hp
  exact Go.step (fun _ hr => XT.dup2 X.here X.hx rfl (hb X.hby hd) rfl hc hc' hr) k
theorem Go.istoreN (X : Cx p l e R s m args below meth c Z own nm bytes maxL rt T locs cells slots h) (pc' : Nat) {i : Fin 4} {z : Int32} (Ls' : Array Slot) (hd : decode bytes pc = .ok (.istore_n i, 1))  (hl : storeLocals Ls i.val (.int z) = some Ls') (k : Go p e below En T m pc' Ls' st) (hp : pc + 1 = pc' := by rfl) : Go p e below En T m pc Ls (.int z :: st) := by
  subst hp
  exact Go.step (fun _ hr => XS.istoreN X.here X.hx rfl (hb X.hby hd) rfl  hl hr) k
theorem Go.istore (X : Cx p l e R s m args below meth c Z own nm bytes maxL rt T locs cells slots h) (pc' : Nat) {i : Nat} {z : Int32} (Ls' : Array Slot) (hd : decode bytes pc = .ok (.istore i, 2))  (hl : storeLocals Ls i (.int z) = some Ls') (k : Go p e below En T m pc' Ls' st) (hp : pc + 2 = pc' := by rfl) : Go p e below En T m pc Ls (.int z :: st) := by
  subst hp
  exact Go.step (fun _ hr => XS.istore X.here X.hx rfl (hb X.hby hd) rfl  hl hr) k
theorem Go.lstoreN (X : Cx p l e R s m args below meth c Z own nm bytes maxL rt T locs cells slots h) (pc' : Nat) {i : Fin 4} {z : Int64} (Ls' : Array Slot) (hd : decode bytes pc = .ok (.lstore_n i, 1))  (hl : storeLocals Ls i.val (.long z) = some Ls') (k : Go p e below En T m pc' Ls' st) (hp : pc + 1 = pc' := by rfl) : Go p e below En T m pc Ls (.long z :: st) := by
  subst hp
  exact Go.step (fun _ hr => XT.lstoreN X.here X.hx rfl (hb X.hby hd) rfl  hl hr) k
theorem Go.lstore (X : Cx p l e R s m args below meth c Z own nm bytes maxL rt T locs cells slots h) (pc' : Nat) {i : Nat} {z : Int64} (Ls' : Array Slot) (hd : decode bytes pc = .ok (.lstore i, 2))  (hl : storeLocals Ls i (.long z) = some Ls') (k : Go p e below En T m pc' Ls' st) (hp : pc + 2 = pc' := by rfl) : Go p e below En T m pc Ls (.long z :: st) := by
  subst hp
  exact Go.step (fun _ hr => XT.lstore X.here X.hx rfl (hb X.hby hd) rfl  hl hr) k
theorem Go.astoreN (X : Cx p l e R s m args below meth c Z own nm bytes maxL rt T locs cells slots h) (pc' : Nat) {i : Fin 4} {v : Value} (Ls' : Array Slot) (hd : decode bytes pc = .ok (.astore_n i, 1)) (hv : v.isRef = true) (hl : storeLocals Ls i.val (v) = some Ls') (k : Go p e below En T m pc' Ls' st) (hp : pc + 1 = pc' := by rfl) : Go p e below En T m pc Ls (v :: st) := by
  subst hp
  exact Go.step (fun _ hr => XS.astoreN X.here X.hx rfl (hb X.hby hd) rfl hv hl hr) k
theorem Go.astore (X : Cx p l e R s m args below meth c Z own nm bytes maxL rt T locs cells slots h) (pc' : Nat) {i : Nat} {v : Value} (Ls' : Array Slot) (hd : decode bytes pc = .ok (.astore i, 2)) (hv : v.isRef = true) (hl : storeLocals Ls i (v) = some Ls') (k : Go p e below En T m pc' Ls' st) (hp : pc + 2 = pc' := by rfl) : Go p e below En T m pc Ls (v :: st) := by
  subst hp
  exact Go.step (fun _ hr => XS.astore X.here X.hx rfl (hb X.hby hd) rfl hv hl hr) k
theorem Go.iinc (X : Cx p l e R s m args below meth c Z own nm bytes maxL rt T locs cells slots h) (pc' : Nat) {i : Nat} {x : Int32} {cst : Int} (z : Int32) (Ls' : Array Slot) (hd : decode bytes pc = .ok (.iinc i cst, 3)) (hl0 : Ls[i]? = some (.val (.int x))) (hl : storeLocals Ls i (.int (x + z)) = some Ls') (k : Go p e below En T m pc' Ls' st) (hp : pc + 3 = pc' := by rfl) (hv : Int32.ofInt cst = z := by rfl) : Go p e below En T m pc Ls st := by
  subst hp
  exact Go.step (fun _ hr => XT.iincV X.here X.hx rfl z (hb X.hby hd) hv hl0 hl hr) k
theorem Go.goto (X : Cx p l e R s m args below meth c Z own nm bytes maxL rt T locs cells slots h) (pc' : Nat) {o : Int} (hd : decode bytes pc = .ok (.goto o, 3)) (k : Go p e below En T m pc' Ls st) (ho : 0 ≤ (pc : Int) + o := by decide) (hp : ((pc : Int) + o).toNat = pc' := by decide) : Go p e below En T m pc Ls st :=
  Go.step (fun _ hr => XS.goto X.here X.hx rfl rfl (hb X.hby hd) ho hp hr) k
theorem Go.if0Y (X : Cx p l e R s m args below meth c Z own nm bytes maxL rt T locs cells slots h) (pc' : Nat) {cd : ClassFile.Cond} {x : Int32} {o : Int} (hd : decode bytes pc = .ok (.ifCond cd o, 3)) (hc : ifCond.holds cd x = true) (k : Go p e below En T m pc' Ls st) (ho : 0 ≤ (pc : Int) + o := by decide) (hp : ((pc : Int) + o).toNat = pc' := by decide) : Go p e below En T m pc Ls (.int x :: st) :=
  Go.step (fun _ hr => XS.ifYes X.here X.hx rfl rfl (hb X.hby hd) rfl hc ho hp hr) k
theorem Go.if0N (X : Cx p l e R s m args below meth c Z own nm bytes maxL rt T locs cells slots h) (pc' : Nat) {cd : ClassFile.Cond} {x : Int32} {o : Int} (hd : decode bytes pc = .ok (.ifCond cd o, 3)) (hc : ifCond.holds cd x = false) (k : Go p e below En T m pc' Ls st) (hp : pc + 3 = pc' := by rfl) : Go p e below En T m pc Ls (.int x :: st) := by
  subst hp
  exact Go.step (fun _ hr => XS.ifNo X.here X.hx rfl (hb X.hby hd) rfl hc hr) k
theorem Go.icmpY (X : Cx p l e R s m args below meth c Z own nm bytes maxL rt T locs cells slots h) (pc' : Nat) {cd : ClassFile.Cond} {x y : Int32} {o : Int} (hd : decode bytes pc = .ok (.if_icmp cd o, 3)) (hc : if_icmp.holds cd x y = true) (k : Go p e below En T m pc' Ls st) (ho : 0 ≤ (pc : Int) + o := by decide) (hp : ((pc : Int) + o).toNat = pc' := by decide) : Go p e below En T m pc Ls (.int y :: .int x :: st) :=
  Go.step (fun _ hr => XS.icmpYes X.here X.hx rfl rfl (hb X.hby hd) rfl hc ho hp hr) k
theorem Go.icmpN (X : Cx p l e R s m args below meth c Z own nm bytes maxL rt T locs cells slots h) (pc' : Nat) {cd : ClassFile.Cond} {x y : Int32} {o : Int} (hd : decode bytes pc = .ok (.if_icmp cd o, 3)) (hc : if_icmp.holds cd x y = false) (k : Go p e below En T m pc' Ls st) (hp : pc + 3 = pc' := by rfl) : Go p e below En T m pc Ls (.int y :: .int x :: st) := by
  subst hp
  exact Go.step (fun _ hr => XS.icmpNo X.here X.hx rfl (hb X.hby hd) rfl hc hr) k
theorem Go.acmpY (X : Cx p l e R s m args below meth c Z own nm bytes maxL rt T locs cells slots h) (pc' : Nat) {cd : ClassFile.ACond} {x y : Value} {o : Int} (hd : decode bytes pc = .ok (.if_acmp cd o, 3)) (hx' : x.isRef = true) (hy' : y.isRef = true) (hc : XT.acmp cd x y = true) (k : Go p e below En T m pc' Ls st) (ho : 0 ≤ (pc : Int) + o := by decide) (hp : ((pc : Int) + o).toNat = pc' := by decide) : Go p e below En T m pc Ls (y :: x :: st) :=
  Go.step (fun _ hr => XT.acmpYes X.here X.hx rfl rfl (hb X.hby hd) rfl hx' hy' hc ho hp hr) k
theorem Go.acmpN (X : Cx p l e R s m args below meth c Z own nm bytes maxL rt T locs cells slots h) (pc' : Nat) {cd : ClassFile.ACond} {x y : Value} {o : Int} (hd : decode bytes pc = .ok (.if_acmp cd o, 3)) (hx' : x.isRef = true) (hy' : y.isRef = true) (hc : XT.acmp cd x y = false) (k : Go p e below En T m pc' Ls st) (hp : pc + 3 = pc' := by rfl) : Go p e below En T m pc Ls (y :: x :: st) := by
  subst hp
  exact Go.step (fun _ hr => XT.acmpNo X.here X.hx rfl (hb X.hby hd) rfl hx' hy' hc hr) k
theorem Go.ifnullY (X : Cx p l e R s m args below meth c Z own nm bytes maxL rt T locs cells slots h) (pc' : Nat) {o : Int} (hd : decode bytes pc = .ok (.ifnull o, 3)) (k : Go p e below En T m pc' Ls st) (ho : 0 ≤ (pc : Int) + o := by decide) (hp : ((pc : Int) + o).toNat = pc' := by decide) : Go p e below En T m pc Ls (.null :: st) :=
  Go.step (fun _ hr => XS.ifnullYes X.here X.hx rfl rfl (hb X.hby hd) rfl ho hp hr) k
theorem Go.ifnullN (X : Cx p l e R s m args below meth c Z own nm bytes maxL rt T locs cells slots h) (pc' : Nat) {a : Addr} {o : Int} (hd : decode bytes pc = .ok (.ifnull o, 3)) (k : Go p e below En T m pc' Ls st) (hp : pc + 3 = pc' := by rfl) : Go p e below En T m pc Ls (.ref a :: st) := by
  subst hp
  exact Go.step (fun _ hr => XS.ifnullNo X.here X.hx rfl (hb X.hby hd) rfl hr) k
theorem Go.ifnonnullY (X : Cx p l e R s m args below meth c Z own nm bytes maxL rt T locs cells slots h) (pc' : Nat) {a : Addr} {o : Int} (hd : decode bytes pc = .ok (.ifnonnull o, 3)) (k : Go p e below En T m pc' Ls st) (ho : 0 ≤ (pc : Int) + o := by decide) (hp : ((pc : Int) + o).toNat = pc' := by decide) : Go p e below En T m pc Ls (.ref a :: st) :=
  Go.step (fun _ hr => XT.ifnonnullYes X.here X.hx rfl rfl (hb X.hby hd) rfl ho hp hr) k
theorem Go.ifnonnullN (X : Cx p l e R s m args below meth c Z own nm bytes maxL rt T locs cells slots h) (pc' : Nat) {o : Int} (hd : decode bytes pc = .ok (.ifnonnull o, 3)) (k : Go p e below En T m pc' Ls st) (hp : pc + 3 = pc' := by rfl) : Go p e below En T m pc Ls (.null :: st) := by
  subst hp
  exact Go.step (fun _ hr => XT.ifnonnullNo X.here X.hx rfl (hb X.hby hd) rfl hr) k
theorem Go.tsw (X : Cx p l e R s m args below meth c Z own nm bytes maxL rt T locs cells slots h) (pc' : Nat) {dflt low high o : Int} {offs : Array Int} {len : Nat} {i : Int32} (hd : decode bytes pc = .ok (.tableswitch dflt low high offs, len)) (hin : ¬ (i.toInt < low ∨ i.toInt > high)) (hoff : offs[(i.toInt - low).toNat]? = some o) (k : Go p e below En T m pc' Ls st) (ho : 0 ≤ (pc : Int) + o := by decide) (hp : ((pc : Int) + o).toNat = pc' := by decide) : Go p e below En T m pc Ls (.int i :: st) :=
  Go.step (fun _ hr => XS.tswIn X.here X.hx rfl rfl (hb X.hby hd) rfl hin hoff ho hp hr) k
theorem Go.ldcI (X : Cx p l e R s m args below meth c Z own nm bytes maxL rt T locs cells slots h) (pc' : Nat) {idx : Nat} {v : Int32} (w : (Jvm.Cond.constant own idx v).before a0 Z = true) (hd : decode bytes pc = .ok (.ldc idx, 2)) (k : Go p e below En T m pc' Ls (.int v :: st)) (hp : pc + 2 = pc' := by rfl) : Go p e below En T m pc Ls st := by
  subst hp
  exact Go.step (fun _ hr => X.sd.ldcI X.hx X.hown (mvT X.hZ w) rfl (hb X.hby hd) hr) k
theorem Go.ldcJ (X : Cx p l e R s m args below meth c Z own nm bytes maxL rt T locs cells slots h) (pc' : Nat) {idx : Nat} {v : Int64} (w : (Jvm.Cond.constantLong own idx v).before a0 Z = true) (hd : decode bytes pc = .ok (.ldc2_w idx, 3)) (k : Go p e below En T m pc' Ls (.long v :: st)) (hp : pc + 3 = pc' := by rfl) : Go p e below En T m pc Ls st := by
  subst hp
  exact Go.step (fun _ hr => X.sd.ldc2J X.hx X.hown (mvT X.hZ w) rfl (hb X.hby hd) hr) k
theorem Go.getS (X : Cx p l e R s m args below meth c Z own nm bytes maxL rt T locs cells slots h) (pc' : Nat) {O n d : String} {idx : Nat} {v : Value} (w : (Jvm.Cond.fieldLink own idx O n d).before a0 Z = true) (F : Sta Z Z.heap O n d v) (hd : decode bytes pc = .ok (.getstatic idx, 3)) (k : ∀ T', Cx p l e R s m args below meth c Z own nm bytes maxL rt T' locs cells slots h → Go p e below En T' m pc' Ls (v :: st)) (hp : pc + 3 = pc' := by rfl) : Go p e below En T m pc Ls st := by
  subst hp
  obtain ⟨T', X', e', st'⟩ := RoadKit.getS (host := "") X.sd X.hx X.hZ X.hown w Via.refl X.eq (F.ext X.old) (g := mkF m pc Ls st) rfl (hb X.hby hd)
  exact Go.step st' (k T' (X.mk' X' e' X.fr X.old))
theorem Go.getF (X : Cx p l e R s m args below meth c Z own nm bytes maxL rt T locs cells slots h) (pc' : Nat) {O n d : String} {idx : Nat} {a : Addr} {v : Value} (w : (Jvm.Cond.fieldLink own idx O n d).before a0 Z = true) (F : Fld Z h a O n d v) (hd : decode bytes pc = .ok (.getfield idx, 3)) (k : ∀ T', Cx p l e R s m args below meth c Z own nm bytes maxL rt T' locs cells slots h → Go p e below En T' m pc' Ls (v :: st)) (hp : pc + 3 = pc' := by rfl) : Go p e below En T m pc Ls (.ref a :: st) := by
  subst hp
  obtain ⟨T', X', e', st'⟩ := RoadKit.getF (host := "") X.sd X.hx X.hZ X.hown (Or.inl w) Via.refl X.eq F (g := mkF m pc Ls (.ref a :: st)) rfl rfl (hb X.hby hd)
  exact Go.step st' (k T' (X.mk' X' e' X.fr X.old))
theorem Go.getFN (X : Cx p l e R s m args below meth c Z own nm bytes maxL rt T locs cells slots h) (pc' : Nat) {O n d host : String} {idx : Nat} {a : Addr} {v : Value} (w : (Jvm.Cond.fieldLinkNest own idx O n d host).before a0 Z = true) (F : Fld Z h a O n d v) (hd : decode bytes pc = .ok (.getfield idx, 3)) (k : ∀ T', Cx p l e R s m args below meth c Z own nm bytes maxL rt T' locs cells slots h → Go p e below En T' m pc' Ls (v :: st)) (hp : pc + 3 = pc' := by rfl) : Go p e below En T m pc Ls (.ref a :: st) := by
  subst hp
  obtain ⟨T', X', e', st'⟩ := RoadKit.getF X.sd X.hx X.hZ X.hown (Or.inr w) Via.refl X.eq F (g := mkF m pc Ls (.ref a :: st)) rfl rfl (hb X.hby hd)
  exact Go.step st' (k T' (X.mk' X' e' X.fr X.old))
theorem Go.putF (X : Cx p l e R s m args below meth c Z own nm bytes maxL rt T locs cells slots h) (pc' : Nat) {O n d C : String} {idx kk : Nat} {ty : FieldType} {a : Addr} {v old : Value} (w : (Jvm.Cond.fieldLink own idx O n d).before a0 Z = true) (F : Fld Z h a O n d old) (E : Exa Z h a C) (L : (Jvm.Cond.lays C O n d).before a0 Z = true ∨ ((Jvm.Cond.laysFinal C O n d).before a0 Z = true ∧ own = O ∧ nm = "<init>")) (wi : (Jvm.Cond.instantiable C kk).before a0 Z = true) (hty : parseFieldDescriptor d = some ty) (hn : narrow ty v = v) (hf : fits ty v = true) (ha : Z.heap.size ≤ a) (hd : decode bytes pc = .ok (.putfield idx, 3))
    (k : ∀ T' h', Cx p l e R s m args below meth c Z own nm bytes maxL rt T' (locs ++ [⟨a, RoadKit.slotOf Z O n d⟩]) cells slots h' → Wr h h' a (RoadKit.slotOf Z O n d) v → Go p e below En T' m pc' Ls st) (hp : pc + 3 = pc' := by rfl) : Go p e below En T m pc Ls (v :: .ref a :: st) := by
  subst hp
  obtain ⟨T', h', X', e', W, st'⟩ := RoadKit.putF (host := "") X.sd X.hx X.hZ X.hown (Or.inl w) Via.refl X.eq F E (L.imp id fun q => ⟨q.1, q.2.1, X.hnm.trans q.2.2⟩) wi hty hn hf (g := mkF m pc Ls (v :: .ref a :: st)) rfl rfl (hb X.hby hd)
  exact Go.step st' (k T' h' (X.mk' X' e' (Fr.snoc X' X.fr ha) (Ext.wr X.old W ha)) W)
theorem Go.newO (X : Cx p l e R s m args below meth c Z own nm bytes maxL rt T locs cells slots h) (pc' : Nat) {C : String} {idx n : Nat} (w : (Jvm.Cond.classLink own idx C).before a0 Z = true) (wi : (Jvm.Cond.instantiable C n).before a0 Z = true) (wz : (Jvm.Cond.initialized C).before a0 Z = true) (hd : decode bytes pc = .ok (.new idx, 3)) (hc : cells + 1 ≤ R.cells) (hl : slots + n ≤ R.slots)
    (k : ∀ T' h' a, Cx p l e R s m args below meth c Z own nm bytes maxL rt T' locs (cells + 1) (slots + n) h' → Ext h h' → h.size = a → Exa Z h' a C → (∀ {O nm d : String} {ty : FieldType}, Laid Z a0 C O nm d → parseFieldDescriptor d = some ty → Fld Z h' a O nm d (defaultValue ty)) → Go p e below En T' m pc' Ls (.ref a :: st)) (hp : pc + 3 = pc' := by rfl) : Go p e below En T m pc Ls st := by
  subst hp
  obtain ⟨T', h', X', e', E, A, D, -, st'⟩ := RoadKit.newO X.sd X.hx X.hZ X.hown w wi wz X.eq (g := mkF m pc Ls st) rfl (hb X.hby hd) hc hl
  exact Go.step st' (k T' h' _ (X.mk' X' e' X.fr (Ext.tr X.old E)) E rfl A D)
theorem Go.initO (X : Cx p l e R s m args below meth c Z own nm bytes maxL rt T locs cells slots h) (pc' : Nat) {idx : Nat} {a : Addr} (w1 : (Jvm.Cond.methodLink own idx Lib.objectInit).before a0 Z = true) (w2 : (Jvm.Cond.instanceMethod Lib.objectInit).before a0 Z = true) (w3 : (Jvm.Cond.code Lib.objectInit ⟨#[0xb1]⟩ 1 none).before a0 Z = true) (W : Nat) (hd : decode bytes pc = .ok (.invokespecial idx, 3)) (hsz : Ls.size = maxL) (hf : 1 ≤ R.frames) (hW : (st.map fun v => v.category).sum ≤ W) (hl : W + 12 ≤ R.locals)
    (k : ∀ T', Cx p l e R s m args below meth c Z own nm bytes maxL rt T' locs cells slots h → Go p e below En T' m pc' Ls st) (hp : pc + 3 = pc' := by rfl) : Go p e below En T m pc Ls (.ref a :: st) := by
  subst hp
  obtain ⟨T', X', e', st'⟩ := RoadKit.initO X.sd X.hx X.hZ X.hown w1 w2 w3 X.eq (g := mkF m pc Ls (.ref a :: st)) rfl (hsz.trans X.hml.symm) rfl (hb X.hby hd) hf (W := W) (by simpa using hW) hl
  exact Go.step st' (k T' (X.mk' X' e' X.fr X.old))
theorem Go.newP (X : Cx p l e R s m args below meth c Z own nm bytes maxL rt T locs cells slots h) (pc' : Nat) {aty : ArrayType} {n : Int32} (w : (Jvm.Cond.arrayClass (newarray.typeOf aty)).before a0 Z = true) (hd : decode bytes pc = .ok (.newarray aty, 2)) (cap : Nat) (hn : ¬ n < 0) (hcap : n.toNatClampNeg ≤ cap) (hb' : cap * 8 ≤ 536870912) (hc : cells + 1 ≤ R.cells) (hl : slots + cap ≤ R.slots)
    (k : ∀ T' h' a kA, Cx p l e R s m args below meth c Z own nm bytes maxL rt T' locs (cells + 1) (slots + cap) h' → Ext h h' → h.size = a → Arv Z h' a kA (newarray.typeOf aty) n [] (defaultValue (newarray.typeOf aty)) → Go p e below En T' m pc' Ls (.ref a :: st)) (hp : pc + 2 = pc' := by rfl) : Go p e below En T m pc Ls (.int n :: st) := by
  subst hp
  obtain ⟨T', h', kA, X', e', E, A, st'⟩ := RoadKit.newP X.sd X.hx X.hZ w X.eq (g := mkF m pc Ls (.int n :: st)) rfl (hb X.hby hd) rfl hn hcap hb' hc hl
  exact Go.step st' (k T' h' _ kA (X.mk' X' e' X.fr (Ext.tr X.old E)) E rfl (Arv.new A hn))
theorem Go.newR (X : Cx p l e R s m args below meth c Z own nm bytes maxL rt T locs cells slots h) (pc' : Nat) {D : String} {idx : Nat} {n : Int32} (w1 : (Jvm.Cond.classLink own idx D).before a0 Z = true) (w2 : (Jvm.Cond.arrayOver (.object D)).before a0 Z = true) (hd : decode bytes pc = .ok (.anewarray idx, 3)) (cap : Nat) (hn : ¬ n < 0) (hcap : n.toNatClampNeg ≤ cap) (hb' : cap * 8 ≤ 536870912) (hc : cells + 1 ≤ R.cells) (hl : slots + cap ≤ R.slots)
    (k : ∀ T' h' a kA, Cx p l e R s m args below meth c Z own nm bytes maxL rt T' locs (cells + 1) (slots + cap) h' → Ext h h' → h.size = a → Ovr Z kA D → Arv Z h' a kA (.object D) n [] .null → Go p e below En T' m pc' Ls (.ref a :: st)) (hp : pc + 3 = pc' := by rfl) : Go p e below En T m pc Ls (.int n :: st) := by
  subst hp
  obtain ⟨T', h', kA, X', e', E, A, O, st'⟩ := RoadKit.newR X.sd X.hx X.hZ X.hown w1 w2 X.eq (g := mkF m pc Ls (.int n :: st)) rfl (hb X.hby hd) rfl hn hcap hb' hc hl
  exact Go.step st' (k T' h' _ kA (X.mk' X' e' X.fr (Ext.tr X.old E)) E rfl O (Arv.new A hn))
theorem Go.stC (X : Cx p l e R s m args below meth c Z own nm bytes maxL rt T locs cells slots h) (pc' : Nat) {a : Addr} {kA : ClassId} {n j x : Int32} {vs : List Value} {d : Value} (V : Arv Z h a kA .char n vs d) (hd : decode bytes pc = .ok (.castore, 1)) (hj : ¬ j < 0 ∧ j < n) (i : Nat) (hi : j.toNatClampNeg = i) (hlt : i < vs.length) (ha : Z.heap.size ≤ a)
    (k : ∀ T' h', Cx p l e R s m args below meth c Z own nm bytes maxL rt T' (locs ++ [⟨a, j.toNatClampNeg⟩]) cells slots h' → Wr h h' a j.toNatClampNeg (.int (nar .char x)) → Arv Z h' a kA .char n (vs.set i (.int (nar .char x))) d → Go p e below En T' m pc' Ls st) (hp : pc + 1 = pc' := by rfl) : Go p e below En T m pc Ls (.int x :: .int j :: .ref a :: st) := by
  subst hp
  obtain ⟨cl, A, q1, S, q3, H, G⟩ := V
  obtain ⟨T', h', X', e', W, st'⟩ := RoadKit.stC X.sd X.hx X.hZ X.eq A (inb_of S hj) (g := mkF m pc Ls (.int x :: .int j :: .ref a :: st)) rfl rfl (hb X.hby hd)
  exact Go.step st' (k T' h' (X.mk' X' e' (Fr.snoc X' X.fr ha) (Ext.wr X.old W ha)) W (Arv.set A q1 S q3 H G (fits_nar_char x) W i hi hlt))
theorem Go.stB (X : Cx p l e R s m args below meth c Z own nm bytes maxL rt T locs cells slots h) (pc' : Nat) {a : Addr} {kA : ClassId} {n j x : Int32} {vs : List Value} {d : Value} (V : Arv Z h a kA .byte n vs d) (hd : decode bytes pc = .ok (.bastore, 1)) (hj : ¬ j < 0 ∧ j < n) (i : Nat) (hi : j.toNatClampNeg = i) (hlt : i < vs.length) (ha : Z.heap.size ≤ a)
    (k : ∀ T' h', Cx p l e R s m args below meth c Z own nm bytes maxL rt T' (locs ++ [⟨a, j.toNatClampNeg⟩]) cells slots h' → Wr h h' a j.toNatClampNeg (.int (nar .byte x)) → Arv Z h' a kA .byte n (vs.set i (.int (nar .byte x))) d → Go p e below En T' m pc' Ls st) (hp : pc + 1 = pc' := by rfl) : Go p e below En T m pc Ls (.int x :: .int j :: .ref a :: st) := by
  subst hp
  obtain ⟨cl, A, q1, S, q3, H, G⟩ := V
  obtain ⟨T', h', X', e', W, st'⟩ := RoadKit.stB X.sd X.hx X.hZ X.eq A (inb_of S hj) (g := mkF m pc Ls (.int x :: .int j :: .ref a :: st)) rfl rfl (hb X.hby hd)
  exact Go.step st' (k T' h' (X.mk' X' e' (Fr.snoc X' X.fr ha) (Ext.wr X.old W ha)) W (Arv.set A q1 S q3 H G (fits_nar_byte x) W i hi hlt))
theorem Go.stR (X : Cx p l e R s m args below meth c Z own nm bytes maxL rt T locs cells slots h) (pc' : Nat) {a y : Addr} {kA : ClassId} {D : String} {n j : Int32} {vs : List Value} {d : Value} (V : Arv Z h a kA (.object D) n vs d) (O : Ovr Z kA D) (I : Ins Z h y D true) (hd : decode bytes pc = .ok (.aastore, 1)) (hj : ¬ j < 0 ∧ j < n) (i : Nat) (hi : j.toNatClampNeg = i) (hlt : i < vs.length) (ha : Z.heap.size ≤ a)
    (k : ∀ T' h', Cx p l e R s m args below meth c Z own nm bytes maxL rt T' (locs ++ [⟨a, j.toNatClampNeg⟩]) cells slots h' → Wr h h' a j.toNatClampNeg (.ref y) → Arv Z h' a kA (.object D) n (vs.set i (.ref y)) d → Go p e below En T' m pc' Ls st) (hp : pc + 1 = pc' := by rfl) : Go p e below En T m pc Ls (.ref y :: .int j :: .ref a :: st) := by
  subst hp
  obtain ⟨cl, A, q1, S, q3, H, G⟩ := V
  obtain ⟨T', h', X', e', W, st'⟩ := RoadKit.stR X.sd X.hx X.hZ X.eq A (inb_of S hj) rfl (Sto.ofV A q1 O I) (g := mkF m pc Ls (.ref y :: .int j :: .ref a :: st)) rfl rfl (hb X.hby hd)
  exact Go.step st' (k T' h' (X.mk' X' e' (Fr.snoc X' X.fr ha) (Ext.wr X.old W ha)) W (Arv.set A q1 S q3 H G rfl W i hi hlt))
theorem Go.alen (X : Cx p l e R s m args below meth c Z own nm bytes maxL rt T locs cells slots h) (pc' : Nat) {a : Addr} {kA : ClassId} {ty : FieldType} {n : Int32} {vs : List Value} {d : Value} (V : Arv Z h a kA ty n vs d) (hd : decode bytes pc = .ok (.arraylength, 1)) (k : Go p e below En T m pc' Ls (.int n :: st)) (hp : pc + 1 = pc' := by rfl) : Go p e below En T m pc Ls (.ref a :: st) := by
  subst hp
  obtain ⟨cl, A, q1, S, q3, H, G⟩ := V
  refine Go.step (fun _ hr => X.sd.arraylength X.hx (by rw [X.eq]; exact A.1) (State.isArrayOf_alike X.hZ.alike A.2.1) (g := mkF m pc Ls (.ref a :: st)) rfl rfl (hb X.hby hd) _ hr) ?_
  rw [len_of S q3]; exact k
theorem Go.caload (X : Cx p l e R s m args below meth c Z own nm bytes maxL rt T locs cells slots h) (pc' : Nat) {a : Addr} {kA : ClassId} {n j : Int32} {vs : List Value} {d v : Value} (V : Arv Z h a kA .char n vs d) (hd : decode bytes pc = .ok (.caload, 1)) (hj : ¬ j < 0 ∧ j < n) (u : vs.getD j.toNatClampNeg d = v) (k : Go p e below En T m pc' Ls (v :: st)) (hp : pc + 1 = pc' := by rfl) : Go p e below En T m pc Ls (.int j :: .ref a :: st) := by
  subst hp
  obtain ⟨cl, A, q1, S, q3, H, G⟩ := V
  exact Go.step (fun _ hr => X.sd.caload X.hx (by rw [X.eq]; exact A.1) (State.isArrayOf_alike X.hZ.alike A.2.1) A.2.2 (inb_of S hj) (H.at (inb_of S hj) u) (g := mkF m pc Ls (.int j :: .ref a :: st)) rfl rfl (hb X.hby hd) _ hr) k
theorem Go.baload (X : Cx p l e R s m args below meth c Z own nm bytes maxL rt T locs cells slots h) (pc' : Nat) {a : Addr} {kA : ClassId} {n j : Int32} {vs : List Value} {d v : Value} (V : Arv Z h a kA .byte n vs d) (hd : decode bytes pc = .ok (.baload, 1)) (hj : ¬ j < 0 ∧ j < n) (u : vs.getD j.toNatClampNeg d = v) (k : Go p e below En T m pc' Ls (v :: st)) (hp : pc + 1 = pc' := by rfl) : Go p e below En T m pc Ls (.int j :: .ref a :: st) := by
  subst hp
  obtain ⟨cl, A, q1, S, q3, H, G⟩ := V
  exact Go.step (fun _ hr => X.sd.baloadBytes X.hx (by rw [X.eq]; exact A.1) (State.isArrayOf_alike X.hZ.alike A.2.1) A.2.2 (inb_of S hj) (H.at (inb_of S hj) u) (g := mkF m pc Ls (.int j :: .ref a :: st)) rfl rfl (hb X.hby hd) _ hr) k
theorem Go.aaload (X : Cx p l e R s m args below meth c Z own nm bytes maxL rt T locs cells slots h) (pc' : Nat) {a : Addr} {kA : ClassId} {ty : FieldType} {n j : Int32} {vs : List Value} {d v : Value} (V : Arv Z h a kA ty n vs d) (hty : ty.isReference = true) (hd : decode bytes pc = .ok (.aaload, 1)) (hj : ¬ j < 0 ∧ j < n) (u : vs.getD j.toNatClampNeg d = v) (k : Go p e below En T m pc' Ls (v :: st)) (hp : pc + 1 = pc' := by rfl) : Go p e below En T m pc Ls (.int j :: .ref a :: st) := by
  subst hp
  obtain ⟨cl, A, q1, S, q3, H, G⟩ := V
  exact Go.step (fun _ hr => X.sd.aaload X.hx (by rw [X.eq]; exact A.1) (State.isArrayOf_alike X.hZ.alike A.2.1) hty A.2.2 (inb_of S hj) (H.at (inb_of S hj) u) (g := mkF m pc Ls (.int j :: .ref a :: st)) rfl rfl (hb X.hby hd) _ hr) k
theorem Go.castY (X : Cx p l e R s m args below meth c Z own nm bytes maxL rt T locs cells slots h) (pc' : Nat) {K : String} {idx : Nat} {a : Addr} (w : (Jvm.Cond.classLink own idx K).before a0 Z = true) (F : Ins Z h a K true) (hd : decode bytes pc = .ok (.checkcast idx, 3)) (k : ∀ T', Cx p l e R s m args below meth c Z own nm bytes maxL rt T' locs cells slots h → Go p e below En T' m pc' Ls (.ref a :: st)) (hp : pc + 3 = pc' := by rfl) : Go p e below En T m pc Ls (.ref a :: st) := by
  subst hp
  obtain ⟨T', X', e', st'⟩ := RoadKit.castY X.sd X.hx X.hZ X.hown w X.eq F (g := mkF m pc Ls (.ref a :: st)) rfl rfl (hb X.hby hd)
  exact Go.step st' (k T' (X.mk' X' e' X.fr X.old))
theorem Go.instY (X : Cx p l e R s m args below meth c Z own nm bytes maxL rt T locs cells slots h) (pc' : Nat) {K : String} {idx : Nat} {a : Addr} (w : (Jvm.Cond.classLink own idx K).before a0 Z = true) (F : Ins Z h a K true) (hd : decode bytes pc = .ok (.instanceof idx, 3)) (k : ∀ T', Cx p l e R s m args below meth c Z own nm bytes maxL rt T' locs cells slots h → Go p e below En T' m pc' Ls (.int 1 :: st)) (hp : pc + 3 = pc' := by rfl) : Go p e below En T m pc Ls (.ref a :: st) := by
  subst hp
  obtain ⟨T', X', e', st'⟩ := RoadKit.instY X.sd X.hx X.hZ X.hown w X.eq F (g := mkF m pc Ls (.ref a :: st)) rfl rfl (hb X.hby hd)
  exact Go.step st' (k T' (X.mk' X' e' X.fr X.old))
theorem Go.instNo (X : Cx p l e R s m args below meth c Z own nm bytes maxL rt T locs cells slots h) (pc' : Nat) {K D : String} {idx : Nat} {a : Addr} (w : (Jvm.Cond.classLink own idx K).before a0 Z = true) (E : Exa Z h a D) (F : ∃ c t, Z.vm.findClass D = some c ∧ Z.vm.findClass K = some t ∧ Z.vm.assignable c t = false) (hd : decode bytes pc = .ok (.instanceof idx, 3)) (k : ∀ T', Cx p l e R s m args below meth c Z own nm bytes maxL rt T' locs cells slots h → Go p e below En T' m pc' Ls (.int 0 :: st)) (hp : pc + 3 = pc' := by rfl) : Go p e below En T m pc Ls (.ref a :: st) := by
  subst hp
  obtain ⟨T', X', e', st'⟩ := RoadKit.instNo X.sd X.hx X.hZ X.hown w X.eq E F (g := mkF m pc Ls (.ref a :: st)) rfl rfl (hb X.hby hd)
  exact Go.step st' (k T' (X.mk' X' e' X.fr X.old))
theorem Go.instNull (X : Cx p l e R s m args below meth c Z own nm bytes maxL rt T locs cells slots h) (pc' : Nat) {idx : Nat} (hd : decode bytes pc = .ok (.instanceof idx, 3)) (k : Go p e below En T m pc' Ls (.int 0 :: st)) (hp : pc + 3 = pc' := by rfl) : Go p e below En T m pc Ls (.null :: st) := by
  subst hp
  exact Go.step (Jvm.Stand.instanceofNull X.sd X.hx (g := mkF m pc Ls (.null :: st)) rfl rfl (hb X.hby hd)) k
theorem own_noSub {C S K : String} {n : Nat} (w : (Jvm.Cond.superclass C S).before a0 Z = true) (wk : (Jvm.Cond.instantiable K n).before a0 Z = true) (wr : (Jvm.Cond.noSuperclass S).before a0 Z = true) (h1 : C ≠ K) (h2 : S ≠ K) : ∃ c t, Z.vm.findClass C = some c ∧ Z.vm.findClass K = some t ∧ Z.vm.assignable c t = false := by
  obtain ⟨t, kt, g1, g2, g3, g4, -⟩ := Cond.instantiable_spec wk
  have hi : kt.isInterface = false := by rw [Bool.or_eq_false_iff] at g4; exact g4.1
  have nr : NS Z S K := by
    obtain ⟨c, k, r1, r2, r3, -, -⟩ := Cond.noSuperclass_spec wr
    refine ⟨c, t, r1, g1, fun fuel => ?_⟩
    have ne := ids_ne r1 g1 h2
    cases fuel with
    | zero => rfl
    | succ f => simp [Vm.isSubclassAux, ne, r2, r3]
  obtain ⟨c, t', h0, g0, n3⟩ := NS.step w nr h1
  cases g1.symm.trans g0
  obtain ⟨p, k, kp, -, k2, -, -, k5, -, -⟩ := Cond.superclass_spec h0 w
  have ne := ids_ne h0 g1 h1
  refine ⟨c, t, h0, g1, ?_⟩
  show Z.vm.assignableAux (255 + 1) c t = false
  simp [Vm.assignableAux, ne, k2, g2, k5, g3, hi, Vm.isSubclass, n3]
theorem Go.mono {En' : Option Value → State → Prop} (f : ∀ v t, En' v t → En v t) (k : Go p e below En' T m pc Ls st) : Go p e below En T m pc Ls st := by
  obtain ⟨s₂, v, k1, k2, k3, k4⟩ := k
  exact ⟨s₂, v, k1, k2, k3, f _ _ k4⟩
theorem Cx.back (X : Cx p l e R s m args below meth c Z own nm bytes maxL rt T locs cells slots h) {y : MethodName} {by' : ByteArray} {ml' : Nat} {rt' : Option FieldType} {rm : Room} {as' : Array Value} {Q' : Option Value → Heap → Prop} {len W : Nat} (ct : Ct l Z [] y by' ml' rt' rm as' h Q') (wc : (Jvm.Cond.code y by' ml' rt').before a0 Z = true) (wz : (Jvm.Cond.initialized y.cls).before a0 Z = true) (hf : rm.frames + 1 ≤ R.frames) (hl : W + (ml' + 11) + rm.locals ≤ R.locals) :
    Back l R p e below s args y len W (fun A a => a = as' ∧ A.U.heap = h ∧ A.cells + rm.cells ≤ R.cells ∧ A.slots + rm.slots ≤ R.slots) (fun A _ v B => ∃ L, (Fr Z.heap.size L ∧ Ext Z.heap B.U.heap ∧ Q' v B.U.heap) ∧ B.locs = A.locs ++ L ∧ B.cells = A.cells + rm.cells ∧ B.slots = A.slots + rm.slots) :=
  backOf (Q := fun v hh L => Fr Z.heap.size L ∧ Ext Z.heap hh ∧ Q' v hh) (ct X.old) X.hZ wc wz hf hl
theorem Go.callS (X : Cx p l e R s m args below meth c Z own nm bytes maxL rt T locs cells slots h) (pc' : Nat) {idx : Nat} {y : MethodName} {by' : ByteArray} {ml' : Nat} {rt' : Option FieldType} {rm : Room} {ps : List FieldType} {rr : Option FieldType} {Q' : Option Value → Heap → Prop} (argsL rest : List Value) (W : Nat) (wl : (Jvm.Cond.methodLink own idx y).before a0 Z = true) (ws : (Jvm.Cond.static y).before a0 Z = true) (wz : (Jvm.Cond.initialized y.cls).before a0 Z = true) (hy : y.cls ≠ "java/lang/invoke/MethodHandle" ∧ y.cls ≠ "java/lang/invoke/VarHandle") (wc : (Jvm.Cond.code y by' ml' rt').before a0 Z = true) (pd : parseMethodDescriptor y.desc = some ⟨ps, rr⟩) (hd : decode bytes pc = .ok (.invokestatic idx, 3)) (ct : Ct l Z [] y by' ml' rt' rm (argsL.toArray) h Q') (hlen : argsL.length = ps.length) (hst : st = argsL.reverse ++ rest) (hsz : Ls.size = maxL) (hW : (rest.map fun v => v.category).sum ≤ W) (hf : rm.frames + 1 ≤ R.frames) (hl : W + (ml' + 11) + rm.locals ≤ R.locals) (hce : cells + rm.cells ≤ R.cells) (hsl : slots + rm.slots ≤ R.slots)
    (k : ∀ T' v L, Cx p l e R s m args below meth c Z own nm bytes maxL rt T' (locs ++ L) (cells + rm.cells) (slots + rm.slots) T'.heap → Q' v T'.heap → Go p e below En T' m pc' Ls (v.toList ++ rest)) (hp : pc + 3 = pc' := by rfl) : Go p e below En T m pc Ls st := by
  subst hp
  obtain ⟨v, _, ⟨T', L', k', n'⟩, -, X', ⟨L, hq, e1, e2, e3⟩, st'⟩ := Jvm.LawKit.callS X.sd X.hx (y := y) X.hown (mvT X.hZ wl) (mvT X.hZ ws) (mvT X.hZ wz) (mvT X.hZ wc) hy (X.back (W := W) ct wc wz hf hl) (g := mkF m pc Ls st) rfl (hsz.trans X.hml.symm) (argsL := argsL) (rest := rest) (lenOf pd hlen) hst (by simpa using hW) (hb X.hby hd) (fun _ _ => ⟨rfl, X.eq, hce, hsl⟩)
  dsimp only [Pt.U, Pt.locs, Pt.cells, Pt.slots] at X' e1 e2 e3 st' hq
  subst e1 e2 e3
  exact Go.step st' (k T' v L (X.mk' X' rfl (X.fr.app hq.1) hq.2.1) hq.2.2)
theorem Go.callSP (X : Cx p l e R s m args below meth c Z own nm bytes maxL rt T locs cells slots h) (pc' : Nat) {idx : Nat} {y : MethodName} {by' : ByteArray} {ml' : Nat} {rt' : Option FieldType} {rm : Room} {ps : List FieldType} {rr : Option FieldType} {v : Value} (argsL rest : List Value) (W : Nat) (wl : (Jvm.Cond.methodLink own idx y).before a0 Z = true) (ws : (Jvm.Cond.static y).before a0 Z = true) (wz : (Jvm.Cond.initialized y.cls).before a0 Z = true) (hy : y.cls ≠ "java/lang/invoke/MethodHandle" ∧ y.cls ≠ "java/lang/invoke/VarHandle") (wc : (Jvm.Cond.code y by' ml' rt').before a0 Z = true) (pd : parseMethodDescriptor y.desc = some ⟨ps, rr⟩) (hd : decode bytes pc = .ok (.invokestatic idx, 3)) (ct : Ct l Z [] y by' ml' rt' rm (argsL.toArray) h (Pu h v)) (hlen : argsL.length = ps.length) (hst : st = argsL.reverse ++ rest) (hsz : Ls.size = maxL) (hW : (rest.map fun v => v.category).sum ≤ W) (hf : rm.frames + 1 ≤ R.frames) (hl : W + (ml' + 11) + rm.locals ≤ R.locals) (hce : cells + rm.cells ≤ R.cells) (hsl : slots + rm.slots ≤ R.slots)
    (k : ∀ T' L, Cx p l e R s m args below meth c Z own nm bytes maxL rt T' (locs ++ L) (cells + rm.cells) (slots + rm.slots) h → Go p e below En T' m pc' Ls (v :: rest)) (hp : pc + 3 = pc' := by rfl) : Go p e below En T m pc Ls st :=
  Go.callS X pc' argsL rest W wl ws wz hy wc pd hd ct hlen hst hsz hW hf hl hce hsl (fun T' v' L X' q => by
    obtain ⟨rfl, q2⟩ := q
    rw [q2] at X'
    exact k T' L X') hp
theorem Go.callI (X : Cx p l e R s m args below meth c Z own nm bytes maxL rt T locs cells slots h) (pc' : Nat) {idx : Nat} {y : MethodName} {by' : ByteArray} {ml' : Nat} {rt' : Option FieldType} {rm : Room} {ps : List FieldType} {rr : Option FieldType} {a : Addr} {Q' : Option Value → Heap → Prop} (argsL rest : List Value) (W : Nat) (hy1 : y.name = "<init>") (wl : (Jvm.Cond.methodLink own idx y).before a0 Z = true) (wm : (Jvm.Cond.instanceMethod y).before a0 Z = true) (wz : (Jvm.Cond.initialized y.cls).before a0 Z = true) (hy : y.cls ≠ "java/lang/invoke/MethodHandle" ∧ y.cls ≠ "java/lang/invoke/VarHandle") (hrn : rt' = none) (wc : (Jvm.Cond.code y by' ml' rt').before a0 Z = true) (pd : parseMethodDescriptor y.desc = some ⟨ps, rr⟩) (hd : decode bytes pc = .ok (.invokespecial idx, 3)) (ct : Ct l Z [] y by' ml' rt' rm ((Value.ref a :: argsL).toArray) h Q') (hlen : argsL.length = ps.length) (hst : st = argsL.reverse ++ .ref a :: rest) (hsz : Ls.size = maxL) (hW : (rest.map fun v => v.category).sum ≤ W) (hf : rm.frames + 1 ≤ R.frames) (hl : W + (ml' + 11) + rm.locals ≤ R.locals) (hce : cells + rm.cells ≤ R.cells) (hsl : slots + rm.slots ≤ R.slots)
    (k : ∀ T' v L, Cx p l e R s m args below meth c Z own nm bytes maxL rt T' (locs ++ L) (cells + rm.cells) (slots + rm.slots) T'.heap → Q' v T'.heap → Go p e below En T' m pc' Ls (v.toList ++ rest)) (hp : pc + 3 = pc' := by rfl) : Go p e below En T m pc Ls st := by
  subst hp
  subst hrn
  obtain ⟨v, _, ⟨T', L', k', n'⟩, -, X', ⟨L, hq, e1, e2, e3⟩, st'⟩ := X.sd.specialBack X.hx (y := y) hy1 X.hown (mvT X.hZ wl) (mvT X.hZ wm) (mvT X.hZ wc) hy (X.back (W := W) ct wc wz hf hl) (g := mkF m pc Ls st) rfl (hsz.trans X.hml.symm) (Steps.refl _) (a := a) (argsL := argsL) (rest := rest) (lenOf pd hlen) hst (by simpa using hW) (hb X.hby hd) (fun _ _ => ⟨rfl, X.eq, hce, hsl⟩)
  dsimp only [Pt.U, Pt.locs, Pt.cells, Pt.slots] at X' e1 e2 e3 st' hq
  subst e1 e2 e3
  exact Go.step (fun _ hr => Steps.trans st' hr) (k T' v L (X.mk' X' rfl (X.fr.app hq.1) hq.2.1) hq.2.2)
theorem Go.callIP (X : Cx p l e R s m args below meth c Z own nm bytes maxL rt T locs cells slots h) (pc' : Nat) {idx : Nat} {y : MethodName} {by' : ByteArray} {ml' : Nat} {rt' : Option FieldType} {rm : Room} {ps : List FieldType} {rr : Option FieldType} {a : Addr} {v : Value} (argsL rest : List Value) (W : Nat) (hy1 : y.name = "<init>") (wl : (Jvm.Cond.methodLink own idx y).before a0 Z = true) (wm : (Jvm.Cond.instanceMethod y).before a0 Z = true) (wz : (Jvm.Cond.initialized y.cls).before a0 Z = true) (hy : y.cls ≠ "java/lang/invoke/MethodHandle" ∧ y.cls ≠ "java/lang/invoke/VarHandle") (hrn : rt' = none) (wc : (Jvm.Cond.code y by' ml' rt').before a0 Z = true) (pd : parseMethodDescriptor y.desc = some ⟨ps, rr⟩) (hd : decode bytes pc = .ok (.invokespecial idx, 3)) (ct : Ct l Z [] y by' ml' rt' rm ((Value.ref a :: argsL).toArray) h (Pu h v)) (hlen : argsL.length = ps.length) (hst : st = argsL.reverse ++ .ref a :: rest) (hsz : Ls.size = maxL) (hW : (rest.map fun v => v.category).sum ≤ W) (hf : rm.frames + 1 ≤ R.frames) (hl : W + (ml' + 11) + rm.locals ≤ R.locals) (hce : cells + rm.cells ≤ R.cells) (hsl : slots + rm.slots ≤ R.slots)
    (k : ∀ T' L, Cx p l e R s m args below meth c Z own nm bytes maxL rt T' (locs ++ L) (cells + rm.cells) (slots + rm.slots) h → Go p e below En T' m pc' Ls (v :: rest)) (hp : pc + 3 = pc' := by rfl) : Go p e below En T m pc Ls st :=
  Go.callI X pc' argsL rest W hy1 wl wm wz hy hrn wc pd hd ct hlen hst hsz hW hf hl hce hsl (fun T' v' L X' q => by
    obtain ⟨rfl, q2⟩ := q
    rw [q2] at X'
    exact k T' L X') hp
theorem Go.callV (X : Cx p l e R s m args below meth c Z own nm bytes maxL rt T locs cells slots h) (pc' : Nat) {idx : Nat} {y z : MethodName} {C : String} {by' : ByteArray} {ml' : Nat} {rt' : Option FieldType} {rm : Room} {ps : List FieldType} {rr : Option FieldType} {a : Addr} {Q' : Option Value → Heap → Prop} (argsL rest : List Value) (W : Nat) (wl : (Jvm.Cond.methodLink own idx y).before a0 Z = true) (wd : (Jvm.Cond.declares y).before a0 Z = true) (wf : (Jvm.Cond.selects C y z).before a0 Z = true) (nf : NotFace s y) (wm : (Jvm.Cond.instanceMethod z).before a0 Z = true) (wz : (Jvm.Cond.initialized z.cls).before a0 Z = true) (hy : y.cls ≠ "java/lang/invoke/MethodHandle" ∧ y.cls ≠ "java/lang/invoke/VarHandle") (E : Exa Z h a C) (wc : (Jvm.Cond.code z by' ml' rt').before a0 Z = true) (pd : parseMethodDescriptor y.desc = some ⟨ps, rr⟩) (hd : decode bytes pc = .ok (.invokevirtual idx, 3)) (ct : Ct l Z [] z by' ml' rt' rm ((Value.ref a :: argsL).toArray) h Q') (hlen : argsL.length = ps.length) (hst : st = argsL.reverse ++ .ref a :: rest) (hsz : Ls.size = maxL) (hW : (rest.map fun v => v.category).sum ≤ W) (hf : rm.frames + 1 ≤ R.frames) (hl : W + (ml' + 11) + rm.locals ≤ R.locals) (hce : cells + rm.cells ≤ R.cells) (hsl : slots + rm.slots ≤ R.slots)
    (k : ∀ T' v L, Cx p l e R s m args below meth c Z own nm bytes maxL rt T' (locs ++ L) (cells + rm.cells) (slots + rm.slots) T'.heap → Q' v T'.heap → Go p e below En T' m pc' Ls (v.toList ++ rest)) (hp : pc + 3 = pc' := by rfl) : Go p e below En T m pc Ls st := by
  subst hp
  obtain ⟨cq, kq, qa, qb, qc⟩ := isOf X.hZ X.eq E
  obtain ⟨v, _, ⟨T', L', k', n'⟩, -, X', ⟨L, hq, e1, e2, e3⟩, st'⟩ := X.sd.virtualBack X.hx (y := y) (z := z) X.hown (mvT X.hZ wl) (mvT X.hZ wd) nf (mvT X.hZ wf) (mvT X.hZ wm) hy (X.back (W := W) ct wc wz hf hl) qa qc (g := mkF m pc Ls st) rfl (hsz.trans X.hml.symm) (Steps.refl _) (argsL := argsL) (rest := rest) (lenOf pd hlen) hst (by simpa using hW) (hb X.hby hd) (fun _ _ => ⟨rfl, X.eq, hce, hsl⟩)
  dsimp only [Pt.U, Pt.locs, Pt.cells, Pt.slots] at X' e1 e2 e3 st' hq
  subst e1 e2 e3
  exact Go.step (fun _ hr => Steps.trans st' hr) (k T' v L (X.mk' X' rfl (X.fr.app hq.1) hq.2.1) hq.2.2)
theorem Go.callVP (X : Cx p l e R s m args below meth c Z own nm bytes maxL rt T locs cells slots h) (pc' : Nat) {idx : Nat} {y z : MethodName} {C : String} {by' : ByteArray} {ml' : Nat} {rt' : Option FieldType} {rm : Room} {ps : List FieldType} {rr : Option FieldType} {a : Addr} {v : Value} (argsL rest : List Value) (W : Nat) (wl : (Jvm.Cond.methodLink own idx y).before a0 Z = true) (wd : (Jvm.Cond.declares y).before a0 Z = true) (wf : (Jvm.Cond.selects C y z).before a0 Z = true) (nf : NotFace s y) (wm : (Jvm.Cond.instanceMethod z).before a0 Z = true) (wz : (Jvm.Cond.initialized z.cls).before a0 Z = true) (hy : y.cls ≠ "java/lang/invoke/MethodHandle" ∧ y.cls ≠ "java/lang/invoke/VarHandle") (E : Exa Z h a C) (wc : (Jvm.Cond.code z by' ml' rt').before a0 Z = true) (pd : parseMethodDescriptor y.desc = some ⟨ps, rr⟩) (hd : decode bytes pc = .ok (.invokevirtual idx, 3)) (ct : Ct l Z [] z by' ml' rt' rm ((Value.ref a :: argsL).toArray) h (Pu h v)) (hlen : argsL.length = ps.length) (hst : st = argsL.reverse ++ .ref a :: rest) (hsz : Ls.size = maxL) (hW : (rest.map fun v => v.category).sum ≤ W) (hf : rm.frames + 1 ≤ R.frames) (hl : W + (ml' + 11) + rm.locals ≤ R.locals) (hce : cells + rm.cells ≤ R.cells) (hsl : slots + rm.slots ≤ R.slots)
    (k : ∀ T' L, Cx p l e R s m args below meth c Z own nm bytes maxL rt T' (locs ++ L) (cells + rm.cells) (slots + rm.slots) h → Go p e below En T' m pc' Ls (v :: rest)) (hp : pc + 3 = pc' := by rfl) : Go p e below En T m pc Ls st :=
  Go.callV X pc' argsL rest W wl wd wf nf wm wz hy E wc pd hd ct hlen hst hsz hW hf hl hce hsl (fun T' v' L X' q => by
    obtain ⟨rfl, q2⟩ := q
    rw [q2] at X'
    exact k T' L X') hp
theorem Go.callU (X : Cx p l e R s m args below meth c Z own nm bytes maxL rt T locs cells slots h) (pc' : Nat) {idx : Nat} {y z : MethodName} {C owner : String} {by' : ByteArray} {ml' : Nat} {rt' : Option FieldType} {rm : Room} {ps : List FieldType} {rr : Option FieldType} {a : Addr} {Q' : Option Value → Heap → Prop} (argsL rest : List Value) (W : Nat) (wl : (Jvm.Cond.methodLink own idx y).before a0 Z = true) (wsm : (Jvm.Cond.sameMethod y.cls owner y.name y.desc).before a0 Z = true) (wd : (Jvm.Cond.declares ⟨owner, y.name, y.desc⟩).before a0 Z = true) (wf : (Jvm.Cond.selects C y z).before a0 Z = true) (wm : (Jvm.Cond.instanceMethod z).before a0 Z = true) (wz : (Jvm.Cond.initialized z.cls).before a0 Z = true) (hy : owner ≠ "java/lang/invoke/MethodHandle" ∧ owner ≠ "java/lang/invoke/VarHandle") (E : Exa Z h a C) (wc : (Jvm.Cond.code z by' ml' rt').before a0 Z = true) (pd : parseMethodDescriptor y.desc = some ⟨ps, rr⟩) (hd : decode bytes pc = .ok (.invokevirtual idx, 3)) (ct : Ct l Z [] z by' ml' rt' rm ((Value.ref a :: argsL).toArray) h Q') (hlen : argsL.length = ps.length) (hst : st = argsL.reverse ++ .ref a :: rest) (hsz : Ls.size = maxL) (hW : (rest.map fun v => v.category).sum ≤ W) (hf : rm.frames + 1 ≤ R.frames) (hl : W + (ml' + 11) + rm.locals ≤ R.locals) (hce : cells + rm.cells ≤ R.cells) (hsl : slots + rm.slots ≤ R.slots)
    (k : ∀ T' v L, Cx p l e R s m args below meth c Z own nm bytes maxL rt T' (locs ++ L) (cells + rm.cells) (slots + rm.slots) T'.heap → Q' v T'.heap → Go p e below En T' m pc' Ls (v.toList ++ rest)) (hp : pc + 3 = pc' := by rfl) : Go p e below En T m pc Ls st := by
  subst hp
  obtain ⟨cq, kq, qa, qb, qc⟩ := isOf X.hZ X.eq E
  obtain ⟨v, _, ⟨T', L', k', n'⟩, -, X', ⟨L, hq, e1, e2, e3⟩, st'⟩ := X.sd.virtualBackUp X.hx (x := y) (y := z) X.hown (mvT X.hZ wl) (mvT X.hZ wsm) (mvT X.hZ wd) hy (mvT X.hZ wf) (mvT X.hZ wm) (X.back (W := W) ct wc wz hf hl) qa qc (g := mkF m pc Ls st) rfl (hsz.trans X.hml.symm) (Steps.refl _) (argsL := argsL) (rest := rest) (lenOf pd hlen) hst (by simpa using hW) (hb X.hby hd) (fun _ _ => ⟨rfl, X.eq, hce, hsl⟩)
  dsimp only [Pt.U, Pt.locs, Pt.cells, Pt.slots] at X' e1 e2 e3 st' hq
  subst e1 e2 e3
  exact Go.step (fun _ hr => Steps.trans st' hr) (k T' v L (X.mk' X' rfl (X.fr.app hq.1) hq.2.1) hq.2.2)
theorem Go.callUP (X : Cx p l e R s m args below meth c Z own nm bytes maxL rt T locs cells slots h) (pc' : Nat) {idx : Nat} {y z : MethodName} {C owner : String} {by' : ByteArray} {ml' : Nat} {rt' : Option FieldType} {rm : Room} {ps : List FieldType} {rr : Option FieldType} {a : Addr} {v : Value} (argsL rest : List Value) (W : Nat) (wl : (Jvm.Cond.methodLink own idx y).before a0 Z = true) (wsm : (Jvm.Cond.sameMethod y.cls owner y.name y.desc).before a0 Z = true) (wd : (Jvm.Cond.declares ⟨owner, y.name, y.desc⟩).before a0 Z = true) (wf : (Jvm.Cond.selects C y z).before a0 Z = true) (wm : (Jvm.Cond.instanceMethod z).before a0 Z = true) (wz : (Jvm.Cond.initialized z.cls).before a0 Z = true) (hy : owner ≠ "java/lang/invoke/MethodHandle" ∧ owner ≠ "java/lang/invoke/VarHandle") (E : Exa Z h a C) (wc : (Jvm.Cond.code z by' ml' rt').before a0 Z = true) (pd : parseMethodDescriptor y.desc = some ⟨ps, rr⟩) (hd : decode bytes pc = .ok (.invokevirtual idx, 3)) (ct : Ct l Z [] z by' ml' rt' rm ((Value.ref a :: argsL).toArray) h (Pu h v)) (hlen : argsL.length = ps.length) (hst : st = argsL.reverse ++ .ref a :: rest) (hsz : Ls.size = maxL) (hW : (rest.map fun v => v.category).sum ≤ W) (hf : rm.frames + 1 ≤ R.frames) (hl : W + (ml' + 11) + rm.locals ≤ R.locals) (hce : cells + rm.cells ≤ R.cells) (hsl : slots + rm.slots ≤ R.slots)
    (k : ∀ T' L, Cx p l e R s m args below meth c Z own nm bytes maxL rt T' (locs ++ L) (cells + rm.cells) (slots + rm.slots) h → Go p e below En T' m pc' Ls (v :: rest)) (hp : pc + 3 = pc' := by rfl) : Go p e below En T m pc Ls st :=
  Go.callU X pc' argsL rest W wl wsm wd wf wm wz hy E wc pd hd ct hlen hst hsz hW hf hl hce hsl (fun T' v' L X' q => by
    obtain ⟨rfl, q2⟩ := q
    rw [q2] at X'
    exact k T' L X') hp
theorem Cx.more {cells' slots' : Nat} (X : Cx p l e R s m args below meth c Z own nm bytes maxL rt T locs cells slots h) (q : cells ≤ cells' := by decide) (r : slots ≤ slots' := by decide) : Cx p l e R s m args below meth c Z own nm bytes maxL rt T locs cells' slots' h := X.mk' (X.sd.more q r) X.eq X.fr X.old
theorem Go.join (X : Cx p l e R s m args below meth c Z own nm bytes maxL rt T locs cells slots h) {α : Type} (P : α → Heap → Prop) (pc1 : Nat) (Ls1 : α → Array Slot) (st1 : α → List Value) (c1 s1 : Nat)
    (tail : ∀ T' locs' h' a, Cx p l e R s m args below meth c Z own nm bytes maxL rt T' locs' c1 s1 h' → P a h' → Go p e below En T' m pc1 (Ls1 a) (st1 a))
    (heads : (∀ T' locs' h' a, Cx p l e R s m args below meth c Z own nm bytes maxL rt T' locs' c1 s1 h' → P a h' → Go p e below En T' m pc1 (Ls1 a) (st1 a)) → Go p e below En T m pc Ls st) : Go p e below En T m pc Ls st := heads tail
end Kit

section Ankit
variable {p : Program} {l : Launch} {e : Env} {R : Room} {s : State} {m : MethodId} {args : Array Value} {below : List Frame} {meth : Method} {c : Code} {T : State} {locs : List Loc} {cells slots : Nat} {Z : State} {a0 : Array Value} {h h' : Heap} {own nm : String} {bytes : ByteArray} {maxL : Nat} {rt : Option FieldType} {En : Option Value → State → Prop} {pc : Nat} {Ls : Array Slot} {st : List Value}
theorem n_int {n : Nat} (hn : n < 2147483648) : (Int32.ofNat n).toInt = n := len_toInt hn
theorem n_succ (i : Nat) : Int32.ofNat i + 1 = Int32.ofNat (i + 1) := by rw [Int32.ofNat_add]; rfl
theorem n_lt {i n : Nat} (hi : i < n) (hn : n < 2147483648) : Int32.ofNat i < Int32.ofNat n := by rw [Int32.lt_iff_toInt_lt, n_int hn, n_int (by omega)]; omega
theorem n_nlt {i n : Nat} (hi : n ≤ i) (hn : i < 2147483648) : ¬ Int32.ofNat i < Int32.ofNat n := by rw [Int32.lt_iff_toInt_lt, n_int hn, n_int (by omega)]; omega
theorem n_nn {n : Nat} (hn : n < 2147483648) : ¬ Int32.ofNat n < 0 := by rw [Int32.lt_iff_toInt_lt, n_int hn]; simp
theorem n_cl {n : Nat} (hn : n < 2147483648) : (Int32.ofNat n).toNatClampNeg = n := by simp [Int32.toNatClampNeg, n_int hn]
theorem n_inj {i n : Nat} (hi : i < 2147483648) (hn : n < 2147483648) (q : Int32.ofNat i = Int32.ofNat n) : i = n := by
  have := congrArg Int32.toInt q
  rw [n_int hi, n_int hn] at this
  omega
theorem n_b (x : Int32) : x.toInt8.toInt32.toInt8.toInt32 = x.toInt8.toInt32 := by simp
theorem n_nb (x : Int32) : nar .byte x.toInt8.toInt32 = x.toInt8.toInt32 := n_b x
/-- an array of n ints (bytes, chars ..) that holds f 0, f 1, .. -/
def An (Z : State) (h : Heap) (a : Addr) (ty : FieldType) (n : Nat) (f : Nat → Int32) : Prop := n < 2147483648 ∧ ∃ k vs d, Arv Z h a k ty (Int32.ofNat n) vs d ∧ vs.length = n ∧ ∀ j, j < n → vs.getD j d = Value.int (f j)
def upd (f : Nat → Int32) (i : Nat) (x : Int32) : Nat → Int32 := fun j => if j = i then x else f j
variable {a b : Addr} {ty : FieldType} {n : Nat} {f g : Nat → Int32}
theorem An.len (A : An Z h a ty n f) : n < 2147483648 := A.1
theorem An.lt (A : An Z h a ty n f) : a < h.size := by obtain ⟨-, k, vs, d, V, -⟩ := A; exact V.lt
theorem An.ext (A : An Z h a ty n f) (E : Ext h h') : An Z h' a ty n f := by obtain ⟨q, k, vs, d, V, r⟩ := A; exact ⟨q, k, vs, d, V.ext E, r⟩
theorem An.other {i : Nat} {x : Value} (A : An Z h b ty n f) (W : Wr h h' a i x) (q : b ≠ a) : An Z h' b ty n f := by obtain ⟨q0, k, vs, d, V, r⟩ := A; exact ⟨q0, k, vs, d, V.other W q, r⟩
theorem An.keep {ws : List Addr} (A : An Z h a ty n f) (K : Keep h h' ws) (q : a ∉ ws) : An Z h' a ty n f := by obtain ⟨q0, k, vs, d, V, r⟩ := A; exact ⟨q0, k, vs, d, V.keep K q, r⟩
theorem An.congr (A : An Z h a ty n f) (q : ∀ j, j < n → f j = g j) : An Z h a ty n g := by obtain ⟨q0, k, vs, d, V, r1, r2⟩ := A; exact ⟨q0, k, vs, d, V, r1, fun j hj => by rw [r2 j hj, q j hj]⟩
theorem An.new {k : ClassId} (V : Arv Z h a k ty (Int32.ofNat n) [] (.int 0)) (hn : n < 2147483648) : An Z h a ty n (fun _ => 0) := by
  refine ⟨hn, k, List.replicate n (.int 0), .int 0, V.pad (pad_rep [] (.int 0) n), by simp, fun j hj => ?_⟩
  rw [List.getD_eq_getElem?_getD, List.getElem?_replicate]
  simp [hj]
theorem An.inb (A : An Z h a ty n f) {i : Nat} (hi : i < n) : ¬ Int32.ofNat i < 0 ∧ Int32.ofNat i < Int32.ofNat n := ⟨n_nn (Nat.lt_trans hi A.1), n_lt hi A.1⟩
theorem An.sets {k : ClassId} {vs : List Value} {d : Value} {i : Nat} {x : Int32} (V : Arv Z h a k ty (Int32.ofNat n) (vs.set i (.int x)) d) (hn : n < 2147483648) (hl : vs.length = n) (hi : i < n) (r : ∀ j, j < n → vs.getD j d = Value.int (f j)) : An Z h a ty n (upd f i x) := by
  refine ⟨hn, k, vs.set i (.int x), d, V, by simp [hl], fun j hj => ?_⟩
  unfold upd
  rw [List.getD_eq_getElem?_getD]
  by_cases q : j = i
  · subst q
    rw [List.getElem?_set_self (by omega), if_pos rfl]; rfl
  · rw [List.getElem?_set_ne (Ne.symm q), if_neg q, ← List.getD_eq_getElem?_getD]; exact r j hj
theorem Go.alenN (X : Cx p l e R s m args below meth c Z own nm bytes maxL rt T locs cells slots h) (pc' : Nat) (A : An Z h a ty n f) (hd : decode bytes pc = .ok (.arraylength, 1)) (k : Go p e below En T m pc' Ls (.int (Int32.ofNat n) :: st)) (hp : pc + 1 = pc' := by rfl) : Go p e below En T m pc Ls (.ref a :: st) := by
  obtain ⟨q, kA, vs, d, V, r1, r2⟩ := A
  exact Go.alen X pc' V hd k hp
theorem Go.caN (X : Cx p l e R s m args below meth c Z own nm bytes maxL rt T locs cells slots h) (pc' : Nat) (A : An Z h a .char n f) (i : Nat) (hi : i < n) (hd : decode bytes pc = .ok (.caload, 1)) (k : Go p e below En T m pc' Ls (.int (f i) :: st)) (hp : pc + 1 = pc' := by rfl) : Go p e below En T m pc Ls (.int (Int32.ofNat i) :: .ref a :: st) := by
  have hj := A.inb hi
  obtain ⟨q, kA, vs, d, V, r1, r2⟩ := A
  exact Go.caload X pc' V hd hj (by rw [n_cl (Nat.lt_trans hi q)]; exact r2 i hi) k hp
theorem Go.baN (X : Cx p l e R s m args below meth c Z own nm bytes maxL rt T locs cells slots h) (pc' : Nat) (A : An Z h a .byte n f) (i : Nat) (hi : i < n) (hd : decode bytes pc = .ok (.baload, 1)) (k : Go p e below En T m pc' Ls (.int (f i) :: st)) (hp : pc + 1 = pc' := by rfl) : Go p e below En T m pc Ls (.int (Int32.ofNat i) :: .ref a :: st) := by
  have hj := A.inb hi
  obtain ⟨q, kA, vs, d, V, r1, r2⟩ := A
  exact Go.baload X pc' V hd hj (by rw [n_cl (Nat.lt_trans hi q)]; exact r2 i hi) k hp
theorem Go.stCN (X : Cx p l e R s m args below meth c Z own nm bytes maxL rt T locs cells slots h) (pc' : Nat) {x : Int32} (A : An Z h a .char n f) (i : Nat) (hi : i < n) (hd : decode bytes pc = .ok (.castore, 1)) (ha : Z.heap.size ≤ a)
    (k : ∀ T' h' w, Cx p l e R s m args below meth c Z own nm bytes maxL rt T' (locs ++ [⟨a, w⟩]) cells slots h' → Wr h h' a w (.int (nar .char x)) → An Z h' a .char n (upd f i (nar .char x)) → Go p e below En T' m pc' Ls st) (hp : pc + 1 = pc' := by rfl) : Go p e below En T m pc Ls (.int x :: .int (Int32.ofNat i) :: .ref a :: st) := by
  have hj := A.inb hi
  obtain ⟨q, kA, vs, d, V, r1, r2⟩ := A
  exact Go.stC X pc' V hd hj i (n_cl (Nat.lt_trans hi q)) (by omega) ha (fun T' h' X' W V' => k T' h' _ X' W (An.sets V' q r1 hi r2)) hp
theorem Go.stBN (X : Cx p l e R s m args below meth c Z own nm bytes maxL rt T locs cells slots h) (pc' : Nat) {x : Int32} (A : An Z h a .byte n f) (i : Nat) (hi : i < n) (hd : decode bytes pc = .ok (.bastore, 1)) (ha : Z.heap.size ≤ a)
    (k : ∀ T' h' w, Cx p l e R s m args below meth c Z own nm bytes maxL rt T' (locs ++ [⟨a, w⟩]) cells slots h' → Wr h h' a w (.int (nar .byte x)) → An Z h' a .byte n (upd f i (nar .byte x)) → Go p e below En T' m pc' Ls st) (hp : pc + 1 = pc' := by rfl) : Go p e below En T m pc Ls (.int x :: .int (Int32.ofNat i) :: .ref a :: st) := by
  have hj := A.inb hi
  obtain ⟨q, kA, vs, d, V, r1, r2⟩ := A
  exact Go.stB X pc' V hd hj i (n_cl (Nat.lt_trans hi q)) (by omega) ha (fun T' h' X' W V' => k T' h' _ X' W (An.sets V' q r1 hi r2)) hp
theorem Go.newC (X : Cx p l e R s m args below meth c Z own nm bytes maxL rt T locs cells slots h) (pc' : Nat) (w : (Jvm.Cond.arrayClass .char).before a0 Z = true) (hd : decode bytes pc = .ok (.newarray .char, 2)) (cap : Nat) (hcap : n ≤ cap) (hcp : cap ≤ 67108864) (hc : cells + 1 ≤ R.cells) (hl : slots + cap ≤ R.slots)
    (k : ∀ T' h' a, Cx p l e R s m args below meth c Z own nm bytes maxL rt T' locs (cells + 1) (slots + cap) h' → Ext h h' → h.size = a → An Z h' a .char n (fun _ => 0) → Go p e below En T' m pc' Ls (.ref a :: st)) (hp : pc + 2 = pc' := by rfl) : Go p e below En T m pc Ls (.int (Int32.ofNat n) :: st) := by
  have hn : n < 2147483648 := by omega
  exact Go.newP X pc' (aty := .char) w hd cap (n_nn hn) (by rw [n_cl hn]; exact hcap) (by omega) hc hl (fun T' h' a kA X' E q V => k T' h' a X' E q (An.new V hn)) hp
theorem Go.newB (X : Cx p l e R s m args below meth c Z own nm bytes maxL rt T locs cells slots h) (pc' : Nat) (w : (Jvm.Cond.arrayClass .byte).before a0 Z = true) (hd : decode bytes pc = .ok (.newarray .byte, 2)) (cap : Nat) (hcap : n ≤ cap) (hcp : cap ≤ 67108864) (hc : cells + 1 ≤ R.cells) (hl : slots + cap ≤ R.slots)
    (k : ∀ T' h' a, Cx p l e R s m args below meth c Z own nm bytes maxL rt T' locs (cells + 1) (slots + cap) h' → Ext h h' → h.size = a → An Z h' a .byte n (fun _ => 0) → Go p e below En T' m pc' Ls (.ref a :: st)) (hp : pc + 2 = pc' := by rfl) : Go p e below En T m pc Ls (.int (Int32.ofNat n) :: st) := by
  have hn : n < 2147483648 := by omega
  exact Go.newP X pc' (aty := .byte) w hd cap (n_nn hn) (by rw [n_cl hn]; exact hcap) (by omega) hc hl (fun T' h' a kA X' E q V => k T' h' a X' E q (An.new V hn)) hp
end Ankit
section Wide
variable {p : Program} {l : Launch} {e : Env} {R : Room} {s : State} {m : MethodId} {args : Array Value} {below : List Frame} {meth : Method} {c : Code} {T : State} {locs : List Loc} {cells slots : Nat} {Z : State} {a0 : Array Value} {h h' : Heap} {own nm : String} {bytes : ByteArray} {maxL : Nat} {rt : Option FieldType} {Q : Option Value → Heap → Prop} {ce sl : Nat} {En : Option Value → State → Prop} {pc : Nat} {Ls : Array Slot} {st : List Value} {vm0 : Vm} {EL : List (String × Nat)}
/-- the tables vm0 since the start s -/
def WS (s : State) (vm0 : Vm) (h : Heap) : Prop := ∃ k0, s.Since vm0 k0 ∧ k0 ≤ h.size
theorem WS.le (q : h.size ≤ h'.size) (H : WS s vm0 h) : WS s vm0 h' := by obtain ⟨k, k1, k2⟩ := H; exact ⟨k, k1, Nat.le_trans k2 q⟩
def FinW (s Z : State) (EL : List (String × Nat)) (Q : Option Value → Heap → Prop) (ce sl : Nat) : Option Value → State → Prop := fun v t => ∃ L, (Fr Z.heap.size L ∧ Ext Z.heap t.heap ∧ Q v t.heap) ∧ CHr Z EL s.vm s.heap t.vm t.heap ∧ ReturnedEndW s (.returned v) t L ce sl
def FinL (s Z : State) (Q : Option Value → Heap → Prop) (ce sl : Nat) : Option Value → State → Prop := fun v t => ∃ L, (Fr Z.heap.size L ∧ Ext Z.heap t.heap ∧ Q v t.heap) ∧ ReturnedEndW s (.returned v) t L ce sl
def CtW (l : Launch) (Z : State) (EL : List (String × Nat)) (ws : List Jvm.Cond) (y : MethodName) (bytes : ByteArray) (maxL : Nat) (rt : Option FieldType) (rm : Room) (as' : Array Value) (h : Heap) (Q : Option Value → Heap → Prop) : Prop :=
  Ext Z.heap h → MetFree l y (head1 (Jvm.Cond.code y bytes maxL rt :: ws) rm) (fun a U => a = as' ∧ Z.Warmed39 U.vm ∧ U.heap = h ∧ CHv Z EL U.vm h) (fun _ _ _ _ _ => True) (fun _ U o U' => ∃ v L, o = .returned v ∧ (Fr Z.heap.size L ∧ Ext Z.heap U'.heap ∧ Q v U'.heap) ∧ CHr Z EL U.vm U.heap U'.vm U'.heap ∧ ReturnedEndW U o U' L rm.cells rm.slots)
/-- the law's own contract: at its start the constants' words hold -/
def CtL (l : Launch) (Z : State) (EL : List (String × Nat)) (ws : List Jvm.Cond) (y : MethodName) (bytes : ByteArray) (maxL : Nat) (rt : Option FieldType) (rm : Room) (as' : Array Value) (h : Heap) (Q : Option Value → Heap → Prop) : Prop :=
  Ext Z.heap h → MetFree l y (head1 (Jvm.Cond.code y bytes maxL rt :: ws) rm) (fun a U => a = as' ∧ Z.Warmed39 U.vm ∧ U.heap = h ∧ CHv Z EL U.vm h) (fun _ _ _ _ _ => True) (fun _ U o U' => ∃ v L, o = .returned v ∧ (Fr Z.heap.size L ∧ Ext Z.heap U'.heap ∧ Q v U'.heap) ∧ ReturnedEndW U o U' L rm.cells rm.slots)
theorem CtW.of {y : MethodName} {ws : List Jvm.Cond} {rm : Room} {as' : Array Value} {Ls0 : Array Slot} (pn : plainName y.cls = true) (ef : ∀ m, entryFrame m as' maxL = mkF m 0 Ls0 [])
    (body : ∀ p e s m below meth c s₁, Cx p l e rm (s.setVm s.vm) m as' below meth c Z y.cls y.name bytes maxL rt s₁ [] 0 0 h → WS s s.vm h → CHr Z EL s.vm s.heap s.vm h → Go p e below (FinW s Z EL Q rm.cells rm.slots) s₁ m 0 Ls0 []) : CtW l Z EL ws y bytes maxL rt rm as' h Q := by
  intro hE
  refine MetFree.of_bodySF (plainFor_of_name pn) hisR ?_
  intro p e s m args below meth c s₁ Bd hml0 hP hK
  obtain ⟨rfl, hZ, hh, hC⟩ := hP
  have hown : s.vm.findClass y.cls = some m.cls := findClass_of_methodNamed Bd.named
  have hnm := (name_of_methodNamed Bd.named Bd.method).1
  have X0 : Stand p l e rm s m args below meth c s₁ [] 0 0 := Stand.of_body Bd
  have e0 : s₁.heap = h := by rw [← hh, Bd.state]; rfl
  obtain ⟨s₂, v, k1, k2, k3, L, k5, k6, k7⟩ := body p e s m below meth c s₁ ⟨X0, Bd.exec, hZ, hown, Bd.bytes, hml0, Bd.returns, hnm, Bd.notSynchronized, e0, Fr.nil _, hE⟩ ⟨0, (State.WarmedH.refl s).since 0, Nat.zero_le _⟩ (by rw [hh]; exact CHr.refl hC)
  exact ⟨s₂, _, castTop (ef m) k1, k2, k3, v, L, rfl, k5, k6, k7⟩
theorem CtL.of {y : MethodName} {ws : List Jvm.Cond} {rm : Room} {as' : Array Value} {Ls0 : Array Slot} (pn : plainName y.cls = true) (ef : ∀ m, entryFrame m as' maxL = mkF m 0 Ls0 [])
    (body : ∀ p e s m below meth c s₁, Cx p l e rm (s.setVm s.vm) m as' below meth c Z y.cls y.name bytes maxL rt s₁ [] 0 0 h → WS s s.vm h → CHv Z EL s.vm h → Go p e below (FinL s Z Q rm.cells rm.slots) s₁ m 0 Ls0 []) : CtL l Z EL ws y bytes maxL rt rm as' h Q := by
  intro hE
  refine MetFree.of_bodySF (plainFor_of_name pn) hisR ?_
  intro p e s m args below meth c s₁ Bd hml0 hP hK
  obtain ⟨rfl, hZ, hh, hC⟩ := hP
  have hown : s.vm.findClass y.cls = some m.cls := findClass_of_methodNamed Bd.named
  have hnm := (name_of_methodNamed Bd.named Bd.method).1
  have X0 : Stand p l e rm s m args below meth c s₁ [] 0 0 := Stand.of_body Bd
  have e0 : s₁.heap = h := by rw [← hh, Bd.state]; rfl
  obtain ⟨s₂, v, k1, k2, k3, L, k5, k6⟩ := body p e s m below meth c s₁ ⟨X0, Bd.exec, hZ, hown, Bd.bytes, hml0, Bd.returns, hnm, Bd.notSynchronized, e0, Fr.nil _, hE⟩ ⟨0, (State.WarmedH.refl s).since 0, Nat.zero_le _⟩ hC
  exact ⟨s₂, _, castTop (ef m) k1, k2, k3, v, L, rfl, k5, k6⟩
theorem Cx.finL (X : Cx p l e R (s.setVm vm0) m args below meth c Z own nm bytes maxL rt T locs cells slots h) (hS : WS s vm0 h) {v : Option Value} (hQ : Q v h) (hc : cells ≤ ce) (hs : slots ≤ sl) (hv : rt = none → v = none := by (intro q; first | rfl | (cases q; done))) : Lv e below (FinL s Z Q ce sl) T m v := by
  have hlk := X.hlk
  obtain ⟨k0, hk1, hk2⟩ := hS
  obtain ⟨fs, hr, hrun, hended, r1, r2, r3, r4⟩ := X.sd.leaveW hk1 (by rw [X.eq]; exact hk2) (v := v) (fun q => hv (X.hrt ▸ q)) hlk
  have q : (T.setFrames fs).heap = h := X.eq
  exact ⟨fs, hr, hrun, hended, locs, ⟨X.fr, by rw [q]; exact X.old, by rw [q]; exact hQ⟩, r1, r2, r3, r4.mono hc hs⟩
theorem Cx.finW (X : Cx p l e R (s.setVm vm0) m args below meth c Z own nm bytes maxL rt T locs cells slots h) (hEL : EW Z a0 EL) (hS : WS s vm0 h) (H : CHr Z EL s.vm s.heap vm0 h) {v : Option Value} (hQ : Q v h) (hc : cells ≤ ce) (hs : slots ≤ sl) (hv : rt = none → v = none := by (intro q; first | rfl | (cases q; done))) : Lv e below (FinW s Z EL Q ce sl) T m v := by
  have hlk := X.hlk
  obtain ⟨k0, hk1, hk2⟩ := hS
  obtain ⟨fs, hr, hrun, hended, r1, r2, r3, r4⟩ := X.sd.leaveW hk1 (by rw [X.eq]; exact hk2) (v := v) (fun q => hv (X.hrt ▸ q)) hlk
  have q : (T.setFrames fs).heap = h := X.eq
  have hAt : CHr Z EL vm0 h T.vm h := CHv.at X.sd X.hZ hEL H.1
  exact ⟨fs, hr, hrun, hended, locs, ⟨X.fr, by rw [q]; exact X.old, by rw [q]; exact hQ⟩, by rw [q]; exact H.trans hAt, r1, r2, r3, r4.mono hc hs⟩
theorem Cx.backW (X : Cx p l e R (s.setVm vm0) m args below meth c Z own nm bytes maxL rt T locs cells slots h) {y : MethodName} {by' : ByteArray} {ml' : Nat} {rt' : Option FieldType} {rm : Room} {as' : Array Value} {Q' : Option Value → Heap → Prop} {len W : Nat} (hEL : EW Z a0 EL) (H : CHv Z EL vm0 h) (ct : CtW l Z EL [] y by' ml' rt' rm as' h Q') (wc : (Jvm.Cond.code y by' ml' rt').before a0 Z = true) (wz : (Jvm.Cond.initialized y.cls).before a0 Z = true) (hf : rm.frames + 1 ≤ R.frames) (hl : W + (ml' + 11) + rm.locals ≤ R.locals) :
    BackS l R p e below (s.setVm vm0) args y len W (fun A a => a = as' ∧ A.U.heap = h ∧ A.cells + rm.cells ≤ R.cells ∧ A.slots + rm.slots ≤ R.slots) (fun A _ v B => ∃ L, (Fr Z.heap.size L ∧ Ext Z.heap B.U.heap ∧ Q' v B.U.heap) ∧ B.locs = A.locs ++ L ∧ B.cells = A.cells + rm.cells ∧ B.slots = A.slots + rm.slots ∧ CHr Z EL vm0 h B.U.vm B.U.heap) :=
  backOfSH (Q := fun v hh L => Fr Z.heap.size L ∧ Ext Z.heap hh ∧ Q' v hh) (ct X.old) X.hZ wc wz hf hl hEL H
theorem Go.ldcW (X : Cx p l e R (s.setVm vm0) m args below meth c Z own nm bytes maxL rt T locs cells slots h) (pc' : Nat) {idx : Nat} {text : String} (hEL : EW Z a0 EL) (hS : WS s vm0 h) (H : CHv Z EL vm0 h) (w : (Jvm.Cond.stringLink own idx text).before a0 Z = true) (wS : ∀ a ∈ Bundle.stringAtoms, a.before a0 Z = true) (hmem : (own, idx) ∈ EL) {vs : List Value} {z : Int32} (ht : (∀ c ∈ text.toList, c.toNat < 256) ∧ text.toList.map (fun c => Value.int (Jvm.Lit.byteI c.toNat.toUInt16)) = vs) (hz : ¬ z < 0) (hl : z.toNatClampNeg = vs.length) (hd : decode bytes pc = .ok (.ldc idx, 2)) {n : Nat} (hn : 4 * text.toList.length ≤ n) (hbig : n ≤ 536870912) (hc : cells + 2 ≤ R.cells) (hl' : slots + (n + 4) ≤ R.slots)
    (k : ∀ T' h' vm1 a b kA, Cx p l e R (s.setVm vm1) m args below meth c Z own nm bytes maxL rt T' locs (cells + 2) (slots + (n + 4)) h' → WS s vm1 h' → Ext h h' → CHr Z EL vm0 h vm1 h' → Exa Z h' a "java/lang/String" → Fld Z h' a "java/lang/String" "coder" "B" (.int 0) → Fld Z h' a "java/lang/String" "value" "[B" (.ref b) → Arv Z h' b kA .byte z vs (.int 0) → (∀ x, Safe Z EL vm1 h' x → x ≠ a ∧ x ≠ b) → Go p e below En T' m pc' Ls (.ref a :: st)) (hp : pc + 2 = pc' := by rfl) : Go p e below En T m pc Ls st := by
  subst hp
  obtain ⟨k0, hk1, hk2⟩ := hS
  obtain ⟨a, T', h', k1, b, kA, Y, e', E, y1, y2, y3, y4, r1, r2, r3, r4, -, -, r5, -, r6, st'⟩ := ldcCH X.sd X.hx X.hZ X.hown w wS X.eq hk1 hk2 hEL hmem H ht hz hl (g := mkF m pc Ls st) rfl (hb X.hby hd) hn hbig hc hl'
  exact Go.step st' (k T' h' T'.vm a b kA ⟨Y, X.hx, y3, y4, X.hby, X.hml, X.hrt, X.hnm, X.hlk, e', X.fr, Ext.tr X.old E⟩ ⟨_, y1, y2⟩ E r5 r1 r2 r3 r4 r6)
theorem Go.callIW (X : Cx p l e R (s.setVm vm0) m args below meth c Z own nm bytes maxL rt T locs cells slots h) (pc' : Nat) {idx : Nat} {y : MethodName} {by' : ByteArray} {ml' : Nat} {rt' : Option FieldType} {rm : Room} {ps : List FieldType} {rr : Option FieldType} {a : Addr} {Q' : Option Value → Heap → Prop} (hEL : EW Z a0 EL) (hS : WS s vm0 h) (H : CHv Z EL vm0 h) (argsL rest : List Value) (W : Nat) (hy1 : y.name = "<init>") (wl : (Jvm.Cond.methodLink own idx y).before a0 Z = true) (wm : (Jvm.Cond.instanceMethod y).before a0 Z = true) (wz : (Jvm.Cond.initialized y.cls).before a0 Z = true) (hy : y.cls ≠ "java/lang/invoke/MethodHandle" ∧ y.cls ≠ "java/lang/invoke/VarHandle") (hrn : rt' = none) (wc : (Jvm.Cond.code y by' ml' rt').before a0 Z = true) (pd : parseMethodDescriptor y.desc = some ⟨ps, rr⟩) (hd : decode bytes pc = .ok (.invokespecial idx, 3)) (ct : CtW l Z EL [] y by' ml' rt' rm ((Value.ref a :: argsL).toArray) h Q') (hlen : argsL.length = ps.length) (hst : st = argsL.reverse ++ .ref a :: rest) (hsz : Ls.size = maxL) (hW : (rest.map fun v => v.category).sum ≤ W) (hf : rm.frames + 1 ≤ R.frames) (hl : W + (ml' + 11) + rm.locals ≤ R.locals) (hce : cells + rm.cells ≤ R.cells) (hsl : slots + rm.slots ≤ R.slots)
    (k : ∀ T' v L vm1, Cx p l e R (s.setVm vm1) m args below meth c Z own nm bytes maxL rt T' (locs ++ L) (cells + rm.cells) (slots + rm.slots) T'.heap → WS s vm1 T'.heap → CHr Z EL vm0 h vm1 T'.heap → Q' v T'.heap → Go p e below En T' m pc' Ls (v.toList ++ rest)) (hp : pc + 3 = pc' := by rfl) : Go p e below En T m pc Ls st := by
  subst hp
  subst hrn
  obtain ⟨v, _, ⟨T', L', k', n'⟩, -, X', hS2, hg, ⟨L, hq, e1, e2, e3, hr⟩, st'⟩ := X.sd.specialBackS X.hx (y := y) hy1 X.hown (mvT X.hZ wl) (mvT X.hZ wm) (mvT X.hZ wc) hy (X.backW (W := W) hEL H ct wc wz hf hl) (g := mkF m pc Ls st) rfl (hsz.trans X.hml.symm) (Steps.refl _) (a := a) (argsL := argsL) (rest := rest) (lenOf pd hlen) hst (by simpa using hW) (hb X.hby hd) (fun _ _ => ⟨rfl, X.eq, hce, hsl⟩)
  dsimp only [Pt.U, Pt.locs, Pt.cells, Pt.slots] at X' e1 e2 e3 st' hq hg hS2 hr
  subst e1 e2 e3
  obtain ⟨k0, hk1, hk2⟩ := hS
  rw [X.eq] at hg
  obtain ⟨Y, y2, y3, y4⟩ := rebS (Z := Z) (own := own) hk1 hk2 X' hS2 hg X.hZ X.hown
  exact Go.step (fun _ hz => Steps.trans st' hz) (k T' v L T'.vm ⟨Y, X.hx, y3, y4, X.hby, X.hml, X.hrt, X.hnm, X.hlk, rfl, X.fr.app hq.1, hq.2.1⟩ ⟨_, y2, Nat.le_refl _⟩ hr hq.2.2)
theorem Go.callSW (X : Cx p l e R (s.setVm vm0) m args below meth c Z own nm bytes maxL rt T locs cells slots h) (pc' : Nat) {idx : Nat} {y : MethodName} {by' : ByteArray} {ml' : Nat} {rt' : Option FieldType} {rm : Room} {ps : List FieldType} {rr : Option FieldType} {Q' : Option Value → Heap → Prop} (hEL : EW Z a0 EL) (hS : WS s vm0 h) (H : CHv Z EL vm0 h) (argsL rest : List Value) (W : Nat) (wl : (Jvm.Cond.methodLink own idx y).before a0 Z = true) (ws : (Jvm.Cond.static y).before a0 Z = true) (wz : (Jvm.Cond.initialized y.cls).before a0 Z = true) (hy : y.cls ≠ "java/lang/invoke/MethodHandle" ∧ y.cls ≠ "java/lang/invoke/VarHandle") (wc : (Jvm.Cond.code y by' ml' rt').before a0 Z = true) (pd : parseMethodDescriptor y.desc = some ⟨ps, rr⟩) (hd : decode bytes pc = .ok (.invokestatic idx, 3)) (ct : CtW l Z EL [] y by' ml' rt' rm (argsL.toArray) h Q') (hlen : argsL.length = ps.length) (hst : st = argsL.reverse ++ rest) (hsz : Ls.size = maxL) (hW : (rest.map fun v => v.category).sum ≤ W) (hf : rm.frames + 1 ≤ R.frames) (hl : W + (ml' + 11) + rm.locals ≤ R.locals) (hce : cells + rm.cells ≤ R.cells) (hsl : slots + rm.slots ≤ R.slots)
    (k : ∀ T' v L vm1, Cx p l e R (s.setVm vm1) m args below meth c Z own nm bytes maxL rt T' (locs ++ L) (cells + rm.cells) (slots + rm.slots) T'.heap → WS s vm1 T'.heap → CHr Z EL vm0 h vm1 T'.heap → Q' v T'.heap → Go p e below En T' m pc' Ls (v.toList ++ rest)) (hp : pc + 3 = pc' := by rfl) : Go p e below En T m pc Ls st := by
  subst hp
  obtain ⟨v, _, ⟨T', L', k', n'⟩, -, X', hS2, hg, ⟨L, hq, e1, e2, e3, hr⟩, st'⟩ := callSS X.sd X.hx (y := y) X.hown (mvT X.hZ wl) (mvT X.hZ ws) (mvT X.hZ wz) (mvT X.hZ wc) hy (X.backW (W := W) hEL H ct wc wz hf hl) (g := mkF m pc Ls st) rfl (hsz.trans X.hml.symm) (argsL := argsL) (rest := rest) (lenOf pd hlen) hst (by simpa using hW) (hb X.hby hd) (fun _ _ => ⟨rfl, X.eq, hce, hsl⟩)
  dsimp only [Pt.U, Pt.locs, Pt.cells, Pt.slots] at X' e1 e2 e3 st' hq hg hS2 hr
  subst e1 e2 e3
  obtain ⟨k0, hk1, hk2⟩ := hS
  rw [X.eq] at hg
  obtain ⟨Y, y2, y3, y4⟩ := rebS (Z := Z) (own := own) hk1 hk2 X' hS2 hg X.hZ X.hown
  exact Go.step (fun _ hz => Steps.trans st' hz) (k T' v L T'.vm ⟨Y, X.hx, y3, y4, X.hby, X.hml, X.hrt, X.hnm, X.hlk, rfl, X.fr.app hq.1, hq.2.1⟩ ⟨_, y2, Nat.le_refl _⟩ hr hq.2.2)
end Wide
theorem pd_0 : parseMethodDescriptor "([CI[BII)I" = some ⟨[(.array .char), .int, (.array .byte), .int, .int], some .int⟩ := by decide +kernel
theorem pd_1 : parseMethodDescriptor "([CII)[B" = some ⟨[(.array .char), .int, .int], some (.array .byte)⟩ := by decide +kernel
theorem pd_2 : parseMethodDescriptor "([BI)B" = some ⟨[(.array .byte), .int], some .byte⟩ := by decide +kernel
theorem pd_3 : parseMethodDescriptor "([CIILjava/lang/Void;)V" = some ⟨[(.array .char), .int, .int, (.object "java/lang/Void")], none⟩ := by decide +kernel
theorem pd_4 : parseMethodDescriptor "()B" = some ⟨[], some .byte⟩ := by decide +kernel
theorem pd_5 : parseMethodDescriptor "(IILjava/util/function/BiFunction;)I" = some ⟨[.int, .int, (.object "java/util/function/BiFunction")], some .int⟩ := by decide +kernel
theorem pd_6 : parseMethodDescriptor "(II)V" = some ⟨[.int, .int], none⟩ := by decide +kernel
theorem pd_7 : parseMethodDescriptor "()Z" = some ⟨[], some .boolean⟩ := by decide +kernel
theorem pd_8 : parseMethodDescriptor "([BI)C" = some ⟨[(.array .byte), .int], some .char⟩ := by decide +kernel
theorem pd_9 : parseMethodDescriptor "(I)Z" = some ⟨[.int], some .boolean⟩ := by decide +kernel
theorem pd_10 : parseMethodDescriptor "(II)I" = some ⟨[.int, .int], some .int⟩ := by decide +kernel
theorem pd_11 : parseMethodDescriptor "([BIII)I" = some ⟨[(.array .byte), .int, .int, .int], some .int⟩ := by decide +kernel
theorem pd_12 : parseMethodDescriptor "()I" = some ⟨[], some .int⟩ := by decide +kernel
theorem pd_13 : parseMethodDescriptor "([C)V" = some ⟨[(.array .char)], none⟩ := by decide +kernel
theorem pd_14 : parseMethodDescriptor "(I)I" = some ⟨[.int], some .int⟩ := by decide +kernel
theorem pd_15 : parseMethodDescriptor "(I)C" = some ⟨[.int], some .char⟩ := by decide +kernel
theorem pd_16 : parseMethodDescriptor "(CLjava/lang/String;)Z" = some ⟨[.char, (.object "java/lang/String")], some .boolean⟩ := by decide +kernel
theorem pd_17 : parseMethodDescriptor "(ICCCC)Ljava/lang/String;" = some ⟨[.int, .char, .char, .char, .char], some (.object "java/lang/String")⟩ := by decide +kernel
theorem pd_18 : parseMethodDescriptor "(ICC)Ljava/lang/String;" = some ⟨[.int, .char, .char], some (.object "java/lang/String")⟩ := by decide +kernel
theorem pd_19 : parseMethodDescriptor "(Ljava/lang/String;Ljava/lang/String;)Z" = some ⟨[(.object "java/lang/String"), (.object "java/lang/String")], some .boolean⟩ := by decide +kernel
theorem pd_20 : parseMethodDescriptor "(CICC)Z" = some ⟨[.char, .int, .char, .char], some .boolean⟩ := by decide +kernel
def lo8 (x : Int32) : Int32 := (x >>> ((0 : Int32) &&& 31)).toInt8.toInt32
def hi8 (x : Int32) : Int32 := (x >>> ((8 : Int32) &&& 31)).toInt8.toInt32
/-- the String at a, its bytes at t, spells the n chars f 0, f 1, .. -/
def Str (Z : State) (h : Heap) (a t : Addr) (n : Nat) (f : Nat → Int32) : Prop :=
  Exa Z h a "java/lang/String" ∧ Fld Z h a "java/lang/String" "value" "[B" (.ref t) ∧ n < 1073741823 ∧ (∀ j, j < n → 0 ≤ (f j).toInt ∧ (f j).toInt < 65536) ∧
  ((Fld Z h a "java/lang/String" "coder" "B" (.int 0) ∧ ∃ g, An Z h t .byte n g ∧ ∀ j, j < n → ¬ 255 < f j ∧ g j = (f j).toInt8.toInt32) ∨
   (Fld Z h a "java/lang/String" "coder" "B" (.int 1) ∧ (∃ j, j < n ∧ 255 < f j) ∧ ∃ g, An Z h t .byte (2 * n) g ∧ ∀ j, j < n → g (2 * j) = lo8 (f j) ∧ g (2 * j + 1) = hi8 (f j)))
section Strings
variable {Z : State} {h h' : Heap} {a t b : Addr} {n : Nat} {f g : Nat → Int32}
theorem Str.exa (S : Str Z h a t n f) : Exa Z h a "java/lang/String" := S.1
theorem Str.lt (S : Str Z h a t n f) : a < h.size := S.1.lt
theorem Str.ltT (S : Str Z h a t n f) : t < h.size := by
  obtain ⟨-, -, -, -, ⟨-, g, A, -⟩ | ⟨-, -, g, A, -⟩⟩ := S
  · exact A.lt
  · exact A.lt
theorem Str.map (S : Str Z h a t n f) (p1 : ∀ {C}, Exa Z h a C → Exa Z h' a C) (p2 : ∀ {C m d v}, Fld Z h a C m d v → Fld Z h' a C m d v) (p3 : ∀ {k g}, An Z h t .byte k g → An Z h' t .byte k g) : Str Z h' a t n f := by
  obtain ⟨S1, S2, S3, S4, ⟨S5, g, A, G⟩ | ⟨S5, S6, g, A, G⟩⟩ := S
  · exact ⟨p1 S1, p2 S2, S3, S4, Or.inl ⟨p2 S5, g, p3 A, G⟩⟩
  · exact ⟨p1 S1, p2 S2, S3, S4, Or.inr ⟨p2 S5, S6, g, p3 A, G⟩⟩
theorem Str.ext (S : Str Z h a t n f) (E : Ext h h') : Str Z h' a t n f := S.map (fun F => F.ext E) (fun F => F.ext E) (fun F => F.ext E)
theorem Str.other {i : Nat} {v : Value} (S : Str Z h a t n f) (W : Wr h h' b i v) (q : a ≠ b) (r : t ≠ b) : Str Z h' a t n f := S.map (fun F => F.wr W) (fun F => F.other W (Or.inl q)) (fun F => F.other W r)
theorem Str.keep {ws : List Addr} (S : Str Z h a t n f) (K : Keep h h' ws) (q : a ∉ ws) (r : t ∉ ws) : Str Z h' a t n f := S.map (fun F => F.keep K) (fun F => F.keep K q) (fun F => F.keep K r)
theorem Str.lat (S : Str Z h a t n f) (hl : ∀ j, j < n → ¬ 255 < f j) : Fld Z h a "java/lang/String" "coder" "B" (.int 0) ∧ ∃ g, An Z h t .byte n g ∧ ∀ j, j < n → ¬ 255 < f j ∧ g j = (f j).toInt8.toInt32 := by
  obtain ⟨-, -, -, -, r | ⟨-, ⟨j, j1, j2⟩, -⟩⟩ := S
  · exact r
  · exact absurd j2 (hl j j1)
theorem Str.congr (S : Str Z h a t n f) (q : ∀ j, j < n → f j = g j) : Str Z h a t n g := by
  obtain ⟨S1, S2, S3, S4, ⟨S5, k, A, G⟩ | ⟨S5, ⟨j, j1, j2⟩, k, A, G⟩⟩ := S
  · exact ⟨S1, S2, S3, fun j hj => q j hj ▸ S4 j hj, Or.inl ⟨S5, k, A, fun j hj => q j hj ▸ G j hj⟩⟩
  · exact ⟨S1, S2, S3, fun j hj => q j hj ▸ S4 j hj, Or.inr ⟨S5, ⟨j, j1, q j j1 ▸ j2⟩, k, A, fun j hj => q j hj ▸ G j hj⟩⟩
theorem n_ge {x : Int32} (h : ¬ x < 0) : 0 ≤ x.toInt := by
  rw [Int32.lt_iff_toInt_lt] at h
  have e0 : (0 : Int32).toInt = 0 := by decide
  omega
/-- a char read back from its low byte -/
theorem n_low {x : Int32} (h0 : 0 ≤ x.toInt) (h1 : ¬ 255 < x) : (x.toInt8.toInt32 &&& 255) = x := by
  apply Int32.toInt_inj.mp
  have e := c_mask x.toInt8.toInt32 255 8 (by decide) (by decide)
  have b := c_i2b x
  rw [Int32.lt_iff_toInt_lt] at h1
  have e2 : (255 : Int32).toInt = 255 := by decide
  rw [e2] at h1
  rw [e]
  have : ((2 ^ 8 : Nat) : Int) = 256 := by decide
  rw [this]
  omega
theorem n_chr {x : Int32} (h0 : 0 ≤ x.toInt) (h1 : x.toInt < 65536) : x.toUInt32.toUInt16.toUInt32.toInt32 = x := by
  apply Int32.toInt_inj.mp
  have := c_i2c x
  omega
theorem n_le {x : Int32} (h : ¬ 255 < x) : x.toInt < 65536 := by
  rw [Int32.lt_iff_toInt_lt] at h
  have e : (255 : Int32).toInt = 255 := by decide
  omega
theorem n_nar {x : Int32} (h0 : 0 ≤ x.toInt) (h1 : x.toInt < 65536) : narrow .char (.int x) = .int x := by
  have := XT.narrow_c x
  rw [n_chr h0 h1] at this
  exact this
theorem n_ne0 {n : Nat} (h : 0 < n) (hn : n < 2147483648) : ¬ Int32.ofNat n = 0 := fun q => by
  have := n_inj hn (by decide) (show Int32.ofNat n = Int32.ofNat 0 from q)
  omega
theorem n_eqb {x y : Int32} (hx : 0 ≤ x.toInt) (hx' : ¬ 255 < x) (hy : 0 ≤ y.toInt) (hy' : ¬ 255 < y) (q : x.toInt8.toInt32 = y.toInt8.toInt32) : x = y := by
  rw [← n_low hx hx', q, n_low hy hy']
end Strings
theorem pn_java_lang_StringUTF16 : plainName "java/lang/StringUTF16" = true := by first | (simp [plainName, overriddenIn]; done) | decide +kernel
theorem dcmp5_0 : decode jdk_52_method_21_code 0 = .ok (.iconst 0, 1) := by decide +kernel
theorem dcmp5_1 : decode jdk_52_method_21_code 1 = .ok (.istore 5, 2) := by decide +kernel
theorem dcmp5_3 : decode jdk_52_method_21_code 3 = .ok (.iload 5, 2) := by decide +kernel
theorem dcmp5_5 : decode jdk_52_method_21_code 5 = .ok (.iload 4, 2) := by decide +kernel
theorem dcmp5_7 : decode jdk_52_method_21_code 7 = .ok (.if_icmp .ge 37, 3) := by decide +kernel
theorem dcmp5_10 : decode jdk_52_method_21_code 10 = .ok (.aload_n 0, 1) := by decide +kernel
theorem dcmp5_11 : decode jdk_52_method_21_code 11 = .ok (.iload_n 1, 1) := by decide +kernel
theorem dcmp5_12 : decode jdk_52_method_21_code 12 = .ok (.caload, 1) := by decide +kernel
theorem dcmp5_13 : decode jdk_52_method_21_code 13 = .ok (.istore 6, 2) := by decide +kernel
theorem dcmp5_15 : decode jdk_52_method_21_code 15 = .ok (.iload 6, 2) := by decide +kernel
theorem dcmp5_17 : decode jdk_52_method_21_code 17 = .ok (.sipush 255, 3) := by decide +kernel
theorem dcmp5_20 : decode jdk_52_method_21_code 20 = .ok (.if_icmp .le 6, 3) := by decide +kernel
theorem dcmp5_23 : decode jdk_52_method_21_code 23 = .ok (.iload 5, 2) := by decide +kernel
theorem dcmp5_25 : decode jdk_52_method_21_code 25 = .ok (.ireturn, 1) := by decide +kernel
theorem dcmp5_26 : decode jdk_52_method_21_code 26 = .ok (.aload_n 2, 1) := by decide +kernel
theorem dcmp5_27 : decode jdk_52_method_21_code 27 = .ok (.iload_n 3, 1) := by decide +kernel
theorem dcmp5_28 : decode jdk_52_method_21_code 28 = .ok (.iload 6, 2) := by decide +kernel
theorem dcmp5_30 : decode jdk_52_method_21_code 30 = .ok (.i2b, 1) := by decide +kernel
theorem dcmp5_31 : decode jdk_52_method_21_code 31 = .ok (.bastore, 1) := by decide +kernel
theorem dcmp5_32 : decode jdk_52_method_21_code 32 = .ok (.iinc 1 1, 3) := by decide +kernel
theorem dcmp5_35 : decode jdk_52_method_21_code 35 = .ok (.iinc 3 1, 3) := by decide +kernel
theorem dcmp5_38 : decode jdk_52_method_21_code 38 = .ok (.iinc 5 1, 3) := by decide +kernel
theorem dcmp5_41 : decode jdk_52_method_21_code 41 = .ok (.goto (-38), 3) := by decide +kernel
theorem dcmp5_44 : decode jdk_52_method_21_code 44 = .ok (.iload 4, 2) := by decide +kernel
theorem dcmp5_46 : decode jdk_52_method_21_code 46 = .ok (.ireturn, 1) := by decide +kernel
def QC (Z : State) (h0 : Heap) (dst : Addr) (n : Nat) (f : Nat → Int32) : Option Value → Heap → Prop := fun v h' => ∃ r g, v = some (.int (Int32.ofNat r)) ∧ r ≤ n ∧ Keep h0 h' [dst] ∧ An Z h' dst .byte n g ∧ (∀ j, j < r → ¬ 255 < f j ∧ g j = (f j).toInt8.toInt32) ∧ (r = n ∨ (r < n ∧ 255 < f r))
set_option maxRecDepth 65536 in
set_option maxHeartbeats 40000000 in
theorem lp_cmp {p : Program} {l : Launch} {e : Env} {R : Room} {s : State} {m : MethodId} {args : Array Value} {below : List Frame} {meth : Method} {c : Code} {Z : State} {nm : String} {ce sl cells slots : Nat} (hce : cells ≤ ce) (hsl : slots ≤ sl) (h0 : Heap) (src dst : Addr) (n : Nat) (f : Nat → Int32) (hne : src ≠ dst) (nd : Z.heap.size ≤ dst) :
    ∀ (k i : Nat), i + k = n → ∀ (T : State) (locs : List Loc) (h : Heap) (g : Nat → Int32) (o6 : Slot), One o6 → Cx p l e R s m args below meth c Z "java/lang/StringUTF16" nm jdk_52_method_21_code 7 (some .int) T locs cells slots h → An Z h src .char n f → An Z h dst .byte n g → (∀ j, j < i → ¬ 255 < f j ∧ g j = (f j).toInt8.toInt32) → Keep h0 h [dst] →
      Go p e below (FinN s Z (QC Z h0 dst n f) ce sl) T m 3 #[.val (.ref src), .val (.int (Int32.ofNat i)), .val (.ref dst), .val (.int (Int32.ofNat i)), .val (.int (Int32.ofNat n)), .val (.int (Int32.ofNat i)), o6] [] := by
  intro k
  induction k with
  | zero =>
    intro i hi T locs h g o6 ho X0 A B hg K
    have hin : i = n := by omega
    subst hin
    refine Go.iload X0 5 dcmp5_3 rfl ?_
    refine Go.iload X0 7 dcmp5_5 rfl ?_
    refine Go.icmpY X0 44 dcmp5_7 (XT.ii_ge_t (n_nlt (Nat.le_refl _) A.1)) ?_
    refine Go.iload X0 46 dcmp5_44 rfl ?_
    exact Go.retI X0 rfl (by simp) rfl dcmp5_46 (X0.fin ⟨_, g, rfl, Nat.le_refl _, K, B, hg, Or.inl rfl⟩ hce hsl)
  | succ k ih =>
    intro i hi T locs h g o6 ho X0 A B hg K
    have hin : i < n := by omega
    refine Go.iload X0 5 dcmp5_3 rfl ?_
    refine Go.iload X0 7 dcmp5_5 rfl ?_
    refine Go.icmpN X0 10 dcmp5_7 (XT.ii_ge_f (n_lt hin A.1)) ?_
    refine Go.aloadN X0 11 dcmp5_10 rfl rfl ?_
    refine Go.iloadN X0 12 dcmp5_11 rfl ?_
    refine Go.caN X0 13 A i hin dcmp5_12 ?_
    refine Go.istore X0 15 #[.val (.ref src), .val (.int (Int32.ofNat i)), .val (.ref dst), .val (.int (Int32.ofNat i)), .val (.int (Int32.ofNat n)), .val (.int (Int32.ofNat i)), .val (.int (f i))] dcmp5_13 (XS.store1 rfl ho rfl) ?_
    refine Go.iload X0 17 dcmp5_15 rfl ?_
    refine Go.sipush X0 20 (255 : Int32) dcmp5_17 ?_
    by_cases c21 : (255 : Int32) < (f i)
    · skip
      refine Go.icmpN X0 23 dcmp5_20 (XT.ii_le_f c21) ?_
      refine Go.iload X0 25 dcmp5_23 rfl ?_
      exact Go.retI X0 rfl (by simp) rfl dcmp5_25 (X0.fin ⟨i, g, rfl, Nat.le_of_lt hin, K, B, hg, Or.inr ⟨hin, c21⟩⟩ hce hsl)
    · skip
      refine Go.icmpY X0 26 dcmp5_20 (XT.ii_le_t c21) ?_
      refine Go.aloadN X0 27 dcmp5_26 rfl rfl ?_
      refine Go.iloadN X0 28 dcmp5_27 rfl ?_
      refine Go.iload X0 30 dcmp5_28 rfl ?_
      refine Go.i2b X0 31 dcmp5_30 ?_
      refine Go.stBN X0 32 B i hin dcmp5_31 nd ?_
      intro T22 h22 w22 X22 W22 V22
      have F23 : An Z h22 src .char n f := A.other W22 hne
      have F24 : An Z h22 dst .byte n (upd g i (nar .byte ((f i).toInt8.toInt32))) := V22
      refine Go.iinc X22 35 (1 : Int32) #[.val (.ref src), .val (.int ((Int32.ofNat i) + (1 : Int32))), .val (.ref dst), .val (.int (Int32.ofNat i)), .val (.int (Int32.ofNat n)), .val (.int (Int32.ofNat i)), .val (.int (f i))] dcmp5_32 rfl rfl ?_
      refine Go.iinc X22 38 (1 : Int32) #[.val (.ref src), .val (.int ((Int32.ofNat i) + (1 : Int32))), .val (.ref dst), .val (.int ((Int32.ofNat i) + (1 : Int32))), .val (.int (Int32.ofNat n)), .val (.int (Int32.ofNat i)), .val (.int (f i))] dcmp5_35 rfl rfl ?_
      refine Go.iinc X22 41 (1 : Int32) #[.val (.ref src), .val (.int ((Int32.ofNat i) + (1 : Int32))), .val (.ref dst), .val (.int ((Int32.ofNat i) + (1 : Int32))), .val (.int (Int32.ofNat n)), .val (.int ((Int32.ofNat i) + (1 : Int32))), .val (.int (f i))] dcmp5_38 rfl rfl ?_
      refine Go.goto X22 3 dcmp5_41 ?_
      rw [n_succ]
      refine ih (i + 1) (by omega) _ _ _ _ _ (One.val rfl) X22 F23 F24 (fun j hj => ?_) (K.wr W22 (Or.inl (List.mem_of_getElem? (i := 0) rfl)))
      by_cases q : j = i
      · subst q
        exact ⟨c21, by simp only [upd, if_pos rfl]; exact n_b _⟩
      · obtain ⟨q1, q2⟩ := hg j (by omega)
        exact ⟨q1, by simp only [upd, if_neg q]; exact q2⟩
theorem ef_cmp5 (m : MethodId) (src : Addr) (z0 : Int32) (dst : Addr) (z1 : Int32) (z2 : Int32) : entryFrame m #[(.ref src), (.int z0), (.ref dst), (.int z1), (.int z2)] 7 = mkF m 0 #[.val (.ref src), .val (.int z0), .val (.ref dst), .val (.int z1), .val (.int z2), .unset, .unset] [] := by first | (simp [entryFrame, mkF, argsToLocals, Value.category]; done) | rfl
set_option maxRecDepth 65536 in
set_option maxHeartbeats 40000000 in
theorem rm_cmp5 (l : Launch) (Z : State) (a0 : Array Value) (hw : ∀ d ∈ tables_1, d.before a0 Z = true) (h0 : Heap) (src dst : Addr) (n : Nat) (f g : Nat → Int32) (hne : src ≠ dst) (nd : Z.heap.size ≤ dst) (A : An Z h0 src .char n f) (B : An Z h0 dst .byte n g) :
    Ct l Z [] (⟨"java/lang/StringUTF16", "compress", "([CI[BII)I"⟩ : MethodName) jdk_52_method_21_code 7 (some .int) (⟨0, 0, 0, 0⟩ : Room) #[(.ref src), (.int (0 : Int32)), (.ref dst), (.int (0 : Int32)), (.int (Int32.ofNat n))] h0 (QC Z h0 dst n f) := by
  refine Ct.of pn_java_lang_StringUTF16 (fun m => ef_cmp5 m src 0 dst 0 (Int32.ofNat n)) ?_
  intro p e s m below meth c s₁ X0
  refine Go.iconst X0 1 (0 : Int32) dcmp5_0 ?_
  refine Go.istore X0 3 #[.val (.ref src), .val (.int (0 : Int32)), .val (.ref dst), .val (.int (0 : Int32)), .val (.int (Int32.ofNat n)), .val (.int (0 : Int32)), .unset] dcmp5_1 rfl ?_
  exact lp_cmp (Nat.le_refl _) (Nat.le_refl _) h0 src dst n f hne nd n 0 (by omega) _ _ _ g _ One.u X0 A B (fun j hj => absurd hj (Nat.not_lt_zero j)) (Keep.refl _ _)
theorem n_cf0 (n : Nat) : (XT.ushr (Int32.ofNat n - Int32.ofNat n) (31 : Int32)).toInt8.toInt32 = 0 := by rw [Int32.sub_self]; decide
theorem n_cf1 {n : Nat} (h0 : 0 < n) (h1 : n < 1073741823) : (XT.ushr (Int32.ofNat n - Int32.ofNat (2 * n)) (31 : Int32)).toInt8.toInt32 = 1 := by
  have e := c_iushr (Int32.ofNat n - Int32.ofNat (2 * n)) 31 31 (by decide) (by decide)
  have d := c_isub (Int32.ofNat n) (Int32.ofNat (2 * n))
  have r := rng32 (Int32.ofNat n - Int32.ofNat (2 * n))
  rw [n_int (by omega), n_int (by omega)] at d
  have p : ((2 ^ 31 : Nat) : Int) = 2147483648 := by decide
  rw [p] at e
  have : XT.ushr (Int32.ofNat n - Int32.ofNat (2 * n)) (31 : Int32) = 1 := by
    apply Int32.toInt_inj.mp
    show ((Int32.ofNat n - Int32.ofNat (2 * n)).toUInt32 >>> ((31 : Int32) &&& 31).toUInt32).toInt32.toInt = (1 : Int32).toInt
    rw [e]
    have : (1 : Int32).toInt = 1 := by decide
    omega
  rw [this]
  decide
theorem dcfal_0 : decode jdk_52_method_15_code 0 = .ok (.iload_n 1, 1) := by decide +kernel
theorem dcfal_1 : decode jdk_52_method_15_code 1 = .ok (.aload_n 0, 1) := by decide +kernel
theorem dcfal_2 : decode jdk_52_method_15_code 2 = .ok (.arraylength, 1) := by decide +kernel
theorem dcfal_3 : decode jdk_52_method_15_code 3 = .ok (.isub, 1) := by decide +kernel
theorem dcfal_4 : decode jdk_52_method_15_code 4 = .ok (.bipush 31, 2) := by decide +kernel
theorem dcfal_6 : decode jdk_52_method_15_code 6 = .ok (.iushr, 1) := by decide +kernel
theorem dcfal_7 : decode jdk_52_method_15_code 7 = .ok (.i2b, 1) := by decide +kernel
theorem dcfal_8 : decode jdk_52_method_15_code 8 = .ok (.ireturn, 1) := by decide +kernel
theorem ef_cfal (m : MethodId) (t : Addr) (z : Int32) : entryFrame m #[(.ref t), (.int z)] 2 = mkF m 0 #[.val (.ref t), .val (.int z)] [] := by first | (simp [entryFrame, mkF, argsToLocals, Value.category]; done) | rfl
set_option maxRecDepth 65536 in
set_option maxHeartbeats 40000000 in
theorem rm_cfal (l : Launch) (Z : State) (a0 : Array Value) (hw : ∀ d ∈ tables_1, d.before a0 Z = true) (h0 : Heap) (t : Addr) (z : Int32) (n k : Nat) (g : Nat → Int32) (r : Int32) (hz : z = Int32.ofNat n) (A : An Z h0 t .byte k g) (hr : (k = n ∧ r = 0) ∨ (k = 2 * n ∧ 0 < n ∧ n < 1073741823 ∧ r = 1)) :
    Ct l Z [] (⟨"java/lang/StringUTF16", "coderFromArrayLen", "([BI)B"⟩ : MethodName) jdk_52_method_15_code 2 (some .byte) (⟨0, 0, 0, 0⟩ : Room) #[(.ref t), (.int z)] h0 (Pu h0 (.int r)) := by
  refine Ct.of pn_java_lang_StringUTF16 (fun m => ef_cfal m t z) ?_
  intro p e s m below meth c s₁ X0
  subst hz
  refine Go.iloadN X0 1 dcfal_0 rfl ?_
  refine Go.aloadN X0 2 dcfal_1 rfl rfl ?_
  refine Go.alenN X0 3 A dcfal_2 ?_
  refine Go.isub X0 4 dcfal_3 ?_
  refine Go.bipush X0 6 (31 : Int32) dcfal_4 ?_
  refine Go.iushr X0 7 dcfal_6 ?_
  refine Go.i2b X0 8 dcfal_7 ?_
  rcases hr with ⟨rfl, rfl⟩ | ⟨rfl, q1, q2, rfl⟩
  · rw [n_cf0]
    exact Go.retI X0 rfl (by simp) rfl dcfal_8 (X0.fin ⟨rfl, rfl⟩ (by decide) (by decide))
  · rw [n_cf1 q1 q2]
    exact Go.retI X0 rfl (by simp) rfl dcfal_8 (X0.fin ⟨rfl, rfl⟩ (by decide) (by decide))
theorem dcmp3_0 : decode jdk_52_method_16_code 0 = .ok (.iload_n 2, 1) := by decide +kernel
theorem dcmp3_1 : decode jdk_52_method_16_code 1 = .ok (.newarray .byte, 2) := by decide +kernel
theorem dcmp3_3 : decode jdk_52_method_16_code 3 = .ok (.astore_n 3, 1) := by decide +kernel
theorem dcmp3_4 : decode jdk_52_method_16_code 4 = .ok (.aload_n 0, 1) := by decide +kernel
theorem dcmp3_5 : decode jdk_52_method_16_code 5 = .ok (.iload_n 1, 1) := by decide +kernel
theorem dcmp3_6 : decode jdk_52_method_16_code 6 = .ok (.aload_n 3, 1) := by decide +kernel
theorem dcmp3_7 : decode jdk_52_method_16_code 7 = .ok (.iconst 0, 1) := by decide +kernel
theorem dcmp3_8 : decode jdk_52_method_16_code 8 = .ok (.iload_n 2, 1) := by decide +kernel
theorem dcmp3_9 : decode jdk_52_method_16_code 9 = .ok (.invokestatic 115, 3) := by decide +kernel
theorem dcmp3_12 : decode jdk_52_method_16_code 12 = .ok (.istore 4, 2) := by decide +kernel
theorem dcmp3_14 : decode jdk_52_method_16_code 14 = .ok (.iload 4, 2) := by decide +kernel
theorem dcmp3_16 : decode jdk_52_method_16_code 16 = .ok (.iload_n 2, 1) := by decide +kernel
theorem dcmp3_17 : decode jdk_52_method_16_code 17 = .ok (.if_icmp .eq 40, 3) := by decide +kernel
theorem dcmp3_20 : decode jdk_52_method_16_code 20 = .ok (.aload_n 0, 1) := by decide +kernel
theorem dcmp3_21 : decode jdk_52_method_16_code 21 = .ok (.iload_n 1, 1) := by decide +kernel
theorem dcmp3_22 : decode jdk_52_method_16_code 22 = .ok (.iload_n 2, 1) := by decide +kernel
theorem dcmp3_23 : decode jdk_52_method_16_code 23 = .ok (.invokestatic 119, 3) := by decide +kernel
theorem dcmp3_26 : decode jdk_52_method_16_code 26 = .ok (.astore 5, 2) := by decide +kernel
theorem dcmp3_28 : decode jdk_52_method_16_code 28 = .ok (.aload 5, 2) := by decide +kernel
theorem dcmp3_30 : decode jdk_52_method_16_code 30 = .ok (.iload 4, 2) := by decide +kernel
theorem dcmp3_32 : decode jdk_52_method_16_code 32 = .ok (.invokestatic 71, 3) := by decide +kernel
theorem dcmp3_35 : decode jdk_52_method_16_code 35 = .ok (.sipush 255, 3) := by decide +kernel
theorem dcmp3_38 : decode jdk_52_method_16_code 38 = .ok (.if_icmp .gt 16, 3) := by decide +kernel
theorem dcmp3_41 : decode jdk_52_method_16_code 41 = .ok (.aload 5, 2) := by decide +kernel
theorem dcmp3_43 : decode jdk_52_method_16_code 43 = .ok (.iconst 0, 1) := by decide +kernel
theorem dcmp3_44 : decode jdk_52_method_16_code 44 = .ok (.aload_n 3, 1) := by decide +kernel
theorem dcmp3_45 : decode jdk_52_method_16_code 45 = .ok (.iconst 0, 1) := by decide +kernel
theorem dcmp3_46 : decode jdk_52_method_16_code 46 = .ok (.iload_n 2, 1) := by decide +kernel
theorem dcmp3_47 : decode jdk_52_method_16_code 47 = .ok (.invokestatic 123, 3) := by decide +kernel
theorem dcmp3_50 : decode jdk_52_method_16_code 50 = .ok (.iload_n 2, 1) := by decide +kernel
theorem dcmp3_51 : decode jdk_52_method_16_code 51 = .ok (.if_icmp .eq 6, 3) := by decide +kernel
theorem dcmp3_54 : decode jdk_52_method_16_code 54 = .ok (.aload 5, 2) := by decide +kernel
theorem dcmp3_56 : decode jdk_52_method_16_code 56 = .ok (.areturn, 1) := by decide +kernel
theorem dcmp3_57 : decode jdk_52_method_16_code 57 = .ok (.aload_n 3, 1) := by decide +kernel
theorem dcmp3_58 : decode jdk_52_method_16_code 58 = .ok (.areturn, 1) := by decide +kernel
theorem ef_cmp3 (m : MethodId) (src : Addr) (z0 : Int32) (z1 : Int32) : entryFrame m #[(.ref src), (.int z0), (.int z1)] 6 = mkF m 0 #[.val (.ref src), .val (.int z0), .val (.int z1), .unset, .unset, .unset] [] := by first | (simp [entryFrame, mkF, argsToLocals, Value.category]; done) | rfl
set_option maxRecDepth 65536 in
set_option maxHeartbeats 40000000 in
theorem rm_cmp3 (l : Launch) (Z : State) (a0 : Array Value) (hw : ∀ d ∈ tables_1, d.before a0 Z = true) (h0 : Heap) (src : Addr) (z0 z1 : Int32) (n : Nat) (f : Nat → Int32) (hz0 : z0 = 0) (hz1 : z1 = Int32.ofNat n) (hcap : n ≤ 4) (A : An Z h0 src .char n f) (hl : ∀ j, j < n → ¬ 255 < f j) :
    Ct l Z [] (⟨"java/lang/StringUTF16", "compress", "([CII)[B"⟩ : MethodName) jdk_52_method_16_code 6 (some (.array .byte)) (⟨1, 1, 4, 18⟩ : Room) #[(.ref src), (.int z0), (.int z1)] h0 (fun v h' => ∃ t g, v = some (.ref t) ∧ Keep h0 h' [] ∧ h0.size ≤ t ∧ An Z h' t .byte n g ∧ ∀ j, j < n → ¬ 255 < f j ∧ g j = (f j).toInt8.toInt32) := by
  refine Ct.of pn_java_lang_StringUTF16 (fun m => ef_cmp3 m src z0 z1) ?_
  intro p e s m below meth c s₁ X0
  subst hz0 hz1
  have K1 : Keep h0 h0 [] := Keep.refl _ _
  refine Go.iloadN X0 1 dcmp3_0 rfl ?_
  refine Go.newB X0 3 (n := n) (hw _ (List.mem_of_getElem? (i := 21) rfl)) dcmp3_1 4 hcap (by decide) (by decide) (by decide) ?_
  intro T2 h2 a2 X2 E2 g2 V2
  have nw_a2 : Z.heap.size ≤ a2 := by rw [← g2]; exact X0.le
  have si_a2 : h0.size ≤ a2 := by rw [← g2]; exact K1.1
  have ne_src_a2 : src ≠ a2 := by rw [← g2]; exact Nat.ne_of_lt A.lt
  have K3 : Keep h0 h2 [] := K1.ext E2
  have F4 : An Z h2 src .char n f := A.ext E2
  refine Go.astoreN X2 4 #[.val (.ref src), .val (.int (0 : Int32)), .val (.int (Int32.ofNat n)), .val (.ref a2), .unset, .unset] dcmp3_3 rfl rfl ?_
  refine Go.aloadN X2 5 dcmp3_4 rfl rfl ?_
  refine Go.iloadN X2 6 dcmp3_5 rfl ?_
  refine Go.aloadN X2 7 dcmp3_6 rfl rfl ?_
  refine Go.iconst X2 8 (0 : Int32) dcmp3_7 ?_
  refine Go.iloadN X2 9 dcmp3_8 rfl ?_
  refine Go.callS X2 12 [(.ref src), (.int (0 : Int32)), (.ref a2), (.int (0 : Int32)), (.int (Int32.ofNat n))] [] 0 (hw _ (List.mem_of_getElem? (i := 45) rfl)) (hw _ (List.mem_of_getElem? (i := 46) rfl)) (hw _ (List.mem_of_getElem? (i := 43) rfl)) (by decide) (hw _ (List.mem_of_getElem? (i := 47) rfl)) pd_0 dcmp3_9 (rm_cmp5 l Z a0 hw h2 src a2 n f _ ne_src_a2 nw_a2 F4 V2) rfl rfl rfl (Nat.le_of_eq rfl) (by decide) (by decide) (by decide) (by decide) ?_
  rintro T5 v5 L5 X5 ⟨r, g, rfl, hr, K, B, hg, hx⟩
  show Go p e below _ T5 m 12 #[.val (.ref src), .val (.int (0 : Int32)), .val (.int (Int32.ofNat n)), .val (.ref a2), .unset, .unset] [(.int (Int32.ofNat r))]
  have K6 : Keep h0 T5.heap [] := K3.trans K (allS (Or.inr si_a2) all0)
  have F7 : An Z T5.heap src .char n f := F4.keep K (ninS ne_src_a2 nin0)
  have hrn : r = n := hx.elim id (fun q => absurd q.2 (hl r q.1))
  subst hrn
  refine Go.istore X5 14 #[.val (.ref src), .val (.int (0 : Int32)), .val (.int (Int32.ofNat r)), .val (.ref a2), .val (.int (Int32.ofNat r)), .unset] dcmp3_12 rfl ?_
  refine Go.iload X5 16 dcmp3_14 rfl ?_
  refine Go.iloadN X5 17 dcmp3_16 rfl ?_
  refine Go.icmpY X5 57 dcmp3_17 (XT.ii_eq_t rfl) ?_
  refine Go.aloadN X5 58 dcmp3_57 rfl rfl ?_
  exact Go.retA X5 rfl rfl rfl dcmp3_58 (X5.fin ⟨_, g, rfl, K6, si_a2, B, hg⟩ (by decide) (by decide))
theorem pn_java_lang_String : plainName "java/lang/String" = true := by first | (simp [plainName, overriddenIn]; done) | decide +kernel
theorem di4_0 : decode jdk_42_method_149_code 0 = .ok (.aload_n 0, 1) := by decide +kernel
theorem di4_1 : decode jdk_42_method_149_code 1 = .ok (.invokespecial 1, 3) := by decide +kernel
theorem di4_4 : decode jdk_42_method_149_code 4 = .ok (.iload_n 3, 1) := by decide +kernel
theorem di4_5 : decode jdk_42_method_149_code 5 = .ok (.ifCond .ne 22, 3) := by decide +kernel
theorem di4_8 : decode jdk_42_method_149_code 8 = .ok (.aload_n 0, 1) := by decide +kernel
theorem di4_9 : decode jdk_42_method_149_code 9 = .ok (.ldc 7, 2) := by decide +kernel
theorem di4_11 : decode jdk_42_method_149_code 11 = .ok (.getfield 9, 3) := by decide +kernel
theorem di4_14 : decode jdk_42_method_149_code 14 = .ok (.putfield 9, 3) := by decide +kernel
theorem di4_17 : decode jdk_42_method_149_code 17 = .ok (.aload_n 0, 1) := by decide +kernel
theorem di4_18 : decode jdk_42_method_149_code 18 = .ok (.ldc 7, 2) := by decide +kernel
theorem di4_20 : decode jdk_42_method_149_code 20 = .ok (.getfield 15, 3) := by decide +kernel
theorem di4_23 : decode jdk_42_method_149_code 23 = .ok (.putfield 15, 3) := by decide +kernel
theorem di4_26 : decode jdk_42_method_149_code 26 = .ok (.return_, 1) := by decide +kernel
theorem di4_27 : decode jdk_42_method_149_code 27 = .ok (.getstatic 38, 3) := by decide +kernel
theorem di4_30 : decode jdk_42_method_149_code 30 = .ok (.ifCond .eq 28, 3) := by decide +kernel
theorem di4_33 : decode jdk_42_method_149_code 33 = .ok (.aload_n 1, 1) := by decide +kernel
theorem di4_34 : decode jdk_42_method_149_code 34 = .ok (.iload_n 2, 1) := by decide +kernel
theorem di4_35 : decode jdk_42_method_149_code 35 = .ok (.iload_n 3, 1) := by decide +kernel
theorem di4_36 : decode jdk_42_method_149_code 36 = .ok (.invokestatic 177, 3) := by decide +kernel
theorem di4_39 : decode jdk_42_method_149_code 39 = .ok (.astore 5, 2) := by decide +kernel
theorem di4_41 : decode jdk_42_method_149_code 41 = .ok (.aload_n 0, 1) := by decide +kernel
theorem di4_42 : decode jdk_42_method_149_code 42 = .ok (.aload 5, 2) := by decide +kernel
theorem di4_44 : decode jdk_42_method_149_code 44 = .ok (.iload_n 3, 1) := by decide +kernel
theorem di4_45 : decode jdk_42_method_149_code 45 = .ok (.invokestatic 47, 3) := by decide +kernel
theorem di4_48 : decode jdk_42_method_149_code 48 = .ok (.putfield 15, 3) := by decide +kernel
theorem di4_51 : decode jdk_42_method_149_code 51 = .ok (.aload_n 0, 1) := by decide +kernel
theorem di4_52 : decode jdk_42_method_149_code 52 = .ok (.aload 5, 2) := by decide +kernel
theorem di4_54 : decode jdk_42_method_149_code 54 = .ok (.putfield 9, 3) := by decide +kernel
theorem di4_57 : decode jdk_42_method_149_code 57 = .ok (.return_, 1) := by decide +kernel
theorem di4_58 : decode jdk_42_method_149_code 58 = .ok (.aload_n 0, 1) := by decide +kernel
theorem di4_59 : decode jdk_42_method_149_code 59 = .ok (.iconst 1, 1) := by decide +kernel
theorem di4_60 : decode jdk_42_method_149_code 60 = .ok (.putfield 15, 3) := by decide +kernel
theorem di4_63 : decode jdk_42_method_149_code 63 = .ok (.aload_n 0, 1) := by decide +kernel
theorem di4_64 : decode jdk_42_method_149_code 64 = .ok (.aload_n 1, 1) := by decide +kernel
theorem di4_65 : decode jdk_42_method_149_code 65 = .ok (.iload_n 2, 1) := by decide +kernel
theorem di4_66 : decode jdk_42_method_149_code 66 = .ok (.iload_n 3, 1) := by decide +kernel
theorem di4_67 : decode jdk_42_method_149_code 67 = .ok (.invokestatic 180, 3) := by decide +kernel
theorem di4_70 : decode jdk_42_method_149_code 70 = .ok (.putfield 9, 3) := by decide +kernel
theorem di4_73 : decode jdk_42_method_149_code 73 = .ok (.return_, 1) := by decide +kernel
theorem ef_i4 (m : MethodId) (a : Addr) (src : Addr) (z0 : Int32) (z1 : Int32) : entryFrame m #[(.ref a), (.ref src), (.int z0), (.int z1), .null] 6 = mkF m 0 #[.val (.ref a), .val (.ref src), .val (.int z0), .val (.int z1), .val .null, .unset] [] := by first | (simp [entryFrame, mkF, argsToLocals, Value.category]; done) | rfl
set_option maxRecDepth 65536 in
set_option maxHeartbeats 40000000 in
theorem rm_i4 (l : Launch) (Z : State) (a0 : Array Value) (hw : ∀ d ∈ tables_1, d.before a0 Z = true) (h0 : Heap) (cz : Int32) (SC : Sta Z Z.heap "java/lang/String" "COMPACT_STRINGS" "Z" (.int cz)) (hcz : ¬ cz = 0) (a src : Addr) (n : Nat) (f : Nat → Int32) (hn : 0 < n) (hcap : n ≤ 4) (E : Exa Z h0 a "java/lang/String") (FV : Fld Z h0 a "java/lang/String" "value" "[B" .null) (FC : Fld Z h0 a "java/lang/String" "coder" "B" (.int 0)) (na : Z.heap.size ≤ a) (hne : src ≠ a) (A : An Z h0 src .char n f) (hf : ∀ j, j < n → 0 ≤ (f j).toInt ∧ (f j).toInt < 65536) (hl : ∀ j, j < n → ¬ 255 < f j) (z0 z1 : Int32) (hz0 : z0 = 0) (hz1 : z1 = Int32.ofNat n) :
    Ct l Z [] (⟨"java/lang/String", "<init>", "([CIILjava/lang/Void;)V"⟩ : MethodName) jdk_42_method_149_code 6 none (⟨2, 1, 4, 35⟩ : Room) #[(.ref a), (.ref src), (.int z0), (.int z1), .null] h0 (fun v h' => v = none ∧ ∃ t, Keep h0 h' [a] ∧ h0.size ≤ t ∧ Str Z h' a t n f) := by
  refine Ct.of pn_java_lang_String (fun m => ef_i4 m a src z0 z1) ?_
  intro p e s m below meth c s₁ X0
  subst hz0 hz1
  have K1 : Keep h0 h0 [a] := Keep.refl _ _
  refine Go.aloadN X0 1 di4_0 rfl rfl ?_
  refine Go.initO X0 4 (hw _ (List.mem_of_getElem? (i := 17) rfl)) (hw _ (List.mem_of_getElem? (i := 18) rfl)) (hw _ (List.mem_of_getElem? (i := 19) rfl)) 0 di4_1 rfl (by decide) (by decide) (by decide) ?_
  intro T2 X2
  refine Go.iloadN X2 5 di4_4 rfl ?_
  refine Go.if0Y X2 27 di4_5 (XT.i0_ne_t (n_ne0 hn (by omega))) ?_
  refine Go.getS X2 30 (hw _ (List.mem_of_getElem? (i := 40) rfl)) SC di4_27 ?_
  intro T3 X3
  refine Go.if0N X3 33 di4_30 (XT.i0_eq_f hcz) ?_
  refine Go.aloadN X3 34 di4_33 rfl rfl ?_
  refine Go.iloadN X3 35 di4_34 rfl ?_
  refine Go.iloadN X3 36 di4_35 rfl ?_
  refine Go.callS X3 39 [(.ref src), (.int (0 : Int32)), (.int (Int32.ofNat n))] [] 0 (hw _ (List.mem_of_getElem? (i := 41) rfl)) (hw _ (List.mem_of_getElem? (i := 42) rfl)) (hw _ (List.mem_of_getElem? (i := 43) rfl)) (by decide) (hw _ (List.mem_of_getElem? (i := 44) rfl)) pd_1 di4_36 (rm_cmp3 l Z a0 hw h0 src 0 (Int32.ofNat n) n f rfl rfl hcap A hl) rfl rfl rfl (Nat.le_of_eq rfl) (by decide) (by decide) (by decide) (by decide) ?_
  rintro T4 v4 L4 X4 ⟨t, g, rfl, K3, gt, B, hg⟩
  show Go p e below _ T4 m 39 #[.val (.ref a), .val (.ref src), .val (.int (0 : Int32)), .val (.int (Int32.ofNat n)), .val .null, .unset] [(.ref t)]
  have nw_t : Z.heap.size ≤ t := Nat.le_trans X3.le gt
  have ne_a_t : a ≠ t := Nat.ne_of_lt (Nat.lt_of_lt_of_le E.lt gt)
  have ne_src_t : src ≠ t := Nat.ne_of_lt (Nat.lt_of_lt_of_le A.lt gt)
  have si_t : h0.size ≤ t := Nat.le_trans K1.1 gt
  have K5 : Keep h0 T4.heap [a] := K1.trans K3 all0
  have F6 : Exa Z T4.heap a "java/lang/String" := E.keep K3
  have F7 : Fld Z T4.heap a "java/lang/String" "value" "[B" .null := FV.keep K3 nin0
  have F8 : Fld Z T4.heap a "java/lang/String" "coder" "B" (.int (0 : Int32)) := FC.keep K3 nin0
  have F9 : An Z T4.heap src .char n f := A.keep K3 nin0
  refine Go.astore X4 41 #[.val (.ref a), .val (.ref src), .val (.int (0 : Int32)), .val (.int (Int32.ofNat n)), .val .null, .val (.ref t)] di4_39 rfl rfl ?_
  refine Go.aloadN X4 42 di4_41 rfl rfl ?_
  refine Go.aload X4 44 di4_42 rfl rfl ?_
  refine Go.iloadN X4 45 di4_44 rfl ?_
  refine Go.callSP X4 48 [(.ref t), (.int (Int32.ofNat n))] [(.ref a)] 1 (hw _ (List.mem_of_getElem? (i := 48) rfl)) (hw _ (List.mem_of_getElem? (i := 49) rfl)) (hw _ (List.mem_of_getElem? (i := 43) rfl)) (by decide) (hw _ (List.mem_of_getElem? (i := 50) rfl)) pd_2 di4_45 (rm_cfal l Z a0 hw T4.heap t (Int32.ofNat n) n n g 0 rfl B (Or.inl ⟨rfl, rfl⟩)) rfl rfl rfl (Nat.le_of_eq rfl) (by decide) (by decide) (by decide) (by decide) ?_
  intro T10 L10 X10
  refine Go.putF X10 51 (hw _ (List.mem_of_getElem? (i := 27) rfl)) F8 F6 (Or.inr ⟨(hw _ (List.mem_of_getElem? (i := 23) rfl)), rfl, rfl⟩) (hw _ (List.mem_of_getElem? (i := 7) rfl)) (ty := .byte) (by decide) rfl rfl na di4_48 ?_
  intro T11 h11 X11 W11
  have K12 : Keep h0 h11 [a] := K5.wr W11 (Or.inl (List.mem_of_getElem? (i := 0) rfl))
  have F13 : Exa Z h11 a "java/lang/String" := F6.wr W11
  have F14 : Fld Z h11 a "java/lang/String" "value" "[B" .null := F7.other W11 (Or.inr (slot_ne (Or.inr (hw _ (List.mem_of_getElem? (i := 22) rfl))) (Or.inr (hw _ (List.mem_of_getElem? (i := 23) rfl))) (by decide) (t := (.array .byte)) (t' := .byte) (by decide) (by decide)))
  have F15 : Fld Z h11 a "java/lang/String" "coder" "B" (.int (0 : Int32)) := F8.same W11
  have F16 : An Z h11 src .char n f := F9.other W11 hne
  have F17 : An Z h11 t .byte n g := B.other W11 (Ne.symm ne_a_t)
  refine Go.aloadN X11 52 di4_51 rfl rfl ?_
  refine Go.aload X11 54 di4_52 rfl rfl ?_
  refine Go.putF X11 57 (hw _ (List.mem_of_getElem? (i := 26) rfl)) F14 F13 (Or.inr ⟨(hw _ (List.mem_of_getElem? (i := 22) rfl)), rfl, rfl⟩) (hw _ (List.mem_of_getElem? (i := 7) rfl)) (ty := (.array .byte)) (by decide) rfl rfl na di4_54 ?_
  intro T18 h18 X18 W18
  have K19 : Keep h0 h18 [a] := K12.wr W18 (Or.inl (List.mem_of_getElem? (i := 0) rfl))
  have F20 : Exa Z h18 a "java/lang/String" := F13.wr W18
  have F21 : Fld Z h18 a "java/lang/String" "value" "[B" (.ref t) := F14.same W18
  have F22 : Fld Z h18 a "java/lang/String" "coder" "B" (.int (0 : Int32)) := F15.other W18 (Or.inr (slot_ne (Or.inr (hw _ (List.mem_of_getElem? (i := 23) rfl))) (Or.inr (hw _ (List.mem_of_getElem? (i := 22) rfl))) (by decide) (t := .byte) (t' := (.array .byte)) (by decide) (by decide)))
  have F23 : An Z h18 src .char n f := F16.other W18 hne
  have F24 : An Z h18 t .byte n g := F17.other W18 (Ne.symm ne_a_t)
  exact Go.retV X18 rfl di4_57 (X18.fin ⟨rfl, t, K19, si_t, F20, F21, by omega, hf, Or.inl ⟨F22, g, F24, hg⟩⟩ (by decide) (by decide))
theorem di1_0 : decode jdk_42_method_3_code 0 = .ok (.aload_n 0, 1) := by decide +kernel
theorem di1_1 : decode jdk_42_method_3_code 1 = .ok (.aload_n 1, 1) := by decide +kernel
theorem di1_2 : decode jdk_42_method_3_code 2 = .ok (.iconst 0, 1) := by decide +kernel
theorem di1_3 : decode jdk_42_method_3_code 3 = .ok (.aload_n 1, 1) := by decide +kernel
theorem di1_4 : decode jdk_42_method_3_code 4 = .ok (.arraylength, 1) := by decide +kernel
theorem di1_5 : decode jdk_42_method_3_code 5 = .ok (.aconst_null, 1) := by decide +kernel
theorem di1_6 : decode jdk_42_method_3_code 6 = .ok (.invokespecial 27, 3) := by decide +kernel
theorem di1_9 : decode jdk_42_method_3_code 9 = .ok (.return_, 1) := by decide +kernel
theorem ef_i1 (m : MethodId) (a : Addr) (src : Addr) : entryFrame m #[(.ref a), (.ref src)] 2 = mkF m 0 #[.val (.ref a), .val (.ref src)] [] := by first | (simp [entryFrame, mkF, argsToLocals, Value.category]; done) | rfl
set_option maxRecDepth 65536 in
set_option maxHeartbeats 40000000 in
theorem rm_i1 (l : Launch) (Z : State) (a0 : Array Value) (hw : ∀ d ∈ tables_1, d.before a0 Z = true) (h0 : Heap) (cz : Int32) (SC : Sta Z Z.heap "java/lang/String" "COMPACT_STRINGS" "Z" (.int cz)) (hcz : ¬ cz = 0) (a src : Addr) (n : Nat) (f : Nat → Int32) (hn : 0 < n) (hcap : n ≤ 4) (E : Exa Z h0 a "java/lang/String") (FV : Fld Z h0 a "java/lang/String" "value" "[B" .null) (FC : Fld Z h0 a "java/lang/String" "coder" "B" (.int 0)) (na : Z.heap.size ≤ a) (hne : src ≠ a) (A : An Z h0 src .char n f) (hf : ∀ j, j < n → 0 ≤ (f j).toInt ∧ (f j).toInt < 65536) (hl : ∀ j, j < n → ¬ 255 < f j) :
    Ct l Z [] (⟨"java/lang/String", "<init>", "([C)V"⟩ : MethodName) jdk_42_method_3_code 2 none (⟨3, 1, 4, 52⟩ : Room) #[(.ref a), (.ref src)] h0 (fun v h' => v = none ∧ ∃ t, Keep h0 h' [a] ∧ h0.size ≤ t ∧ Str Z h' a t n f) := by
  refine Ct.of pn_java_lang_String (fun m => ef_i1 m a src) ?_
  intro p e s m below meth c s₁ X0
  refine Go.aloadN X0 1 di1_0 rfl rfl ?_
  refine Go.aloadN X0 2 di1_1 rfl rfl ?_
  refine Go.iconst X0 3 (0 : Int32) di1_2 ?_
  refine Go.aloadN X0 4 di1_3 rfl rfl ?_
  refine Go.alenN X0 5 A di1_4 ?_
  refine Go.aconst_null X0 6 di1_5 ?_
  refine Go.callI X0 9 [(.ref src), (.int (0 : Int32)), (.int (Int32.ofNat n)), .null] [] 0 rfl (hw _ (List.mem_of_getElem? (i := 13) rfl)) (hw _ (List.mem_of_getElem? (i := 14) rfl)) (hw _ (List.mem_of_getElem? (i := 8) rfl)) (by decide) rfl (hw _ (List.mem_of_getElem? (i := 16) rfl)) pd_3 di1_6 (rm_i4 l Z a0 hw h0 cz SC hcz a src n f hn hcap E FV FC na hne A hf hl 0 (Int32.ofNat n) rfl rfl) rfl rfl rfl (Nat.le_of_eq rfl) (by decide) (by decide) (by decide) (by decide) ?_
  rintro T1 v1 L1 X1 ⟨rfl, hq⟩
  show Go p e below _ T1 m 9 #[.val (.ref a), .val (.ref src)] []
  exact Go.retV X1 rfl di1_9 (X1.fin ⟨rfl, hq⟩ (by decide) (by decide))
theorem demp_0 : decode jdk_42_method_55_code 0 = .ok (.aload_n 0, 1) := by decide +kernel
theorem demp_1 : decode jdk_42_method_55_code 1 = .ok (.getfield 9, 3) := by decide +kernel
theorem demp_4 : decode jdk_42_method_55_code 4 = .ok (.arraylength, 1) := by decide +kernel
theorem demp_5 : decode jdk_42_method_55_code 5 = .ok (.ifCond .ne 7, 3) := by decide +kernel
theorem demp_8 : decode jdk_42_method_55_code 8 = .ok (.iconst 1, 1) := by decide +kernel
theorem demp_9 : decode jdk_42_method_55_code 9 = .ok (.goto 4, 3) := by decide +kernel
theorem demp_12 : decode jdk_42_method_55_code 12 = .ok (.iconst 0, 1) := by decide +kernel
theorem demp_13 : decode jdk_42_method_55_code 13 = .ok (.ireturn, 1) := by decide +kernel
theorem ef_emp (m : MethodId) (a : Addr) : entryFrame m #[(.ref a)] 1 = mkF m 0 #[.val (.ref a)] [] := by first | (simp [entryFrame, mkF, argsToLocals, Value.category]; done) | rfl
set_option maxRecDepth 65536 in
set_option maxHeartbeats 40000000 in
theorem rm_emp (l : Launch) (Z : State) (a0 : Array Value) (hw : ∀ d ∈ tables_1, d.before a0 Z = true) (h0 : Heap) (a t : Addr) (n : Nat) (f : Nat → Int32) (S : Str Z h0 a t n f) :
    Ct l Z [] (⟨"java/lang/String", "isEmpty", "()Z"⟩ : MethodName) jdk_42_method_55_code 1 (some .boolean) (⟨0, 0, 0, 0⟩ : Room) #[(.ref a)] h0 (Pu h0 (.int (if n = 0 then 1 else 0))) := by
  refine Ct.of pn_java_lang_String (fun m => ef_emp m a) ?_
  intro p e s m below meth c s₁ X0
  obtain ⟨S1, S2, S3, S4, ⟨S5, g, A, G⟩ | ⟨S5, S6, g, A, G⟩⟩ := S
  · by_cases q : n = 0
    · skip
      refine Go.aloadN X0 1 demp_0 rfl rfl ?_
      refine Go.getF X0 4 (hw _ (List.mem_of_getElem? (i := 26) rfl)) S2 demp_1 ?_
      intro T1 X1
      refine Go.alenN X1 5 A demp_4 ?_
      refine Go.if0N X1 8 demp_5 (XT.i0_ne_f (by rw [q]; rfl)) ?_
      refine Go.iconst X1 9 (1 : Int32) demp_8 ?_
      refine Go.goto X1 13 demp_9 ?_
      exact Go.retI X1 rfl (by simp) rfl demp_13 (X1.fin ⟨by simp [q], rfl⟩ (by decide) (by decide))
    · skip
      refine Go.aloadN X0 1 demp_0 rfl rfl ?_
      refine Go.getF X0 4 (hw _ (List.mem_of_getElem? (i := 26) rfl)) S2 demp_1 ?_
      intro T2 X2
      refine Go.alenN X2 5 A demp_4 ?_
      refine Go.if0Y X2 12 demp_5 (XT.i0_ne_t (n_ne0 (by omega) (by omega))) ?_
      refine Go.iconst X2 13 (0 : Int32) demp_12 ?_
      exact Go.retI X2 rfl (by simp) rfl demp_13 (X2.fin ⟨by simp [q], rfl⟩ (by decide) (by decide))
  · by_cases q : n = 0
    · skip
      refine Go.aloadN X0 1 demp_0 rfl rfl ?_
      refine Go.getF X0 4 (hw _ (List.mem_of_getElem? (i := 26) rfl)) S2 demp_1 ?_
      intro T3 X3
      refine Go.alenN X3 5 A demp_4 ?_
      refine Go.if0N X3 8 demp_5 (XT.i0_ne_f (by rw [q]; rfl)) ?_
      refine Go.iconst X3 9 (1 : Int32) demp_8 ?_
      refine Go.goto X3 13 demp_9 ?_
      exact Go.retI X3 rfl (by simp) rfl demp_13 (X3.fin ⟨by simp [q], rfl⟩ (by decide) (by decide))
    · skip
      refine Go.aloadN X0 1 demp_0 rfl rfl ?_
      refine Go.getF X0 4 (hw _ (List.mem_of_getElem? (i := 26) rfl)) S2 demp_1 ?_
      intro T4 X4
      refine Go.alenN X4 5 A demp_4 ?_
      refine Go.if0Y X4 12 demp_5 (XT.i0_ne_t (n_ne0 (by omega) (by omega))) ?_
      refine Go.iconst X4 13 (0 : Int32) demp_12 ?_
      exact Go.retI X4 rfl (by simp) rfl demp_13 (X4.fin ⟨by simp [q], rfl⟩ (by decide) (by decide))
theorem dcoder_0 : decode jdk_42_method_152_code 0 = .ok (.getstatic 38, 3) := by decide +kernel
theorem dcoder_3 : decode jdk_42_method_152_code 3 = .ok (.ifCond .eq 10, 3) := by decide +kernel
theorem dcoder_6 : decode jdk_42_method_152_code 6 = .ok (.aload_n 0, 1) := by decide +kernel
theorem dcoder_7 : decode jdk_42_method_152_code 7 = .ok (.getfield 15, 3) := by decide +kernel
theorem dcoder_10 : decode jdk_42_method_152_code 10 = .ok (.goto 4, 3) := by decide +kernel
theorem dcoder_13 : decode jdk_42_method_152_code 13 = .ok (.iconst 1, 1) := by decide +kernel
theorem dcoder_14 : decode jdk_42_method_152_code 14 = .ok (.ireturn, 1) := by decide +kernel
theorem ef_coder (m : MethodId) (a : Addr) : entryFrame m #[(.ref a)] 1 = mkF m 0 #[.val (.ref a)] [] := by first | (simp [entryFrame, mkF, argsToLocals, Value.category]; done) | rfl
set_option maxRecDepth 65536 in
set_option maxHeartbeats 40000000 in
theorem rm_coder (l : Launch) (Z : State) (a0 : Array Value) (hw : ∀ d ∈ tables_1, d.before a0 Z = true) (h0 : Heap) (cz : Int32) (SC : Sta Z Z.heap "java/lang/String" "COMPACT_STRINGS" "Z" (.int cz)) (hcz : ¬ cz = 0) (a : Addr) (z : Int32) (hz : z = 0 ∨ z = 1) (F : Fld Z h0 a "java/lang/String" "coder" "B" (.int z)) :
    Ct l Z [] (⟨"java/lang/String", "coder", "()B"⟩ : MethodName) jdk_42_method_152_code 1 (some .byte) (⟨0, 0, 0, 0⟩ : Room) #[(.ref a)] h0 (Pu h0 (.int z)) := by
  refine Ct.of pn_java_lang_String (fun m => ef_coder m a) ?_
  intro p e s m below meth c s₁ X0
  refine Go.getS X0 3 (hw _ (List.mem_of_getElem? (i := 40) rfl)) SC dcoder_0 ?_
  intro T1 X1
  refine Go.if0N X1 6 dcoder_3 (XT.i0_eq_f hcz) ?_
  refine Go.aloadN X1 7 dcoder_6 rfl rfl ?_
  refine Go.getF X1 10 (hw _ (List.mem_of_getElem? (i := 27) rfl)) F dcoder_7 ?_
  intro T2 X2
  refine Go.goto X2 14 dcoder_10 ?_
  exact Go.retI X2 rfl (by simp) (by rcases hz with rfl | rfl <;> rfl) dcoder_14 (X2.fin ⟨rfl, rfl⟩ (by decide) (by decide))
theorem dlat_0 : decode jdk_42_method_154_code 0 = .ok (.getstatic 38, 3) := by decide +kernel
theorem dlat_3 : decode jdk_42_method_154_code 3 = .ok (.ifCond .eq 14, 3) := by decide +kernel
theorem dlat_6 : decode jdk_42_method_154_code 6 = .ok (.aload_n 0, 1) := by decide +kernel
theorem dlat_7 : decode jdk_42_method_154_code 7 = .ok (.getfield 15, 3) := by decide +kernel
theorem dlat_10 : decode jdk_42_method_154_code 10 = .ok (.ifCond .ne 7, 3) := by decide +kernel
theorem dlat_13 : decode jdk_42_method_154_code 13 = .ok (.iconst 1, 1) := by decide +kernel
theorem dlat_14 : decode jdk_42_method_154_code 14 = .ok (.goto 4, 3) := by decide +kernel
theorem dlat_17 : decode jdk_42_method_154_code 17 = .ok (.iconst 0, 1) := by decide +kernel
theorem dlat_18 : decode jdk_42_method_154_code 18 = .ok (.ireturn, 1) := by decide +kernel
theorem ef_lat (m : MethodId) (a : Addr) : entryFrame m #[(.ref a)] 1 = mkF m 0 #[.val (.ref a)] [] := by first | (simp [entryFrame, mkF, argsToLocals, Value.category]; done) | rfl
set_option maxRecDepth 65536 in
set_option maxHeartbeats 40000000 in
theorem rm_lat (l : Launch) (Z : State) (a0 : Array Value) (hw : ∀ d ∈ tables_1, d.before a0 Z = true) (h0 : Heap) (cz : Int32) (SC : Sta Z Z.heap "java/lang/String" "COMPACT_STRINGS" "Z" (.int cz)) (hcz : ¬ cz = 0) (a : Addr) (z r : Int32) (F : Fld Z h0 a "java/lang/String" "coder" "B" (.int z)) (hz : (z = 0 ∧ r = 1) ∨ (z = 1 ∧ r = 0)) :
    Ct l Z [] (⟨"java/lang/String", "isLatin1", "()Z"⟩ : MethodName) jdk_42_method_154_code 1 (some .boolean) (⟨0, 0, 0, 0⟩ : Room) #[(.ref a)] h0 (Pu h0 (.int r)) := by
  refine Ct.of pn_java_lang_String (fun m => ef_lat m a) ?_
  intro p e s m below meth c s₁ X0
  rcases hz with ⟨rfl, rfl⟩ | ⟨rfl, rfl⟩
  · skip
    refine Go.getS X0 3 (hw _ (List.mem_of_getElem? (i := 40) rfl)) SC dlat_0 ?_
    intro T1 X1
    refine Go.if0N X1 6 dlat_3 (XT.i0_eq_f hcz) ?_
    refine Go.aloadN X1 7 dlat_6 rfl rfl ?_
    refine Go.getF X1 10 (hw _ (List.mem_of_getElem? (i := 27) rfl)) F dlat_7 ?_
    intro T2 X2
    refine Go.if0N X2 13 dlat_10 (XT.i0_ne_f (by decide)) ?_
    refine Go.iconst X2 14 (1 : Int32) dlat_13 ?_
    refine Go.goto X2 18 dlat_14 ?_
    exact Go.retI X2 rfl (by simp) rfl dlat_18 (X2.fin ⟨rfl, rfl⟩ (by decide) (by decide))
  · skip
    refine Go.getS X0 3 (hw _ (List.mem_of_getElem? (i := 40) rfl)) SC dlat_0 ?_
    intro T3 X3
    refine Go.if0N X3 6 dlat_3 (XT.i0_eq_f hcz) ?_
    refine Go.aloadN X3 7 dlat_6 rfl rfl ?_
    refine Go.getF X3 10 (hw _ (List.mem_of_getElem? (i := 27) rfl)) F dlat_7 ?_
    intro T4 X4
    refine Go.if0Y X4 17 dlat_10 (XT.i0_ne_t (by decide)) ?_
    refine Go.iconst X4 18 (0 : Int32) dlat_17 ?_
    exact Go.retI X4 rfl (by simp) rfl dlat_18 (X4.fin ⟨rfl, rfl⟩ (by decide) (by decide))
theorem n_sh0 (x : Int32) : x >>> ((0 : Int32) &&& 31) = x := by
  apply Int32.toInt_inj.mp
  rw [c_ishr x 0 0 (by decide)]
  simp
theorem n_sh1 {n : Nat} (h : n < 1073741823) : Int32.ofNat (2 * n) >>> ((1 : Int32) &&& 31) = Int32.ofNat n := by
  apply Int32.toInt_inj.mp
  rw [c_ishr _ 1 1 (by decide), n_int (by omega), n_int (by omega)]
  have : ((2 ^ 1 : Nat) : Int) = 2 := by decide
  rw [this]
  omega
theorem dlen_0 : decode jdk_42_method_54_code 0 = .ok (.aload_n 0, 1) := by decide +kernel
theorem dlen_1 : decode jdk_42_method_54_code 1 = .ok (.getfield 9, 3) := by decide +kernel
theorem dlen_4 : decode jdk_42_method_54_code 4 = .ok (.arraylength, 1) := by decide +kernel
theorem dlen_5 : decode jdk_42_method_54_code 5 = .ok (.aload_n 0, 1) := by decide +kernel
theorem dlen_6 : decode jdk_42_method_54_code 6 = .ok (.invokevirtual 335, 3) := by decide +kernel
theorem dlen_9 : decode jdk_42_method_54_code 9 = .ok (.ishr, 1) := by decide +kernel
theorem dlen_10 : decode jdk_42_method_54_code 10 = .ok (.ireturn, 1) := by decide +kernel
theorem ef_len (m : MethodId) (a : Addr) : entryFrame m #[(.ref a)] 1 = mkF m 0 #[.val (.ref a)] [] := by first | (simp [entryFrame, mkF, argsToLocals, Value.category]; done) | rfl
set_option maxRecDepth 65536 in
set_option maxHeartbeats 40000000 in
theorem rm_len (l : Launch) (Z : State) (a0 : Array Value) (hw : ∀ d ∈ tables_1, d.before a0 Z = true) (h0 : Heap) (cz : Int32) (SC : Sta Z Z.heap "java/lang/String" "COMPACT_STRINGS" "Z" (.int cz)) (hcz : ¬ cz = 0) (a t : Addr) (n : Nat) (f : Nat → Int32) (S : Str Z h0 a t n f) :
    Ct l Z [] (⟨"java/lang/String", "length", "()I"⟩ : MethodName) jdk_42_method_54_code 1 (some .int) (⟨1, 0, 0, 13⟩ : Room) #[(.ref a)] h0 (Pu h0 (.int (Int32.ofNat n))) := by
  refine Ct.of pn_java_lang_String (fun m => ef_len m a) ?_
  intro p e s m below meth c s₁ X0
  obtain ⟨S1, S2, S3, S4, ⟨S5, g, A, G⟩ | ⟨S5, S6, g, A, G⟩⟩ := S
  · skip
    refine Go.aloadN X0 1 dlen_0 rfl rfl ?_
    refine Go.getF X0 4 (hw _ (List.mem_of_getElem? (i := 26) rfl)) S2 dlen_1 ?_
    intro T1 X1
    refine Go.alenN X1 5 A dlen_4 ?_
    refine Go.aloadN X1 6 dlen_5 rfl rfl ?_
    refine Go.callVP X1 9 [] [(.int (Int32.ofNat n))] 1 (hw _ (List.mem_of_getElem? (i := 59) rfl)) (hw _ (List.mem_of_getElem? (i := 60) rfl)) (hw _ (List.mem_of_getElem? (i := 62) rfl)) (notFace_of_selects (args := #[]) (mvT X1.hZ (hw _ (List.mem_of_getElem? (i := 62) rfl)))) (hw _ (List.mem_of_getElem? (i := 61) rfl)) (hw _ (List.mem_of_getElem? (i := 8) rfl)) (by decide) S1 (hw _ (List.mem_of_getElem? (i := 63) rfl)) pd_4 dlen_6 (rm_coder l Z a0 hw h0 cz SC hcz a 0 (Or.inl rfl) S5) rfl rfl rfl (Nat.le_of_eq rfl) (by decide) (by decide) (by decide) (by decide) ?_
    intro T2 L2 X2
    refine Go.ishr X2 10 dlen_9 ?_
    rw [n_sh0]
    exact Go.retI X2 rfl (by simp) rfl dlen_10 (X2.fin ⟨rfl, rfl⟩ (by decide) (by decide))
  · skip
    refine Go.aloadN X0 1 dlen_0 rfl rfl ?_
    refine Go.getF X0 4 (hw _ (List.mem_of_getElem? (i := 26) rfl)) S2 dlen_1 ?_
    intro T3 X3
    refine Go.alenN X3 5 A dlen_4 ?_
    refine Go.aloadN X3 6 dlen_5 rfl rfl ?_
    refine Go.callVP X3 9 [] [(.int (Int32.ofNat (2 * n)))] 1 (hw _ (List.mem_of_getElem? (i := 59) rfl)) (hw _ (List.mem_of_getElem? (i := 60) rfl)) (hw _ (List.mem_of_getElem? (i := 62) rfl)) (notFace_of_selects (args := #[]) (mvT X3.hZ (hw _ (List.mem_of_getElem? (i := 62) rfl)))) (hw _ (List.mem_of_getElem? (i := 61) rfl)) (hw _ (List.mem_of_getElem? (i := 8) rfl)) (by decide) S1 (hw _ (List.mem_of_getElem? (i := 63) rfl)) pd_4 dlen_6 (rm_coder l Z a0 hw h0 cz SC hcz a 1 (Or.inr rfl) S5) rfl rfl rfl (Nat.le_of_eq rfl) (by decide) (by decide) (by decide) (by decide) ?_
    intro T4 L4 X4
    refine Go.ishr X4 10 dlen_9 ?_
    rw [n_sh1 S3]
    exact Go.retI X4 rfl (by simp) rfl dlen_10 (X4.fin ⟨rfl, rfl⟩ (by decide) (by decide))
theorem pn_jdk_internal_util_Preconditions : plainName "jdk/internal/util/Preconditions" = true := by first | (simp [plainName, overriddenIn]; done) | decide +kernel
theorem dpci_0 : decode jdk_41_method_11_code 0 = .ok (.iload_n 0, 1) := by decide +kernel
theorem dpci_1 : decode jdk_41_method_11_code 1 = .ok (.ifCond .lt 8, 3) := by decide +kernel
theorem dpci_4 : decode jdk_41_method_11_code 4 = .ok (.iload_n 0, 1) := by decide +kernel
theorem dpci_5 : decode jdk_41_method_11_code 5 = .ok (.iload_n 1, 1) := by decide +kernel
theorem dpci_6 : decode jdk_41_method_11_code 6 = .ok (.if_icmp .lt 10, 3) := by decide +kernel
theorem dpci_9 : decode jdk_41_method_11_code 9 = .ok (.aload_n 2, 1) := by decide +kernel
theorem dpci_10 : decode jdk_41_method_11_code 10 = .ok (.iload_n 0, 1) := by decide +kernel
theorem dpci_11 : decode jdk_41_method_11_code 11 = .ok (.iload_n 1, 1) := by decide +kernel
theorem dpci_12 : decode jdk_41_method_11_code 12 = .ok (.invokestatic 95, 3) := by decide +kernel
theorem dpci_15 : decode jdk_41_method_11_code 15 = .ok (.athrow, 1) := by decide +kernel
theorem dpci_16 : decode jdk_41_method_11_code 16 = .ok (.iload_n 0, 1) := by decide +kernel
theorem dpci_17 : decode jdk_41_method_11_code 17 = .ok (.ireturn, 1) := by decide +kernel
theorem ef_pci (m : MethodId) (i : Int32) (n : Int32) (wf : Value) (h_wf : wf.isRef = true) : entryFrame m #[(.int i), (.int n), wf] 3 = mkF m 0 #[.val (.int i), .val (.int n), .val wf] [] := by rcases XT.refc h_wf with rfl | ⟨_, rfl⟩ <;> first | (simp [entryFrame, mkF, argsToLocals, Value.category]; done) | rfl
set_option maxRecDepth 65536 in
set_option maxHeartbeats 40000000 in
theorem rm_pci (l : Launch) (Z : State) (a0 : Array Value) (hw : ∀ d ∈ tables_1, d.before a0 Z = true) (h0 : Heap) (i n : Int32) (wf : Value) (hwf : wf.isRef = true) (h1 : ¬ i < 0) (h2 : i < n) :
    Ct l Z [] (⟨"jdk/internal/util/Preconditions", "checkIndex", "(IILjava/util/function/BiFunction;)I"⟩ : MethodName) jdk_41_method_11_code 3 (some .int) (⟨0, 0, 0, 0⟩ : Room) #[(.int i), (.int n), wf] h0 (Pu h0 (.int i)) := by
  refine Ct.of pn_jdk_internal_util_Preconditions (fun m => ef_pci m i n wf hwf) ?_
  intro p e s m below meth c s₁ X0
  refine Go.iloadN X0 1 dpci_0 rfl ?_
  refine Go.if0N X0 4 dpci_1 (XT.i0_lt_f h1) ?_
  refine Go.iloadN X0 5 dpci_4 rfl ?_
  refine Go.iloadN X0 6 dpci_5 rfl ?_
  refine Go.icmpY X0 16 dpci_6 (XT.ii_lt_t h2) ?_
  refine Go.iloadN X0 17 dpci_16 rfl ?_
  exact Go.retI X0 rfl (by simp) rfl dpci_17 (X0.fin ⟨rfl, rfl⟩ (by decide) (by decide))
theorem dsci_0 : decode jdk_42_method_155_code 0 = .ok (.iload_n 0, 1) := by decide +kernel
theorem dsci_1 : decode jdk_42_method_155_code 1 = .ok (.iload_n 1, 1) := by decide +kernel
theorem dsci_2 : decode jdk_42_method_155_code 2 = .ok (.getstatic 1053, 3) := by decide +kernel
theorem dsci_5 : decode jdk_42_method_155_code 5 = .ok (.invokestatic 1059, 3) := by decide +kernel
theorem dsci_8 : decode jdk_42_method_155_code 8 = .ok (.pop, 1) := by decide +kernel
theorem dsci_9 : decode jdk_42_method_155_code 9 = .ok (.return_, 1) := by decide +kernel
theorem ef_sci (m : MethodId) (i : Int32) (n : Int32) : entryFrame m #[(.int i), (.int n)] 2 = mkF m 0 #[.val (.int i), .val (.int n)] [] := by first | (simp [entryFrame, mkF, argsToLocals, Value.category]; done) | rfl
set_option maxRecDepth 65536 in
set_option maxHeartbeats 40000000 in
theorem rm_sci (l : Launch) (Z : State) (a0 : Array Value) (hw : ∀ d ∈ tables_1, d.before a0 Z = true) (h0 : Heap) (wf : Value) (hwf : wf.isRef = true) (SF : Sta Z Z.heap "jdk/internal/util/Preconditions" "SIOOBE_FORMATTER" "Ljava/util/function/BiFunction;" wf) (i n : Int32) (h1 : ¬ i < 0) (h2 : i < n) :
    Ct l Z [] (⟨"java/lang/String", "checkIndex", "(II)V"⟩ : MethodName) jdk_42_method_155_code 2 none (⟨1, 0, 0, 14⟩ : Room) #[(.int i), (.int n)] h0 (fun v h' => v = none ∧ h' = h0) := by
  refine Ct.of pn_java_lang_String (fun m => ef_sci m i n) ?_
  intro p e s m below meth c s₁ X0
  refine Go.iloadN X0 1 dsci_0 rfl ?_
  refine Go.iloadN X0 2 dsci_1 rfl ?_
  refine Go.getS X0 5 (hw _ (List.mem_of_getElem? (i := 81) rfl)) SF dsci_2 ?_
  intro T1 X1
  refine Go.callSP X1 8 [(.int i), (.int n), wf] [] 0 (hw _ (List.mem_of_getElem? (i := 83) rfl)) (hw _ (List.mem_of_getElem? (i := 84) rfl)) (hw _ (List.mem_of_getElem? (i := 82) rfl)) (by decide) (hw _ (List.mem_of_getElem? (i := 85) rfl)) pd_5 dsci_5 (rm_pci l Z a0 hw h0 i n wf hwf h1 h2) rfl rfl rfl (Nat.le_of_eq rfl) (by decide) (by decide) (by decide) (by decide) ?_
  intro T2 L2 X2
  refine Go.pop X2 9 dsci_8 rfl ?_
  exact Go.retV X2 rfl dsci_9 (X2.fin ⟨rfl, rfl⟩ (by decide) (by decide))
theorem pn_java_lang_StringLatin1 : plainName "java/lang/StringLatin1" = true := by first | (simp [plainName, overriddenIn]; done) | decide +kernel
theorem dl1c_0 : decode jdk_43_method_2_code 0 = .ok (.iload_n 1, 1) := by decide +kernel
theorem dl1c_1 : decode jdk_43_method_2_code 1 = .ok (.aload_n 0, 1) := by decide +kernel
theorem dl1c_2 : decode jdk_43_method_2_code 2 = .ok (.arraylength, 1) := by decide +kernel
theorem dl1c_3 : decode jdk_43_method_2_code 3 = .ok (.invokestatic 9, 3) := by decide +kernel
theorem dl1c_6 : decode jdk_43_method_2_code 6 = .ok (.aload_n 0, 1) := by decide +kernel
theorem dl1c_7 : decode jdk_43_method_2_code 7 = .ok (.iload_n 1, 1) := by decide +kernel
theorem dl1c_8 : decode jdk_43_method_2_code 8 = .ok (.baload, 1) := by decide +kernel
theorem dl1c_9 : decode jdk_43_method_2_code 9 = .ok (.sipush 255, 3) := by decide +kernel
theorem dl1c_12 : decode jdk_43_method_2_code 12 = .ok (.iand, 1) := by decide +kernel
theorem dl1c_13 : decode jdk_43_method_2_code 13 = .ok (.i2c, 1) := by decide +kernel
theorem dl1c_14 : decode jdk_43_method_2_code 14 = .ok (.ireturn, 1) := by decide +kernel
theorem ef_l1c (m : MethodId) (t : Addr) (z : Int32) : entryFrame m #[(.ref t), (.int z)] 2 = mkF m 0 #[.val (.ref t), .val (.int z)] [] := by first | (simp [entryFrame, mkF, argsToLocals, Value.category]; done) | rfl
set_option maxRecDepth 65536 in
set_option maxHeartbeats 40000000 in
theorem rm_l1c (l : Launch) (Z : State) (a0 : Array Value) (hw : ∀ d ∈ tables_1, d.before a0 Z = true) (h0 : Heap) (wf : Value) (hwf : wf.isRef = true) (SF : Sta Z Z.heap "jdk/internal/util/Preconditions" "SIOOBE_FORMATTER" "Ljava/util/function/BiFunction;" wf) (t : Addr) (z : Int32) (n i : Nat) (g : Nat → Int32) (x : Int32) (hz : z = Int32.ofNat i) (A : An Z h0 t .byte n g) (hi : i < n) (hx : g i = x.toInt8.toInt32) (h0x : 0 ≤ x.toInt) (h1x : ¬ 255 < x) :
    Ct l Z [] (⟨"java/lang/StringLatin1", "charAt", "([BI)C"⟩ : MethodName) jdk_43_method_2_code 2 (some .char) (⟨2, 0, 0, 27⟩ : Room) #[(.ref t), (.int z)] h0 (Pu h0 (.int x)) := by
  refine Ct.of pn_java_lang_StringLatin1 (fun m => ef_l1c m t z) ?_
  intro p e s m below meth c s₁ X0
  subst hz
  refine Go.iloadN X0 1 dl1c_0 rfl ?_
  refine Go.aloadN X0 2 dl1c_1 rfl rfl ?_
  refine Go.alenN X0 3 A dl1c_2 ?_
  refine Go.callS X0 6 [(.int (Int32.ofNat i)), (.int (Int32.ofNat n))] [] 0 (hw _ (List.mem_of_getElem? (i := 78) rfl)) (hw _ (List.mem_of_getElem? (i := 79) rfl)) (hw _ (List.mem_of_getElem? (i := 8) rfl)) (by decide) (hw _ (List.mem_of_getElem? (i := 80) rfl)) pd_6 dl1c_3 (rm_sci l Z a0 hw h0 wf hwf SF (Int32.ofNat i) (Int32.ofNat n) (A.inb hi).1 (A.inb hi).2) rfl rfl rfl (Nat.le_of_eq rfl) (by decide) (by decide) (by decide) (by decide) ?_
  rintro T1 v1 L1 X1 ⟨rfl, hh⟩
  rw [hh] at X1
  show Go p e below _ T1 m 6 #[.val (.ref t), .val (.int (Int32.ofNat i))] []
  refine Go.aloadN X1 7 dl1c_6 rfl rfl ?_
  refine Go.iloadN X1 8 dl1c_7 rfl ?_
  refine Go.baN X1 9 A i hi dl1c_8 ?_
  rw [hx]
  refine Go.sipush X1 12 (255 : Int32) dl1c_9 ?_
  refine Go.iand X1 13 dl1c_12 ?_
  rw [n_low h0x h1x]
  refine Go.i2c X1 14 dl1c_13 ?_
  rw [n_chr h0x (n_le h1x)]
  exact Go.retI X1 rfl (by simp) (n_nar h0x (n_le h1x)) dl1c_14 (X1.fin ⟨rfl, rfl⟩ (by decide) (by decide))
theorem dchat_0 : decode jdk_42_method_56_code 0 = .ok (.aload_n 0, 1) := by decide +kernel
theorem dchat_1 : decode jdk_42_method_56_code 1 = .ok (.invokevirtual 492, 3) := by decide +kernel
theorem dchat_4 : decode jdk_42_method_56_code 4 = .ok (.ifCond .eq 12, 3) := by decide +kernel
theorem dchat_7 : decode jdk_42_method_56_code 7 = .ok (.aload_n 0, 1) := by decide +kernel
theorem dchat_8 : decode jdk_42_method_56_code 8 = .ok (.getfield 9, 3) := by decide +kernel
theorem dchat_11 : decode jdk_42_method_56_code 11 = .ok (.iload_n 1, 1) := by decide +kernel
theorem dchat_12 : decode jdk_42_method_56_code 12 = .ok (.invokestatic 495, 3) := by decide +kernel
theorem dchat_15 : decode jdk_42_method_56_code 15 = .ok (.ireturn, 1) := by decide +kernel
theorem dchat_16 : decode jdk_42_method_56_code 16 = .ok (.aload_n 0, 1) := by decide +kernel
theorem dchat_17 : decode jdk_42_method_56_code 17 = .ok (.getfield 9, 3) := by decide +kernel
theorem dchat_20 : decode jdk_42_method_56_code 20 = .ok (.iload_n 1, 1) := by decide +kernel
theorem dchat_21 : decode jdk_42_method_56_code 21 = .ok (.invokestatic 498, 3) := by decide +kernel
theorem dchat_24 : decode jdk_42_method_56_code 24 = .ok (.ireturn, 1) := by decide +kernel
theorem ef_chat (m : MethodId) (a : Addr) (z : Int32) : entryFrame m #[(.ref a), (.int z)] 2 = mkF m 0 #[.val (.ref a), .val (.int z)] [] := by first | (simp [entryFrame, mkF, argsToLocals, Value.category]; done) | rfl
set_option maxRecDepth 65536 in
set_option maxHeartbeats 40000000 in
theorem rm_chat (l : Launch) (Z : State) (a0 : Array Value) (hw : ∀ d ∈ tables_1, d.before a0 Z = true) (h0 : Heap) (cz : Int32) (SC : Sta Z Z.heap "java/lang/String" "COMPACT_STRINGS" "Z" (.int cz)) (hcz : ¬ cz = 0) (wf : Value) (hwf : wf.isRef = true) (SF : Sta Z Z.heap "jdk/internal/util/Preconditions" "SIOOBE_FORMATTER" "Ljava/util/function/BiFunction;" wf) (a t : Addr) (z : Int32) (n i : Nat) (f : Nat → Int32) (hz : z = Int32.ofNat i) (S : Str Z h0 a t n f) (hi : i < n) (hl : ∀ j, j < n → ¬ 255 < f j) :
    Ct l Z [] (⟨"java/lang/String", "charAt", "(I)C"⟩ : MethodName) jdk_42_method_56_code 2 (some .char) (⟨3, 0, 0, 40⟩ : Room) #[(.ref a), (.int z)] h0 (Pu h0 (.int (f i))) := by
  refine Ct.of pn_java_lang_String (fun m => ef_chat m a z) ?_
  intro p e s m below meth c s₁ X0
  subst hz
  obtain ⟨S5, g, A, G⟩ := S.lat hl
  obtain ⟨S1, S2, S3, S4, -⟩ := S
  refine Go.aloadN X0 1 dchat_0 rfl rfl ?_
  refine Go.callVP X0 4 [] [] 0 (hw _ (List.mem_of_getElem? (i := 69) rfl)) (hw _ (List.mem_of_getElem? (i := 70) rfl)) (hw _ (List.mem_of_getElem? (i := 72) rfl)) (notFace_of_selects (args := #[]) (mvT X0.hZ (hw _ (List.mem_of_getElem? (i := 72) rfl)))) (hw _ (List.mem_of_getElem? (i := 71) rfl)) (hw _ (List.mem_of_getElem? (i := 8) rfl)) (by decide) S1 (hw _ (List.mem_of_getElem? (i := 73) rfl)) pd_7 dchat_1 (rm_lat l Z a0 hw h0 cz SC hcz a 0 1 S5 (Or.inl ⟨rfl, rfl⟩)) rfl rfl rfl (Nat.le_of_eq rfl) (by decide) (by decide) (by decide) (by decide) ?_
  intro T1 L1 X1
  refine Go.if0N X1 7 dchat_4 (XT.i0_eq_f (by decide)) ?_
  refine Go.aloadN X1 8 dchat_7 rfl rfl ?_
  refine Go.getF X1 11 (hw _ (List.mem_of_getElem? (i := 26) rfl)) S2 dchat_8 ?_
  intro T2 X2
  refine Go.iloadN X2 12 dchat_11 rfl ?_
  refine Go.callSP X2 15 [(.ref t), (.int (Int32.ofNat i))] [] 0 (hw _ (List.mem_of_getElem? (i := 74) rfl)) (hw _ (List.mem_of_getElem? (i := 75) rfl)) (hw _ (List.mem_of_getElem? (i := 76) rfl)) (by decide) (hw _ (List.mem_of_getElem? (i := 77) rfl)) pd_8 dchat_12 (rm_l1c l Z a0 hw h0 wf hwf SF t (Int32.ofNat i) n i g (f i) rfl A hi (G i hi).2 (S4 i hi).1 (G i hi).1) rfl rfl rfl (Nat.le_of_eq rfl) (by decide) (by decide) (by decide) (by decide) ?_
  intro T3 L3 X3
  exact Go.retI X3 rfl (by simp) (n_nar (S4 i hi).1 (S4 i hi).2) dchat_15 (X3.fin ⟨rfl, rfl⟩ (by decide) (by decide))
theorem dceI_0 : decode jdk_43_method_4_code 0 = .ok (.iload_n 0, 1) := by decide +kernel
theorem dceI_1 : decode jdk_43_method_4_code 1 = .ok (.ifCond .lt 14, 3) := by decide +kernel
theorem dceI_4 : decode jdk_43_method_4_code 4 = .ok (.iload_n 0, 1) := by decide +kernel
theorem dceI_5 : decode jdk_43_method_4_code 5 = .ok (.sipush 255, 3) := by decide +kernel
theorem dceI_8 : decode jdk_43_method_4_code 8 = .ok (.if_icmp .gt 7, 3) := by decide +kernel
theorem dceI_11 : decode jdk_43_method_4_code 11 = .ok (.iconst 1, 1) := by decide +kernel
theorem dceI_12 : decode jdk_43_method_4_code 12 = .ok (.goto 4, 3) := by decide +kernel
theorem dceI_15 : decode jdk_43_method_4_code 15 = .ok (.iconst 0, 1) := by decide +kernel
theorem dceI_16 : decode jdk_43_method_4_code 16 = .ok (.ireturn, 1) := by decide +kernel
theorem ef_ceI (m : MethodId) (c0 : Int32) : entryFrame m #[(.int c0)] 1 = mkF m 0 #[.val (.int c0)] [] := by first | (simp [entryFrame, mkF, argsToLocals, Value.category]; done) | rfl
set_option maxRecDepth 65536 in
set_option maxHeartbeats 40000000 in
theorem rm_ceI (l : Launch) (Z : State) (a0 : Array Value) (hw : ∀ d ∈ tables_1, d.before a0 Z = true) (h0 : Heap) (c0 : Int32) (h1 : ¬ c0 < 0) (h2 : ¬ 255 < c0) :
    Ct l Z [] (⟨"java/lang/StringLatin1", "canEncode", "(I)Z"⟩ : MethodName) jdk_43_method_4_code 1 (some .boolean) (⟨0, 0, 0, 0⟩ : Room) #[(.int c0)] h0 (Pu h0 (.int 1)) := by
  refine Ct.of pn_java_lang_StringLatin1 (fun m => ef_ceI m c0) ?_
  intro p e s m below meth c s₁ X0
  refine Go.iloadN X0 1 dceI_0 rfl ?_
  refine Go.if0N X0 4 dceI_1 (XT.i0_lt_f h1) ?_
  refine Go.iloadN X0 5 dceI_4 rfl ?_
  refine Go.sipush X0 8 (255 : Int32) dceI_5 ?_
  refine Go.icmpN X0 11 dceI_8 (XT.ii_gt_f h2) ?_
  refine Go.iconst X0 12 (1 : Int32) dceI_11 ?_
  refine Go.goto X0 16 dceI_12 ?_
  exact Go.retI X0 rfl (by simp) rfl dceI_16 (X0.fin ⟨rfl, rfl⟩ (by decide) (by decide))
theorem dmax_0 : decode jdk_29_method_65_code 0 = .ok (.iload_n 0, 1) := by decide +kernel
theorem dmax_1 : decode jdk_29_method_65_code 1 = .ok (.iload_n 1, 1) := by decide +kernel
theorem dmax_2 : decode jdk_29_method_65_code 2 = .ok (.if_icmp .lt 7, 3) := by decide +kernel
theorem dmax_5 : decode jdk_29_method_65_code 5 = .ok (.iload_n 0, 1) := by decide +kernel
theorem dmax_6 : decode jdk_29_method_65_code 6 = .ok (.goto 4, 3) := by decide +kernel
theorem dmax_9 : decode jdk_29_method_65_code 9 = .ok (.iload_n 1, 1) := by decide +kernel
theorem dmax_10 : decode jdk_29_method_65_code 10 = .ok (.ireturn, 1) := by decide +kernel
theorem ef_max (m : MethodId) (y : Int32) (z : Int32) : entryFrame m #[(.int y), (.int z)] 2 = mkF m 0 #[.val (.int y), .val (.int z)] [] := by first | (simp [entryFrame, mkF, argsToLocals, Value.category]; done) | rfl
set_option maxRecDepth 65536 in
set_option maxHeartbeats 40000000 in
theorem rm_max (l : Launch) (Z : State) (a0 : Array Value) (hw : ∀ d ∈ tables_1, d.before a0 Z = true) (h0 : Heap) (y z r : Int32) (hr : (y < z ∧ r = z) ∨ (¬ y < z ∧ r = y)) :
    Ct l Z [] (⟨"java/lang/Math", "max", "(II)I"⟩ : MethodName) jdk_29_method_65_code 2 (some .int) (⟨0, 0, 0, 0⟩ : Room) #[(.int y), (.int z)] h0 (Pu h0 (.int r)) := by
  refine Ct.ofF (Jvm.Free.JP.mathPlain rfl (by decide)) (fun m => ef_max m y z) ?_
  intro p e s m below meth c s₁ X0
  rcases hr with ⟨c1, rfl⟩ | ⟨c1, rfl⟩
  · skip
    refine Go.iloadN X0 1 dmax_0 rfl ?_
    refine Go.iloadN X0 2 dmax_1 rfl ?_
    refine Go.icmpY X0 9 dmax_2 (XT.ii_lt_t c1) ?_
    refine Go.iloadN X0 10 dmax_9 rfl ?_
    exact Go.retI X0 rfl (by simp) rfl dmax_10 (X0.fin ⟨rfl, rfl⟩ (by decide) (by decide))
  · skip
    refine Go.iloadN X0 1 dmax_0 rfl ?_
    refine Go.iloadN X0 2 dmax_1 rfl ?_
    refine Go.icmpN X0 5 dmax_2 (XT.ii_lt_f c1) ?_
    refine Go.iloadN X0 6 dmax_5 rfl ?_
    refine Go.goto X0 10 dmax_6 ?_
    exact Go.retI X0 rfl (by simp) rfl dmax_10 (X0.fin ⟨rfl, rfl⟩ (by decide) (by decide))
theorem dmin_0 : decode jdk_29_method_69_code 0 = .ok (.iload_n 0, 1) := by decide +kernel
theorem dmin_1 : decode jdk_29_method_69_code 1 = .ok (.iload_n 1, 1) := by decide +kernel
theorem dmin_2 : decode jdk_29_method_69_code 2 = .ok (.if_icmp .gt 7, 3) := by decide +kernel
theorem dmin_5 : decode jdk_29_method_69_code 5 = .ok (.iload_n 0, 1) := by decide +kernel
theorem dmin_6 : decode jdk_29_method_69_code 6 = .ok (.goto 4, 3) := by decide +kernel
theorem dmin_9 : decode jdk_29_method_69_code 9 = .ok (.iload_n 1, 1) := by decide +kernel
theorem dmin_10 : decode jdk_29_method_69_code 10 = .ok (.ireturn, 1) := by decide +kernel
theorem ef_min (m : MethodId) (y : Int32) (z : Int32) : entryFrame m #[(.int y), (.int z)] 2 = mkF m 0 #[.val (.int y), .val (.int z)] [] := by first | (simp [entryFrame, mkF, argsToLocals, Value.category]; done) | rfl
set_option maxRecDepth 65536 in
set_option maxHeartbeats 40000000 in
theorem rm_min (l : Launch) (Z : State) (a0 : Array Value) (hw : ∀ d ∈ tables_1, d.before a0 Z = true) (h0 : Heap) (y z r : Int32) (hr : (z < y ∧ r = z) ∨ (¬ z < y ∧ r = y)) :
    Ct l Z [] (⟨"java/lang/Math", "min", "(II)I"⟩ : MethodName) jdk_29_method_69_code 2 (some .int) (⟨0, 0, 0, 0⟩ : Room) #[(.int y), (.int z)] h0 (Pu h0 (.int r)) := by
  refine Ct.ofF (Jvm.Free.JP.mathPlain rfl (by decide)) (fun m => ef_min m y z) ?_
  intro p e s m below meth c s₁ X0
  rcases hr with ⟨c1, rfl⟩ | ⟨c1, rfl⟩
  · skip
    refine Go.iloadN X0 1 dmin_0 rfl ?_
    refine Go.iloadN X0 2 dmin_1 rfl ?_
    refine Go.icmpY X0 9 dmin_2 (XT.ii_gt_t c1) ?_
    refine Go.iloadN X0 10 dmin_9 rfl ?_
    exact Go.retI X0 rfl (by simp) rfl dmin_10 (X0.fin ⟨rfl, rfl⟩ (by decide) (by decide))
  · skip
    refine Go.iloadN X0 1 dmin_0 rfl ?_
    refine Go.iloadN X0 2 dmin_1 rfl ?_
    refine Go.icmpN X0 5 dmin_2 (XT.ii_gt_f c1) ?_
    refine Go.iloadN X0 6 dmin_5 rfl ?_
    refine Go.goto X0 10 dmin_6 ?_
    exact Go.retI X0 rfl (by simp) rfl dmin_10 (X0.fin ⟨rfl, rfl⟩ (by decide) (by decide))
theorem dioc_0 : decode jdk_43_method_23_code 0 = .ok (.iload_n 1, 1) := by decide +kernel
theorem dioc_1 : decode jdk_43_method_23_code 1 = .ok (.i2b, 1) := by decide +kernel
theorem dioc_2 : decode jdk_43_method_23_code 2 = .ok (.istore 4, 2) := by decide +kernel
theorem dioc_4 : decode jdk_43_method_23_code 4 = .ok (.iload_n 2, 1) := by decide +kernel
theorem dioc_5 : decode jdk_43_method_23_code 5 = .ok (.istore 5, 2) := by decide +kernel
theorem dioc_7 : decode jdk_43_method_23_code 7 = .ok (.iload 5, 2) := by decide +kernel
theorem dioc_9 : decode jdk_43_method_23_code 9 = .ok (.iload_n 3, 1) := by decide +kernel
theorem dioc_10 : decode jdk_43_method_23_code 10 = .ok (.if_icmp .ge 21, 3) := by decide +kernel
theorem dioc_13 : decode jdk_43_method_23_code 13 = .ok (.aload_n 0, 1) := by decide +kernel
theorem dioc_14 : decode jdk_43_method_23_code 14 = .ok (.iload 5, 2) := by decide +kernel
theorem dioc_16 : decode jdk_43_method_23_code 16 = .ok (.baload, 1) := by decide +kernel
theorem dioc_17 : decode jdk_43_method_23_code 17 = .ok (.iload 4, 2) := by decide +kernel
theorem dioc_19 : decode jdk_43_method_23_code 19 = .ok (.if_icmp .ne 6, 3) := by decide +kernel
theorem dioc_22 : decode jdk_43_method_23_code 22 = .ok (.iload 5, 2) := by decide +kernel
theorem dioc_24 : decode jdk_43_method_23_code 24 = .ok (.ireturn, 1) := by decide +kernel
theorem dioc_25 : decode jdk_43_method_23_code 25 = .ok (.iinc 5 1, 3) := by decide +kernel
theorem dioc_28 : decode jdk_43_method_23_code 28 = .ok (.goto (-21), 3) := by decide +kernel
theorem dioc_31 : decode jdk_43_method_23_code 31 = .ok (.iconst (-1), 1) := by decide +kernel
theorem dioc_32 : decode jdk_43_method_23_code 32 = .ok (.ireturn, 1) := by decide +kernel
def QI (h0 : Heap) (n : Nat) (g : Nat → Int32) (b : Int32) : Option Value → Heap → Prop := fun v h' => h' = h0 ∧ ((∃ r, v = some (.int (Int32.ofNat r)) ∧ r < n ∧ g r = b) ∨ (v = some (.int (-1)) ∧ ∀ j, j < n → ¬ g j = b))
set_option maxRecDepth 65536 in
set_option maxHeartbeats 40000000 in
theorem lp_ioc {p : Program} {l : Launch} {e : Env} {R : Room} {s : State} {m : MethodId} {args : Array Value} {below : List Frame} {meth : Method} {c : Code} {Z : State} {nm : String} {ce sl cells slots : Nat} (hce : cells ≤ ce) (hsl : slots ≤ sl) (t : Addr) (n : Nat) (g : Nat → Int32) (c0 z0 b : Int32) :
    ∀ (k i : Nat), i + k = n → ∀ (T : State) (locs : List Loc) (h : Heap), Cx p l e R s m args below meth c Z "java/lang/StringLatin1" nm jdk_43_method_23_code 6 (some .int) T locs cells slots h → An Z h t .byte n g → (∀ j, j < i → ¬ g j = b) →
      Go p e below (FinN s Z (QI h n g b) ce sl) T m 7 #[.val (.ref t), .val (.int c0), .val (.int z0), .val (.int (Int32.ofNat n)), .val (.int b), .val (.int (Int32.ofNat i))] [] := by
  intro k
  induction k with
  | zero =>
    intro i hi T locs h X0 A hg
    have hin : i = n := by omega
    subst hin
    refine Go.iload X0 9 dioc_7 rfl ?_
    refine Go.iloadN X0 10 dioc_9 rfl ?_
    refine Go.icmpY X0 31 dioc_10 (XT.ii_ge_t (n_nlt (Nat.le_refl _) A.1)) ?_
    refine Go.iconst X0 32 (-1 : Int32) dioc_31 ?_
    exact Go.retI X0 rfl (by simp) rfl dioc_32 (X0.fin ⟨rfl, Or.inr ⟨rfl, hg⟩⟩ hce hsl)
  | succ k ih =>
    intro i hi T locs h X0 A hg
    have hin : i < n := by omega
    refine Go.iload X0 9 dioc_7 rfl ?_
    refine Go.iloadN X0 10 dioc_9 rfl ?_
    refine Go.icmpN X0 13 dioc_10 (XT.ii_ge_f (n_lt hin A.1)) ?_
    refine Go.aloadN X0 14 dioc_13 rfl rfl ?_
    refine Go.iload X0 16 dioc_14 rfl ?_
    refine Go.baN X0 17 A i hin dioc_16 ?_
    refine Go.iload X0 19 dioc_17 rfl ?_
    by_cases c1 : (g i) = b
    · skip
      refine Go.icmpN X0 22 dioc_19 (XT.ii_ne_f c1) ?_
      refine Go.iload X0 24 dioc_22 rfl ?_
      exact Go.retI X0 rfl (by simp) rfl dioc_24 (X0.fin ⟨rfl, Or.inl ⟨i, rfl, hin, c1⟩⟩ hce hsl)
    · skip
      refine Go.icmpY X0 25 dioc_19 (XT.ii_ne_t c1) ?_
      refine Go.iinc X0 28 (1 : Int32) #[.val (.ref t), .val (.int c0), .val (.int z0), .val (.int (Int32.ofNat n)), .val (.int b), .val (.int ((Int32.ofNat i) + (1 : Int32)))] dioc_25 rfl rfl ?_
      refine Go.goto X0 7 dioc_28 ?_
      rw [n_succ]
      refine ih (i + 1) (by omega) _ _ _ X0 A (fun j hj => ?_)
      by_cases q : j = i
      · subst q; exact c1
      · exact hg j (by omega)
theorem ef_ioc (m : MethodId) (t : Addr) (c0 : Int32) (z0 : Int32) (z1 : Int32) : entryFrame m #[(.ref t), (.int c0), (.int z0), (.int z1)] 6 = mkF m 0 #[.val (.ref t), .val (.int c0), .val (.int z0), .val (.int z1), .unset, .unset] [] := by first | (simp [entryFrame, mkF, argsToLocals, Value.category]; done) | rfl
set_option maxRecDepth 65536 in
set_option maxHeartbeats 40000000 in
theorem rm_ioc (l : Launch) (Z : State) (a0 : Array Value) (hw : ∀ d ∈ tables_1, d.before a0 Z = true) (h0 : Heap) (t : Addr) (c0 z0 z1 : Int32) (n : Nat) (g : Nat → Int32) (hz0 : z0 = 0) (hz1 : z1 = Int32.ofNat n) (A : An Z h0 t .byte n g) :
    Ct l Z [] (⟨"java/lang/StringLatin1", "indexOfChar", "([BIII)I"⟩ : MethodName) jdk_43_method_23_code 6 (some .int) (⟨0, 0, 0, 0⟩ : Room) #[(.ref t), (.int c0), (.int z0), (.int z1)] h0 (QI h0 n g c0.toInt8.toInt32) := by
  refine Ct.of pn_java_lang_StringLatin1 (fun m => ef_ioc m t c0 z0 z1) ?_
  intro p e s m below meth c s₁ X0
  subst hz0 hz1
  refine Go.iloadN X0 1 dioc_0 rfl ?_
  refine Go.i2b X0 2 dioc_1 ?_
  refine Go.istore X0 4 #[.val (.ref t), .val (.int c0), .val (.int (0 : Int32)), .val (.int (Int32.ofNat n)), .val (.int c0.toInt8.toInt32), .unset] dioc_2 rfl ?_
  refine Go.iloadN X0 5 dioc_4 rfl ?_
  refine Go.istore X0 7 #[.val (.ref t), .val (.int c0), .val (.int (0 : Int32)), .val (.int (Int32.ofNat n)), .val (.int c0.toInt8.toInt32), .val (.int (0 : Int32))] dioc_5 rfl ?_
  exact lp_ioc (Nat.le_refl _) (Nat.le_refl _) t n g c0 0 _ n 0 (by omega) _ _ h0 X0 A (fun j hj => absurd hj (Nat.not_lt_zero j))
theorem dl1io_0 : decode jdk_43_method_22_code 0 = .ok (.iload_n 1, 1) := by decide +kernel
theorem dl1io_1 : decode jdk_43_method_22_code 1 = .ok (.invokestatic 88, 3) := by decide +kernel
theorem dl1io_4 : decode jdk_43_method_22_code 4 = .ok (.ifCond .ne 5, 3) := by decide +kernel
theorem dl1io_7 : decode jdk_43_method_22_code 7 = .ok (.iconst (-1), 1) := by decide +kernel
theorem dl1io_8 : decode jdk_43_method_22_code 8 = .ok (.ireturn, 1) := by decide +kernel
theorem dl1io_9 : decode jdk_43_method_22_code 9 = .ok (.iload_n 2, 1) := by decide +kernel
theorem dl1io_10 : decode jdk_43_method_22_code 10 = .ok (.iconst 0, 1) := by decide +kernel
theorem dl1io_11 : decode jdk_43_method_22_code 11 = .ok (.invokestatic 92, 3) := by decide +kernel
theorem dl1io_14 : decode jdk_43_method_22_code 14 = .ok (.istore_n 2, 1) := by decide +kernel
theorem dl1io_15 : decode jdk_43_method_22_code 15 = .ok (.iload_n 3, 1) := by decide +kernel
theorem dl1io_16 : decode jdk_43_method_22_code 16 = .ok (.aload_n 0, 1) := by decide +kernel
theorem dl1io_17 : decode jdk_43_method_22_code 17 = .ok (.arraylength, 1) := by decide +kernel
theorem dl1io_18 : decode jdk_43_method_22_code 18 = .ok (.invokestatic 38, 3) := by decide +kernel
theorem dl1io_21 : decode jdk_43_method_22_code 21 = .ok (.istore_n 3, 1) := by decide +kernel
theorem dl1io_22 : decode jdk_43_method_22_code 22 = .ok (.iload_n 2, 1) := by decide +kernel
theorem dl1io_23 : decode jdk_43_method_22_code 23 = .ok (.iload_n 3, 1) := by decide +kernel
theorem dl1io_24 : decode jdk_43_method_22_code 24 = .ok (.if_icmp .lt 5, 3) := by decide +kernel
theorem dl1io_27 : decode jdk_43_method_22_code 27 = .ok (.iconst (-1), 1) := by decide +kernel
theorem dl1io_28 : decode jdk_43_method_22_code 28 = .ok (.ireturn, 1) := by decide +kernel
theorem dl1io_29 : decode jdk_43_method_22_code 29 = .ok (.aload_n 0, 1) := by decide +kernel
theorem dl1io_30 : decode jdk_43_method_22_code 30 = .ok (.iload_n 1, 1) := by decide +kernel
theorem dl1io_31 : decode jdk_43_method_22_code 31 = .ok (.iload_n 2, 1) := by decide +kernel
theorem dl1io_32 : decode jdk_43_method_22_code 32 = .ok (.iload_n 3, 1) := by decide +kernel
theorem dl1io_33 : decode jdk_43_method_22_code 33 = .ok (.invokestatic 95, 3) := by decide +kernel
theorem dl1io_36 : decode jdk_43_method_22_code 36 = .ok (.ireturn, 1) := by decide +kernel
theorem ef_l1io (m : MethodId) (t : Addr) (c0 : Int32) (z0 : Int32) (z1 : Int32) : entryFrame m #[(.ref t), (.int c0), (.int z0), (.int z1)] 4 = mkF m 0 #[.val (.ref t), .val (.int c0), .val (.int z0), .val (.int z1)] [] := by first | (simp [entryFrame, mkF, argsToLocals, Value.category]; done) | rfl
set_option maxRecDepth 65536 in
set_option maxHeartbeats 40000000 in
theorem rm_l1io (l : Launch) (Z : State) (a0 : Array Value) (hw : ∀ d ∈ tables_1, d.before a0 Z = true) (h0 : Heap) (t : Addr) (c0 z0 z1 : Int32) (n : Nat) (g : Nat → Int32) (hz0 : z0 = 0) (hz1 : z1 = Int32.ofNat n) (A : An Z h0 t .byte n g) (h1 : ¬ c0 < 0) (h2 : ¬ 255 < c0) :
    Ct l Z [] (⟨"java/lang/StringLatin1", "indexOf", "([BIII)I"⟩ : MethodName) jdk_43_method_22_code 4 (some .int) (⟨1, 0, 0, 17⟩ : Room) #[(.ref t), (.int c0), (.int z0), (.int z1)] h0 (QI h0 n g c0.toInt8.toInt32) := by
  refine Ct.of pn_java_lang_StringLatin1 (fun m => ef_l1io m t c0 z0 z1) ?_
  intro p e s m below meth c s₁ X0
  subst hz0 hz1
  refine Go.iloadN X0 1 dl1io_0 rfl ?_
  refine Go.callSP X0 4 [(.int c0)] [] 0 (hw _ (List.mem_of_getElem? (i := 103) rfl)) (hw _ (List.mem_of_getElem? (i := 104) rfl)) (hw _ (List.mem_of_getElem? (i := 76) rfl)) (by decide) (hw _ (List.mem_of_getElem? (i := 105) rfl)) pd_9 dl1io_1 (rm_ceI l Z a0 hw h0 c0 h1 h2) rfl rfl rfl (Nat.le_of_eq rfl) (by decide) (by decide) (by decide) (by decide) ?_
  intro T1 L1 X1
  refine Go.if0Y X1 9 dl1io_4 (XT.i0_ne_t (by decide)) ?_
  refine Go.iloadN X1 10 dl1io_9 rfl ?_
  refine Go.iconst X1 11 (0 : Int32) dl1io_10 ?_
  refine Go.callSP X1 14 [(.int (0 : Int32)), (.int (0 : Int32))] [] 0 (hw _ (List.mem_of_getElem? (i := 106) rfl)) (hw _ (List.mem_of_getElem? (i := 107) rfl)) (hw _ (List.mem_of_getElem? (i := 108) rfl)) (by decide) (hw _ (List.mem_of_getElem? (i := 109) rfl)) pd_10 dl1io_11 (rm_max l Z a0 hw h0 0 0 0 (Or.inr ⟨by decide, rfl⟩)) rfl rfl rfl (Nat.le_of_eq rfl) (by decide) (by decide) (by decide) (by decide) ?_
  intro T2 L2 X2
  refine Go.istoreN X2 15 #[.val (.ref t), .val (.int c0), .val (.int (0 : Int32)), .val (.int (Int32.ofNat n))] dl1io_14 rfl ?_
  refine Go.iloadN X2 16 dl1io_15 rfl ?_
  refine Go.aloadN X2 17 dl1io_16 rfl rfl ?_
  refine Go.alenN X2 18 A dl1io_17 ?_
  refine Go.callSP X2 21 [(.int (Int32.ofNat n)), (.int (Int32.ofNat n))] [] 0 (hw _ (List.mem_of_getElem? (i := 110) rfl)) (hw _ (List.mem_of_getElem? (i := 111) rfl)) (hw _ (List.mem_of_getElem? (i := 108) rfl)) (by decide) (hw _ (List.mem_of_getElem? (i := 112) rfl)) pd_10 dl1io_18 (rm_min l Z a0 hw h0 (Int32.ofNat n) (Int32.ofNat n) (Int32.ofNat n) (Or.inr ⟨n_nlt (Nat.le_refl _) A.1, rfl⟩)) rfl rfl rfl (Nat.le_of_eq rfl) (by decide) (by decide) (by decide) (by decide) ?_
  intro T3 L3 X3
  refine Go.istoreN X3 22 #[.val (.ref t), .val (.int c0), .val (.int (0 : Int32)), .val (.int (Int32.ofNat n))] dl1io_21 rfl ?_
  refine Go.iloadN X3 23 dl1io_22 rfl ?_
  refine Go.iloadN X3 24 dl1io_23 rfl ?_
  by_cases c24 : n = 0
  · skip
    refine Go.icmpN X3 27 dl1io_24 (XT.ii_lt_f (by rw [c24]; decide)) ?_
    refine Go.iconst X3 28 (-1 : Int32) dl1io_27 ?_
    exact Go.retI X3 rfl (by simp) rfl dl1io_28 (X3.fin ⟨rfl, Or.inr ⟨rfl, fun j hj => absurd hj (by omega)⟩⟩ (by decide) (by decide))
  · skip
    refine Go.icmpY X3 29 dl1io_24 (XT.ii_lt_t (n_lt (i := 0) (by omega) A.1)) ?_
    refine Go.aloadN X3 30 dl1io_29 rfl rfl ?_
    refine Go.iloadN X3 31 dl1io_30 rfl ?_
    refine Go.iloadN X3 32 dl1io_31 rfl ?_
    refine Go.iloadN X3 33 dl1io_32 rfl ?_
    refine Go.callS X3 36 [(.ref t), (.int c0), (.int (0 : Int32)), (.int (Int32.ofNat n))] [] 0 (hw _ (List.mem_of_getElem? (i := 113) rfl)) (hw _ (List.mem_of_getElem? (i := 114) rfl)) (hw _ (List.mem_of_getElem? (i := 76) rfl)) (by decide) (hw _ (List.mem_of_getElem? (i := 115) rfl)) pd_11 dl1io_33 (rm_ioc l Z a0 hw h0 t c0 0 (Int32.ofNat n) n g rfl rfl A) rfl rfl rfl (Nat.le_of_eq rfl) (by decide) (by decide) (by decide) (by decide) ?_
    rintro T4 v4 L4 X4 ⟨hh, ⟨r, rfl, q1, q2⟩ | ⟨rfl, q1⟩⟩
    · rw [hh] at X4
      show Go p e below _ T4 m 36 #[.val (.ref t), .val (.int c0), .val (.int (0 : Int32)), .val (.int (Int32.ofNat n))] [(.int (Int32.ofNat r))]
      exact Go.retI X4 rfl (by simp) rfl dl1io_36 (X4.fin ⟨rfl, Or.inl ⟨r, rfl, q1, q2⟩⟩ (by decide) (by decide))
    · rw [hh] at X4
      show Go p e below _ T4 m 36 #[.val (.ref t), .val (.int c0), .val (.int (0 : Int32)), .val (.int (Int32.ofNat n))] [(.int (-1 : Int32))]
      exact Go.retI X4 rfl (by simp) rfl dl1io_36 (X4.fin ⟨rfl, Or.inr ⟨rfl, q1⟩⟩ (by decide) (by decide))
theorem dio2_0 : decode jdk_42_method_80_code 0 = .ok (.aload_n 0, 1) := by decide +kernel
theorem dio2_1 : decode jdk_42_method_80_code 1 = .ok (.invokevirtual 492, 3) := by decide +kernel
theorem dio2_4 : decode jdk_42_method_80_code 4 = .ok (.ifCond .eq 19, 3) := by decide +kernel
theorem dio2_7 : decode jdk_42_method_80_code 7 = .ok (.aload_n 0, 1) := by decide +kernel
theorem dio2_8 : decode jdk_42_method_80_code 8 = .ok (.getfield 9, 3) := by decide +kernel
theorem dio2_11 : decode jdk_42_method_80_code 11 = .ok (.iload_n 1, 1) := by decide +kernel
theorem dio2_12 : decode jdk_42_method_80_code 12 = .ok (.iload_n 2, 1) := by decide +kernel
theorem dio2_13 : decode jdk_42_method_80_code 13 = .ok (.aload_n 0, 1) := by decide +kernel
theorem dio2_14 : decode jdk_42_method_80_code 14 = .ok (.invokevirtual 505, 3) := by decide +kernel
theorem dio2_17 : decode jdk_42_method_80_code 17 = .ok (.invokestatic 637, 3) := by decide +kernel
theorem dio2_20 : decode jdk_42_method_80_code 20 = .ok (.goto 16, 3) := by decide +kernel
theorem dio2_23 : decode jdk_42_method_80_code 23 = .ok (.aload_n 0, 1) := by decide +kernel
theorem dio2_24 : decode jdk_42_method_80_code 24 = .ok (.getfield 9, 3) := by decide +kernel
theorem dio2_27 : decode jdk_42_method_80_code 27 = .ok (.iload_n 1, 1) := by decide +kernel
theorem dio2_28 : decode jdk_42_method_80_code 28 = .ok (.iload_n 2, 1) := by decide +kernel
theorem dio2_29 : decode jdk_42_method_80_code 29 = .ok (.aload_n 0, 1) := by decide +kernel
theorem dio2_30 : decode jdk_42_method_80_code 30 = .ok (.invokevirtual 505, 3) := by decide +kernel
theorem dio2_33 : decode jdk_42_method_80_code 33 = .ok (.invokestatic 640, 3) := by decide +kernel
theorem dio2_36 : decode jdk_42_method_80_code 36 = .ok (.ireturn, 1) := by decide +kernel
theorem ef_io2 (m : MethodId) (a : Addr) (c0 : Int32) (z0 : Int32) : entryFrame m #[(.ref a), (.int c0), (.int z0)] 3 = mkF m 0 #[.val (.ref a), .val (.int c0), .val (.int z0)] [] := by first | (simp [entryFrame, mkF, argsToLocals, Value.category]; done) | rfl
set_option maxRecDepth 65536 in
set_option maxHeartbeats 40000000 in
theorem rm_io2 (l : Launch) (Z : State) (a0 : Array Value) (hw : ∀ d ∈ tables_1, d.before a0 Z = true) (h0 : Heap) (cz : Int32) (SC : Sta Z Z.heap "java/lang/String" "COMPACT_STRINGS" "Z" (.int cz)) (hcz : ¬ cz = 0) (a t : Addr) (c0 : Int32) (n : Nat) (f : Nat → Int32) (S : Str Z h0 a t n f) (hl : ∀ j, j < n → ¬ 255 < f j) (h1 : ¬ c0 < 0) (h2 : ¬ 255 < c0) (z0 : Int32) (hz0 : z0 = 0) :
    Ct l Z [] (⟨"java/lang/String", "indexOf", "(II)I"⟩ : MethodName) jdk_42_method_80_code 3 (some .int) (⟨2, 0, 0, 32⟩ : Room) #[(.ref a), (.int c0), (.int z0)] h0 (fun v h' => h' = h0 ∧ ((∃ r, v = some (.int (Int32.ofNat r)) ∧ r < n ∧ f r = c0) ∨ (v = some (.int (-1)) ∧ ∀ j, j < n → ¬ f j = c0))) := by
  refine Ct.of pn_java_lang_String (fun m => ef_io2 m a c0 z0) ?_
  intro p e s m below meth c s₁ X0
  subst hz0
  obtain ⟨S5, g, A, G⟩ := S.lat hl
  obtain ⟨S1, S2, S3, S4, -⟩ := id S
  have hc0 := n_ge h1
  have key : ∀ j, j < n → (g j = c0.toInt8.toInt32 ↔ f j = c0) := fun j hj => ⟨fun q => n_eqb (S4 j hj).1 (G j hj).1 hc0 h2 (by rw [← (G j hj).2]; exact q), fun q => by rw [(G j hj).2, q]⟩
  refine Go.aloadN X0 1 dio2_0 rfl rfl ?_
  refine Go.callVP X0 4 [] [] 0 (hw _ (List.mem_of_getElem? (i := 69) rfl)) (hw _ (List.mem_of_getElem? (i := 70) rfl)) (hw _ (List.mem_of_getElem? (i := 72) rfl)) (notFace_of_selects (args := #[]) (mvT X0.hZ (hw _ (List.mem_of_getElem? (i := 72) rfl)))) (hw _ (List.mem_of_getElem? (i := 71) rfl)) (hw _ (List.mem_of_getElem? (i := 8) rfl)) (by decide) S1 (hw _ (List.mem_of_getElem? (i := 73) rfl)) pd_7 dio2_1 (rm_lat l Z a0 hw h0 cz SC hcz a 0 1 S5 (Or.inl ⟨rfl, rfl⟩)) rfl rfl rfl (Nat.le_of_eq rfl) (by decide) (by decide) (by decide) (by decide) ?_
  intro T1 L1 X1
  refine Go.if0N X1 7 dio2_4 (XT.i0_eq_f (by decide)) ?_
  refine Go.aloadN X1 8 dio2_7 rfl rfl ?_
  refine Go.getF X1 11 (hw _ (List.mem_of_getElem? (i := 26) rfl)) S2 dio2_8 ?_
  intro T2 X2
  refine Go.iloadN X2 12 dio2_11 rfl ?_
  refine Go.iloadN X2 13 dio2_12 rfl ?_
  refine Go.aloadN X2 14 dio2_13 rfl rfl ?_
  refine Go.callVP X2 17 [] [(.int (0 : Int32)), (.int c0), (.ref t)] 3 (hw _ (List.mem_of_getElem? (i := 99) rfl)) (hw _ (List.mem_of_getElem? (i := 55) rfl)) (hw _ (List.mem_of_getElem? (i := 57) rfl)) (notFace_of_selects (args := #[]) (mvT X2.hZ (hw _ (List.mem_of_getElem? (i := 57) rfl)))) (hw _ (List.mem_of_getElem? (i := 56) rfl)) (hw _ (List.mem_of_getElem? (i := 8) rfl)) (by decide) S1 (hw _ (List.mem_of_getElem? (i := 58) rfl)) pd_12 dio2_14 (rm_len l Z a0 hw h0 cz SC hcz a t n f S) rfl rfl rfl (Nat.le_of_eq rfl) (by decide) (by decide) (by decide) (by decide) ?_
  intro T3 L3 X3
  refine Go.callS X3 20 [(.ref t), (.int c0), (.int (0 : Int32)), (.int (Int32.ofNat n))] [] 0 (hw _ (List.mem_of_getElem? (i := 100) rfl)) (hw _ (List.mem_of_getElem? (i := 101) rfl)) (hw _ (List.mem_of_getElem? (i := 76) rfl)) (by decide) (hw _ (List.mem_of_getElem? (i := 102) rfl)) pd_11 dio2_17 (rm_l1io l Z a0 hw h0 t c0 0 (Int32.ofNat n) n g rfl rfl A h1 h2) rfl rfl rfl (Nat.le_of_eq rfl) (by decide) (by decide) (by decide) (by decide) ?_
  rintro T4 v4 L4 X4 ⟨hh, ⟨r, rfl, q1, q2⟩ | ⟨rfl, q1⟩⟩
  · rw [hh] at X4
    show Go p e below _ T4 m 20 #[.val (.ref a), .val (.int c0), .val (.int (0 : Int32))] [(.int (Int32.ofNat r))]
    refine Go.goto X4 36 dio2_20 ?_
    exact Go.retI X4 rfl (by simp) rfl dio2_36 (X4.fin ⟨rfl, Or.inl ⟨r, rfl, q1, (key r q1).mp q2⟩⟩ (by decide) (by decide))
  · rw [hh] at X4
    show Go p e below _ T4 m 20 #[.val (.ref a), .val (.int c0), .val (.int (0 : Int32))] [(.int (-1 : Int32))]
    refine Go.goto X4 36 dio2_20 ?_
    exact Go.retI X4 rfl (by simp) rfl dio2_36 (X4.fin ⟨rfl, Or.inr ⟨rfl, fun j hj q => q1 j hj ((key j hj).mpr q)⟩⟩ (by decide) (by decide))
theorem dio1_0 : decode jdk_42_method_79_code 0 = .ok (.aload_n 0, 1) := by decide +kernel
theorem dio1_1 : decode jdk_42_method_79_code 1 = .ok (.iload_n 1, 1) := by decide +kernel
theorem dio1_2 : decode jdk_42_method_79_code 2 = .ok (.iconst 0, 1) := by decide +kernel
theorem dio1_3 : decode jdk_42_method_79_code 3 = .ok (.invokevirtual 633, 3) := by decide +kernel
theorem dio1_6 : decode jdk_42_method_79_code 6 = .ok (.ireturn, 1) := by decide +kernel
theorem ef_io1 (m : MethodId) (a : Addr) (c0 : Int32) : entryFrame m #[(.ref a), (.int c0)] 2 = mkF m 0 #[.val (.ref a), .val (.int c0)] [] := by first | (simp [entryFrame, mkF, argsToLocals, Value.category]; done) | rfl
set_option maxRecDepth 65536 in
set_option maxHeartbeats 40000000 in
theorem rm_io1 (l : Launch) (Z : State) (a0 : Array Value) (hw : ∀ d ∈ tables_1, d.before a0 Z = true) (h0 : Heap) (cz : Int32) (SC : Sta Z Z.heap "java/lang/String" "COMPACT_STRINGS" "Z" (.int cz)) (hcz : ¬ cz = 0) (a t : Addr) (c0 : Int32) (n : Nat) (f : Nat → Int32) (S : Str Z h0 a t n f) (hl : ∀ j, j < n → ¬ 255 < f j) (h1 : ¬ c0 < 0) (h2 : ¬ 255 < c0) :
    Ct l Z [] (⟨"java/lang/String", "indexOf", "(I)I"⟩ : MethodName) jdk_42_method_79_code 2 (some .int) (⟨3, 0, 0, 46⟩ : Room) #[(.ref a), (.int c0)] h0 (fun v h' => h' = h0 ∧ ((∃ r, v = some (.int (Int32.ofNat r)) ∧ r < n ∧ f r = c0) ∨ (v = some (.int (-1)) ∧ ∀ j, j < n → ¬ f j = c0))) := by
  refine Ct.of pn_java_lang_String (fun m => ef_io1 m a c0) ?_
  intro p e s m below meth c s₁ X0
  refine Go.aloadN X0 1 dio1_0 rfl rfl ?_
  refine Go.iloadN X0 2 dio1_1 rfl ?_
  refine Go.iconst X0 3 (0 : Int32) dio1_2 ?_
  refine Go.callV X0 6 [(.int c0), (.int (0 : Int32))] [] 0 (hw _ (List.mem_of_getElem? (i := 94) rfl)) (hw _ (List.mem_of_getElem? (i := 95) rfl)) (hw _ (List.mem_of_getElem? (i := 97) rfl)) (notFace_of_selects (args := #[]) (mvT X0.hZ (hw _ (List.mem_of_getElem? (i := 97) rfl)))) (hw _ (List.mem_of_getElem? (i := 96) rfl)) (hw _ (List.mem_of_getElem? (i := 8) rfl)) (by decide) S.exa (hw _ (List.mem_of_getElem? (i := 98) rfl)) pd_10 dio1_3 (rm_io2 l Z a0 hw h0 cz SC hcz a t c0 n f S hl h1 h2 0 rfl) rfl rfl rfl (Nat.le_of_eq rfl) (by decide) (by decide) (by decide) (by decide) ?_
  rintro T1 v1 L1 X1 ⟨hh, ⟨r, rfl, q1, q2⟩ | ⟨rfl, q1⟩⟩
  · rw [hh] at X1
    show Go p e below _ T1 m 6 #[.val (.ref a), .val (.int c0)] [(.int (Int32.ofNat r))]
    exact Go.retI X1 rfl (by simp) rfl dio1_6 (X1.fin ⟨rfl, Or.inl ⟨r, rfl, q1, q2⟩⟩ (by decide) (by decide))
  · rw [hh] at X1
    show Go p e below _ T1 m 6 #[.val (.ref a), .val (.int c0)] [(.int (-1 : Int32))]
    exact Go.retI X1 rfl (by simp) rfl dio1_6 (X1.fin ⟨rfl, Or.inr ⟨rfl, q1⟩⟩ (by decide) (by decide))
theorem own_safe {Z : State} {EL : List (String × Nat)} {vm : Vm} {h : Heap} {x : Addr} (hal : Z.vm.Alike vm) (E : Exa Z h x "java/lang/String") (F : Fld Z h x "java/lang/String" "value" "[B" .null) : Safe Z EL vm h x := fun B => by
  obtain ⟨cell, k, e1, e2, e3, -, -⟩ := E
  obtain ⟨cell', cf, kf, i, f, f1, f2, -, -, -, -, f7⟩ := F
  cases e1.symm.trans f1
  obtain ⟨p, -, u, a, -, q, -, S, rfl | rfl⟩ := B
  · have hs : h[q.sa]? = some q.sC := S.ha
    cases hs.symm.trans e1
    obtain ⟨cS, ⟨⟨-, -, -, ⟨c1, k1, i1, g1, -⟩, -, -, -, v1, -⟩, -⟩, -⟩ := S
    obtain ⟨k2, g2, -⟩ := State.fieldFound?_setVm (s := Z) hal f2
    have g3 : (Wst Z vm h).fieldFound? "java/lang/String" "value" "[B" = some (cf, k2, i, f) := g2
    have g4 := g3.symm.trans g1
    simp only [Option.some.injEq, Prod.mk.injEq] at g4
    rw [← g4.2.2.2, f7] at v1
    cases v1
  · have hd : h[q.sd]? = some q.SA := S.hd
    cases hd.symm.trans e1
    obtain ⟨cS, -, -, f8, -⟩ := S
    have f9 : vm.findClass "[B" = some q.SA.cls := f8
    rw [hal.findClass] at f9
    obtain ⟨k1, q1, q2⟩ := Vm.findClass_spec f9
    obtain ⟨k2, q3, q4⟩ := Vm.findClass_spec e2
    cases q1.symm.trans q3
    exact absurd (q2.symm.trans q4) (by decide)
theorem own_an0 {Z : State} {h : Heap} {b : Addr} {k : ClassId} (V : Arv Z h b k .byte (0 : Int32) [] (.int 0)) : An Z h b .byte 0 (fun _ => (0 : Int32)) := ⟨by decide, k, [], .int 0, V, rfl, fun j hj => absurd hj (Nat.not_lt_zero j)⟩
theorem own_atoms {a0 : Array Value} {Z : State} (hw : ∀ d ∈ tables_1, d.before a0 Z = true) : ∀ a ∈ Bundle.stringAtoms, a.before a0 Z = true := fun a ha => hw a (List.all_eq_true.mp (show (Bundle.stringAtoms.all fun d => decide (d ∈ tables_1)) = true from by decide +kernel) a ha |> of_decide_eq_true)
theorem own_EW {a0 : Array Value} {Z : State} (hw : ∀ d ∈ tables_1, d.before a0 Z = true) : EW Z a0 consts_1 := EW.cons (hw _ (List.mem_of_getElem? (i := 20) rfl)) (by decide) EW.nil
set_option maxRecDepth 65536 in
set_option maxHeartbeats 40000000 in
theorem rm_i4e (l : Launch) (Z : State) (a0 : Array Value) (hw : ∀ d ∈ tables_1, d.before a0 Z = true) (h0 : Heap) (a src : Addr) (E : Exa Z h0 a "java/lang/String") (FV : Fld Z h0 a "java/lang/String" "value" "[B" .null) (FC : Fld Z h0 a "java/lang/String" "coder" "B" (.int 0)) (na : Z.heap.size ≤ a) :
    CtW l Z consts_1 [] (⟨"java/lang/String", "<init>", "([CIILjava/lang/Void;)V"⟩ : MethodName) jdk_42_method_149_code 6 none (⟨1, 4, 8, 12⟩ : Room) #[(.ref a), (.ref src), (.int (0 : Int32)), (.int (0 : Int32)), .null] h0 (fun v h' => v = none ∧ ∃ t, Keep h0 h' [a] ∧ ∀ f : Nat → Int32, Str Z h' a t 0 f) := by
  refine CtW.of pn_java_lang_String (fun m => ef_i4 m a src 0 0) ?_
  intro p e s m below meth c s₁ X0 ws0 C0
  have hEL := own_EW hw
  have hS0 : Safe Z consts_1 s.vm h0 a := own_safe X0.hZ.alike E FV
  have K1 : Keep h0 h0 [a] := Keep.refl _ _
  refine Go.aloadN X0 1 di4_0 rfl rfl ?_
  refine Go.initO X0 4 (hw _ (List.mem_of_getElem? (i := 17) rfl)) (hw _ (List.mem_of_getElem? (i := 18) rfl)) (hw _ (List.mem_of_getElem? (i := 19) rfl)) 0 di4_1 rfl (by decide) (by decide) (by decide) ?_
  intro T2 X2
  refine Go.iloadN X2 5 di4_4 rfl ?_
  refine Go.if0N X2 8 di4_5 (XT.i0_ne_f (by decide)) ?_
  refine Go.aloadN X2 9 di4_8 rfl rfl ?_
  refine Go.ldcW X2 11 hEL ws0 C0.1 (hw _ (List.mem_of_getElem? (i := 20) rfl)) (own_atoms hw) (by decide) (vs := []) (z := 0) ⟨by decide, rfl⟩ (by decide) rfl di4_9 (n := 0) (by decide) (by decide) (by decide) (by decide) ?_
  intro T3 h3 vm3 x3 b3 k3 X3 ws3 E3 R3 G3 C3 V3 A3 S3
  have sf3 : Safe Z consts_1 vm3 h3 a := R3.safe E.lt hS0
  have ch3 := C0.trans R3
  have nb3 : b3 ≠ a := Ne.symm (S3 a sf3).2
  have nx3 : x3 ≠ a := Ne.symm (S3 a sf3).1
  have K4 : Keep h0 h3 [a] := K1.ext E3
  have F5 : Exa Z h3 a "java/lang/String" := E.ext E3
  have F6 : Fld Z h3 a "java/lang/String" "value" "[B" .null := FV.ext E3
  have F7 : Fld Z h3 a "java/lang/String" "coder" "B" (.int (0 : Int32)) := FC.ext E3
  have F8 : An Z h3 b3 .byte 0 (fun _ => (0 : Int32)) := own_an0 A3
  refine Go.getF X3 14 (hw _ (List.mem_of_getElem? (i := 26) rfl)) V3 di4_11 ?_
  intro T9 X9
  refine Go.putF X9 17 (hw _ (List.mem_of_getElem? (i := 26) rfl)) F6 F5 (Or.inr ⟨(hw _ (List.mem_of_getElem? (i := 22) rfl)), rfl, rfl⟩) (hw _ (List.mem_of_getElem? (i := 7) rfl)) (ty := (.array .byte)) (by decide) rfl rfl na di4_14 ?_
  intro T10 h10 X10 W10
  have ws11 : WS s vm3 h10 := ws3.le (Nat.le_of_eq W10.size.symm)
  have K12 : Keep h0 h10 [a] := K4.wr W10 (Or.inl (List.mem_of_getElem? (i := 0) rfl))
  have F13 : Exa Z h10 a "java/lang/String" := F5.wr W10
  have F14 : Fld Z h10 a "java/lang/String" "value" "[B" (.ref b3) := F6.same W10
  have F15 : Fld Z h10 a "java/lang/String" "coder" "B" (.int (0 : Int32)) := F7.other W10 (Or.inr (slot_ne (Or.inr (hw _ (List.mem_of_getElem? (i := 23) rfl))) (Or.inr (hw _ (List.mem_of_getElem? (i := 22) rfl))) (by decide) (t := .byte) (t' := (.array .byte)) (by decide) (by decide)))
  have F16 : Fld Z h10 x3 "java/lang/String" "coder" "B" (.int (0 : Int32)) := C3.other W10 (Or.inl nx3)
  have F17 : Fld Z h10 x3 "java/lang/String" "value" "[B" (.ref b3) := V3.other W10 (Or.inl nx3)
  have F18 : An Z h10 b3 .byte 0 (fun _ => (0 : Int32)) := F8.other W10 nb3
  have cw10 := ch3.trans (CHr.wr W10 sf3 ch3.1)
  have sw10 := Safe.wr W10 sf3 ch3.1 sf3
  refine Go.aloadN X10 18 di4_17 rfl rfl ?_
  refine Go.ldcW X10 20 hEL ws11 cw10.1 (hw _ (List.mem_of_getElem? (i := 20) rfl)) (own_atoms hw) (by decide) (vs := []) (z := 0) ⟨by decide, rfl⟩ (by decide) rfl di4_18 (n := 0) (by decide) (by decide) (by decide) (by decide) ?_
  intro T19 h19 vm19 x19 b19 k19 X19 ws19 E19 R19 G19 C19 V19 A19 S19
  have sf19 : Safe Z consts_1 vm19 h19 a := R19.safe F13.lt sw10
  have ch19 := cw10.trans R19
  have nb19 : b19 ≠ a := Ne.symm (S19 a sf19).2
  have nx19 : x19 ≠ a := Ne.symm (S19 a sf19).1
  have K20 : Keep h0 h19 [a] := K12.ext E19
  have F21 : Exa Z h19 a "java/lang/String" := F13.ext E19
  have F22 : Fld Z h19 a "java/lang/String" "value" "[B" (.ref b3) := F14.ext E19
  have F23 : Fld Z h19 a "java/lang/String" "coder" "B" (.int (0 : Int32)) := F15.ext E19
  have F24 : Fld Z h19 x3 "java/lang/String" "coder" "B" (.int (0 : Int32)) := F16.ext E19
  have F25 : Fld Z h19 x3 "java/lang/String" "value" "[B" (.ref b3) := F17.ext E19
  have F26 : An Z h19 b3 .byte 0 (fun _ => (0 : Int32)) := F18.ext E19
  have F27 : An Z h19 b19 .byte 0 (fun _ => (0 : Int32)) := own_an0 A19
  refine Go.getF X19 23 (hw _ (List.mem_of_getElem? (i := 27) rfl)) C19 di4_20 ?_
  intro T28 X28
  refine Go.putF X28 26 (hw _ (List.mem_of_getElem? (i := 27) rfl)) F23 F21 (Or.inr ⟨(hw _ (List.mem_of_getElem? (i := 23) rfl)), rfl, rfl⟩) (hw _ (List.mem_of_getElem? (i := 7) rfl)) (ty := .byte) (by decide) rfl rfl na di4_23 ?_
  intro T29 h29 X29 W29
  have ws30 : WS s vm19 h29 := ws19.le (Nat.le_of_eq W29.size.symm)
  have K31 : Keep h0 h29 [a] := K20.wr W29 (Or.inl (List.mem_of_getElem? (i := 0) rfl))
  have F32 : Exa Z h29 a "java/lang/String" := F21.wr W29
  have F33 : Fld Z h29 a "java/lang/String" "value" "[B" (.ref b3) := F22.other W29 (Or.inr (slot_ne (Or.inr (hw _ (List.mem_of_getElem? (i := 22) rfl))) (Or.inr (hw _ (List.mem_of_getElem? (i := 23) rfl))) (by decide) (t := (.array .byte)) (t' := .byte) (by decide) (by decide)))
  have F34 : Fld Z h29 a "java/lang/String" "coder" "B" (.int (0 : Int32)) := F23.same W29
  have F35 : Fld Z h29 x3 "java/lang/String" "coder" "B" (.int (0 : Int32)) := F24.other W29 (Or.inl nx3)
  have F36 : Fld Z h29 x3 "java/lang/String" "value" "[B" (.ref b3) := F25.other W29 (Or.inl nx3)
  have F37 : An Z h29 b3 .byte 0 (fun _ => (0 : Int32)) := F26.other W29 nb3
  have F38 : Fld Z h29 x19 "java/lang/String" "coder" "B" (.int (0 : Int32)) := C19.other W29 (Or.inl nx19)
  have F39 : Fld Z h29 x19 "java/lang/String" "value" "[B" (.ref b19) := V19.other W29 (Or.inl nx19)
  have F40 : An Z h29 b19 .byte 0 (fun _ => (0 : Int32)) := F27.other W29 nb19
  have cw29 := ch19.trans (CHr.wr W29 sf19 ch19.1)
  have sw29 := Safe.wr W29 sf19 ch19.1 sf19
  exact Go.retV X29 rfl di4_26 (X29.finW hEL ws30 cw29 ⟨rfl, b3, K31, fun f => ⟨F32, F33, by decide, fun j hj => absurd hj (Nat.not_lt_zero j), Or.inl ⟨F34, _, F37, fun j hj => absurd hj (Nat.not_lt_zero j)⟩⟩⟩ (by decide) (by decide))
set_option maxRecDepth 65536 in
set_option maxHeartbeats 40000000 in
theorem rm_i1e (l : Launch) (Z : State) (a0 : Array Value) (hw : ∀ d ∈ tables_1, d.before a0 Z = true) (h0 : Heap) (a src : Addr) (E : Exa Z h0 a "java/lang/String") (FV : Fld Z h0 a "java/lang/String" "value" "[B" .null) (FC : Fld Z h0 a "java/lang/String" "coder" "B" (.int 0)) (na : Z.heap.size ≤ a) (A : An Z h0 src .char 0 (fun _ => (0 : Int32))) :
    CtW l Z consts_1 [] (⟨"java/lang/String", "<init>", "([C)V"⟩ : MethodName) jdk_42_method_3_code 2 none (⟨2, 4, 8, 29⟩ : Room) #[(.ref a), (.ref src)] h0 (fun v h' => v = none ∧ ∃ t, Keep h0 h' [a] ∧ ∀ f : Nat → Int32, Str Z h' a t 0 f) := by
  refine CtW.of pn_java_lang_String (fun m => ef_i1 m a src) ?_
  intro p e s m below meth c s₁ X0 ws0 C0
  have hEL := own_EW hw
  refine Go.aloadN X0 1 di1_0 rfl rfl ?_
  refine Go.aloadN X0 2 di1_1 rfl rfl ?_
  refine Go.iconst X0 3 (0 : Int32) di1_2 ?_
  refine Go.aloadN X0 4 di1_3 rfl rfl ?_
  refine Go.alenN X0 5 A di1_4 ?_
  refine Go.aconst_null X0 6 di1_5 ?_
  refine Go.callIW X0 9 hEL ws0 C0.1 [(.ref src), (.int (0 : Int32)), (.int (Int32.ofNat 0)), .null] [] 0 rfl (hw _ (List.mem_of_getElem? (i := 13) rfl)) (hw _ (List.mem_of_getElem? (i := 14) rfl)) (hw _ (List.mem_of_getElem? (i := 8) rfl)) (by decide) rfl (hw _ (List.mem_of_getElem? (i := 16) rfl)) pd_3 di1_6 (rm_i4e l Z a0 hw h0 a src E FV FC na) rfl rfl rfl (Nat.le_of_eq rfl) (by decide) (by decide) (by decide) (by decide) ?_
  rintro T1 v1 L1 vm1 X1 ws1 R1 ⟨rfl, hq⟩
  show Go p e below _ T1 m 9 #[.val (.ref a), .val (.ref src)] []
  have c9 := C0.trans R1
  exact Go.retV X1 rfl di1_9 (X1.finW hEL ws1 c9 ⟨rfl, hq⟩ (by decide) (by decide))
theorem own_le {x : Int32} (h1 : ¬ 255 < x) : x.toInt < 65536 := by
  rw [Int32.lt_iff_toInt_lt] at h1
  have e : (255 : Int32).toInt = 255 := by decide
  omega
theorem own_rng {x : Int32} (h0 : 0 ≤ x.toInt) (h1 : x.toInt < 256) : 0 ≤ x.toInt ∧ ¬ 255 < x := by
  refine ⟨h0, ?_⟩
  rw [Int32.lt_iff_toInt_lt]
  have e : (255 : Int32).toInt = 255 := by decide
  omega
theorem own_nr {x : Int32} (h0 : 0 ≤ x.toInt) (h1 : x.toInt < 65536) : nar .char x = x := n_chr h0 h1
theorem own_ne58 {x : Int32} (h1 : ¬ x.toInt = 58) : ¬ x = 58 := fun q => h1 (by rw [q]; decide)
def AllC (n : Nat) (f : Nat → Int32) : Prop := ∀ j, j < n → 0 ≤ (f j).toInt ∧ ¬ 255 < f j
theorem AllC.z {n : Nat} : AllC n (fun _ => (0 : Int32)) := fun j hj => ⟨(by decide : 0 ≤ (0 : Int32).toInt), (by decide : ¬ 255 < (0 : Int32))⟩
theorem AllC.u {n i : Nat} {f : Nat → Int32} {x : Int32} (A : AllC n f) (h : 0 ≤ x.toInt ∧ ¬ 255 < x) : AllC n (upd f i x) := fun j hj => by
  unfold upd
  split
  · exact h
  · exact A j hj
theorem NoC.z {n : Nat} : ∀ j, j < n → ¬ (fun _ => (0 : Int32)) j = 58 := fun j hj => (by decide : ¬ (0 : Int32) = 58)
theorem NoC.u {n i : Nat} {f : Nat → Int32} {x : Int32} (A : ∀ j, j < n → ¬ f j = 58) (h : ¬ x = 58) : ∀ j, j < n → ¬ upd f i x j = 58 := fun j hj => by
  unfold upd
  split
  · exact h
  · exact A j hj
def Al (c : Int32) : Prop := (¬ c < 65 ∧ ¬ 90 < c) ∨ (¬ c < 97 ∧ ¬ 122 < c) ∨ (¬ c < 48 ∧ ¬ 57 < c)
def Pn (c z y0 y1 : Int32) : Prop := (¬ z < 1 ∧ c = y0) ∨ (¬ z < 2 ∧ c = y1)
def own_f4 (x0 x1 x2 x3 : Int32) : Nat → Int32 := fun j => if j = 0 then x0 else if j = 1 then x1 else if j = 2 then x2 else x3
def own_g2 (y0 y1 : Int32) : Nat → Int32 := fun j => if j = 0 then y0 else y1
theorem own_pn {c z y0 y1 : Int32} (hz : z = 0 ∨ z = 1 ∨ z = 2) : (∃ j, j < z.toNatClampNeg ∧ own_g2 y0 y1 j = c) ↔ Pn c z y0 y1 := by
  rcases hz with rfl | rfl | rfl
  · constructor
    · rintro ⟨j, h, -⟩
      exact absurd h (Nat.not_lt_zero j)
    · rintro (⟨h, -⟩ | ⟨h, -⟩)
      · exact absurd (by decide) h
      · exact absurd (by decide) h
  · constructor
    · rintro ⟨j, h, q⟩
      have h' : j < 1 := h
      have : j = 0 := by omega
      subst this
      exact Or.inl ⟨by decide, q.symm⟩
    · rintro (⟨-, h⟩ | ⟨h, -⟩)
      · exact ⟨0, by decide, h.symm⟩
      · exact absurd (by decide) h
  · constructor
    · rintro ⟨j, h, q⟩
      have h' : j < 2 := h
      have : j = 0 ∨ j = 1 := by omega
      rcases this with rfl | rfl
      · exact Or.inl ⟨by decide, q.symm⟩
      · exact Or.inr ⟨by decide, q.symm⟩
    · rintro (⟨-, h⟩ | ⟨-, h⟩)
      · exact ⟨0, by decide, h.symm⟩
      · exact ⟨1, by decide, h.symm⟩
theorem own_l255 (q : Int64) : 0 ≤ ((q &&& 255).toInt32.toUInt32.toUInt16.toUInt32.toInt32).toInt ∧ ¬ 255 < (q &&& 255).toInt32.toUInt32.toUInt16.toUInt32.toInt32 := by
  have e : (255 : Int32).toInt = 255 := by decide
  have p : ((2 ^ 8 : Nat) : Int) = 256 := by decide
  have h1 := c_maskL q 255 8 (by decide) (by decide)
  have h2 := c_l2i (q &&& 255)
  have h3 := c_i2c (q &&& 255).toInt32
  have h4 := rng32 (q &&& 255).toInt32
  rw [p] at h1
  rw [Int32.lt_iff_toInt_lt, e]
  omega
theorem own_255 (x : Int32) : 0 ≤ (x &&& 255).toInt ∧ ¬ 255 < (x &&& 255) := by
  have e : (255 : Int32).toInt = 255 := by decide
  have := c_and x 255 (by decide)
  rw [Int32.lt_iff_toInt_lt, e]
  rw [e] at this
  omega
theorem own_k3 (x : Int32) : (x &&& 32767) % 3 = 0 ∨ (x &&& 32767) % 3 = 1 ∨ (x &&& 32767) % 3 = 2 := by
  have h1 := c_and x 32767 (by decide)
  have h2 := (c_irem (x &&& 32767) 3 3 (by decide)).1 (by omega)
  simp only [← Int32.toInt_inj]
  have e0 : (0 : Int32).toInt = 0 := by decide
  have e1 : (1 : Int32).toInt = 1 := by decide
  have e2 : (2 : Int32).toInt = 2 := by decide
  rw [e0, e1, e2, h2]
  omega
theorem own_k5 (x : Int32) : (x &&& 2147483647) % 5 = 0 ∨ (x &&& 2147483647) % 5 = 1 ∨ (x &&& 2147483647) % 5 = 2 ∨ (x &&& 2147483647) % 5 = 3 ∨ (x &&& 2147483647) % 5 = 4 := by
  have h1 := c_mask x 2147483647 31 (by decide) (by decide)
  have h2 := (c_irem (x &&& 2147483647) 5 5 (by decide)).1 (by omega)
  simp only [← Int32.toInt_inj]
  have e0 : (0 : Int32).toInt = 0 := by decide
  have e1 : (1 : Int32).toInt = 1 := by decide
  have e2 : (2 : Int32).toInt = 2 := by decide
  have e3 : (3 : Int32).toInt = 3 := by decide
  have e4 : (4 : Int32).toInt = 4 := by decide
  rw [e0, e1, e2, e3, e4, h2]
  omega
theorem pn_com_example_peerloom_peerloom_api_AsciiIsAlphanumericOrPinLaw : plainName "com/example/peerloom/peerloom/api/AsciiIsAlphanumericOrPinLaw" = true := by first | (simp [plainName, overriddenIn]; done) | decide +kernel
theorem dt_0 : decode method_4_code 0 = .ok (.iload_n 0, 1) := by decide +kernel
theorem dt_1 : decode method_4_code 1 = .ok (.ifCond .ne 14, 3) := by decide +kernel
theorem dt_4 : decode method_4_code 4 = .ok (.new 30, 3) := by decide +kernel
theorem dt_7 : decode method_4_code 7 = .ok (.dup, 1) := by decide +kernel
theorem dt_8 : decode method_4_code 8 = .ok (.iconst 0, 1) := by decide +kernel
theorem dt_9 : decode method_4_code 9 = .ok (.newarray .char, 2) := by decide +kernel
theorem dt_11 : decode method_4_code 11 = .ok (.invokespecial 32, 3) := by decide +kernel
theorem dt_14 : decode method_4_code 14 = .ok (.areturn, 1) := by decide +kernel
theorem dt_15 : decode method_4_code 15 = .ok (.iload_n 0, 1) := by decide +kernel
theorem dt_16 : decode method_4_code 16 = .ok (.iconst 1, 1) := by decide +kernel
theorem dt_17 : decode method_4_code 17 = .ok (.if_icmp .ne 23, 3) := by decide +kernel
theorem dt_20 : decode method_4_code 20 = .ok (.iconst 1, 1) := by decide +kernel
theorem dt_21 : decode method_4_code 21 = .ok (.newarray .char, 2) := by decide +kernel
theorem dt_23 : decode method_4_code 23 = .ok (.astore 5, 2) := by decide +kernel
theorem dt_25 : decode method_4_code 25 = .ok (.aload 5, 2) := by decide +kernel
theorem dt_27 : decode method_4_code 27 = .ok (.iconst 0, 1) := by decide +kernel
theorem dt_28 : decode method_4_code 28 = .ok (.iload_n 1, 1) := by decide +kernel
theorem dt_29 : decode method_4_code 29 = .ok (.castore, 1) := by decide +kernel
theorem dt_30 : decode method_4_code 30 = .ok (.new 30, 3) := by decide +kernel
theorem dt_33 : decode method_4_code 33 = .ok (.dup, 1) := by decide +kernel
theorem dt_34 : decode method_4_code 34 = .ok (.aload 5, 2) := by decide +kernel
theorem dt_36 : decode method_4_code 36 = .ok (.invokespecial 32, 3) := by decide +kernel
theorem dt_39 : decode method_4_code 39 = .ok (.areturn, 1) := by decide +kernel
theorem dt_40 : decode method_4_code 40 = .ok (.iload_n 0, 1) := by decide +kernel
theorem dt_41 : decode method_4_code 41 = .ok (.iconst 2, 1) := by decide +kernel
theorem dt_42 : decode method_4_code 42 = .ok (.if_icmp .ne 28, 3) := by decide +kernel
theorem dt_45 : decode method_4_code 45 = .ok (.iconst 2, 1) := by decide +kernel
theorem dt_46 : decode method_4_code 46 = .ok (.newarray .char, 2) := by decide +kernel
theorem dt_48 : decode method_4_code 48 = .ok (.astore 5, 2) := by decide +kernel
theorem dt_50 : decode method_4_code 50 = .ok (.aload 5, 2) := by decide +kernel
theorem dt_52 : decode method_4_code 52 = .ok (.iconst 0, 1) := by decide +kernel
theorem dt_53 : decode method_4_code 53 = .ok (.iload_n 1, 1) := by decide +kernel
theorem dt_54 : decode method_4_code 54 = .ok (.castore, 1) := by decide +kernel
theorem dt_55 : decode method_4_code 55 = .ok (.aload 5, 2) := by decide +kernel
theorem dt_57 : decode method_4_code 57 = .ok (.iconst 1, 1) := by decide +kernel
theorem dt_58 : decode method_4_code 58 = .ok (.iload_n 2, 1) := by decide +kernel
theorem dt_59 : decode method_4_code 59 = .ok (.castore, 1) := by decide +kernel
theorem dt_60 : decode method_4_code 60 = .ok (.new 30, 3) := by decide +kernel
theorem dt_63 : decode method_4_code 63 = .ok (.dup, 1) := by decide +kernel
theorem dt_64 : decode method_4_code 64 = .ok (.aload 5, 2) := by decide +kernel
theorem dt_66 : decode method_4_code 66 = .ok (.invokespecial 32, 3) := by decide +kernel
theorem dt_69 : decode method_4_code 69 = .ok (.areturn, 1) := by decide +kernel
theorem dt_70 : decode method_4_code 70 = .ok (.iload_n 0, 1) := by decide +kernel
theorem dt_71 : decode method_4_code 71 = .ok (.iconst 3, 1) := by decide +kernel
theorem dt_72 : decode method_4_code 72 = .ok (.if_icmp .ne 33, 3) := by decide +kernel
theorem dt_75 : decode method_4_code 75 = .ok (.iconst 3, 1) := by decide +kernel
theorem dt_76 : decode method_4_code 76 = .ok (.newarray .char, 2) := by decide +kernel
theorem dt_78 : decode method_4_code 78 = .ok (.astore 5, 2) := by decide +kernel
theorem dt_80 : decode method_4_code 80 = .ok (.aload 5, 2) := by decide +kernel
theorem dt_82 : decode method_4_code 82 = .ok (.iconst 0, 1) := by decide +kernel
theorem dt_83 : decode method_4_code 83 = .ok (.iload_n 1, 1) := by decide +kernel
theorem dt_84 : decode method_4_code 84 = .ok (.castore, 1) := by decide +kernel
theorem dt_85 : decode method_4_code 85 = .ok (.aload 5, 2) := by decide +kernel
theorem dt_87 : decode method_4_code 87 = .ok (.iconst 1, 1) := by decide +kernel
theorem dt_88 : decode method_4_code 88 = .ok (.iload_n 2, 1) := by decide +kernel
theorem dt_89 : decode method_4_code 89 = .ok (.castore, 1) := by decide +kernel
theorem dt_90 : decode method_4_code 90 = .ok (.aload 5, 2) := by decide +kernel
theorem dt_92 : decode method_4_code 92 = .ok (.iconst 2, 1) := by decide +kernel
theorem dt_93 : decode method_4_code 93 = .ok (.iload_n 3, 1) := by decide +kernel
theorem dt_94 : decode method_4_code 94 = .ok (.castore, 1) := by decide +kernel
theorem dt_95 : decode method_4_code 95 = .ok (.new 30, 3) := by decide +kernel
theorem dt_98 : decode method_4_code 98 = .ok (.dup, 1) := by decide +kernel
theorem dt_99 : decode method_4_code 99 = .ok (.aload 5, 2) := by decide +kernel
theorem dt_101 : decode method_4_code 101 = .ok (.invokespecial 32, 3) := by decide +kernel
theorem dt_104 : decode method_4_code 104 = .ok (.areturn, 1) := by decide +kernel
theorem dt_105 : decode method_4_code 105 = .ok (.iconst 4, 1) := by decide +kernel
theorem dt_106 : decode method_4_code 106 = .ok (.newarray .char, 2) := by decide +kernel
theorem dt_108 : decode method_4_code 108 = .ok (.astore 5, 2) := by decide +kernel
theorem dt_110 : decode method_4_code 110 = .ok (.aload 5, 2) := by decide +kernel
theorem dt_112 : decode method_4_code 112 = .ok (.iconst 0, 1) := by decide +kernel
theorem dt_113 : decode method_4_code 113 = .ok (.iload_n 1, 1) := by decide +kernel
theorem dt_114 : decode method_4_code 114 = .ok (.castore, 1) := by decide +kernel
theorem dt_115 : decode method_4_code 115 = .ok (.aload 5, 2) := by decide +kernel
theorem dt_117 : decode method_4_code 117 = .ok (.iconst 1, 1) := by decide +kernel
theorem dt_118 : decode method_4_code 118 = .ok (.iload_n 2, 1) := by decide +kernel
theorem dt_119 : decode method_4_code 119 = .ok (.castore, 1) := by decide +kernel
theorem dt_120 : decode method_4_code 120 = .ok (.aload 5, 2) := by decide +kernel
theorem dt_122 : decode method_4_code 122 = .ok (.iconst 2, 1) := by decide +kernel
theorem dt_123 : decode method_4_code 123 = .ok (.iload_n 3, 1) := by decide +kernel
theorem dt_124 : decode method_4_code 124 = .ok (.castore, 1) := by decide +kernel
theorem dt_125 : decode method_4_code 125 = .ok (.aload 5, 2) := by decide +kernel
theorem dt_127 : decode method_4_code 127 = .ok (.iconst 3, 1) := by decide +kernel
theorem dt_128 : decode method_4_code 128 = .ok (.iload 4, 2) := by decide +kernel
theorem dt_130 : decode method_4_code 130 = .ok (.castore, 1) := by decide +kernel
theorem dt_131 : decode method_4_code 131 = .ok (.new 30, 3) := by decide +kernel
theorem dt_134 : decode method_4_code 134 = .ok (.dup, 1) := by decide +kernel
theorem dt_135 : decode method_4_code 135 = .ok (.aload 5, 2) := by decide +kernel
theorem dt_137 : decode method_4_code 137 = .ok (.invokespecial 32, 3) := by decide +kernel
theorem dt_140 : decode method_4_code 140 = .ok (.areturn, 1) := by decide +kernel
theorem ef_t (m : MethodId) (z : Int32) (x0 : Int32) (x1 : Int32) (x2 : Int32) (x3 : Int32) : entryFrame m #[(.int z), (.int x0), (.int x1), (.int x2), (.int x3)] 6 = mkF m 0 #[.val (.int z), .val (.int x0), .val (.int x1), .val (.int x2), .val (.int x3), .unset] [] := by first | (simp [entryFrame, mkF, argsToLocals, Value.category]; done) | rfl
set_option maxRecDepth 65536 in
set_option maxHeartbeats 40000000 in
theorem rm_t (l : Launch) (Z : State) (a0 : Array Value) (hw : ∀ d ∈ tables_1, d.before a0 Z = true) (h0 : Heap) (cz : Int32) (SC : Sta Z Z.heap "java/lang/String" "COMPACT_STRINGS" "Z" (.int cz)) (hcz : ¬ cz = 0) (z x0 x1 x2 x3 : Int32) (hz : z = 0 ∨ z = 1 ∨ z = 2 ∨ z = 3 ∨ z = 4) (hx0 : 0 ≤ x0.toInt ∧ ¬ 255 < x0) (hx1 : 0 ≤ x1.toInt ∧ ¬ 255 < x1) (hx2 : 0 ≤ x2.toInt ∧ ¬ 255 < x2) (hx3 : 0 ≤ x3.toInt ∧ ¬ 255 < x3) :
    CtW l Z consts_1 [] (⟨"com/example/peerloom/peerloom/api/AsciiIsAlphanumericOrPinLaw", "text", "(ICCCC)Ljava/lang/String;"⟩ : MethodName) method_4_code 6 (some (.object "java/lang/String")) (⟨4, 6, 16, 66⟩ : Room) #[(.int z), (.int x0), (.int x1), (.int x2), (.int x3)] h0 (fun v h' => ∃ a t, v = some (.ref a) ∧ Keep h0 h' [] ∧ h0.size ≤ a ∧ Str Z h' a t z.toNatClampNeg (own_f4 x0 x1 x2 x3)) := by
  refine CtW.of pn_com_example_peerloom_peerloom_api_AsciiIsAlphanumericOrPinLaw (fun m => ef_t m z x0 x1 x2 x3) ?_
  intro p e s m below meth c s₁ X0 ws0 C0
  have hEL := own_EW hw
  have K1 : Keep h0 h0 [] := Keep.refl _ _
  rcases hz with rfl | rfl | rfl | rfl | rfl
  · skip
    refine Go.iloadN X0 1 dt_0 rfl ?_
    refine Go.if0N X0 4 dt_1 (XT.i0_ne_f (by decide)) ?_
    refine Go.newO X0 7 (hw _ (List.mem_of_getElem? (i := 6) rfl)) (hw _ (List.mem_of_getElem? (i := 7) rfl)) (hw _ (List.mem_of_getElem? (i := 8) rfl)) dt_4 (by decide) (by decide) ?_
    intro T2 h2 a2 X2 E2 g2 A2 D2
    have nw_a2 : Z.heap.size ≤ a2 := by rw [← g2]; exact X0.le
    have si_a2 : h0.size ≤ a2 := by rw [← g2]; exact K1.1
    have ws3 : WS s s.vm h2 := ws0.le E2.1
    have K4 : Keep h0 h2 [] := K1.ext E2
    have F5 : Fld Z h2 a2 "java/lang/String" "value" "[B" .null := D2 (Or.inr (hw _ (List.mem_of_getElem? (i := 22) rfl))) (ty := (.array .byte)) (by decide)
    have F6 : Fld Z h2 a2 "java/lang/String" "coder" "B" (.int (0 : Int32)) := D2 (Or.inr (hw _ (List.mem_of_getElem? (i := 23) rfl))) (ty := .byte) (by decide)
    refine Go.dup X2 8 dt_7 rfl ?_
    refine Go.iconst X2 9 (0 : Int32) dt_8 ?_
    refine Go.newC X2 11 (n := 0) (hw _ (List.mem_of_getElem? (i := 9) rfl)) dt_9 0 (by decide) (by decide) (by decide) (by decide) ?_
    intro T7 h7 a7 X7 E7 g7 V7
    have nw_a7 : Z.heap.size ≤ a7 := by rw [← g7]; exact X2.le
    have si_a7 : h0.size ≤ a7 := by rw [← g7]; exact K4.1
    have ne_a2_a7 : a2 ≠ a7 := by rw [← g7]; exact Nat.ne_of_lt A2.lt
    have ws8 : WS s s.vm h7 := ws3.le E7.1
    have K9 : Keep h0 h7 [] := K4.ext E7
    have F10 : Exa Z h7 a2 "java/lang/String" := A2.ext E7
    have F11 : Fld Z h7 a2 "java/lang/String" "value" "[B" .null := F5.ext E7
    have F12 : Fld Z h7 a2 "java/lang/String" "coder" "B" (.int (0 : Int32)) := F6.ext E7
    refine Go.callIW X7 14 hEL ws8 ((C0.1.ext E2).ext E7) [(.ref a7)] [(.ref a2)] 1 rfl (hw _ (List.mem_of_getElem? (i := 10) rfl)) (hw _ (List.mem_of_getElem? (i := 11) rfl)) (hw _ (List.mem_of_getElem? (i := 8) rfl)) (by decide) rfl (hw _ (List.mem_of_getElem? (i := 12) rfl)) pd_13 dt_11 (rm_i1e l Z a0 hw h7 a2 a7 F10 F11 F12 nw_a2 V7) rfl rfl rfl (Nat.le_of_eq rfl) (by decide) (by decide) (by decide) (by decide) ?_
    rintro T13 v13 L13 vm13 X13 ws13 R13 ⟨rfl, t, K, S⟩
    show Go p e below _ T13 m 14 #[.val (.int (0 : Int32)), .val (.int x0), .val (.int x1), .val (.int x2), .val (.int x3), .unset] [(.ref a2)]
    have K14 : Keep h0 T13.heap [] := K9.trans K (allS (Or.inr si_a2) all0)
    have F15 : Exa Z T13.heap a2 "java/lang/String" := F10.keep K
    have F16 : An Z T13.heap a7 .char 0 (fun _ => (0 : Int32)) := V7.keep K (ninS (Ne.symm ne_a2_a7) nin0)
    have c9 := (C0.trans ((CHr.ext E2 C0.1).trans (CHr.ext E7 (C0.1.ext E2)))).trans R13
    exact Go.retA X13 rfl rfl rfl dt_14 (X13.finW hEL ws13 c9 ⟨_, t, rfl, K14, si_a2, S _⟩ (by decide) (by decide))
  · skip
    refine Go.iloadN X0 1 dt_0 rfl ?_
    refine Go.if0Y X0 15 dt_1 (XT.i0_ne_t (by decide)) ?_
    refine Go.iloadN X0 16 dt_15 rfl ?_
    refine Go.iconst X0 17 (1 : Int32) dt_16 ?_
    refine Go.icmpN X0 20 dt_17 (XT.ii_ne_f (by decide)) ?_
    refine Go.iconst X0 21 (1 : Int32) dt_20 ?_
    refine Go.newC X0 23 (n := 1) (hw _ (List.mem_of_getElem? (i := 9) rfl)) dt_21 1 (by decide) (by decide) (by decide) (by decide) ?_
    intro T17 h17 a17 X17 E17 g17 V17
    have nw_a17 : Z.heap.size ≤ a17 := by rw [← g17]; exact X0.le
    have si_a17 : h0.size ≤ a17 := by rw [← g17]; exact K1.1
    have ws18 : WS s s.vm h17 := ws0.le E17.1
    have K19 : Keep h0 h17 [] := K1.ext E17
    refine Go.astore X17 25 #[.val (.int (1 : Int32)), .val (.int x0), .val (.int x1), .val (.int x2), .val (.int x3), .val (.ref a17)] dt_23 rfl rfl ?_
    refine Go.aload X17 27 dt_25 rfl rfl ?_
    refine Go.iconst X17 28 (0 : Int32) dt_27 ?_
    refine Go.iloadN X17 29 dt_28 rfl ?_
    refine Go.stCN X17 30 V17 0 (by decide) dt_29 nw_a17 ?_
    intro T20 h20 w20 X20 W20 V20
    rw [(own_nr hx0.1 (own_le hx0.2) : nar .char x0 = x0)] at V20
    have ws21 : WS s s.vm h20 := ws18.le (Nat.le_of_eq W20.size.symm)
    have K22 : Keep h0 h20 [] := K19.wr W20 (Or.inr si_a17)
    have F23 : An Z h20 a17 .char 1 (upd (fun _ => (0 : Int32)) 0 x0) := V20
    refine Go.newO X20 33 (hw _ (List.mem_of_getElem? (i := 6) rfl)) (hw _ (List.mem_of_getElem? (i := 7) rfl)) (hw _ (List.mem_of_getElem? (i := 8) rfl)) dt_30 (by decide) (by decide) ?_
    intro T24 h24 a24 X24 E24 g24 A24 D24
    have nw_a24 : Z.heap.size ≤ a24 := by rw [← g24]; exact X20.le
    have si_a24 : h0.size ≤ a24 := by rw [← g24]; exact K22.1
    have ne_a17_a24 : a17 ≠ a24 := by rw [← g24]; exact Nat.ne_of_lt F23.lt
    have ws25 : WS s s.vm h24 := ws21.le E24.1
    have K26 : Keep h0 h24 [] := K22.ext E24
    have F27 : An Z h24 a17 .char 1 (upd (fun _ => (0 : Int32)) 0 x0) := F23.ext E24
    have F28 : Fld Z h24 a24 "java/lang/String" "value" "[B" .null := D24 (Or.inr (hw _ (List.mem_of_getElem? (i := 22) rfl))) (ty := (.array .byte)) (by decide)
    have F29 : Fld Z h24 a24 "java/lang/String" "coder" "B" (.int (0 : Int32)) := D24 (Or.inr (hw _ (List.mem_of_getElem? (i := 23) rfl))) (ty := .byte) (by decide)
    refine Go.dup X24 34 dt_33 rfl ?_
    refine Go.aload X24 36 dt_34 rfl rfl ?_
    have hall : AllC 1 (upd (fun _ => (0 : Int32)) 0 x0) := (AllC.u AllC.z hx0)
    refine Go.callI X24 39 [(.ref a17)] [(.ref a24)] 1 rfl (hw _ (List.mem_of_getElem? (i := 10) rfl)) (hw _ (List.mem_of_getElem? (i := 11) rfl)) (hw _ (List.mem_of_getElem? (i := 8) rfl)) (by decide) rfl (hw _ (List.mem_of_getElem? (i := 12) rfl)) pd_13 dt_36 (rm_i1 l Z a0 hw h24 cz SC hcz a24 a17 1 (upd (fun _ => (0 : Int32)) 0 x0) (by decide) (by decide) A24 F28 F29 nw_a24 ne_a17_a24 F27 (fun j hj => ⟨(hall j hj).1, own_le (hall j hj).2⟩) (fun j hj => (hall j hj).2)) rfl rfl rfl (Nat.le_of_eq rfl) (by decide) (by decide) (by decide) (by decide) ?_
    rintro T30 v30 L30 X30 ⟨rfl, t, K, gt, S⟩
    show Go p e below _ T30 m 39 #[.val (.int (1 : Int32)), .val (.int x0), .val (.int x1), .val (.int x2), .val (.int x3), .val (.ref a17)] [(.ref a24)]
    have ws31 : WS s s.vm T30.heap := ws25.le K.1
    have K32 : Keep h0 T30.heap [] := K26.trans K (allS (Or.inr si_a24) all0)
    have F33 : An Z T30.heap a17 .char 1 (upd (fun _ => (0 : Int32)) 0 x0) := F27.keep K (ninS ne_a17_a24 nin0)
    have F34 : Exa Z T30.heap a24 "java/lang/String" := A24.keep K
    have hcs : ∀ j, j < 1 → (upd (fun _ => (0 : Int32)) 0 x0) j = own_f4 x0 x1 x2 x3 j := by
      intro j hj
      have : j = 0 := by omega
      rcases this with rfl <;> rfl
    exact Go.retA X30 rfl rfl rfl dt_39 (X30.finW hEL ws31 (C0.trans (CHr.keep K32 sf0 C0.1)) ⟨_, t, rfl, K32, si_a24, S.congr hcs⟩ (by decide) (by decide))
  · skip
    refine Go.iloadN X0 1 dt_0 rfl ?_
    refine Go.if0Y X0 15 dt_1 (XT.i0_ne_t (by decide)) ?_
    refine Go.iloadN X0 16 dt_15 rfl ?_
    refine Go.iconst X0 17 (1 : Int32) dt_16 ?_
    refine Go.icmpY X0 40 dt_17 (XT.ii_ne_t (by decide)) ?_
    refine Go.iloadN X0 41 dt_40 rfl ?_
    refine Go.iconst X0 42 (2 : Int32) dt_41 ?_
    refine Go.icmpN X0 45 dt_42 (XT.ii_ne_f (by decide)) ?_
    refine Go.iconst X0 46 (2 : Int32) dt_45 ?_
    refine Go.newC X0 48 (n := 2) (hw _ (List.mem_of_getElem? (i := 9) rfl)) dt_46 2 (by decide) (by decide) (by decide) (by decide) ?_
    intro T35 h35 a35 X35 E35 g35 V35
    have nw_a35 : Z.heap.size ≤ a35 := by rw [← g35]; exact X0.le
    have si_a35 : h0.size ≤ a35 := by rw [← g35]; exact K1.1
    have ws36 : WS s s.vm h35 := ws0.le E35.1
    have K37 : Keep h0 h35 [] := K1.ext E35
    refine Go.astore X35 50 #[.val (.int (2 : Int32)), .val (.int x0), .val (.int x1), .val (.int x2), .val (.int x3), .val (.ref a35)] dt_48 rfl rfl ?_
    refine Go.aload X35 52 dt_50 rfl rfl ?_
    refine Go.iconst X35 53 (0 : Int32) dt_52 ?_
    refine Go.iloadN X35 54 dt_53 rfl ?_
    refine Go.stCN X35 55 V35 0 (by decide) dt_54 nw_a35 ?_
    intro T38 h38 w38 X38 W38 V38
    rw [(own_nr hx0.1 (own_le hx0.2) : nar .char x0 = x0)] at V38
    have ws39 : WS s s.vm h38 := ws36.le (Nat.le_of_eq W38.size.symm)
    have K40 : Keep h0 h38 [] := K37.wr W38 (Or.inr si_a35)
    have F41 : An Z h38 a35 .char 2 (upd (fun _ => (0 : Int32)) 0 x0) := V38
    refine Go.aload X38 57 dt_55 rfl rfl ?_
    refine Go.iconst X38 58 (1 : Int32) dt_57 ?_
    refine Go.iloadN X38 59 dt_58 rfl ?_
    refine Go.stCN X38 60 F41 1 (by decide) dt_59 nw_a35 ?_
    intro T42 h42 w42 X42 W42 V42
    rw [(own_nr hx1.1 (own_le hx1.2) : nar .char x1 = x1)] at V42
    have ws43 : WS s s.vm h42 := ws39.le (Nat.le_of_eq W42.size.symm)
    have K44 : Keep h0 h42 [] := K40.wr W42 (Or.inr si_a35)
    have F45 : An Z h42 a35 .char 2 (upd (upd (fun _ => (0 : Int32)) 0 x0) 1 x1) := V42
    refine Go.newO X42 63 (hw _ (List.mem_of_getElem? (i := 6) rfl)) (hw _ (List.mem_of_getElem? (i := 7) rfl)) (hw _ (List.mem_of_getElem? (i := 8) rfl)) dt_60 (by decide) (by decide) ?_
    intro T46 h46 a46 X46 E46 g46 A46 D46
    have nw_a46 : Z.heap.size ≤ a46 := by rw [← g46]; exact X42.le
    have si_a46 : h0.size ≤ a46 := by rw [← g46]; exact K44.1
    have ne_a35_a46 : a35 ≠ a46 := by rw [← g46]; exact Nat.ne_of_lt F45.lt
    have ws47 : WS s s.vm h46 := ws43.le E46.1
    have K48 : Keep h0 h46 [] := K44.ext E46
    have F49 : An Z h46 a35 .char 2 (upd (upd (fun _ => (0 : Int32)) 0 x0) 1 x1) := F45.ext E46
    have F50 : Fld Z h46 a46 "java/lang/String" "value" "[B" .null := D46 (Or.inr (hw _ (List.mem_of_getElem? (i := 22) rfl))) (ty := (.array .byte)) (by decide)
    have F51 : Fld Z h46 a46 "java/lang/String" "coder" "B" (.int (0 : Int32)) := D46 (Or.inr (hw _ (List.mem_of_getElem? (i := 23) rfl))) (ty := .byte) (by decide)
    refine Go.dup X46 64 dt_63 rfl ?_
    refine Go.aload X46 66 dt_64 rfl rfl ?_
    have hall : AllC 2 (upd (upd (fun _ => (0 : Int32)) 0 x0) 1 x1) := (AllC.u (AllC.u AllC.z hx0) hx1)
    refine Go.callI X46 69 [(.ref a35)] [(.ref a46)] 1 rfl (hw _ (List.mem_of_getElem? (i := 10) rfl)) (hw _ (List.mem_of_getElem? (i := 11) rfl)) (hw _ (List.mem_of_getElem? (i := 8) rfl)) (by decide) rfl (hw _ (List.mem_of_getElem? (i := 12) rfl)) pd_13 dt_66 (rm_i1 l Z a0 hw h46 cz SC hcz a46 a35 2 (upd (upd (fun _ => (0 : Int32)) 0 x0) 1 x1) (by decide) (by decide) A46 F50 F51 nw_a46 ne_a35_a46 F49 (fun j hj => ⟨(hall j hj).1, own_le (hall j hj).2⟩) (fun j hj => (hall j hj).2)) rfl rfl rfl (Nat.le_of_eq rfl) (by decide) (by decide) (by decide) (by decide) ?_
    rintro T52 v52 L52 X52 ⟨rfl, t, K, gt, S⟩
    show Go p e below _ T52 m 69 #[.val (.int (2 : Int32)), .val (.int x0), .val (.int x1), .val (.int x2), .val (.int x3), .val (.ref a35)] [(.ref a46)]
    have ws53 : WS s s.vm T52.heap := ws47.le K.1
    have K54 : Keep h0 T52.heap [] := K48.trans K (allS (Or.inr si_a46) all0)
    have F55 : An Z T52.heap a35 .char 2 (upd (upd (fun _ => (0 : Int32)) 0 x0) 1 x1) := F49.keep K (ninS ne_a35_a46 nin0)
    have F56 : Exa Z T52.heap a46 "java/lang/String" := A46.keep K
    have hcs : ∀ j, j < 2 → (upd (upd (fun _ => (0 : Int32)) 0 x0) 1 x1) j = own_f4 x0 x1 x2 x3 j := by
      intro j hj
      have : j = 0 ∨ j = 1 := by omega
      rcases this with rfl | rfl <;> rfl
    exact Go.retA X52 rfl rfl rfl dt_69 (X52.finW hEL ws53 (C0.trans (CHr.keep K54 sf0 C0.1)) ⟨_, t, rfl, K54, si_a46, S.congr hcs⟩ (by decide) (by decide))
  · skip
    refine Go.iloadN X0 1 dt_0 rfl ?_
    refine Go.if0Y X0 15 dt_1 (XT.i0_ne_t (by decide)) ?_
    refine Go.iloadN X0 16 dt_15 rfl ?_
    refine Go.iconst X0 17 (1 : Int32) dt_16 ?_
    refine Go.icmpY X0 40 dt_17 (XT.ii_ne_t (by decide)) ?_
    refine Go.iloadN X0 41 dt_40 rfl ?_
    refine Go.iconst X0 42 (2 : Int32) dt_41 ?_
    refine Go.icmpY X0 70 dt_42 (XT.ii_ne_t (by decide)) ?_
    refine Go.iloadN X0 71 dt_70 rfl ?_
    refine Go.iconst X0 72 (3 : Int32) dt_71 ?_
    refine Go.icmpN X0 75 dt_72 (XT.ii_ne_f (by decide)) ?_
    refine Go.iconst X0 76 (3 : Int32) dt_75 ?_
    refine Go.newC X0 78 (n := 3) (hw _ (List.mem_of_getElem? (i := 9) rfl)) dt_76 3 (by decide) (by decide) (by decide) (by decide) ?_
    intro T57 h57 a57 X57 E57 g57 V57
    have nw_a57 : Z.heap.size ≤ a57 := by rw [← g57]; exact X0.le
    have si_a57 : h0.size ≤ a57 := by rw [← g57]; exact K1.1
    have ws58 : WS s s.vm h57 := ws0.le E57.1
    have K59 : Keep h0 h57 [] := K1.ext E57
    refine Go.astore X57 80 #[.val (.int (3 : Int32)), .val (.int x0), .val (.int x1), .val (.int x2), .val (.int x3), .val (.ref a57)] dt_78 rfl rfl ?_
    refine Go.aload X57 82 dt_80 rfl rfl ?_
    refine Go.iconst X57 83 (0 : Int32) dt_82 ?_
    refine Go.iloadN X57 84 dt_83 rfl ?_
    refine Go.stCN X57 85 V57 0 (by decide) dt_84 nw_a57 ?_
    intro T60 h60 w60 X60 W60 V60
    rw [(own_nr hx0.1 (own_le hx0.2) : nar .char x0 = x0)] at V60
    have ws61 : WS s s.vm h60 := ws58.le (Nat.le_of_eq W60.size.symm)
    have K62 : Keep h0 h60 [] := K59.wr W60 (Or.inr si_a57)
    have F63 : An Z h60 a57 .char 3 (upd (fun _ => (0 : Int32)) 0 x0) := V60
    refine Go.aload X60 87 dt_85 rfl rfl ?_
    refine Go.iconst X60 88 (1 : Int32) dt_87 ?_
    refine Go.iloadN X60 89 dt_88 rfl ?_
    refine Go.stCN X60 90 F63 1 (by decide) dt_89 nw_a57 ?_
    intro T64 h64 w64 X64 W64 V64
    rw [(own_nr hx1.1 (own_le hx1.2) : nar .char x1 = x1)] at V64
    have ws65 : WS s s.vm h64 := ws61.le (Nat.le_of_eq W64.size.symm)
    have K66 : Keep h0 h64 [] := K62.wr W64 (Or.inr si_a57)
    have F67 : An Z h64 a57 .char 3 (upd (upd (fun _ => (0 : Int32)) 0 x0) 1 x1) := V64
    refine Go.aload X64 92 dt_90 rfl rfl ?_
    refine Go.iconst X64 93 (2 : Int32) dt_92 ?_
    refine Go.iloadN X64 94 dt_93 rfl ?_
    refine Go.stCN X64 95 F67 2 (by decide) dt_94 nw_a57 ?_
    intro T68 h68 w68 X68 W68 V68
    rw [(own_nr hx2.1 (own_le hx2.2) : nar .char x2 = x2)] at V68
    have ws69 : WS s s.vm h68 := ws65.le (Nat.le_of_eq W68.size.symm)
    have K70 : Keep h0 h68 [] := K66.wr W68 (Or.inr si_a57)
    have F71 : An Z h68 a57 .char 3 (upd (upd (upd (fun _ => (0 : Int32)) 0 x0) 1 x1) 2 x2) := V68
    refine Go.newO X68 98 (hw _ (List.mem_of_getElem? (i := 6) rfl)) (hw _ (List.mem_of_getElem? (i := 7) rfl)) (hw _ (List.mem_of_getElem? (i := 8) rfl)) dt_95 (by decide) (by decide) ?_
    intro T72 h72 a72 X72 E72 g72 A72 D72
    have nw_a72 : Z.heap.size ≤ a72 := by rw [← g72]; exact X68.le
    have si_a72 : h0.size ≤ a72 := by rw [← g72]; exact K70.1
    have ne_a57_a72 : a57 ≠ a72 := by rw [← g72]; exact Nat.ne_of_lt F71.lt
    have ws73 : WS s s.vm h72 := ws69.le E72.1
    have K74 : Keep h0 h72 [] := K70.ext E72
    have F75 : An Z h72 a57 .char 3 (upd (upd (upd (fun _ => (0 : Int32)) 0 x0) 1 x1) 2 x2) := F71.ext E72
    have F76 : Fld Z h72 a72 "java/lang/String" "value" "[B" .null := D72 (Or.inr (hw _ (List.mem_of_getElem? (i := 22) rfl))) (ty := (.array .byte)) (by decide)
    have F77 : Fld Z h72 a72 "java/lang/String" "coder" "B" (.int (0 : Int32)) := D72 (Or.inr (hw _ (List.mem_of_getElem? (i := 23) rfl))) (ty := .byte) (by decide)
    refine Go.dup X72 99 dt_98 rfl ?_
    refine Go.aload X72 101 dt_99 rfl rfl ?_
    have hall : AllC 3 (upd (upd (upd (fun _ => (0 : Int32)) 0 x0) 1 x1) 2 x2) := (AllC.u (AllC.u (AllC.u AllC.z hx0) hx1) hx2)
    refine Go.callI X72 104 [(.ref a57)] [(.ref a72)] 1 rfl (hw _ (List.mem_of_getElem? (i := 10) rfl)) (hw _ (List.mem_of_getElem? (i := 11) rfl)) (hw _ (List.mem_of_getElem? (i := 8) rfl)) (by decide) rfl (hw _ (List.mem_of_getElem? (i := 12) rfl)) pd_13 dt_101 (rm_i1 l Z a0 hw h72 cz SC hcz a72 a57 3 (upd (upd (upd (fun _ => (0 : Int32)) 0 x0) 1 x1) 2 x2) (by decide) (by decide) A72 F76 F77 nw_a72 ne_a57_a72 F75 (fun j hj => ⟨(hall j hj).1, own_le (hall j hj).2⟩) (fun j hj => (hall j hj).2)) rfl rfl rfl (Nat.le_of_eq rfl) (by decide) (by decide) (by decide) (by decide) ?_
    rintro T78 v78 L78 X78 ⟨rfl, t, K, gt, S⟩
    show Go p e below _ T78 m 104 #[.val (.int (3 : Int32)), .val (.int x0), .val (.int x1), .val (.int x2), .val (.int x3), .val (.ref a57)] [(.ref a72)]
    have ws79 : WS s s.vm T78.heap := ws73.le K.1
    have K80 : Keep h0 T78.heap [] := K74.trans K (allS (Or.inr si_a72) all0)
    have F81 : An Z T78.heap a57 .char 3 (upd (upd (upd (fun _ => (0 : Int32)) 0 x0) 1 x1) 2 x2) := F75.keep K (ninS ne_a57_a72 nin0)
    have F82 : Exa Z T78.heap a72 "java/lang/String" := A72.keep K
    have hcs : ∀ j, j < 3 → (upd (upd (upd (fun _ => (0 : Int32)) 0 x0) 1 x1) 2 x2) j = own_f4 x0 x1 x2 x3 j := by
      intro j hj
      have : j = 0 ∨ j = 1 ∨ j = 2 := by omega
      rcases this with rfl | rfl | rfl <;> rfl
    exact Go.retA X78 rfl rfl rfl dt_104 (X78.finW hEL ws79 (C0.trans (CHr.keep K80 sf0 C0.1)) ⟨_, t, rfl, K80, si_a72, S.congr hcs⟩ (by decide) (by decide))
  · skip
    refine Go.iloadN X0 1 dt_0 rfl ?_
    refine Go.if0Y X0 15 dt_1 (XT.i0_ne_t (by decide)) ?_
    refine Go.iloadN X0 16 dt_15 rfl ?_
    refine Go.iconst X0 17 (1 : Int32) dt_16 ?_
    refine Go.icmpY X0 40 dt_17 (XT.ii_ne_t (by decide)) ?_
    refine Go.iloadN X0 41 dt_40 rfl ?_
    refine Go.iconst X0 42 (2 : Int32) dt_41 ?_
    refine Go.icmpY X0 70 dt_42 (XT.ii_ne_t (by decide)) ?_
    refine Go.iloadN X0 71 dt_70 rfl ?_
    refine Go.iconst X0 72 (3 : Int32) dt_71 ?_
    refine Go.icmpY X0 105 dt_72 (XT.ii_ne_t (by decide)) ?_
    refine Go.iconst X0 106 (4 : Int32) dt_105 ?_
    refine Go.newC X0 108 (n := 4) (hw _ (List.mem_of_getElem? (i := 9) rfl)) dt_106 4 (by decide) (by decide) (by decide) (by decide) ?_
    intro T83 h83 a83 X83 E83 g83 V83
    have nw_a83 : Z.heap.size ≤ a83 := by rw [← g83]; exact X0.le
    have si_a83 : h0.size ≤ a83 := by rw [← g83]; exact K1.1
    have ws84 : WS s s.vm h83 := ws0.le E83.1
    have K85 : Keep h0 h83 [] := K1.ext E83
    refine Go.astore X83 110 #[.val (.int (4 : Int32)), .val (.int x0), .val (.int x1), .val (.int x2), .val (.int x3), .val (.ref a83)] dt_108 rfl rfl ?_
    refine Go.aload X83 112 dt_110 rfl rfl ?_
    refine Go.iconst X83 113 (0 : Int32) dt_112 ?_
    refine Go.iloadN X83 114 dt_113 rfl ?_
    refine Go.stCN X83 115 V83 0 (by decide) dt_114 nw_a83 ?_
    intro T86 h86 w86 X86 W86 V86
    rw [(own_nr hx0.1 (own_le hx0.2) : nar .char x0 = x0)] at V86
    have ws87 : WS s s.vm h86 := ws84.le (Nat.le_of_eq W86.size.symm)
    have K88 : Keep h0 h86 [] := K85.wr W86 (Or.inr si_a83)
    have F89 : An Z h86 a83 .char 4 (upd (fun _ => (0 : Int32)) 0 x0) := V86
    refine Go.aload X86 117 dt_115 rfl rfl ?_
    refine Go.iconst X86 118 (1 : Int32) dt_117 ?_
    refine Go.iloadN X86 119 dt_118 rfl ?_
    refine Go.stCN X86 120 F89 1 (by decide) dt_119 nw_a83 ?_
    intro T90 h90 w90 X90 W90 V90
    rw [(own_nr hx1.1 (own_le hx1.2) : nar .char x1 = x1)] at V90
    have ws91 : WS s s.vm h90 := ws87.le (Nat.le_of_eq W90.size.symm)
    have K92 : Keep h0 h90 [] := K88.wr W90 (Or.inr si_a83)
    have F93 : An Z h90 a83 .char 4 (upd (upd (fun _ => (0 : Int32)) 0 x0) 1 x1) := V90
    refine Go.aload X90 122 dt_120 rfl rfl ?_
    refine Go.iconst X90 123 (2 : Int32) dt_122 ?_
    refine Go.iloadN X90 124 dt_123 rfl ?_
    refine Go.stCN X90 125 F93 2 (by decide) dt_124 nw_a83 ?_
    intro T94 h94 w94 X94 W94 V94
    rw [(own_nr hx2.1 (own_le hx2.2) : nar .char x2 = x2)] at V94
    have ws95 : WS s s.vm h94 := ws91.le (Nat.le_of_eq W94.size.symm)
    have K96 : Keep h0 h94 [] := K92.wr W94 (Or.inr si_a83)
    have F97 : An Z h94 a83 .char 4 (upd (upd (upd (fun _ => (0 : Int32)) 0 x0) 1 x1) 2 x2) := V94
    refine Go.aload X94 127 dt_125 rfl rfl ?_
    refine Go.iconst X94 128 (3 : Int32) dt_127 ?_
    refine Go.iload X94 130 dt_128 rfl ?_
    refine Go.stCN X94 131 F97 3 (by decide) dt_130 nw_a83 ?_
    intro T98 h98 w98 X98 W98 V98
    rw [(own_nr hx3.1 (own_le hx3.2) : nar .char x3 = x3)] at V98
    have ws99 : WS s s.vm h98 := ws95.le (Nat.le_of_eq W98.size.symm)
    have K100 : Keep h0 h98 [] := K96.wr W98 (Or.inr si_a83)
    have F101 : An Z h98 a83 .char 4 (upd (upd (upd (upd (fun _ => (0 : Int32)) 0 x0) 1 x1) 2 x2) 3 x3) := V98
    refine Go.newO X98 134 (hw _ (List.mem_of_getElem? (i := 6) rfl)) (hw _ (List.mem_of_getElem? (i := 7) rfl)) (hw _ (List.mem_of_getElem? (i := 8) rfl)) dt_131 (by decide) (by decide) ?_
    intro T102 h102 a102 X102 E102 g102 A102 D102
    have nw_a102 : Z.heap.size ≤ a102 := by rw [← g102]; exact X98.le
    have si_a102 : h0.size ≤ a102 := by rw [← g102]; exact K100.1
    have ne_a83_a102 : a83 ≠ a102 := by rw [← g102]; exact Nat.ne_of_lt F101.lt
    have ws103 : WS s s.vm h102 := ws99.le E102.1
    have K104 : Keep h0 h102 [] := K100.ext E102
    have F105 : An Z h102 a83 .char 4 (upd (upd (upd (upd (fun _ => (0 : Int32)) 0 x0) 1 x1) 2 x2) 3 x3) := F101.ext E102
    have F106 : Fld Z h102 a102 "java/lang/String" "value" "[B" .null := D102 (Or.inr (hw _ (List.mem_of_getElem? (i := 22) rfl))) (ty := (.array .byte)) (by decide)
    have F107 : Fld Z h102 a102 "java/lang/String" "coder" "B" (.int (0 : Int32)) := D102 (Or.inr (hw _ (List.mem_of_getElem? (i := 23) rfl))) (ty := .byte) (by decide)
    refine Go.dup X102 135 dt_134 rfl ?_
    refine Go.aload X102 137 dt_135 rfl rfl ?_
    have hall : AllC 4 (upd (upd (upd (upd (fun _ => (0 : Int32)) 0 x0) 1 x1) 2 x2) 3 x3) := (AllC.u (AllC.u (AllC.u (AllC.u AllC.z hx0) hx1) hx2) hx3)
    refine Go.callI X102 140 [(.ref a83)] [(.ref a102)] 1 rfl (hw _ (List.mem_of_getElem? (i := 10) rfl)) (hw _ (List.mem_of_getElem? (i := 11) rfl)) (hw _ (List.mem_of_getElem? (i := 8) rfl)) (by decide) rfl (hw _ (List.mem_of_getElem? (i := 12) rfl)) pd_13 dt_137 (rm_i1 l Z a0 hw h102 cz SC hcz a102 a83 4 (upd (upd (upd (upd (fun _ => (0 : Int32)) 0 x0) 1 x1) 2 x2) 3 x3) (by decide) (by decide) A102 F106 F107 nw_a102 ne_a83_a102 F105 (fun j hj => ⟨(hall j hj).1, own_le (hall j hj).2⟩) (fun j hj => (hall j hj).2)) rfl rfl rfl (Nat.le_of_eq rfl) (by decide) (by decide) (by decide) (by decide) ?_
    rintro T108 v108 L108 X108 ⟨rfl, t, K, gt, S⟩
    show Go p e below _ T108 m 140 #[.val (.int (4 : Int32)), .val (.int x0), .val (.int x1), .val (.int x2), .val (.int x3), .val (.ref a83)] [(.ref a102)]
    have ws109 : WS s s.vm T108.heap := ws103.le K.1
    have K110 : Keep h0 T108.heap [] := K104.trans K (allS (Or.inr si_a102) all0)
    have F111 : An Z T108.heap a83 .char 4 (upd (upd (upd (upd (fun _ => (0 : Int32)) 0 x0) 1 x1) 2 x2) 3 x3) := F105.keep K (ninS ne_a83_a102 nin0)
    have F112 : Exa Z T108.heap a102 "java/lang/String" := A102.keep K
    have hcs : ∀ j, j < 4 → (upd (upd (upd (upd (fun _ => (0 : Int32)) 0 x0) 1 x1) 2 x2) 3 x3) j = own_f4 x0 x1 x2 x3 j := by
      intro j hj
      have : j = 0 ∨ j = 1 ∨ j = 2 ∨ j = 3 := by omega
      rcases this with rfl | rfl | rfl | rfl <;> rfl
    exact Go.retA X108 rfl rfl rfl dt_140 (X108.finW hEL ws109 (C0.trans (CHr.keep K110 sf0 C0.1)) ⟨_, t, rfl, K110, si_a102, S.congr hcs⟩ (by decide) (by decide))
theorem dpu_0 : decode method_5_code 0 = .ok (.iload_n 0, 1) := by decide +kernel
theorem dpu_1 : decode method_5_code 1 = .ok (.ifCond .ne 14, 3) := by decide +kernel
theorem dpu_4 : decode method_5_code 4 = .ok (.new 30, 3) := by decide +kernel
theorem dpu_7 : decode method_5_code 7 = .ok (.dup, 1) := by decide +kernel
theorem dpu_8 : decode method_5_code 8 = .ok (.iconst 0, 1) := by decide +kernel
theorem dpu_9 : decode method_5_code 9 = .ok (.newarray .char, 2) := by decide +kernel
theorem dpu_11 : decode method_5_code 11 = .ok (.invokespecial 32, 3) := by decide +kernel
theorem dpu_14 : decode method_5_code 14 = .ok (.areturn, 1) := by decide +kernel
theorem dpu_15 : decode method_5_code 15 = .ok (.iload_n 0, 1) := by decide +kernel
theorem dpu_16 : decode method_5_code 16 = .ok (.iconst 1, 1) := by decide +kernel
theorem dpu_17 : decode method_5_code 17 = .ok (.if_icmp .ne 20, 3) := by decide +kernel
theorem dpu_20 : decode method_5_code 20 = .ok (.iconst 1, 1) := by decide +kernel
theorem dpu_21 : decode method_5_code 21 = .ok (.newarray .char, 2) := by decide +kernel
theorem dpu_23 : decode method_5_code 23 = .ok (.astore_n 3, 1) := by decide +kernel
theorem dpu_24 : decode method_5_code 24 = .ok (.aload_n 3, 1) := by decide +kernel
theorem dpu_25 : decode method_5_code 25 = .ok (.iconst 0, 1) := by decide +kernel
theorem dpu_26 : decode method_5_code 26 = .ok (.iload_n 1, 1) := by decide +kernel
theorem dpu_27 : decode method_5_code 27 = .ok (.castore, 1) := by decide +kernel
theorem dpu_28 : decode method_5_code 28 = .ok (.new 30, 3) := by decide +kernel
theorem dpu_31 : decode method_5_code 31 = .ok (.dup, 1) := by decide +kernel
theorem dpu_32 : decode method_5_code 32 = .ok (.aload_n 3, 1) := by decide +kernel
theorem dpu_33 : decode method_5_code 33 = .ok (.invokespecial 32, 3) := by decide +kernel
theorem dpu_36 : decode method_5_code 36 = .ok (.areturn, 1) := by decide +kernel
theorem dpu_37 : decode method_5_code 37 = .ok (.iconst 2, 1) := by decide +kernel
theorem dpu_38 : decode method_5_code 38 = .ok (.newarray .char, 2) := by decide +kernel
theorem dpu_40 : decode method_5_code 40 = .ok (.astore_n 3, 1) := by decide +kernel
theorem dpu_41 : decode method_5_code 41 = .ok (.aload_n 3, 1) := by decide +kernel
theorem dpu_42 : decode method_5_code 42 = .ok (.iconst 0, 1) := by decide +kernel
theorem dpu_43 : decode method_5_code 43 = .ok (.iload_n 1, 1) := by decide +kernel
theorem dpu_44 : decode method_5_code 44 = .ok (.castore, 1) := by decide +kernel
theorem dpu_45 : decode method_5_code 45 = .ok (.aload_n 3, 1) := by decide +kernel
theorem dpu_46 : decode method_5_code 46 = .ok (.iconst 1, 1) := by decide +kernel
theorem dpu_47 : decode method_5_code 47 = .ok (.iload_n 2, 1) := by decide +kernel
theorem dpu_48 : decode method_5_code 48 = .ok (.castore, 1) := by decide +kernel
theorem dpu_49 : decode method_5_code 49 = .ok (.new 30, 3) := by decide +kernel
theorem dpu_52 : decode method_5_code 52 = .ok (.dup, 1) := by decide +kernel
theorem dpu_53 : decode method_5_code 53 = .ok (.aload_n 3, 1) := by decide +kernel
theorem dpu_54 : decode method_5_code 54 = .ok (.invokespecial 32, 3) := by decide +kernel
theorem dpu_57 : decode method_5_code 57 = .ok (.areturn, 1) := by decide +kernel
theorem ef_pu (m : MethodId) (z : Int32) (y0 : Int32) (y1 : Int32) : entryFrame m #[(.int z), (.int y0), (.int y1)] 4 = mkF m 0 #[.val (.int z), .val (.int y0), .val (.int y1), .unset] [] := by first | (simp [entryFrame, mkF, argsToLocals, Value.category]; done) | rfl
set_option maxRecDepth 65536 in
set_option maxHeartbeats 40000000 in
theorem rm_pu (l : Launch) (Z : State) (a0 : Array Value) (hw : ∀ d ∈ tables_1, d.before a0 Z = true) (h0 : Heap) (cz : Int32) (SC : Sta Z Z.heap "java/lang/String" "COMPACT_STRINGS" "Z" (.int cz)) (hcz : ¬ cz = 0) (z y0 y1 : Int32) (hz : z = 0 ∨ z = 1 ∨ z = 2) (hy0 : 0 ≤ y0.toInt ∧ ¬ 255 < y0) (hy1 : 0 ≤ y1.toInt ∧ ¬ 255 < y1) :
    CtW l Z consts_1 [] (⟨"com/example/peerloom/peerloom/api/AsciiIsAlphanumericOrPinLaw", "punct", "(ICC)Ljava/lang/String;"⟩ : MethodName) method_5_code 4 (some (.object "java/lang/String")) (⟨4, 6, 14, 66⟩ : Room) #[(.int z), (.int y0), (.int y1)] h0 (fun v h' => ∃ a t, v = some (.ref a) ∧ Keep h0 h' [] ∧ h0.size ≤ a ∧ Str Z h' a t z.toNatClampNeg (own_g2 y0 y1)) := by
  refine CtW.of pn_com_example_peerloom_peerloom_api_AsciiIsAlphanumericOrPinLaw (fun m => ef_pu m z y0 y1) ?_
  intro p e s m below meth c s₁ X0 ws0 C0
  have hEL := own_EW hw
  have K1 : Keep h0 h0 [] := Keep.refl _ _
  rcases hz with rfl | rfl | rfl
  · skip
    refine Go.iloadN X0 1 dpu_0 rfl ?_
    refine Go.if0N X0 4 dpu_1 (XT.i0_ne_f (by decide)) ?_
    refine Go.newO X0 7 (hw _ (List.mem_of_getElem? (i := 6) rfl)) (hw _ (List.mem_of_getElem? (i := 7) rfl)) (hw _ (List.mem_of_getElem? (i := 8) rfl)) dpu_4 (by decide) (by decide) ?_
    intro T2 h2 a2 X2 E2 g2 A2 D2
    have nw_a2 : Z.heap.size ≤ a2 := by rw [← g2]; exact X0.le
    have si_a2 : h0.size ≤ a2 := by rw [← g2]; exact K1.1
    have ws3 : WS s s.vm h2 := ws0.le E2.1
    have K4 : Keep h0 h2 [] := K1.ext E2
    have F5 : Fld Z h2 a2 "java/lang/String" "value" "[B" .null := D2 (Or.inr (hw _ (List.mem_of_getElem? (i := 22) rfl))) (ty := (.array .byte)) (by decide)
    have F6 : Fld Z h2 a2 "java/lang/String" "coder" "B" (.int (0 : Int32)) := D2 (Or.inr (hw _ (List.mem_of_getElem? (i := 23) rfl))) (ty := .byte) (by decide)
    refine Go.dup X2 8 dpu_7 rfl ?_
    refine Go.iconst X2 9 (0 : Int32) dpu_8 ?_
    refine Go.newC X2 11 (n := 0) (hw _ (List.mem_of_getElem? (i := 9) rfl)) dpu_9 0 (by decide) (by decide) (by decide) (by decide) ?_
    intro T7 h7 a7 X7 E7 g7 V7
    have nw_a7 : Z.heap.size ≤ a7 := by rw [← g7]; exact X2.le
    have si_a7 : h0.size ≤ a7 := by rw [← g7]; exact K4.1
    have ne_a2_a7 : a2 ≠ a7 := by rw [← g7]; exact Nat.ne_of_lt A2.lt
    have ws8 : WS s s.vm h7 := ws3.le E7.1
    have K9 : Keep h0 h7 [] := K4.ext E7
    have F10 : Exa Z h7 a2 "java/lang/String" := A2.ext E7
    have F11 : Fld Z h7 a2 "java/lang/String" "value" "[B" .null := F5.ext E7
    have F12 : Fld Z h7 a2 "java/lang/String" "coder" "B" (.int (0 : Int32)) := F6.ext E7
    refine Go.callIW X7 14 hEL ws8 ((C0.1.ext E2).ext E7) [(.ref a7)] [(.ref a2)] 1 rfl (hw _ (List.mem_of_getElem? (i := 10) rfl)) (hw _ (List.mem_of_getElem? (i := 11) rfl)) (hw _ (List.mem_of_getElem? (i := 8) rfl)) (by decide) rfl (hw _ (List.mem_of_getElem? (i := 12) rfl)) pd_13 dpu_11 (rm_i1e l Z a0 hw h7 a2 a7 F10 F11 F12 nw_a2 V7) rfl rfl rfl (Nat.le_of_eq rfl) (by decide) (by decide) (by decide) (by decide) ?_
    rintro T13 v13 L13 vm13 X13 ws13 R13 ⟨rfl, t, K, S⟩
    show Go p e below _ T13 m 14 #[.val (.int (0 : Int32)), .val (.int y0), .val (.int y1), .unset] [(.ref a2)]
    have K14 : Keep h0 T13.heap [] := K9.trans K (allS (Or.inr si_a2) all0)
    have F15 : Exa Z T13.heap a2 "java/lang/String" := F10.keep K
    have F16 : An Z T13.heap a7 .char 0 (fun _ => (0 : Int32)) := V7.keep K (ninS (Ne.symm ne_a2_a7) nin0)
    have c9 := (C0.trans ((CHr.ext E2 C0.1).trans (CHr.ext E7 (C0.1.ext E2)))).trans R13
    exact Go.retA X13 rfl rfl rfl dpu_14 (X13.finW hEL ws13 c9 ⟨_, t, rfl, K14, si_a2, S _⟩ (by decide) (by decide))
  · skip
    refine Go.iloadN X0 1 dpu_0 rfl ?_
    refine Go.if0Y X0 15 dpu_1 (XT.i0_ne_t (by decide)) ?_
    refine Go.iloadN X0 16 dpu_15 rfl ?_
    refine Go.iconst X0 17 (1 : Int32) dpu_16 ?_
    refine Go.icmpN X0 20 dpu_17 (XT.ii_ne_f (by decide)) ?_
    refine Go.iconst X0 21 (1 : Int32) dpu_20 ?_
    refine Go.newC X0 23 (n := 1) (hw _ (List.mem_of_getElem? (i := 9) rfl)) dpu_21 1 (by decide) (by decide) (by decide) (by decide) ?_
    intro T17 h17 a17 X17 E17 g17 V17
    have nw_a17 : Z.heap.size ≤ a17 := by rw [← g17]; exact X0.le
    have si_a17 : h0.size ≤ a17 := by rw [← g17]; exact K1.1
    have ws18 : WS s s.vm h17 := ws0.le E17.1
    have K19 : Keep h0 h17 [] := K1.ext E17
    refine Go.astoreN X17 24 #[.val (.int (1 : Int32)), .val (.int y0), .val (.int y1), .val (.ref a17)] dpu_23 rfl rfl ?_
    refine Go.aloadN X17 25 dpu_24 rfl rfl ?_
    refine Go.iconst X17 26 (0 : Int32) dpu_25 ?_
    refine Go.iloadN X17 27 dpu_26 rfl ?_
    refine Go.stCN X17 28 V17 0 (by decide) dpu_27 nw_a17 ?_
    intro T20 h20 w20 X20 W20 V20
    rw [(own_nr hy0.1 (own_le hy0.2) : nar .char y0 = y0)] at V20
    have ws21 : WS s s.vm h20 := ws18.le (Nat.le_of_eq W20.size.symm)
    have K22 : Keep h0 h20 [] := K19.wr W20 (Or.inr si_a17)
    have F23 : An Z h20 a17 .char 1 (upd (fun _ => (0 : Int32)) 0 y0) := V20
    refine Go.newO X20 31 (hw _ (List.mem_of_getElem? (i := 6) rfl)) (hw _ (List.mem_of_getElem? (i := 7) rfl)) (hw _ (List.mem_of_getElem? (i := 8) rfl)) dpu_28 (by decide) (by decide) ?_
    intro T24 h24 a24 X24 E24 g24 A24 D24
    have nw_a24 : Z.heap.size ≤ a24 := by rw [← g24]; exact X20.le
    have si_a24 : h0.size ≤ a24 := by rw [← g24]; exact K22.1
    have ne_a17_a24 : a17 ≠ a24 := by rw [← g24]; exact Nat.ne_of_lt F23.lt
    have ws25 : WS s s.vm h24 := ws21.le E24.1
    have K26 : Keep h0 h24 [] := K22.ext E24
    have F27 : An Z h24 a17 .char 1 (upd (fun _ => (0 : Int32)) 0 y0) := F23.ext E24
    have F28 : Fld Z h24 a24 "java/lang/String" "value" "[B" .null := D24 (Or.inr (hw _ (List.mem_of_getElem? (i := 22) rfl))) (ty := (.array .byte)) (by decide)
    have F29 : Fld Z h24 a24 "java/lang/String" "coder" "B" (.int (0 : Int32)) := D24 (Or.inr (hw _ (List.mem_of_getElem? (i := 23) rfl))) (ty := .byte) (by decide)
    refine Go.dup X24 32 dpu_31 rfl ?_
    refine Go.aloadN X24 33 dpu_32 rfl rfl ?_
    have hall : AllC 1 (upd (fun _ => (0 : Int32)) 0 y0) := (AllC.u AllC.z hy0)
    refine Go.callI X24 36 [(.ref a17)] [(.ref a24)] 1 rfl (hw _ (List.mem_of_getElem? (i := 10) rfl)) (hw _ (List.mem_of_getElem? (i := 11) rfl)) (hw _ (List.mem_of_getElem? (i := 8) rfl)) (by decide) rfl (hw _ (List.mem_of_getElem? (i := 12) rfl)) pd_13 dpu_33 (rm_i1 l Z a0 hw h24 cz SC hcz a24 a17 1 (upd (fun _ => (0 : Int32)) 0 y0) (by decide) (by decide) A24 F28 F29 nw_a24 ne_a17_a24 F27 (fun j hj => ⟨(hall j hj).1, own_le (hall j hj).2⟩) (fun j hj => (hall j hj).2)) rfl rfl rfl (Nat.le_of_eq rfl) (by decide) (by decide) (by decide) (by decide) ?_
    rintro T30 v30 L30 X30 ⟨rfl, t, K, gt, S⟩
    show Go p e below _ T30 m 36 #[.val (.int (1 : Int32)), .val (.int y0), .val (.int y1), .val (.ref a17)] [(.ref a24)]
    have ws31 : WS s s.vm T30.heap := ws25.le K.1
    have K32 : Keep h0 T30.heap [] := K26.trans K (allS (Or.inr si_a24) all0)
    have F33 : An Z T30.heap a17 .char 1 (upd (fun _ => (0 : Int32)) 0 y0) := F27.keep K (ninS ne_a17_a24 nin0)
    have F34 : Exa Z T30.heap a24 "java/lang/String" := A24.keep K
    have hcs : ∀ j, j < 1 → (upd (fun _ => (0 : Int32)) 0 y0) j = own_g2 y0 y1 j := by
      intro j hj
      have : j = 0 := by omega
      rcases this with rfl <;> rfl
    exact Go.retA X30 rfl rfl rfl dpu_36 (X30.finW hEL ws31 (C0.trans (CHr.keep K32 sf0 C0.1)) ⟨_, t, rfl, K32, si_a24, S.congr hcs⟩ (by decide) (by decide))
  · skip
    refine Go.iloadN X0 1 dpu_0 rfl ?_
    refine Go.if0Y X0 15 dpu_1 (XT.i0_ne_t (by decide)) ?_
    refine Go.iloadN X0 16 dpu_15 rfl ?_
    refine Go.iconst X0 17 (1 : Int32) dpu_16 ?_
    refine Go.icmpY X0 37 dpu_17 (XT.ii_ne_t (by decide)) ?_
    refine Go.iconst X0 38 (2 : Int32) dpu_37 ?_
    refine Go.newC X0 40 (n := 2) (hw _ (List.mem_of_getElem? (i := 9) rfl)) dpu_38 2 (by decide) (by decide) (by decide) (by decide) ?_
    intro T35 h35 a35 X35 E35 g35 V35
    have nw_a35 : Z.heap.size ≤ a35 := by rw [← g35]; exact X0.le
    have si_a35 : h0.size ≤ a35 := by rw [← g35]; exact K1.1
    have ws36 : WS s s.vm h35 := ws0.le E35.1
    have K37 : Keep h0 h35 [] := K1.ext E35
    refine Go.astoreN X35 41 #[.val (.int (2 : Int32)), .val (.int y0), .val (.int y1), .val (.ref a35)] dpu_40 rfl rfl ?_
    refine Go.aloadN X35 42 dpu_41 rfl rfl ?_
    refine Go.iconst X35 43 (0 : Int32) dpu_42 ?_
    refine Go.iloadN X35 44 dpu_43 rfl ?_
    refine Go.stCN X35 45 V35 0 (by decide) dpu_44 nw_a35 ?_
    intro T38 h38 w38 X38 W38 V38
    rw [(own_nr hy0.1 (own_le hy0.2) : nar .char y0 = y0)] at V38
    have ws39 : WS s s.vm h38 := ws36.le (Nat.le_of_eq W38.size.symm)
    have K40 : Keep h0 h38 [] := K37.wr W38 (Or.inr si_a35)
    have F41 : An Z h38 a35 .char 2 (upd (fun _ => (0 : Int32)) 0 y0) := V38
    refine Go.aloadN X38 46 dpu_45 rfl rfl ?_
    refine Go.iconst X38 47 (1 : Int32) dpu_46 ?_
    refine Go.iloadN X38 48 dpu_47 rfl ?_
    refine Go.stCN X38 49 F41 1 (by decide) dpu_48 nw_a35 ?_
    intro T42 h42 w42 X42 W42 V42
    rw [(own_nr hy1.1 (own_le hy1.2) : nar .char y1 = y1)] at V42
    have ws43 : WS s s.vm h42 := ws39.le (Nat.le_of_eq W42.size.symm)
    have K44 : Keep h0 h42 [] := K40.wr W42 (Or.inr si_a35)
    have F45 : An Z h42 a35 .char 2 (upd (upd (fun _ => (0 : Int32)) 0 y0) 1 y1) := V42
    refine Go.newO X42 52 (hw _ (List.mem_of_getElem? (i := 6) rfl)) (hw _ (List.mem_of_getElem? (i := 7) rfl)) (hw _ (List.mem_of_getElem? (i := 8) rfl)) dpu_49 (by decide) (by decide) ?_
    intro T46 h46 a46 X46 E46 g46 A46 D46
    have nw_a46 : Z.heap.size ≤ a46 := by rw [← g46]; exact X42.le
    have si_a46 : h0.size ≤ a46 := by rw [← g46]; exact K44.1
    have ne_a35_a46 : a35 ≠ a46 := by rw [← g46]; exact Nat.ne_of_lt F45.lt
    have ws47 : WS s s.vm h46 := ws43.le E46.1
    have K48 : Keep h0 h46 [] := K44.ext E46
    have F49 : An Z h46 a35 .char 2 (upd (upd (fun _ => (0 : Int32)) 0 y0) 1 y1) := F45.ext E46
    have F50 : Fld Z h46 a46 "java/lang/String" "value" "[B" .null := D46 (Or.inr (hw _ (List.mem_of_getElem? (i := 22) rfl))) (ty := (.array .byte)) (by decide)
    have F51 : Fld Z h46 a46 "java/lang/String" "coder" "B" (.int (0 : Int32)) := D46 (Or.inr (hw _ (List.mem_of_getElem? (i := 23) rfl))) (ty := .byte) (by decide)
    refine Go.dup X46 53 dpu_52 rfl ?_
    refine Go.aloadN X46 54 dpu_53 rfl rfl ?_
    have hall : AllC 2 (upd (upd (fun _ => (0 : Int32)) 0 y0) 1 y1) := (AllC.u (AllC.u AllC.z hy0) hy1)
    refine Go.callI X46 57 [(.ref a35)] [(.ref a46)] 1 rfl (hw _ (List.mem_of_getElem? (i := 10) rfl)) (hw _ (List.mem_of_getElem? (i := 11) rfl)) (hw _ (List.mem_of_getElem? (i := 8) rfl)) (by decide) rfl (hw _ (List.mem_of_getElem? (i := 12) rfl)) pd_13 dpu_54 (rm_i1 l Z a0 hw h46 cz SC hcz a46 a35 2 (upd (upd (fun _ => (0 : Int32)) 0 y0) 1 y1) (by decide) (by decide) A46 F50 F51 nw_a46 ne_a35_a46 F49 (fun j hj => ⟨(hall j hj).1, own_le (hall j hj).2⟩) (fun j hj => (hall j hj).2)) rfl rfl rfl (Nat.le_of_eq rfl) (by decide) (by decide) (by decide) (by decide) ?_
    rintro T52 v52 L52 X52 ⟨rfl, t, K, gt, S⟩
    show Go p e below _ T52 m 57 #[.val (.int (2 : Int32)), .val (.int y0), .val (.int y1), .val (.ref a35)] [(.ref a46)]
    have ws53 : WS s s.vm T52.heap := ws47.le K.1
    have K54 : Keep h0 T52.heap [] := K48.trans K (allS (Or.inr si_a46) all0)
    have F55 : An Z T52.heap a35 .char 2 (upd (upd (fun _ => (0 : Int32)) 0 y0) 1 y1) := F49.keep K (ninS ne_a35_a46 nin0)
    have F56 : Exa Z T52.heap a46 "java/lang/String" := A46.keep K
    have hcs : ∀ j, j < 2 → (upd (upd (fun _ => (0 : Int32)) 0 y0) 1 y1) j = own_g2 y0 y1 j := by
      intro j hj
      have : j = 0 ∨ j = 1 := by omega
      rcases this with rfl | rfl <;> rfl
    exact Go.retA X52 rfl rfl rfl dpu_57 (X52.finW hEL ws53 (C0.trans (CHr.keep K54 sf0 C0.1)) ⟨_, t, rfl, K54, si_a46, S.congr hcs⟩ (by decide) (by decide))
theorem dok_0 : decode method_3_code 0 = .ok (.bipush 65, 2) := by decide +kernel
theorem dok_2 : decode method_3_code 2 = .ok (.iload_n 0, 1) := by decide +kernel
theorem dok_3 : decode method_3_code 3 = .ok (.if_icmp .gt 13, 3) := by decide +kernel
theorem dok_6 : decode method_3_code 6 = .ok (.iload_n 0, 1) := by decide +kernel
theorem dok_7 : decode method_3_code 7 = .ok (.bipush 90, 2) := by decide +kernel
theorem dok_9 : decode method_3_code 9 = .ok (.if_icmp .gt 7, 3) := by decide +kernel
theorem dok_12 : decode method_3_code 12 = .ok (.iconst 1, 1) := by decide +kernel
theorem dok_13 : decode method_3_code 13 = .ok (.goto 4, 3) := by decide +kernel
theorem dok_16 : decode method_3_code 16 = .ok (.iconst 0, 1) := by decide +kernel
theorem dok_17 : decode method_3_code 17 = .ok (.istore 4, 2) := by decide +kernel
theorem dok_19 : decode method_3_code 19 = .ok (.bipush 97, 2) := by decide +kernel
theorem dok_21 : decode method_3_code 21 = .ok (.iload_n 0, 1) := by decide +kernel
theorem dok_22 : decode method_3_code 22 = .ok (.if_icmp .gt 13, 3) := by decide +kernel
theorem dok_25 : decode method_3_code 25 = .ok (.iload_n 0, 1) := by decide +kernel
theorem dok_26 : decode method_3_code 26 = .ok (.bipush 122, 2) := by decide +kernel
theorem dok_28 : decode method_3_code 28 = .ok (.if_icmp .gt 7, 3) := by decide +kernel
theorem dok_31 : decode method_3_code 31 = .ok (.iconst 1, 1) := by decide +kernel
theorem dok_32 : decode method_3_code 32 = .ok (.goto 4, 3) := by decide +kernel
theorem dok_35 : decode method_3_code 35 = .ok (.iconst 0, 1) := by decide +kernel
theorem dok_36 : decode method_3_code 36 = .ok (.istore 5, 2) := by decide +kernel
theorem dok_38 : decode method_3_code 38 = .ok (.bipush 48, 2) := by decide +kernel
theorem dok_40 : decode method_3_code 40 = .ok (.iload_n 0, 1) := by decide +kernel
theorem dok_41 : decode method_3_code 41 = .ok (.if_icmp .gt 13, 3) := by decide +kernel
theorem dok_44 : decode method_3_code 44 = .ok (.iload_n 0, 1) := by decide +kernel
theorem dok_45 : decode method_3_code 45 = .ok (.bipush 57, 2) := by decide +kernel
theorem dok_47 : decode method_3_code 47 = .ok (.if_icmp .gt 7, 3) := by decide +kernel
theorem dok_50 : decode method_3_code 50 = .ok (.iconst 1, 1) := by decide +kernel
theorem dok_51 : decode method_3_code 51 = .ok (.goto 4, 3) := by decide +kernel
theorem dok_54 : decode method_3_code 54 = .ok (.iconst 0, 1) := by decide +kernel
theorem dok_55 : decode method_3_code 55 = .ok (.istore 6, 2) := by decide +kernel
theorem dok_57 : decode method_3_code 57 = .ok (.iload_n 1, 1) := by decide +kernel
theorem dok_58 : decode method_3_code 58 = .ok (.iconst 1, 1) := by decide +kernel
theorem dok_59 : decode method_3_code 59 = .ok (.if_icmp .lt 8, 3) := by decide +kernel
theorem dok_62 : decode method_3_code 62 = .ok (.iload_n 0, 1) := by decide +kernel
theorem dok_63 : decode method_3_code 63 = .ok (.iload_n 2, 1) := by decide +kernel
theorem dok_64 : decode method_3_code 64 = .ok (.if_icmp .eq 13, 3) := by decide +kernel
theorem dok_67 : decode method_3_code 67 = .ok (.iload_n 1, 1) := by decide +kernel
theorem dok_68 : decode method_3_code 68 = .ok (.iconst 2, 1) := by decide +kernel
theorem dok_69 : decode method_3_code 69 = .ok (.if_icmp .lt 12, 3) := by decide +kernel
theorem dok_72 : decode method_3_code 72 = .ok (.iload_n 0, 1) := by decide +kernel
theorem dok_73 : decode method_3_code 73 = .ok (.iload_n 3, 1) := by decide +kernel
theorem dok_74 : decode method_3_code 74 = .ok (.if_icmp .ne 7, 3) := by decide +kernel
theorem dok_77 : decode method_3_code 77 = .ok (.iconst 1, 1) := by decide +kernel
theorem dok_78 : decode method_3_code 78 = .ok (.goto 4, 3) := by decide +kernel
theorem dok_81 : decode method_3_code 81 = .ok (.iconst 0, 1) := by decide +kernel
theorem dok_82 : decode method_3_code 82 = .ok (.istore 7, 2) := by decide +kernel
theorem dok_84 : decode method_3_code 84 = .ok (.iload 4, 2) := by decide +kernel
theorem dok_86 : decode method_3_code 86 = .ok (.ifCond .ne 18, 3) := by decide +kernel
theorem dok_89 : decode method_3_code 89 = .ok (.iload 5, 2) := by decide +kernel
theorem dok_91 : decode method_3_code 91 = .ok (.ifCond .ne 13, 3) := by decide +kernel
theorem dok_94 : decode method_3_code 94 = .ok (.iload 6, 2) := by decide +kernel
theorem dok_96 : decode method_3_code 96 = .ok (.ifCond .ne 8, 3) := by decide +kernel
theorem dok_99 : decode method_3_code 99 = .ok (.iload 7, 2) := by decide +kernel
theorem dok_101 : decode method_3_code 101 = .ok (.ifCond .eq 7, 3) := by decide +kernel
theorem dok_104 : decode method_3_code 104 = .ok (.iconst 1, 1) := by decide +kernel
theorem dok_105 : decode method_3_code 105 = .ok (.goto 4, 3) := by decide +kernel
theorem dok_108 : decode method_3_code 108 = .ok (.iconst 0, 1) := by decide +kernel
theorem dok_109 : decode method_3_code 109 = .ok (.ireturn, 1) := by decide +kernel
theorem ef_ok (m : MethodId) (x : Int32) (z : Int32) (y0 : Int32) (y1 : Int32) : entryFrame m #[(.int x), (.int z), (.int y0), (.int y1)] 8 = mkF m 0 #[.val (.int x), .val (.int z), .val (.int y0), .val (.int y1), .unset, .unset, .unset, .unset] [] := by first | (simp [entryFrame, mkF, argsToLocals, Value.category]; done) | rfl
set_option maxRecDepth 65536 in
set_option maxHeartbeats 40000000 in
theorem rm_ok (l : Launch) (Z : State) (a0 : Array Value) (hw : ∀ d ∈ tables_1, d.before a0 Z = true) (h0 : Heap) (x z y0 y1 : Int32) :
    Ct l Z [] (⟨"com/example/peerloom/peerloom/api/AsciiIsAlphanumericOrPinLaw", "ok", "(CICC)Z"⟩ : MethodName) method_3_code 8 (some .boolean) (⟨0, 0, 0, 0⟩ : Room) #[(.int x), (.int z), (.int y0), (.int y1)] h0 (fun v h' => h' = h0 ∧ ((v = some (.int 1) ∧ (Al x ∨ Pn x z y0 y1)) ∨ (v = some (.int 0) ∧ ¬ (Al x ∨ Pn x z y0 y1)))) := by
  refine Ct.of pn_com_example_peerloom_peerloom_api_AsciiIsAlphanumericOrPinLaw (fun m => ef_ok m x z y0 y1) ?_
  intro p e s m below meth c s₁ X0
  refine Go.bipush X0 2 (65 : Int32) dok_0 ?_
  refine Go.iloadN X0 3 dok_2 rfl ?_
  refine Go.join X0 (α := Int32) (fun q hJ => h0 = hJ ∧ ((q = 1 ∧ (¬ x < 65 ∧ ¬ 90 < x)) ∨ (q = 0 ∧ ¬ (¬ x < 65 ∧ ¬ 90 < x)))) 17 (fun q => #[.val (.int x), .val (.int z), .val (.int y0), .val (.int y1), .unset, .unset, .unset, .unset]) (fun q => [(.int q)]) 0 0 ?_ ?_
  · rintro T1 L1 h1 u X1 hp1
    replace hp1 : h0 = h1 ∧ ((u = 1 ∧ (¬ x < 65 ∧ ¬ 90 < x)) ∨ (u = 0 ∧ ¬ (¬ x < 65 ∧ ¬ 90 < x))) := hp1
    show Go p e below _ T1 m 17 #[.val (.int x), .val (.int z), .val (.int y0), .val (.int y1), .unset, .unset, .unset, .unset] [(.int u)]
    obtain ⟨he, hu⟩ := hp1
    subst he
    refine Go.istore X1 19 #[.val (.int x), .val (.int z), .val (.int y0), .val (.int y1), .val (.int u), .unset, .unset, .unset] dok_17 rfl ?_
    refine Go.bipush X1 21 (97 : Int32) dok_19 ?_
    refine Go.iloadN X1 22 dok_21 rfl ?_
    refine Go.join X1 (α := Int32) (fun q hJ => h0 = hJ ∧ ((q = 1 ∧ (¬ x < 97 ∧ ¬ 122 < x)) ∨ (q = 0 ∧ ¬ (¬ x < 97 ∧ ¬ 122 < x)))) 36 (fun q => #[.val (.int x), .val (.int z), .val (.int y0), .val (.int y1), .val (.int u), .unset, .unset, .unset]) (fun q => [(.int q)]) 0 0 ?_ ?_
    · rintro T2 L2 h2 l X2 hp2
      replace hp2 : h0 = h2 ∧ ((l = 1 ∧ (¬ x < 97 ∧ ¬ 122 < x)) ∨ (l = 0 ∧ ¬ (¬ x < 97 ∧ ¬ 122 < x))) := hp2
      show Go p e below _ T2 m 36 #[.val (.int x), .val (.int z), .val (.int y0), .val (.int y1), .val (.int u), .unset, .unset, .unset] [(.int l)]
      obtain ⟨he, hl⟩ := hp2
      subst he
      refine Go.istore X2 38 #[.val (.int x), .val (.int z), .val (.int y0), .val (.int y1), .val (.int u), .val (.int l), .unset, .unset] dok_36 rfl ?_
      refine Go.bipush X2 40 (48 : Int32) dok_38 ?_
      refine Go.iloadN X2 41 dok_40 rfl ?_
      refine Go.join X2 (α := Int32) (fun q hJ => h0 = hJ ∧ ((q = 1 ∧ (¬ x < 48 ∧ ¬ 57 < x)) ∨ (q = 0 ∧ ¬ (¬ x < 48 ∧ ¬ 57 < x)))) 55 (fun q => #[.val (.int x), .val (.int z), .val (.int y0), .val (.int y1), .val (.int u), .val (.int l), .unset, .unset]) (fun q => [(.int q)]) 0 0 ?_ ?_
      · rintro T3 L3 h3 d X3 hp3
        replace hp3 : h0 = h3 ∧ ((d = 1 ∧ (¬ x < 48 ∧ ¬ 57 < x)) ∨ (d = 0 ∧ ¬ (¬ x < 48 ∧ ¬ 57 < x))) := hp3
        show Go p e below _ T3 m 55 #[.val (.int x), .val (.int z), .val (.int y0), .val (.int y1), .val (.int u), .val (.int l), .unset, .unset] [(.int d)]
        obtain ⟨he, hd⟩ := hp3
        subst he
        refine Go.istore X3 57 #[.val (.int x), .val (.int z), .val (.int y0), .val (.int y1), .val (.int u), .val (.int l), .val (.int d), .unset] dok_55 rfl ?_
        refine Go.iloadN X3 58 dok_57 rfl ?_
        refine Go.iconst X3 59 (1 : Int32) dok_58 ?_
        refine Go.join X3 (α := Int32) (fun q hJ => h0 = hJ ∧ ((q = 1 ∧ ((¬ z < 1 ∧ x = y0) ∨ (¬ z < 2 ∧ x = y1))) ∨ (q = 0 ∧ ¬ ((¬ z < 1 ∧ x = y0) ∨ (¬ z < 2 ∧ x = y1))))) 82 (fun q => #[.val (.int x), .val (.int z), .val (.int y0), .val (.int y1), .val (.int u), .val (.int l), .val (.int d), .unset]) (fun q => [(.int q)]) 0 0 ?_ ?_
        · rintro T4 L4 h4 q X4 hp4
          replace hp4 : h0 = h4 ∧ ((q = 1 ∧ ((¬ z < 1 ∧ x = y0) ∨ (¬ z < 2 ∧ x = y1))) ∨ (q = 0 ∧ ¬ ((¬ z < 1 ∧ x = y0) ∨ (¬ z < 2 ∧ x = y1)))) := hp4
          show Go p e below _ T4 m 82 #[.val (.int x), .val (.int z), .val (.int y0), .val (.int y1), .val (.int u), .val (.int l), .val (.int d), .unset] [(.int q)]
          obtain ⟨he, hq⟩ := hp4
          subst he
          rcases hu with ⟨rfl, hu⟩ | ⟨rfl, hu⟩ <;> rcases hl with ⟨rfl, hl⟩ | ⟨rfl, hl⟩ <;> rcases hd with ⟨rfl, hd⟩ | ⟨rfl, hd⟩ <;> rcases hq with ⟨rfl, hq⟩ | ⟨rfl, hq⟩
          · skip
            refine Go.istore X4 84 #[.val (.int x), .val (.int z), .val (.int y0), .val (.int y1), .val (.int (1 : Int32)), .val (.int (1 : Int32)), .val (.int (1 : Int32)), .val (.int (1 : Int32))] dok_82 rfl ?_
            refine Go.iload X4 86 dok_84 rfl ?_
            refine Go.if0Y X4 104 dok_86 (XT.i0_ne_t (by decide)) ?_
            refine Go.iconst X4 105 (1 : Int32) dok_104 ?_
            refine Go.goto X4 109 dok_105 ?_
            exact Go.retI X4 rfl (by simp) rfl dok_109 (X4.fin ⟨rfl, Or.inl ⟨rfl, Or.inl (Or.inl hu)⟩⟩ (by decide) (by decide))
          · skip
            refine Go.istore X4 84 #[.val (.int x), .val (.int z), .val (.int y0), .val (.int y1), .val (.int (1 : Int32)), .val (.int (1 : Int32)), .val (.int (1 : Int32)), .val (.int (0 : Int32))] dok_82 rfl ?_
            refine Go.iload X4 86 dok_84 rfl ?_
            refine Go.if0Y X4 104 dok_86 (XT.i0_ne_t (by decide)) ?_
            refine Go.iconst X4 105 (1 : Int32) dok_104 ?_
            refine Go.goto X4 109 dok_105 ?_
            exact Go.retI X4 rfl (by simp) rfl dok_109 (X4.fin ⟨rfl, Or.inl ⟨rfl, Or.inl (Or.inl hu)⟩⟩ (by decide) (by decide))
          · skip
            refine Go.istore X4 84 #[.val (.int x), .val (.int z), .val (.int y0), .val (.int y1), .val (.int (1 : Int32)), .val (.int (1 : Int32)), .val (.int (0 : Int32)), .val (.int (1 : Int32))] dok_82 rfl ?_
            refine Go.iload X4 86 dok_84 rfl ?_
            refine Go.if0Y X4 104 dok_86 (XT.i0_ne_t (by decide)) ?_
            refine Go.iconst X4 105 (1 : Int32) dok_104 ?_
            refine Go.goto X4 109 dok_105 ?_
            exact Go.retI X4 rfl (by simp) rfl dok_109 (X4.fin ⟨rfl, Or.inl ⟨rfl, Or.inl (Or.inl hu)⟩⟩ (by decide) (by decide))
          · skip
            refine Go.istore X4 84 #[.val (.int x), .val (.int z), .val (.int y0), .val (.int y1), .val (.int (1 : Int32)), .val (.int (1 : Int32)), .val (.int (0 : Int32)), .val (.int (0 : Int32))] dok_82 rfl ?_
            refine Go.iload X4 86 dok_84 rfl ?_
            refine Go.if0Y X4 104 dok_86 (XT.i0_ne_t (by decide)) ?_
            refine Go.iconst X4 105 (1 : Int32) dok_104 ?_
            refine Go.goto X4 109 dok_105 ?_
            exact Go.retI X4 rfl (by simp) rfl dok_109 (X4.fin ⟨rfl, Or.inl ⟨rfl, Or.inl (Or.inl hu)⟩⟩ (by decide) (by decide))
          · skip
            refine Go.istore X4 84 #[.val (.int x), .val (.int z), .val (.int y0), .val (.int y1), .val (.int (1 : Int32)), .val (.int (0 : Int32)), .val (.int (1 : Int32)), .val (.int (1 : Int32))] dok_82 rfl ?_
            refine Go.iload X4 86 dok_84 rfl ?_
            refine Go.if0Y X4 104 dok_86 (XT.i0_ne_t (by decide)) ?_
            refine Go.iconst X4 105 (1 : Int32) dok_104 ?_
            refine Go.goto X4 109 dok_105 ?_
            exact Go.retI X4 rfl (by simp) rfl dok_109 (X4.fin ⟨rfl, Or.inl ⟨rfl, Or.inl (Or.inl hu)⟩⟩ (by decide) (by decide))
          · skip
            refine Go.istore X4 84 #[.val (.int x), .val (.int z), .val (.int y0), .val (.int y1), .val (.int (1 : Int32)), .val (.int (0 : Int32)), .val (.int (1 : Int32)), .val (.int (0 : Int32))] dok_82 rfl ?_
            refine Go.iload X4 86 dok_84 rfl ?_
            refine Go.if0Y X4 104 dok_86 (XT.i0_ne_t (by decide)) ?_
            refine Go.iconst X4 105 (1 : Int32) dok_104 ?_
            refine Go.goto X4 109 dok_105 ?_
            exact Go.retI X4 rfl (by simp) rfl dok_109 (X4.fin ⟨rfl, Or.inl ⟨rfl, Or.inl (Or.inl hu)⟩⟩ (by decide) (by decide))
          · skip
            refine Go.istore X4 84 #[.val (.int x), .val (.int z), .val (.int y0), .val (.int y1), .val (.int (1 : Int32)), .val (.int (0 : Int32)), .val (.int (0 : Int32)), .val (.int (1 : Int32))] dok_82 rfl ?_
            refine Go.iload X4 86 dok_84 rfl ?_
            refine Go.if0Y X4 104 dok_86 (XT.i0_ne_t (by decide)) ?_
            refine Go.iconst X4 105 (1 : Int32) dok_104 ?_
            refine Go.goto X4 109 dok_105 ?_
            exact Go.retI X4 rfl (by simp) rfl dok_109 (X4.fin ⟨rfl, Or.inl ⟨rfl, Or.inl (Or.inl hu)⟩⟩ (by decide) (by decide))
          · skip
            refine Go.istore X4 84 #[.val (.int x), .val (.int z), .val (.int y0), .val (.int y1), .val (.int (1 : Int32)), .val (.int (0 : Int32)), .val (.int (0 : Int32)), .val (.int (0 : Int32))] dok_82 rfl ?_
            refine Go.iload X4 86 dok_84 rfl ?_
            refine Go.if0Y X4 104 dok_86 (XT.i0_ne_t (by decide)) ?_
            refine Go.iconst X4 105 (1 : Int32) dok_104 ?_
            refine Go.goto X4 109 dok_105 ?_
            exact Go.retI X4 rfl (by simp) rfl dok_109 (X4.fin ⟨rfl, Or.inl ⟨rfl, Or.inl (Or.inl hu)⟩⟩ (by decide) (by decide))
          · skip
            refine Go.istore X4 84 #[.val (.int x), .val (.int z), .val (.int y0), .val (.int y1), .val (.int (0 : Int32)), .val (.int (1 : Int32)), .val (.int (1 : Int32)), .val (.int (1 : Int32))] dok_82 rfl ?_
            refine Go.iload X4 86 dok_84 rfl ?_
            refine Go.if0N X4 89 dok_86 (XT.i0_ne_f (by decide)) ?_
            refine Go.iload X4 91 dok_89 rfl ?_
            refine Go.if0Y X4 104 dok_91 (XT.i0_ne_t (by decide)) ?_
            refine Go.iconst X4 105 (1 : Int32) dok_104 ?_
            refine Go.goto X4 109 dok_105 ?_
            exact Go.retI X4 rfl (by simp) rfl dok_109 (X4.fin ⟨rfl, Or.inl ⟨rfl, Or.inl (Or.inr (Or.inl hl))⟩⟩ (by decide) (by decide))
          · skip
            refine Go.istore X4 84 #[.val (.int x), .val (.int z), .val (.int y0), .val (.int y1), .val (.int (0 : Int32)), .val (.int (1 : Int32)), .val (.int (1 : Int32)), .val (.int (0 : Int32))] dok_82 rfl ?_
            refine Go.iload X4 86 dok_84 rfl ?_
            refine Go.if0N X4 89 dok_86 (XT.i0_ne_f (by decide)) ?_
            refine Go.iload X4 91 dok_89 rfl ?_
            refine Go.if0Y X4 104 dok_91 (XT.i0_ne_t (by decide)) ?_
            refine Go.iconst X4 105 (1 : Int32) dok_104 ?_
            refine Go.goto X4 109 dok_105 ?_
            exact Go.retI X4 rfl (by simp) rfl dok_109 (X4.fin ⟨rfl, Or.inl ⟨rfl, Or.inl (Or.inr (Or.inl hl))⟩⟩ (by decide) (by decide))
          · skip
            refine Go.istore X4 84 #[.val (.int x), .val (.int z), .val (.int y0), .val (.int y1), .val (.int (0 : Int32)), .val (.int (1 : Int32)), .val (.int (0 : Int32)), .val (.int (1 : Int32))] dok_82 rfl ?_
            refine Go.iload X4 86 dok_84 rfl ?_
            refine Go.if0N X4 89 dok_86 (XT.i0_ne_f (by decide)) ?_
            refine Go.iload X4 91 dok_89 rfl ?_
            refine Go.if0Y X4 104 dok_91 (XT.i0_ne_t (by decide)) ?_
            refine Go.iconst X4 105 (1 : Int32) dok_104 ?_
            refine Go.goto X4 109 dok_105 ?_
            exact Go.retI X4 rfl (by simp) rfl dok_109 (X4.fin ⟨rfl, Or.inl ⟨rfl, Or.inl (Or.inr (Or.inl hl))⟩⟩ (by decide) (by decide))
          · skip
            refine Go.istore X4 84 #[.val (.int x), .val (.int z), .val (.int y0), .val (.int y1), .val (.int (0 : Int32)), .val (.int (1 : Int32)), .val (.int (0 : Int32)), .val (.int (0 : Int32))] dok_82 rfl ?_
            refine Go.iload X4 86 dok_84 rfl ?_
            refine Go.if0N X4 89 dok_86 (XT.i0_ne_f (by decide)) ?_
            refine Go.iload X4 91 dok_89 rfl ?_
            refine Go.if0Y X4 104 dok_91 (XT.i0_ne_t (by decide)) ?_
            refine Go.iconst X4 105 (1 : Int32) dok_104 ?_
            refine Go.goto X4 109 dok_105 ?_
            exact Go.retI X4 rfl (by simp) rfl dok_109 (X4.fin ⟨rfl, Or.inl ⟨rfl, Or.inl (Or.inr (Or.inl hl))⟩⟩ (by decide) (by decide))
          · skip
            refine Go.istore X4 84 #[.val (.int x), .val (.int z), .val (.int y0), .val (.int y1), .val (.int (0 : Int32)), .val (.int (0 : Int32)), .val (.int (1 : Int32)), .val (.int (1 : Int32))] dok_82 rfl ?_
            refine Go.iload X4 86 dok_84 rfl ?_
            refine Go.if0N X4 89 dok_86 (XT.i0_ne_f (by decide)) ?_
            refine Go.iload X4 91 dok_89 rfl ?_
            refine Go.if0N X4 94 dok_91 (XT.i0_ne_f (by decide)) ?_
            refine Go.iload X4 96 dok_94 rfl ?_
            refine Go.if0Y X4 104 dok_96 (XT.i0_ne_t (by decide)) ?_
            refine Go.iconst X4 105 (1 : Int32) dok_104 ?_
            refine Go.goto X4 109 dok_105 ?_
            exact Go.retI X4 rfl (by simp) rfl dok_109 (X4.fin ⟨rfl, Or.inl ⟨rfl, Or.inl (Or.inr (Or.inr hd))⟩⟩ (by decide) (by decide))
          · skip
            refine Go.istore X4 84 #[.val (.int x), .val (.int z), .val (.int y0), .val (.int y1), .val (.int (0 : Int32)), .val (.int (0 : Int32)), .val (.int (1 : Int32)), .val (.int (0 : Int32))] dok_82 rfl ?_
            refine Go.iload X4 86 dok_84 rfl ?_
            refine Go.if0N X4 89 dok_86 (XT.i0_ne_f (by decide)) ?_
            refine Go.iload X4 91 dok_89 rfl ?_
            refine Go.if0N X4 94 dok_91 (XT.i0_ne_f (by decide)) ?_
            refine Go.iload X4 96 dok_94 rfl ?_
            refine Go.if0Y X4 104 dok_96 (XT.i0_ne_t (by decide)) ?_
            refine Go.iconst X4 105 (1 : Int32) dok_104 ?_
            refine Go.goto X4 109 dok_105 ?_
            exact Go.retI X4 rfl (by simp) rfl dok_109 (X4.fin ⟨rfl, Or.inl ⟨rfl, Or.inl (Or.inr (Or.inr hd))⟩⟩ (by decide) (by decide))
          · skip
            refine Go.istore X4 84 #[.val (.int x), .val (.int z), .val (.int y0), .val (.int y1), .val (.int (0 : Int32)), .val (.int (0 : Int32)), .val (.int (0 : Int32)), .val (.int (1 : Int32))] dok_82 rfl ?_
            refine Go.iload X4 86 dok_84 rfl ?_
            refine Go.if0N X4 89 dok_86 (XT.i0_ne_f (by decide)) ?_
            refine Go.iload X4 91 dok_89 rfl ?_
            refine Go.if0N X4 94 dok_91 (XT.i0_ne_f (by decide)) ?_
            refine Go.iload X4 96 dok_94 rfl ?_
            refine Go.if0N X4 99 dok_96 (XT.i0_ne_f (by decide)) ?_
            refine Go.iload X4 101 dok_99 rfl ?_
            refine Go.if0N X4 104 dok_101 (XT.i0_eq_f (by decide)) ?_
            refine Go.iconst X4 105 (1 : Int32) dok_104 ?_
            refine Go.goto X4 109 dok_105 ?_
            exact Go.retI X4 rfl (by simp) rfl dok_109 (X4.fin ⟨rfl, Or.inl ⟨rfl, Or.inr hq⟩⟩ (by decide) (by decide))
          · skip
            refine Go.istore X4 84 #[.val (.int x), .val (.int z), .val (.int y0), .val (.int y1), .val (.int (0 : Int32)), .val (.int (0 : Int32)), .val (.int (0 : Int32)), .val (.int (0 : Int32))] dok_82 rfl ?_
            refine Go.iload X4 86 dok_84 rfl ?_
            refine Go.if0N X4 89 dok_86 (XT.i0_ne_f (by decide)) ?_
            refine Go.iload X4 91 dok_89 rfl ?_
            refine Go.if0N X4 94 dok_91 (XT.i0_ne_f (by decide)) ?_
            refine Go.iload X4 96 dok_94 rfl ?_
            refine Go.if0N X4 99 dok_96 (XT.i0_ne_f (by decide)) ?_
            refine Go.iload X4 101 dok_99 rfl ?_
            refine Go.if0Y X4 108 dok_101 (XT.i0_eq_t (by decide)) ?_
            refine Go.iconst X4 109 (0 : Int32) dok_108 ?_
            exact Go.retI X4 rfl (by simp) rfl dok_109 (X4.fin ⟨rfl, Or.inr ⟨rfl, fun r => r.elim (fun a => a.elim hu (fun b => b.elim hl hd)) hq⟩⟩ (by decide) (by decide))
        · intro J4
          by_cases c5 : z < (1 : Int32)
          · skip
            refine Go.icmpY X3 67 dok_59 (XT.ii_lt_t c5) ?_
            refine Go.iloadN X3 68 dok_67 rfl ?_
            refine Go.iconst X3 69 (2 : Int32) dok_68 ?_
            by_cases c6 : z < (2 : Int32)
            · skip
              refine Go.icmpY X3 81 dok_69 (XT.ii_lt_t c6) ?_
              refine Go.iconst X3 82 (0 : Int32) dok_81 ?_
              exact J4 _ _ _ (0 : Int32) X3 ⟨rfl, by first | (left; exact ⟨rfl, by simp_all⟩) | (right; exact ⟨rfl, by simp_all⟩)⟩
            · skip
              refine Go.icmpN X3 72 dok_69 (XT.ii_lt_f c6) ?_
              refine Go.iloadN X3 73 dok_72 rfl ?_
              refine Go.iloadN X3 74 dok_73 rfl ?_
              by_cases c7 : x = y1
              · skip
                refine Go.icmpN X3 77 dok_74 (XT.ii_ne_f c7) ?_
                refine Go.iconst X3 78 (1 : Int32) dok_77 ?_
                refine Go.goto X3 82 dok_78 ?_
                exact J4 _ _ _ (1 : Int32) X3 ⟨rfl, by first | (left; exact ⟨rfl, by simp_all⟩) | (right; exact ⟨rfl, by simp_all⟩)⟩
              · skip
                refine Go.icmpY X3 81 dok_74 (XT.ii_ne_t c7) ?_
                refine Go.iconst X3 82 (0 : Int32) dok_81 ?_
                exact J4 _ _ _ (0 : Int32) X3 ⟨rfl, by first | (left; exact ⟨rfl, by simp_all⟩) | (right; exact ⟨rfl, by simp_all⟩)⟩
          · skip
            refine Go.icmpN X3 62 dok_59 (XT.ii_lt_f c5) ?_
            refine Go.iloadN X3 63 dok_62 rfl ?_
            refine Go.iloadN X3 64 dok_63 rfl ?_
            by_cases c8 : x = y0
            · skip
              refine Go.icmpY X3 77 dok_64 (XT.ii_eq_t c8) ?_
              refine Go.iconst X3 78 (1 : Int32) dok_77 ?_
              refine Go.goto X3 82 dok_78 ?_
              exact J4 _ _ _ (1 : Int32) X3 ⟨rfl, by first | (left; exact ⟨rfl, by simp_all⟩) | (right; exact ⟨rfl, by simp_all⟩)⟩
            · skip
              refine Go.icmpN X3 67 dok_64 (XT.ii_eq_f c8) ?_
              refine Go.iloadN X3 68 dok_67 rfl ?_
              refine Go.iconst X3 69 (2 : Int32) dok_68 ?_
              by_cases c9 : z < (2 : Int32)
              · skip
                refine Go.icmpY X3 81 dok_69 (XT.ii_lt_t c9) ?_
                refine Go.iconst X3 82 (0 : Int32) dok_81 ?_
                exact J4 _ _ _ (0 : Int32) X3 ⟨rfl, by first | (left; exact ⟨rfl, by simp_all⟩) | (right; exact ⟨rfl, by simp_all⟩)⟩
              · skip
                refine Go.icmpN X3 72 dok_69 (XT.ii_lt_f c9) ?_
                refine Go.iloadN X3 73 dok_72 rfl ?_
                refine Go.iloadN X3 74 dok_73 rfl ?_
                by_cases c10 : x = y1
                · skip
                  refine Go.icmpN X3 77 dok_74 (XT.ii_ne_f c10) ?_
                  refine Go.iconst X3 78 (1 : Int32) dok_77 ?_
                  refine Go.goto X3 82 dok_78 ?_
                  exact J4 _ _ _ (1 : Int32) X3 ⟨rfl, by first | (left; exact ⟨rfl, by simp_all⟩) | (right; exact ⟨rfl, by simp_all⟩)⟩
                · skip
                  refine Go.icmpY X3 81 dok_74 (XT.ii_ne_t c10) ?_
                  refine Go.iconst X3 82 (0 : Int32) dok_81 ?_
                  exact J4 _ _ _ (0 : Int32) X3 ⟨rfl, by first | (left; exact ⟨rfl, by simp_all⟩) | (right; exact ⟨rfl, by simp_all⟩)⟩
      · intro J3
        by_cases c11 : x < (48 : Int32)
        · skip
          refine Go.icmpY X2 54 dok_41 (XT.ii_gt_t c11) ?_
          refine Go.iconst X2 55 (0 : Int32) dok_54 ?_
          exact J3 _ _ _ (0 : Int32) X2 ⟨rfl, by first | (left; exact ⟨rfl, by simp_all⟩) | (right; exact ⟨rfl, by simp_all⟩)⟩
        · skip
          refine Go.icmpN X2 44 dok_41 (XT.ii_gt_f c11) ?_
          refine Go.iloadN X2 45 dok_44 rfl ?_
          refine Go.bipush X2 47 (57 : Int32) dok_45 ?_
          by_cases c12 : (57 : Int32) < x
          · skip
            refine Go.icmpY X2 54 dok_47 (XT.ii_gt_t c12) ?_
            refine Go.iconst X2 55 (0 : Int32) dok_54 ?_
            exact J3 _ _ _ (0 : Int32) X2 ⟨rfl, by first | (left; exact ⟨rfl, by simp_all⟩) | (right; exact ⟨rfl, by simp_all⟩)⟩
          · skip
            refine Go.icmpN X2 50 dok_47 (XT.ii_gt_f c12) ?_
            refine Go.iconst X2 51 (1 : Int32) dok_50 ?_
            refine Go.goto X2 55 dok_51 ?_
            exact J3 _ _ _ (1 : Int32) X2 ⟨rfl, by first | (left; exact ⟨rfl, by simp_all⟩) | (right; exact ⟨rfl, by simp_all⟩)⟩
    · intro J2
      by_cases c13 : x < (97 : Int32)
      · skip
        refine Go.icmpY X1 35 dok_22 (XT.ii_gt_t c13) ?_
        refine Go.iconst X1 36 (0 : Int32) dok_35 ?_
        exact J2 _ _ _ (0 : Int32) X1 ⟨rfl, by first | (left; exact ⟨rfl, by simp_all⟩) | (right; exact ⟨rfl, by simp_all⟩)⟩
      · skip
        refine Go.icmpN X1 25 dok_22 (XT.ii_gt_f c13) ?_
        refine Go.iloadN X1 26 dok_25 rfl ?_
        refine Go.bipush X1 28 (122 : Int32) dok_26 ?_
        by_cases c14 : (122 : Int32) < x
        · skip
          refine Go.icmpY X1 35 dok_28 (XT.ii_gt_t c14) ?_
          refine Go.iconst X1 36 (0 : Int32) dok_35 ?_
          exact J2 _ _ _ (0 : Int32) X1 ⟨rfl, by first | (left; exact ⟨rfl, by simp_all⟩) | (right; exact ⟨rfl, by simp_all⟩)⟩
        · skip
          refine Go.icmpN X1 31 dok_28 (XT.ii_gt_f c14) ?_
          refine Go.iconst X1 32 (1 : Int32) dok_31 ?_
          refine Go.goto X1 36 dok_32 ?_
          exact J2 _ _ _ (1 : Int32) X1 ⟨rfl, by first | (left; exact ⟨rfl, by simp_all⟩) | (right; exact ⟨rfl, by simp_all⟩)⟩
  · intro J1
    by_cases c15 : x < (65 : Int32)
    · skip
      refine Go.icmpY X0 16 dok_3 (XT.ii_gt_t c15) ?_
      refine Go.iconst X0 17 (0 : Int32) dok_16 ?_
      exact J1 _ _ _ (0 : Int32) X0 ⟨rfl, by first | (left; exact ⟨rfl, by simp_all⟩) | (right; exact ⟨rfl, by simp_all⟩)⟩
    · skip
      refine Go.icmpN X0 6 dok_3 (XT.ii_gt_f c15) ?_
      refine Go.iloadN X0 7 dok_6 rfl ?_
      refine Go.bipush X0 9 (90 : Int32) dok_7 ?_
      by_cases c16 : (90 : Int32) < x
      · skip
        refine Go.icmpY X0 16 dok_9 (XT.ii_gt_t c16) ?_
        refine Go.iconst X0 17 (0 : Int32) dok_16 ?_
        exact J1 _ _ _ (0 : Int32) X0 ⟨rfl, by first | (left; exact ⟨rfl, by simp_all⟩) | (right; exact ⟨rfl, by simp_all⟩)⟩
      · skip
        refine Go.icmpN X0 12 dok_9 (XT.ii_gt_f c16) ?_
        refine Go.iconst X0 13 (1 : Int32) dok_12 ?_
        refine Go.goto X0 17 dok_13 ?_
        exact J1 _ _ _ (1 : Int32) X0 ⟨rfl, by first | (left; exact ⟨rfl, by simp_all⟩) | (right; exact ⟨rfl, by simp_all⟩)⟩
theorem pn_com_example_peerloom_peerloom_api_Ascii : plainName "com/example/peerloom/peerloom/api/Ascii" = true := by first | (simp [plainName, overriddenIn]; done) | decide +kernel
theorem da1_0 : decode prog_5_method_3_code 0 = .ok (.iload_n 0, 1) := by decide +kernel
theorem da1_1 : decode prog_5_method_3_code 1 = .ok (.bipush 65, 2) := by decide +kernel
theorem da1_3 : decode prog_5_method_3_code 3 = .ok (.if_icmp .lt 9, 3) := by decide +kernel
theorem da1_6 : decode prog_5_method_3_code 6 = .ok (.iload_n 0, 1) := by decide +kernel
theorem da1_7 : decode prog_5_method_3_code 7 = .ok (.bipush 90, 2) := by decide +kernel
theorem da1_9 : decode prog_5_method_3_code 9 = .ok (.if_icmp .le 27, 3) := by decide +kernel
theorem da1_12 : decode prog_5_method_3_code 12 = .ok (.iload_n 0, 1) := by decide +kernel
theorem da1_13 : decode prog_5_method_3_code 13 = .ok (.bipush 97, 2) := by decide +kernel
theorem da1_15 : decode prog_5_method_3_code 15 = .ok (.if_icmp .lt 9, 3) := by decide +kernel
theorem da1_18 : decode prog_5_method_3_code 18 = .ok (.iload_n 0, 1) := by decide +kernel
theorem da1_19 : decode prog_5_method_3_code 19 = .ok (.bipush 122, 2) := by decide +kernel
theorem da1_21 : decode prog_5_method_3_code 21 = .ok (.if_icmp .le 15, 3) := by decide +kernel
theorem da1_24 : decode prog_5_method_3_code 24 = .ok (.iload_n 0, 1) := by decide +kernel
theorem da1_25 : decode prog_5_method_3_code 25 = .ok (.bipush 48, 2) := by decide +kernel
theorem da1_27 : decode prog_5_method_3_code 27 = .ok (.if_icmp .lt 13, 3) := by decide +kernel
theorem da1_30 : decode prog_5_method_3_code 30 = .ok (.iload_n 0, 1) := by decide +kernel
theorem da1_31 : decode prog_5_method_3_code 31 = .ok (.bipush 57, 2) := by decide +kernel
theorem da1_33 : decode prog_5_method_3_code 33 = .ok (.if_icmp .gt 7, 3) := by decide +kernel
theorem da1_36 : decode prog_5_method_3_code 36 = .ok (.iconst 1, 1) := by decide +kernel
theorem da1_37 : decode prog_5_method_3_code 37 = .ok (.goto 4, 3) := by decide +kernel
theorem da1_40 : decode prog_5_method_3_code 40 = .ok (.iconst 0, 1) := by decide +kernel
theorem da1_41 : decode prog_5_method_3_code 41 = .ok (.istore_n 2, 1) := by decide +kernel
theorem da1_42 : decode prog_5_method_3_code 42 = .ok (.iload_n 2, 1) := by decide +kernel
theorem da1_43 : decode prog_5_method_3_code 43 = .ok (.ifCond .ne 11, 3) := by decide +kernel
theorem da1_46 : decode prog_5_method_3_code 46 = .ok (.aload_n 1, 1) := by decide +kernel
theorem da1_47 : decode prog_5_method_3_code 47 = .ok (.iload_n 0, 1) := by decide +kernel
theorem da1_48 : decode prog_5_method_3_code 48 = .ok (.invokevirtual 27, 3) := by decide +kernel
theorem da1_51 : decode prog_5_method_3_code 51 = .ok (.ifCond .lt 7, 3) := by decide +kernel
theorem da1_54 : decode prog_5_method_3_code 54 = .ok (.iconst 1, 1) := by decide +kernel
theorem da1_55 : decode prog_5_method_3_code 55 = .ok (.goto 4, 3) := by decide +kernel
theorem da1_58 : decode prog_5_method_3_code 58 = .ok (.iconst 0, 1) := by decide +kernel
theorem da1_59 : decode prog_5_method_3_code 59 = .ok (.ireturn, 1) := by decide +kernel
theorem ef_a1 (m : MethodId) (x : Int32) (b : Addr) : entryFrame m #[(.int x), (.ref b)] 3 = mkF m 0 #[.val (.int x), .val (.ref b), .unset] [] := by first | (simp [entryFrame, mkF, argsToLocals, Value.category]; done) | rfl
set_option maxRecDepth 65536 in
set_option maxHeartbeats 40000000 in
theorem rm_a1 (l : Launch) (Z : State) (a0 : Array Value) (hw : ∀ d ∈ tables_1, d.before a0 Z = true) (h0 : Heap) (cz : Int32) (SC : Sta Z Z.heap "java/lang/String" "COMPACT_STRINGS" "Z" (.int cz)) (hcz : ¬ cz = 0) (x : Int32) (b t : Addr) (k : Nat) (g : Nat → Int32) (S : Str Z h0 b t k g) (hl : ∀ j, j < k → ¬ 255 < g j) (hx0 : ¬ x < 0) (hx1 : ¬ 255 < x) :
    Ct l Z [] (⟨"com/example/peerloom/peerloom/api/Ascii", "isAlphanumericOr", "(CLjava/lang/String;)Z"⟩ : MethodName) prog_5_method_3_code 3 (some .boolean) (⟨4, 0, 0, 59⟩ : Room) #[(.int x), (.ref b)] h0 (fun v h' => h' = h0 ∧ ((v = some (.int 1) ∧ (Al x ∨ ∃ j, j < k ∧ g j = x)) ∨ (v = some (.int 0) ∧ ¬ (Al x ∨ ∃ j, j < k ∧ g j = x)))) := by
  refine Ct.of pn_com_example_peerloom_peerloom_api_Ascii (fun m => ef_a1 m x b) ?_
  intro p e s m below meth c s₁ X0
  refine Go.iloadN X0 1 da1_0 rfl ?_
  refine Go.bipush X0 3 (65 : Int32) da1_1 ?_
  refine Go.join X0 (α := Int32) (fun q hJ => h0 = hJ ∧ ((q = 1 ∧ ((¬ x < 65 ∧ ¬ 90 < x) ∨ (¬ x < 97 ∧ ¬ 122 < x) ∨ (¬ x < 48 ∧ ¬ 57 < x))) ∨ (q = 0 ∧ ¬ ((¬ x < 65 ∧ ¬ 90 < x) ∨ (¬ x < 97 ∧ ¬ 122 < x) ∨ (¬ x < 48 ∧ ¬ 57 < x))))) 41 (fun q => #[.val (.int x), .val (.ref b), .unset]) (fun q => [(.int q)]) 0 0 ?_ ?_
  · rintro T1 L1 h1 u X1 hp1
    replace hp1 : h0 = h1 ∧ ((u = 1 ∧ ((¬ x < 65 ∧ ¬ 90 < x) ∨ (¬ x < 97 ∧ ¬ 122 < x) ∨ (¬ x < 48 ∧ ¬ 57 < x))) ∨ (u = 0 ∧ ¬ ((¬ x < 65 ∧ ¬ 90 < x) ∨ (¬ x < 97 ∧ ¬ 122 < x) ∨ (¬ x < 48 ∧ ¬ 57 < x)))) := hp1
    show Go p e below _ T1 m 41 #[.val (.int x), .val (.ref b), .unset] [(.int u)]
    obtain ⟨he, hu⟩ := hp1
    subst he
    rcases hu with ⟨rfl, hu⟩ | ⟨rfl, hu⟩
    · skip
      refine Go.istoreN X1 42 #[.val (.int x), .val (.ref b), .val (.int (1 : Int32))] da1_41 rfl ?_
      refine Go.iloadN X1 43 da1_42 rfl ?_
      refine Go.if0Y X1 54 da1_43 (XT.i0_ne_t (by decide)) ?_
      refine Go.iconst X1 55 (1 : Int32) da1_54 ?_
      refine Go.goto X1 59 da1_55 ?_
      exact Go.retI X1 rfl (by simp) rfl da1_59 (X1.fin ⟨rfl, Or.inl ⟨rfl, Or.inl hu⟩⟩ (by decide) (by decide))
    · skip
      refine Go.istoreN X1 42 #[.val (.int x), .val (.ref b), .val (.int (0 : Int32))] da1_41 rfl ?_
      refine Go.iloadN X1 43 da1_42 rfl ?_
      refine Go.if0N X1 46 da1_43 (XT.i0_ne_f (by decide)) ?_
      refine Go.aloadN X1 47 da1_46 rfl rfl ?_
      refine Go.iloadN X1 48 da1_47 rfl ?_
      refine Go.callV X1 51 [(.int x)] [] 0 (hw _ (List.mem_of_getElem? (i := 89) rfl)) (hw _ (List.mem_of_getElem? (i := 90) rfl)) (hw _ (List.mem_of_getElem? (i := 92) rfl)) (notFace_of_selects (args := #[]) (mvT X1.hZ (hw _ (List.mem_of_getElem? (i := 92) rfl)))) (hw _ (List.mem_of_getElem? (i := 91) rfl)) (hw _ (List.mem_of_getElem? (i := 8) rfl)) (by decide) S.exa (hw _ (List.mem_of_getElem? (i := 93) rfl)) pd_14 da1_48 (rm_io1 l Z a0 hw h0 cz SC hcz b t x k g S hl hx0 hx1) rfl rfl rfl (Nat.le_of_eq rfl) (by decide) (by decide) (by decide) (by decide) ?_
      rintro T2 v2 L2 X2 ⟨hh, ⟨i, rfl, q1, q2⟩ | ⟨rfl, q1⟩⟩
      · rw [hh] at X2
        show Go p e below _ T2 m 51 #[.val (.int x), .val (.ref b), .val (.int (0 : Int32))] [(.int (Int32.ofNat i))]
        refine Go.if0N X2 54 da1_51 (XT.i0_lt_f (n_nn (by have := S.2.2.1; omega))) ?_
        refine Go.iconst X2 55 (1 : Int32) da1_54 ?_
        refine Go.goto X2 59 da1_55 ?_
        exact Go.retI X2 rfl (by simp) rfl da1_59 (X2.fin ⟨rfl, Or.inl ⟨rfl, Or.inr ⟨i, q1, q2⟩⟩⟩ (by decide) (by decide))
      · rw [hh] at X2
        show Go p e below _ T2 m 51 #[.val (.int x), .val (.ref b), .val (.int (0 : Int32))] [(.int (-1 : Int32))]
        refine Go.if0Y X2 58 da1_51 (XT.i0_lt_t (by decide)) ?_
        refine Go.iconst X2 59 (0 : Int32) da1_58 ?_
        exact Go.retI X2 rfl (by simp) rfl da1_59 (X2.fin ⟨rfl, Or.inr ⟨rfl, fun r => r.elim hu (fun ⟨j, j1, j2⟩ => q1 j j1 j2)⟩⟩ (by decide) (by decide))
  · intro J1
    by_cases c3 : x < (65 : Int32)
    · skip
      refine Go.icmpY X0 12 da1_3 (XT.ii_lt_t c3) ?_
      refine Go.iloadN X0 13 da1_12 rfl ?_
      refine Go.bipush X0 15 (97 : Int32) da1_13 ?_
      by_cases c4 : x < (97 : Int32)
      · skip
        refine Go.icmpY X0 24 da1_15 (XT.ii_lt_t c4) ?_
        refine Go.iloadN X0 25 da1_24 rfl ?_
        refine Go.bipush X0 27 (48 : Int32) da1_25 ?_
        by_cases c5 : x < (48 : Int32)
        · skip
          refine Go.icmpY X0 40 da1_27 (XT.ii_lt_t c5) ?_
          refine Go.iconst X0 41 (0 : Int32) da1_40 ?_
          exact J1 _ _ _ (0 : Int32) X0 ⟨rfl, by first | (left; exact ⟨rfl, by simp_all⟩) | (right; exact ⟨rfl, by simp_all⟩)⟩
        · skip
          refine Go.icmpN X0 30 da1_27 (XT.ii_lt_f c5) ?_
          refine Go.iloadN X0 31 da1_30 rfl ?_
          refine Go.bipush X0 33 (57 : Int32) da1_31 ?_
          by_cases c6 : (57 : Int32) < x
          · skip
            refine Go.icmpY X0 40 da1_33 (XT.ii_gt_t c6) ?_
            refine Go.iconst X0 41 (0 : Int32) da1_40 ?_
            exact J1 _ _ _ (0 : Int32) X0 ⟨rfl, by first | (left; exact ⟨rfl, by simp_all⟩) | (right; exact ⟨rfl, by simp_all⟩)⟩
          · skip
            refine Go.icmpN X0 36 da1_33 (XT.ii_gt_f c6) ?_
            refine Go.iconst X0 37 (1 : Int32) da1_36 ?_
            refine Go.goto X0 41 da1_37 ?_
            exact J1 _ _ _ (1 : Int32) X0 ⟨rfl, by first | (left; exact ⟨rfl, by simp_all⟩) | (right; exact ⟨rfl, by simp_all⟩)⟩
      · skip
        refine Go.icmpN X0 18 da1_15 (XT.ii_lt_f c4) ?_
        refine Go.iloadN X0 19 da1_18 rfl ?_
        refine Go.bipush X0 21 (122 : Int32) da1_19 ?_
        by_cases c7 : (122 : Int32) < x
        · skip
          refine Go.icmpN X0 24 da1_21 (XT.ii_le_f c7) ?_
          refine Go.iloadN X0 25 da1_24 rfl ?_
          refine Go.bipush X0 27 (48 : Int32) da1_25 ?_
          by_cases c8 : x < (48 : Int32)
          · skip
            refine Go.icmpY X0 40 da1_27 (XT.ii_lt_t c8) ?_
            refine Go.iconst X0 41 (0 : Int32) da1_40 ?_
            exact J1 _ _ _ (0 : Int32) X0 ⟨rfl, by first | (left; exact ⟨rfl, by simp_all⟩) | (right; exact ⟨rfl, by simp_all⟩)⟩
          · skip
            refine Go.icmpN X0 30 da1_27 (XT.ii_lt_f c8) ?_
            refine Go.iloadN X0 31 da1_30 rfl ?_
            refine Go.bipush X0 33 (57 : Int32) da1_31 ?_
            by_cases c9 : (57 : Int32) < x
            · skip
              refine Go.icmpY X0 40 da1_33 (XT.ii_gt_t c9) ?_
              refine Go.iconst X0 41 (0 : Int32) da1_40 ?_
              exact J1 _ _ _ (0 : Int32) X0 ⟨rfl, by first | (left; exact ⟨rfl, by simp_all⟩) | (right; exact ⟨rfl, by simp_all⟩)⟩
            · skip
              refine Go.icmpN X0 36 da1_33 (XT.ii_gt_f c9) ?_
              refine Go.iconst X0 37 (1 : Int32) da1_36 ?_
              refine Go.goto X0 41 da1_37 ?_
              exact J1 _ _ _ (1 : Int32) X0 ⟨rfl, by first | (left; exact ⟨rfl, by simp_all⟩) | (right; exact ⟨rfl, by simp_all⟩)⟩
        · skip
          refine Go.icmpY X0 36 da1_21 (XT.ii_le_t c7) ?_
          refine Go.iconst X0 37 (1 : Int32) da1_36 ?_
          refine Go.goto X0 41 da1_37 ?_
          exact J1 _ _ _ (1 : Int32) X0 ⟨rfl, by first | (left; exact ⟨rfl, by simp_all⟩) | (right; exact ⟨rfl, by simp_all⟩)⟩
    · skip
      refine Go.icmpN X0 6 da1_3 (XT.ii_lt_f c3) ?_
      refine Go.iloadN X0 7 da1_6 rfl ?_
      refine Go.bipush X0 9 (90 : Int32) da1_7 ?_
      by_cases c10 : (90 : Int32) < x
      · skip
        refine Go.icmpN X0 12 da1_9 (XT.ii_le_f c10) ?_
        refine Go.iloadN X0 13 da1_12 rfl ?_
        refine Go.bipush X0 15 (97 : Int32) da1_13 ?_
        by_cases c11 : x < (97 : Int32)
        · skip
          refine Go.icmpY X0 24 da1_15 (XT.ii_lt_t c11) ?_
          refine Go.iloadN X0 25 da1_24 rfl ?_
          refine Go.bipush X0 27 (48 : Int32) da1_25 ?_
          by_cases c12 : x < (48 : Int32)
          · skip
            refine Go.icmpY X0 40 da1_27 (XT.ii_lt_t c12) ?_
            refine Go.iconst X0 41 (0 : Int32) da1_40 ?_
            exact J1 _ _ _ (0 : Int32) X0 ⟨rfl, by first | (left; exact ⟨rfl, by simp_all⟩) | (right; exact ⟨rfl, by simp_all⟩)⟩
          · skip
            refine Go.icmpN X0 30 da1_27 (XT.ii_lt_f c12) ?_
            refine Go.iloadN X0 31 da1_30 rfl ?_
            refine Go.bipush X0 33 (57 : Int32) da1_31 ?_
            by_cases c13 : (57 : Int32) < x
            · skip
              refine Go.icmpY X0 40 da1_33 (XT.ii_gt_t c13) ?_
              refine Go.iconst X0 41 (0 : Int32) da1_40 ?_
              exact J1 _ _ _ (0 : Int32) X0 ⟨rfl, by first | (left; exact ⟨rfl, by simp_all⟩) | (right; exact ⟨rfl, by simp_all⟩)⟩
            · skip
              refine Go.icmpN X0 36 da1_33 (XT.ii_gt_f c13) ?_
              refine Go.iconst X0 37 (1 : Int32) da1_36 ?_
              refine Go.goto X0 41 da1_37 ?_
              exact J1 _ _ _ (1 : Int32) X0 ⟨rfl, by first | (left; exact ⟨rfl, by simp_all⟩) | (right; exact ⟨rfl, by simp_all⟩)⟩
        · skip
          refine Go.icmpN X0 18 da1_15 (XT.ii_lt_f c11) ?_
          refine Go.iloadN X0 19 da1_18 rfl ?_
          refine Go.bipush X0 21 (122 : Int32) da1_19 ?_
          by_cases c14 : (122 : Int32) < x
          · skip
            refine Go.icmpN X0 24 da1_21 (XT.ii_le_f c14) ?_
            refine Go.iloadN X0 25 da1_24 rfl ?_
            refine Go.bipush X0 27 (48 : Int32) da1_25 ?_
            by_cases c15 : x < (48 : Int32)
            · skip
              refine Go.icmpY X0 40 da1_27 (XT.ii_lt_t c15) ?_
              refine Go.iconst X0 41 (0 : Int32) da1_40 ?_
              exact J1 _ _ _ (0 : Int32) X0 ⟨rfl, by first | (left; exact ⟨rfl, by simp_all⟩) | (right; exact ⟨rfl, by simp_all⟩)⟩
            · skip
              refine Go.icmpN X0 30 da1_27 (XT.ii_lt_f c15) ?_
              refine Go.iloadN X0 31 da1_30 rfl ?_
              refine Go.bipush X0 33 (57 : Int32) da1_31 ?_
              by_cases c16 : (57 : Int32) < x
              · skip
                refine Go.icmpY X0 40 da1_33 (XT.ii_gt_t c16) ?_
                refine Go.iconst X0 41 (0 : Int32) da1_40 ?_
                exact J1 _ _ _ (0 : Int32) X0 ⟨rfl, by first | (left; exact ⟨rfl, by simp_all⟩) | (right; exact ⟨rfl, by simp_all⟩)⟩
              · skip
                refine Go.icmpN X0 36 da1_33 (XT.ii_gt_f c16) ?_
                refine Go.iconst X0 37 (1 : Int32) da1_36 ?_
                refine Go.goto X0 41 da1_37 ?_
                exact J1 _ _ _ (1 : Int32) X0 ⟨rfl, by first | (left; exact ⟨rfl, by simp_all⟩) | (right; exact ⟨rfl, by simp_all⟩)⟩
          · skip
            refine Go.icmpY X0 36 da1_21 (XT.ii_le_t c14) ?_
            refine Go.iconst X0 37 (1 : Int32) da1_36 ?_
            refine Go.goto X0 41 da1_37 ?_
            exact J1 _ _ _ (1 : Int32) X0 ⟨rfl, by first | (left; exact ⟨rfl, by simp_all⟩) | (right; exact ⟨rfl, by simp_all⟩)⟩
      · skip
        refine Go.icmpY X0 36 da1_9 (XT.ii_le_t c10) ?_
        refine Go.iconst X0 37 (1 : Int32) da1_36 ?_
        refine Go.goto X0 41 da1_37 ?_
        exact J1 _ _ _ (1 : Int32) X0 ⟨rfl, by first | (left; exact ⟨rfl, by simp_all⟩) | (right; exact ⟨rfl, by simp_all⟩)⟩
theorem da2_0 : decode prog_5_method_2_code 0 = .ok (.aload_n 0, 1) := by decide +kernel
theorem da2_1 : decode prog_5_method_2_code 1 = .ok (.invokevirtual 7, 3) := by decide +kernel
theorem da2_4 : decode prog_5_method_2_code 4 = .ok (.ifCond .eq 5, 3) := by decide +kernel
theorem da2_7 : decode prog_5_method_2_code 7 = .ok (.iconst 0, 1) := by decide +kernel
theorem da2_8 : decode prog_5_method_2_code 8 = .ok (.ireturn, 1) := by decide +kernel
theorem da2_9 : decode prog_5_method_2_code 9 = .ok (.iconst 0, 1) := by decide +kernel
theorem da2_10 : decode prog_5_method_2_code 10 = .ok (.istore_n 2, 1) := by decide +kernel
theorem da2_11 : decode prog_5_method_2_code 11 = .ok (.iload_n 2, 1) := by decide +kernel
theorem da2_12 : decode prog_5_method_2_code 12 = .ok (.aload_n 0, 1) := by decide +kernel
theorem da2_13 : decode prog_5_method_2_code 13 = .ok (.invokevirtual 13, 3) := by decide +kernel
theorem da2_16 : decode prog_5_method_2_code 16 = .ok (.if_icmp .ge 23, 3) := by decide +kernel
theorem da2_19 : decode prog_5_method_2_code 19 = .ok (.aload_n 0, 1) := by decide +kernel
theorem da2_20 : decode prog_5_method_2_code 20 = .ok (.iload_n 2, 1) := by decide +kernel
theorem da2_21 : decode prog_5_method_2_code 21 = .ok (.invokevirtual 17, 3) := by decide +kernel
theorem da2_24 : decode prog_5_method_2_code 24 = .ok (.aload_n 1, 1) := by decide +kernel
theorem da2_25 : decode prog_5_method_2_code 25 = .ok (.invokestatic 21, 3) := by decide +kernel
theorem da2_28 : decode prog_5_method_2_code 28 = .ok (.ifCond .ne 5, 3) := by decide +kernel
theorem da2_31 : decode prog_5_method_2_code 31 = .ok (.iconst 0, 1) := by decide +kernel
theorem da2_32 : decode prog_5_method_2_code 32 = .ok (.ireturn, 1) := by decide +kernel
theorem da2_33 : decode prog_5_method_2_code 33 = .ok (.iinc 2 1, 3) := by decide +kernel
theorem da2_36 : decode prog_5_method_2_code 36 = .ok (.goto (-25), 3) := by decide +kernel
theorem da2_39 : decode prog_5_method_2_code 39 = .ok (.iconst 1, 1) := by decide +kernel
theorem da2_40 : decode prog_5_method_2_code 40 = .ok (.ireturn, 1) := by decide +kernel
def QA (h0 : Heap) (n k : Nat) (f g : Nat → Int32) : Option Value → Heap → Prop := fun v h' => h' = h0 ∧ ((v = some (.int 1) ∧ 0 < n ∧ ∀ j, j < n → (Al (f j) ∨ ∃ i, i < k ∧ g i = f j)) ∨ (v = some (.int 0) ∧ ¬ (0 < n ∧ ∀ j, j < n → (Al (f j) ∨ ∃ i, i < k ∧ g i = f j))))
set_option maxRecDepth 65536 in
set_option maxHeartbeats 40000000 in
theorem lp_a2 {p : Program} {l : Launch} {e : Env} {s : State} {m : MethodId} {args : Array Value} {below : List Frame} {meth : Method} {c : Code} {Z : State} {nm : String} (a0 : Array Value) (hw : ∀ d ∈ tables_1, d.before a0 Z = true) (cz : Int32) (SC : Sta Z Z.heap "java/lang/String" "COMPACT_STRINGS" "Z" (.int cz)) (hcz : ¬ cz = 0) (wf : Value) (hwf : wf.isRef = true) (SF : Sta Z Z.heap "jdk/internal/util/Preconditions" "SIOOBE_FORMATTER" "Ljava/util/function/BiFunction;" wf) (a t b u : Addr) (n k : Nat) (f g : Nat → Int32) (hn : 0 < n) (h : Heap) (S : Str Z h a t n f) (S' : Str Z h b u k g) (hl : ∀ j, j < n → ¬ 255 < f j) (hl' : ∀ j, j < k → ¬ 255 < g j) :
    ∀ (r i : Nat), i + r = n → ∀ (T : State) (locs : List Loc), Cx p l e (⟨5, 0, 0, 73⟩ : Room) s m args below meth c Z "com/example/peerloom/peerloom/api/Ascii" nm prog_5_method_2_code 3 (some .boolean) T locs 0 0 h → (∀ j, j < i → (Al (f j) ∨ ∃ i, i < k ∧ g i = f j)) →
      Go p e below (FinN s Z (QA h n k f g) 0 0) T m 11 #[.val (.ref a), .val (.ref b), .val (.int (Int32.ofNat i))] [] := by
  intro r
  induction r with
  | zero =>
    intro i hi T locs X0 hg
    have hin : i = n := by omega
    subst hin
    refine Go.iloadN X0 12 da2_11 rfl ?_
    refine Go.aloadN X0 13 da2_12 rfl rfl ?_
    refine Go.callVP X0 16 [] [(.int (Int32.ofNat i))] 1 (hw _ (List.mem_of_getElem? (i := 54) rfl)) (hw _ (List.mem_of_getElem? (i := 55) rfl)) (hw _ (List.mem_of_getElem? (i := 57) rfl)) (notFace_of_selects (args := #[]) (mvT X0.hZ (hw _ (List.mem_of_getElem? (i := 57) rfl)))) (hw _ (List.mem_of_getElem? (i := 56) rfl)) (hw _ (List.mem_of_getElem? (i := 8) rfl)) (by decide) S.exa (hw _ (List.mem_of_getElem? (i := 58) rfl)) pd_12 da2_13 (rm_len l Z a0 hw h cz SC hcz a t i f S) rfl rfl rfl (Nat.le_of_eq rfl) (by decide) (by decide) (by decide) (by decide) ?_
    intro T1 L1 X1
    refine Go.icmpY X1 39 da2_16 (XT.ii_ge_t (n_nlt (Nat.le_refl _) (by have := S.2.2.1; omega))) ?_
    refine Go.iconst X1 40 (1 : Int32) da2_39 ?_
    exact Go.retI X1 rfl (by simp) rfl da2_40 (X1.fin ⟨rfl, Or.inl ⟨rfl, hn, hg⟩⟩ (by decide) (by decide))
  | succ r ih =>
    intro i hi T locs X0 hg
    have hin : i < n := by omega
    have hi0 : ¬ f i < 0 := by
      have q := (S.2.2.2.1 i hin).1
      rw [Int32.lt_iff_toInt_lt]
      have e0 : (0 : Int32).toInt = 0 := by decide
      omega
    refine Go.iloadN X0 12 da2_11 rfl ?_
    refine Go.aloadN X0 13 da2_12 rfl rfl ?_
    refine Go.callVP X0 16 [] [(.int (Int32.ofNat i))] 1 (hw _ (List.mem_of_getElem? (i := 54) rfl)) (hw _ (List.mem_of_getElem? (i := 55) rfl)) (hw _ (List.mem_of_getElem? (i := 57) rfl)) (notFace_of_selects (args := #[]) (mvT X0.hZ (hw _ (List.mem_of_getElem? (i := 57) rfl)))) (hw _ (List.mem_of_getElem? (i := 56) rfl)) (hw _ (List.mem_of_getElem? (i := 8) rfl)) (by decide) S.exa (hw _ (List.mem_of_getElem? (i := 58) rfl)) pd_12 da2_13 (rm_len l Z a0 hw h cz SC hcz a t n f S) rfl rfl rfl (Nat.le_of_eq rfl) (by decide) (by decide) (by decide) (by decide) ?_
    intro T1 L1 X1
    refine Go.icmpN X1 19 da2_16 (XT.ii_ge_f (n_lt hin (by have := S.2.2.1; omega))) ?_
    refine Go.aloadN X1 20 da2_19 rfl rfl ?_
    refine Go.iloadN X1 21 da2_20 rfl ?_
    refine Go.callVP X1 24 [(.int (Int32.ofNat i))] [] 0 (hw _ (List.mem_of_getElem? (i := 64) rfl)) (hw _ (List.mem_of_getElem? (i := 65) rfl)) (hw _ (List.mem_of_getElem? (i := 67) rfl)) (notFace_of_selects (args := #[]) (mvT X1.hZ (hw _ (List.mem_of_getElem? (i := 67) rfl)))) (hw _ (List.mem_of_getElem? (i := 66) rfl)) (hw _ (List.mem_of_getElem? (i := 8) rfl)) (by decide) S.exa (hw _ (List.mem_of_getElem? (i := 68) rfl)) pd_15 da2_21 (rm_chat l Z a0 hw h cz SC hcz wf hwf SF a t (Int32.ofNat i) n i f rfl S hin hl) rfl rfl rfl (Nat.le_of_eq rfl) (by decide) (by decide) (by decide) (by decide) ?_
    intro T2 L2 X2
    refine Go.aloadN X2 25 da2_24 rfl rfl ?_
    refine Go.callS X2 28 [(.int (f i)), (.ref b)] [] 0 (hw _ (List.mem_of_getElem? (i := 86) rfl)) (hw _ (List.mem_of_getElem? (i := 87) rfl)) (hw _ (List.mem_of_getElem? (i := 33) rfl)) (by decide) (hw _ (List.mem_of_getElem? (i := 88) rfl)) pd_16 da2_25 (rm_a1 l Z a0 hw h cz SC hcz (f i) b u k g S' hl' hi0 (hl i hin)) rfl rfl rfl (Nat.le_of_eq rfl) (by decide) (by decide) (by decide) (by decide) ?_
    rintro T3 v3 L3 X3 ⟨hh, ⟨rfl, q1⟩ | ⟨rfl, q1⟩⟩
    · rw [hh] at X3
      show Go p e below _ T3 m 28 #[.val (.ref a), .val (.ref b), .val (.int (Int32.ofNat i))] [(.int (1 : Int32))]
      refine Go.if0Y X3 33 da2_28 (XT.i0_ne_t (by decide)) ?_
      refine Go.iinc X3 36 (1 : Int32) #[.val (.ref a), .val (.ref b), .val (.int ((Int32.ofNat i) + (1 : Int32)))] da2_33 rfl rfl ?_
      refine Go.goto X3 11 da2_36 ?_
      rw [n_succ]
      refine ih (i + 1) (by omega) _ _ X3 (fun j hj => ?_)
      by_cases q : j = i
      · subst q; exact q1
      · exact hg j (by omega)
    · rw [hh] at X3
      show Go p e below _ T3 m 28 #[.val (.ref a), .val (.ref b), .val (.int (Int32.ofNat i))] [(.int (0 : Int32))]
      refine Go.if0N X3 31 da2_28 (XT.i0_ne_f (by decide)) ?_
      refine Go.iconst X3 32 (0 : Int32) da2_31 ?_
      exact Go.retI X3 rfl (by simp) rfl da2_32 (X3.fin ⟨rfl, Or.inr ⟨rfl, fun z => q1 (z.2 i hin)⟩⟩ (by decide) (by decide))
theorem ef_a2 (m : MethodId) (a : Addr) (b : Addr) : entryFrame m #[(.ref a), (.ref b)] 3 = mkF m 0 #[.val (.ref a), .val (.ref b), .unset] [] := by first | (simp [entryFrame, mkF, argsToLocals, Value.category]; done) | rfl
set_option maxRecDepth 65536 in
set_option maxHeartbeats 40000000 in
theorem rm_a2 (l : Launch) (Z : State) (a0 : Array Value) (hw : ∀ d ∈ tables_1, d.before a0 Z = true) (h0 : Heap) (cz : Int32) (SC : Sta Z Z.heap "java/lang/String" "COMPACT_STRINGS" "Z" (.int cz)) (hcz : ¬ cz = 0) (wf : Value) (hwf : wf.isRef = true) (SF : Sta Z Z.heap "jdk/internal/util/Preconditions" "SIOOBE_FORMATTER" "Ljava/util/function/BiFunction;" wf) (a t b u : Addr) (n k : Nat) (f g : Nat → Int32) (S : Str Z h0 a t n f) (S' : Str Z h0 b u k g) (hl : ∀ j, j < n → ¬ 255 < f j) (hl' : ∀ j, j < k → ¬ 255 < g j) :
    Ct l Z [] (⟨"com/example/peerloom/peerloom/api/Ascii", "isAlphanumericOr", "(Ljava/lang/String;Ljava/lang/String;)Z"⟩ : MethodName) prog_5_method_2_code 3 (some .boolean) (⟨5, 0, 0, 73⟩ : Room) #[(.ref a), (.ref b)] h0 (QA h0 n k f g) := by
  refine Ct.of pn_com_example_peerloom_peerloom_api_Ascii (fun m => ef_a2 m a b) ?_
  intro p e s m below meth c s₁ X0
  by_cases hn : n = 0
  · skip
    refine Go.aloadN X0 1 da2_0 rfl rfl ?_
    refine Go.callVP X0 4 [] [] 0 (hw _ (List.mem_of_getElem? (i := 35) rfl)) (hw _ (List.mem_of_getElem? (i := 36) rfl)) (hw _ (List.mem_of_getElem? (i := 38) rfl)) (notFace_of_selects (args := #[]) (mvT X0.hZ (hw _ (List.mem_of_getElem? (i := 38) rfl)))) (hw _ (List.mem_of_getElem? (i := 37) rfl)) (hw _ (List.mem_of_getElem? (i := 8) rfl)) (by decide) S.exa (hw _ (List.mem_of_getElem? (i := 39) rfl)) pd_7 da2_1 (rm_emp l Z a0 hw h0 a t n f S) rfl rfl rfl (Nat.le_of_eq rfl) (by decide) (by decide) (by decide) (by decide) ?_
    intro T1 L1 X1
    rw [if_pos hn]
    refine Go.if0N X1 7 da2_4 (XT.i0_eq_f (by decide)) ?_
    refine Go.iconst X1 8 (0 : Int32) da2_7 ?_
    exact Go.retI X1 rfl (by simp) rfl da2_8 (X1.fin ⟨rfl, Or.inr ⟨rfl, fun q => absurd q.1 (by omega)⟩⟩ (by decide) (by decide))
  · skip
    refine Go.aloadN X0 1 da2_0 rfl rfl ?_
    refine Go.callVP X0 4 [] [] 0 (hw _ (List.mem_of_getElem? (i := 35) rfl)) (hw _ (List.mem_of_getElem? (i := 36) rfl)) (hw _ (List.mem_of_getElem? (i := 38) rfl)) (notFace_of_selects (args := #[]) (mvT X0.hZ (hw _ (List.mem_of_getElem? (i := 38) rfl)))) (hw _ (List.mem_of_getElem? (i := 37) rfl)) (hw _ (List.mem_of_getElem? (i := 8) rfl)) (by decide) S.exa (hw _ (List.mem_of_getElem? (i := 39) rfl)) pd_7 da2_1 (rm_emp l Z a0 hw h0 a t n f S) rfl rfl rfl (Nat.le_of_eq rfl) (by decide) (by decide) (by decide) (by decide) ?_
    intro T2 L2 X2
    rw [if_neg hn]
    refine Go.if0Y X2 9 da2_4 (XT.i0_eq_t (by decide)) ?_
    refine Go.iconst X2 10 (0 : Int32) da2_9 ?_
    refine Go.istoreN X2 11 #[.val (.ref a), .val (.ref b), .val (.int (0 : Int32))] da2_10 rfl ?_
    exact lp_a2 a0 hw cz SC hcz wf hwf SF a t b u n k f g (by omega) h0 S S' hl hl' n 0 (by omega) _ _ X2 (fun j hj => absurd hj (Nat.not_lt_zero j))
theorem ef_l (m : MethodId) (j0 : Int64) (i0 : Int32) : entryFrame m #[(.long j0), (.int i0)] maxLocals = mkF m 0 #[.val (.long j0), .second, .val (.int i0), .unset, .unset, .unset, .unset, .unset, .unset, .unset, .unset, .unset, .unset, .unset, .unset] [] := by first | (simp [entryFrame, mkF, argsToLocals, Value.category, maxLocals]; done) | rfl
set_option maxRecDepth 65536 in
set_option maxHeartbeats 40000000 in
theorem rm_l (l : Launch) (Z : State) (a0 : Array Value) (hw : ∀ d ∈ tables_1, d.before a0 Z = true) (h0 : Heap) (cz : Int32) (SC : Sta Z Z.heap "java/lang/String" "COMPACT_STRINGS" "Z" (.int cz)) (hcz : ¬ cz = 0) (wf : Value) (hwf : wf.isRef = true) (SF : Sta Z Z.heap "jdk/internal/util/Preconditions" "SIOOBE_FORMATTER" "Ljava/util/function/BiFunction;" wf) (j0 : Int64) (i0 : Int32) :
    CtL l Z consts_1 tables_1 x code maxLocals ret room_1 #[(.long j0), (.int i0)] h0 (fun v _ => v = some (.int 1)) := by
  refine CtL.of pn_com_example_peerloom_peerloom_api_AsciiIsAlphanumericOrPinLaw (fun m => ef_l m j0 i0) ?_
  intro p e s m below meth c s₁ X0 ws0 H0
  have hEL := own_EW hw
  refine Go.lloadN X0 1 at_0 rfl ?_
  refine Go.bipush X0 3 (32 : Int32) at_1 ?_
  refine Go.lushr X0 4 at_3 ?_
  refine Go.l2i X0 5 at_4 ?_
  refine Go.ldcI X0 7 (hw _ (List.mem_of_getElem? (i := 0) rfl)) at_5 ?_
  refine Go.iand X0 8 at_7 ?_
  refine Go.iconst X0 9 (5 : Int32) at_8 ?_
  refine Go.irem X0 10 at_9 (by decide) ?_
  rcases own_k5 ((XT.ushrL j0 (32 : Int32)).toInt32) with hk | hk | hk | hk | hk
  · rw [hk]
    refine Go.istoreN X0 11 #[.val (.long j0), .second, .val (.int i0), .val (.int (0 : Int32)), .unset, .unset, .unset, .unset, .unset, .unset, .unset, .unset, .unset, .unset, .unset] at_10 rfl ?_
    refine Go.lloadN X0 12 at_11 rfl ?_
    refine Go.ldcJ X0 15 (hw _ (List.mem_of_getElem? (i := 1) rfl)) at_12 ?_
    refine Go.land X0 16 at_15 ?_
    refine Go.l2i X0 17 at_16 ?_
    refine Go.i2c X0 18 at_17 ?_
    have rx0 : 0 ≤ (((j0 &&& (255 : Int64)).toInt32).toUInt32.toUInt16.toUInt32.toInt32).toInt ∧ ¬ 255 < ((j0 &&& (255 : Int64)).toInt32).toUInt32.toUInt16.toUInt32.toInt32 := own_l255 _
    generalize ((j0 &&& (255 : Int64)).toInt32).toUInt32.toUInt16.toUInt32.toInt32 = x0 at rx0 ⊢
    refine Go.istore X0 20 #[.val (.long j0), .second, .val (.int i0), .val (.int (0 : Int32)), .val (.int x0), .unset, .unset, .unset, .unset, .unset, .unset, .unset, .unset, .unset, .unset] at_18 rfl ?_
    refine Go.lloadN X0 21 at_20 rfl ?_
    refine Go.bipush X0 23 (8 : Int32) at_21 ?_
    refine Go.lushr X0 24 at_23 ?_
    refine Go.ldcJ X0 27 (hw _ (List.mem_of_getElem? (i := 1) rfl)) at_24 ?_
    refine Go.land X0 28 at_27 ?_
    refine Go.l2i X0 29 at_28 ?_
    refine Go.i2c X0 30 at_29 ?_
    have rx1 : 0 ≤ ((((XT.ushrL j0 (8 : Int32)) &&& (255 : Int64)).toInt32).toUInt32.toUInt16.toUInt32.toInt32).toInt ∧ ¬ 255 < (((XT.ushrL j0 (8 : Int32)) &&& (255 : Int64)).toInt32).toUInt32.toUInt16.toUInt32.toInt32 := own_l255 _
    generalize (((XT.ushrL j0 (8 : Int32)) &&& (255 : Int64)).toInt32).toUInt32.toUInt16.toUInt32.toInt32 = x1 at rx1 ⊢
    refine Go.istore X0 32 #[.val (.long j0), .second, .val (.int i0), .val (.int (0 : Int32)), .val (.int x0), .val (.int x1), .unset, .unset, .unset, .unset, .unset, .unset, .unset, .unset, .unset] at_30 rfl ?_
    refine Go.lloadN X0 33 at_32 rfl ?_
    refine Go.bipush X0 35 (16 : Int32) at_33 ?_
    refine Go.lushr X0 36 at_35 ?_
    refine Go.ldcJ X0 39 (hw _ (List.mem_of_getElem? (i := 1) rfl)) at_36 ?_
    refine Go.land X0 40 at_39 ?_
    refine Go.l2i X0 41 at_40 ?_
    refine Go.i2c X0 42 at_41 ?_
    have rx2 : 0 ≤ ((((XT.ushrL j0 (16 : Int32)) &&& (255 : Int64)).toInt32).toUInt32.toUInt16.toUInt32.toInt32).toInt ∧ ¬ 255 < (((XT.ushrL j0 (16 : Int32)) &&& (255 : Int64)).toInt32).toUInt32.toUInt16.toUInt32.toInt32 := own_l255 _
    generalize (((XT.ushrL j0 (16 : Int32)) &&& (255 : Int64)).toInt32).toUInt32.toUInt16.toUInt32.toInt32 = x2 at rx2 ⊢
    refine Go.istore X0 44 #[.val (.long j0), .second, .val (.int i0), .val (.int (0 : Int32)), .val (.int x0), .val (.int x1), .val (.int x2), .unset, .unset, .unset, .unset, .unset, .unset, .unset, .unset] at_42 rfl ?_
    refine Go.lloadN X0 45 at_44 rfl ?_
    refine Go.bipush X0 47 (24 : Int32) at_45 ?_
    refine Go.lushr X0 48 at_47 ?_
    refine Go.ldcJ X0 51 (hw _ (List.mem_of_getElem? (i := 1) rfl)) at_48 ?_
    refine Go.land X0 52 at_51 ?_
    refine Go.l2i X0 53 at_52 ?_
    refine Go.i2c X0 54 at_53 ?_
    have rx3 : 0 ≤ ((((XT.ushrL j0 (24 : Int32)) &&& (255 : Int64)).toInt32).toUInt32.toUInt16.toUInt32.toInt32).toInt ∧ ¬ 255 < (((XT.ushrL j0 (24 : Int32)) &&& (255 : Int64)).toInt32).toUInt32.toUInt16.toUInt32.toInt32 := own_l255 _
    generalize (((XT.ushrL j0 (24 : Int32)) &&& (255 : Int64)).toInt32).toUInt32.toUInt16.toUInt32.toInt32 = x3 at rx3 ⊢
    refine Go.istore X0 56 #[.val (.long j0), .second, .val (.int i0), .val (.int (0 : Int32)), .val (.int x0), .val (.int x1), .val (.int x2), .val (.int x3), .unset, .unset, .unset, .unset, .unset, .unset, .unset] at_54 rfl ?_
    refine Go.iloadN X0 57 at_56 rfl ?_
    refine Go.bipush X0 59 (16 : Int32) at_57 ?_
    refine Go.iushr X0 60 at_59 ?_
    refine Go.sipush X0 63 (32767 : Int32) at_60 ?_
    refine Go.iand X0 64 at_63 ?_
    refine Go.iconst X0 65 (3 : Int32) at_64 ?_
    refine Go.irem X0 66 at_65 (by decide) ?_
    have hz3 := own_k3 (XT.ushr i0 (16 : Int32))
    generalize (((XT.ushr i0 (16 : Int32)) &&& (32767 : Int32)) % (3 : Int32)) = z3 at hz3 ⊢
    refine Go.istore X0 68 #[.val (.long j0), .second, .val (.int i0), .val (.int (0 : Int32)), .val (.int x0), .val (.int x1), .val (.int x2), .val (.int x3), .val (.int z3), .unset, .unset, .unset, .unset, .unset, .unset] at_66 rfl ?_
    refine Go.iloadN X0 69 at_68 rfl ?_
    refine Go.sipush X0 72 (255 : Int32) at_69 ?_
    refine Go.iand X0 73 at_72 ?_
    refine Go.i2c X0 74 at_73 ?_
    rw [i2c_mask i0]
    have ry0 := own_255 i0
    generalize (i0 &&& (255 : Int32)) = y0 at ry0 ⊢
    refine Go.istore X0 76 #[.val (.long j0), .second, .val (.int i0), .val (.int (0 : Int32)), .val (.int x0), .val (.int x1), .val (.int x2), .val (.int x3), .val (.int z3), .val (.int y0), .unset, .unset, .unset, .unset, .unset] at_74 rfl ?_
    refine Go.iloadN X0 77 at_76 rfl ?_
    refine Go.bipush X0 79 (8 : Int32) at_77 ?_
    refine Go.iushr X0 80 at_79 ?_
    refine Go.sipush X0 83 (255 : Int32) at_80 ?_
    refine Go.iand X0 84 at_83 ?_
    refine Go.i2c X0 85 at_84 ?_
    rw [i2c_mask (XT.ushr i0 (8 : Int32))]
    have ry1 := own_255 (XT.ushr i0 (8 : Int32))
    generalize ((XT.ushr i0 (8 : Int32)) &&& (255 : Int32)) = y1 at ry1 ⊢
    refine Go.istore X0 87 #[.val (.long j0), .second, .val (.int i0), .val (.int (0 : Int32)), .val (.int x0), .val (.int x1), .val (.int x2), .val (.int x3), .val (.int z3), .val (.int y0), .val (.int y1), .unset, .unset, .unset, .unset] at_85 rfl ?_
    refine Go.iloadN X0 88 at_87 rfl ?_
    refine Go.iload X0 90 at_88 rfl ?_
    refine Go.iload X0 92 at_90 rfl ?_
    refine Go.iload X0 94 at_92 rfl ?_
    refine Go.iload X0 96 at_94 rfl ?_
    refine Go.callSW X0 99 hEL ws0 H0 [(.int (0 : Int32)), (.int x0), (.int x1), (.int x2), (.int x3)] [] 0 (hw _ (List.mem_of_getElem? (i := 2) rfl)) (hw _ (List.mem_of_getElem? (i := 3) rfl)) (hw _ (List.mem_of_getElem? (i := 4) rfl)) (by decide) (hw _ (List.mem_of_getElem? (i := 5) rfl)) pd_17 at_96 (rm_t l Z a0 hw h0 cz SC hcz (0 : Int32) x0 x1 x2 x3 (Or.inl rfl) rx0 rx1 rx2 rx3) rfl rfl rfl (Nat.le_of_eq rfl) (by decide) (by decide) (by decide) (by decide) ?_
    rintro T11 v11 L11 vm11 X11 ws11 R11 ⟨s0, ts0, rfl, Ks0, gs0, Ss0⟩
    show Go p e below _ T11 m 99 #[.val (.long j0), .second, .val (.int i0), .val (.int (0 : Int32)), .val (.int x0), .val (.int x1), .val (.int x2), .val (.int x3), .val (.int z3), .val (.int y0), .val (.int y1), .unset, .unset, .unset, .unset] [(.ref s0)]
    have H1 := R11.1
    have S0 : Str Z T11.heap s0 ts0 0 (own_f4 x0 x1 x2 x3) := Ss0
    refine Go.astore X11 101 #[.val (.long j0), .second, .val (.int i0), .val (.int (0 : Int32)), .val (.int x0), .val (.int x1), .val (.int x2), .val (.int x3), .val (.int z3), .val (.int y0), .val (.int y1), .val (.ref s0), .unset, .unset, .unset] at_99 rfl rfl ?_
    refine Go.iload X11 103 at_101 rfl ?_
    refine Go.iload X11 105 at_103 rfl ?_
    refine Go.iload X11 107 at_105 rfl ?_
    refine Go.callSW X11 110 hEL ws11 H1 [(.int z3), (.int y0), (.int y1)] [] 0 (hw _ (List.mem_of_getElem? (i := 28) rfl)) (hw _ (List.mem_of_getElem? (i := 29) rfl)) (hw _ (List.mem_of_getElem? (i := 4) rfl)) (by decide) (hw _ (List.mem_of_getElem? (i := 30) rfl)) pd_18 at_107 (rm_pu l Z a0 hw T11.heap cz SC hcz z3 y0 y1 hz3 ry0 ry1) rfl rfl rfl (Nat.le_of_eq rfl) (by decide) (by decide) (by decide) (by decide) ?_
    rintro T12 v12 L12 vm12 X12 ws12 R12 ⟨s1, ts1, rfl, Ks1, gs1, Ss1⟩
    show Go p e below _ T12 m 110 #[.val (.long j0), .second, .val (.int i0), .val (.int (0 : Int32)), .val (.int x0), .val (.int x1), .val (.int x2), .val (.int x3), .val (.int z3), .val (.int y0), .val (.int y1), .val (.ref s0), .unset, .unset, .unset] [(.ref s1)]
    have F13 : Str Z T12.heap s0 ts0 0 (own_f4 x0 x1 x2 x3) := S0.keep Ks1 nin0 nin0
    refine Go.astore X12 112 #[.val (.long j0), .second, .val (.int i0), .val (.int (0 : Int32)), .val (.int x0), .val (.int x1), .val (.int x2), .val (.int x3), .val (.int z3), .val (.int y0), .val (.int y1), .val (.ref s0), .val (.ref s1), .unset, .unset] at_110 rfl rfl ?_
    refine Go.iloadN X12 113 at_112 rfl ?_
    refine Go.iconst X12 114 (1 : Int32) at_113 ?_
    refine Go.join X12 (α := Int32) (fun q hJ => T12.heap = hJ ∧ ((q = 1 ∧ (False)) ∨ (q = 0 ∧ ¬ (False)))) 193 (fun q => #[.val (.long j0), .second, .val (.int i0), .val (.int (0 : Int32)), .val (.int x0), .val (.int x1), .val (.int x2), .val (.int x3), .val (.int z3), .val (.int y0), .val (.int y1), .val (.ref s0), .val (.ref s1), .unset, .unset]) (fun q => [(.int q)]) 12 30 ?_ ?_
    · rintro T14 L14 h14 E0 X14 hp14
      replace hp14 : T12.heap = h14 ∧ ((E0 = 1 ∧ (False)) ∨ (E0 = 0 ∧ ¬ (False))) := hp14
      show Go p e below _ T14 m 193 #[.val (.long j0), .second, .val (.int i0), .val (.int (0 : Int32)), .val (.int x0), .val (.int x1), .val (.int x2), .val (.int x3), .val (.int z3), .val (.int y0), .val (.int y1), .val (.ref s0), .val (.ref s1), .unset, .unset] [(.int E0)]
      obtain ⟨he, hE⟩ := hp14
      subst he
      refine Go.istore X14 195 #[.val (.long j0), .second, .val (.int i0), .val (.int (0 : Int32)), .val (.int x0), .val (.int x1), .val (.int x2), .val (.int x3), .val (.int z3), .val (.int y0), .val (.int y1), .val (.ref s0), .val (.ref s1), .val (.int E0), .unset] at_193 rfl ?_
      refine Go.aload X14 197 at_195 rfl rfl ?_
      refine Go.aload X14 199 at_197 rfl rfl ?_
      have fr0 : ∀ j, j < 0 → ¬ 255 < own_f4 x0 x1 x2 x3 j := by
        intro j _
        unfold own_f4
        split
        · exact rx0.2
        · split
          · exact rx1.2
          · split
            · exact rx2.2
            · exact rx3.2
      have fr1 : ∀ j, j < z3.toNatClampNeg → ¬ 255 < own_g2 y0 y1 j := by
        intro j _
        unfold own_g2
        split
        · exact ry0.2
        · exact ry1.2
      have key : (0 < 0 ∧ ∀ j, j < 0 → (Al (own_f4 x0 x1 x2 x3 j) ∨ ∃ i, i < z3.toNatClampNeg ∧ own_g2 y0 y1 i = own_f4 x0 x1 x2 x3 j)) ↔ (False) := by
        exact ⟨fun q => absurd q.1 (by decide), fun q => q.elim⟩
      refine Go.callS X14 202 [(.ref s0), (.ref s1)] [] 0 (hw _ (List.mem_of_getElem? (i := 31) rfl)) (hw _ (List.mem_of_getElem? (i := 32) rfl)) (hw _ (List.mem_of_getElem? (i := 33) rfl)) (by decide) (hw _ (List.mem_of_getElem? (i := 34) rfl)) pd_19 at_199 (rm_a2 l Z a0 hw T12.heap cz SC hcz wf hwf SF s0 ts0 s1 ts1 0 z3.toNatClampNeg (own_f4 x0 x1 x2 x3) (own_g2 y0 y1) F13 Ss1 fr0 fr1) rfl rfl rfl (Nat.le_of_eq rfl) (by decide) (by decide) (by decide) (by decide) ?_
      rintro T15 v15 L15 X15 ⟨hh, ⟨rfl, q1⟩ | ⟨rfl, q1⟩⟩
      · rw [hh] at X15
        rcases hE with ⟨rfl, hC⟩ | ⟨rfl, hC⟩
        · skip
          show Go p e below _ T15 m 202 #[.val (.long j0), .second, .val (.int i0), .val (.int (0 : Int32)), .val (.int x0), .val (.int x1), .val (.int x2), .val (.int x3), .val (.int z3), .val (.int y0), .val (.int y1), .val (.ref s0), .val (.ref s1), .val (.int (1 : Int32)), .unset] [(.int (1 : Int32))]
          refine Go.istore X15 204 #[.val (.long j0), .second, .val (.int i0), .val (.int (0 : Int32)), .val (.int x0), .val (.int x1), .val (.int x2), .val (.int x3), .val (.int z3), .val (.int y0), .val (.int y1), .val (.ref s0), .val (.ref s1), .val (.int (1 : Int32)), .val (.int (1 : Int32))] at_202 rfl ?_
          refine Go.iload X15 206 at_204 rfl ?_
          refine Go.iload X15 208 at_206 rfl ?_
          refine Go.icmpN X15 211 at_208 (XT.ii_ne_f (by decide)) ?_
          refine Go.iconst X15 212 (1 : Int32) at_211 ?_
          refine Go.goto X15 216 at_212 ?_
          exact Go.retI X15 rfl (by simp) rfl at_216 (X15.finL ws12 rfl (by decide) (by decide))
        · skip
          exact absurd (key.mp q1) hC
      · rw [hh] at X15
        rcases hE with ⟨rfl, hC⟩ | ⟨rfl, hC⟩
        · skip
          exact absurd (key.mpr hC) q1
        · skip
          show Go p e below _ T15 m 202 #[.val (.long j0), .second, .val (.int i0), .val (.int (0 : Int32)), .val (.int x0), .val (.int x1), .val (.int x2), .val (.int x3), .val (.int z3), .val (.int y0), .val (.int y1), .val (.ref s0), .val (.ref s1), .val (.int (0 : Int32)), .unset] [(.int (0 : Int32))]
          refine Go.istore X15 204 #[.val (.long j0), .second, .val (.int i0), .val (.int (0 : Int32)), .val (.int x0), .val (.int x1), .val (.int x2), .val (.int x3), .val (.int z3), .val (.int y0), .val (.int y1), .val (.ref s0), .val (.ref s1), .val (.int (0 : Int32)), .val (.int (0 : Int32))] at_202 rfl ?_
          refine Go.iload X15 206 at_204 rfl ?_
          refine Go.iload X15 208 at_206 rfl ?_
          refine Go.icmpN X15 211 at_208 (XT.ii_ne_f (by decide)) ?_
          refine Go.iconst X15 212 (1 : Int32) at_211 ?_
          refine Go.goto X15 216 at_212 ?_
          exact Go.retI X15 rfl (by simp) rfl at_216 (X15.finL ws12 rfl (by decide) (by decide))
    · intro J14
      refine Go.icmpY X12 192 at_114 (XT.ii_lt_t (by decide)) ?_
      refine Go.iconst X12 193 (0 : Int32) at_192 ?_
      exact J14 _ _ _ (0 : Int32) X12 ⟨rfl, Or.inr ⟨rfl, id⟩⟩
  · rw [hk]
    refine Go.istoreN X0 11 #[.val (.long j0), .second, .val (.int i0), .val (.int (1 : Int32)), .unset, .unset, .unset, .unset, .unset, .unset, .unset, .unset, .unset, .unset, .unset] at_10 rfl ?_
    refine Go.lloadN X0 12 at_11 rfl ?_
    refine Go.ldcJ X0 15 (hw _ (List.mem_of_getElem? (i := 1) rfl)) at_12 ?_
    refine Go.land X0 16 at_15 ?_
    refine Go.l2i X0 17 at_16 ?_
    refine Go.i2c X0 18 at_17 ?_
    have rx0 : 0 ≤ (((j0 &&& (255 : Int64)).toInt32).toUInt32.toUInt16.toUInt32.toInt32).toInt ∧ ¬ 255 < ((j0 &&& (255 : Int64)).toInt32).toUInt32.toUInt16.toUInt32.toInt32 := own_l255 _
    generalize ((j0 &&& (255 : Int64)).toInt32).toUInt32.toUInt16.toUInt32.toInt32 = x0 at rx0 ⊢
    refine Go.istore X0 20 #[.val (.long j0), .second, .val (.int i0), .val (.int (1 : Int32)), .val (.int x0), .unset, .unset, .unset, .unset, .unset, .unset, .unset, .unset, .unset, .unset] at_18 rfl ?_
    refine Go.lloadN X0 21 at_20 rfl ?_
    refine Go.bipush X0 23 (8 : Int32) at_21 ?_
    refine Go.lushr X0 24 at_23 ?_
    refine Go.ldcJ X0 27 (hw _ (List.mem_of_getElem? (i := 1) rfl)) at_24 ?_
    refine Go.land X0 28 at_27 ?_
    refine Go.l2i X0 29 at_28 ?_
    refine Go.i2c X0 30 at_29 ?_
    have rx1 : 0 ≤ ((((XT.ushrL j0 (8 : Int32)) &&& (255 : Int64)).toInt32).toUInt32.toUInt16.toUInt32.toInt32).toInt ∧ ¬ 255 < (((XT.ushrL j0 (8 : Int32)) &&& (255 : Int64)).toInt32).toUInt32.toUInt16.toUInt32.toInt32 := own_l255 _
    generalize (((XT.ushrL j0 (8 : Int32)) &&& (255 : Int64)).toInt32).toUInt32.toUInt16.toUInt32.toInt32 = x1 at rx1 ⊢
    refine Go.istore X0 32 #[.val (.long j0), .second, .val (.int i0), .val (.int (1 : Int32)), .val (.int x0), .val (.int x1), .unset, .unset, .unset, .unset, .unset, .unset, .unset, .unset, .unset] at_30 rfl ?_
    refine Go.lloadN X0 33 at_32 rfl ?_
    refine Go.bipush X0 35 (16 : Int32) at_33 ?_
    refine Go.lushr X0 36 at_35 ?_
    refine Go.ldcJ X0 39 (hw _ (List.mem_of_getElem? (i := 1) rfl)) at_36 ?_
    refine Go.land X0 40 at_39 ?_
    refine Go.l2i X0 41 at_40 ?_
    refine Go.i2c X0 42 at_41 ?_
    have rx2 : 0 ≤ ((((XT.ushrL j0 (16 : Int32)) &&& (255 : Int64)).toInt32).toUInt32.toUInt16.toUInt32.toInt32).toInt ∧ ¬ 255 < (((XT.ushrL j0 (16 : Int32)) &&& (255 : Int64)).toInt32).toUInt32.toUInt16.toUInt32.toInt32 := own_l255 _
    generalize (((XT.ushrL j0 (16 : Int32)) &&& (255 : Int64)).toInt32).toUInt32.toUInt16.toUInt32.toInt32 = x2 at rx2 ⊢
    refine Go.istore X0 44 #[.val (.long j0), .second, .val (.int i0), .val (.int (1 : Int32)), .val (.int x0), .val (.int x1), .val (.int x2), .unset, .unset, .unset, .unset, .unset, .unset, .unset, .unset] at_42 rfl ?_
    refine Go.lloadN X0 45 at_44 rfl ?_
    refine Go.bipush X0 47 (24 : Int32) at_45 ?_
    refine Go.lushr X0 48 at_47 ?_
    refine Go.ldcJ X0 51 (hw _ (List.mem_of_getElem? (i := 1) rfl)) at_48 ?_
    refine Go.land X0 52 at_51 ?_
    refine Go.l2i X0 53 at_52 ?_
    refine Go.i2c X0 54 at_53 ?_
    have rx3 : 0 ≤ ((((XT.ushrL j0 (24 : Int32)) &&& (255 : Int64)).toInt32).toUInt32.toUInt16.toUInt32.toInt32).toInt ∧ ¬ 255 < (((XT.ushrL j0 (24 : Int32)) &&& (255 : Int64)).toInt32).toUInt32.toUInt16.toUInt32.toInt32 := own_l255 _
    generalize (((XT.ushrL j0 (24 : Int32)) &&& (255 : Int64)).toInt32).toUInt32.toUInt16.toUInt32.toInt32 = x3 at rx3 ⊢
    refine Go.istore X0 56 #[.val (.long j0), .second, .val (.int i0), .val (.int (1 : Int32)), .val (.int x0), .val (.int x1), .val (.int x2), .val (.int x3), .unset, .unset, .unset, .unset, .unset, .unset, .unset] at_54 rfl ?_
    refine Go.iloadN X0 57 at_56 rfl ?_
    refine Go.bipush X0 59 (16 : Int32) at_57 ?_
    refine Go.iushr X0 60 at_59 ?_
    refine Go.sipush X0 63 (32767 : Int32) at_60 ?_
    refine Go.iand X0 64 at_63 ?_
    refine Go.iconst X0 65 (3 : Int32) at_64 ?_
    refine Go.irem X0 66 at_65 (by decide) ?_
    have hz3 := own_k3 (XT.ushr i0 (16 : Int32))
    generalize (((XT.ushr i0 (16 : Int32)) &&& (32767 : Int32)) % (3 : Int32)) = z3 at hz3 ⊢
    refine Go.istore X0 68 #[.val (.long j0), .second, .val (.int i0), .val (.int (1 : Int32)), .val (.int x0), .val (.int x1), .val (.int x2), .val (.int x3), .val (.int z3), .unset, .unset, .unset, .unset, .unset, .unset] at_66 rfl ?_
    refine Go.iloadN X0 69 at_68 rfl ?_
    refine Go.sipush X0 72 (255 : Int32) at_69 ?_
    refine Go.iand X0 73 at_72 ?_
    refine Go.i2c X0 74 at_73 ?_
    rw [i2c_mask i0]
    have ry0 := own_255 i0
    generalize (i0 &&& (255 : Int32)) = y0 at ry0 ⊢
    refine Go.istore X0 76 #[.val (.long j0), .second, .val (.int i0), .val (.int (1 : Int32)), .val (.int x0), .val (.int x1), .val (.int x2), .val (.int x3), .val (.int z3), .val (.int y0), .unset, .unset, .unset, .unset, .unset] at_74 rfl ?_
    refine Go.iloadN X0 77 at_76 rfl ?_
    refine Go.bipush X0 79 (8 : Int32) at_77 ?_
    refine Go.iushr X0 80 at_79 ?_
    refine Go.sipush X0 83 (255 : Int32) at_80 ?_
    refine Go.iand X0 84 at_83 ?_
    refine Go.i2c X0 85 at_84 ?_
    rw [i2c_mask (XT.ushr i0 (8 : Int32))]
    have ry1 := own_255 (XT.ushr i0 (8 : Int32))
    generalize ((XT.ushr i0 (8 : Int32)) &&& (255 : Int32)) = y1 at ry1 ⊢
    refine Go.istore X0 87 #[.val (.long j0), .second, .val (.int i0), .val (.int (1 : Int32)), .val (.int x0), .val (.int x1), .val (.int x2), .val (.int x3), .val (.int z3), .val (.int y0), .val (.int y1), .unset, .unset, .unset, .unset] at_85 rfl ?_
    refine Go.iloadN X0 88 at_87 rfl ?_
    refine Go.iload X0 90 at_88 rfl ?_
    refine Go.iload X0 92 at_90 rfl ?_
    refine Go.iload X0 94 at_92 rfl ?_
    refine Go.iload X0 96 at_94 rfl ?_
    refine Go.callSW X0 99 hEL ws0 H0 [(.int (1 : Int32)), (.int x0), (.int x1), (.int x2), (.int x3)] [] 0 (hw _ (List.mem_of_getElem? (i := 2) rfl)) (hw _ (List.mem_of_getElem? (i := 3) rfl)) (hw _ (List.mem_of_getElem? (i := 4) rfl)) (by decide) (hw _ (List.mem_of_getElem? (i := 5) rfl)) pd_17 at_96 (rm_t l Z a0 hw h0 cz SC hcz (1 : Int32) x0 x1 x2 x3 (Or.inr (Or.inl rfl)) rx0 rx1 rx2 rx3) rfl rfl rfl (Nat.le_of_eq rfl) (by decide) (by decide) (by decide) (by decide) ?_
    rintro T16 v16 L16 vm16 X16 ws16 R16 ⟨s0, ts0, rfl, Ks0, gs0, Ss0⟩
    show Go p e below _ T16 m 99 #[.val (.long j0), .second, .val (.int i0), .val (.int (1 : Int32)), .val (.int x0), .val (.int x1), .val (.int x2), .val (.int x3), .val (.int z3), .val (.int y0), .val (.int y1), .unset, .unset, .unset, .unset] [(.ref s0)]
    have H1 := R16.1
    have S0 : Str Z T16.heap s0 ts0 1 (own_f4 x0 x1 x2 x3) := Ss0
    refine Go.astore X16 101 #[.val (.long j0), .second, .val (.int i0), .val (.int (1 : Int32)), .val (.int x0), .val (.int x1), .val (.int x2), .val (.int x3), .val (.int z3), .val (.int y0), .val (.int y1), .val (.ref s0), .unset, .unset, .unset] at_99 rfl rfl ?_
    refine Go.iload X16 103 at_101 rfl ?_
    refine Go.iload X16 105 at_103 rfl ?_
    refine Go.iload X16 107 at_105 rfl ?_
    refine Go.callSW X16 110 hEL ws16 H1 [(.int z3), (.int y0), (.int y1)] [] 0 (hw _ (List.mem_of_getElem? (i := 28) rfl)) (hw _ (List.mem_of_getElem? (i := 29) rfl)) (hw _ (List.mem_of_getElem? (i := 4) rfl)) (by decide) (hw _ (List.mem_of_getElem? (i := 30) rfl)) pd_18 at_107 (rm_pu l Z a0 hw T16.heap cz SC hcz z3 y0 y1 hz3 ry0 ry1) rfl rfl rfl (Nat.le_of_eq rfl) (by decide) (by decide) (by decide) (by decide) ?_
    rintro T17 v17 L17 vm17 X17 ws17 R17 ⟨s1, ts1, rfl, Ks1, gs1, Ss1⟩
    show Go p e below _ T17 m 110 #[.val (.long j0), .second, .val (.int i0), .val (.int (1 : Int32)), .val (.int x0), .val (.int x1), .val (.int x2), .val (.int x3), .val (.int z3), .val (.int y0), .val (.int y1), .val (.ref s0), .unset, .unset, .unset] [(.ref s1)]
    have F18 : Str Z T17.heap s0 ts0 1 (own_f4 x0 x1 x2 x3) := S0.keep Ks1 nin0 nin0
    refine Go.astore X17 112 #[.val (.long j0), .second, .val (.int i0), .val (.int (1 : Int32)), .val (.int x0), .val (.int x1), .val (.int x2), .val (.int x3), .val (.int z3), .val (.int y0), .val (.int y1), .val (.ref s0), .val (.ref s1), .unset, .unset] at_110 rfl rfl ?_
    refine Go.iloadN X17 113 at_112 rfl ?_
    refine Go.iconst X17 114 (1 : Int32) at_113 ?_
    refine Go.join X17 (α := Int32) (fun q hJ => T17.heap = hJ ∧ ((q = 1 ∧ ((Al x0 ∨ Pn x0 z3 y0 y1))) ∨ (q = 0 ∧ ¬ ((Al x0 ∨ Pn x0 z3 y0 y1))))) 193 (fun q => #[.val (.long j0), .second, .val (.int i0), .val (.int (1 : Int32)), .val (.int x0), .val (.int x1), .val (.int x2), .val (.int x3), .val (.int z3), .val (.int y0), .val (.int y1), .val (.ref s0), .val (.ref s1), .unset, .unset]) (fun q => [(.int q)]) 12 30 ?_ ?_
    · rintro T19 L19 h19 E0 X19 hp19
      replace hp19 : T17.heap = h19 ∧ ((E0 = 1 ∧ ((Al x0 ∨ Pn x0 z3 y0 y1))) ∨ (E0 = 0 ∧ ¬ ((Al x0 ∨ Pn x0 z3 y0 y1)))) := hp19
      show Go p e below _ T19 m 193 #[.val (.long j0), .second, .val (.int i0), .val (.int (1 : Int32)), .val (.int x0), .val (.int x1), .val (.int x2), .val (.int x3), .val (.int z3), .val (.int y0), .val (.int y1), .val (.ref s0), .val (.ref s1), .unset, .unset] [(.int E0)]
      obtain ⟨he, hE⟩ := hp19
      subst he
      refine Go.istore X19 195 #[.val (.long j0), .second, .val (.int i0), .val (.int (1 : Int32)), .val (.int x0), .val (.int x1), .val (.int x2), .val (.int x3), .val (.int z3), .val (.int y0), .val (.int y1), .val (.ref s0), .val (.ref s1), .val (.int E0), .unset] at_193 rfl ?_
      refine Go.aload X19 197 at_195 rfl rfl ?_
      refine Go.aload X19 199 at_197 rfl rfl ?_
      have fr0 : ∀ j, j < 1 → ¬ 255 < own_f4 x0 x1 x2 x3 j := by
        intro j _
        unfold own_f4
        split
        · exact rx0.2
        · split
          · exact rx1.2
          · split
            · exact rx2.2
            · exact rx3.2
      have fr1 : ∀ j, j < z3.toNatClampNeg → ¬ 255 < own_g2 y0 y1 j := by
        intro j _
        unfold own_g2
        split
        · exact ry0.2
        · exact ry1.2
      have key : (0 < 1 ∧ ∀ j, j < 1 → (Al (own_f4 x0 x1 x2 x3 j) ∨ ∃ i, i < z3.toNatClampNeg ∧ own_g2 y0 y1 i = own_f4 x0 x1 x2 x3 j)) ↔ ((Al x0 ∨ Pn x0 z3 y0 y1)) := by
        constructor
        · rintro ⟨-, q⟩
          exact (q 0 (by decide)).imp id (own_pn hz3).mp
        · intro q
          refine ⟨by decide, fun j hj => ?_⟩
          have : j = 0 := by omega
          rcases this with rfl
          · exact q.imp id (own_pn hz3).mpr
      refine Go.callS X19 202 [(.ref s0), (.ref s1)] [] 0 (hw _ (List.mem_of_getElem? (i := 31) rfl)) (hw _ (List.mem_of_getElem? (i := 32) rfl)) (hw _ (List.mem_of_getElem? (i := 33) rfl)) (by decide) (hw _ (List.mem_of_getElem? (i := 34) rfl)) pd_19 at_199 (rm_a2 l Z a0 hw T17.heap cz SC hcz wf hwf SF s0 ts0 s1 ts1 1 z3.toNatClampNeg (own_f4 x0 x1 x2 x3) (own_g2 y0 y1) F18 Ss1 fr0 fr1) rfl rfl rfl (Nat.le_of_eq rfl) (by decide) (by decide) (by decide) (by decide) ?_
      rintro T20 v20 L20 X20 ⟨hh, ⟨rfl, q1⟩ | ⟨rfl, q1⟩⟩
      · rw [hh] at X20
        rcases hE with ⟨rfl, hC⟩ | ⟨rfl, hC⟩
        · skip
          show Go p e below _ T20 m 202 #[.val (.long j0), .second, .val (.int i0), .val (.int (1 : Int32)), .val (.int x0), .val (.int x1), .val (.int x2), .val (.int x3), .val (.int z3), .val (.int y0), .val (.int y1), .val (.ref s0), .val (.ref s1), .val (.int (1 : Int32)), .unset] [(.int (1 : Int32))]
          refine Go.istore X20 204 #[.val (.long j0), .second, .val (.int i0), .val (.int (1 : Int32)), .val (.int x0), .val (.int x1), .val (.int x2), .val (.int x3), .val (.int z3), .val (.int y0), .val (.int y1), .val (.ref s0), .val (.ref s1), .val (.int (1 : Int32)), .val (.int (1 : Int32))] at_202 rfl ?_
          refine Go.iload X20 206 at_204 rfl ?_
          refine Go.iload X20 208 at_206 rfl ?_
          refine Go.icmpN X20 211 at_208 (XT.ii_ne_f (by decide)) ?_
          refine Go.iconst X20 212 (1 : Int32) at_211 ?_
          refine Go.goto X20 216 at_212 ?_
          exact Go.retI X20 rfl (by simp) rfl at_216 (X20.finL ws17 rfl (by decide) (by decide))
        · skip
          exact absurd (key.mp q1) hC
      · rw [hh] at X20
        rcases hE with ⟨rfl, hC⟩ | ⟨rfl, hC⟩
        · skip
          exact absurd (key.mpr hC) q1
        · skip
          show Go p e below _ T20 m 202 #[.val (.long j0), .second, .val (.int i0), .val (.int (1 : Int32)), .val (.int x0), .val (.int x1), .val (.int x2), .val (.int x3), .val (.int z3), .val (.int y0), .val (.int y1), .val (.ref s0), .val (.ref s1), .val (.int (0 : Int32)), .unset] [(.int (0 : Int32))]
          refine Go.istore X20 204 #[.val (.long j0), .second, .val (.int i0), .val (.int (1 : Int32)), .val (.int x0), .val (.int x1), .val (.int x2), .val (.int x3), .val (.int z3), .val (.int y0), .val (.int y1), .val (.ref s0), .val (.ref s1), .val (.int (0 : Int32)), .val (.int (0 : Int32))] at_202 rfl ?_
          refine Go.iload X20 206 at_204 rfl ?_
          refine Go.iload X20 208 at_206 rfl ?_
          refine Go.icmpN X20 211 at_208 (XT.ii_ne_f (by decide)) ?_
          refine Go.iconst X20 212 (1 : Int32) at_211 ?_
          refine Go.goto X20 216 at_212 ?_
          exact Go.retI X20 rfl (by simp) rfl at_216 (X20.finL ws17 rfl (by decide) (by decide))
    · intro J19
      refine Go.icmpN X17 117 at_114 (XT.ii_lt_f (by decide)) ?_
      refine Go.iload X17 119 at_117 rfl ?_
      refine Go.iload X17 121 at_119 rfl ?_
      refine Go.iload X17 123 at_121 rfl ?_
      refine Go.iload X17 125 at_123 rfl ?_
      refine Go.callS X17 128 [(.int x0), (.int z3), (.int y0), (.int y1)] [] 0 (hw _ (List.mem_of_getElem? (i := 51) rfl)) (hw _ (List.mem_of_getElem? (i := 52) rfl)) (hw _ (List.mem_of_getElem? (i := 4) rfl)) (by decide) (hw _ (List.mem_of_getElem? (i := 53) rfl)) pd_20 at_125 (rm_ok l Z a0 hw T17.heap x0 z3 y0 y1) rfl rfl rfl (Nat.le_of_eq rfl) (by decide) (by decide) (by decide) (by decide) ?_
      rintro T21 v21 L21 X21 ⟨hh, ⟨rfl, o0⟩ | ⟨rfl, o0⟩⟩
      · rw [hh] at X21
        show Go p e below _ T21 m 128 #[.val (.long j0), .second, .val (.int i0), .val (.int (1 : Int32)), .val (.int x0), .val (.int x1), .val (.int x2), .val (.int x3), .val (.int z3), .val (.int y0), .val (.int y1), .val (.ref s0), .val (.ref s1), .unset, .unset] [(.int (1 : Int32))]
        refine Go.if0N X21 131 at_128 (XT.i0_eq_f (by decide)) ?_
        refine Go.iloadN X21 132 at_131 rfl ?_
        refine Go.iconst X21 133 (2 : Int32) at_132 ?_
        refine Go.icmpY X21 150 at_133 (XT.ii_lt_t (by decide)) ?_
        refine Go.iloadN X21 151 at_150 rfl ?_
        refine Go.iconst X21 152 (3 : Int32) at_151 ?_
        refine Go.icmpY X21 169 at_152 (XT.ii_lt_t (by decide)) ?_
        refine Go.iloadN X21 170 at_169 rfl ?_
        refine Go.iconst X21 171 (4 : Int32) at_170 ?_
        refine Go.icmpY X21 188 at_171 (XT.ii_lt_t (by decide)) ?_
        refine Go.iconst X21 189 (1 : Int32) at_188 ?_
        refine Go.goto X21 193 at_189 ?_
        exact J19 _ _ _ (1 : Int32) X21 ⟨rfl, Or.inl ⟨rfl, o0⟩⟩
      · rw [hh] at X21
        show Go p e below _ T21 m 128 #[.val (.long j0), .second, .val (.int i0), .val (.int (1 : Int32)), .val (.int x0), .val (.int x1), .val (.int x2), .val (.int x3), .val (.int z3), .val (.int y0), .val (.int y1), .val (.ref s0), .val (.ref s1), .unset, .unset] [(.int (0 : Int32))]
        refine Go.if0Y X21 192 at_128 (XT.i0_eq_t (by decide)) ?_
        refine Go.iconst X21 193 (0 : Int32) at_192 ?_
        exact J19 _ _ _ (0 : Int32) X21 ⟨rfl, Or.inr ⟨rfl, fun q => o0 q⟩⟩
  · rw [hk]
    refine Go.istoreN X0 11 #[.val (.long j0), .second, .val (.int i0), .val (.int (2 : Int32)), .unset, .unset, .unset, .unset, .unset, .unset, .unset, .unset, .unset, .unset, .unset] at_10 rfl ?_
    refine Go.lloadN X0 12 at_11 rfl ?_
    refine Go.ldcJ X0 15 (hw _ (List.mem_of_getElem? (i := 1) rfl)) at_12 ?_
    refine Go.land X0 16 at_15 ?_
    refine Go.l2i X0 17 at_16 ?_
    refine Go.i2c X0 18 at_17 ?_
    have rx0 : 0 ≤ (((j0 &&& (255 : Int64)).toInt32).toUInt32.toUInt16.toUInt32.toInt32).toInt ∧ ¬ 255 < ((j0 &&& (255 : Int64)).toInt32).toUInt32.toUInt16.toUInt32.toInt32 := own_l255 _
    generalize ((j0 &&& (255 : Int64)).toInt32).toUInt32.toUInt16.toUInt32.toInt32 = x0 at rx0 ⊢
    refine Go.istore X0 20 #[.val (.long j0), .second, .val (.int i0), .val (.int (2 : Int32)), .val (.int x0), .unset, .unset, .unset, .unset, .unset, .unset, .unset, .unset, .unset, .unset] at_18 rfl ?_
    refine Go.lloadN X0 21 at_20 rfl ?_
    refine Go.bipush X0 23 (8 : Int32) at_21 ?_
    refine Go.lushr X0 24 at_23 ?_
    refine Go.ldcJ X0 27 (hw _ (List.mem_of_getElem? (i := 1) rfl)) at_24 ?_
    refine Go.land X0 28 at_27 ?_
    refine Go.l2i X0 29 at_28 ?_
    refine Go.i2c X0 30 at_29 ?_
    have rx1 : 0 ≤ ((((XT.ushrL j0 (8 : Int32)) &&& (255 : Int64)).toInt32).toUInt32.toUInt16.toUInt32.toInt32).toInt ∧ ¬ 255 < (((XT.ushrL j0 (8 : Int32)) &&& (255 : Int64)).toInt32).toUInt32.toUInt16.toUInt32.toInt32 := own_l255 _
    generalize (((XT.ushrL j0 (8 : Int32)) &&& (255 : Int64)).toInt32).toUInt32.toUInt16.toUInt32.toInt32 = x1 at rx1 ⊢
    refine Go.istore X0 32 #[.val (.long j0), .second, .val (.int i0), .val (.int (2 : Int32)), .val (.int x0), .val (.int x1), .unset, .unset, .unset, .unset, .unset, .unset, .unset, .unset, .unset] at_30 rfl ?_
    refine Go.lloadN X0 33 at_32 rfl ?_
    refine Go.bipush X0 35 (16 : Int32) at_33 ?_
    refine Go.lushr X0 36 at_35 ?_
    refine Go.ldcJ X0 39 (hw _ (List.mem_of_getElem? (i := 1) rfl)) at_36 ?_
    refine Go.land X0 40 at_39 ?_
    refine Go.l2i X0 41 at_40 ?_
    refine Go.i2c X0 42 at_41 ?_
    have rx2 : 0 ≤ ((((XT.ushrL j0 (16 : Int32)) &&& (255 : Int64)).toInt32).toUInt32.toUInt16.toUInt32.toInt32).toInt ∧ ¬ 255 < (((XT.ushrL j0 (16 : Int32)) &&& (255 : Int64)).toInt32).toUInt32.toUInt16.toUInt32.toInt32 := own_l255 _
    generalize (((XT.ushrL j0 (16 : Int32)) &&& (255 : Int64)).toInt32).toUInt32.toUInt16.toUInt32.toInt32 = x2 at rx2 ⊢
    refine Go.istore X0 44 #[.val (.long j0), .second, .val (.int i0), .val (.int (2 : Int32)), .val (.int x0), .val (.int x1), .val (.int x2), .unset, .unset, .unset, .unset, .unset, .unset, .unset, .unset] at_42 rfl ?_
    refine Go.lloadN X0 45 at_44 rfl ?_
    refine Go.bipush X0 47 (24 : Int32) at_45 ?_
    refine Go.lushr X0 48 at_47 ?_
    refine Go.ldcJ X0 51 (hw _ (List.mem_of_getElem? (i := 1) rfl)) at_48 ?_
    refine Go.land X0 52 at_51 ?_
    refine Go.l2i X0 53 at_52 ?_
    refine Go.i2c X0 54 at_53 ?_
    have rx3 : 0 ≤ ((((XT.ushrL j0 (24 : Int32)) &&& (255 : Int64)).toInt32).toUInt32.toUInt16.toUInt32.toInt32).toInt ∧ ¬ 255 < (((XT.ushrL j0 (24 : Int32)) &&& (255 : Int64)).toInt32).toUInt32.toUInt16.toUInt32.toInt32 := own_l255 _
    generalize (((XT.ushrL j0 (24 : Int32)) &&& (255 : Int64)).toInt32).toUInt32.toUInt16.toUInt32.toInt32 = x3 at rx3 ⊢
    refine Go.istore X0 56 #[.val (.long j0), .second, .val (.int i0), .val (.int (2 : Int32)), .val (.int x0), .val (.int x1), .val (.int x2), .val (.int x3), .unset, .unset, .unset, .unset, .unset, .unset, .unset] at_54 rfl ?_
    refine Go.iloadN X0 57 at_56 rfl ?_
    refine Go.bipush X0 59 (16 : Int32) at_57 ?_
    refine Go.iushr X0 60 at_59 ?_
    refine Go.sipush X0 63 (32767 : Int32) at_60 ?_
    refine Go.iand X0 64 at_63 ?_
    refine Go.iconst X0 65 (3 : Int32) at_64 ?_
    refine Go.irem X0 66 at_65 (by decide) ?_
    have hz3 := own_k3 (XT.ushr i0 (16 : Int32))
    generalize (((XT.ushr i0 (16 : Int32)) &&& (32767 : Int32)) % (3 : Int32)) = z3 at hz3 ⊢
    refine Go.istore X0 68 #[.val (.long j0), .second, .val (.int i0), .val (.int (2 : Int32)), .val (.int x0), .val (.int x1), .val (.int x2), .val (.int x3), .val (.int z3), .unset, .unset, .unset, .unset, .unset, .unset] at_66 rfl ?_
    refine Go.iloadN X0 69 at_68 rfl ?_
    refine Go.sipush X0 72 (255 : Int32) at_69 ?_
    refine Go.iand X0 73 at_72 ?_
    refine Go.i2c X0 74 at_73 ?_
    rw [i2c_mask i0]
    have ry0 := own_255 i0
    generalize (i0 &&& (255 : Int32)) = y0 at ry0 ⊢
    refine Go.istore X0 76 #[.val (.long j0), .second, .val (.int i0), .val (.int (2 : Int32)), .val (.int x0), .val (.int x1), .val (.int x2), .val (.int x3), .val (.int z3), .val (.int y0), .unset, .unset, .unset, .unset, .unset] at_74 rfl ?_
    refine Go.iloadN X0 77 at_76 rfl ?_
    refine Go.bipush X0 79 (8 : Int32) at_77 ?_
    refine Go.iushr X0 80 at_79 ?_
    refine Go.sipush X0 83 (255 : Int32) at_80 ?_
    refine Go.iand X0 84 at_83 ?_
    refine Go.i2c X0 85 at_84 ?_
    rw [i2c_mask (XT.ushr i0 (8 : Int32))]
    have ry1 := own_255 (XT.ushr i0 (8 : Int32))
    generalize ((XT.ushr i0 (8 : Int32)) &&& (255 : Int32)) = y1 at ry1 ⊢
    refine Go.istore X0 87 #[.val (.long j0), .second, .val (.int i0), .val (.int (2 : Int32)), .val (.int x0), .val (.int x1), .val (.int x2), .val (.int x3), .val (.int z3), .val (.int y0), .val (.int y1), .unset, .unset, .unset, .unset] at_85 rfl ?_
    refine Go.iloadN X0 88 at_87 rfl ?_
    refine Go.iload X0 90 at_88 rfl ?_
    refine Go.iload X0 92 at_90 rfl ?_
    refine Go.iload X0 94 at_92 rfl ?_
    refine Go.iload X0 96 at_94 rfl ?_
    refine Go.callSW X0 99 hEL ws0 H0 [(.int (2 : Int32)), (.int x0), (.int x1), (.int x2), (.int x3)] [] 0 (hw _ (List.mem_of_getElem? (i := 2) rfl)) (hw _ (List.mem_of_getElem? (i := 3) rfl)) (hw _ (List.mem_of_getElem? (i := 4) rfl)) (by decide) (hw _ (List.mem_of_getElem? (i := 5) rfl)) pd_17 at_96 (rm_t l Z a0 hw h0 cz SC hcz (2 : Int32) x0 x1 x2 x3 (Or.inr (Or.inr (Or.inl rfl))) rx0 rx1 rx2 rx3) rfl rfl rfl (Nat.le_of_eq rfl) (by decide) (by decide) (by decide) (by decide) ?_
    rintro T22 v22 L22 vm22 X22 ws22 R22 ⟨s0, ts0, rfl, Ks0, gs0, Ss0⟩
    show Go p e below _ T22 m 99 #[.val (.long j0), .second, .val (.int i0), .val (.int (2 : Int32)), .val (.int x0), .val (.int x1), .val (.int x2), .val (.int x3), .val (.int z3), .val (.int y0), .val (.int y1), .unset, .unset, .unset, .unset] [(.ref s0)]
    have H1 := R22.1
    have S0 : Str Z T22.heap s0 ts0 2 (own_f4 x0 x1 x2 x3) := Ss0
    refine Go.astore X22 101 #[.val (.long j0), .second, .val (.int i0), .val (.int (2 : Int32)), .val (.int x0), .val (.int x1), .val (.int x2), .val (.int x3), .val (.int z3), .val (.int y0), .val (.int y1), .val (.ref s0), .unset, .unset, .unset] at_99 rfl rfl ?_
    refine Go.iload X22 103 at_101 rfl ?_
    refine Go.iload X22 105 at_103 rfl ?_
    refine Go.iload X22 107 at_105 rfl ?_
    refine Go.callSW X22 110 hEL ws22 H1 [(.int z3), (.int y0), (.int y1)] [] 0 (hw _ (List.mem_of_getElem? (i := 28) rfl)) (hw _ (List.mem_of_getElem? (i := 29) rfl)) (hw _ (List.mem_of_getElem? (i := 4) rfl)) (by decide) (hw _ (List.mem_of_getElem? (i := 30) rfl)) pd_18 at_107 (rm_pu l Z a0 hw T22.heap cz SC hcz z3 y0 y1 hz3 ry0 ry1) rfl rfl rfl (Nat.le_of_eq rfl) (by decide) (by decide) (by decide) (by decide) ?_
    rintro T23 v23 L23 vm23 X23 ws23 R23 ⟨s1, ts1, rfl, Ks1, gs1, Ss1⟩
    show Go p e below _ T23 m 110 #[.val (.long j0), .second, .val (.int i0), .val (.int (2 : Int32)), .val (.int x0), .val (.int x1), .val (.int x2), .val (.int x3), .val (.int z3), .val (.int y0), .val (.int y1), .val (.ref s0), .unset, .unset, .unset] [(.ref s1)]
    have F24 : Str Z T23.heap s0 ts0 2 (own_f4 x0 x1 x2 x3) := S0.keep Ks1 nin0 nin0
    refine Go.astore X23 112 #[.val (.long j0), .second, .val (.int i0), .val (.int (2 : Int32)), .val (.int x0), .val (.int x1), .val (.int x2), .val (.int x3), .val (.int z3), .val (.int y0), .val (.int y1), .val (.ref s0), .val (.ref s1), .unset, .unset] at_110 rfl rfl ?_
    refine Go.iloadN X23 113 at_112 rfl ?_
    refine Go.iconst X23 114 (1 : Int32) at_113 ?_
    refine Go.join X23 (α := Int32) (fun q hJ => T23.heap = hJ ∧ ((q = 1 ∧ ((Al x0 ∨ Pn x0 z3 y0 y1) ∧ (Al x1 ∨ Pn x1 z3 y0 y1))) ∨ (q = 0 ∧ ¬ ((Al x0 ∨ Pn x0 z3 y0 y1) ∧ (Al x1 ∨ Pn x1 z3 y0 y1))))) 193 (fun q => #[.val (.long j0), .second, .val (.int i0), .val (.int (2 : Int32)), .val (.int x0), .val (.int x1), .val (.int x2), .val (.int x3), .val (.int z3), .val (.int y0), .val (.int y1), .val (.ref s0), .val (.ref s1), .unset, .unset]) (fun q => [(.int q)]) 12 30 ?_ ?_
    · rintro T25 L25 h25 E0 X25 hp25
      replace hp25 : T23.heap = h25 ∧ ((E0 = 1 ∧ ((Al x0 ∨ Pn x0 z3 y0 y1) ∧ (Al x1 ∨ Pn x1 z3 y0 y1))) ∨ (E0 = 0 ∧ ¬ ((Al x0 ∨ Pn x0 z3 y0 y1) ∧ (Al x1 ∨ Pn x1 z3 y0 y1)))) := hp25
      show Go p e below _ T25 m 193 #[.val (.long j0), .second, .val (.int i0), .val (.int (2 : Int32)), .val (.int x0), .val (.int x1), .val (.int x2), .val (.int x3), .val (.int z3), .val (.int y0), .val (.int y1), .val (.ref s0), .val (.ref s1), .unset, .unset] [(.int E0)]
      obtain ⟨he, hE⟩ := hp25
      subst he
      refine Go.istore X25 195 #[.val (.long j0), .second, .val (.int i0), .val (.int (2 : Int32)), .val (.int x0), .val (.int x1), .val (.int x2), .val (.int x3), .val (.int z3), .val (.int y0), .val (.int y1), .val (.ref s0), .val (.ref s1), .val (.int E0), .unset] at_193 rfl ?_
      refine Go.aload X25 197 at_195 rfl rfl ?_
      refine Go.aload X25 199 at_197 rfl rfl ?_
      have fr0 : ∀ j, j < 2 → ¬ 255 < own_f4 x0 x1 x2 x3 j := by
        intro j _
        unfold own_f4
        split
        · exact rx0.2
        · split
          · exact rx1.2
          · split
            · exact rx2.2
            · exact rx3.2
      have fr1 : ∀ j, j < z3.toNatClampNeg → ¬ 255 < own_g2 y0 y1 j := by
        intro j _
        unfold own_g2
        split
        · exact ry0.2
        · exact ry1.2
      have key : (0 < 2 ∧ ∀ j, j < 2 → (Al (own_f4 x0 x1 x2 x3 j) ∨ ∃ i, i < z3.toNatClampNeg ∧ own_g2 y0 y1 i = own_f4 x0 x1 x2 x3 j)) ↔ ((Al x0 ∨ Pn x0 z3 y0 y1) ∧ (Al x1 ∨ Pn x1 z3 y0 y1)) := by
        constructor
        · rintro ⟨-, q⟩
          exact ⟨(q 0 (by decide)).imp id (own_pn hz3).mp, (q 1 (by decide)).imp id (own_pn hz3).mp⟩
        · intro q
          refine ⟨by decide, fun j hj => ?_⟩
          have : j = 0 ∨ j = 1 := by omega
          rcases this with rfl | rfl
          · exact q.1.imp id (own_pn hz3).mpr
          · exact q.2.imp id (own_pn hz3).mpr
      refine Go.callS X25 202 [(.ref s0), (.ref s1)] [] 0 (hw _ (List.mem_of_getElem? (i := 31) rfl)) (hw _ (List.mem_of_getElem? (i := 32) rfl)) (hw _ (List.mem_of_getElem? (i := 33) rfl)) (by decide) (hw _ (List.mem_of_getElem? (i := 34) rfl)) pd_19 at_199 (rm_a2 l Z a0 hw T23.heap cz SC hcz wf hwf SF s0 ts0 s1 ts1 2 z3.toNatClampNeg (own_f4 x0 x1 x2 x3) (own_g2 y0 y1) F24 Ss1 fr0 fr1) rfl rfl rfl (Nat.le_of_eq rfl) (by decide) (by decide) (by decide) (by decide) ?_
      rintro T26 v26 L26 X26 ⟨hh, ⟨rfl, q1⟩ | ⟨rfl, q1⟩⟩
      · rw [hh] at X26
        rcases hE with ⟨rfl, hC⟩ | ⟨rfl, hC⟩
        · skip
          show Go p e below _ T26 m 202 #[.val (.long j0), .second, .val (.int i0), .val (.int (2 : Int32)), .val (.int x0), .val (.int x1), .val (.int x2), .val (.int x3), .val (.int z3), .val (.int y0), .val (.int y1), .val (.ref s0), .val (.ref s1), .val (.int (1 : Int32)), .unset] [(.int (1 : Int32))]
          refine Go.istore X26 204 #[.val (.long j0), .second, .val (.int i0), .val (.int (2 : Int32)), .val (.int x0), .val (.int x1), .val (.int x2), .val (.int x3), .val (.int z3), .val (.int y0), .val (.int y1), .val (.ref s0), .val (.ref s1), .val (.int (1 : Int32)), .val (.int (1 : Int32))] at_202 rfl ?_
          refine Go.iload X26 206 at_204 rfl ?_
          refine Go.iload X26 208 at_206 rfl ?_
          refine Go.icmpN X26 211 at_208 (XT.ii_ne_f (by decide)) ?_
          refine Go.iconst X26 212 (1 : Int32) at_211 ?_
          refine Go.goto X26 216 at_212 ?_
          exact Go.retI X26 rfl (by simp) rfl at_216 (X26.finL ws23 rfl (by decide) (by decide))
        · skip
          exact absurd (key.mp q1) hC
      · rw [hh] at X26
        rcases hE with ⟨rfl, hC⟩ | ⟨rfl, hC⟩
        · skip
          exact absurd (key.mpr hC) q1
        · skip
          show Go p e below _ T26 m 202 #[.val (.long j0), .second, .val (.int i0), .val (.int (2 : Int32)), .val (.int x0), .val (.int x1), .val (.int x2), .val (.int x3), .val (.int z3), .val (.int y0), .val (.int y1), .val (.ref s0), .val (.ref s1), .val (.int (0 : Int32)), .unset] [(.int (0 : Int32))]
          refine Go.istore X26 204 #[.val (.long j0), .second, .val (.int i0), .val (.int (2 : Int32)), .val (.int x0), .val (.int x1), .val (.int x2), .val (.int x3), .val (.int z3), .val (.int y0), .val (.int y1), .val (.ref s0), .val (.ref s1), .val (.int (0 : Int32)), .val (.int (0 : Int32))] at_202 rfl ?_
          refine Go.iload X26 206 at_204 rfl ?_
          refine Go.iload X26 208 at_206 rfl ?_
          refine Go.icmpN X26 211 at_208 (XT.ii_ne_f (by decide)) ?_
          refine Go.iconst X26 212 (1 : Int32) at_211 ?_
          refine Go.goto X26 216 at_212 ?_
          exact Go.retI X26 rfl (by simp) rfl at_216 (X26.finL ws23 rfl (by decide) (by decide))
    · intro J25
      refine Go.icmpN X23 117 at_114 (XT.ii_lt_f (by decide)) ?_
      refine Go.iload X23 119 at_117 rfl ?_
      refine Go.iload X23 121 at_119 rfl ?_
      refine Go.iload X23 123 at_121 rfl ?_
      refine Go.iload X23 125 at_123 rfl ?_
      refine Go.callS X23 128 [(.int x0), (.int z3), (.int y0), (.int y1)] [] 0 (hw _ (List.mem_of_getElem? (i := 51) rfl)) (hw _ (List.mem_of_getElem? (i := 52) rfl)) (hw _ (List.mem_of_getElem? (i := 4) rfl)) (by decide) (hw _ (List.mem_of_getElem? (i := 53) rfl)) pd_20 at_125 (rm_ok l Z a0 hw T23.heap x0 z3 y0 y1) rfl rfl rfl (Nat.le_of_eq rfl) (by decide) (by decide) (by decide) (by decide) ?_
      rintro T27 v27 L27 X27 ⟨hh, ⟨rfl, o0⟩ | ⟨rfl, o0⟩⟩
      · rw [hh] at X27
        show Go p e below _ T27 m 128 #[.val (.long j0), .second, .val (.int i0), .val (.int (2 : Int32)), .val (.int x0), .val (.int x1), .val (.int x2), .val (.int x3), .val (.int z3), .val (.int y0), .val (.int y1), .val (.ref s0), .val (.ref s1), .unset, .unset] [(.int (1 : Int32))]
        refine Go.if0N X27 131 at_128 (XT.i0_eq_f (by decide)) ?_
        refine Go.iloadN X27 132 at_131 rfl ?_
        refine Go.iconst X27 133 (2 : Int32) at_132 ?_
        refine Go.icmpN X27 136 at_133 (XT.ii_lt_f (by decide)) ?_
        refine Go.iload X27 138 at_136 rfl ?_
        refine Go.iload X27 140 at_138 rfl ?_
        refine Go.iload X27 142 at_140 rfl ?_
        refine Go.iload X27 144 at_142 rfl ?_
        refine Go.callS X27 147 [(.int x1), (.int z3), (.int y0), (.int y1)] [] 0 (hw _ (List.mem_of_getElem? (i := 51) rfl)) (hw _ (List.mem_of_getElem? (i := 52) rfl)) (hw _ (List.mem_of_getElem? (i := 4) rfl)) (by decide) (hw _ (List.mem_of_getElem? (i := 53) rfl)) pd_20 at_144 (rm_ok l Z a0 hw T23.heap x1 z3 y0 y1) rfl rfl rfl (Nat.le_of_eq rfl) (by decide) (by decide) (by decide) (by decide) ?_
        rintro T28 v28 L28 X28 ⟨hh, ⟨rfl, o1⟩ | ⟨rfl, o1⟩⟩
        · rw [hh] at X28
          show Go p e below _ T28 m 147 #[.val (.long j0), .second, .val (.int i0), .val (.int (2 : Int32)), .val (.int x0), .val (.int x1), .val (.int x2), .val (.int x3), .val (.int z3), .val (.int y0), .val (.int y1), .val (.ref s0), .val (.ref s1), .unset, .unset] [(.int (1 : Int32))]
          refine Go.if0N X28 150 at_147 (XT.i0_eq_f (by decide)) ?_
          refine Go.iloadN X28 151 at_150 rfl ?_
          refine Go.iconst X28 152 (3 : Int32) at_151 ?_
          refine Go.icmpY X28 169 at_152 (XT.ii_lt_t (by decide)) ?_
          refine Go.iloadN X28 170 at_169 rfl ?_
          refine Go.iconst X28 171 (4 : Int32) at_170 ?_
          refine Go.icmpY X28 188 at_171 (XT.ii_lt_t (by decide)) ?_
          refine Go.iconst X28 189 (1 : Int32) at_188 ?_
          refine Go.goto X28 193 at_189 ?_
          exact J25 _ _ _ (1 : Int32) X28 ⟨rfl, Or.inl ⟨rfl, ⟨o0, o1⟩⟩⟩
        · rw [hh] at X28
          show Go p e below _ T28 m 147 #[.val (.long j0), .second, .val (.int i0), .val (.int (2 : Int32)), .val (.int x0), .val (.int x1), .val (.int x2), .val (.int x3), .val (.int z3), .val (.int y0), .val (.int y1), .val (.ref s0), .val (.ref s1), .unset, .unset] [(.int (0 : Int32))]
          refine Go.if0Y X28 192 at_147 (XT.i0_eq_t (by decide)) ?_
          refine Go.iconst X28 193 (0 : Int32) at_192 ?_
          exact J25 _ _ _ (0 : Int32) X28 ⟨rfl, Or.inr ⟨rfl, fun q => o1 q.2⟩⟩
      · rw [hh] at X27
        show Go p e below _ T27 m 128 #[.val (.long j0), .second, .val (.int i0), .val (.int (2 : Int32)), .val (.int x0), .val (.int x1), .val (.int x2), .val (.int x3), .val (.int z3), .val (.int y0), .val (.int y1), .val (.ref s0), .val (.ref s1), .unset, .unset] [(.int (0 : Int32))]
        refine Go.if0Y X27 192 at_128 (XT.i0_eq_t (by decide)) ?_
        refine Go.iconst X27 193 (0 : Int32) at_192 ?_
        exact J25 _ _ _ (0 : Int32) X27 ⟨rfl, Or.inr ⟨rfl, fun q => o0 q.1⟩⟩
  · rw [hk]
    refine Go.istoreN X0 11 #[.val (.long j0), .second, .val (.int i0), .val (.int (3 : Int32)), .unset, .unset, .unset, .unset, .unset, .unset, .unset, .unset, .unset, .unset, .unset] at_10 rfl ?_
    refine Go.lloadN X0 12 at_11 rfl ?_
    refine Go.ldcJ X0 15 (hw _ (List.mem_of_getElem? (i := 1) rfl)) at_12 ?_
    refine Go.land X0 16 at_15 ?_
    refine Go.l2i X0 17 at_16 ?_
    refine Go.i2c X0 18 at_17 ?_
    have rx0 : 0 ≤ (((j0 &&& (255 : Int64)).toInt32).toUInt32.toUInt16.toUInt32.toInt32).toInt ∧ ¬ 255 < ((j0 &&& (255 : Int64)).toInt32).toUInt32.toUInt16.toUInt32.toInt32 := own_l255 _
    generalize ((j0 &&& (255 : Int64)).toInt32).toUInt32.toUInt16.toUInt32.toInt32 = x0 at rx0 ⊢
    refine Go.istore X0 20 #[.val (.long j0), .second, .val (.int i0), .val (.int (3 : Int32)), .val (.int x0), .unset, .unset, .unset, .unset, .unset, .unset, .unset, .unset, .unset, .unset] at_18 rfl ?_
    refine Go.lloadN X0 21 at_20 rfl ?_
    refine Go.bipush X0 23 (8 : Int32) at_21 ?_
    refine Go.lushr X0 24 at_23 ?_
    refine Go.ldcJ X0 27 (hw _ (List.mem_of_getElem? (i := 1) rfl)) at_24 ?_
    refine Go.land X0 28 at_27 ?_
    refine Go.l2i X0 29 at_28 ?_
    refine Go.i2c X0 30 at_29 ?_
    have rx1 : 0 ≤ ((((XT.ushrL j0 (8 : Int32)) &&& (255 : Int64)).toInt32).toUInt32.toUInt16.toUInt32.toInt32).toInt ∧ ¬ 255 < (((XT.ushrL j0 (8 : Int32)) &&& (255 : Int64)).toInt32).toUInt32.toUInt16.toUInt32.toInt32 := own_l255 _
    generalize (((XT.ushrL j0 (8 : Int32)) &&& (255 : Int64)).toInt32).toUInt32.toUInt16.toUInt32.toInt32 = x1 at rx1 ⊢
    refine Go.istore X0 32 #[.val (.long j0), .second, .val (.int i0), .val (.int (3 : Int32)), .val (.int x0), .val (.int x1), .unset, .unset, .unset, .unset, .unset, .unset, .unset, .unset, .unset] at_30 rfl ?_
    refine Go.lloadN X0 33 at_32 rfl ?_
    refine Go.bipush X0 35 (16 : Int32) at_33 ?_
    refine Go.lushr X0 36 at_35 ?_
    refine Go.ldcJ X0 39 (hw _ (List.mem_of_getElem? (i := 1) rfl)) at_36 ?_
    refine Go.land X0 40 at_39 ?_
    refine Go.l2i X0 41 at_40 ?_
    refine Go.i2c X0 42 at_41 ?_
    have rx2 : 0 ≤ ((((XT.ushrL j0 (16 : Int32)) &&& (255 : Int64)).toInt32).toUInt32.toUInt16.toUInt32.toInt32).toInt ∧ ¬ 255 < (((XT.ushrL j0 (16 : Int32)) &&& (255 : Int64)).toInt32).toUInt32.toUInt16.toUInt32.toInt32 := own_l255 _
    generalize (((XT.ushrL j0 (16 : Int32)) &&& (255 : Int64)).toInt32).toUInt32.toUInt16.toUInt32.toInt32 = x2 at rx2 ⊢
    refine Go.istore X0 44 #[.val (.long j0), .second, .val (.int i0), .val (.int (3 : Int32)), .val (.int x0), .val (.int x1), .val (.int x2), .unset, .unset, .unset, .unset, .unset, .unset, .unset, .unset] at_42 rfl ?_
    refine Go.lloadN X0 45 at_44 rfl ?_
    refine Go.bipush X0 47 (24 : Int32) at_45 ?_
    refine Go.lushr X0 48 at_47 ?_
    refine Go.ldcJ X0 51 (hw _ (List.mem_of_getElem? (i := 1) rfl)) at_48 ?_
    refine Go.land X0 52 at_51 ?_
    refine Go.l2i X0 53 at_52 ?_
    refine Go.i2c X0 54 at_53 ?_
    have rx3 : 0 ≤ ((((XT.ushrL j0 (24 : Int32)) &&& (255 : Int64)).toInt32).toUInt32.toUInt16.toUInt32.toInt32).toInt ∧ ¬ 255 < (((XT.ushrL j0 (24 : Int32)) &&& (255 : Int64)).toInt32).toUInt32.toUInt16.toUInt32.toInt32 := own_l255 _
    generalize (((XT.ushrL j0 (24 : Int32)) &&& (255 : Int64)).toInt32).toUInt32.toUInt16.toUInt32.toInt32 = x3 at rx3 ⊢
    refine Go.istore X0 56 #[.val (.long j0), .second, .val (.int i0), .val (.int (3 : Int32)), .val (.int x0), .val (.int x1), .val (.int x2), .val (.int x3), .unset, .unset, .unset, .unset, .unset, .unset, .unset] at_54 rfl ?_
    refine Go.iloadN X0 57 at_56 rfl ?_
    refine Go.bipush X0 59 (16 : Int32) at_57 ?_
    refine Go.iushr X0 60 at_59 ?_
    refine Go.sipush X0 63 (32767 : Int32) at_60 ?_
    refine Go.iand X0 64 at_63 ?_
    refine Go.iconst X0 65 (3 : Int32) at_64 ?_
    refine Go.irem X0 66 at_65 (by decide) ?_
    have hz3 := own_k3 (XT.ushr i0 (16 : Int32))
    generalize (((XT.ushr i0 (16 : Int32)) &&& (32767 : Int32)) % (3 : Int32)) = z3 at hz3 ⊢
    refine Go.istore X0 68 #[.val (.long j0), .second, .val (.int i0), .val (.int (3 : Int32)), .val (.int x0), .val (.int x1), .val (.int x2), .val (.int x3), .val (.int z3), .unset, .unset, .unset, .unset, .unset, .unset] at_66 rfl ?_
    refine Go.iloadN X0 69 at_68 rfl ?_
    refine Go.sipush X0 72 (255 : Int32) at_69 ?_
    refine Go.iand X0 73 at_72 ?_
    refine Go.i2c X0 74 at_73 ?_
    rw [i2c_mask i0]
    have ry0 := own_255 i0
    generalize (i0 &&& (255 : Int32)) = y0 at ry0 ⊢
    refine Go.istore X0 76 #[.val (.long j0), .second, .val (.int i0), .val (.int (3 : Int32)), .val (.int x0), .val (.int x1), .val (.int x2), .val (.int x3), .val (.int z3), .val (.int y0), .unset, .unset, .unset, .unset, .unset] at_74 rfl ?_
    refine Go.iloadN X0 77 at_76 rfl ?_
    refine Go.bipush X0 79 (8 : Int32) at_77 ?_
    refine Go.iushr X0 80 at_79 ?_
    refine Go.sipush X0 83 (255 : Int32) at_80 ?_
    refine Go.iand X0 84 at_83 ?_
    refine Go.i2c X0 85 at_84 ?_
    rw [i2c_mask (XT.ushr i0 (8 : Int32))]
    have ry1 := own_255 (XT.ushr i0 (8 : Int32))
    generalize ((XT.ushr i0 (8 : Int32)) &&& (255 : Int32)) = y1 at ry1 ⊢
    refine Go.istore X0 87 #[.val (.long j0), .second, .val (.int i0), .val (.int (3 : Int32)), .val (.int x0), .val (.int x1), .val (.int x2), .val (.int x3), .val (.int z3), .val (.int y0), .val (.int y1), .unset, .unset, .unset, .unset] at_85 rfl ?_
    refine Go.iloadN X0 88 at_87 rfl ?_
    refine Go.iload X0 90 at_88 rfl ?_
    refine Go.iload X0 92 at_90 rfl ?_
    refine Go.iload X0 94 at_92 rfl ?_
    refine Go.iload X0 96 at_94 rfl ?_
    refine Go.callSW X0 99 hEL ws0 H0 [(.int (3 : Int32)), (.int x0), (.int x1), (.int x2), (.int x3)] [] 0 (hw _ (List.mem_of_getElem? (i := 2) rfl)) (hw _ (List.mem_of_getElem? (i := 3) rfl)) (hw _ (List.mem_of_getElem? (i := 4) rfl)) (by decide) (hw _ (List.mem_of_getElem? (i := 5) rfl)) pd_17 at_96 (rm_t l Z a0 hw h0 cz SC hcz (3 : Int32) x0 x1 x2 x3 (Or.inr (Or.inr (Or.inr (Or.inl rfl)))) rx0 rx1 rx2 rx3) rfl rfl rfl (Nat.le_of_eq rfl) (by decide) (by decide) (by decide) (by decide) ?_
    rintro T29 v29 L29 vm29 X29 ws29 R29 ⟨s0, ts0, rfl, Ks0, gs0, Ss0⟩
    show Go p e below _ T29 m 99 #[.val (.long j0), .second, .val (.int i0), .val (.int (3 : Int32)), .val (.int x0), .val (.int x1), .val (.int x2), .val (.int x3), .val (.int z3), .val (.int y0), .val (.int y1), .unset, .unset, .unset, .unset] [(.ref s0)]
    have H1 := R29.1
    have S0 : Str Z T29.heap s0 ts0 3 (own_f4 x0 x1 x2 x3) := Ss0
    refine Go.astore X29 101 #[.val (.long j0), .second, .val (.int i0), .val (.int (3 : Int32)), .val (.int x0), .val (.int x1), .val (.int x2), .val (.int x3), .val (.int z3), .val (.int y0), .val (.int y1), .val (.ref s0), .unset, .unset, .unset] at_99 rfl rfl ?_
    refine Go.iload X29 103 at_101 rfl ?_
    refine Go.iload X29 105 at_103 rfl ?_
    refine Go.iload X29 107 at_105 rfl ?_
    refine Go.callSW X29 110 hEL ws29 H1 [(.int z3), (.int y0), (.int y1)] [] 0 (hw _ (List.mem_of_getElem? (i := 28) rfl)) (hw _ (List.mem_of_getElem? (i := 29) rfl)) (hw _ (List.mem_of_getElem? (i := 4) rfl)) (by decide) (hw _ (List.mem_of_getElem? (i := 30) rfl)) pd_18 at_107 (rm_pu l Z a0 hw T29.heap cz SC hcz z3 y0 y1 hz3 ry0 ry1) rfl rfl rfl (Nat.le_of_eq rfl) (by decide) (by decide) (by decide) (by decide) ?_
    rintro T30 v30 L30 vm30 X30 ws30 R30 ⟨s1, ts1, rfl, Ks1, gs1, Ss1⟩
    show Go p e below _ T30 m 110 #[.val (.long j0), .second, .val (.int i0), .val (.int (3 : Int32)), .val (.int x0), .val (.int x1), .val (.int x2), .val (.int x3), .val (.int z3), .val (.int y0), .val (.int y1), .val (.ref s0), .unset, .unset, .unset] [(.ref s1)]
    have F31 : Str Z T30.heap s0 ts0 3 (own_f4 x0 x1 x2 x3) := S0.keep Ks1 nin0 nin0
    refine Go.astore X30 112 #[.val (.long j0), .second, .val (.int i0), .val (.int (3 : Int32)), .val (.int x0), .val (.int x1), .val (.int x2), .val (.int x3), .val (.int z3), .val (.int y0), .val (.int y1), .val (.ref s0), .val (.ref s1), .unset, .unset] at_110 rfl rfl ?_
    refine Go.iloadN X30 113 at_112 rfl ?_
    refine Go.iconst X30 114 (1 : Int32) at_113 ?_
    refine Go.join X30 (α := Int32) (fun q hJ => T30.heap = hJ ∧ ((q = 1 ∧ ((Al x0 ∨ Pn x0 z3 y0 y1) ∧ (Al x1 ∨ Pn x1 z3 y0 y1) ∧ (Al x2 ∨ Pn x2 z3 y0 y1))) ∨ (q = 0 ∧ ¬ ((Al x0 ∨ Pn x0 z3 y0 y1) ∧ (Al x1 ∨ Pn x1 z3 y0 y1) ∧ (Al x2 ∨ Pn x2 z3 y0 y1))))) 193 (fun q => #[.val (.long j0), .second, .val (.int i0), .val (.int (3 : Int32)), .val (.int x0), .val (.int x1), .val (.int x2), .val (.int x3), .val (.int z3), .val (.int y0), .val (.int y1), .val (.ref s0), .val (.ref s1), .unset, .unset]) (fun q => [(.int q)]) 12 30 ?_ ?_
    · rintro T32 L32 h32 E0 X32 hp32
      replace hp32 : T30.heap = h32 ∧ ((E0 = 1 ∧ ((Al x0 ∨ Pn x0 z3 y0 y1) ∧ (Al x1 ∨ Pn x1 z3 y0 y1) ∧ (Al x2 ∨ Pn x2 z3 y0 y1))) ∨ (E0 = 0 ∧ ¬ ((Al x0 ∨ Pn x0 z3 y0 y1) ∧ (Al x1 ∨ Pn x1 z3 y0 y1) ∧ (Al x2 ∨ Pn x2 z3 y0 y1)))) := hp32
      show Go p e below _ T32 m 193 #[.val (.long j0), .second, .val (.int i0), .val (.int (3 : Int32)), .val (.int x0), .val (.int x1), .val (.int x2), .val (.int x3), .val (.int z3), .val (.int y0), .val (.int y1), .val (.ref s0), .val (.ref s1), .unset, .unset] [(.int E0)]
      obtain ⟨he, hE⟩ := hp32
      subst he
      refine Go.istore X32 195 #[.val (.long j0), .second, .val (.int i0), .val (.int (3 : Int32)), .val (.int x0), .val (.int x1), .val (.int x2), .val (.int x3), .val (.int z3), .val (.int y0), .val (.int y1), .val (.ref s0), .val (.ref s1), .val (.int E0), .unset] at_193 rfl ?_
      refine Go.aload X32 197 at_195 rfl rfl ?_
      refine Go.aload X32 199 at_197 rfl rfl ?_
      have fr0 : ∀ j, j < 3 → ¬ 255 < own_f4 x0 x1 x2 x3 j := by
        intro j _
        unfold own_f4
        split
        · exact rx0.2
        · split
          · exact rx1.2
          · split
            · exact rx2.2
            · exact rx3.2
      have fr1 : ∀ j, j < z3.toNatClampNeg → ¬ 255 < own_g2 y0 y1 j := by
        intro j _
        unfold own_g2
        split
        · exact ry0.2
        · exact ry1.2
      have key : (0 < 3 ∧ ∀ j, j < 3 → (Al (own_f4 x0 x1 x2 x3 j) ∨ ∃ i, i < z3.toNatClampNeg ∧ own_g2 y0 y1 i = own_f4 x0 x1 x2 x3 j)) ↔ ((Al x0 ∨ Pn x0 z3 y0 y1) ∧ (Al x1 ∨ Pn x1 z3 y0 y1) ∧ (Al x2 ∨ Pn x2 z3 y0 y1)) := by
        constructor
        · rintro ⟨-, q⟩
          exact ⟨(q 0 (by decide)).imp id (own_pn hz3).mp, (q 1 (by decide)).imp id (own_pn hz3).mp, (q 2 (by decide)).imp id (own_pn hz3).mp⟩
        · intro q
          refine ⟨by decide, fun j hj => ?_⟩
          have : j = 0 ∨ j = 1 ∨ j = 2 := by omega
          rcases this with rfl | rfl | rfl
          · exact q.1.imp id (own_pn hz3).mpr
          · exact q.2.1.imp id (own_pn hz3).mpr
          · exact q.2.2.imp id (own_pn hz3).mpr
      refine Go.callS X32 202 [(.ref s0), (.ref s1)] [] 0 (hw _ (List.mem_of_getElem? (i := 31) rfl)) (hw _ (List.mem_of_getElem? (i := 32) rfl)) (hw _ (List.mem_of_getElem? (i := 33) rfl)) (by decide) (hw _ (List.mem_of_getElem? (i := 34) rfl)) pd_19 at_199 (rm_a2 l Z a0 hw T30.heap cz SC hcz wf hwf SF s0 ts0 s1 ts1 3 z3.toNatClampNeg (own_f4 x0 x1 x2 x3) (own_g2 y0 y1) F31 Ss1 fr0 fr1) rfl rfl rfl (Nat.le_of_eq rfl) (by decide) (by decide) (by decide) (by decide) ?_
      rintro T33 v33 L33 X33 ⟨hh, ⟨rfl, q1⟩ | ⟨rfl, q1⟩⟩
      · rw [hh] at X33
        rcases hE with ⟨rfl, hC⟩ | ⟨rfl, hC⟩
        · skip
          show Go p e below _ T33 m 202 #[.val (.long j0), .second, .val (.int i0), .val (.int (3 : Int32)), .val (.int x0), .val (.int x1), .val (.int x2), .val (.int x3), .val (.int z3), .val (.int y0), .val (.int y1), .val (.ref s0), .val (.ref s1), .val (.int (1 : Int32)), .unset] [(.int (1 : Int32))]
          refine Go.istore X33 204 #[.val (.long j0), .second, .val (.int i0), .val (.int (3 : Int32)), .val (.int x0), .val (.int x1), .val (.int x2), .val (.int x3), .val (.int z3), .val (.int y0), .val (.int y1), .val (.ref s0), .val (.ref s1), .val (.int (1 : Int32)), .val (.int (1 : Int32))] at_202 rfl ?_
          refine Go.iload X33 206 at_204 rfl ?_
          refine Go.iload X33 208 at_206 rfl ?_
          refine Go.icmpN X33 211 at_208 (XT.ii_ne_f (by decide)) ?_
          refine Go.iconst X33 212 (1 : Int32) at_211 ?_
          refine Go.goto X33 216 at_212 ?_
          exact Go.retI X33 rfl (by simp) rfl at_216 (X33.finL ws30 rfl (by decide) (by decide))
        · skip
          exact absurd (key.mp q1) hC
      · rw [hh] at X33
        rcases hE with ⟨rfl, hC⟩ | ⟨rfl, hC⟩
        · skip
          exact absurd (key.mpr hC) q1
        · skip
          show Go p e below _ T33 m 202 #[.val (.long j0), .second, .val (.int i0), .val (.int (3 : Int32)), .val (.int x0), .val (.int x1), .val (.int x2), .val (.int x3), .val (.int z3), .val (.int y0), .val (.int y1), .val (.ref s0), .val (.ref s1), .val (.int (0 : Int32)), .unset] [(.int (0 : Int32))]
          refine Go.istore X33 204 #[.val (.long j0), .second, .val (.int i0), .val (.int (3 : Int32)), .val (.int x0), .val (.int x1), .val (.int x2), .val (.int x3), .val (.int z3), .val (.int y0), .val (.int y1), .val (.ref s0), .val (.ref s1), .val (.int (0 : Int32)), .val (.int (0 : Int32))] at_202 rfl ?_
          refine Go.iload X33 206 at_204 rfl ?_
          refine Go.iload X33 208 at_206 rfl ?_
          refine Go.icmpN X33 211 at_208 (XT.ii_ne_f (by decide)) ?_
          refine Go.iconst X33 212 (1 : Int32) at_211 ?_
          refine Go.goto X33 216 at_212 ?_
          exact Go.retI X33 rfl (by simp) rfl at_216 (X33.finL ws30 rfl (by decide) (by decide))
    · intro J32
      refine Go.icmpN X30 117 at_114 (XT.ii_lt_f (by decide)) ?_
      refine Go.iload X30 119 at_117 rfl ?_
      refine Go.iload X30 121 at_119 rfl ?_
      refine Go.iload X30 123 at_121 rfl ?_
      refine Go.iload X30 125 at_123 rfl ?_
      refine Go.callS X30 128 [(.int x0), (.int z3), (.int y0), (.int y1)] [] 0 (hw _ (List.mem_of_getElem? (i := 51) rfl)) (hw _ (List.mem_of_getElem? (i := 52) rfl)) (hw _ (List.mem_of_getElem? (i := 4) rfl)) (by decide) (hw _ (List.mem_of_getElem? (i := 53) rfl)) pd_20 at_125 (rm_ok l Z a0 hw T30.heap x0 z3 y0 y1) rfl rfl rfl (Nat.le_of_eq rfl) (by decide) (by decide) (by decide) (by decide) ?_
      rintro T34 v34 L34 X34 ⟨hh, ⟨rfl, o0⟩ | ⟨rfl, o0⟩⟩
      · rw [hh] at X34
        show Go p e below _ T34 m 128 #[.val (.long j0), .second, .val (.int i0), .val (.int (3 : Int32)), .val (.int x0), .val (.int x1), .val (.int x2), .val (.int x3), .val (.int z3), .val (.int y0), .val (.int y1), .val (.ref s0), .val (.ref s1), .unset, .unset] [(.int (1 : Int32))]
        refine Go.if0N X34 131 at_128 (XT.i0_eq_f (by decide)) ?_
        refine Go.iloadN X34 132 at_131 rfl ?_
        refine Go.iconst X34 133 (2 : Int32) at_132 ?_
        refine Go.icmpN X34 136 at_133 (XT.ii_lt_f (by decide)) ?_
        refine Go.iload X34 138 at_136 rfl ?_
        refine Go.iload X34 140 at_138 rfl ?_
        refine Go.iload X34 142 at_140 rfl ?_
        refine Go.iload X34 144 at_142 rfl ?_
        refine Go.callS X34 147 [(.int x1), (.int z3), (.int y0), (.int y1)] [] 0 (hw _ (List.mem_of_getElem? (i := 51) rfl)) (hw _ (List.mem_of_getElem? (i := 52) rfl)) (hw _ (List.mem_of_getElem? (i := 4) rfl)) (by decide) (hw _ (List.mem_of_getElem? (i := 53) rfl)) pd_20 at_144 (rm_ok l Z a0 hw T30.heap x1 z3 y0 y1) rfl rfl rfl (Nat.le_of_eq rfl) (by decide) (by decide) (by decide) (by decide) ?_
        rintro T35 v35 L35 X35 ⟨hh, ⟨rfl, o1⟩ | ⟨rfl, o1⟩⟩
        · rw [hh] at X35
          show Go p e below _ T35 m 147 #[.val (.long j0), .second, .val (.int i0), .val (.int (3 : Int32)), .val (.int x0), .val (.int x1), .val (.int x2), .val (.int x3), .val (.int z3), .val (.int y0), .val (.int y1), .val (.ref s0), .val (.ref s1), .unset, .unset] [(.int (1 : Int32))]
          refine Go.if0N X35 150 at_147 (XT.i0_eq_f (by decide)) ?_
          refine Go.iloadN X35 151 at_150 rfl ?_
          refine Go.iconst X35 152 (3 : Int32) at_151 ?_
          refine Go.icmpN X35 155 at_152 (XT.ii_lt_f (by decide)) ?_
          refine Go.iload X35 157 at_155 rfl ?_
          refine Go.iload X35 159 at_157 rfl ?_
          refine Go.iload X35 161 at_159 rfl ?_
          refine Go.iload X35 163 at_161 rfl ?_
          refine Go.callS X35 166 [(.int x2), (.int z3), (.int y0), (.int y1)] [] 0 (hw _ (List.mem_of_getElem? (i := 51) rfl)) (hw _ (List.mem_of_getElem? (i := 52) rfl)) (hw _ (List.mem_of_getElem? (i := 4) rfl)) (by decide) (hw _ (List.mem_of_getElem? (i := 53) rfl)) pd_20 at_163 (rm_ok l Z a0 hw T30.heap x2 z3 y0 y1) rfl rfl rfl (Nat.le_of_eq rfl) (by decide) (by decide) (by decide) (by decide) ?_
          rintro T36 v36 L36 X36 ⟨hh, ⟨rfl, o2⟩ | ⟨rfl, o2⟩⟩
          · rw [hh] at X36
            show Go p e below _ T36 m 166 #[.val (.long j0), .second, .val (.int i0), .val (.int (3 : Int32)), .val (.int x0), .val (.int x1), .val (.int x2), .val (.int x3), .val (.int z3), .val (.int y0), .val (.int y1), .val (.ref s0), .val (.ref s1), .unset, .unset] [(.int (1 : Int32))]
            refine Go.if0N X36 169 at_166 (XT.i0_eq_f (by decide)) ?_
            refine Go.iloadN X36 170 at_169 rfl ?_
            refine Go.iconst X36 171 (4 : Int32) at_170 ?_
            refine Go.icmpY X36 188 at_171 (XT.ii_lt_t (by decide)) ?_
            refine Go.iconst X36 189 (1 : Int32) at_188 ?_
            refine Go.goto X36 193 at_189 ?_
            exact J32 _ _ _ (1 : Int32) X36 ⟨rfl, Or.inl ⟨rfl, ⟨o0, o1, o2⟩⟩⟩
          · rw [hh] at X36
            show Go p e below _ T36 m 166 #[.val (.long j0), .second, .val (.int i0), .val (.int (3 : Int32)), .val (.int x0), .val (.int x1), .val (.int x2), .val (.int x3), .val (.int z3), .val (.int y0), .val (.int y1), .val (.ref s0), .val (.ref s1), .unset, .unset] [(.int (0 : Int32))]
            refine Go.if0Y X36 192 at_166 (XT.i0_eq_t (by decide)) ?_
            refine Go.iconst X36 193 (0 : Int32) at_192 ?_
            exact J32 _ _ _ (0 : Int32) X36 ⟨rfl, Or.inr ⟨rfl, fun q => o2 q.2.2⟩⟩
        · rw [hh] at X35
          show Go p e below _ T35 m 147 #[.val (.long j0), .second, .val (.int i0), .val (.int (3 : Int32)), .val (.int x0), .val (.int x1), .val (.int x2), .val (.int x3), .val (.int z3), .val (.int y0), .val (.int y1), .val (.ref s0), .val (.ref s1), .unset, .unset] [(.int (0 : Int32))]
          refine Go.if0Y X35 192 at_147 (XT.i0_eq_t (by decide)) ?_
          refine Go.iconst X35 193 (0 : Int32) at_192 ?_
          exact J32 _ _ _ (0 : Int32) X35 ⟨rfl, Or.inr ⟨rfl, fun q => o1 q.2.1⟩⟩
      · rw [hh] at X34
        show Go p e below _ T34 m 128 #[.val (.long j0), .second, .val (.int i0), .val (.int (3 : Int32)), .val (.int x0), .val (.int x1), .val (.int x2), .val (.int x3), .val (.int z3), .val (.int y0), .val (.int y1), .val (.ref s0), .val (.ref s1), .unset, .unset] [(.int (0 : Int32))]
        refine Go.if0Y X34 192 at_128 (XT.i0_eq_t (by decide)) ?_
        refine Go.iconst X34 193 (0 : Int32) at_192 ?_
        exact J32 _ _ _ (0 : Int32) X34 ⟨rfl, Or.inr ⟨rfl, fun q => o0 q.1⟩⟩
  · rw [hk]
    refine Go.istoreN X0 11 #[.val (.long j0), .second, .val (.int i0), .val (.int (4 : Int32)), .unset, .unset, .unset, .unset, .unset, .unset, .unset, .unset, .unset, .unset, .unset] at_10 rfl ?_
    refine Go.lloadN X0 12 at_11 rfl ?_
    refine Go.ldcJ X0 15 (hw _ (List.mem_of_getElem? (i := 1) rfl)) at_12 ?_
    refine Go.land X0 16 at_15 ?_
    refine Go.l2i X0 17 at_16 ?_
    refine Go.i2c X0 18 at_17 ?_
    have rx0 : 0 ≤ (((j0 &&& (255 : Int64)).toInt32).toUInt32.toUInt16.toUInt32.toInt32).toInt ∧ ¬ 255 < ((j0 &&& (255 : Int64)).toInt32).toUInt32.toUInt16.toUInt32.toInt32 := own_l255 _
    generalize ((j0 &&& (255 : Int64)).toInt32).toUInt32.toUInt16.toUInt32.toInt32 = x0 at rx0 ⊢
    refine Go.istore X0 20 #[.val (.long j0), .second, .val (.int i0), .val (.int (4 : Int32)), .val (.int x0), .unset, .unset, .unset, .unset, .unset, .unset, .unset, .unset, .unset, .unset] at_18 rfl ?_
    refine Go.lloadN X0 21 at_20 rfl ?_
    refine Go.bipush X0 23 (8 : Int32) at_21 ?_
    refine Go.lushr X0 24 at_23 ?_
    refine Go.ldcJ X0 27 (hw _ (List.mem_of_getElem? (i := 1) rfl)) at_24 ?_
    refine Go.land X0 28 at_27 ?_
    refine Go.l2i X0 29 at_28 ?_
    refine Go.i2c X0 30 at_29 ?_
    have rx1 : 0 ≤ ((((XT.ushrL j0 (8 : Int32)) &&& (255 : Int64)).toInt32).toUInt32.toUInt16.toUInt32.toInt32).toInt ∧ ¬ 255 < (((XT.ushrL j0 (8 : Int32)) &&& (255 : Int64)).toInt32).toUInt32.toUInt16.toUInt32.toInt32 := own_l255 _
    generalize (((XT.ushrL j0 (8 : Int32)) &&& (255 : Int64)).toInt32).toUInt32.toUInt16.toUInt32.toInt32 = x1 at rx1 ⊢
    refine Go.istore X0 32 #[.val (.long j0), .second, .val (.int i0), .val (.int (4 : Int32)), .val (.int x0), .val (.int x1), .unset, .unset, .unset, .unset, .unset, .unset, .unset, .unset, .unset] at_30 rfl ?_
    refine Go.lloadN X0 33 at_32 rfl ?_
    refine Go.bipush X0 35 (16 : Int32) at_33 ?_
    refine Go.lushr X0 36 at_35 ?_
    refine Go.ldcJ X0 39 (hw _ (List.mem_of_getElem? (i := 1) rfl)) at_36 ?_
    refine Go.land X0 40 at_39 ?_
    refine Go.l2i X0 41 at_40 ?_
    refine Go.i2c X0 42 at_41 ?_
    have rx2 : 0 ≤ ((((XT.ushrL j0 (16 : Int32)) &&& (255 : Int64)).toInt32).toUInt32.toUInt16.toUInt32.toInt32).toInt ∧ ¬ 255 < (((XT.ushrL j0 (16 : Int32)) &&& (255 : Int64)).toInt32).toUInt32.toUInt16.toUInt32.toInt32 := own_l255 _
    generalize (((XT.ushrL j0 (16 : Int32)) &&& (255 : Int64)).toInt32).toUInt32.toUInt16.toUInt32.toInt32 = x2 at rx2 ⊢
    refine Go.istore X0 44 #[.val (.long j0), .second, .val (.int i0), .val (.int (4 : Int32)), .val (.int x0), .val (.int x1), .val (.int x2), .unset, .unset, .unset, .unset, .unset, .unset, .unset, .unset] at_42 rfl ?_
    refine Go.lloadN X0 45 at_44 rfl ?_
    refine Go.bipush X0 47 (24 : Int32) at_45 ?_
    refine Go.lushr X0 48 at_47 ?_
    refine Go.ldcJ X0 51 (hw _ (List.mem_of_getElem? (i := 1) rfl)) at_48 ?_
    refine Go.land X0 52 at_51 ?_
    refine Go.l2i X0 53 at_52 ?_
    refine Go.i2c X0 54 at_53 ?_
    have rx3 : 0 ≤ ((((XT.ushrL j0 (24 : Int32)) &&& (255 : Int64)).toInt32).toUInt32.toUInt16.toUInt32.toInt32).toInt ∧ ¬ 255 < (((XT.ushrL j0 (24 : Int32)) &&& (255 : Int64)).toInt32).toUInt32.toUInt16.toUInt32.toInt32 := own_l255 _
    generalize (((XT.ushrL j0 (24 : Int32)) &&& (255 : Int64)).toInt32).toUInt32.toUInt16.toUInt32.toInt32 = x3 at rx3 ⊢
    refine Go.istore X0 56 #[.val (.long j0), .second, .val (.int i0), .val (.int (4 : Int32)), .val (.int x0), .val (.int x1), .val (.int x2), .val (.int x3), .unset, .unset, .unset, .unset, .unset, .unset, .unset] at_54 rfl ?_
    refine Go.iloadN X0 57 at_56 rfl ?_
    refine Go.bipush X0 59 (16 : Int32) at_57 ?_
    refine Go.iushr X0 60 at_59 ?_
    refine Go.sipush X0 63 (32767 : Int32) at_60 ?_
    refine Go.iand X0 64 at_63 ?_
    refine Go.iconst X0 65 (3 : Int32) at_64 ?_
    refine Go.irem X0 66 at_65 (by decide) ?_
    have hz3 := own_k3 (XT.ushr i0 (16 : Int32))
    generalize (((XT.ushr i0 (16 : Int32)) &&& (32767 : Int32)) % (3 : Int32)) = z3 at hz3 ⊢
    refine Go.istore X0 68 #[.val (.long j0), .second, .val (.int i0), .val (.int (4 : Int32)), .val (.int x0), .val (.int x1), .val (.int x2), .val (.int x3), .val (.int z3), .unset, .unset, .unset, .unset, .unset, .unset] at_66 rfl ?_
    refine Go.iloadN X0 69 at_68 rfl ?_
    refine Go.sipush X0 72 (255 : Int32) at_69 ?_
    refine Go.iand X0 73 at_72 ?_
    refine Go.i2c X0 74 at_73 ?_
    rw [i2c_mask i0]
    have ry0 := own_255 i0
    generalize (i0 &&& (255 : Int32)) = y0 at ry0 ⊢
    refine Go.istore X0 76 #[.val (.long j0), .second, .val (.int i0), .val (.int (4 : Int32)), .val (.int x0), .val (.int x1), .val (.int x2), .val (.int x3), .val (.int z3), .val (.int y0), .unset, .unset, .unset, .unset, .unset] at_74 rfl ?_
    refine Go.iloadN X0 77 at_76 rfl ?_
    refine Go.bipush X0 79 (8 : Int32) at_77 ?_
    refine Go.iushr X0 80 at_79 ?_
    refine Go.sipush X0 83 (255 : Int32) at_80 ?_
    refine Go.iand X0 84 at_83 ?_
    refine Go.i2c X0 85 at_84 ?_
    rw [i2c_mask (XT.ushr i0 (8 : Int32))]
    have ry1 := own_255 (XT.ushr i0 (8 : Int32))
    generalize ((XT.ushr i0 (8 : Int32)) &&& (255 : Int32)) = y1 at ry1 ⊢
    refine Go.istore X0 87 #[.val (.long j0), .second, .val (.int i0), .val (.int (4 : Int32)), .val (.int x0), .val (.int x1), .val (.int x2), .val (.int x3), .val (.int z3), .val (.int y0), .val (.int y1), .unset, .unset, .unset, .unset] at_85 rfl ?_
    refine Go.iloadN X0 88 at_87 rfl ?_
    refine Go.iload X0 90 at_88 rfl ?_
    refine Go.iload X0 92 at_90 rfl ?_
    refine Go.iload X0 94 at_92 rfl ?_
    refine Go.iload X0 96 at_94 rfl ?_
    refine Go.callSW X0 99 hEL ws0 H0 [(.int (4 : Int32)), (.int x0), (.int x1), (.int x2), (.int x3)] [] 0 (hw _ (List.mem_of_getElem? (i := 2) rfl)) (hw _ (List.mem_of_getElem? (i := 3) rfl)) (hw _ (List.mem_of_getElem? (i := 4) rfl)) (by decide) (hw _ (List.mem_of_getElem? (i := 5) rfl)) pd_17 at_96 (rm_t l Z a0 hw h0 cz SC hcz (4 : Int32) x0 x1 x2 x3 (Or.inr (Or.inr (Or.inr (Or.inr (rfl))))) rx0 rx1 rx2 rx3) rfl rfl rfl (Nat.le_of_eq rfl) (by decide) (by decide) (by decide) (by decide) ?_
    rintro T37 v37 L37 vm37 X37 ws37 R37 ⟨s0, ts0, rfl, Ks0, gs0, Ss0⟩
    show Go p e below _ T37 m 99 #[.val (.long j0), .second, .val (.int i0), .val (.int (4 : Int32)), .val (.int x0), .val (.int x1), .val (.int x2), .val (.int x3), .val (.int z3), .val (.int y0), .val (.int y1), .unset, .unset, .unset, .unset] [(.ref s0)]
    have H1 := R37.1
    have S0 : Str Z T37.heap s0 ts0 4 (own_f4 x0 x1 x2 x3) := Ss0
    refine Go.astore X37 101 #[.val (.long j0), .second, .val (.int i0), .val (.int (4 : Int32)), .val (.int x0), .val (.int x1), .val (.int x2), .val (.int x3), .val (.int z3), .val (.int y0), .val (.int y1), .val (.ref s0), .unset, .unset, .unset] at_99 rfl rfl ?_
    refine Go.iload X37 103 at_101 rfl ?_
    refine Go.iload X37 105 at_103 rfl ?_
    refine Go.iload X37 107 at_105 rfl ?_
    refine Go.callSW X37 110 hEL ws37 H1 [(.int z3), (.int y0), (.int y1)] [] 0 (hw _ (List.mem_of_getElem? (i := 28) rfl)) (hw _ (List.mem_of_getElem? (i := 29) rfl)) (hw _ (List.mem_of_getElem? (i := 4) rfl)) (by decide) (hw _ (List.mem_of_getElem? (i := 30) rfl)) pd_18 at_107 (rm_pu l Z a0 hw T37.heap cz SC hcz z3 y0 y1 hz3 ry0 ry1) rfl rfl rfl (Nat.le_of_eq rfl) (by decide) (by decide) (by decide) (by decide) ?_
    rintro T38 v38 L38 vm38 X38 ws38 R38 ⟨s1, ts1, rfl, Ks1, gs1, Ss1⟩
    show Go p e below _ T38 m 110 #[.val (.long j0), .second, .val (.int i0), .val (.int (4 : Int32)), .val (.int x0), .val (.int x1), .val (.int x2), .val (.int x3), .val (.int z3), .val (.int y0), .val (.int y1), .val (.ref s0), .unset, .unset, .unset] [(.ref s1)]
    have F39 : Str Z T38.heap s0 ts0 4 (own_f4 x0 x1 x2 x3) := S0.keep Ks1 nin0 nin0
    refine Go.astore X38 112 #[.val (.long j0), .second, .val (.int i0), .val (.int (4 : Int32)), .val (.int x0), .val (.int x1), .val (.int x2), .val (.int x3), .val (.int z3), .val (.int y0), .val (.int y1), .val (.ref s0), .val (.ref s1), .unset, .unset] at_110 rfl rfl ?_
    refine Go.iloadN X38 113 at_112 rfl ?_
    refine Go.iconst X38 114 (1 : Int32) at_113 ?_
    refine Go.join X38 (α := Int32) (fun q hJ => T38.heap = hJ ∧ ((q = 1 ∧ ((Al x0 ∨ Pn x0 z3 y0 y1) ∧ (Al x1 ∨ Pn x1 z3 y0 y1) ∧ (Al x2 ∨ Pn x2 z3 y0 y1) ∧ (Al x3 ∨ Pn x3 z3 y0 y1))) ∨ (q = 0 ∧ ¬ ((Al x0 ∨ Pn x0 z3 y0 y1) ∧ (Al x1 ∨ Pn x1 z3 y0 y1) ∧ (Al x2 ∨ Pn x2 z3 y0 y1) ∧ (Al x3 ∨ Pn x3 z3 y0 y1))))) 193 (fun q => #[.val (.long j0), .second, .val (.int i0), .val (.int (4 : Int32)), .val (.int x0), .val (.int x1), .val (.int x2), .val (.int x3), .val (.int z3), .val (.int y0), .val (.int y1), .val (.ref s0), .val (.ref s1), .unset, .unset]) (fun q => [(.int q)]) 12 30 ?_ ?_
    · rintro T40 L40 h40 E0 X40 hp40
      replace hp40 : T38.heap = h40 ∧ ((E0 = 1 ∧ ((Al x0 ∨ Pn x0 z3 y0 y1) ∧ (Al x1 ∨ Pn x1 z3 y0 y1) ∧ (Al x2 ∨ Pn x2 z3 y0 y1) ∧ (Al x3 ∨ Pn x3 z3 y0 y1))) ∨ (E0 = 0 ∧ ¬ ((Al x0 ∨ Pn x0 z3 y0 y1) ∧ (Al x1 ∨ Pn x1 z3 y0 y1) ∧ (Al x2 ∨ Pn x2 z3 y0 y1) ∧ (Al x3 ∨ Pn x3 z3 y0 y1)))) := hp40
      show Go p e below _ T40 m 193 #[.val (.long j0), .second, .val (.int i0), .val (.int (4 : Int32)), .val (.int x0), .val (.int x1), .val (.int x2), .val (.int x3), .val (.int z3), .val (.int y0), .val (.int y1), .val (.ref s0), .val (.ref s1), .unset, .unset] [(.int E0)]
      obtain ⟨he, hE⟩ := hp40
      subst he
      refine Go.istore X40 195 #[.val (.long j0), .second, .val (.int i0), .val (.int (4 : Int32)), .val (.int x0), .val (.int x1), .val (.int x2), .val (.int x3), .val (.int z3), .val (.int y0), .val (.int y1), .val (.ref s0), .val (.ref s1), .val (.int E0), .unset] at_193 rfl ?_
      refine Go.aload X40 197 at_195 rfl rfl ?_
      refine Go.aload X40 199 at_197 rfl rfl ?_
      have fr0 : ∀ j, j < 4 → ¬ 255 < own_f4 x0 x1 x2 x3 j := by
        intro j _
        unfold own_f4
        split
        · exact rx0.2
        · split
          · exact rx1.2
          · split
            · exact rx2.2
            · exact rx3.2
      have fr1 : ∀ j, j < z3.toNatClampNeg → ¬ 255 < own_g2 y0 y1 j := by
        intro j _
        unfold own_g2
        split
        · exact ry0.2
        · exact ry1.2
      have key : (0 < 4 ∧ ∀ j, j < 4 → (Al (own_f4 x0 x1 x2 x3 j) ∨ ∃ i, i < z3.toNatClampNeg ∧ own_g2 y0 y1 i = own_f4 x0 x1 x2 x3 j)) ↔ ((Al x0 ∨ Pn x0 z3 y0 y1) ∧ (Al x1 ∨ Pn x1 z3 y0 y1) ∧ (Al x2 ∨ Pn x2 z3 y0 y1) ∧ (Al x3 ∨ Pn x3 z3 y0 y1)) := by
        constructor
        · rintro ⟨-, q⟩
          exact ⟨(q 0 (by decide)).imp id (own_pn hz3).mp, (q 1 (by decide)).imp id (own_pn hz3).mp, (q 2 (by decide)).imp id (own_pn hz3).mp, (q 3 (by decide)).imp id (own_pn hz3).mp⟩
        · intro q
          refine ⟨by decide, fun j hj => ?_⟩
          have : j = 0 ∨ j = 1 ∨ j = 2 ∨ j = 3 := by omega
          rcases this with rfl | rfl | rfl | rfl
          · exact q.1.imp id (own_pn hz3).mpr
          · exact q.2.1.imp id (own_pn hz3).mpr
          · exact q.2.2.1.imp id (own_pn hz3).mpr
          · exact q.2.2.2.imp id (own_pn hz3).mpr
      refine Go.callS X40 202 [(.ref s0), (.ref s1)] [] 0 (hw _ (List.mem_of_getElem? (i := 31) rfl)) (hw _ (List.mem_of_getElem? (i := 32) rfl)) (hw _ (List.mem_of_getElem? (i := 33) rfl)) (by decide) (hw _ (List.mem_of_getElem? (i := 34) rfl)) pd_19 at_199 (rm_a2 l Z a0 hw T38.heap cz SC hcz wf hwf SF s0 ts0 s1 ts1 4 z3.toNatClampNeg (own_f4 x0 x1 x2 x3) (own_g2 y0 y1) F39 Ss1 fr0 fr1) rfl rfl rfl (Nat.le_of_eq rfl) (by decide) (by decide) (by decide) (by decide) ?_
      rintro T41 v41 L41 X41 ⟨hh, ⟨rfl, q1⟩ | ⟨rfl, q1⟩⟩
      · rw [hh] at X41
        rcases hE with ⟨rfl, hC⟩ | ⟨rfl, hC⟩
        · skip
          show Go p e below _ T41 m 202 #[.val (.long j0), .second, .val (.int i0), .val (.int (4 : Int32)), .val (.int x0), .val (.int x1), .val (.int x2), .val (.int x3), .val (.int z3), .val (.int y0), .val (.int y1), .val (.ref s0), .val (.ref s1), .val (.int (1 : Int32)), .unset] [(.int (1 : Int32))]
          refine Go.istore X41 204 #[.val (.long j0), .second, .val (.int i0), .val (.int (4 : Int32)), .val (.int x0), .val (.int x1), .val (.int x2), .val (.int x3), .val (.int z3), .val (.int y0), .val (.int y1), .val (.ref s0), .val (.ref s1), .val (.int (1 : Int32)), .val (.int (1 : Int32))] at_202 rfl ?_
          refine Go.iload X41 206 at_204 rfl ?_
          refine Go.iload X41 208 at_206 rfl ?_
          refine Go.icmpN X41 211 at_208 (XT.ii_ne_f (by decide)) ?_
          refine Go.iconst X41 212 (1 : Int32) at_211 ?_
          refine Go.goto X41 216 at_212 ?_
          exact Go.retI X41 rfl (by simp) rfl at_216 (X41.finL ws38 rfl (by decide) (by decide))
        · skip
          exact absurd (key.mp q1) hC
      · rw [hh] at X41
        rcases hE with ⟨rfl, hC⟩ | ⟨rfl, hC⟩
        · skip
          exact absurd (key.mpr hC) q1
        · skip
          show Go p e below _ T41 m 202 #[.val (.long j0), .second, .val (.int i0), .val (.int (4 : Int32)), .val (.int x0), .val (.int x1), .val (.int x2), .val (.int x3), .val (.int z3), .val (.int y0), .val (.int y1), .val (.ref s0), .val (.ref s1), .val (.int (0 : Int32)), .unset] [(.int (0 : Int32))]
          refine Go.istore X41 204 #[.val (.long j0), .second, .val (.int i0), .val (.int (4 : Int32)), .val (.int x0), .val (.int x1), .val (.int x2), .val (.int x3), .val (.int z3), .val (.int y0), .val (.int y1), .val (.ref s0), .val (.ref s1), .val (.int (0 : Int32)), .val (.int (0 : Int32))] at_202 rfl ?_
          refine Go.iload X41 206 at_204 rfl ?_
          refine Go.iload X41 208 at_206 rfl ?_
          refine Go.icmpN X41 211 at_208 (XT.ii_ne_f (by decide)) ?_
          refine Go.iconst X41 212 (1 : Int32) at_211 ?_
          refine Go.goto X41 216 at_212 ?_
          exact Go.retI X41 rfl (by simp) rfl at_216 (X41.finL ws38 rfl (by decide) (by decide))
    · intro J40
      refine Go.icmpN X38 117 at_114 (XT.ii_lt_f (by decide)) ?_
      refine Go.iload X38 119 at_117 rfl ?_
      refine Go.iload X38 121 at_119 rfl ?_
      refine Go.iload X38 123 at_121 rfl ?_
      refine Go.iload X38 125 at_123 rfl ?_
      refine Go.callS X38 128 [(.int x0), (.int z3), (.int y0), (.int y1)] [] 0 (hw _ (List.mem_of_getElem? (i := 51) rfl)) (hw _ (List.mem_of_getElem? (i := 52) rfl)) (hw _ (List.mem_of_getElem? (i := 4) rfl)) (by decide) (hw _ (List.mem_of_getElem? (i := 53) rfl)) pd_20 at_125 (rm_ok l Z a0 hw T38.heap x0 z3 y0 y1) rfl rfl rfl (Nat.le_of_eq rfl) (by decide) (by decide) (by decide) (by decide) ?_
      rintro T42 v42 L42 X42 ⟨hh, ⟨rfl, o0⟩ | ⟨rfl, o0⟩⟩
      · rw [hh] at X42
        show Go p e below _ T42 m 128 #[.val (.long j0), .second, .val (.int i0), .val (.int (4 : Int32)), .val (.int x0), .val (.int x1), .val (.int x2), .val (.int x3), .val (.int z3), .val (.int y0), .val (.int y1), .val (.ref s0), .val (.ref s1), .unset, .unset] [(.int (1 : Int32))]
        refine Go.if0N X42 131 at_128 (XT.i0_eq_f (by decide)) ?_
        refine Go.iloadN X42 132 at_131 rfl ?_
        refine Go.iconst X42 133 (2 : Int32) at_132 ?_
        refine Go.icmpN X42 136 at_133 (XT.ii_lt_f (by decide)) ?_
        refine Go.iload X42 138 at_136 rfl ?_
        refine Go.iload X42 140 at_138 rfl ?_
        refine Go.iload X42 142 at_140 rfl ?_
        refine Go.iload X42 144 at_142 rfl ?_
        refine Go.callS X42 147 [(.int x1), (.int z3), (.int y0), (.int y1)] [] 0 (hw _ (List.mem_of_getElem? (i := 51) rfl)) (hw _ (List.mem_of_getElem? (i := 52) rfl)) (hw _ (List.mem_of_getElem? (i := 4) rfl)) (by decide) (hw _ (List.mem_of_getElem? (i := 53) rfl)) pd_20 at_144 (rm_ok l Z a0 hw T38.heap x1 z3 y0 y1) rfl rfl rfl (Nat.le_of_eq rfl) (by decide) (by decide) (by decide) (by decide) ?_
        rintro T43 v43 L43 X43 ⟨hh, ⟨rfl, o1⟩ | ⟨rfl, o1⟩⟩
        · rw [hh] at X43
          show Go p e below _ T43 m 147 #[.val (.long j0), .second, .val (.int i0), .val (.int (4 : Int32)), .val (.int x0), .val (.int x1), .val (.int x2), .val (.int x3), .val (.int z3), .val (.int y0), .val (.int y1), .val (.ref s0), .val (.ref s1), .unset, .unset] [(.int (1 : Int32))]
          refine Go.if0N X43 150 at_147 (XT.i0_eq_f (by decide)) ?_
          refine Go.iloadN X43 151 at_150 rfl ?_
          refine Go.iconst X43 152 (3 : Int32) at_151 ?_
          refine Go.icmpN X43 155 at_152 (XT.ii_lt_f (by decide)) ?_
          refine Go.iload X43 157 at_155 rfl ?_
          refine Go.iload X43 159 at_157 rfl ?_
          refine Go.iload X43 161 at_159 rfl ?_
          refine Go.iload X43 163 at_161 rfl ?_
          refine Go.callS X43 166 [(.int x2), (.int z3), (.int y0), (.int y1)] [] 0 (hw _ (List.mem_of_getElem? (i := 51) rfl)) (hw _ (List.mem_of_getElem? (i := 52) rfl)) (hw _ (List.mem_of_getElem? (i := 4) rfl)) (by decide) (hw _ (List.mem_of_getElem? (i := 53) rfl)) pd_20 at_163 (rm_ok l Z a0 hw T38.heap x2 z3 y0 y1) rfl rfl rfl (Nat.le_of_eq rfl) (by decide) (by decide) (by decide) (by decide) ?_
          rintro T44 v44 L44 X44 ⟨hh, ⟨rfl, o2⟩ | ⟨rfl, o2⟩⟩
          · rw [hh] at X44
            show Go p e below _ T44 m 166 #[.val (.long j0), .second, .val (.int i0), .val (.int (4 : Int32)), .val (.int x0), .val (.int x1), .val (.int x2), .val (.int x3), .val (.int z3), .val (.int y0), .val (.int y1), .val (.ref s0), .val (.ref s1), .unset, .unset] [(.int (1 : Int32))]
            refine Go.if0N X44 169 at_166 (XT.i0_eq_f (by decide)) ?_
            refine Go.iloadN X44 170 at_169 rfl ?_
            refine Go.iconst X44 171 (4 : Int32) at_170 ?_
            refine Go.icmpN X44 174 at_171 (XT.ii_lt_f (by decide)) ?_
            refine Go.iload X44 176 at_174 rfl ?_
            refine Go.iload X44 178 at_176 rfl ?_
            refine Go.iload X44 180 at_178 rfl ?_
            refine Go.iload X44 182 at_180 rfl ?_
            refine Go.callS X44 185 [(.int x3), (.int z3), (.int y0), (.int y1)] [] 0 (hw _ (List.mem_of_getElem? (i := 51) rfl)) (hw _ (List.mem_of_getElem? (i := 52) rfl)) (hw _ (List.mem_of_getElem? (i := 4) rfl)) (by decide) (hw _ (List.mem_of_getElem? (i := 53) rfl)) pd_20 at_182 (rm_ok l Z a0 hw T38.heap x3 z3 y0 y1) rfl rfl rfl (Nat.le_of_eq rfl) (by decide) (by decide) (by decide) (by decide) ?_
            rintro T45 v45 L45 X45 ⟨hh, ⟨rfl, o3⟩ | ⟨rfl, o3⟩⟩
            · rw [hh] at X45
              show Go p e below _ T45 m 185 #[.val (.long j0), .second, .val (.int i0), .val (.int (4 : Int32)), .val (.int x0), .val (.int x1), .val (.int x2), .val (.int x3), .val (.int z3), .val (.int y0), .val (.int y1), .val (.ref s0), .val (.ref s1), .unset, .unset] [(.int (1 : Int32))]
              refine Go.if0N X45 188 at_185 (XT.i0_eq_f (by decide)) ?_
              refine Go.iconst X45 189 (1 : Int32) at_188 ?_
              refine Go.goto X45 193 at_189 ?_
              exact J40 _ _ _ (1 : Int32) X45 ⟨rfl, Or.inl ⟨rfl, ⟨o0, o1, o2, o3⟩⟩⟩
            · rw [hh] at X45
              show Go p e below _ T45 m 185 #[.val (.long j0), .second, .val (.int i0), .val (.int (4 : Int32)), .val (.int x0), .val (.int x1), .val (.int x2), .val (.int x3), .val (.int z3), .val (.int y0), .val (.int y1), .val (.ref s0), .val (.ref s1), .unset, .unset] [(.int (0 : Int32))]
              refine Go.if0Y X45 192 at_185 (XT.i0_eq_t (by decide)) ?_
              refine Go.iconst X45 193 (0 : Int32) at_192 ?_
              exact J40 _ _ _ (0 : Int32) X45 ⟨rfl, Or.inr ⟨rfl, fun q => o3 q.2.2.2⟩⟩
          · rw [hh] at X44
            show Go p e below _ T44 m 166 #[.val (.long j0), .second, .val (.int i0), .val (.int (4 : Int32)), .val (.int x0), .val (.int x1), .val (.int x2), .val (.int x3), .val (.int z3), .val (.int y0), .val (.int y1), .val (.ref s0), .val (.ref s1), .unset, .unset] [(.int (0 : Int32))]
            refine Go.if0Y X44 192 at_166 (XT.i0_eq_t (by decide)) ?_
            refine Go.iconst X44 193 (0 : Int32) at_192 ?_
            exact J40 _ _ _ (0 : Int32) X44 ⟨rfl, Or.inr ⟨rfl, fun q => o2 q.2.2.1⟩⟩
        · rw [hh] at X43
          show Go p e below _ T43 m 147 #[.val (.long j0), .second, .val (.int i0), .val (.int (4 : Int32)), .val (.int x0), .val (.int x1), .val (.int x2), .val (.int x3), .val (.int z3), .val (.int y0), .val (.int y1), .val (.ref s0), .val (.ref s1), .unset, .unset] [(.int (0 : Int32))]
          refine Go.if0Y X43 192 at_147 (XT.i0_eq_t (by decide)) ?_
          refine Go.iconst X43 193 (0 : Int32) at_192 ?_
          exact J40 _ _ _ (0 : Int32) X43 ⟨rfl, Or.inr ⟨rfl, fun q => o1 q.2.1⟩⟩
      · rw [hh] at X42
        show Go p e below _ T42 m 128 #[.val (.long j0), .second, .val (.int i0), .val (.int (4 : Int32)), .val (.int x0), .val (.int x1), .val (.int x2), .val (.int x3), .val (.int z3), .val (.int y0), .val (.int y1), .val (.ref s0), .val (.ref s1), .unset, .unset] [(.int (0 : Int32))]
        refine Go.if0Y X42 192 at_128 (XT.i0_eq_t (by decide)) ?_
        refine Go.iconst X42 193 (0 : Int32) at_192 ?_
        exact J40 _ _ _ (0 : Int32) X42 ⟨rfl, Or.inr ⟨rfl, fun q => o0 q.1⟩⟩
theorem eq_I {a b : Term} {args : Array Value} {s : State} {x y : Int32} (ha : a.eval args s none [] s = some (.int x)) (hb : b.eval args s none [] s = some (.int y)) : (Jvm.Cond.eq a b).value args s none s [] = some (decide (x = y)) := by simp [Cond.value, ha, hb]
theorem own_eqI {t : Term} {args : Array Value} {s : State} {z : Int32} (h : (Jvm.Cond.eq t (.int z)).value args s none s [] = some true) : t.eval args s none [] s = some (.int z) := by
  obtain ⟨x, y, e1, e2, -, k⟩ := cmp_v (Or.inl h)
  have e3 : y = .int z := Option.some.inj (e2.symm.trans (Term.int_eval z))
  subst e3
  obtain ⟨w, rfl⟩ := k
  have := gotT (eq_I e1 e2) h
  rw [this] at e1
  exact e1
theorem own_sta {C n d : String} {args : Array Value} {s : State} (hx : (Jvm.Cond.exactly (.static C n d) C).value args s none s [] = some true) (wi : (Jvm.Cond.initialized C).before args s = true) (wl : (Jvm.Cond.laysStatic C n d).before args s = true) : ∃ a, Sta s s.heap C n d (.ref a) ∧ Exa s s.heap a C ∧ (Term.static C n d).eval args s none [] s = some (.ref a) := by
  obtain ⟨a, ev⟩ := exa_v hx
  exact ⟨a, Sta.start ev (Or.inr ⟨wi, wl⟩), Exa.start ev hx, ev⟩
theorem own_fldI {t : Term} {C n d : String} {args : Array Value} {s : State} {a : Addr} {z : Int32} (ev : t.eval args s none [] s = some (.ref a)) (hz : (Jvm.Cond.eq (.field t C n d) (.int z)).value args s none s [] = some true) : Fld s s.heap a C n d (.int z) := by
  have := own_eqI hz
  rw [fld_at ev] at this
  exact Fld.start this
theorem own_nz {t : Term} {args : Array Value} {s : State} {z : Int32} (ev : t.eval args s none [] s = some (.int z)) (h : (Jvm.Cond.not (.eq t (.int 0))).value args s none s [] = some true) : ¬ z = 0 := by
  have h1 := not_v h
  exact gotF (eq_I ev (Term.int_eval 0)) h1
theorem own_held {tb : Tables} {e : Env} {args : Array Value} {s : State} (h : call_1_1 tb e args s) : ∀ p ∈ consts_1, Jvm.Lit.constHeld s p.1 p.2 := h
set_option maxRecDepth 65536 in
set_option maxHeartbeats 40000000 in
theorem comes_1 {Post : Tables → Env → Array Value → State → Outcome → State → Prop} (hpost : ∀ tb e args s v u, (limb_1_1.after args s (.returned v) u = true ∧ limb_1_2.after args s (.returned v) u = true ∧ True) → ReturnedEndW s (.returned v) u (Jvm.fieldLocs frame_1_writes args s ++ Jvm.arrayLocs frame_1_arrays args s ++ Jvm.staticLocs frame_1_statics s) 24 1152 → Post tb e args s (.returned v) u) :
    ArmFor flags0 classFile x code maxLocals ret World_1 tables_1 room_1 Calls_1 rest_1 Pre_1 Post := by
  intro l hfl _ _ p e ha hc hk s m args below hf hA hF happ hP
  obtain ⟨hcalls, hrest, hpre⟩ := hP
  obtain ⟨-, -, -, hnamed, -, -, -, hat⟩ := (Spec.applies_iff hf).mp happ
  obtain ⟨hg, hn⟩ := and_e (Cond.before_iff.mp (show (Jvm.Cond.and given_1 narrow_1).before args s = true from hpre))
  obtain ⟨hcount, hr_hcount⟩ := and_e hg
  obtain ⟨hk0, hr_hk0⟩ := and_e hr_hcount
  have hk1 := hr_hk0
  obtain ⟨w0, w1, rfl⟩ : ∃ w0 w1 : Value, args = #[w0, w1] := by
    have hs : args.size = 2 := by simpa [Cond.value, given_1] using hcount
    obtain ⟨L⟩ := args
    match L, hs with
    | [w0, w1], _ => exact ⟨w0, w1, rfl⟩
  have hw := fun d (hd : d ∈ tables_1) => atoms_spec (ws := Jvm.Cond.code x code maxLocals ret :: tables_1) hat d (List.mem_cons_of_mem _ hd)
  obtain ⟨i0, e0⟩ := isL_v hk0
  obtain rfl : w0 = (.long i0) := Option.some.inj e0
  obtain ⟨i1, e1⟩ := is_v hk1
  obtain rfl : w1 = (.int i1) := Option.some.inj e1
  have hsets := (atoms_of jdkStatics_1 (rest_1_c_eq ▸ (show rest_1_c.before _ s = true from hrest))).1
  obtain ⟨cz, evc⟩ := is_v (Cond.before_iff.mp (hsets _ (List.mem_of_getElem? (i := 1) rfl)))
  have SC := Sta.start evc (Or.inl (hsets _ (List.mem_of_getElem? (i := 0) rfl)))
  have hcz := own_nz evc (Cond.before_iff.mp (hsets _ (List.mem_of_getElem? (i := 2) rfl)))
  obtain ⟨wf, evf, hwf⟩ := isR_v (Cond.before_iff.mp (hsets _ (List.mem_of_getElem? (i := 8) rfl)))
  have SF := Sta.start evf (Or.inl (hsets _ (List.mem_of_getElem? (i := 7) rfl)))
  have hCH : CHv s consts_1 s.vm s.heap := CHv.start (own_EW hw) (own_held hcalls.1) (hsets _ (List.mem_of_getElem? (i := 2) rfl)) (hw _ (List.mem_of_getElem? (i := 21) rfl)) (hw _ (List.mem_of_getElem? (i := 7) rfl))
  obtain ⟨n, o, h1, h2, h3, _, L, rfl, ⟨N, -, rfl⟩, hq⟩ := rm_l l s _ hw s.heap cz SC hcz wf hwf SF i0 i1 (Ext.rf _) p e ha hc hk s m _ below hf ((Spec.applies_iff_loose hf).mp happ).1 ⟨rfl, State.Warmed39.refl s, rfl, hCH⟩ trivial
  refine ⟨n, _, h1, h2, h3, hpost _ _ _ _ _ _ ⟨Cond.after_iff.mpr rfl, Cond.after_iff.mpr (eq_i res_at (Term.int_eval (1)) rfl), trivial⟩ ⟨hq.1, hq.2.1, hq.2.2.1, (hq.2.2.2.sift fun y hy => Or.inr (N y hy)).mono (by decide) (by decide)⟩⟩
theorem main_1_1 : Claimed_1_1 := comes_1 fun _ _ _ _ _ _ h hF => ⟨h.1, hF⟩
theorem main_1_2 : Claimed_1_2 := comes_1 fun _ _ _ _ _ _ h hF => ⟨h.2.1, hF⟩
end Jvm.Pilot.@@N@@
namespace Jvm.Pilot.@@N@@
open Jvm Jvm.ClassFile Sem Op Lib Jvm.Free Jvm.Stand Jvm.Pilot.@@N@@.Jvm.D
/-! MADE BY PROGRAM (witnessworld.py) out of the Statement's table words and the real class files: 21 classes; the members and pool entries that the words name. The judged class is class 1, her method 1. -/
namespace start1
open Jvm.ClassFile
def u (s : String) : CpInfo := .utf8 (stringToUtf16 s)
/-- a pool by its gaps: so many unusable entries, then the entry; so many at the end -/
def gap : Nat → List CpInfo → List CpInfo
  | 0, r => r
  | n + 1, r => .unusable :: gap n r
def poolList (es : List (Nat × CpInfo)) (last : Nat) : List CpInfo := es.foldr (fun e r => gap e.1 (e.2 :: r)) (gap last [])
def pool (es : List (Nat × CpInfo)) (last : Nat) : Array CpInfo := ⟨poolList es last⟩
def fileOf (pool : Array CpInfo) (this : Nat) (attrs : Array Attribute := #[]) (ms : Array MethodInfo := #[]) (fl : Nat := 33) (sup : Nat := 0) (ifs : Array Nat := #[]) (fds : Array FieldInfo := #[]) : ClassFile where
  minorVersion := 0
  majorVersion := 65
  constantPool := pool
  accessFlags := fl
  thisClass := this
  superClass := sup
  interfaces := ifs
  fields := fds
  methods := ms
  attributes := attrs
def plain (name : String) (sup : Option ClassId) : Class where
  name := name
  kind := .ordinary
  loader := none
  accessFlags := 33
  super := sup
  interfaces := #[]
  cf := none
  fields := #[]
  methods := #[]
  instanceTypes := #[]
  staticTypes := #[]
  resolved := #[]
  callSites := []
  init := .initialized
  statics := none
  mirror := none

def pool0 : Array CpInfo := pool [(5, u "<init>"), (0, u "()V"), (1, .class_ 10), (1, u "java/lang/Object")] 113

def k0c0 : Code := { maxStack := 0, maxLocals := 1, code := object_method_1_code, exceptionTable := #[], attributes := #[] }
def k0m0 : Method := { name := "<init>", desc := "()V", sig := { parameters := [], returnType := none }, accessFlags := 1, code := some k0c0 }
/-- java/lang/Object -/
def k0 : Class := { plain "java/lang/Object" none with
  accessFlags := 33
  interfaces := #[]
  cf := some (fileOf pool0 8 #[] #[{ accessFlags := 1, nameIndex := 5, descriptorIndex := 6, attributes := #[] }] 33 0 #[] #[])
  fields := #[]
  methods := #[k0m0]
  instanceTypes := #[]
  staticTypes := #[]
  resolved := Array.replicate 124 none
  statics := none }

def pool1 : Array CpInfo := pool [(2, .class_ 4), (1, u "java/lang/Object"), (0, u "<init>"), (0, u "()V"), (0, .integer 2147483647), (0, .long 255), (1, .methodref 11 12), (0, .class_ 13), (0, .nameAndType 14 15), (0, u "com/example/peerloom/peerloom/api/AsciiIsAlphanumericOrPinLaw"), (0, u "text"), (0, u "(ICCCC)Ljava/lang/String;"), (0, .methodref 11 17), (0, .nameAndType 18 19), (0, u "punct"), (0, u "(ICC)Ljava/lang/String;"), (0, .methodref 11 21), (0, .nameAndType 22 23), (0, u "ok"), (0, u "(CICC)Z"), (0, .methodref 25 26), (0, .class_ 27), (0, .nameAndType 28 29), (0, u "com/example/peerloom/peerloom/api/Ascii"), (0, u "isAlphanumericOr"), (0, u "(Ljava/lang/String;Ljava/lang/String;)Z"), (0, .class_ 31), (0, u "java/lang/String"), (0, .methodref 30 33), (0, .nameAndType 5 34), (0, u "([C)V"), (2, u "law"), (0, u "(JI)Z")] 3

def k1m0 : Method := { name := "<init>", desc := "()V", sig := { parameters := [], returnType := none }, accessFlags := 2, code := none }
def k1c1 : Code := { maxStack := 5, maxLocals := 15, code := code, exceptionTable := #[], attributes := #[] }
def k1m1 : Method := { name := "law", desc := "(JI)Z", sig := { parameters := [.long, .int], returnType := some .boolean }, accessFlags := 9, code := some k1c1 }
def k1c2 : Code := { maxStack := 2, maxLocals := 8, code := method_3_code, exceptionTable := #[], attributes := #[] }
def k1m2 : Method := { name := "ok", desc := "(CICC)Z", sig := { parameters := [.char, .int, .char, .char], returnType := some .boolean }, accessFlags := 10, code := some k1c2 }
def k1c3 : Code := { maxStack := 3, maxLocals := 6, code := method_4_code, exceptionTable := #[], attributes := #[] }
def k1m3 : Method := { name := "text", desc := "(ICCCC)Ljava/lang/String;", sig := { parameters := [.int, .char, .char, .char, .char], returnType := some (.object "java/lang/String") }, accessFlags := 10, code := some k1c3 }
def k1c4 : Code := { maxStack := 3, maxLocals := 4, code := method_5_code, exceptionTable := #[], attributes := #[] }
def k1m4 : Method := { name := "punct", desc := "(ICC)Ljava/lang/String;", sig := { parameters := [.int, .char, .char], returnType := some (.object "java/lang/String") }, accessFlags := 10, code := some k1c4 }
/-- com/example/peerloom/peerloom/api/AsciiIsAlphanumericOrPinLaw -/
def k1 : Class := { plain "com/example/peerloom/peerloom/api/AsciiIsAlphanumericOrPinLaw" (some 0) with
  accessFlags := 49
  interfaces := #[]
  cf := some (fileOf pool1 11 #[] #[{ accessFlags := 2, nameIndex := 5, descriptorIndex := 6, attributes := #[] }, { accessFlags := 9, nameIndex := 37, descriptorIndex := 38, attributes := #[] }, { accessFlags := 10, nameIndex := 22, descriptorIndex := 23, attributes := #[] }, { accessFlags := 10, nameIndex := 14, descriptorIndex := 15, attributes := #[] }, { accessFlags := 10, nameIndex := 18, descriptorIndex := 19, attributes := #[] }] 49 2 #[] #[])
  fields := #[]
  methods := #[k1m0, k1m1, k1m2, k1m3, k1m4]
  instanceTypes := #[]
  staticTypes := #[]
  resolved := Array.replicate 42 none
  statics := none }

def pool2 : Array CpInfo := pool [(1, .class_ 2), (0, u "java/io/Serializable"), (0, .class_ 4), (0, u "java/lang/Object")] 2

/-- java/io/Serializable -/
def k2 : Class := { plain "java/io/Serializable" (some 0) with
  accessFlags := 1537
  interfaces := #[]
  cf := some (fileOf pool2 1 #[] #[] 1537 3 #[] #[])
  fields := #[]
  methods := #[]
  instanceTypes := #[]
  staticTypes := #[]
  resolved := Array.replicate 7 none
  statics := none }

def pool3 : Array CpInfo := pool [(1, .class_ 2), (0, u "java/lang/Comparable"), (0, .class_ 4), (0, u "java/lang/Object")] 7

/-- java/lang/Comparable -/
def k3 : Class := { plain "java/lang/Comparable" (some 0) with
  accessFlags := 1537
  interfaces := #[]
  cf := some (fileOf pool3 1 #[] #[] 1537 3 #[] #[])
  fields := #[]
  methods := #[]
  instanceTypes := #[]
  staticTypes := #[]
  resolved := Array.replicate 12 none
  statics := none }

def pool4 : Array CpInfo := pool [(2, .class_ 4), (1, u "java/lang/CharSequence"), (42, .class_ 48), (0, u "java/lang/CharSequence$1CodePointIterator"), (10, .class_ 60), (0, u "java/lang/CharSequence$1CharIterator"), (5, .class_ 67), (0, u "java/lang/Object")] 63

/-- java/lang/CharSequence -/
def k4 : Class := { plain "java/lang/CharSequence" (some 0) with
  accessFlags := 1537
  interfaces := #[]
  cf := some (fileOf pool4 2 #[.nestMembers #[47, 59]] #[] 1537 66 #[] #[])
  fields := #[]
  methods := #[]
  instanceTypes := #[]
  staticTypes := #[]
  resolved := Array.replicate 131 none
  statics := none }

def pool5 : Array CpInfo := pool [(1, .class_ 2), (0, u "java/lang/constant/Constable"), (0, .class_ 4), (0, u "java/lang/Object")] 6

/-- java/lang/constant/Constable -/
def k5 : Class := { plain "java/lang/constant/Constable" (some 0) with
  accessFlags := 1537
  interfaces := #[]
  cf := some (fileOf pool5 1 #[] #[] 1537 3 #[] #[])
  fields := #[]
  methods := #[]
  instanceTypes := #[]
  staticTypes := #[]
  resolved := Array.replicate 11 none
  statics := none }

def pool6 : Array CpInfo := pool [(1, .class_ 2), (0, u "java/lang/constant/ConstantDesc"), (0, .class_ 4), (0, u "java/lang/Object")] 32

/-- java/lang/constant/ConstantDesc -/
def k6 : Class := { plain "java/lang/constant/ConstantDesc" (some 0) with
  accessFlags := 1537
  interfaces := #[]
  cf := some (fileOf pool6 1 #[] #[] 1537 3 #[] #[])
  fields := #[]
  methods := #[]
  instanceTypes := #[]
  staticTypes := #[]
  resolved := Array.replicate 37 none
  statics := none }

def pool7 : Array CpInfo := pool [(1, .methodref 2 3), (0, .class_ 4), (0, .nameAndType 5 6), (0, u "java/lang/Object"), (0, u "<init>"), (0, u "()V"), (0, .string 8), (0, u ""), (0, .fieldref 10 11), (0, .class_ 12), (0, .nameAndType 13 14), (0, u "java/lang/String"), (0, u "value"), (0, u "[B"), (0, .fieldref 10 16), (0, .nameAndType 17 18), (0, u "coder"), (0, u "B"), (2, u "hash"), (0, u "I"), (2, u "hashIsZero"), (0, u "Z"), (0, .methodref 10 28), (0, .nameAndType 5 29), (0, u "([CIILjava/lang/Void;)V"), (8, .fieldref 10 39), (0, .nameAndType 40 26), (0, u "COMPACT_STRINGS"), (1, .class_ 44), (1, u "java/lang/StringUTF16"), (0, u "compress"), (1, .methodref 42 48), (0, .nameAndType 49 50), (0, u "coderFromArrayLen"), (0, u "([BI)B"), (56, .class_ 109), (1, u "java/lang/StringLatin1"), (32, u "()Z"), (34, .methodref 42 178), (0, .nameAndType 45 179), (0, u "([CII)[B"), (154, u "()I"), (0, .methodref 10 336), (0, .nameAndType 17 337), (0, u "()B"), (25, u "([BI)C"), (27, u "(II)V"), (35, u "(I)C"), (64, .methodref 10 493), (0, .nameAndType 494 142), (0, u "isLatin1"), (0, .methodref 107 496), (0, .nameAndType 497 363), (0, u "charAt"), (3, u "checkIndex"), (3, .methodref 10 506), (0, .nameAndType 507 334), (0, u "length"), (67, .class_ 576), (0, u "java/lang/CharSequence"), (22, u "CASE_INSENSITIVE_ORDER"), (0, u "Ljava/util/Comparator;"), (32, .methodref 10 634), (0, .nameAndType 635 636), (0, u "indexOf"), (0, u "(II)I"), (0, .methodref 107 638), (0, .nameAndType 635 639), (0, u "([BIII)I"), (52, u "isEmpty"), (72, u "(I)I"), (244, u "([C)V"), (42, .fieldref 1054 1055), (0, .class_ 1056), (0, .nameAndType 1057 1058), (0, u "jdk/internal/util/Preconditions"), (0, u "SIOOBE_FORMATTER"), (0, u "Ljava/util/function/BiFunction;"), (0, .methodref 1054 1060), (0, .nameAndType 501 1061), (0, u "(IILjava/util/function/BiFunction;)I"), (39, u "serialPersistentFields"), (0, u "[Ljava/io/ObjectStreamField;"), (0, .class_ 1104), (0, u "java/lang/String$CaseInsensitiveComparator"), (1, .class_ 1107), (0, u "java/io/Serializable"), (0, .class_ 1109), (0, u "java/lang/Comparable"), (0, .class_ 1111), (0, u "java/lang/constant/Constable"), (0, .class_ 1113), (0, u "java/lang/constant/ConstantDesc"), (2, u "serialVersionUID"), (0, u "J"), (3, u "REPL"), (0, u "C"), (2, u "LATIN1"), (1, u "UTF16")] 323

def k7m0 : Method := { name := "<init>", desc := "()V", sig := { parameters := [], returnType := none }, accessFlags := 1, code := none }
def k7c1 : Code := { maxStack := 5, maxLocals := 2, code := jdk_42_method_3_code, exceptionTable := #[], attributes := #[] }
def k7m1 : Method := { name := "<init>", desc := "([C)V", sig := { parameters := [(.array .char)], returnType := none }, accessFlags := 1, code := some k7c1 }
def k7c2 : Code := { maxStack := 2, maxLocals := 1, code := jdk_42_method_54_code, exceptionTable := #[], attributes := #[] }
def k7m2 : Method := { name := "length", desc := "()I", sig := { parameters := [], returnType := some .int }, accessFlags := 1, code := some k7c2 }
def k7c3 : Code := { maxStack := 1, maxLocals := 1, code := jdk_42_method_55_code, exceptionTable := #[], attributes := #[] }
def k7m3 : Method := { name := "isEmpty", desc := "()Z", sig := { parameters := [], returnType := some .boolean }, accessFlags := 1, code := some k7c3 }
def k7c4 : Code := { maxStack := 2, maxLocals := 2, code := jdk_42_method_56_code, exceptionTable := #[], attributes := #[] }
def k7m4 : Method := { name := "charAt", desc := "(I)C", sig := { parameters := [.int], returnType := some .char }, accessFlags := 1, code := some k7c4 }
def k7c5 : Code := { maxStack := 3, maxLocals := 2, code := jdk_42_method_79_code, exceptionTable := #[], attributes := #[] }
def k7m5 : Method := { name := "indexOf", desc := "(I)I", sig := { parameters := [.int], returnType := some .int }, accessFlags := 1, code := some k7c5 }
def k7c6 : Code := { maxStack := 4, maxLocals := 3, code := jdk_42_method_80_code, exceptionTable := #[], attributes := #[] }
def k7m6 : Method := { name := "indexOf", desc := "(II)I", sig := { parameters := [.int, .int], returnType := some .int }, accessFlags := 1, code := some k7c6 }
def k7c7 : Code := { maxStack := 4, maxLocals := 6, code := jdk_42_method_149_code, exceptionTable := #[], attributes := #[] }
def k7m7 : Method := { name := "<init>", desc := "([CIILjava/lang/Void;)V", sig := { parameters := [(.array .char), .int, .int, (.object "java/lang/Void")], returnType := none }, accessFlags := 2, code := some k7c7 }
def k7c8 : Code := { maxStack := 1, maxLocals := 1, code := jdk_42_method_152_code, exceptionTable := #[], attributes := #[] }
def k7m8 : Method := { name := "coder", desc := "()B", sig := { parameters := [], returnType := some .byte }, accessFlags := 0, code := some k7c8 }
def k7c9 : Code := { maxStack := 1, maxLocals := 1, code := jdk_42_method_154_code, exceptionTable := #[], attributes := #[] }
def k7m9 : Method := { name := "isLatin1", desc := "()Z", sig := { parameters := [], returnType := some .boolean }, accessFlags := 0, code := some k7c9 }
def k7c10 : Code := { maxStack := 3, maxLocals := 2, code := jdk_42_method_155_code, exceptionTable := #[], attributes := #[] }
def k7m10 : Method := { name := "checkIndex", desc := "(II)V", sig := { parameters := [.int, .int], returnType := none }, accessFlags := 8, code := some k7c10 }
/-- java/lang/String -/
def k7 : Class := { plain "java/lang/String" (some 0) with
  accessFlags := 49
  interfaces := #[2, 3, 4, 5, 6]
  cf := some (fileOf pool7 10 #[.nestMembers #[1103]] #[{ accessFlags := 1, nameIndex := 5, descriptorIndex := 6, attributes := #[] }, { accessFlags := 1, nameIndex := 5, descriptorIndex := 1010, attributes := #[] }, { accessFlags := 1, nameIndex := 507, descriptorIndex := 334, attributes := #[] }, { accessFlags := 1, nameIndex := 692, descriptorIndex := 142, attributes := #[] }, { accessFlags := 1, nameIndex := 497, descriptorIndex := 427, attributes := #[] }, { accessFlags := 1, nameIndex := 635, descriptorIndex := 765, attributes := #[] }, { accessFlags := 1, nameIndex := 635, descriptorIndex := 636, attributes := #[] }, { accessFlags := 2, nameIndex := 5, descriptorIndex := 29, attributes := #[] }, { accessFlags := 0, nameIndex := 17, descriptorIndex := 337, attributes := #[] }, { accessFlags := 0, nameIndex := 494, descriptorIndex := 142, attributes := #[] }, { accessFlags := 8, nameIndex := 501, descriptorIndex := 391, attributes := #[] }] 49 2 #[1106, 1108, 575, 1110, 1112] #[{ accessFlags := 18, nameIndex := 13, descriptorIndex := 14, attributes := #[] }, { accessFlags := 18, nameIndex := 17, descriptorIndex := 18, attributes := #[] }, { accessFlags := 2, nameIndex := 21, descriptorIndex := 22, attributes := #[] }, { accessFlags := 2, nameIndex := 25, descriptorIndex := 26, attributes := #[] }, { accessFlags := 26, nameIndex := 1116, descriptorIndex := 1117, attributes := #[] }, { accessFlags := 24, nameIndex := 40, descriptorIndex := 26, attributes := #[] }, { accessFlags := 26, nameIndex := 1101, descriptorIndex := 1102, attributes := #[] }, { accessFlags := 26, nameIndex := 1121, descriptorIndex := 1122, attributes := #[] }, { accessFlags := 25, nameIndex := 599, descriptorIndex := 600, attributes := #[] }, { accessFlags := 24, nameIndex := 1125, descriptorIndex := 18, attributes := #[] }, { accessFlags := 24, nameIndex := 1127, descriptorIndex := 18, attributes := #[] }])
  fields := #[{ name := "value", type := (.array .byte), accessFlags := 18, slot := 0, constantValue := 0 }, { name := "coder", type := .byte, accessFlags := 18, slot := 1, constantValue := 0 }, { name := "hash", type := .int, accessFlags := 2, slot := 2, constantValue := 0 }, { name := "hashIsZero", type := .boolean, accessFlags := 2, slot := 3, constantValue := 0 }, { name := "serialVersionUID", type := .long, accessFlags := 26, slot := 0, constantValue := 0 }, { name := "COMPACT_STRINGS", type := .boolean, accessFlags := 24, slot := 1, constantValue := 0 }, { name := "serialPersistentFields", type := (.array (.object "java/io/ObjectStreamField")), accessFlags := 26, slot := 2, constantValue := 0 }, { name := "REPL", type := .char, accessFlags := 26, slot := 3, constantValue := 0 }, { name := "CASE_INSENSITIVE_ORDER", type := (.object "java/util/Comparator"), accessFlags := 25, slot := 4, constantValue := 0 }, { name := "LATIN1", type := .byte, accessFlags := 24, slot := 5, constantValue := 0 }, { name := "UTF16", type := .byte, accessFlags := 24, slot := 6, constantValue := 0 }]
  methods := #[k7m0, k7m1, k7m2, k7m3, k7m4, k7m5, k7m6, k7m7, k7m8, k7m9, k7m10]
  instanceTypes := #[(.array .byte), .byte, .int, .boolean]
  staticTypes := #[.long, .boolean, (.array (.object "java/io/ObjectStreamField")), .char, (.object "java/util/Comparator"), .byte, .byte]
  resolved := Array.replicate 1451 none
  statics := some 0 }

def pool8 : Array CpInfo := pool [(2, .class_ 4), (1, u "java/lang/Object"), (0, u "<init>"), (0, u "()V"), (0, .methodref 8 9), (0, .class_ 10), (0, .nameAndType 11 12), (0, u "java/lang/String"), (0, u "isEmpty"), (0, u "()Z"), (0, .methodref 8 14), (0, .nameAndType 15 16), (0, u "length"), (0, u "()I"), (0, .methodref 8 18), (0, .nameAndType 19 20), (0, u "charAt"), (0, u "(I)C"), (0, .methodref 22 23), (0, .class_ 24), (0, .nameAndType 25 26), (0, u "com/example/peerloom/peerloom/api/Ascii"), (0, u "isAlphanumericOr"), (0, u "(CLjava/lang/String;)Z"), (0, .methodref 8 28), (0, .nameAndType 29 30), (0, u "indexOf"), (0, u "(I)I"), (2, u "(Ljava/lang/String;Ljava/lang/String;)Z")] 3

def k8m0 : Method := { name := "<init>", desc := "()V", sig := { parameters := [], returnType := none }, accessFlags := 2, code := none }
def k8c1 : Code := { maxStack := 2, maxLocals := 3, code := prog_5_method_2_code, exceptionTable := #[], attributes := #[] }
def k8m1 : Method := { name := "isAlphanumericOr", desc := "(Ljava/lang/String;Ljava/lang/String;)Z", sig := { parameters := [(.object "java/lang/String"), (.object "java/lang/String")], returnType := some .boolean }, accessFlags := 8, code := some k8c1 }
def k8c2 : Code := { maxStack := 2, maxLocals := 3, code := prog_5_method_3_code, exceptionTable := #[], attributes := #[] }
def k8m2 : Method := { name := "isAlphanumericOr", desc := "(CLjava/lang/String;)Z", sig := { parameters := [.char, (.object "java/lang/String")], returnType := some .boolean }, accessFlags := 8, code := some k8c2 }
/-- com/example/peerloom/peerloom/api/Ascii -/
def k8 : Class := { plain "com/example/peerloom/peerloom/api/Ascii" (some 0) with
  accessFlags := 48
  interfaces := #[]
  cf := some (fileOf pool8 22 #[] #[{ accessFlags := 2, nameIndex := 5, descriptorIndex := 6, attributes := #[] }, { accessFlags := 8, nameIndex := 25, descriptorIndex := 33, attributes := #[] }, { accessFlags := 8, nameIndex := 25, descriptorIndex := 26, attributes := #[] }] 48 2 #[] #[])
  fields := #[]
  methods := #[k8m0, k8m1, k8m2]
  instanceTypes := #[]
  staticTypes := #[]
  resolved := Array.replicate 37 none
  statics := none }

def pool9 : Array CpInfo := pool [(6, .class_ 8), (1, u "java/lang/Object"), (0, u "<init>"), (0, u "()V"), (1, .class_ 14), (1, u "java/lang/StringUTF16"), (31, u "$assertionsDisabled"), (0, u "Z"), (13, u "HI_BYTE_SHIFT"), (0, u "I"), (2, u "LO_BYTE_SHIFT"), (49, .methodref 12 116), (0, .nameAndType 117 118), (0, u "compress"), (0, u "([CI[BII)I"), (3, u "([CII)[B"), (138, u "coderFromArrayLen"), (0, u "([BI)B"), (106, .class_ 371), (1, u "java/lang/StringUTF16$LinesSpliterator"), (58, u "MAX_LENGTH"), (196, .class_ 628), (0, u "java/lang/StringUTF16$CodePointsSpliterator"), (0, .class_ 630), (0, u "java/lang/StringUTF16$CharsSpliterator")] 4

def k9m0 : Method := { name := "<init>", desc := "()V", sig := { parameters := [], returnType := none }, accessFlags := 0, code := none }
def k9c1 : Code := { maxStack := 2, maxLocals := 2, code := jdk_52_method_15_code, exceptionTable := #[], attributes := #[] }
def k9m1 : Method := { name := "coderFromArrayLen", desc := "([BI)B", sig := { parameters := [(.array .byte), .int], returnType := some .byte }, accessFlags := 8, code := some k9c1 }
def k9c2 : Code := { maxStack := 5, maxLocals := 6, code := jdk_52_method_16_code, exceptionTable := #[], attributes := #[] }
def k9m2 : Method := { name := "compress", desc := "([CII)[B", sig := { parameters := [(.array .char), .int, .int], returnType := some (.array .byte) }, accessFlags := 9, code := some k9c2 }
def k9c3 : Code := { maxStack := 3, maxLocals := 7, code := jdk_52_method_21_code, exceptionTable := #[], attributes := #[] }
def k9m3 : Method := { name := "compress", desc := "([CI[BII)I", sig := { parameters := [(.array .char), .int, (.array .byte), .int, .int], returnType := some .int }, accessFlags := 9, code := some k9c3 }
/-- java/lang/StringUTF16 -/
def k9 : Class := { plain "java/lang/StringUTF16" (some 0) with
  accessFlags := 48
  interfaces := #[]
  cf := some (fileOf pool9 12 #[.nestMembers #[627, 629, 369]] #[{ accessFlags := 0, nameIndex := 9, descriptorIndex := 10, attributes := #[] }, { accessFlags := 8, nameIndex := 261, descriptorIndex := 262, attributes := #[] }, { accessFlags := 9, nameIndex := 117, descriptorIndex := 122, attributes := #[] }, { accessFlags := 9, nameIndex := 117, descriptorIndex := 118, attributes := #[] }] 48 6 #[] #[{ accessFlags := 26, nameIndex := 61, descriptorIndex := 62, attributes := #[] }, { accessFlags := 26, nameIndex := 65, descriptorIndex := 62, attributes := #[] }, { accessFlags := 24, nameIndex := 430, descriptorIndex := 62, attributes := #[] }, { accessFlags := 4120, nameIndex := 46, descriptorIndex := 47, attributes := #[] }])
  fields := #[{ name := "HI_BYTE_SHIFT", type := .int, accessFlags := 26, slot := 0, constantValue := 0 }, { name := "LO_BYTE_SHIFT", type := .int, accessFlags := 26, slot := 1, constantValue := 0 }, { name := "MAX_LENGTH", type := .int, accessFlags := 24, slot := 2, constantValue := 0 }, { name := "$assertionsDisabled", type := .boolean, accessFlags := 4120, slot := 3, constantValue := 0 }]
  methods := #[k9m0, k9m1, k9m2, k9m3]
  instanceTypes := #[]
  staticTypes := #[.int, .int, .int, .boolean]
  resolved := Array.replicate 635 none
  statics := none }

def pool10 : Array CpInfo := pool [(1, .class_ 2), (0, u "java/lang/String"), (1, .class_ 6), (1, u "java/lang/Object"), (0, u "<init>"), (0, u "()V"), (0, .methodref 1 10), (0, .nameAndType 11 12), (0, u "checkIndex"), (0, u "(II)V"), (1, .class_ 16), (1, u "java/lang/StringLatin1"), (21, .methodref 39 40), (0, .class_ 41), (0, .nameAndType 42 43), (0, u "java/lang/Math"), (0, u "min"), (0, u "(II)I"), (9, u "([BI)C"), (34, .methodref 14 89), (0, .nameAndType 90 91), (0, u "canEncode"), (0, u "(I)Z"), (0, .methodref 39 93), (0, .nameAndType 94 43), (0, u "max"), (0, .methodref 14 96), (0, .nameAndType 97 98), (0, u "indexOfChar"), (0, u "([BIII)I"), (2, u "indexOf"), (19, u "$assertionsDisabled"), (0, u "Z"), (98, .class_ 223), (1, u "java/lang/StringLatin1$LinesSpliterator"), (28, u "charAt"), (137, .class_ 391), (0, u "java/lang/StringLatin1$CharsSpliterator")] 3

def k10m0 : Method := { name := "<init>", desc := "()V", sig := { parameters := [], returnType := none }, accessFlags := 0, code := none }
def k10c1 : Code := { maxStack := 2, maxLocals := 2, code := jdk_43_method_2_code, exceptionTable := #[], attributes := #[] }
def k10m1 : Method := { name := "charAt", desc := "([BI)C", sig := { parameters := [(.array .byte), .int], returnType := some .char }, accessFlags := 9, code := some k10c1 }
def k10c2 : Code := { maxStack := 2, maxLocals := 1, code := jdk_43_method_4_code, exceptionTable := #[], attributes := #[] }
def k10m2 : Method := { name := "canEncode", desc := "(I)Z", sig := { parameters := [.int], returnType := some .boolean }, accessFlags := 9, code := some k10c2 }
def k10c3 : Code := { maxStack := 4, maxLocals := 4, code := jdk_43_method_22_code, exceptionTable := #[], attributes := #[] }
def k10m3 : Method := { name := "indexOf", desc := "([BIII)I", sig := { parameters := [(.array .byte), .int, .int, .int], returnType := some .int }, accessFlags := 9, code := some k10c3 }
def k10c4 : Code := { maxStack := 2, maxLocals := 6, code := jdk_43_method_23_code, exceptionTable := #[], attributes := #[] }
def k10m4 : Method := { name := "indexOfChar", desc := "([BIII)I", sig := { parameters := [(.array .byte), .int, .int, .int], returnType := some .int }, accessFlags := 10, code := some k10c4 }
/-- java/lang/StringLatin1 -/
def k10 : Class := { plain "java/lang/StringLatin1" (some 0) with
  accessFlags := 48
  interfaces := #[]
  cf := some (fileOf pool10 14 #[.nestMembers #[390, 221]] #[{ accessFlags := 0, nameIndex := 7, descriptorIndex := 8, attributes := #[] }, { accessFlags := 9, nameIndex := 252, descriptorIndex := 53, attributes := #[] }, { accessFlags := 9, nameIndex := 90, descriptorIndex := 91, attributes := #[] }, { accessFlags := 9, nameIndex := 101, descriptorIndex := 98, attributes := #[] }, { accessFlags := 10, nameIndex := 97, descriptorIndex := 98, attributes := #[] }] 48 4 #[] #[{ accessFlags := 4120, nameIndex := 121, descriptorIndex := 122, attributes := #[] }])
  fields := #[{ name := "$assertionsDisabled", type := .boolean, accessFlags := 4120, slot := 0, constantValue := 0 }]
  methods := #[k10m0, k10m1, k10m2, k10m3, k10m4]
  instanceTypes := #[]
  staticTypes := #[.boolean]
  resolved := Array.replicate 395 none
  statics := none }

def pool11 : Array CpInfo := pool [(2, .class_ 4), (1, u "java/lang/Object"), (0, u "<init>"), (0, u "()V"), (17, .class_ 26), (1, u "jdk/internal/util/Preconditions"), (6, u "checkIndex"), (21, .class_ 56), (0, u "jdk/internal/util/Preconditions$4"), (57, .class_ 115), (0, u "jdk/internal/util/Preconditions$1"), (7, u "SIOOBE_FORMATTER"), (0, u "Ljava/util/function/BiFunction;"), (0, .class_ 126), (0, u "jdk/internal/util/Preconditions$2"), (3, u "AIOOBE_FORMATTER"), (0, .class_ 132), (0, u "jdk/internal/util/Preconditions$3"), (3, u "IOOBE_FORMATTER"), (41, u "(IILjava/util/function/BiFunction;)I")] 15

def k11m0 : Method := { name := "<init>", desc := "()V", sig := { parameters := [], returnType := none }, accessFlags := 1, code := none }
def k11c1 : Code := { maxStack := 3, maxLocals := 3, code := jdk_41_method_11_code, exceptionTable := #[], attributes := #[] }
def k11m1 : Method := { name := "checkIndex", desc := "(IILjava/util/function/BiFunction;)I", sig := { parameters := [.int, .int, (.object "java/util/function/BiFunction")], returnType := some .int }, accessFlags := 9, code := some k11c1 }
/-- jdk/internal/util/Preconditions -/
def k11 : Class := { plain "jdk/internal/util/Preconditions" (some 0) with
  accessFlags := 33
  interfaces := #[]
  cf := some (fileOf pool11 24 #[.nestMembers #[55, 131, 125, 114]] #[{ accessFlags := 1, nameIndex := 5, descriptorIndex := 6, attributes := #[] }, { accessFlags := 9, nameIndex := 33, descriptorIndex := 178, attributes := #[] }] 33 2 #[] #[{ accessFlags := 25, nameIndex := 123, descriptorIndex := 124, attributes := #[] }, { accessFlags := 25, nameIndex := 130, descriptorIndex := 124, attributes := #[] }, { accessFlags := 25, nameIndex := 136, descriptorIndex := 124, attributes := #[] }])
  fields := #[{ name := "SIOOBE_FORMATTER", type := (.object "java/util/function/BiFunction"), accessFlags := 25, slot := 0, constantValue := 0 }, { name := "AIOOBE_FORMATTER", type := (.object "java/util/function/BiFunction"), accessFlags := 25, slot := 1, constantValue := 0 }, { name := "IOOBE_FORMATTER", type := (.object "java/util/function/BiFunction"), accessFlags := 25, slot := 2, constantValue := 0 }]
  methods := #[k11m0, k11m1]
  instanceTypes := #[]
  staticTypes := #[(.object "java/util/function/BiFunction"), (.object "java/util/function/BiFunction"), (.object "java/util/function/BiFunction")]
  resolved := Array.replicate 194 none
  statics := some 1 }

def pool12 : Array CpInfo := pool [(1, .class_ 2), (0, u "java/lang/Math"), (1, .class_ 6), (1, u "java/lang/Object"), (0, u "<init>"), (0, u "()V"), (89, .class_ 100), (1, u "java/lang/Math$RandomNumberGeneratorHolder"), (71, u "negativeZeroFloatBits"), (0, u "J"), (2, u "negativeZeroDoubleBits"), (21, u "max"), (2, u "min"), (43, u "$assertionsDisabled"), (0, u "Z"), (88, u "(II)I"), (2, u "twoToTheDoubleScaleDown"), (0, u "D"), (4, u "twoToTheDoubleScaleUp"), (9, u "E"), (3, u "PI"), (2, u "TAU"), (2, u "DEGREES_TO_RADIANS"), (0, u "RADIANS_TO_DEGREES")] 94

def k12m0 : Method := { name := "<init>", desc := "()V", sig := { parameters := [], returnType := none }, accessFlags := 2, code := none }
def k12c1 : Code := { maxStack := 2, maxLocals := 2, code := jdk_29_method_65_code, exceptionTable := #[], attributes := #[] }
def k12m1 : Method := { name := "max", desc := "(II)I", sig := { parameters := [.int, .int], returnType := some .int }, accessFlags := 9, code := some k12c1 }
def k12c2 : Code := { maxStack := 2, maxLocals := 2, code := jdk_29_method_69_code, exceptionTable := #[], attributes := #[] }
def k12m2 : Method := { name := "min", desc := "(II)I", sig := { parameters := [.int, .int], returnType := some .int }, accessFlags := 9, code := some k12c2 }
/-- java/lang/Math -/
def k12 : Class := { plain "java/lang/Math" (some 0) with
  accessFlags := 49
  interfaces := #[]
  cf := some (fileOf pool12 1 #[.nestMembers #[98]] #[{ accessFlags := 2, nameIndex := 7, descriptorIndex := 8, attributes := #[] }, { accessFlags := 9, nameIndex := 198, descriptorIndex := 335, attributes := #[] }, { accessFlags := 9, nameIndex := 201, descriptorIndex := 335, attributes := #[] }] 49 4 #[] #[{ accessFlags := 25, nameIndex := 354, descriptorIndex := 339, attributes := #[] }, { accessFlags := 25, nameIndex := 358, descriptorIndex := 339, attributes := #[] }, { accessFlags := 25, nameIndex := 361, descriptorIndex := 339, attributes := #[] }, { accessFlags := 26, nameIndex := 364, descriptorIndex := 339, attributes := #[] }, { accessFlags := 26, nameIndex := 365, descriptorIndex := 339, attributes := #[] }, { accessFlags := 26, nameIndex := 172, descriptorIndex := 173, attributes := #[] }, { accessFlags := 26, nameIndex := 176, descriptorIndex := 173, attributes := #[] }, { accessFlags := 8, nameIndex := 344, descriptorIndex := 339, attributes := #[] }, { accessFlags := 8, nameIndex := 338, descriptorIndex := 339, attributes := #[] }, { accessFlags := 4120, nameIndex := 245, descriptorIndex := 246, attributes := #[] }])
  fields := #[{ name := "E", type := .double, accessFlags := 25, slot := 0, constantValue := 0 }, { name := "PI", type := .double, accessFlags := 25, slot := 1, constantValue := 0 }, { name := "TAU", type := .double, accessFlags := 25, slot := 2, constantValue := 0 }, { name := "DEGREES_TO_RADIANS", type := .double, accessFlags := 26, slot := 3, constantValue := 0 }, { name := "RADIANS_TO_DEGREES", type := .double, accessFlags := 26, slot := 4, constantValue := 0 }, { name := "negativeZeroFloatBits", type := .long, accessFlags := 26, slot := 5, constantValue := 0 }, { name := "negativeZeroDoubleBits", type := .long, accessFlags := 26, slot := 6, constantValue := 0 }, { name := "twoToTheDoubleScaleUp", type := .double, accessFlags := 8, slot := 7, constantValue := 0 }, { name := "twoToTheDoubleScaleDown", type := .double, accessFlags := 8, slot := 8, constantValue := 0 }, { name := "$assertionsDisabled", type := .boolean, accessFlags := 4120, slot := 9, constantValue := 0 }]
  methods := #[k12m0, k12m1, k12m2]
  instanceTypes := #[]
  staticTypes := #[.double, .double, .double, .double, .double, .long, .long, .double, .double, .boolean]
  resolved := Array.replicate 460 none
  statics := none }

def pool13 : Array CpInfo := pool [(9, u "<init>"), (6, .class_ 18), (1, u "java/lang/Object"), (0, u "()V"), (1, .class_ 23), (1, u "jdk/internal/util/ArraysSupport"), (0, u "LOG2_ARRAY_LONG_INDEX_SCALE"), (0, u "I"), (2, u "U"), (0, u "Ljdk/internal/misc/Unsafe;"), (8, u "BIG_ENDIAN"), (0, u "Z"), (8, u "LOG2_BYTE_BIT_SIZE"), (4, u "LOG2_ARRAY_INT_INDEX_SCALE"), (54, u "JLA"), (0, u "Ljdk/internal/access/JavaLangAccess;"), (11, u "LOG2_ARRAY_BOOLEAN_INDEX_SCALE"), (9, u "LOG2_ARRAY_BYTE_INDEX_SCALE"), (5, u "LOG2_ARRAY_CHAR_INDEX_SCALE"), (5, u "LOG2_ARRAY_SHORT_INDEX_SCALE"), (18, u "LOG2_ARRAY_FLOAT_INDEX_SCALE"), (24, u "LOG2_ARRAY_DOUBLE_INDEX_SCALE"), (89, u "T_BOOLEAN"), (2, u "T_CHAR"), (1, u "T_FLOAT"), (1, u "T_DOUBLE"), (1, u "T_BYTE"), (1, u "T_SHORT"), (1, u "T_INT"), (1, u "T_LONG"), (1, u "SOFT_MAX_ARRAY_LENGTH")] 83

def k13m0 : Method := { name := "<init>", desc := "()V", sig := { parameters := [], returnType := none }, accessFlags := 2, code := none }
/-- jdk/internal/util/ArraysSupport -/
def k13 : Class := { plain "jdk/internal/util/ArraysSupport" (some 0) with
  accessFlags := 33
  interfaces := #[]
  cf := some (fileOf pool13 21 #[] #[{ accessFlags := 2, nameIndex := 9, descriptorIndex := 19, attributes := #[] }] 33 16 #[] #[{ accessFlags := 24, nameIndex := 28, descriptorIndex := 29, attributes := #[] }, { accessFlags := 26, nameIndex := 38, descriptorIndex := 39, attributes := #[] }, { accessFlags := 25, nameIndex := 121, descriptorIndex := 25, attributes := #[] }, { accessFlags := 25, nameIndex := 131, descriptorIndex := 25, attributes := #[] }, { accessFlags := 25, nameIndex := 137, descriptorIndex := 25, attributes := #[] }, { accessFlags := 25, nameIndex := 143, descriptorIndex := 25, attributes := #[] }, { accessFlags := 25, nameIndex := 53, descriptorIndex := 25, attributes := #[] }, { accessFlags := 25, nameIndex := 24, descriptorIndex := 25, attributes := #[] }, { accessFlags := 25, nameIndex := 162, descriptorIndex := 25, attributes := #[] }, { accessFlags := 25, nameIndex := 187, descriptorIndex := 25, attributes := #[] }, { accessFlags := 26, nameIndex := 48, descriptorIndex := 25, attributes := #[] }, { accessFlags := 25, nameIndex := 277, descriptorIndex := 25, attributes := #[] }, { accessFlags := 25, nameIndex := 280, descriptorIndex := 25, attributes := #[] }, { accessFlags := 25, nameIndex := 282, descriptorIndex := 25, attributes := #[] }, { accessFlags := 25, nameIndex := 284, descriptorIndex := 25, attributes := #[] }, { accessFlags := 25, nameIndex := 286, descriptorIndex := 25, attributes := #[] }, { accessFlags := 25, nameIndex := 288, descriptorIndex := 25, attributes := #[] }, { accessFlags := 25, nameIndex := 290, descriptorIndex := 25, attributes := #[] }, { accessFlags := 25, nameIndex := 292, descriptorIndex := 25, attributes := #[] }, { accessFlags := 26, nameIndex := 108, descriptorIndex := 109, attributes := #[] }, { accessFlags := 25, nameIndex := 294, descriptorIndex := 25, attributes := #[] }])
  fields := #[{ name := "U", type := (.object "jdk/internal/misc/Unsafe"), accessFlags := 24, slot := 0, constantValue := 0 }, { name := "BIG_ENDIAN", type := .boolean, accessFlags := 26, slot := 1, constantValue := 0 }, { name := "LOG2_ARRAY_BOOLEAN_INDEX_SCALE", type := .int, accessFlags := 25, slot := 2, constantValue := 0 }, { name := "LOG2_ARRAY_BYTE_INDEX_SCALE", type := .int, accessFlags := 25, slot := 3, constantValue := 0 }, { name := "LOG2_ARRAY_CHAR_INDEX_SCALE", type := .int, accessFlags := 25, slot := 4, constantValue := 0 }, { name := "LOG2_ARRAY_SHORT_INDEX_SCALE", type := .int, accessFlags := 25, slot := 5, constantValue := 0 }, { name := "LOG2_ARRAY_INT_INDEX_SCALE", type := .int, accessFlags := 25, slot := 6, constantValue := 0 }, { name := "LOG2_ARRAY_LONG_INDEX_SCALE", type := .int, accessFlags := 25, slot := 7, constantValue := 0 }, { name := "LOG2_ARRAY_FLOAT_INDEX_SCALE", type := .int, accessFlags := 25, slot := 8, constantValue := 0 }, { name := "LOG2_ARRAY_DOUBLE_INDEX_SCALE", type := .int, accessFlags := 25, slot := 9, constantValue := 0 }, { name := "LOG2_BYTE_BIT_SIZE", type := .int, accessFlags := 26, slot := 10, constantValue := 0 }, { name := "T_BOOLEAN", type := .int, accessFlags := 25, slot := 11, constantValue := 0 }, { name := "T_CHAR", type := .int, accessFlags := 25, slot := 12, constantValue := 0 }, { name := "T_FLOAT", type := .int, accessFlags := 25, slot := 13, constantValue := 0 }, { name := "T_DOUBLE", type := .int, accessFlags := 25, slot := 14, constantValue := 0 }, { name := "T_BYTE", type := .int, accessFlags := 25, slot := 15, constantValue := 0 }, { name := "T_SHORT", type := .int, accessFlags := 25, slot := 16, constantValue := 0 }, { name := "T_INT", type := .int, accessFlags := 25, slot := 17, constantValue := 0 }, { name := "T_LONG", type := .int, accessFlags := 25, slot := 18, constantValue := 0 }, { name := "JLA", type := (.object "jdk/internal/access/JavaLangAccess"), accessFlags := 26, slot := 19, constantValue := 0 }, { name := "SOFT_MAX_ARRAY_LENGTH", type := .int, accessFlags := 25, slot := 20, constantValue := 0 }]
  methods := #[k13m0]
  instanceTypes := #[]
  staticTypes := #[(.object "jdk/internal/misc/Unsafe"), .boolean, .int, .int, .int, .int, .int, .int, .int, .int, .int, .int, .int, .int, .int, .int, .int, .int, .int, (.object "jdk/internal/access/JavaLangAccess"), .int]
  resolved := Array.replicate 378 none
  statics := none }

def pool14 : Array CpInfo := pool [(1, u "java/lang/Cloneable"), (0, .class_ 1), (0, u "java/lang/Object"), (0, .class_ 3)] 3

/-- java/lang/Cloneable -/
def k14 : Class := { plain "java/lang/Cloneable" (some 0) with
  accessFlags := 1537
  interfaces := #[]
  cf := some (fileOf pool14 2 #[] #[] 1537 4 #[] #[])
  fields := #[]
  methods := #[]
  instanceTypes := #[]
  staticTypes := #[]
  resolved := Array.replicate 8 none
  statics := none }

/-- the primitive byte -/
def k15 : Class := { plain "byte" none with kind := .primitive 'B', accessFlags := 0x411 }
/-- [B -/
def k16 : Class := { plain "[B" (some 0) with kind := .array 15 .byte, interfaces := #[14, 2], accessFlags := 1041 }

/-- the primitive char -/
def k17 : Class := { plain "char" none with kind := .primitive 'C', accessFlags := 0x411 }
/-- [C -/
def k18 : Class := { plain "[C" (some 0) with kind := .array 17 .char, interfaces := #[14, 2], accessFlags := 1041 }

/-- the primitive int -/
def k19 : Class := { plain "int" none with kind := .primitive 'I', accessFlags := 0x411 }
/-- [I -/
def k20 : Class := { plain "[I" (some 0) with kind := .array 19 .int, interfaces := #[14, 2], accessFlags := 1041 }

def heap : Heap := #[{ cls := 7, slots := #[.long 0, .int 1, .null, .int 0, .null, .int 0, .int 0], vm := .statics 7 },
  { cls := 11, slots := #[.null, .null, .null], vm := .statics 11 }]
def classes : Array Class := #[k0, k1, k2, k3, k4, k5, k6, k7, k8, k9, k10, k11, k12, k13, k14, k15, k16, k17, k18, k19, k20]
def interned : List (Array UInt16 × Addr) := []
def slotsUsed : Nat := 10
def theMethod : MethodId := ⟨1, 1⟩
def args0 : Array Value := #[.long 5, .int 6]
def aboutOver (below : List Frame) : State where
  vm := { classes := classes, interned := interned.toArray }
  heap := heap
  slotsUsed := slotsUsed
  threads := #[{ frames := .invoking theMethod args0 :: below }]
def below0 : List Frame := [.native { method := ⟨0, 0⟩, args := #[] }]
def about1 : State := aboutOver below0
def p0 : Program := .bare "" "" ""
def e0 : Env := launch0.env 0 0 0
theorem w_frames : about1.frames = Frame.invoking theMethod args0 :: below0 := rfl
set_option maxRecDepth 65536 in
theorem w_args : argsFit about1.vm theMethod args0 = true := by decide +kernel
set_option maxRecDepth 65536 in
theorem w_heap : heapFits about1 = true := by decide +kernel
set_option maxRecDepth 65536 in
theorem w_runnable : about1.curStatus? = some .runnable := by decide +kernel
set_option maxRecDepth 65536 in
theorem w_alone : about1.alone = true := by decide +kernel
set_option maxRecDepth 65536 in
theorem w_named : about1.methodNamed? x = some theMethod := by decide +kernel
set_option maxRecDepth 65536 in
theorem w_hears : about1.hears theMethod below0 = true := by decide +kernel
set_option maxRecDepth 65536 in
theorem w_ripe : about1.ripe theMethod args0 below0 = true := by decide +kernel
theorem w_running : about1.status = .running := rfl
set_option maxRecDepth 65536 in
theorem w_room : about1.hasRoom e0.platform room_1 = true :=
  launch0.hasRoom_least _ room_1 (by decide +kernel) (by decide +kernel) (by decide +kernel) (by decide +kernel) (by decide +kernel) (by decide +kernel)
theorem allAtoms_all (ts : List Jvm.Cond) (a : Array Jvm.Value) (st : Jvm.State) : (allAtoms ts).before a st = ts.all (fun c => c.before a st) := by
  induction ts with
  | nil => rfl
  | cons c t ih =>
    show (Jvm.Cond.and c (allAtoms t)).before a st = _
    rw [Jvm.Cond.before_and, ih, List.all_cons]
def words1 : List Jvm.Cond := Jvm.Cond.code x code maxLocals ret :: tables_1
/-- a 'code' word, met by the world's own term for the bytes: nothing is compared byte by byte -/
theorem code_word {y : MethodName} {bytes : ByteArray} {mx : Nat} {rt : Option FieldType} {a : Array Value} {s : State} {m : MethodId} {meth : Method} {c : Code} (h1 : s.methodNamed? y = some m) (h2 : s.vm.method? m = some meth) (h3 : meth.code = some c) (h4 : c.code = bytes)
    (h5 : (c.maxLocals == mx && c.exceptionTable.isEmpty && decide (c.maxStack ≤ mostOperands) && decide (meth.sig.returnType = rt) && !meth.locks && decide (parseMethodDescriptor y.desc = some meth.sig)) = true) : (Jvm.Cond.code y bytes mx rt).before a s = true := by
  simp only [Bool.and_eq_true, beq_iff_eq, Bool.not_eq_true', decide_eq_true_eq] at h5
  obtain ⟨⟨⟨⟨⟨g1, g2⟩, g3⟩, g4⟩, g5⟩, g6⟩ := h5
  simp [Cond.before, Cond.holds, Cond.value, h1, h2, h3, h4, g1, g2, g3, g4, g5, g6]
def isCode : Jvm.Cond → Bool
  | .code _ _ _ _ => true
  | _ => false
theorem all_split {L : List Jvm.Cond} {P : Jvm.Cond → Bool} (h1 : L.all (fun c => isCode c || P c) = true) (h2 : ∀ c ∈ L.filter isCode, P c = true) : L.all P = true := by
  refine List.all_eq_true.mpr fun c hc => ?_
  have h := List.all_eq_true.mp h1 c hc
  rcases Bool.eq_false_or_eq_true (isCode c) with hi | hi
  · exact h2 c (List.mem_filter.mpr ⟨hc, hi⟩)
  · simpa [hi] using h
set_option maxRecDepth 65536 in
theorem w_c0 : (Jvm.Cond.code x code maxLocals ret).before args0 about1 = true := code_word (m := ⟨1, 1⟩) (meth := k1m1) (c := k1c1) (by decide +kernel) rfl rfl rfl (by decide +kernel)
set_option maxRecDepth 65536 in
theorem w_c1 : (Jvm.Cond.code ({ cls := "com/example/peerloom/peerloom/api/AsciiIsAlphanumericOrPinLaw", name := "text", desc := "(ICCCC)Ljava/lang/String;" } : Jvm.MethodName) method_4_code (6 : Nat) (Option.some (Jvm.ClassFile.FieldType.object "java/lang/String"))).before args0 about1 = true := code_word (m := ⟨1, 3⟩) (meth := k1m3) (c := k1c3) (by decide +kernel) rfl rfl rfl (by decide +kernel)
set_option maxRecDepth 65536 in
theorem w_c2 : (Jvm.Cond.code ({ cls := "java/lang/String", name := "<init>", desc := "([C)V" } : Jvm.MethodName) jdk_42_method_3_code (2 : Nat) (Option.none : Option Jvm.ClassFile.FieldType)).before args0 about1 = true := code_word (m := ⟨7, 1⟩) (meth := k7m1) (c := k7c1) (by decide +kernel) rfl rfl rfl (by decide +kernel)
set_option maxRecDepth 65536 in
theorem w_c3 : (Jvm.Cond.code ({ cls := "java/lang/String", name := "<init>", desc := "([CIILjava/lang/Void;)V" } : Jvm.MethodName) jdk_42_method_149_code (6 : Nat) (Option.none : Option Jvm.ClassFile.FieldType)).before args0 about1 = true := code_word (m := ⟨7, 7⟩) (meth := k7m7) (c := k7c7) (by decide +kernel) rfl rfl rfl (by decide +kernel)
set_option maxRecDepth 65536 in
theorem w_c4 : (Jvm.Cond.code ({ cls := "java/lang/Object", name := "<init>", desc := "()V" } : Jvm.MethodName) object_method_1_code (1 : Nat) (Option.none : Option Jvm.ClassFile.FieldType)).before args0 about1 = true := code_word (m := ⟨0, 0⟩) (meth := k0m0) (c := k0c0) (by decide +kernel) rfl rfl rfl (by decide +kernel)
set_option maxRecDepth 65536 in
theorem w_c5 : (Jvm.Cond.code ({ cls := "com/example/peerloom/peerloom/api/AsciiIsAlphanumericOrPinLaw", name := "punct", desc := "(ICC)Ljava/lang/String;" } : Jvm.MethodName) method_5_code (4 : Nat) (Option.some (Jvm.ClassFile.FieldType.object "java/lang/String"))).before args0 about1 = true := code_word (m := ⟨1, 4⟩) (meth := k1m4) (c := k1c4) (by decide +kernel) rfl rfl rfl (by decide +kernel)
set_option maxRecDepth 65536 in
theorem w_c6 : (Jvm.Cond.code ({ cls := "com/example/peerloom/peerloom/api/Ascii", name := "isAlphanumericOr", desc := "(Ljava/lang/String;Ljava/lang/String;)Z" } : Jvm.MethodName) prog_5_method_2_code (3 : Nat) (Option.some Jvm.ClassFile.FieldType.boolean)).before args0 about1 = true := code_word (m := ⟨8, 1⟩) (meth := k8m1) (c := k8c1) (by decide +kernel) rfl rfl rfl (by decide +kernel)
set_option maxRecDepth 65536 in
theorem w_c7 : (Jvm.Cond.code ({ cls := "java/lang/String", name := "isEmpty", desc := "()Z" } : Jvm.MethodName) jdk_42_method_55_code (1 : Nat) (Option.some Jvm.ClassFile.FieldType.boolean)).before args0 about1 = true := code_word (m := ⟨7, 3⟩) (meth := k7m3) (c := k7c3) (by decide +kernel) rfl rfl rfl (by decide +kernel)
set_option maxRecDepth 65536 in
theorem w_c8 : (Jvm.Cond.code ({ cls := "java/lang/StringUTF16", name := "compress", desc := "([CII)[B" } : Jvm.MethodName) jdk_52_method_16_code (6 : Nat) (Option.some (Jvm.ClassFile.FieldType.array Jvm.ClassFile.FieldType.byte))).before args0 about1 = true := code_word (m := ⟨9, 2⟩) (meth := k9m2) (c := k9c2) (by decide +kernel) rfl rfl rfl (by decide +kernel)
set_option maxRecDepth 65536 in
theorem w_c9 : (Jvm.Cond.code ({ cls := "java/lang/StringUTF16", name := "compress", desc := "([CI[BII)I" } : Jvm.MethodName) jdk_52_method_21_code (7 : Nat) (Option.some Jvm.ClassFile.FieldType.int)).before args0 about1 = true := code_word (m := ⟨9, 3⟩) (meth := k9m3) (c := k9c3) (by decide +kernel) rfl rfl rfl (by decide +kernel)
set_option maxRecDepth 65536 in
theorem w_c10 : (Jvm.Cond.code ({ cls := "java/lang/StringUTF16", name := "coderFromArrayLen", desc := "([BI)B" } : Jvm.MethodName) jdk_52_method_15_code (2 : Nat) (Option.some Jvm.ClassFile.FieldType.byte)).before args0 about1 = true := code_word (m := ⟨9, 1⟩) (meth := k9m1) (c := k9c1) (by decide +kernel) rfl rfl rfl (by decide +kernel)
set_option maxRecDepth 65536 in
theorem w_c11 : (Jvm.Cond.code ({ cls := "com/example/peerloom/peerloom/api/AsciiIsAlphanumericOrPinLaw", name := "ok", desc := "(CICC)Z" } : Jvm.MethodName) method_3_code (8 : Nat) (Option.some Jvm.ClassFile.FieldType.boolean)).before args0 about1 = true := code_word (m := ⟨1, 2⟩) (meth := k1m2) (c := k1c2) (by decide +kernel) rfl rfl rfl (by decide +kernel)
set_option maxRecDepth 65536 in
theorem w_c12 : (Jvm.Cond.code ({ cls := "java/lang/String", name := "length", desc := "()I" } : Jvm.MethodName) jdk_42_method_54_code (1 : Nat) (Option.some Jvm.ClassFile.FieldType.int)).before args0 about1 = true := code_word (m := ⟨7, 2⟩) (meth := k7m2) (c := k7c2) (by decide +kernel) rfl rfl rfl (by decide +kernel)
set_option maxRecDepth 65536 in
theorem w_c13 : (Jvm.Cond.code ({ cls := "java/lang/String", name := "coder", desc := "()B" } : Jvm.MethodName) jdk_42_method_152_code (1 : Nat) (Option.some Jvm.ClassFile.FieldType.byte)).before args0 about1 = true := code_word (m := ⟨7, 8⟩) (meth := k7m8) (c := k7c8) (by decide +kernel) rfl rfl rfl (by decide +kernel)
set_option maxRecDepth 65536 in
theorem w_c14 : (Jvm.Cond.code ({ cls := "java/lang/String", name := "charAt", desc := "(I)C" } : Jvm.MethodName) jdk_42_method_56_code (2 : Nat) (Option.some Jvm.ClassFile.FieldType.char)).before args0 about1 = true := code_word (m := ⟨7, 4⟩) (meth := k7m4) (c := k7c4) (by decide +kernel) rfl rfl rfl (by decide +kernel)
set_option maxRecDepth 65536 in
theorem w_c15 : (Jvm.Cond.code ({ cls := "java/lang/String", name := "isLatin1", desc := "()Z" } : Jvm.MethodName) jdk_42_method_154_code (1 : Nat) (Option.some Jvm.ClassFile.FieldType.boolean)).before args0 about1 = true := code_word (m := ⟨7, 9⟩) (meth := k7m9) (c := k7c9) (by decide +kernel) rfl rfl rfl (by decide +kernel)
set_option maxRecDepth 65536 in
theorem w_c16 : (Jvm.Cond.code ({ cls := "java/lang/StringLatin1", name := "charAt", desc := "([BI)C" } : Jvm.MethodName) jdk_43_method_2_code (2 : Nat) (Option.some Jvm.ClassFile.FieldType.char)).before args0 about1 = true := code_word (m := ⟨10, 1⟩) (meth := k10m1) (c := k10c1) (by decide +kernel) rfl rfl rfl (by decide +kernel)
set_option maxRecDepth 65536 in
theorem w_c17 : (Jvm.Cond.code ({ cls := "java/lang/String", name := "checkIndex", desc := "(II)V" } : Jvm.MethodName) jdk_42_method_155_code (2 : Nat) (Option.none : Option Jvm.ClassFile.FieldType)).before args0 about1 = true := code_word (m := ⟨7, 10⟩) (meth := k7m10) (c := k7c10) (by decide +kernel) rfl rfl rfl (by decide +kernel)
set_option maxRecDepth 65536 in
theorem w_c18 : (Jvm.Cond.code ({ cls := "jdk/internal/util/Preconditions", name := "checkIndex", desc := "(IILjava/util/function/BiFunction;)I" } : Jvm.MethodName) jdk_41_method_11_code (3 : Nat) (Option.some Jvm.ClassFile.FieldType.int)).before args0 about1 = true := code_word (m := ⟨11, 1⟩) (meth := k11m1) (c := k11c1) (by decide +kernel) rfl rfl rfl (by decide +kernel)
set_option maxRecDepth 65536 in
theorem w_c19 : (Jvm.Cond.code ({ cls := "com/example/peerloom/peerloom/api/Ascii", name := "isAlphanumericOr", desc := "(CLjava/lang/String;)Z" } : Jvm.MethodName) prog_5_method_3_code (3 : Nat) (Option.some Jvm.ClassFile.FieldType.boolean)).before args0 about1 = true := code_word (m := ⟨8, 2⟩) (meth := k8m2) (c := k8c2) (by decide +kernel) rfl rfl rfl (by decide +kernel)
set_option maxRecDepth 65536 in
theorem w_c20 : (Jvm.Cond.code ({ cls := "java/lang/String", name := "indexOf", desc := "(I)I" } : Jvm.MethodName) jdk_42_method_79_code (2 : Nat) (Option.some Jvm.ClassFile.FieldType.int)).before args0 about1 = true := code_word (m := ⟨7, 5⟩) (meth := k7m5) (c := k7c5) (by decide +kernel) rfl rfl rfl (by decide +kernel)
set_option maxRecDepth 65536 in
theorem w_c21 : (Jvm.Cond.code ({ cls := "java/lang/String", name := "indexOf", desc := "(II)I" } : Jvm.MethodName) jdk_42_method_80_code (3 : Nat) (Option.some Jvm.ClassFile.FieldType.int)).before args0 about1 = true := code_word (m := ⟨7, 6⟩) (meth := k7m6) (c := k7c6) (by decide +kernel) rfl rfl rfl (by decide +kernel)
set_option maxRecDepth 65536 in
theorem w_c22 : (Jvm.Cond.code ({ cls := "java/lang/StringLatin1", name := "indexOf", desc := "([BIII)I" } : Jvm.MethodName) jdk_43_method_22_code (4 : Nat) (Option.some Jvm.ClassFile.FieldType.int)).before args0 about1 = true := code_word (m := ⟨10, 3⟩) (meth := k10m3) (c := k10c3) (by decide +kernel) rfl rfl rfl (by decide +kernel)
set_option maxRecDepth 65536 in
theorem w_c23 : (Jvm.Cond.code ({ cls := "java/lang/StringLatin1", name := "canEncode", desc := "(I)Z" } : Jvm.MethodName) jdk_43_method_4_code (1 : Nat) (Option.some Jvm.ClassFile.FieldType.boolean)).before args0 about1 = true := code_word (m := ⟨10, 2⟩) (meth := k10m2) (c := k10c2) (by decide +kernel) rfl rfl rfl (by decide +kernel)
set_option maxRecDepth 65536 in
theorem w_c24 : (Jvm.Cond.code ({ cls := "java/lang/Math", name := "max", desc := "(II)I" } : Jvm.MethodName) jdk_29_method_65_code (2 : Nat) (Option.some Jvm.ClassFile.FieldType.int)).before args0 about1 = true := code_word (m := ⟨12, 1⟩) (meth := k12m1) (c := k12c1) (by decide +kernel) rfl rfl rfl (by decide +kernel)
set_option maxRecDepth 65536 in
theorem w_c25 : (Jvm.Cond.code ({ cls := "java/lang/Math", name := "min", desc := "(II)I" } : Jvm.MethodName) jdk_29_method_69_code (2 : Nat) (Option.some Jvm.ClassFile.FieldType.int)).before args0 about1 = true := code_word (m := ⟨12, 2⟩) (meth := k12m2) (c := k12c2) (by decide +kernel) rfl rfl rfl (by decide +kernel)
set_option maxRecDepth 65536 in
theorem w_c26 : (Jvm.Cond.code ({ cls := "java/lang/StringLatin1", name := "indexOfChar", desc := "([BIII)I" } : Jvm.MethodName) jdk_43_method_23_code (6 : Nat) (Option.some Jvm.ClassFile.FieldType.int)).before args0 about1 = true := code_word (m := ⟨10, 4⟩) (meth := k10m4) (c := k10c4) (by decide +kernel) rfl rfl rfl (by decide +kernel)
def codes1 : List Jvm.Cond := [Jvm.Cond.code x code maxLocals ret, Jvm.Cond.code ({ cls := "com/example/peerloom/peerloom/api/AsciiIsAlphanumericOrPinLaw", name := "text", desc := "(ICCCC)Ljava/lang/String;" } : Jvm.MethodName) method_4_code (6 : Nat) (Option.some (Jvm.ClassFile.FieldType.object "java/lang/String")), Jvm.Cond.code ({ cls := "java/lang/String", name := "<init>", desc := "([C)V" } : Jvm.MethodName) jdk_42_method_3_code (2 : Nat) (Option.none : Option Jvm.ClassFile.FieldType), Jvm.Cond.code ({ cls := "java/lang/String", name := "<init>", desc := "([CIILjava/lang/Void;)V" } : Jvm.MethodName) jdk_42_method_149_code (6 : Nat) (Option.none : Option Jvm.ClassFile.FieldType), Jvm.Cond.code ({ cls := "java/lang/Object", name := "<init>", desc := "()V" } : Jvm.MethodName) object_method_1_code (1 : Nat) (Option.none : Option Jvm.ClassFile.FieldType), Jvm.Cond.code ({ cls := "com/example/peerloom/peerloom/api/AsciiIsAlphanumericOrPinLaw", name := "punct", desc := "(ICC)Ljava/lang/String;" } : Jvm.MethodName) method_5_code (4 : Nat) (Option.some (Jvm.ClassFile.FieldType.object "java/lang/String")), Jvm.Cond.code ({ cls := "com/example/peerloom/peerloom/api/Ascii", name := "isAlphanumericOr", desc := "(Ljava/lang/String;Ljava/lang/String;)Z" } : Jvm.MethodName) prog_5_method_2_code (3 : Nat) (Option.some Jvm.ClassFile.FieldType.boolean), Jvm.Cond.code ({ cls := "java/lang/String", name := "isEmpty", desc := "()Z" } : Jvm.MethodName) jdk_42_method_55_code (1 : Nat) (Option.some Jvm.ClassFile.FieldType.boolean), Jvm.Cond.code ({ cls := "java/lang/StringUTF16", name := "compress", desc := "([CII)[B" } : Jvm.MethodName) jdk_52_method_16_code (6 : Nat) (Option.some (Jvm.ClassFile.FieldType.array Jvm.ClassFile.FieldType.byte)), Jvm.Cond.code ({ cls := "java/lang/StringUTF16", name := "compress", desc := "([CI[BII)I" } : Jvm.MethodName) jdk_52_method_21_code (7 : Nat) (Option.some Jvm.ClassFile.FieldType.int), Jvm.Cond.code ({ cls := "java/lang/StringUTF16", name := "coderFromArrayLen", desc := "([BI)B" } : Jvm.MethodName) jdk_52_method_15_code (2 : Nat) (Option.some Jvm.ClassFile.FieldType.byte), Jvm.Cond.code ({ cls := "com/example/peerloom/peerloom/api/AsciiIsAlphanumericOrPinLaw", name := "ok", desc := "(CICC)Z" } : Jvm.MethodName) method_3_code (8 : Nat) (Option.some Jvm.ClassFile.FieldType.boolean), Jvm.Cond.code ({ cls := "java/lang/String", name := "length", desc := "()I" } : Jvm.MethodName) jdk_42_method_54_code (1 : Nat) (Option.some Jvm.ClassFile.FieldType.int), Jvm.Cond.code ({ cls := "java/lang/String", name := "coder", desc := "()B" } : Jvm.MethodName) jdk_42_method_152_code (1 : Nat) (Option.some Jvm.ClassFile.FieldType.byte), Jvm.Cond.code ({ cls := "java/lang/String", name := "charAt", desc := "(I)C" } : Jvm.MethodName) jdk_42_method_56_code (2 : Nat) (Option.some Jvm.ClassFile.FieldType.char), Jvm.Cond.code ({ cls := "java/lang/String", name := "isLatin1", desc := "()Z" } : Jvm.MethodName) jdk_42_method_154_code (1 : Nat) (Option.some Jvm.ClassFile.FieldType.boolean), Jvm.Cond.code ({ cls := "java/lang/StringLatin1", name := "charAt", desc := "([BI)C" } : Jvm.MethodName) jdk_43_method_2_code (2 : Nat) (Option.some Jvm.ClassFile.FieldType.char), Jvm.Cond.code ({ cls := "java/lang/String", name := "checkIndex", desc := "(II)V" } : Jvm.MethodName) jdk_42_method_155_code (2 : Nat) (Option.none : Option Jvm.ClassFile.FieldType), Jvm.Cond.code ({ cls := "jdk/internal/util/Preconditions", name := "checkIndex", desc := "(IILjava/util/function/BiFunction;)I" } : Jvm.MethodName) jdk_41_method_11_code (3 : Nat) (Option.some Jvm.ClassFile.FieldType.int), Jvm.Cond.code ({ cls := "com/example/peerloom/peerloom/api/Ascii", name := "isAlphanumericOr", desc := "(CLjava/lang/String;)Z" } : Jvm.MethodName) prog_5_method_3_code (3 : Nat) (Option.some Jvm.ClassFile.FieldType.boolean), Jvm.Cond.code ({ cls := "java/lang/String", name := "indexOf", desc := "(I)I" } : Jvm.MethodName) jdk_42_method_79_code (2 : Nat) (Option.some Jvm.ClassFile.FieldType.int), Jvm.Cond.code ({ cls := "java/lang/String", name := "indexOf", desc := "(II)I" } : Jvm.MethodName) jdk_42_method_80_code (3 : Nat) (Option.some Jvm.ClassFile.FieldType.int), Jvm.Cond.code ({ cls := "java/lang/StringLatin1", name := "indexOf", desc := "([BIII)I" } : Jvm.MethodName) jdk_43_method_22_code (4 : Nat) (Option.some Jvm.ClassFile.FieldType.int), Jvm.Cond.code ({ cls := "java/lang/StringLatin1", name := "canEncode", desc := "(I)Z" } : Jvm.MethodName) jdk_43_method_4_code (1 : Nat) (Option.some Jvm.ClassFile.FieldType.boolean), Jvm.Cond.code ({ cls := "java/lang/Math", name := "max", desc := "(II)I" } : Jvm.MethodName) jdk_29_method_65_code (2 : Nat) (Option.some Jvm.ClassFile.FieldType.int), Jvm.Cond.code ({ cls := "java/lang/Math", name := "min", desc := "(II)I" } : Jvm.MethodName) jdk_29_method_69_code (2 : Nat) (Option.some Jvm.ClassFile.FieldType.int), Jvm.Cond.code ({ cls := "java/lang/StringLatin1", name := "indexOfChar", desc := "([BIII)I" } : Jvm.MethodName) jdk_43_method_23_code (6 : Nat) (Option.some Jvm.ClassFile.FieldType.int)]
set_option maxRecDepth 65536 in
theorem codes_eq : words1.filter isCode = codes1 := rfl
theorem w_codes : ∀ c ∈ words1.filter isCode, c.before args0 about1 = true := by
  rw [codes_eq]
  intro c hc
  simp only [codes1, List.mem_cons, List.not_mem_nil, or_false] at hc
  rcases hc with rfl | rfl | rfl | rfl | rfl | rfl | rfl | rfl | rfl | rfl | rfl | rfl | rfl | rfl | rfl | rfl | rfl | rfl | rfl | rfl | rfl | rfl | rfl | rfl | rfl | rfl | rfl
  · exact w_c0
  · exact w_c1
  · exact w_c2
  · exact w_c3
  · exact w_c4
  · exact w_c5
  · exact w_c6
  · exact w_c7
  · exact w_c8
  · exact w_c9
  · exact w_c10
  · exact w_c11
  · exact w_c12
  · exact w_c13
  · exact w_c14
  · exact w_c15
  · exact w_c16
  · exact w_c17
  · exact w_c18
  · exact w_c19
  · exact w_c20
  · exact w_c21
  · exact w_c22
  · exact w_c23
  · exact w_c24
  · exact w_c25
  · exact w_c26
set_option maxRecDepth 65536 in
theorem w_t1 : (words1.take 24).all (fun c => isCode c || c.before args0 about1) = true := by decide +kernel
set_option maxRecDepth 65536 in
theorem w_t2 : ((words1.drop 24).take 24).all (fun c => isCode c || c.before args0 about1) = true := by decide +kernel
set_option maxRecDepth 65536 in
theorem w_t3 : (((words1.drop 24).drop 24).take 24).all (fun c => isCode c || c.before args0 about1) = true := by decide +kernel
set_option maxRecDepth 65536 in
theorem w_t4 : ((((words1.drop 24).drop 24).drop 24).take 24).all (fun c => isCode c || c.before args0 about1) = true := by decide +kernel
set_option maxRecDepth 65536 in
theorem w_t5 : ((((words1.drop 24).drop 24).drop 24).drop 24).all (fun c => isCode c || c.before args0 about1) = true := by decide +kernel
theorem w_tables : (allAtoms (Jvm.Cond.code x code maxLocals ret :: tables_1)).before args0 about1 = true := by
  rw [allAtoms_all]
  show words1.all (fun c => c.before args0 about1) = true
  refine all_split ?_ w_codes
  rw [← List.take_append_drop 24 words1, List.all_append, w_t1, ← List.take_append_drop 24 (words1.drop 24), List.all_append, w_t2, ← List.take_append_drop 24 ((words1.drop 24).drop 24), List.all_append, w_t3, ← List.take_append_drop 24 (((words1.drop 24).drop 24).drop 24), List.all_append, w_t4, w_t5]
  rfl
set_option maxRecDepth 65536 in
theorem w_rest : rest_1_c.before args0 about1 = true := by decide +kernel
set_option maxRecDepth 65536 in
theorem w_case : (Jvm.Cond.and given_1 narrow_1).before args0 about1 = true := by decide +kernel
set_option maxRecDepth 65536 in
theorem w_consts : constsHeld consts_1 about1 := Jvm.Lit.constsHeldB_iff.mp (by decide +kernel)
theorem w_applies : (headSpec (Jvm.Cond.code x code maxLocals ret :: tables_1) room_1).applies x e0.platform about1 = true :=
  (Spec.applies_iff w_frames).mpr ⟨w_running, w_runnable, w_alone, w_named, w_hears, w_ripe, w_room, w_tables⟩
theorem atStart : AtStart classFile x code maxLocals ret World_1 tables_1 room_1 Calls_1 rest_1 Pre_1 launch0 p0 e0 about1 theMethod args0 below0 :=
  ⟨lists_1, trivial, launch0.admits_env _ _ _, launch0.least_env, fairChoices_fair.cas, fairChoices_fair.clock, w_frames, w_args, w_heap, w_applies, ⟨w_consts, trivial⟩, w_rest, w_case⟩
end start1
theorem witness_1 : WitnessClaimed_1 := ⟨start1.p0, start1.e0, start1.about1, start1.theMethod, start1.args0, start1.below0, start1.atStart⟩
end Jvm.Pilot.@@N@@
