import JvmDerived
import JvmDerived.Pilot.@@N@@Statement
import JvmDerived.Pilot.@@N@@Code
set_option linter.unusedVariables false
set_option linter.unusedSimpArgs false
namespace Jvm.Pilot.@@N@@
open Jvm Jvm.ClassFile Sem Op Lib Jvm.Free Jvm.Stand Jvm.LawKit Jvm.RoadKit Bundle Jvm.Pilot.@@N@@.Jvm.D
section Kit
variable {p : Program} {l : Launch} {e : Env} {R : Room} {s : State} {m : MethodId} {args : Array Value} {below : List Frame} {meth : Method} {c : Code} {T : State} {locs : List Loc} {cells slots : Nat} {Z : State} {a0 : Array Value} {h : Heap} {own nm : String} {bytes : ByteArray} {maxL : Nat} {rt : Option FieldType} {Q : Option Value → Heap → Prop} {ce sl : Nat} {En : Option Value → State → Prop} {pc : Nat} {Ls : Array Slot} {st : List Value}
/-- where a walk stands: the state T, its heap h; all that lay in the heap at the start Z is there unchanged, and all that was written is new -/
def Cx (p : Program) (l : Launch) (e : Env) (R : Room) (s : State) (m : MethodId) (args : Array Value) (below : List Frame) (meth : Method) (c : Code) (Z : State) (own nm : String) (bytes : ByteArray) (maxL : Nat) (rt : Option FieldType) (T : State) (locs : List Loc) (cells slots : Nat) (h : Heap) : Prop :=
  Stand p l e R s m args below meth c T locs cells slots ∧ p.tables.exec = Jvm.exec ∧ Z.Warmed39 s.vm ∧ s.vm.findClass own = some m.cls ∧ c.code = bytes ∧ c.maxLocals = maxL ∧ meth.sig.returnType = rt ∧ meth.name = nm ∧ meth.locks = false ∧ T.heap = h ∧ Fr Z.heap.size locs ∧ Ext Z.heap h
/-- from this frame the body comes to its end, and En holds of what it returns and of the state there -/
def Go (p : Program) (e : Env) (below : List Frame) (En : Option Value → State → Prop) (T : State) (m : MethodId) (pc : Nat) (Ls : Array Slot) (st : List Value) : Prop :=
  ∃ s₂ v, Steps p.tables e below (T.setTop (mkF m pc Ls st)) s₂ ∧ s₂.status = .running ∧ Ended s₂ below (.returned v) ∧ En v s₂
/-- a return of v from here: where it leads, and that En holds there -/
def Lv (e : Env) (below : List Frame) (En : Option Value → State → Prop) (T : State) (m : MethodId) (v : Option Value) : Prop :=
  ∃ fs, (∀ (f : JFrame) (acts : List Action), f.method = m → f.locked = none → f.entered = [] → (doReturn e (T.setTop f) acts v).1 = T.setFrames fs) ∧ (T.setFrames fs).status = .running ∧ Ended (T.setFrames fs) below (.returned v) ∧ En v (T.setFrames fs)
/-- the end of a body that interns nothing -/
def FinN (s Z : State) (Q : Option Value → Heap → Prop) (ce sl : Nat) : Option Value → State → Prop := fun v t => ∃ L, (Fr Z.heap.size L ∧ Ext Z.heap t.heap ∧ Q v t.heap) ∧ FrameEnd s (.returned v) t L ce sl
/-- the contract of a method called with the arguments as' over the heap h -/
def Ct (l : Launch) (Z : State) (ws : List Jvm.Cond) (y : MethodName) (bytes : ByteArray) (maxL : Nat) (rt : Option FieldType) (rm : Room) (as' : Array Value) (h : Heap) (Q : Option Value → Heap → Prop) : Prop :=
  Ext Z.heap h → MetFree l y (head1 (Jvm.Cond.code y bytes maxL rt :: ws) rm) (fun a U => a = as' ∧ Z.Warmed39 U.vm ∧ U.heap = h) (fun _ _ _ _ _ => True) (fun _ U o U' => ∃ v L, o = .returned v ∧ (Fr Z.heap.size L ∧ Ext Z.heap U'.heap ∧ Q v U'.heap) ∧ FrameEnd U o U' L rm.cells rm.slots)
/-- it returns v and leaves the heap as it was -/
def Pu (h : Heap) (v : Value) : Option Value → Heap → Prop := fun w h' => w = some v ∧ h' = h
theorem Ext.rf (h : Heap) : Ext h h := ⟨Nat.le_refl _, fun _ _ q => q⟩
theorem Ext.tr {h1 h2 h3 : Heap} (E : Ext h1 h2) (F : Ext h2 h3) : Ext h1 h3 := ⟨Nat.le_trans E.1 F.1, fun a c q => F.2 a c (E.2 a c q)⟩
theorem Ext.kp {h1 h2 h3 : Heap} {ws : List Addr} (E : Ext h1 h2) (K : Keep h2 h3 ws) (q : ∀ x ∈ ws, h1.size ≤ x) : Ext h1 h3 := ⟨Nat.le_trans E.1 K.1, fun a c r => K.2.1 a c (E.2 a c r) fun z => absurd (Array.getElem?_eq_some_iff.mp r).1 (Nat.not_lt.mpr (q a z))⟩
theorem Ext.wr {h1 h2 h3 : Heap} {a : Addr} {k : Nat} {v : Value} (E : Ext h1 h2) (W : Wr h2 h3 a k v) (q : h1.size ≤ a) : Ext h1 h3 := Ext.kp E (Keep.of_wr W) (allS q all0)
theorem Ext.keep {h1 h2 : Heap} (E : Ext h1 h2) (ws : List Addr) : Keep h1 h2 ws := (Keep.refl _ _).ext E
theorem Cx.sd (X : Cx p l e R s m args below meth c Z own nm bytes maxL rt T locs cells slots h) : Stand p l e R s m args below meth c T locs cells slots := X.1
theorem Cx.here (X : Cx p l e R s m args below meth c Z own nm bytes maxL rt T locs cells slots h) : At T m c below := X.1.here
theorem Cx.hx (X : Cx p l e R s m args below meth c Z own nm bytes maxL rt T locs cells slots h) : p.tables.exec = Jvm.exec := X.2.1
theorem Cx.hZ (X : Cx p l e R s m args below meth c Z own nm bytes maxL rt T locs cells slots h) : Z.Warmed39 s.vm := X.2.2.1
theorem Cx.hown (X : Cx p l e R s m args below meth c Z own nm bytes maxL rt T locs cells slots h) : s.vm.findClass own = some m.cls := X.2.2.2.1
theorem Cx.hby (X : Cx p l e R s m args below meth c Z own nm bytes maxL rt T locs cells slots h) : c.code = bytes := X.2.2.2.2.1
theorem Cx.hml (X : Cx p l e R s m args below meth c Z own nm bytes maxL rt T locs cells slots h) : c.maxLocals = maxL := X.2.2.2.2.2.1
theorem Cx.hrt (X : Cx p l e R s m args below meth c Z own nm bytes maxL rt T locs cells slots h) : meth.sig.returnType = rt := X.2.2.2.2.2.2.1
theorem Cx.hnm (X : Cx p l e R s m args below meth c Z own nm bytes maxL rt T locs cells slots h) : meth.name = nm := X.2.2.2.2.2.2.2.1
theorem Cx.hlk (X : Cx p l e R s m args below meth c Z own nm bytes maxL rt T locs cells slots h) : meth.locks = false := X.2.2.2.2.2.2.2.2.1
theorem Cx.eq (X : Cx p l e R s m args below meth c Z own nm bytes maxL rt T locs cells slots h) : T.heap = h := X.2.2.2.2.2.2.2.2.2.1
theorem Cx.fr (X : Cx p l e R s m args below meth c Z own nm bytes maxL rt T locs cells slots h) : Fr Z.heap.size locs := X.2.2.2.2.2.2.2.2.2.2.1
theorem Cx.old (X : Cx p l e R s m args below meth c Z own nm bytes maxL rt T locs cells slots h) : Ext Z.heap h := X.2.2.2.2.2.2.2.2.2.2.2
theorem Cx.le (X : Cx p l e R s m args below meth c Z own nm bytes maxL rt T locs cells slots h) : Z.heap.size ≤ h.size := X.old.1
theorem Cx.mk' {T' : State} {locs' : List Loc} {cells' slots' : Nat} {h' : Heap} (X : Cx p l e R s m args below meth c Z own nm bytes maxL rt T locs cells slots h) (Y : Stand p l e R s m args below meth c T' locs' cells' slots') (q : T'.heap = h') (f : Fr Z.heap.size locs') (o : Ext Z.heap h') : Cx p l e R s m args below meth c Z own nm bytes maxL rt T' locs' cells' slots' h' := ⟨Y, X.hx, X.hZ, X.hown, X.hby, X.hml, X.hrt, X.hnm, X.hlk, q, f, o⟩
theorem Go.step {T' : State} {pc' : Nat} {Ls' : Array Slot} {st' : List Value} (f : ∀ t, Steps p.tables e below (T'.setTop (mkF m pc' Ls' st')) t → Steps p.tables e below (T.setTop (mkF m pc Ls st)) t) (k : Go p e below En T' m pc' Ls' st') : Go p e below En T m pc Ls st := by
  obtain ⟨s₂, v, k1, k2⟩ := k
  exact ⟨s₂, v, f _ k1, k2⟩
theorem Ct.ofF {y : MethodName} {ws : List Jvm.Cond} {rm : Room} {as' : Array Value} {Ls0 : Array Slot} (pn : plainFor y = true) (ef : ∀ m, entryFrame m as' maxL = mkF m 0 Ls0 [])
    (body : ∀ p e s m below meth c s₁, Cx p l e rm s m as' below meth c Z y.cls y.name bytes maxL rt s₁ [] 0 0 h → Go p e below (FinN s Z Q rm.cells rm.slots) s₁ m 0 Ls0 []) : Ct l Z ws y bytes maxL rt rm as' h Q := by
  intro hE
  refine MetFree.of_bodySF pn hisR ?_
  intro p e s m args below meth c s₁ Bd hml0 hP hK
  obtain ⟨rfl, hZ, hh⟩ := hP
  have hown : s.vm.findClass y.cls = some m.cls := findClass_of_methodNamed Bd.named
  have hnm := (name_of_methodNamed Bd.named Bd.method).1
  have X0 : Stand p l e rm s m args below meth c s₁ [] 0 0 := Stand.of_body Bd
  have e0 : s₁.heap = h := by rw [← hh, Bd.state]; rfl
  obtain ⟨s₂, v, k1, k2, k3, L, k5, k6⟩ := body p e s m below meth c s₁ ⟨X0, Bd.exec, hZ, hown, Bd.bytes, hml0, Bd.returns, hnm, Bd.notSynchronized, e0, Fr.nil _, hE⟩
  exact ⟨s₂, _, castTop (ef m) k1, k2, k3, v, L, rfl, k5, k6⟩
theorem Ct.of {y : MethodName} {ws : List Jvm.Cond} {rm : Room} {as' : Array Value} {Ls0 : Array Slot} (pn : plainName y.cls = true) (ef : ∀ m, entryFrame m as' maxL = mkF m 0 Ls0 [])
    (body : ∀ p e s m below meth c s₁, Cx p l e rm s m as' below meth c Z y.cls y.name bytes maxL rt s₁ [] 0 0 h → Go p e below (FinN s Z Q rm.cells rm.slots) s₁ m 0 Ls0 []) : Ct l Z ws y bytes maxL rt rm as' h Q := Ct.ofF (plainFor_of_name pn) ef body
theorem Cx.fin (X : Cx p l e R s m args below meth c Z own nm bytes maxL rt T locs cells slots h) {v : Option Value} (hQ : Q v h) (hc : cells ≤ ce) (hs : slots ≤ sl) (hv : rt = none → v = none := by (intro q; first | rfl | (cases q; done))) : Lv e below (FinN s Z Q ce sl) T m v := by
  have hlk := X.hlk
  obtain ⟨fs, hr, hrun, hended, hW, hsame⟩ := X.sd.leave (v := v) (fun q => hv (X.hrt ▸ q)) hlk
  have q : (T.setFrames fs).heap = h := X.eq
  exact ⟨fs, hr, hrun, hended, locs, ⟨X.fr, by rw [q]; exact X.old, by rw [q]; exact hQ⟩, ⟨_, rfl⟩, hW, hsame.mono hc hs⟩
theorem Go.ret0 (X : Cx p l e R s m args below meth c Z own nm bytes maxL rt T locs cells slots h) {v : Option Value}
    (f : ∀ fs, (∀ (f : JFrame) (acts : List Action), f.method = m → f.locked = none → f.entered = [] → (doReturn e (T.setTop f) acts v).1 = T.setFrames fs) → Steps p.tables e below (T.setTop (mkF m pc Ls st)) (T.setFrames fs)) (hF : Lv e below En T m v) : Go p e below En T m pc Ls st := by
  obtain ⟨fs, hr, hrun, hended, hq⟩ := hF
  exact ⟨_, _, f fs hr, hrun, hended, hq⟩
theorem Go.ret (X : Cx p l e R s m args below meth c Z own nm bytes maxL rt T locs cells slots h) {t : FieldType} {i : Instr} {w : Value} {rest : List Value} (hret : rt = some t) (hn : narrow t w = w)
    (hi : (i = .ireturn ∧ (t = .int ∨ t = .boolean ∨ t = .byte ∨ t = .char ∨ t = .short) ∧ ∃ z, w = .int z) ∨ (i = .lreturn ∧ t = .long ∧ ∃ z, w = .long z) ∨ (i = .dreturn ∧ t = .double ∧ ∃ z, w = .double z) ∨ (i = .freturn ∧ t = .float ∧ ∃ z, w = .float z) ∨ (i = .areturn ∧ t.isReference = true ∧ w.isRef = true))
    (hd : decode bytes pc = .ok (i, 1)) (hF : Lv e below En T m (some w)) : Go p e below En T m pc Ls (w :: rest) :=
  Go.ret0 X (fun fs hr => retOut X.sd X.hx (X.hrt.trans hret) hn hi (hb X.hby hd) hr) hF
theorem Go.retI (X : Cx p l e R s m args below meth c Z own nm bytes maxL rt T locs cells slots h) {t : FieldType} {z : Int32} {rest : List Value} (hret : rt = some t) (ht : t = .int ∨ t = .boolean ∨ t = .byte ∨ t = .char ∨ t = .short) (hn : narrow t (.int z) = .int z) (hd : decode bytes pc = .ok (.ireturn, 1)) (hF : Lv e below En T m (some (.int z))) : Go p e below En T m pc Ls (.int z :: rest) :=
  Go.ret X hret hn (Or.inl ⟨rfl, ht, z, rfl⟩) hd hF
theorem Go.retJ (X : Cx p l e R s m args below meth c Z own nm bytes maxL rt T locs cells slots h) {z : Int64} {rest : List Value} (hret : rt = some .long) (hd : decode bytes pc = .ok (.lreturn, 1)) (hF : Lv e below En T m (some (.long z))) : Go p e below En T m pc Ls (.long z :: rest) :=
  Go.ret X hret rfl (Or.inr (Or.inl ⟨rfl, rfl, z, rfl⟩)) hd hF
theorem Go.retA (X : Cx p l e R s m args below meth c Z own nm bytes maxL rt T locs cells slots h) {t : FieldType} {w : Value} {rest : List Value} (hret : rt = some t) (ht : t.isReference = true) (hw : w.isRef = true) (hd : decode bytes pc = .ok (.areturn, 1)) (hF : Lv e below En T m (some w)) : Go p e below En T m pc Ls (w :: rest) :=
  Go.ret X hret (by cases t <;> first | rfl | (cases ht; done)) (Or.inr (Or.inr (Or.inr (Or.inr ⟨rfl, ht, hw⟩)))) hd hF
theorem Go.retV (X : Cx p l e R s m args below meth c Z own nm bytes maxL rt T locs cells slots h) (hret : rt = none) (hd : decode bytes pc = .ok (.return_, 1)) (hF : Lv e below En T m none) : Go p e below En T m pc Ls [] :=
  Go.ret0 X (fun fs hr => X.sd.returnOut X.hx (X.hrt.trans hret) (hb X.hby hd) hr) hF
theorem Go.aloadN (X : Cx p l e R s m args below meth c Z own nm bytes maxL rt T locs cells slots h) (pc' : Nat) {i : Fin 4} {v : Value} (hd : decode bytes pc = .ok (.aload_n i, 1)) (hl : Ls[i.val]? = some (.val v)) (hv : v.isRef = true) (k : Go p e below En T m pc' Ls (v :: st)) (hp : pc + 1 = pc' := by rfl) : Go p e below En T m pc Ls st := by
  subst hp
  exact Go.step (fun _ hr => XS.aloadN X.here X.hx rfl (hb X.hby hd) hl hv hr) k
theorem Go.aload (X : Cx p l e R s m args below meth c Z own nm bytes maxL rt T locs cells slots h) (pc' : Nat) {i : Nat} {v : Value} (hd : decode bytes pc = .ok (.aload i, 2)) (hl : Ls[i]? = some (.val v)) (hv : v.isRef = true) (k : Go p e below En T m pc' Ls (v :: st)) (hp : pc + 2 = pc' := by rfl) : Go p e below En T m pc Ls st := by
  subst hp
  exact Go.step (fun _ hr => XS.aload X.here X.hx rfl (hb X.hby hd) hl hv hr) k
theorem Go.iloadN (X : Cx p l e R s m args below meth c Z own nm bytes maxL rt T locs cells slots h) (pc' : Nat) {i : Fin 4} {v : Int32} (hd : decode bytes pc = .ok (.iload_n i, 1)) (hl : Ls[i.val]? = some (.val (.int v))) (k : Go p e below En T m pc' Ls (.int v :: st)) (hp : pc + 1 = pc' := by rfl) : Go p e below En T m pc Ls st := by
  subst hp
  exact Go.step (fun _ hr => XS.iloadN X.here X.hx rfl (hb X.hby hd) hl hr) k
theorem Go.iload (X : Cx p l e R s m args below meth c Z own nm bytes maxL rt T locs cells slots h) (pc' : Nat) {i : Nat} {v : Int32} (hd : decode bytes pc = .ok (.iload i, 2)) (hl : Ls[i]? = some (.val (.int v))) (k : Go p e below En T m pc' Ls (.int v :: st)) (hp : pc + 2 = pc' := by rfl) : Go p e below En T m pc Ls st := by
  subst hp
  exact Go.step (fun _ hr => XS.iload X.here X.hx rfl (hb X.hby hd) hl hr) k
theorem Go.lloadN (X : Cx p l e R s m args below meth c Z own nm bytes maxL rt T locs cells slots h) (pc' : Nat) {i : Fin 4} {v : Int64} (hd : decode bytes pc = .ok (.lload_n i, 1)) (hl : Ls[i.val]? = some (.val (.long v))) (k : Go p e below En T m pc' Ls (.long v :: st)) (hp : pc + 1 = pc' := by rfl) : Go p e below En T m pc Ls st := by
  subst hp
  exact Go.step (fun _ hr => XT.lloadN X.here X.hx rfl (hb X.hby hd) hl hr) k
theorem Go.lload (X : Cx p l e R s m args below meth c Z own nm bytes maxL rt T locs cells slots h) (pc' : Nat) {i : Nat} {v : Int64} (hd : decode bytes pc = .ok (.lload i, 2)) (hl : Ls[i]? = some (.val (.long v))) (k : Go p e below En T m pc' Ls (.long v :: st)) (hp : pc + 2 = pc' := by rfl) : Go p e below En T m pc Ls st := by
  subst hp
  exact Go.step (fun _ hr => XT.lload X.here X.hx rfl (hb X.hby hd) hl hr) k
theorem Go.iconst (X : Cx p l e R s m args below meth c Z own nm bytes maxL rt T locs cells slots h) (pc' : Nat) {i : Int} (z : Int32) (hd : decode bytes pc = .ok (.iconst i, 1)) (k : Go p e below En T m pc' Ls (.int z :: st)) (hp : pc + 1 = pc' := by rfl) (hv : Int32.ofInt i = z := by rfl) : Go p e below En T m pc Ls st := by
  subst hp
  exact Go.step (fun _ hr => XT.iconstV X.here X.hx rfl z (hb X.hby hd) hv hr) k
theorem Go.bipush (X : Cx p l e R s m args below meth c Z own nm bytes maxL rt T locs cells slots h) (pc' : Nat) {i : Int} (z : Int32) (hd : decode bytes pc = .ok (.bipush i, 2)) (k : Go p e below En T m pc' Ls (.int z :: st)) (hp : pc + 2 = pc' := by rfl) (hv : (Int8.ofInt i).toInt32 = z := by rfl) : Go p e below En T m pc Ls st := by
  subst hp
  exact Go.step (fun _ hr => XT.bipushV X.here X.hx rfl z (hb X.hby hd) hv hr) k
theorem Go.sipush (X : Cx p l e R s m args below meth c Z own nm bytes maxL rt T locs cells slots h) (pc' : Nat) {i : Int} (z : Int32) (hd : decode bytes pc = .ok (.sipush i, 3)) (k : Go p e below En T m pc' Ls (.int z :: st)) (hp : pc + 3 = pc' := by rfl) (hv : (Int16.ofInt i).toInt32 = z := by rfl) : Go p e below En T m pc Ls st := by
  subst hp
  exact Go.step (fun _ hr => XT.sipushV X.here X.hx rfl z (hb X.hby hd) hv hr) k
theorem Go.lconst (X : Cx p l e R s m args below meth c Z own nm bytes maxL rt T locs cells slots h) (pc' : Nat) {i : Fin 2} (z : Int64) (hd : decode bytes pc = .ok (.lconst i, 1)) (k : Go p e below En T m pc' Ls (.long z :: st)) (hp : pc + 1 = pc' := by rfl) (hv : Int64.ofNat i = z := by rfl) : Go p e below En T m pc Ls st := by
  subst hp
  exact Go.step (fun _ hr => XT.lconstV X.here X.hx rfl z (hb X.hby hd) hv hr) k
theorem Go.aconst_null (X : Cx p l e R s m args below meth c Z own nm bytes maxL rt T locs cells slots h) (pc' : Nat)  (hd : decode bytes pc = .ok (.aconst_null, 1))  (k : Go p e below En T m pc' Ls (.null :: st)) (hp : pc + 1 = pc' := by rfl) : Go p e below En T m pc Ls st := by
  subst hp
  exact Go.step (fun _ hr => XS.aconstNull X.here X.hx rfl (hb X.hby hd)  hr) k
theorem Go.iadd (X : Cx p l e R s m args below meth c Z own nm bytes maxL rt T locs cells slots h) (pc' : Nat) {x y : Int32} (hd : decode bytes pc = .ok (.iadd, 1))  (k : Go p e below En T m pc' Ls (.int (x + y) :: st)) (hp : pc + 1 = pc' := by rfl) : Go p e below En T m pc Ls (.int y :: .int x :: st) := by
  subst hp
  exact Go.step (fun _ hr => XS.iadd X.here X.hx rfl (hb X.hby hd) rfl hr) k
theorem Go.isub (X : Cx p l e R s m args below meth c Z own nm bytes maxL rt T locs cells slots h) (pc' : Nat) {x y : Int32} (hd : decode bytes pc = .ok (.isub, 1))  (k : Go p e below En T m pc' Ls (.int (x - y) :: st)) (hp : pc + 1 = pc' := by rfl) : Go p e below En T m pc Ls (.int y :: .int x :: st) := by
  subst hp
  exact Go.step (fun _ hr => XS.isub X.here X.hx rfl (hb X.hby hd) rfl hr) k
theorem Go.imul (X : Cx p l e R s m args below meth c Z own nm bytes maxL rt T locs cells slots h) (pc' : Nat) {x y : Int32} (hd : decode bytes pc = .ok (.imul, 1))  (k : Go p e below En T m pc' Ls (.int (x * y) :: st)) (hp : pc + 1 = pc' := by rfl) : Go p e below En T m pc Ls (.int y :: .int x :: st) := by
  subst hp
  exact Go.step (fun _ hr => XS.imul X.here X.hx rfl (hb X.hby hd) rfl hr) k
theorem Go.iand (X : Cx p l e R s m args below meth c Z own nm bytes maxL rt T locs cells slots h) (pc' : Nat) {x y : Int32} (hd : decode bytes pc = .ok (.iand, 1))  (k : Go p e below En T m pc' Ls (.int (x &&& y) :: st)) (hp : pc + 1 = pc' := by rfl) : Go p e below En T m pc Ls (.int y :: .int x :: st) := by
  subst hp
  exact Go.step (fun _ hr => XS.iand X.here X.hx rfl (hb X.hby hd) rfl hr) k
theorem Go.ior (X : Cx p l e R s m args below meth c Z own nm bytes maxL rt T locs cells slots h) (pc' : Nat) {x y : Int32} (hd : decode bytes pc = .ok (.ior, 1))  (k : Go p e below En T m pc' Ls (.int (x ||| y) :: st)) (hp : pc + 1 = pc' := by rfl) : Go p e below En T m pc Ls (.int y :: .int x :: st) := by
  subst hp
  exact Go.step (fun _ hr => XT.ior X.here X.hx rfl (hb X.hby hd) rfl hr) k
theorem Go.ixor (X : Cx p l e R s m args below meth c Z own nm bytes maxL rt T locs cells slots h) (pc' : Nat) {x y : Int32} (hd : decode bytes pc = .ok (.ixor, 1))  (k : Go p e below En T m pc' Ls (.int (x ^^^ y) :: st)) (hp : pc + 1 = pc' := by rfl) : Go p e below En T m pc Ls (.int y :: .int x :: st) := by
  subst hp
  exact Go.step (fun _ hr => XT.ixor X.here X.hx rfl (hb X.hby hd) rfl hr) k
theorem Go.idiv (X : Cx p l e R s m args below meth c Z own nm bytes maxL rt T locs cells slots h) (pc' : Nat) {x y : Int32} (hd : decode bytes pc = .ok (.idiv, 1)) (hy : y ≠ 0) (k : Go p e below En T m pc' Ls (.int (x / y) :: st)) (hp : pc + 1 = pc' := by rfl) : Go p e below En T m pc Ls (.int y :: .int x :: st) := by
  subst hp
  exact Go.step (fun _ hr => XS.idiv X.here X.hx rfl (hb X.hby hd) rfl hy hr) k
theorem Go.irem (X : Cx p l e R s m args below meth c Z own nm bytes maxL rt T locs cells slots h) (pc' : Nat) {x y : Int32} (hd : decode bytes pc = .ok (.irem, 1)) (hy : y ≠ 0) (k : Go p e below En T m pc' Ls (.int (x % y) :: st)) (hp : pc + 1 = pc' := by rfl) : Go p e below En T m pc Ls (.int y :: .int x :: st) := by
  subst hp
  exact Go.step (fun _ hr => iremM X.sd X.hx rfl (hb X.hby hd) rfl hy hr) k
theorem Go.ishl (X : Cx p l e R s m args below meth c Z own nm bytes maxL rt T locs cells slots h) (pc' : Nat) {x y : Int32} (hd : decode bytes pc = .ok (.ishl, 1))  (k : Go p e below En T m pc' Ls (.int (x <<< (y &&& 31)) :: st)) (hp : pc + 1 = pc' := by rfl) : Go p e below En T m pc Ls (.int y :: .int x :: st) := by
  subst hp
  exact Go.step (fun _ hr => XT.ishl X.here X.hx rfl (hb X.hby hd) rfl hr) k
theorem Go.ishr (X : Cx p l e R s m args below meth c Z own nm bytes maxL rt T locs cells slots h) (pc' : Nat) {x y : Int32} (hd : decode bytes pc = .ok (.ishr, 1))  (k : Go p e below En T m pc' Ls (.int (x >>> (y &&& 31)) :: st)) (hp : pc + 1 = pc' := by rfl) : Go p e below En T m pc Ls (.int y :: .int x :: st) := by
  subst hp
  exact Go.step (fun _ hr => XT.ishr X.here X.hx rfl (hb X.hby hd) rfl hr) k
theorem Go.iushr (X : Cx p l e R s m args below meth c Z own nm bytes maxL rt T locs cells slots h) (pc' : Nat) {x y : Int32} (hd : decode bytes pc = .ok (.iushr, 1))  (k : Go p e below En T m pc' Ls (.int (XT.ushr x y) :: st)) (hp : pc + 1 = pc' := by rfl) : Go p e below En T m pc Ls (.int y :: .int x :: st) := by
  subst hp
  exact Go.step (fun _ hr => XT.iushr X.here X.hx rfl (hb X.hby hd) rfl hr) k
theorem Go.ladd (X : Cx p l e R s m args below meth c Z own nm bytes maxL rt T locs cells slots h) (pc' : Nat) {x y : Int64} (hd : decode bytes pc = .ok (.ladd, 1))  (k : Go p e below En T m pc' Ls (.long (x + y) :: st)) (hp : pc + 1 = pc' := by rfl) : Go p e below En T m pc Ls (.long y :: .long x :: st) := by
  subst hp
  exact Go.step (fun _ hr => XT.ladd X.here X.hx rfl (hb X.hby hd) rfl hr) k
theorem Go.lsub (X : Cx p l e R s m args below meth c Z own nm bytes maxL rt T locs cells slots h) (pc' : Nat) {x y : Int64} (hd : decode bytes pc = .ok (.lsub, 1))  (k : Go p e below En T m pc' Ls (.long (x - y) :: st)) (hp : pc + 1 = pc' := by rfl) : Go p e below En T m pc Ls (.long y :: .long x :: st) := by
  subst hp
  exact Go.step (fun _ hr => XT.lsub X.here X.hx rfl (hb X.hby hd) rfl hr) k
theorem Go.lmul (X : Cx p l e R s m args below meth c Z own nm bytes maxL rt T locs cells slots h) (pc' : Nat) {x y : Int64} (hd : decode bytes pc = .ok (.lmul, 1))  (k : Go p e below En T m pc' Ls (.long (x * y) :: st)) (hp : pc + 1 = pc' := by rfl) : Go p e below En T m pc Ls (.long y :: .long x :: st) := by
  subst hp
  exact Go.step (fun _ hr => XT.lmul X.here X.hx rfl (hb X.hby hd) rfl hr) k
theorem Go.land (X : Cx p l e R s m args below meth c Z own nm bytes maxL rt T locs cells slots h) (pc' : Nat) {x y : Int64} (hd : decode bytes pc = .ok (.land, 1))  (k : Go p e below En T m pc' Ls (.long (x &&& y) :: st)) (hp : pc + 1 = pc' := by rfl) : Go p e below En T m pc Ls (.long y :: .long x :: st) := by
  subst hp
  exact Go.step (fun _ hr => XT.land X.here X.hx rfl (hb X.hby hd) rfl hr) k
theorem Go.lor (X : Cx p l e R s m args below meth c Z own nm bytes maxL rt T locs cells slots h) (pc' : Nat) {x y : Int64} (hd : decode bytes pc = .ok (.lor, 1))  (k : Go p e below En T m pc' Ls (.long (x ||| y) :: st)) (hp : pc + 1 = pc' := by rfl) : Go p e below En T m pc Ls (.long y :: .long x :: st) := by
  subst hp
  exact Go.step (fun _ hr => XT.lor X.here X.hx rfl (hb X.hby hd) rfl hr) k
theorem Go.lxor (X : Cx p l e R s m args below meth c Z own nm bytes maxL rt T locs cells slots h) (pc' : Nat) {x y : Int64} (hd : decode bytes pc = .ok (.lxor, 1))  (k : Go p e below En T m pc' Ls (.long (x ^^^ y) :: st)) (hp : pc + 1 = pc' := by rfl) : Go p e below En T m pc Ls (.long y :: .long x :: st) := by
  subst hp
  exact Go.step (fun _ hr => XT.lxor X.here X.hx rfl (hb X.hby hd) rfl hr) k
theorem Go.lcmp (X : Cx p l e R s m args below meth c Z own nm bytes maxL rt T locs cells slots h) (pc' : Nat) {x y : Int64} (hd : decode bytes pc = .ok (.lcmp, 1))  (k : Go p e below En T m pc' Ls (.int (XT.cmpL x y) :: st)) (hp : pc + 1 = pc' := by rfl) : Go p e below En T m pc Ls (.long y :: .long x :: st) := by
  subst hp
  exact Go.step (fun _ hr => XT.lcmp X.here X.hx rfl (hb X.hby hd) rfl hr) k
theorem Go.ldiv (X : Cx p l e R s m args below meth c Z own nm bytes maxL rt T locs cells slots h) (pc' : Nat) {x y : Int64} (hd : decode bytes pc = .ok (.ldiv, 1)) (hy : y ≠ 0) (k : Go p e below En T m pc' Ls (.long (x / y) :: st)) (hp : pc + 1 = pc' := by rfl) : Go p e below En T m pc Ls (.long y :: .long x :: st) := by
  subst hp
  exact Go.step (fun _ hr => XT.ldiv X.here X.hx rfl (hb X.hby hd) rfl hy hr) k
theorem Go.lrem (X : Cx p l e R s m args below meth c Z own nm bytes maxL rt T locs cells slots h) (pc' : Nat) {x y : Int64} (hd : decode bytes pc = .ok (.lrem, 1)) (hy : y ≠ 0) (k : Go p e below En T m pc' Ls (.long (x - (x / y) * y) :: st)) (hp : pc + 1 = pc' := by rfl) : Go p e below En T m pc Ls (.long y :: .long x :: st) := by
  subst hp
  exact Go.step (fun _ hr => XT.lrem X.here X.hx rfl (hb X.hby hd) rfl hy hr) k
theorem Go.lshl (X : Cx p l e R s m args below meth c Z own nm bytes maxL rt T locs cells slots h) (pc' : Nat) {x : Int64} {y : Int32} (hd : decode bytes pc = .ok (.lshl, 1))  (k : Go p e below En T m pc' Ls (.long (x <<< (y.toInt64 &&& 63)) :: st)) (hp : pc + 1 = pc' := by rfl) : Go p e below En T m pc Ls (.int y :: .long x :: st) := by
  subst hp
  exact Go.step (fun _ hr => XT.lshl X.here X.hx rfl (hb X.hby hd) rfl hr) k
theorem Go.lshr (X : Cx p l e R s m args below meth c Z own nm bytes maxL rt T locs cells slots h) (pc' : Nat) {x : Int64} {y : Int32} (hd : decode bytes pc = .ok (.lshr, 1))  (k : Go p e below En T m pc' Ls (.long (x >>> (y.toInt64 &&& 63)) :: st)) (hp : pc + 1 = pc' := by rfl) : Go p e below En T m pc Ls (.int y :: .long x :: st) := by
  subst hp
  exact Go.step (fun _ hr => XT.lshr X.here X.hx rfl (hb X.hby hd) rfl hr) k
theorem Go.lushr (X : Cx p l e R s m args below meth c Z own nm bytes maxL rt T locs cells slots h) (pc' : Nat) {x : Int64} {y : Int32} (hd : decode bytes pc = .ok (.lushr, 1))  (k : Go p e below En T m pc' Ls (.long (XT.ushrL x y) :: st)) (hp : pc + 1 = pc' := by rfl) : Go p e below En T m pc Ls (.int y :: .long x :: st) := by
  subst hp
  exact Go.step (fun _ hr => XT.lushr X.here X.hx rfl (hb X.hby hd) rfl hr) k
theorem Go.i2l (X : Cx p l e R s m args below meth c Z own nm bytes maxL rt T locs cells slots h) (pc' : Nat) {x : Int32} (hd : decode bytes pc = .ok (.i2l, 1))  (k : Go p e below En T m pc' Ls (.long (x.toInt64) :: st)) (hp : pc + 1 = pc' := by rfl) : Go p e below En T m pc Ls (.int x :: st) := by
  subst hp
  exact Go.step (fun _ hr => XT.i2l X.here X.hx rfl (hb X.hby hd) rfl hr) k
theorem Go.i2b (X : Cx p l e R s m args below meth c Z own nm bytes maxL rt T locs cells slots h) (pc' : Nat) {x : Int32} (hd : decode bytes pc = .ok (.i2b, 1))  (k : Go p e below En T m pc' Ls (.int (x.toInt8.toInt32) :: st)) (hp : pc + 1 = pc' := by rfl) : Go p e below En T m pc Ls (.int x :: st) := by
  subst hp
  exact Go.step (fun _ hr => XT.i2b X.here X.hx rfl (hb X.hby hd) rfl hr) k
theorem Go.i2c (X : Cx p l e R s m args below meth c Z own nm bytes maxL rt T locs cells slots h) (pc' : Nat) {x : Int32} (hd : decode bytes pc = .ok (.i2c, 1))  (k : Go p e below En T m pc' Ls (.int (x.toUInt32.toUInt16.toUInt32.toInt32) :: st)) (hp : pc + 1 = pc' := by rfl) : Go p e below En T m pc Ls (.int x :: st) := by
  subst hp
  exact Go.step (fun _ hr => XT.i2c X.here X.hx rfl (hb X.hby hd) rfl hr) k
theorem Go.i2s (X : Cx p l e R s m args below meth c Z own nm bytes maxL rt T locs cells slots h) (pc' : Nat) {x : Int32} (hd : decode bytes pc = .ok (.i2s, 1))  (k : Go p e below En T m pc' Ls (.int (x.toInt16.toInt32) :: st)) (hp : pc + 1 = pc' := by rfl) : Go p e below En T m pc Ls (.int x :: st) := by
  subst hp
  exact Go.step (fun _ hr => XT.i2s X.here X.hx rfl (hb X.hby hd) rfl hr) k
theorem Go.l2i (X : Cx p l e R s m args below meth c Z own nm bytes maxL rt T locs cells slots h) (pc' : Nat) {x : Int64} (hd : decode bytes pc = .ok (.l2i, 1))  (k : Go p e below En T m pc' Ls (.int (x.toInt32) :: st)) (hp : pc + 1 = pc' := by rfl) : Go p e below En T m pc Ls (.long x :: st) := by
  subst hp
  exact Go.step (fun _ hr => XT.l2i X.here X.hx rfl (hb X.hby hd) rfl hr) k
theorem Go.dup (X : Cx p l e R s m args below meth c Z own nm bytes maxL rt T locs cells slots h) (pc' : Nat) {v : Value} (hd : decode bytes pc = .ok (.dup, 1)) (hc : v.category = 1) (k : Go p e below En T m pc' Ls (v :: v :: st)) (hp : pc + 1 = pc' := by rfl) : Go p e below En T m pc Ls (v :: st) := by
  subst hp
  exact Go.step (fun _ hr => XS.dup X.here X.hx rfl (hb X.hby hd) rfl hc hr) k
theorem Go.pop (X : Cx p l e R s m args below meth c Z own nm bytes maxL rt T locs cells slots h) (pc' : Nat) {v : Value} (hd : decode bytes pc = .ok (.pop, 1)) (hc : v.category = 1) (k : Go p e below En T m pc' Ls st) (hp : pc + 1 = pc' := by rfl) : Go p e below En T m pc Ls (v :: st) := by
  subst hp
  exact Go.step (fun _ hr => XT.pop X.here X.hx rfl (hb X.hby hd) rfl hc hr) k
theorem Go.dup_x1 (X : Cx p l e R s m args below meth c Z own nm bytes maxL rt T locs cells slots h) (pc' : Nat) {v w : Value} (hd : decode bytes pc = .ok (.dup_x1, 1)) (hc : v.category = 1) (hc' : w.category = 1) (k : Go p e below En T m pc' Ls (v :: w :: v :: st)) (hp : pc + 1 = pc' := by rfl) : Go p e below En T m pc Ls (v :: w :: st) := by
  subst hp
  exact Go.step (fun _ hr => XT.dupX1 X.here X.hx rfl (hb X.hby hd) rfl hc hc' hr) k
theorem Go.dup2 (X : Cx p l e R s m args below meth c Z own nm bytes maxL rt T locs cells slots h) (pc' : Nat) {v w : Value} (hd : decode bytes pc = .ok (.dup2, 1)) (hc : v.category = 1) (hc' : w.category = 1) (k : Go p e below En T m pc' Ls (v :: w :: v :: w :: st)) (hp : pc + 1 = pc' := by rfl) : Go p e below En T m pc Ls (v :: w :: st) := by
  subst hp
  exact Go.step (fun _ hr => XT.dup2 X.here X.hx rfl (hb X.hby hd) rfl hc hc' hr) k
theorem Go.istoreN (X : Cx p l e R s m args below meth c Z own nm bytes maxL rt T locs cells slots h) (pc' : Nat) {i : Fin 4} {z : Int32} (Ls' : Array Slot) (hd : decode bytes pc = .ok (.istore_n i, 1))  (hl : storeLocals Ls i.val (.int z) = some Ls') (k : Go p e below En T m pc' Ls' st) (hp : pc + 1 = pc' := by rfl) : Go p e below En T m pc Ls (.int z :: st) := by
  subst hp
  exact Go.step (fun _ hr => XS.istoreN X.here X.hx rfl (hb X.hby hd) rfl  hl hr) k
theorem Go.istore (X : Cx p l e R s m args below meth c Z own nm bytes maxL rt T locs cells slots h) (pc' : Nat) {i : Nat} {z : Int32} (Ls' : Array Slot) (hd : decode bytes pc = .ok (.istore i, 2))  (hl : storeLocals Ls i (.int z) = some Ls') (k : Go p e below En T m pc' Ls' st) (hp : pc + 2 = pc' := by rfl) : Go p e below En T m pc Ls (.int z :: st) := by
  subst hp
  exact Go.step (fun _ hr => XS.istore X.here X.hx rfl (hb X.hby hd) rfl  hl hr) k
theorem Go.lstoreN (X : Cx p l e R s m args below meth c Z own nm bytes maxL rt T locs cells slots h) (pc' : Nat) {i : Fin 4} {z : Int64} (Ls' : Array Slot) (hd : decode bytes pc = .ok (.lstore_n i, 1))  (hl : storeLocals Ls i.val (.long z) = some Ls') (k : Go p e below En T m pc' Ls' st) (hp : pc + 1 = pc' := by rfl) : Go p e below En T m pc Ls (.long z :: st) := by
  subst hp
  exact Go.step (fun _ hr => XT.lstoreN X.here X.hx rfl (hb X.hby hd) rfl  hl hr) k
theorem Go.lstore (X : Cx p l e R s m args below meth c Z own nm bytes maxL rt T locs cells slots h) (pc' : Nat) {i : Nat} {z : Int64} (Ls' : Array Slot) (hd : decode bytes pc = .ok (.lstore i, 2))  (hl : storeLocals Ls i (.long z) = some Ls') (k : Go p e below En T m pc' Ls' st) (hp : pc + 2 = pc' := by rfl) : Go p e below En T m pc Ls (.long z :: st) := by
  subst hp
  exact Go.step (fun _ hr => XT.lstore X.here X.hx rfl (hb X.hby hd) rfl  hl hr) k
theorem Go.astoreN (X : Cx p l e R s m args below meth c Z own nm bytes maxL rt T locs cells slots h) (pc' : Nat) {i : Fin 4} {v : Value} (Ls' : Array Slot) (hd : decode bytes pc = .ok (.astore_n i, 1)) (hv : v.isRef = true) (hl : storeLocals Ls i.val (v) = some Ls') (k : Go p e below En T m pc' Ls' st) (hp : pc + 1 = pc' := by rfl) : Go p e below En T m pc Ls (v :: st) := by
  subst hp
  exact Go.step (fun _ hr => XS.astoreN X.here X.hx rfl (hb X.hby hd) rfl hv hl hr) k
theorem Go.astore (X : Cx p l e R s m args below meth c Z own nm bytes maxL rt T locs cells slots h) (pc' : Nat) {i : Nat} {v : Value} (Ls' : Array Slot) (hd : decode bytes pc = .ok (.astore i, 2)) (hv : v.isRef = true) (hl : storeLocals Ls i (v) = some Ls') (k : Go p e below En T m pc' Ls' st) (hp : pc + 2 = pc' := by rfl) : Go p e below En T m pc Ls (v :: st) := by
  subst hp
  exact Go.step (fun _ hr => XS.astore X.here X.hx rfl (hb X.hby hd) rfl hv hl hr) k
theorem Go.iinc (X : Cx p l e R s m args below meth c Z own nm bytes maxL rt T locs cells slots h) (pc' : Nat) {i : Nat} {x : Int32} {cst : Int} (z : Int32) (Ls' : Array Slot) (hd : decode bytes pc = .ok (.iinc i cst, 3)) (hl0 : Ls[i]? = some (.val (.int x))) (hl : storeLocals Ls i (.int (x + z)) = some Ls') (k : Go p e below En T m pc' Ls' st) (hp : pc + 3 = pc' := by rfl) (hv : Int32.ofInt cst = z := by rfl) : Go p e below En T m pc Ls st := by
  subst hp
  exact Go.step (fun _ hr => XT.iincV X.here X.hx rfl z (hb X.hby hd) hv hl0 hl hr) k
theorem Go.goto (X : Cx p l e R s m args below meth c Z own nm bytes maxL rt T locs cells slots h) (pc' : Nat) {o : Int} (hd : decode bytes pc = .ok (.goto o, 3)) (k : Go p e below En T m pc' Ls st) (ho : 0 ≤ (pc : Int) + o := by decide) (hp : ((pc : Int) + o).toNat = pc' := by decide) : Go p e below En T m pc Ls st :=
  Go.step (fun _ hr => XS.goto X.here X.hx rfl rfl (hb X.hby hd) ho hp hr) k
theorem Go.if0Y (X : Cx p l e R s m args below meth c Z own nm bytes maxL rt T locs cells slots h) (pc' : Nat) {cd : ClassFile.Cond} {x : Int32} {o : Int} (hd : decode bytes pc = .ok (.ifCond cd o, 3)) (hc : ifCond.holds cd x = true) (k : Go p e below En T m pc' Ls st) (ho : 0 ≤ (pc : Int) + o := by decide) (hp : ((pc : Int) + o).toNat = pc' := by decide) : Go p e below En T m pc Ls (.int x :: st) :=
  Go.step (fun _ hr => XS.ifYes X.here X.hx rfl rfl (hb X.hby hd) rfl hc ho hp hr) k
theorem Go.if0N (X : Cx p l e R s m args below meth c Z own nm bytes maxL rt T locs cells slots h) (pc' : Nat) {cd : ClassFile.Cond} {x : Int32} {o : Int} (hd : decode bytes pc = .ok (.ifCond cd o, 3)) (hc : ifCond.holds cd x = false) (k : Go p e below En T m pc' Ls st) (hp : pc + 3 = pc' := by rfl) : Go p e below En T m pc Ls (.int x :: st) := by
  subst hp
  exact Go.step (fun _ hr => XS.ifNo X.here X.hx rfl (hb X.hby hd) rfl hc hr) k
theorem Go.icmpY (X : Cx p l e R s m args below meth c Z own nm bytes maxL rt T locs cells slots h) (pc' : Nat) {cd : ClassFile.Cond} {x y : Int32} {o : Int} (hd : decode bytes pc = .ok (.if_icmp cd o, 3)) (hc : if_icmp.holds cd x y = true) (k : Go p e below En T m pc' Ls st) (ho : 0 ≤ (pc : Int) + o := by decide) (hp : ((pc : Int) + o).toNat = pc' := by decide) : Go p e below En T m pc Ls (.int y :: .int x :: st) :=
  Go.step (fun _ hr => XS.icmpYes X.here X.hx rfl rfl (hb X.hby hd) rfl hc ho hp hr) k
theorem Go.icmpN (X : Cx p l e R s m args below meth c Z own nm bytes maxL rt T locs cells slots h) (pc' : Nat) {cd : ClassFile.Cond} {x y : Int32} {o : Int} (hd : decode bytes pc = .ok (.if_icmp cd o, 3)) (hc : if_icmp.holds cd x y = false) (k : Go p e below En T m pc' Ls st) (hp : pc + 3 = pc' := by rfl) : Go p e below En T m pc Ls (.int y :: .int x :: st) := by
  subst hp
  exact Go.step (fun _ hr => XS.icmpNo X.here X.hx rfl (hb X.hby hd) rfl hc hr) k
theorem Go.acmpY (X : Cx p l e R s m args below meth c Z own nm bytes maxL rt T locs cells slots h) (pc' : Nat) {cd : ClassFile.ACond} {x y : Value} {o : Int} (hd : decode bytes pc = .ok (.if_acmp cd o, 3)) (hx' : x.isRef = true) (hy' : y.isRef = true) (hc : XT.acmp cd x y = true) (k : Go p e below En T m pc' Ls st) (ho : 0 ≤ (pc : Int) + o := by decide) (hp : ((pc : Int) + o).toNat = pc' := by decide) : Go p e below En T m pc Ls (y :: x :: st) :=
  Go.step (fun _ hr => XT.acmpYes X.here X.hx rfl rfl (hb X.hby hd) rfl hx' hy' hc ho hp hr) k
theorem Go.acmpN (X : Cx p l e R s m args below meth c Z own nm bytes maxL rt T locs cells slots h) (pc' : Nat) {cd : ClassFile.ACond} {x y : Value} {o : Int} (hd : decode bytes pc = .ok (.if_acmp cd o, 3)) (hx' : x.isRef = true) (hy' : y.isRef = true) (hc : XT.acmp cd x y = false) (k : Go p e below En T m pc' Ls st) (hp : pc + 3 = pc' := by rfl) : Go p e below En T m pc Ls (y :: x :: st) := by
  subst hp
  exact Go.step (fun _ hr => XT.acmpNo X.here X.hx rfl (hb X.hby hd) rfl hx' hy' hc hr) k
theorem Go.ifnullY (X : Cx p l e R s m args below meth c Z own nm bytes maxL rt T locs cells slots h) (pc' : Nat) {o : Int} (hd : decode bytes pc = .ok (.ifnull o, 3)) (k : Go p e below En T m pc' Ls st) (ho : 0 ≤ (pc : Int) + o := by decide) (hp : ((pc : Int) + o).toNat = pc' := by decide) : Go p e below En T m pc Ls (.null :: st) :=
  Go.step (fun _ hr => XS.ifnullYes X.here X.hx rfl rfl (hb X.hby hd) rfl ho hp hr) k
theorem Go.ifnullN (X : Cx p l e R s m args below meth c Z own nm bytes maxL rt T locs cells slots h) (pc' : Nat) {a : Addr} {o : Int} (hd : decode bytes pc = .ok (.ifnull o, 3)) (k : Go p e below En T m pc' Ls st) (hp : pc + 3 = pc' := by rfl) : Go p e below En T m pc Ls (.ref a :: st) := by
  subst hp
  exact Go.step (fun _ hr => XS.ifnullNo X.here X.hx rfl (hb X.hby hd) rfl hr) k
theorem Go.ifnonnullY (X : Cx p l e R s m args below meth c Z own nm bytes maxL rt T locs cells slots h) (pc' : Nat) {a : Addr} {o : Int} (hd : decode bytes pc = .ok (.ifnonnull o, 3)) (k : Go p e below En T m pc' Ls st) (ho : 0 ≤ (pc : Int) + o := by decide) (hp : ((pc : Int) + o).toNat = pc' := by decide) : Go p e below En T m pc Ls (.ref a :: st) :=
  Go.step (fun _ hr => XT.ifnonnullYes X.here X.hx rfl rfl (hb X.hby hd) rfl ho hp hr) k
theorem Go.ifnonnullN (X : Cx p l e R s m args below meth c Z own nm bytes maxL rt T locs cells slots h) (pc' : Nat) {o : Int} (hd : decode bytes pc = .ok (.ifnonnull o, 3)) (k : Go p e below En T m pc' Ls st) (hp : pc + 3 = pc' := by rfl) : Go p e below En T m pc Ls (.null :: st) := by
  subst hp
  exact Go.step (fun _ hr => XT.ifnonnullNo X.here X.hx rfl (hb X.hby hd) rfl hr) k
theorem Go.tsw (X : Cx p l e R s m args below meth c Z own nm bytes maxL rt T locs cells slots h) (pc' : Nat) {dflt low high o : Int} {offs : Array Int} {len : Nat} {i : Int32} (hd : decode bytes pc = .ok (.tableswitch dflt low high offs, len)) (hin : ¬ (i.toInt < low ∨ i.toInt > high)) (hoff : offs[(i.toInt - low).toNat]? = some o) (k : Go p e below En T m pc' Ls st) (ho : 0 ≤ (pc : Int) + o := by decide) (hp : ((pc : Int) + o).toNat = pc' := by decide) : Go p e below En T m pc Ls (.int i :: st) :=
  Go.step (fun _ hr => XS.tswIn X.here X.hx rfl rfl (hb X.hby hd) rfl hin hoff ho hp hr) k
theorem Go.ldcI (X : Cx p l e R s m args below meth c Z own nm bytes maxL rt T locs cells slots h) (pc' : Nat) {idx : Nat} {v : Int32} (w : (Jvm.Cond.constant own idx v).before a0 Z = true) (hd : decode bytes pc = .ok (.ldc idx, 2)) (k : Go p e below En T m pc' Ls (.int v :: st)) (hp : pc + 2 = pc' := by rfl) : Go p e below En T m pc Ls st := by
  subst hp
  exact Go.step (fun _ hr => X.sd.ldcI X.hx X.hown (mvT X.hZ w) rfl (hb X.hby hd) hr) k
theorem Go.ldcJ (X : Cx p l e R s m args below meth c Z own nm bytes maxL rt T locs cells slots h) (pc' : Nat) {idx : Nat} {v : Int64} (w : (Jvm.Cond.constantLong own idx v).before a0 Z = true) (hd : decode bytes pc = .ok (.ldc2_w idx, 3)) (k : Go p e below En T m pc' Ls (.long v :: st)) (hp : pc + 3 = pc' := by rfl) : Go p e below En T m pc Ls st := by
  subst hp
  exact Go.step (fun _ hr => X.sd.ldc2J X.hx X.hown (mvT X.hZ w) rfl (hb X.hby hd) hr) k
theorem Go.getS (X : Cx p l e R s m args below meth c Z own nm bytes maxL rt T locs cells slots h) (pc' : Nat) {O n d : String} {idx : Nat} {v : Value} (w : (Jvm.Cond.fieldLink own idx O n d).before a0 Z = true) (F : Sta Z Z.heap O n d v) (hd : decode bytes pc = .ok (.getstatic idx, 3)) (k : ∀ T', Cx p l e R s m args below meth c Z own nm bytes maxL rt T' locs cells slots h → Go p e below En T' m pc' Ls (v :: st)) (hp : pc + 3 = pc' := by rfl) : Go p e below En T m pc Ls st := by
  subst hp
  obtain ⟨T', X', e', st'⟩ := RoadKit.getS (host := "") X.sd X.hx X.hZ X.hown w Via.refl X.eq (F.ext X.old) (g := mkF m pc Ls st) rfl (hb X.hby hd)
  exact Go.step st' (k T' (X.mk' X' e' X.fr X.old))
theorem Go.getF (X : Cx p l e R s m args below meth c Z own nm bytes maxL rt T locs cells slots h) (pc' : Nat) {O n d : String} {idx : Nat} {a : Addr} {v : Value} (w : (Jvm.Cond.fieldLink own idx O n d).before a0 Z = true) (F : Fld Z h a O n d v) (hd : decode bytes pc = .ok (.getfield idx, 3)) (k : ∀ T', Cx p l e R s m args below meth c Z own nm bytes maxL rt T' locs cells slots h → Go p e below En T' m pc' Ls (v :: st)) (hp : pc + 3 = pc' := by rfl) : Go p e below En T m pc Ls (.ref a :: st) := by
  subst hp
  obtain ⟨T', X', e', st'⟩ := RoadKit.getF (host := "") X.sd X.hx X.hZ X.hown (Or.inl w) Via.refl X.eq F (g := mkF m pc Ls (.ref a :: st)) rfl rfl (hb X.hby hd)
  exact Go.step st' (k T' (X.mk' X' e' X.fr X.old))
theorem Go.getFN (X : Cx p l e R s m args below meth c Z own nm bytes maxL rt T locs cells slots h) (pc' : Nat) {O n d host : String} {idx : Nat} {a : Addr} {v : Value} (w : (Jvm.Cond.fieldLinkNest own idx O n d host).before a0 Z = true) (F : Fld Z h a O n d v) (hd : decode bytes pc = .ok (.getfield idx, 3)) (k : ∀ T', Cx p l e R s m args below meth c Z own nm bytes maxL rt T' locs cells slots h → Go p e below En T' m pc' Ls (v :: st)) (hp : pc + 3 = pc' := by rfl) : Go p e below En T m pc Ls (.ref a :: st) := by
  subst hp
  obtain ⟨T', X', e', st'⟩ := RoadKit.getF X.sd X.hx X.hZ X.hown (Or.inr w) Via.refl X.eq F (g := mkF m pc Ls (.ref a :: st)) rfl rfl (hb X.hby hd)
  exact Go.step st' (k T' (X.mk' X' e' X.fr X.old))
theorem Go.putF (X : Cx p l e R s m args below meth c Z own nm bytes maxL rt T locs cells slots h) (pc' : Nat) {O n d C : String} {idx kk : Nat} {ty : FieldType} {a : Addr} {v old : Value} (w : (Jvm.Cond.fieldLink own idx O n d).before a0 Z = true) (F : Fld Z h a O n d old) (E : Exa Z h a C) (L : (Jvm.Cond.lays C O n d).before a0 Z = true ∨ ((Jvm.Cond.laysFinal C O n d).before a0 Z = true ∧ own = O ∧ nm = "<init>")) (wi : (Jvm.Cond.instantiable C kk).before a0 Z = true) (hty : parseFieldDescriptor d = some ty) (hn : narrow ty v = v) (hf : fits ty v = true) (ha : Z.heap.size ≤ a) (hd : decode bytes pc = .ok (.putfield idx, 3))
    (k : ∀ T' h', Cx p l e R s m args below meth c Z own nm bytes maxL rt T' (locs ++ [⟨a, RoadKit.slotOf Z O n d⟩]) cells slots h' → Wr h h' a (RoadKit.slotOf Z O n d) v → Go p e below En T' m pc' Ls st) (hp : pc + 3 = pc' := by rfl) : Go p e below En T m pc Ls (v :: .ref a :: st) := by
  subst hp
  obtain ⟨T', h', X', e', W, st'⟩ := RoadKit.putF (host := "") X.sd X.hx X.hZ X.hown (Or.inl w) Via.refl X.eq F E (L.imp id fun q => ⟨q.1, q.2.1, X.hnm.trans q.2.2⟩) wi hty hn hf (g := mkF m pc Ls (v :: .ref a :: st)) rfl rfl (hb X.hby hd)
  exact Go.step st' (k T' h' (X.mk' X' e' (Fr.snoc X' X.fr ha) (Ext.wr X.old W ha)) W)
theorem Go.newO (X : Cx p l e R s m args below meth c Z own nm bytes maxL rt T locs cells slots h) (pc' : Nat) {C : String} {idx n : Nat} (w : (Jvm.Cond.classLink own idx C).before a0 Z = true) (wi : (Jvm.Cond.instantiable C n).before a0 Z = true) (wz : (Jvm.Cond.initialized C).before a0 Z = true) (hd : decode bytes pc = .ok (.new idx, 3)) (hc : cells + 1 ≤ R.cells) (hl : slots + n ≤ R.slots)
    (k : ∀ T' h' a, Cx p l e R s m args below meth c Z own nm bytes maxL rt T' locs (cells + 1) (slots + n) h' → Ext h h' → h.size = a → Exa Z h' a C → (∀ {O nm d : String} {ty : FieldType}, Laid Z a0 C O nm d → parseFieldDescriptor d = some ty → Fld Z h' a O nm d (defaultValue ty)) → Go p e below En T' m pc' Ls (.ref a :: st)) (hp : pc + 3 = pc' := by rfl) : Go p e below En T m pc Ls st := by
  subst hp
  obtain ⟨T', h', X', e', E, A, D, -, st'⟩ := RoadKit.newO X.sd X.hx X.hZ X.hown w wi wz X.eq (g := mkF m pc Ls st) rfl (hb X.hby hd) hc hl
  exact Go.step st' (k T' h' _ (X.mk' X' e' X.fr (Ext.tr X.old E)) E rfl A D)
theorem Go.initO (X : Cx p l e R s m args below meth c Z own nm bytes maxL rt T locs cells slots h) (pc' : Nat) {idx : Nat} {a : Addr} (w1 : (Jvm.Cond.methodLink own idx Lib.objectInit).before a0 Z = true) (w2 : (Jvm.Cond.instanceMethod Lib.objectInit).before a0 Z = true) (w3 : (Jvm.Cond.code Lib.objectInit ⟨#[0xb1]⟩ 1 none).before a0 Z = true) (W : Nat) (hd : decode bytes pc = .ok (.invokespecial idx, 3)) (hsz : Ls.size = maxL) (hf : 1 ≤ R.frames) (hW : (st.map fun v => v.category).sum ≤ W) (hl : W + 12 ≤ R.locals)
    (k : ∀ T', Cx p l e R s m args below meth c Z own nm bytes maxL rt T' locs cells slots h → Go p e below En T' m pc' Ls st) (hp : pc + 3 = pc' := by rfl) : Go p e below En T m pc Ls (.ref a :: st) := by
  subst hp
  obtain ⟨T', X', e', st'⟩ := RoadKit.initO X.sd X.hx X.hZ X.hown w1 w2 w3 X.eq (g := mkF m pc Ls (.ref a :: st)) rfl (hsz.trans X.hml.symm) rfl (hb X.hby hd) hf (W := W) (by simpa using hW) hl
  exact Go.step st' (k T' (X.mk' X' e' X.fr X.old))
theorem Go.newP (X : Cx p l e R s m args below meth c Z own nm bytes maxL rt T locs cells slots h) (pc' : Nat) {aty : ArrayType} {n : Int32} (w : (Jvm.Cond.arrayClass (newarray.typeOf aty)).before a0 Z = true) (hd : decode bytes pc = .ok (.newarray aty, 2)) (cap : Nat) (hn : ¬ n < 0) (hcap : n.toNatClampNeg ≤ cap) (hb' : cap * 8 ≤ 536870912) (hc : cells + 1 ≤ R.cells) (hl : slots + cap ≤ R.slots)
    (k : ∀ T' h' a kA, Cx p l e R s m args below meth c Z own nm bytes maxL rt T' locs (cells + 1) (slots + cap) h' → Ext h h' → h.size = a → Arv Z h' a kA (newarray.typeOf aty) n [] (defaultValue (newarray.typeOf aty)) → Go p e below En T' m pc' Ls (.ref a :: st)) (hp : pc + 2 = pc' := by rfl) : Go p e below En T m pc Ls (.int n :: st) := by
  subst hp
  obtain ⟨T', h', kA, X', e', E, A, st'⟩ := RoadKit.newP X.sd X.hx X.hZ w X.eq (g := mkF m pc Ls (.int n :: st)) rfl (hb X.hby hd) rfl hn hcap hb' hc hl
  exact Go.step st' (k T' h' _ kA (X.mk' X' e' X.fr (Ext.tr X.old E)) E rfl (Arv.new A hn))
theorem Go.newR (X : Cx p l e R s m args below meth c Z own nm bytes maxL rt T locs cells slots h) (pc' : Nat) {D : String} {idx : Nat} {n : Int32} (w1 : (Jvm.Cond.classLink own idx D).before a0 Z = true) (w2 : (Jvm.Cond.arrayOver (.object D)).before a0 Z = true) (hd : decode bytes pc = .ok (.anewarray idx, 3)) (cap : Nat) (hn : ¬ n < 0) (hcap : n.toNatClampNeg ≤ cap) (hb' : cap * 8 ≤ 536870912) (hc : cells + 1 ≤ R.cells) (hl : slots + cap ≤ R.slots)
    (k : ∀ T' h' a kA, Cx p l e R s m args below meth c Z own nm bytes maxL rt T' locs (cells + 1) (slots + cap) h' → Ext h h' → h.size = a → Ovr Z kA D → Arv Z h' a kA (.object D) n [] .null → Go p e below En T' m pc' Ls (.ref a :: st)) (hp : pc + 3 = pc' := by rfl) : Go p e below En T m pc Ls (.int n :: st) := by
  subst hp
  obtain ⟨T', h', kA, X', e', E, A, O, st'⟩ := RoadKit.newR X.sd X.hx X.hZ X.hown w1 w2 X.eq (g := mkF m pc Ls (.int n :: st)) rfl (hb X.hby hd) rfl hn hcap hb' hc hl
  exact Go.step st' (k T' h' _ kA (X.mk' X' e' X.fr (Ext.tr X.old E)) E rfl O (Arv.new A hn))
theorem Go.stC (X : Cx p l e R s m args below meth c Z own nm bytes maxL rt T locs cells slots h) (pc' : Nat) {a : Addr} {kA : ClassId} {n j x : Int32} {vs : List Value} {d : Value} (V : Arv Z h a kA .char n vs d) (hd : decode bytes pc = .ok (.castore, 1)) (hj : ¬ j < 0 ∧ j < n) (i : Nat) (hi : j.toNatClampNeg = i) (hlt : i < vs.length) (ha : Z.heap.size ≤ a)
    (k : ∀ T' h', Cx p l e R s m args below meth c Z own nm bytes maxL rt T' (locs ++ [⟨a, j.toNatClampNeg⟩]) cells slots h' → Wr h h' a j.toNatClampNeg (.int (nar .char x)) → Arv Z h' a kA .char n (vs.set i (.int (nar .char x))) d → Go p e below En T' m pc' Ls st) (hp : pc + 1 = pc' := by rfl) : Go p e below En T m pc Ls (.int x :: .int j :: .ref a :: st) := by
  subst hp
  obtain ⟨cl, A, q1, S, q3, H, G⟩ := V
  obtain ⟨T', h', X', e', W, st'⟩ := RoadKit.stC X.sd X.hx X.hZ X.eq A (inb_of S hj) (g := mkF m pc Ls (.int x :: .int j :: .ref a :: st)) rfl rfl (hb X.hby hd)
  exact Go.step st' (k T' h' (X.mk' X' e' (Fr.snoc X' X.fr ha) (Ext.wr X.old W ha)) W (Arv.set A q1 S q3 H G (fits_nar_char x) W i hi hlt))
theorem Go.stB (X : Cx p l e R s m args below meth c Z own nm bytes maxL rt T locs cells slots h) (pc' : Nat) {a : Addr} {kA : ClassId} {n j x : Int32} {vs : List Value} {d : Value} (V : Arv Z h a kA .byte n vs d) (hd : decode bytes pc = .ok (.bastore, 1)) (hj : ¬ j < 0 ∧ j < n) (i : Nat) (hi : j.toNatClampNeg = i) (hlt : i < vs.length) (ha : Z.heap.size ≤ a)
    (k : ∀ T' h', Cx p l e R s m args below meth c Z own nm bytes maxL rt T' (locs ++ [⟨a, j.toNatClampNeg⟩]) cells slots h' → Wr h h' a j.toNatClampNeg (.int (nar .byte x)) → Arv Z h' a kA .byte n (vs.set i (.int (nar .byte x))) d → Go p e below En T' m pc' Ls st) (hp : pc + 1 = pc' := by rfl) : Go p e below En T m pc Ls (.int x :: .int j :: .ref a :: st) := by
  subst hp
  obtain ⟨cl, A, q1, S, q3, H, G⟩ := V
  obtain ⟨T', h', X', e', W, st'⟩ := RoadKit.stB X.sd X.hx X.hZ X.eq A (inb_of S hj) (g := mkF m pc Ls (.int x :: .int j :: .ref a :: st)) rfl rfl (hb X.hby hd)
  exact Go.step st' (k T' h' (X.mk' X' e' (Fr.snoc X' X.fr ha) (Ext.wr X.old W ha)) W (Arv.set A q1 S q3 H G (fits_nar_byte x) W i hi hlt))
theorem Go.stR (X : Cx p l e R s m args below meth c Z own nm bytes maxL rt T locs cells slots h) (pc' : Nat) {a y : Addr} {kA : ClassId} {D : String} {n j : Int32} {vs : List Value} {d : Value} (V : Arv Z h a kA (.object D) n vs d) (O : Ovr Z kA D) (I : Ins Z h y D true) (hd : decode bytes pc = .ok (.aastore, 1)) (hj : ¬ j < 0 ∧ j < n) (i : Nat) (hi : j.toNatClampNeg = i) (hlt : i < vs.length) (ha : Z.heap.size ≤ a)
    (k : ∀ T' h', Cx p l e R s m args below meth c Z own nm bytes maxL rt T' (locs ++ [⟨a, j.toNatClampNeg⟩]) cells slots h' → Wr h h' a j.toNatClampNeg (.ref y) → Arv Z h' a kA (.object D) n (vs.set i (.ref y)) d → Go p e below En T' m pc' Ls st) (hp : pc + 1 = pc' := by rfl) : Go p e below En T m pc Ls (.ref y :: .int j :: .ref a :: st) := by
  subst hp
  obtain ⟨cl, A, q1, S, q3, H, G⟩ := V
  obtain ⟨T', h', X', e', W, st'⟩ := RoadKit.stR X.sd X.hx X.hZ X.eq A (inb_of S hj) rfl (Sto.ofV A q1 O I) (g := mkF m pc Ls (.ref y :: .int j :: .ref a :: st)) rfl rfl (hb X.hby hd)
  exact Go.step st' (k T' h' (X.mk' X' e' (Fr.snoc X' X.fr ha) (Ext.wr X.old W ha)) W (Arv.set A q1 S q3 H G rfl W i hi hlt))
theorem Go.alen (X : Cx p l e R s m args below meth c Z own nm bytes maxL rt T locs cells slots h) (pc' : Nat) {a : Addr} {kA : ClassId} {ty : FieldType} {n : Int32} {vs : List Value} {d : Value} (V : Arv Z h a kA ty n vs d) (hd : decode bytes pc = .ok (.arraylength, 1)) (k : Go p e below En T m pc' Ls (.int n :: st)) (hp : pc + 1 = pc' := by rfl) : Go p e below En T m pc Ls (.ref a :: st) := by
  subst hp
  obtain ⟨cl, A, q1, S, q3, H, G⟩ := V
  refine Go.step (fun _ hr => X.sd.arraylength X.hx (by rw [X.eq]; exact A.1) (State.isArrayOf_alike X.hZ.alike A.2.1) (g := mkF m pc Ls (.ref a :: st)) rfl rfl (hb X.hby hd) _ hr) ?_
  rw [len_of S q3]; exact k
theorem Go.caload (X : Cx p l e R s m args below meth c Z own nm bytes maxL rt T locs cells slots h) (pc' : Nat) {a : Addr} {kA : ClassId} {n j : Int32} {vs : List Value} {d v : Value} (V : Arv Z h a kA .char n vs d) (hd : decode bytes pc = .ok (.caload, 1)) (hj : ¬ j < 0 ∧ j < n) (u : vs.getD j.toNatClampNeg d = v) (k : Go p e below En T m pc' Ls (v :: st)) (hp : pc + 1 = pc' := by rfl) : Go p e below En T m pc Ls (.int j :: .ref a :: st) := by
  subst hp
  obtain ⟨cl, A, q1, S, q3, H, G⟩ := V
  exact Go.step (fun _ hr => X.sd.caload X.hx (by rw [X.eq]; exact A.1) (State.isArrayOf_alike X.hZ.alike A.2.1) A.2.2 (inb_of S hj) (H.at (inb_of S hj) u) (g := mkF m pc Ls (.int j :: .ref a :: st)) rfl rfl (hb X.hby hd) _ hr) k
theorem Go.baload (X : Cx p l e R s m args below meth c Z own nm bytes maxL rt T locs cells slots h) (pc' : Nat) {a : Addr} {kA : ClassId} {n j : Int32} {vs : List Value} {d v : Value} (V : Arv Z h a kA .byte n vs d) (hd : decode bytes pc = .ok (.baload, 1)) (hj : ¬ j < 0 ∧ j < n) (u : vs.getD j.toNatClampNeg d = v) (k : Go p e below En T m pc' Ls (v :: st)) (hp : pc + 1 = pc' := by rfl) : Go p e below En T m pc Ls (.int j :: .ref a :: st) := by
  subst hp
  obtain ⟨cl, A, q1, S, q3, H, G⟩ := V
  exact Go.step (fun _ hr => X.sd.baloadBytes X.hx (by rw [X.eq]; exact A.1) (State.isArrayOf_alike X.hZ.alike A.2.1) A.2.2 (inb_of S hj) (H.at (inb_of S hj) u) (g := mkF m pc Ls (.int j :: .ref a :: st)) rfl rfl (hb X.hby hd) _ hr) k
theorem Go.aaload (X : Cx p l e R s m args below meth c Z own nm bytes maxL rt T locs cells slots h) (pc' : Nat) {a : Addr} {kA : ClassId} {ty : FieldType} {n j : Int32} {vs : List Value} {d v : Value} (V : Arv Z h a kA ty n vs d) (hty : ty.isReference = true) (hd : decode bytes pc = .ok (.aaload, 1)) (hj : ¬ j < 0 ∧ j < n) (u : vs.getD j.toNatClampNeg d = v) (k : Go p e below En T m pc' Ls (v :: st)) (hp : pc + 1 = pc' := by rfl) : Go p e below En T m pc Ls (.int j :: .ref a :: st) := by
  subst hp
  obtain ⟨cl, A, q1, S, q3, H, G⟩ := V
  exact Go.step (fun _ hr => X.sd.aaload X.hx (by rw [X.eq]; exact A.1) (State.isArrayOf_alike X.hZ.alike A.2.1) hty A.2.2 (inb_of S hj) (H.at (inb_of S hj) u) (g := mkF m pc Ls (.int j :: .ref a :: st)) rfl rfl (hb X.hby hd) _ hr) k
theorem Go.castY (X : Cx p l e R s m args below meth c Z own nm bytes maxL rt T locs cells slots h) (pc' : Nat) {K : String} {idx : Nat} {a : Addr} (w : (Jvm.Cond.classLink own idx K).before a0 Z = true) (F : Ins Z h a K true) (hd : decode bytes pc = .ok (.checkcast idx, 3)) (k : ∀ T', Cx p l e R s m args below meth c Z own nm bytes maxL rt T' locs cells slots h → Go p e below En T' m pc' Ls (.ref a :: st)) (hp : pc + 3 = pc' := by rfl) : Go p e below En T m pc Ls (.ref a :: st) := by
  subst hp
  obtain ⟨T', X', e', st'⟩ := RoadKit.castY X.sd X.hx X.hZ X.hown w X.eq F (g := mkF m pc Ls (.ref a :: st)) rfl rfl (hb X.hby hd)
  exact Go.step st' (k T' (X.mk' X' e' X.fr X.old))
theorem Go.instY (X : Cx p l e R s m args below meth c Z own nm bytes maxL rt T locs cells slots h) (pc' : Nat) {K : String} {idx : Nat} {a : Addr} (w : (Jvm.Cond.classLink own idx K).before a0 Z = true) (F : Ins Z h a K true) (hd : decode bytes pc = .ok (.instanceof idx, 3)) (k : ∀ T', Cx p l e R s m args below meth c Z own nm bytes maxL rt T' locs cells slots h → Go p e below En T' m pc' Ls (.int 1 :: st)) (hp : pc + 3 = pc' := by rfl) : Go p e below En T m pc Ls (.ref a :: st) := by
  subst hp
  obtain ⟨T', X', e', st'⟩ := RoadKit.instY X.sd X.hx X.hZ X.hown w X.eq F (g := mkF m pc Ls (.ref a :: st)) rfl rfl (hb X.hby hd)
  exact Go.step st' (k T' (X.mk' X' e' X.fr X.old))
theorem Go.instNo (X : Cx p l e R s m args below meth c Z own nm bytes maxL rt T locs cells slots h) (pc' : Nat) {K D : String} {idx : Nat} {a : Addr} (w : (Jvm.Cond.classLink own idx K).before a0 Z = true) (E : Exa Z h a D) (F : ∃ c t, Z.vm.findClass D = some c ∧ Z.vm.findClass K = some t ∧ Z.vm.assignable c t = false) (hd : decode bytes pc = .ok (.instanceof idx, 3)) (k : ∀ T', Cx p l e R s m args below meth c Z own nm bytes maxL rt T' locs cells slots h → Go p e below En T' m pc' Ls (.int 0 :: st)) (hp : pc + 3 = pc' := by rfl) : Go p e below En T m pc Ls (.ref a :: st) := by
  subst hp
  obtain ⟨T', X', e', st'⟩ := RoadKit.instNo X.sd X.hx X.hZ X.hown w X.eq E F (g := mkF m pc Ls (.ref a :: st)) rfl rfl (hb X.hby hd)
  exact Go.step st' (k T' (X.mk' X' e' X.fr X.old))
theorem Go.instNull (X : Cx p l e R s m args below meth c Z own nm bytes maxL rt T locs cells slots h) (pc' : Nat) {idx : Nat} (hd : decode bytes pc = .ok (.instanceof idx, 3)) (k : Go p e below En T m pc' Ls (.int 0 :: st)) (hp : pc + 3 = pc' := by rfl) : Go p e below En T m pc Ls (.null :: st) := by
  subst hp
  exact Go.step (Jvm.Stand.instanceofNull X.sd X.hx (g := mkF m pc Ls (.null :: st)) rfl rfl (hb X.hby hd)) k
theorem own_noSub {C S K : String} {n : Nat} (w : (Jvm.Cond.superclass C S).before a0 Z = true) (wk : (Jvm.Cond.instantiable K n).before a0 Z = true) (wr : (Jvm.Cond.noSuperclass S).before a0 Z = true) (h1 : C ≠ K) (h2 : S ≠ K) : ∃ c t, Z.vm.findClass C = some c ∧ Z.vm.findClass K = some t ∧ Z.vm.assignable c t = false := by
  obtain ⟨t, kt, g1, g2, g3, g4, -⟩ := Cond.instantiable_spec wk
  have hi : kt.isInterface = false := by rw [Bool.or_eq_false_iff] at g4; exact g4.1
  have nr : NS Z S K := by
    obtain ⟨c, k, r1, r2, r3, -, -⟩ := Cond.noSuperclass_spec wr
    refine ⟨c, t, r1, g1, fun fuel => ?_⟩
    have ne := ids_ne r1 g1 h2
    cases fuel with
    | zero => rfl
    | succ f => simp [Vm.isSubclassAux, ne, r2, r3]
  obtain ⟨c, t', h0, g0, n3⟩ := NS.step w nr h1
  cases g1.symm.trans g0
  obtain ⟨p, k, kp, -, k2, -, -, k5, -, -⟩ := Cond.superclass_spec h0 w
  have ne := ids_ne h0 g1 h1
  refine ⟨c, t, h0, g1, ?_⟩
  show Z.vm.assignableAux (255 + 1) c t = false
  simp [Vm.assignableAux, ne, k2, g2, k5, g3, hi, Vm.isSubclass, n3]
theorem Go.mono {En' : Option Value → State → Prop} (f : ∀ v t, En' v t → En v t) (k : Go p e below En' T m pc Ls st) : Go p e below En T m pc Ls st := by
  obtain ⟨s₂, v, k1, k2, k3, k4⟩ := k
  exact ⟨s₂, v, k1, k2, k3, f _ _ k4⟩
theorem Cx.back (X : Cx p l e R s m args below meth c Z own nm bytes maxL rt T locs cells slots h) {y : MethodName} {by' : ByteArray} {ml' : Nat} {rt' : Option FieldType} {rm : Room} {as' : Array Value} {Q' : Option Value → Heap → Prop} {len W : Nat} (ct : Ct l Z [] y by' ml' rt' rm as' h Q') (wc : (Jvm.Cond.code y by' ml' rt').before a0 Z = true) (wz : (Jvm.Cond.initialized y.cls).before a0 Z = true) (hf : rm.frames + 1 ≤ R.frames) (hl : W + (ml' + 11) + rm.locals ≤ R.locals) :
    Back l R p e below s args y len W (fun A a => a = as' ∧ A.U.heap = h ∧ A.cells + rm.cells ≤ R.cells ∧ A.slots + rm.slots ≤ R.slots) (fun A _ v B => ∃ L, (Fr Z.heap.size L ∧ Ext Z.heap B.U.heap ∧ Q' v B.U.heap) ∧ B.locs = A.locs ++ L ∧ B.cells = A.cells + rm.cells ∧ B.slots = A.slots + rm.slots) :=
  backOf (Q := fun v hh L => Fr Z.heap.size L ∧ Ext Z.heap hh ∧ Q' v hh) (ct X.old) X.hZ wc wz hf hl
theorem Go.callS (X : Cx p l e R s m args below meth c Z own nm bytes maxL rt T locs cells slots h) (pc' : Nat) {idx : Nat} {y : MethodName} {by' : ByteArray} {ml' : Nat} {rt' : Option FieldType} {rm : Room} {ps : List FieldType} {rr : Option FieldType} {Q' : Option Value → Heap → Prop} (argsL rest : List Value) (W : Nat) (wl : (Jvm.Cond.methodLink own idx y).before a0 Z = true) (ws : (Jvm.Cond.static y).before a0 Z = true) (wz : (Jvm.Cond.initialized y.cls).before a0 Z = true) (hy : y.cls ≠ "java/lang/invoke/MethodHandle" ∧ y.cls ≠ "java/lang/invoke/VarHandle") (wc : (Jvm.Cond.code y by' ml' rt').before a0 Z = true) (pd : parseMethodDescriptor y.desc = some ⟨ps, rr⟩) (hd : decode bytes pc = .ok (.invokestatic idx, 3)) (ct : Ct l Z [] y by' ml' rt' rm (argsL.toArray) h Q') (hlen : argsL.length = ps.length) (hst : st = argsL.reverse ++ rest) (hsz : Ls.size = maxL) (hW : (rest.map fun v => v.category).sum ≤ W) (hf : rm.frames + 1 ≤ R.frames) (hl : W + (ml' + 11) + rm.locals ≤ R.locals) (hce : cells + rm.cells ≤ R.cells) (hsl : slots + rm.slots ≤ R.slots)
    (k : ∀ T' v L, Cx p l e R s m args below meth c Z own nm bytes maxL rt T' (locs ++ L) (cells + rm.cells) (slots + rm.slots) T'.heap → Q' v T'.heap → Go p e below En T' m pc' Ls (v.toList ++ rest)) (hp : pc + 3 = pc' := by rfl) : Go p e below En T m pc Ls st := by
  subst hp
  obtain ⟨v, _, ⟨T', L', k', n'⟩, -, X', ⟨L, hq, e1, e2, e3⟩, st'⟩ := Jvm.LawKit.callS X.sd X.hx (y := y) X.hown (mvT X.hZ wl) (mvT X.hZ ws) (mvT X.hZ wz) (mvT X.hZ wc) hy (X.back (W := W) ct wc wz hf hl) (g := mkF m pc Ls st) rfl (hsz.trans X.hml.symm) (argsL := argsL) (rest := rest) (lenOf pd hlen) hst (by simpa using hW) (hb X.hby hd) (fun _ _ => ⟨rfl, X.eq, hce, hsl⟩)
  dsimp only [Pt.U, Pt.locs, Pt.cells, Pt.slots] at X' e1 e2 e3 st' hq
  subst e1 e2 e3
  exact Go.step st' (k T' v L (X.mk' X' rfl (X.fr.app hq.1) hq.2.1) hq.2.2)
theorem Go.callSP (X : Cx p l e R s m args below meth c Z own nm bytes maxL rt T locs cells slots h) (pc' : Nat) {idx : Nat} {y : MethodName} {by' : ByteArray} {ml' : Nat} {rt' : Option FieldType} {rm : Room} {ps : List FieldType} {rr : Option FieldType} {v : Value} (argsL rest : List Value) (W : Nat) (wl : (Jvm.Cond.methodLink own idx y).before a0 Z = true) (ws : (Jvm.Cond.static y).before a0 Z = true) (wz : (Jvm.Cond.initialized y.cls).before a0 Z = true) (hy : y.cls ≠ "java/lang/invoke/MethodHandle" ∧ y.cls ≠ "java/lang/invoke/VarHandle") (wc : (Jvm.Cond.code y by' ml' rt').before a0 Z = true) (pd : parseMethodDescriptor y.desc = some ⟨ps, rr⟩) (hd : decode bytes pc = .ok (.invokestatic idx, 3)) (ct : Ct l Z [] y by' ml' rt' rm (argsL.toArray) h (Pu h v)) (hlen : argsL.length = ps.length) (hst : st = argsL.reverse ++ rest) (hsz : Ls.size = maxL) (hW : (rest.map fun v => v.category).sum ≤ W) (hf : rm.frames + 1 ≤ R.frames) (hl : W + (ml' + 11) + rm.locals ≤ R.locals) (hce : cells + rm.cells ≤ R.cells) (hsl : slots + rm.slots ≤ R.slots)
    (k : ∀ T' L, Cx p l e R s m args below meth c Z own nm bytes maxL rt T' (locs ++ L) (cells + rm.cells) (slots + rm.slots) h → Go p e below En T' m pc' Ls (v :: rest)) (hp : pc + 3 = pc' := by rfl) : Go p e below En T m pc Ls st :=
  Go.callS X pc' argsL rest W wl ws wz hy wc pd hd ct hlen hst hsz hW hf hl hce hsl (fun T' v' L X' q => by
    obtain ⟨rfl, q2⟩ := q
    rw [q2] at X'
    exact k T' L X') hp
theorem Go.callI (X : Cx p l e R s m args below meth c Z own nm bytes maxL rt T locs cells slots h) (pc' : Nat) {idx : Nat} {y : MethodName} {by' : ByteArray} {ml' : Nat} {rt' : Option FieldType} {rm : Room} {ps : List FieldType} {rr : Option FieldType} {a : Addr} {Q' : Option Value → Heap → Prop} (argsL rest : List Value) (W : Nat) (hy1 : y.name = "<init>") (wl : (Jvm.Cond.methodLink own idx y).before a0 Z = true) (wm : (Jvm.Cond.instanceMethod y).before a0 Z = true) (wz : (Jvm.Cond.initialized y.cls).before a0 Z = true) (hy : y.cls ≠ "java/lang/invoke/MethodHandle" ∧ y.cls ≠ "java/lang/invoke/VarHandle") (hrn : rt' = none) (wc : (Jvm.Cond.code y by' ml' rt').before a0 Z = true) (pd : parseMethodDescriptor y.desc = some ⟨ps, rr⟩) (hd : decode bytes pc = .ok (.invokespecial idx, 3)) (ct : Ct l Z [] y by' ml' rt' rm ((Value.ref a :: argsL).toArray) h Q') (hlen : argsL.length = ps.length) (hst : st = argsL.reverse ++ .ref a :: rest) (hsz : Ls.size = maxL) (hW : (rest.map fun v => v.category).sum ≤ W) (hf : rm.frames + 1 ≤ R.frames) (hl : W + (ml' + 11) + rm.locals ≤ R.locals) (hce : cells + rm.cells ≤ R.cells) (hsl : slots + rm.slots ≤ R.slots)
    (k : ∀ T' v L, Cx p l e R s m args below meth c Z own nm bytes maxL rt T' (locs ++ L) (cells + rm.cells) (slots + rm.slots) T'.heap → Q' v T'.heap → Go p e below En T' m pc' Ls (v.toList ++ rest)) (hp : pc + 3 = pc' := by rfl) : Go p e below En T m pc Ls st := by
  subst hp
  subst hrn
  obtain ⟨v, _, ⟨T', L', k', n'⟩, -, X', ⟨L, hq, e1, e2, e3⟩, st'⟩ := X.sd.specialBack X.hx (y := y) hy1 X.hown (mvT X.hZ wl) (mvT X.hZ wm) (mvT X.hZ wc) hy (X.back (W := W) ct wc wz hf hl) (g := mkF m pc Ls st) rfl (hsz.trans X.hml.symm) (Steps.refl _) (a := a) (argsL := argsL) (rest := rest) (lenOf pd hlen) hst (by simpa using hW) (hb X.hby hd) (fun _ _ => ⟨rfl, X.eq, hce, hsl⟩)
  dsimp only [Pt.U, Pt.locs, Pt.cells, Pt.slots] at X' e1 e2 e3 st' hq
  subst e1 e2 e3
  exact Go.step (fun _ hr => Steps.trans st' hr) (k T' v L (X.mk' X' rfl (X.fr.app hq.1) hq.2.1) hq.2.2)
theorem Go.callIP (X : Cx p l e R s m args below meth c Z own nm bytes maxL rt T locs cells slots h) (pc' : Nat) {idx : Nat} {y : MethodName} {by' : ByteArray} {ml' : Nat} {rt' : Option FieldType} {rm : Room} {ps : List FieldType} {rr : Option FieldType} {a : Addr} {v : Value} (argsL rest : List Value) (W : Nat) (hy1 : y.name = "<init>") (wl : (Jvm.Cond.methodLink own idx y).before a0 Z = true) (wm : (Jvm.Cond.instanceMethod y).before a0 Z = true) (wz : (Jvm.Cond.initialized y.cls).before a0 Z = true) (hy : y.cls ≠ "java/lang/invoke/MethodHandle" ∧ y.cls ≠ "java/lang/invoke/VarHandle") (hrn : rt' = none) (wc : (Jvm.Cond.code y by' ml' rt').before a0 Z = true) (pd : parseMethodDescriptor y.desc = some ⟨ps, rr⟩) (hd : decode bytes pc = .ok (.invokespecial idx, 3)) (ct : Ct l Z [] y by' ml' rt' rm ((Value.ref a :: argsL).toArray) h (Pu h v)) (hlen : argsL.length = ps.length) (hst : st = argsL.reverse ++ .ref a :: rest) (hsz : Ls.size = maxL) (hW : (rest.map fun v => v.category).sum ≤ W) (hf : rm.frames + 1 ≤ R.frames) (hl : W + (ml' + 11) + rm.locals ≤ R.locals) (hce : cells + rm.cells ≤ R.cells) (hsl : slots + rm.slots ≤ R.slots)
    (k : ∀ T' L, Cx p l e R s m args below meth c Z own nm bytes maxL rt T' (locs ++ L) (cells + rm.cells) (slots + rm.slots) h → Go p e below En T' m pc' Ls (v :: rest)) (hp : pc + 3 = pc' := by rfl) : Go p e below En T m pc Ls st :=
  Go.callI X pc' argsL rest W hy1 wl wm wz hy hrn wc pd hd ct hlen hst hsz hW hf hl hce hsl (fun T' v' L X' q => by
    obtain ⟨rfl, q2⟩ := q
    rw [q2] at X'
    exact k T' L X') hp
theorem Go.callV (X : Cx p l e R s m args below meth c Z own nm bytes maxL rt T locs cells slots h) (pc' : Nat) {idx : Nat} {y z : MethodName} {C : String} {by' : ByteArray} {ml' : Nat} {rt' : Option FieldType} {rm : Room} {ps : List FieldType} {rr : Option FieldType} {a : Addr} {Q' : Option Value → Heap → Prop} (argsL rest : List Value) (W : Nat) (wl : (Jvm.Cond.methodLink own idx y).before a0 Z = true) (wd : (Jvm.Cond.declares y).before a0 Z = true) (wf : (Jvm.Cond.selects C y z).before a0 Z = true) (nf : NotFace s y) (wm : (Jvm.Cond.instanceMethod z).before a0 Z = true) (wz : (Jvm.Cond.initialized z.cls).before a0 Z = true) (hy : y.cls ≠ "java/lang/invoke/MethodHandle" ∧ y.cls ≠ "java/lang/invoke/VarHandle") (E : Exa Z h a C) (wc : (Jvm.Cond.code z by' ml' rt').before a0 Z = true) (pd : parseMethodDescriptor y.desc = some ⟨ps, rr⟩) (hd : decode bytes pc = .ok (.invokevirtual idx, 3)) (ct : Ct l Z [] z by' ml' rt' rm ((Value.ref a :: argsL).toArray) h Q') (hlen : argsL.length = ps.length) (hst : st = argsL.reverse ++ .ref a :: rest) (hsz : Ls.size = maxL) (hW : (rest.map fun v => v.category).sum ≤ W) (hf : rm.frames + 1 ≤ R.frames) (hl : W + (ml' + 11) + rm.locals ≤ R.locals) (hce : cells + rm.cells ≤ R.cells) (hsl : slots + rm.slots ≤ R.slots)
    (k : ∀ T' v L, Cx p l e R s m args below meth c Z own nm bytes maxL rt T' (locs ++ L) (cells + rm.cells) (slots + rm.slots) T'.heap → Q' v T'.heap → Go p e below En T' m pc' Ls (v.toList ++ rest)) (hp : pc + 3 = pc' := by rfl) : Go p e below En T m pc Ls st := by
  subst hp
  obtain ⟨cq, kq, qa, qb, qc⟩ := isOf X.hZ X.eq E
  obtain ⟨v, _, ⟨T', L', k', n'⟩, -, X', ⟨L, hq, e1, e2, e3⟩, st'⟩ := X.sd.virtualBack X.hx (y := y) (z := z) X.hown (mvT X.hZ wl) (mvT X.hZ wd) nf (mvT X.hZ wf) (mvT X.hZ wm) hy (X.back (W := W) ct wc wz hf hl) qa qc (g := mkF m pc Ls st) rfl (hsz.trans X.hml.symm) (Steps.refl _) (argsL := argsL) (rest := rest) (lenOf pd hlen) hst (by simpa using hW) (hb X.hby hd) (fun _ _ => ⟨rfl, X.eq, hce, hsl⟩)
  dsimp only [Pt.U, Pt.locs, Pt.cells, Pt.slots] at X' e1 e2 e3 st' hq
  subst e1 e2 e3
  exact Go.step (fun _ hr => Steps.trans st' hr) (k T' v L (X.mk' X' rfl (X.fr.app hq.1) hq.2.1) hq.2.2)
theorem Go.callVP (X : Cx p l e R s m args below meth c Z own nm bytes maxL rt T locs cells slots h) (pc' : Nat) {idx : Nat} {y z : MethodName} {C : String} {by' : ByteArray} {ml' : Nat} {rt' : Option FieldType} {rm : Room} {ps : List FieldType} {rr : Option FieldType} {a : Addr} {v : Value} (argsL rest : List Value) (W : Nat) (wl : (Jvm.Cond.methodLink own idx y).before a0 Z = true) (wd : (Jvm.Cond.declares y).before a0 Z = true) (wf : (Jvm.Cond.selects C y z).before a0 Z = true) (nf : NotFace s y) (wm : (Jvm.Cond.instanceMethod z).before a0 Z = true) (wz : (Jvm.Cond.initialized z.cls).before a0 Z = true) (hy : y.cls ≠ "java/lang/invoke/MethodHandle" ∧ y.cls ≠ "java/lang/invoke/VarHandle") (E : Exa Z h a C) (wc : (Jvm.Cond.code z by' ml' rt').before a0 Z = true) (pd : parseMethodDescriptor y.desc = some ⟨ps, rr⟩) (hd : decode bytes pc = .ok (.invokevirtual idx, 3)) (ct : Ct l Z [] z by' ml' rt' rm ((Value.ref a :: argsL).toArray) h (Pu h v)) (hlen : argsL.length = ps.length) (hst : st = argsL.reverse ++ .ref a :: rest) (hsz : Ls.size = maxL) (hW : (rest.map fun v => v.category).sum ≤ W) (hf : rm.frames + 1 ≤ R.frames) (hl : W + (ml' + 11) + rm.locals ≤ R.locals) (hce : cells + rm.cells ≤ R.cells) (hsl : slots + rm.slots ≤ R.slots)
    (k : ∀ T' L, Cx p l e R s m args below meth c Z own nm bytes maxL rt T' (locs ++ L) (cells + rm.cells) (slots + rm.slots) h → Go p e below En T' m pc' Ls (v :: rest)) (hp : pc + 3 = pc' := by rfl) : Go p e below En T m pc Ls st :=
  Go.callV X pc' argsL rest W wl wd wf nf wm wz hy E wc pd hd ct hlen hst hsz hW hf hl hce hsl (fun T' v' L X' q => by
    obtain ⟨rfl, q2⟩ := q
    rw [q2] at X'
    exact k T' L X') hp
theorem Go.callU (X : Cx p l e R s m args below meth c Z own nm bytes maxL rt T locs cells slots h) (pc' : Nat) {idx : Nat} {y z : MethodName} {C owner : String} {by' : ByteArray} {ml' : Nat} {rt' : Option FieldType} {rm : Room} {ps : List FieldType} {rr : Option FieldType} {a : Addr} {Q' : Option Value → Heap → Prop} (argsL rest : List Value) (W : Nat) (wl : (Jvm.Cond.methodLink own idx y).before a0 Z = true) (wsm : (Jvm.Cond.sameMethod y.cls owner y.name y.desc).before a0 Z = true) (wd : (Jvm.Cond.declares ⟨owner, y.name, y.desc⟩).before a0 Z = true) (wf : (Jvm.Cond.selects C y z).before a0 Z = true) (wm : (Jvm.Cond.instanceMethod z).before a0 Z = true) (wz : (Jvm.Cond.initialized z.cls).before a0 Z = true) (hy : owner ≠ "java/lang/invoke/MethodHandle" ∧ owner ≠ "java/lang/invoke/VarHandle") (E : Exa Z h a C) (wc : (Jvm.Cond.code z by' ml' rt').before a0 Z = true) (pd : parseMethodDescriptor y.desc = some ⟨ps, rr⟩) (hd : decode bytes pc = .ok (.invokevirtual idx, 3)) (ct : Ct l Z [] z by' ml' rt' rm ((Value.ref a :: argsL).toArray) h Q') (hlen : argsL.length = ps.length) (hst : st = argsL.reverse ++ .ref a :: rest) (hsz : Ls.size = maxL) (hW : (rest.map fun v => v.category).sum ≤ W) (hf : rm.frames + 1 ≤ R.frames) (hl : W + (ml' + 11) + rm.locals ≤ R.locals) (hce : cells + rm.cells ≤ R.cells) (hsl : slots + rm.slots ≤ R.slots)
    (k : ∀ T' v L, Cx p l e R s m args below meth c Z own nm bytes maxL rt T' (locs ++ L) (cells + rm.cells) (slots + rm.slots) T'.heap → Q' v T'.heap → Go p e below En T' m pc' Ls (v.toList ++ rest)) (hp : pc + 3 = pc' := by rfl) : Go p e below En T m pc Ls st := by
  subst hp
  obtain ⟨cq, kq, qa, qb, qc⟩ := isOf X.hZ X.eq E
  obtain ⟨v, _, ⟨T', L', k', n'⟩, -, X', ⟨L, hq, e1, e2, e3⟩, st'⟩ := X.sd.virtualBackUp X.hx (x := y) (y := z) X.hown (mvT X.hZ wl) (mvT X.hZ wsm) (mvT X.hZ wd) hy (mvT X.hZ wf) (mvT X.hZ wm) (X.back (W := W) ct wc wz hf hl) qa qc (g := mkF m pc Ls st) rfl (hsz.trans X.hml.symm) (Steps.refl _) (argsL := argsL) (rest := rest) (lenOf pd hlen) hst (by simpa using hW) (hb X.hby hd) (fun _ _ => ⟨rfl, X.eq, hce, hsl⟩)
  dsimp only [Pt.U, Pt.locs, Pt.cells, Pt.slots] at X' e1 e2 e3 st' hq
  subst e1 e2 e3
  exact Go.step (fun _ hr => Steps.trans st' hr) (k T' v L (X.mk' X' rfl (X.fr.app hq.1) hq.2.1) hq.2.2)
theorem Go.callUP (X : Cx p l e R s m args below meth c Z own nm bytes maxL rt T locs cells slots h) (pc' : Nat) {idx : Nat} {y z : MethodName} {C owner : String} {by' : ByteArray} {ml' : Nat} {rt' : Option FieldType} {rm : Room} {ps : List FieldType} {rr : Option FieldType} {a : Addr} {v : Value} (argsL rest : List Value) (W : Nat) (wl : (Jvm.Cond.methodLink own idx y).before a0 Z = true) (wsm : (Jvm.Cond.sameMethod y.cls owner y.name y.desc).before a0 Z = true) (wd : (Jvm.Cond.declares ⟨owner, y.name, y.desc⟩).before a0 Z = true) (wf : (Jvm.Cond.selects C y z).before a0 Z = true) (wm : (Jvm.Cond.instanceMethod z).before a0 Z = true) (wz : (Jvm.Cond.initialized z.cls).before a0 Z = true) (hy : owner ≠ "java/lang/invoke/MethodHandle" ∧ owner ≠ "java/lang/invoke/VarHandle") (E : Exa Z h a C) (wc : (Jvm.Cond.code z by' ml' rt').before a0 Z = true) (pd : parseMethodDescriptor y.desc = some ⟨ps, rr⟩) (hd : decode bytes pc = .ok (.invokevirtual idx, 3)) (ct : Ct l Z [] z by' ml' rt' rm ((Value.ref a :: argsL).toArray) h (Pu h v)) (hlen : argsL.length = ps.length) (hst : st = argsL.reverse ++ .ref a :: rest) (hsz : Ls.size = maxL) (hW : (rest.map fun v => v.category).sum ≤ W) (hf : rm.frames + 1 ≤ R.frames) (hl : W + (ml' + 11) + rm.locals ≤ R.locals) (hce : cells + rm.cells ≤ R.cells) (hsl : slots + rm.slots ≤ R.slots)
    (k : ∀ T' L, Cx p l e R s m args below meth c Z own nm bytes maxL rt T' (locs ++ L) (cells + rm.cells) (slots + rm.slots) h → Go p e below En T' m pc' Ls (v :: rest)) (hp : pc + 3 = pc' := by rfl) : Go p e below En T m pc Ls st :=
  Go.callU X pc' argsL rest W wl wsm wd wf wm wz hy E wc pd hd ct hlen hst hsz hW hf hl hce hsl (fun T' v' L X' q => by
    obtain ⟨rfl, q2⟩ := q
    rw [q2] at X'
    exact k T' L X') hp
theorem Cx.more {cells' slots' : Nat} (X : Cx p l e R s m args below meth c Z own nm bytes maxL rt T locs cells slots h) (q : cells ≤ cells' := by decide) (r : slots ≤ slots' := by decide) : Cx p l e R s m args below meth c Z own nm bytes maxL rt T locs cells' slots' h := X.mk' (X.sd.more q r) X.eq X.fr X.old
theorem Go.join (X : Cx p l e R s m args below meth c Z own nm bytes maxL rt T locs cells slots h) {α : Type} (P : α → Heap → Prop) (pc1 : Nat) (Ls1 : α → Array Slot) (st1 : α → List Value) (c1 s1 : Nat)
    (tail : ∀ T' locs' h' a, Cx p l e R s m args below meth c Z own nm bytes maxL rt T' locs' c1 s1 h' → P a h' → Go p e below En T' m pc1 (Ls1 a) (st1 a))
    (heads : (∀ T' locs' h' a, Cx p l e R s m args below meth c Z own nm bytes maxL rt T' locs' c1 s1 h' → P a h' → Go p e below En T' m pc1 (Ls1 a) (st1 a)) → Go p e below En T m pc Ls st) : Go p e below En T m pc Ls st := heads tail
end Kit

section Ankit
variable {p : Program} {l : Launch} {e : Env} {R : Room} {s : State} {m : MethodId} {args : Array Value} {below : List Frame} {meth : Method} {c : Code} {T : State} {locs : List Loc} {cells slots : Nat} {Z : State} {a0 : Array Value} {h h' : Heap} {own nm : String} {bytes : ByteArray} {maxL : Nat} {rt : Option FieldType} {En : Option Value → State → Prop} {pc : Nat} {Ls : Array Slot} {st : List Value}
theorem n_int {n : Nat} (hn : n < 2147483648) : (Int32.ofNat n).toInt = n := len_toInt hn
theorem n_succ (i : Nat) : Int32.ofNat i + 1 = Int32.ofNat (i + 1) := by rw [Int32.ofNat_add]; rfl
theorem n_lt {i n : Nat} (hi : i < n) (hn : n < 2147483648) : Int32.ofNat i < Int32.ofNat n := by rw [Int32.lt_iff_toInt_lt, n_int hn, n_int (by omega)]; omega
theorem n_nlt {i n : Nat} (hi : n ≤ i) (hn : i < 2147483648) : ¬ Int32.ofNat i < Int32.ofNat n := by rw [Int32.lt_iff_toInt_lt, n_int hn, n_int (by omega)]; omega
theorem n_nn {n : Nat} (hn : n < 2147483648) : ¬ Int32.ofNat n < 0 := by rw [Int32.lt_iff_toInt_lt, n_int hn]; simp
theorem n_cl {n : Nat} (hn : n < 2147483648) : (Int32.ofNat n).toNatClampNeg = n := by simp [Int32.toNatClampNeg, n_int hn]
theorem n_inj {i n : Nat} (hi : i < 2147483648) (hn : n < 2147483648) (q : Int32.ofNat i = Int32.ofNat n) : i = n := by
  have := congrArg Int32.toInt q
  rw [n_int hi, n_int hn] at this
  omega
theorem n_b (x : Int32) : x.toInt8.toInt32.toInt8.toInt32 = x.toInt8.toInt32 := by simp
/-- an array of n ints (bytes, chars ..) that holds f 0, f 1, .. -/
def An (Z : State) (h : Heap) (a : Addr) (ty : FieldType) (n : Nat) (f : Nat → Int32) : Prop := n < 2147483648 ∧ ∃ k vs d, Arv Z h a k ty (Int32.ofNat n) vs d ∧ vs.length = n ∧ ∀ j, j < n → vs.getD j d = Value.int (f j)
def upd (f : Nat → Int32) (i : Nat) (x : Int32) : Nat → Int32 := fun j => if j = i then x else f j
variable {a b : Addr} {ty : FieldType} {n : Nat} {f g : Nat → Int32}
theorem An.len (A : An Z h a ty n f) : n < 2147483648 := A.1
theorem An.lt (A : An Z h a ty n f) : a < h.size := by obtain ⟨-, k, vs, d, V, -⟩ := A; exact V.lt
theorem An.ext (A : An Z h a ty n f) (E : Ext h h') : An Z h' a ty n f := by obtain ⟨q, k, vs, d, V, r⟩ := A; exact ⟨q, k, vs, d, V.ext E, r⟩
theorem An.other {i : Nat} {x : Value} (A : An Z h b ty n f) (W : Wr h h' a i x) (q : b ≠ a) : An Z h' b ty n f := by obtain ⟨q0, k, vs, d, V, r⟩ := A; exact ⟨q0, k, vs, d, V.other W q, r⟩
theorem An.keep {ws : List Addr} (A : An Z h a ty n f) (K : Keep h h' ws) (q : a ∉ ws) : An Z h' a ty n f := by obtain ⟨q0, k, vs, d, V, r⟩ := A; exact ⟨q0, k, vs, d, V.keep K q, r⟩
theorem An.congr (A : An Z h a ty n f) (q : ∀ j, j < n → f j = g j) : An Z h a ty n g := by obtain ⟨q0, k, vs, d, V, r1, r2⟩ := A; exact ⟨q0, k, vs, d, V, r1, fun j hj => by rw [r2 j hj, q j hj]⟩
theorem An.new {k : ClassId} (V : Arv Z h a k ty (Int32.ofNat n) [] (.int 0)) (hn : n < 2147483648) : An Z h a ty n (fun _ => 0) := by
  refine ⟨hn, k, List.replicate n (.int 0), .int 0, V.pad (pad_rep [] (.int 0) n), by simp, fun j hj => ?_⟩
  rw [List.getD_eq_getElem?_getD, List.getElem?_replicate]
  simp [hj]
theorem An.inb (A : An Z h a ty n f) {i : Nat} (hi : i < n) : ¬ Int32.ofNat i < 0 ∧ Int32.ofNat i < Int32.ofNat n := ⟨n_nn (Nat.lt_trans hi A.1), n_lt hi A.1⟩
theorem An.sets {k : ClassId} {vs : List Value} {d : Value} {i : Nat} {x : Int32} (V : Arv Z h a k ty (Int32.ofNat n) (vs.set i (.int x)) d) (hn : n < 2147483648) (hl : vs.length = n) (hi : i < n) (r : ∀ j, j < n → vs.getD j d = Value.int (f j)) : An Z h a ty n (upd f i x) := by
  refine ⟨hn, k, vs.set i (.int x), d, V, by simp [hl], fun j hj => ?_⟩
  unfold upd
  rw [List.getD_eq_getElem?_getD]
  by_cases q : j = i
  · subst q
    rw [List.getElem?_set_self (by omega), if_pos rfl]; rfl
  · rw [List.getElem?_set_ne (Ne.symm q), if_neg q, ← List.getD_eq_getElem?_getD]; exact r j hj
theorem Go.alenN (X : Cx p l e R s m args below meth c Z own nm bytes maxL rt T locs cells slots h) (pc' : Nat) (A : An Z h a ty n f) (hd : decode bytes pc = .ok (.arraylength, 1)) (k : Go p e below En T m pc' Ls (.int (Int32.ofNat n) :: st)) (hp : pc + 1 = pc' := by rfl) : Go p e below En T m pc Ls (.ref a :: st) := by
  obtain ⟨q, kA, vs, d, V, r1, r2⟩ := A
  exact Go.alen X pc' V hd k hp
theorem Go.caN (X : Cx p l e R s m args below meth c Z own nm bytes maxL rt T locs cells slots h) (pc' : Nat) (A : An Z h a .char n f) (i : Nat) (hi : i < n) (hd : decode bytes pc = .ok (.caload, 1)) (k : Go p e below En T m pc' Ls (.int (f i) :: st)) (hp : pc + 1 = pc' := by rfl) : Go p e below En T m pc Ls (.int (Int32.ofNat i) :: .ref a :: st) := by
  have hj := A.inb hi
  obtain ⟨q, kA, vs, d, V, r1, r2⟩ := A
  exact Go.caload X pc' V hd hj (by rw [n_cl (Nat.lt_trans hi q)]; exact r2 i hi) k hp
theorem Go.baN (X : Cx p l e R s m args below meth c Z own nm bytes maxL rt T locs cells slots h) (pc' : Nat) (A : An Z h a .byte n f) (i : Nat) (hi : i < n) (hd : decode bytes pc = .ok (.baload, 1)) (k : Go p e below En T m pc' Ls (.int (f i) :: st)) (hp : pc + 1 = pc' := by rfl) : Go p e below En T m pc Ls (.int (Int32.ofNat i) :: .ref a :: st) := by
  have hj := A.inb hi
  obtain ⟨q, kA, vs, d, V, r1, r2⟩ := A
  exact Go.baload X pc' V hd hj (by rw [n_cl (Nat.lt_trans hi q)]; exact r2 i hi) k hp
theorem Go.stCN (X : Cx p l e R s m args below meth c Z own nm bytes maxL rt T locs cells slots h) (pc' : Nat) {x : Int32} (A : An Z h a .char n f) (i : Nat) (hi : i < n) (hd : decode bytes pc = .ok (.castore, 1)) (ha : Z.heap.size ≤ a)
    (k : ∀ T' h' w, Cx p l e R s m args below meth c Z own nm bytes maxL rt T' (locs ++ [⟨a, w⟩]) cells slots h' → Wr h h' a w (.int (nar .char x)) → An Z h' a .char n (upd f i (nar .char x)) → Go p e below En T' m pc' Ls st) (hp : pc + 1 = pc' := by rfl) : Go p e below En T m pc Ls (.int x :: .int (Int32.ofNat i) :: .ref a :: st) := by
  have hj := A.inb hi
  obtain ⟨q, kA, vs, d, V, r1, r2⟩ := A
  exact Go.stC X pc' V hd hj i (n_cl (Nat.lt_trans hi q)) (by omega) ha (fun T' h' X' W V' => k T' h' _ X' W (An.sets V' q r1 hi r2)) hp
theorem Go.stBN (X : Cx p l e R s m args below meth c Z own nm bytes maxL rt T locs cells slots h) (pc' : Nat) {x : Int32} (A : An Z h a .byte n f) (i : Nat) (hi : i < n) (hd : decode bytes pc = .ok (.bastore, 1)) (ha : Z.heap.size ≤ a)
    (k : ∀ T' h' w, Cx p l e R s m args below meth c Z own nm bytes maxL rt T' (locs ++ [⟨a, w⟩]) cells slots h' → Wr h h' a w (.int (nar .byte x)) → An Z h' a .byte n (upd f i (nar .byte x)) → Go p e below En T' m pc' Ls st) (hp : pc + 1 = pc' := by rfl) : Go p e below En T m pc Ls (.int x :: .int (Int32.ofNat i) :: .ref a :: st) := by
  have hj := A.inb hi
  obtain ⟨q, kA, vs, d, V, r1, r2⟩ := A
  exact Go.stB X pc' V hd hj i (n_cl (Nat.lt_trans hi q)) (by omega) ha (fun T' h' X' W V' => k T' h' _ X' W (An.sets V' q r1 hi r2)) hp
theorem Go.newC (X : Cx p l e R s m args below meth c Z own nm bytes maxL rt T locs cells slots h) (pc' : Nat) (w : (Jvm.Cond.arrayClass .char).before a0 Z = true) (hd : decode bytes pc = .ok (.newarray .char, 2)) (cap : Nat) (hcap : n ≤ cap) (hcp : cap ≤ 67108864) (hc : cells + 1 ≤ R.cells) (hl : slots + cap ≤ R.slots)
    (k : ∀ T' h' a, Cx p l e R s m args below meth c Z own nm bytes maxL rt T' locs (cells + 1) (slots + cap) h' → Ext h h' → h.size = a → An Z h' a .char n (fun _ => 0) → Go p e below En T' m pc' Ls (.ref a :: st)) (hp : pc + 2 = pc' := by rfl) : Go p e below En T m pc Ls (.int (Int32.ofNat n) :: st) := by
  have hn : n < 2147483648 := by omega
  exact Go.newP X pc' (aty := .char) w hd cap (n_nn hn) (by rw [n_cl hn]; exact hcap) (by omega) hc hl (fun T' h' a kA X' E q V => k T' h' a X' E q (An.new V hn)) hp
theorem Go.newB (X : Cx p l e R s m args below meth c Z own nm bytes maxL rt T locs cells slots h) (pc' : Nat) (w : (Jvm.Cond.arrayClass .byte).before a0 Z = true) (hd : decode bytes pc = .ok (.newarray .byte, 2)) (cap : Nat) (hcap : n ≤ cap) (hcp : cap ≤ 67108864) (hc : cells + 1 ≤ R.cells) (hl : slots + cap ≤ R.slots)
    (k : ∀ T' h' a, Cx p l e R s m args below meth c Z own nm bytes maxL rt T' locs (cells + 1) (slots + cap) h' → Ext h h' → h.size = a → An Z h' a .byte n (fun _ => 0) → Go p e below En T' m pc' Ls (.ref a :: st)) (hp : pc + 2 = pc' := by rfl) : Go p e below En T m pc Ls (.int (Int32.ofNat n) :: st) := by
  have hn : n < 2147483648 := by omega
  exact Go.newP X pc' (aty := .byte) w hd cap (n_nn hn) (by rw [n_cl hn]; exact hcap) (by omega) hc hl (fun T' h' a kA X' E q V => k T' h' a X' E q (An.new V hn)) hp
end Ankit
theorem pd_0 : parseMethodDescriptor "([CI[BII)I" = some ⟨[(.array .char), .int, (.array .byte), .int, .int], some .int⟩ := by decide +kernel
theorem pd_1 : parseMethodDescriptor "([CII)[B" = some ⟨[(.array .char), .int, .int], some (.array .byte)⟩ := by decide +kernel
theorem pd_2 : parseMethodDescriptor "([BI)B" = some ⟨[(.array .byte), .int], some .byte⟩ := by decide +kernel
theorem pd_3 : parseMethodDescriptor "([CIILjava/lang/Void;)V" = some ⟨[(.array .char), .int, .int, (.object "java/lang/Void")], none⟩ := by decide +kernel
theorem pd_4 : parseMethodDescriptor "([B[B)Z" = some ⟨[(.array .byte), (.array .byte)], some .boolean⟩ := by decide +kernel
theorem pd_5 : parseMethodDescriptor "([C)V" = some ⟨[(.array .char)], none⟩ := by decide +kernel
theorem pd_6 : parseMethodDescriptor "()V" = some ⟨[], none⟩ := by decide +kernel
theorem pd_7 : parseMethodDescriptor "()Z" = some ⟨[], some .boolean⟩ := by decide +kernel
theorem pd_8 : parseMethodDescriptor "(Ljava/lang/Object;)Z" = some ⟨[(.object "java/lang/Object")], some .boolean⟩ := by decide +kernel
theorem pd_9 : parseMethodDescriptor "(ZCC)Ljava/lang/String;" = some ⟨[.boolean, .char, .char], some (.object "java/lang/String")⟩ := by decide +kernel
theorem pd_10 : parseMethodDescriptor "(Ljava/lang/String;I)V" = some ⟨[(.object "java/lang/String"), .int], none⟩ := by decide +kernel
def lo8 (x : Int32) : Int32 := (x >>> ((0 : Int32) &&& 31)).toInt8.toInt32
def hi8 (x : Int32) : Int32 := (x >>> ((8 : Int32) &&& 31)).toInt8.toInt32
/-- the String at a, its bytes at t, spells the n chars f 0, f 1, .. -/
def Str (Z : State) (h : Heap) (a t : Addr) (n : Nat) (f : Nat → Int32) : Prop :=
  Exa Z h a "java/lang/String" ∧ Fld Z h a "java/lang/String" "value" "[B" (.ref t) ∧ n < 1073741823 ∧ (∀ j, j < n → 0 ≤ (f j).toInt ∧ (f j).toInt < 65536) ∧
  ((Fld Z h a "java/lang/String" "coder" "B" (.int 0) ∧ ∃ g, An Z h t .byte n g ∧ ∀ j, j < n → ¬ 255 < f j ∧ g j = (f j).toInt8.toInt32) ∨
   (Fld Z h a "java/lang/String" "coder" "B" (.int 1) ∧ (∃ j, j < n ∧ 255 < f j) ∧ ∃ g, An Z h t .byte (2 * n) g ∧ ∀ j, j < n → g (2 * j) = lo8 (f j) ∧ g (2 * j + 1) = hi8 (f j)))
section Strings
variable {Z : State} {h h' : Heap} {a t b : Addr} {n : Nat} {f g : Nat → Int32}
theorem Str.exa (S : Str Z h a t n f) : Exa Z h a "java/lang/String" := S.1
theorem Str.lt (S : Str Z h a t n f) : a < h.size := S.1.lt
theorem Str.ltT (S : Str Z h a t n f) : t < h.size := by
  obtain ⟨-, -, -, -, ⟨-, g, A, -⟩ | ⟨-, -, g, A, -⟩⟩ := S
  · exact A.lt
  · exact A.lt
theorem Str.map (S : Str Z h a t n f) (p1 : ∀ {C}, Exa Z h a C → Exa Z h' a C) (p2 : ∀ {C m d v}, Fld Z h a C m d v → Fld Z h' a C m d v) (p3 : ∀ {k g}, An Z h t .byte k g → An Z h' t .byte k g) : Str Z h' a t n f := by
  obtain ⟨S1, S2, S3, S4, ⟨S5, g, A, G⟩ | ⟨S5, S6, g, A, G⟩⟩ := S
  · exact ⟨p1 S1, p2 S2, S3, S4, Or.inl ⟨p2 S5, g, p3 A, G⟩⟩
  · exact ⟨p1 S1, p2 S2, S3, S4, Or.inr ⟨p2 S5, S6, g, p3 A, G⟩⟩
theorem Str.ext (S : Str Z h a t n f) (E : Ext h h') : Str Z h' a t n f := S.map (fun F => F.ext E) (fun F => F.ext E) (fun F => F.ext E)
theorem Str.other {i : Nat} {v : Value} (S : Str Z h a t n f) (W : Wr h h' b i v) (q : a ≠ b) (r : t ≠ b) : Str Z h' a t n f := S.map (fun F => F.wr W) (fun F => F.other W (Or.inl q)) (fun F => F.other W r)
theorem Str.keep {ws : List Addr} (S : Str Z h a t n f) (K : Keep h h' ws) (q : a ∉ ws) (r : t ∉ ws) : Str Z h' a t n f := S.map (fun F => F.keep K) (fun F => F.keep K q) (fun F => F.keep K r)
theorem Str.lat (S : Str Z h a t n f) (hl : ∀ j, j < n → ¬ 255 < f j) : Fld Z h a "java/lang/String" "coder" "B" (.int 0) ∧ ∃ g, An Z h t .byte n g ∧ ∀ j, j < n → ¬ 255 < f j ∧ g j = (f j).toInt8.toInt32 := by
  obtain ⟨-, -, -, -, r | ⟨-, ⟨j, j1, j2⟩, -⟩⟩ := S
  · exact r
  · exact absurd j2 (hl j j1)
theorem Str.congr (S : Str Z h a t n f) (q : ∀ j, j < n → f j = g j) : Str Z h a t n g := by
  obtain ⟨S1, S2, S3, S4, ⟨S5, k, A, G⟩ | ⟨S5, ⟨j, j1, j2⟩, k, A, G⟩⟩ := S
  · exact ⟨S1, S2, S3, fun j hj => q j hj ▸ S4 j hj, Or.inl ⟨S5, k, A, fun j hj => q j hj ▸ G j hj⟩⟩
  · exact ⟨S1, S2, S3, fun j hj => q j hj ▸ S4 j hj, Or.inr ⟨S5, ⟨j, j1, q j j1 ▸ j2⟩, k, A, fun j hj => q j hj ▸ G j hj⟩⟩
theorem n_ge {x : Int32} (h : ¬ x < 0) : 0 ≤ x.toInt := by
  rw [Int32.lt_iff_toInt_lt] at h
  have e0 : (0 : Int32).toInt = 0 := by decide
  omega
/-- a char read back from its low byte -/
theorem n_low {x : Int32} (h0 : 0 ≤ x.toInt) (h1 : ¬ 255 < x) : (x.toInt8.toInt32 &&& 255) = x := by
  apply Int32.toInt_inj.mp
  have e := c_mask x.toInt8.toInt32 255 8 (by decide) (by decide)
  have b := c_i2b x
  rw [Int32.lt_iff_toInt_lt] at h1
  have e2 : (255 : Int32).toInt = 255 := by decide
  rw [e2] at h1
  rw [e]
  have : ((2 ^ 8 : Nat) : Int) = 256 := by decide
  rw [this]
  omega
theorem n_chr {x : Int32} (h0 : 0 ≤ x.toInt) (h1 : x.toInt < 65536) : x.toUInt32.toUInt16.toUInt32.toInt32 = x := by
  apply Int32.toInt_inj.mp
  have := c_i2c x
  omega
theorem n_le {x : Int32} (h : ¬ 255 < x) : x.toInt < 65536 := by
  rw [Int32.lt_iff_toInt_lt] at h
  have e : (255 : Int32).toInt = 255 := by decide
  omega
theorem n_nar {x : Int32} (h0 : 0 ≤ x.toInt) (h1 : x.toInt < 65536) : narrow .char (.int x) = .int x := by
  have := XT.narrow_c x
  rw [n_chr h0 h1] at this
  exact this
theorem n_ne0 {n : Nat} (h : 0 < n) (hn : n < 2147483648) : ¬ Int32.ofNat n = 0 := fun q => by
  have := n_inj hn (by decide) (show Int32.ofNat n = Int32.ofNat 0 from q)
  omega
theorem n_eqb {x y : Int32} (hx : 0 ≤ x.toInt) (hx' : ¬ 255 < x) (hy : 0 ≤ y.toInt) (hy' : ¬ 255 < y) (q : x.toInt8.toInt32 = y.toInt8.toInt32) : x = y := by
  rw [← n_low hx hx', q, n_low hy hy']
end Strings
theorem pn_java_lang_StringUTF16 : plainName "java/lang/StringUTF16" = true := by first | (simp [plainName, overriddenIn]; done) | decide +kernel
theorem dcmp5_0 : decode jdk_52_method_21_code 0 = .ok (.iconst 0, 1) := by decide +kernel
theorem dcmp5_1 : decode jdk_52_method_21_code 1 = .ok (.istore 5, 2) := by decide +kernel
theorem dcmp5_3 : decode jdk_52_method_21_code 3 = .ok (.iload 5, 2) := by decide +kernel
theorem dcmp5_5 : decode jdk_52_method_21_code 5 = .ok (.iload 4, 2) := by decide +kernel
theorem dcmp5_7 : decode jdk_52_method_21_code 7 = .ok (.if_icmp .ge 37, 3) := by decide +kernel
theorem dcmp5_10 : decode jdk_52_method_21_code 10 = .ok (.aload_n 0, 1) := by decide +kernel
theorem dcmp5_11 : decode jdk_52_method_21_code 11 = .ok (.iload_n 1, 1) := by decide +kernel
theorem dcmp5_12 : decode jdk_52_method_21_code 12 = .ok (.caload, 1) := by decide +kernel
theorem dcmp5_13 : decode jdk_52_method_21_code 13 = .ok (.istore 6, 2) := by decide +kernel
theorem dcmp5_15 : decode jdk_52_method_21_code 15 = .ok (.iload 6, 2) := by decide +kernel
theorem dcmp5_17 : decode jdk_52_method_21_code 17 = .ok (.sipush 255, 3) := by decide +kernel
theorem dcmp5_20 : decode jdk_52_method_21_code 20 = .ok (.if_icmp .le 6, 3) := by decide +kernel
theorem dcmp5_23 : decode jdk_52_method_21_code 23 = .ok (.iload 5, 2) := by decide +kernel
theorem dcmp5_25 : decode jdk_52_method_21_code 25 = .ok (.ireturn, 1) := by decide +kernel
theorem dcmp5_26 : decode jdk_52_method_21_code 26 = .ok (.aload_n 2, 1) := by decide +kernel
theorem dcmp5_27 : decode jdk_52_method_21_code 27 = .ok (.iload_n 3, 1) := by decide +kernel
theorem dcmp5_28 : decode jdk_52_method_21_code 28 = .ok (.iload 6, 2) := by decide +kernel
theorem dcmp5_30 : decode jdk_52_method_21_code 30 = .ok (.i2b, 1) := by decide +kernel
theorem dcmp5_31 : decode jdk_52_method_21_code 31 = .ok (.bastore, 1) := by decide +kernel
theorem dcmp5_32 : decode jdk_52_method_21_code 32 = .ok (.iinc 1 1, 3) := by decide +kernel
theorem dcmp5_35 : decode jdk_52_method_21_code 35 = .ok (.iinc 3 1, 3) := by decide +kernel
theorem dcmp5_38 : decode jdk_52_method_21_code 38 = .ok (.iinc 5 1, 3) := by decide +kernel
theorem dcmp5_41 : decode jdk_52_method_21_code 41 = .ok (.goto (-38), 3) := by decide +kernel
theorem dcmp5_44 : decode jdk_52_method_21_code 44 = .ok (.iload 4, 2) := by decide +kernel
theorem dcmp5_46 : decode jdk_52_method_21_code 46 = .ok (.ireturn, 1) := by decide +kernel
def QC (Z : State) (h0 : Heap) (dst : Addr) (n : Nat) (f : Nat → Int32) : Option Value → Heap → Prop := fun v h' => ∃ r g, v = some (.int (Int32.ofNat r)) ∧ r ≤ n ∧ Keep h0 h' [dst] ∧ An Z h' dst .byte n g ∧ (∀ j, j < r → ¬ 255 < f j ∧ g j = (f j).toInt8.toInt32) ∧ (r = n ∨ (r < n ∧ 255 < f r))
set_option maxRecDepth 65536 in
set_option maxHeartbeats 40000000 in
theorem lp_cmp {p : Program} {l : Launch} {e : Env} {R : Room} {s : State} {m : MethodId} {args : Array Value} {below : List Frame} {meth : Method} {c : Code} {Z : State} {nm : String} {ce sl cells slots : Nat} (hce : cells ≤ ce) (hsl : slots ≤ sl) (h0 : Heap) (src dst : Addr) (n : Nat) (f : Nat → Int32) (hne : src ≠ dst) (nd : Z.heap.size ≤ dst) :
    ∀ (k i : Nat), i + k = n → ∀ (T : State) (locs : List Loc) (h : Heap) (g : Nat → Int32) (o6 : Slot), One o6 → Cx p l e R s m args below meth c Z "java/lang/StringUTF16" nm jdk_52_method_21_code 7 (some .int) T locs cells slots h → An Z h src .char n f → An Z h dst .byte n g → (∀ j, j < i → ¬ 255 < f j ∧ g j = (f j).toInt8.toInt32) → Keep h0 h [dst] →
      Go p e below (FinN s Z (QC Z h0 dst n f) ce sl) T m 3 #[.val (.ref src), .val (.int (Int32.ofNat i)), .val (.ref dst), .val (.int (Int32.ofNat i)), .val (.int (Int32.ofNat n)), .val (.int (Int32.ofNat i)), o6] [] := by
  intro k
  induction k with
  | zero =>
    intro i hi T locs h g o6 ho X0 A B hg K
    have hin : i = n := by omega
    subst hin
    refine Go.iload X0 5 dcmp5_3 rfl ?_
    refine Go.iload X0 7 dcmp5_5 rfl ?_
    refine Go.icmpY X0 44 dcmp5_7 (XT.ii_ge_t (n_nlt (Nat.le_refl _) A.1)) ?_
    refine Go.iload X0 46 dcmp5_44 rfl ?_
    exact Go.retI X0 rfl (by simp) rfl dcmp5_46 (X0.fin ⟨_, g, rfl, Nat.le_refl _, K, B, hg, Or.inl rfl⟩ hce hsl)
  | succ k ih =>
    intro i hi T locs h g o6 ho X0 A B hg K
    have hin : i < n := by omega
    refine Go.iload X0 5 dcmp5_3 rfl ?_
    refine Go.iload X0 7 dcmp5_5 rfl ?_
    refine Go.icmpN X0 10 dcmp5_7 (XT.ii_ge_f (n_lt hin A.1)) ?_
    refine Go.aloadN X0 11 dcmp5_10 rfl rfl ?_
    refine Go.iloadN X0 12 dcmp5_11 rfl ?_
    refine Go.caN X0 13 A i hin dcmp5_12 ?_
    refine Go.istore X0 15 #[.val (.ref src), .val (.int (Int32.ofNat i)), .val (.ref dst), .val (.int (Int32.ofNat i)), .val (.int (Int32.ofNat n)), .val (.int (Int32.ofNat i)), .val (.int (f i))] dcmp5_13 (XS.store1 rfl ho rfl) ?_
    refine Go.iload X0 17 dcmp5_15 rfl ?_
    refine Go.sipush X0 20 (255 : Int32) dcmp5_17 ?_
    by_cases c21 : (255 : Int32) < (f i)
    · skip
      refine Go.icmpN X0 23 dcmp5_20 (XT.ii_le_f c21) ?_
      refine Go.iload X0 25 dcmp5_23 rfl ?_
      exact Go.retI X0 rfl (by simp) rfl dcmp5_25 (X0.fin ⟨i, g, rfl, Nat.le_of_lt hin, K, B, hg, Or.inr ⟨hin, c21⟩⟩ hce hsl)
    · skip
      refine Go.icmpY X0 26 dcmp5_20 (XT.ii_le_t c21) ?_
      refine Go.aloadN X0 27 dcmp5_26 rfl rfl ?_
      refine Go.iloadN X0 28 dcmp5_27 rfl ?_
      refine Go.iload X0 30 dcmp5_28 rfl ?_
      refine Go.i2b X0 31 dcmp5_30 ?_
      refine Go.stBN X0 32 B i hin dcmp5_31 nd ?_
      intro T22 h22 w22 X22 W22 V22
      have F23 : An Z h22 src .char n f := A.other W22 hne
      have F24 : An Z h22 dst .byte n (upd g i (nar .byte ((f i).toInt8.toInt32))) := V22
      refine Go.iinc X22 35 (1 : Int32) #[.val (.ref src), .val (.int ((Int32.ofNat i) + (1 : Int32))), .val (.ref dst), .val (.int (Int32.ofNat i)), .val (.int (Int32.ofNat n)), .val (.int (Int32.ofNat i)), .val (.int (f i))] dcmp5_32 rfl rfl ?_
      refine Go.iinc X22 38 (1 : Int32) #[.val (.ref src), .val (.int ((Int32.ofNat i) + (1 : Int32))), .val (.ref dst), .val (.int ((Int32.ofNat i) + (1 : Int32))), .val (.int (Int32.ofNat n)), .val (.int (Int32.ofNat i)), .val (.int (f i))] dcmp5_35 rfl rfl ?_
      refine Go.iinc X22 41 (1 : Int32) #[.val (.ref src), .val (.int ((Int32.ofNat i) + (1 : Int32))), .val (.ref dst), .val (.int ((Int32.ofNat i) + (1 : Int32))), .val (.int (Int32.ofNat n)), .val (.int ((Int32.ofNat i) + (1 : Int32))), .val (.int (f i))] dcmp5_38 rfl rfl ?_
      refine Go.goto X22 3 dcmp5_41 ?_
      rw [n_succ]
      refine ih (i + 1) (by omega) _ _ _ _ _ (One.val rfl) X22 F23 F24 (fun j hj => ?_) (K.wr W22 (Or.inl (List.mem_of_getElem? (i := 0) rfl)))
      by_cases q : j = i
      · subst q
        exact ⟨c21, by simp only [upd, if_pos rfl]; exact n_b _⟩
      · obtain ⟨q1, q2⟩ := hg j (by omega)
        exact ⟨q1, by simp only [upd, if_neg q]; exact q2⟩
theorem ef_cmp5 (m : MethodId) (src : Addr) (z0 : Int32) (dst : Addr) (z1 : Int32) (z2 : Int32) : entryFrame m #[(.ref src), (.int z0), (.ref dst), (.int z1), (.int z2)] 7 = mkF m 0 #[.val (.ref src), .val (.int z0), .val (.ref dst), .val (.int z1), .val (.int z2), .unset, .unset] [] := by first | (simp [entryFrame, mkF, argsToLocals, Value.category]; done) | rfl
set_option maxRecDepth 65536 in
set_option maxHeartbeats 40000000 in
theorem rm_cmp5 (l : Launch) (Z : State) (a0 : Array Value) (hw : ∀ d ∈ tables_1, d.before a0 Z = true) (h0 : Heap) (src dst : Addr) (n : Nat) (f g : Nat → Int32) (hne : src ≠ dst) (nd : Z.heap.size ≤ dst) (A : An Z h0 src .char n f) (B : An Z h0 dst .byte n g) :
    Ct l Z [] (⟨"java/lang/StringUTF16", "compress", "([CI[BII)I"⟩ : MethodName) jdk_52_method_21_code 7 (some .int) (⟨0, 0, 0, 0⟩ : Room) #[(.ref src), (.int (0 : Int32)), (.ref dst), (.int (0 : Int32)), (.int (Int32.ofNat n))] h0 (QC Z h0 dst n f) := by
  refine Ct.of pn_java_lang_StringUTF16 (fun m => ef_cmp5 m src 0 dst 0 (Int32.ofNat n)) ?_
  intro p e s m below meth c s₁ X0
  refine Go.iconst X0 1 (0 : Int32) dcmp5_0 ?_
  refine Go.istore X0 3 #[.val (.ref src), .val (.int (0 : Int32)), .val (.ref dst), .val (.int (0 : Int32)), .val (.int (Int32.ofNat n)), .val (.int (0 : Int32)), .unset] dcmp5_1 rfl ?_
  exact lp_cmp (Nat.le_refl _) (Nat.le_refl _) h0 src dst n f hne nd n 0 (by omega) _ _ _ g _ One.u X0 A B (fun j hj => absurd hj (Nat.not_lt_zero j)) (Keep.refl _ _)
theorem n_cf0 (n : Nat) : (XT.ushr (Int32.ofNat n - Int32.ofNat n) (31 : Int32)).toInt8.toInt32 = 0 := by rw [Int32.sub_self]; decide
theorem n_cf1 {n : Nat} (h0 : 0 < n) (h1 : n < 1073741823) : (XT.ushr (Int32.ofNat n - Int32.ofNat (2 * n)) (31 : Int32)).toInt8.toInt32 = 1 := by
  have e := c_iushr (Int32.ofNat n - Int32.ofNat (2 * n)) 31 31 (by decide) (by decide)
  have d := c_isub (Int32.ofNat n) (Int32.ofNat (2 * n))
  have r := rng32 (Int32.ofNat n - Int32.ofNat (2 * n))
  rw [n_int (by omega), n_int (by omega)] at d
  have p : ((2 ^ 31 : Nat) : Int) = 2147483648 := by decide
  rw [p] at e
  have : XT.ushr (Int32.ofNat n - Int32.ofNat (2 * n)) (31 : Int32) = 1 := by
    apply Int32.toInt_inj.mp
    show ((Int32.ofNat n - Int32.ofNat (2 * n)).toUInt32 >>> ((31 : Int32) &&& 31).toUInt32).toInt32.toInt = (1 : Int32).toInt
    rw [e]
    have : (1 : Int32).toInt = 1 := by decide
    omega
  rw [this]
  decide
theorem dcfal_0 : decode jdk_52_method_15_code 0 = .ok (.iload_n 1, 1) := by decide +kernel
theorem dcfal_1 : decode jdk_52_method_15_code 1 = .ok (.aload_n 0, 1) := by decide +kernel
theorem dcfal_2 : decode jdk_52_method_15_code 2 = .ok (.arraylength, 1) := by decide +kernel
theorem dcfal_3 : decode jdk_52_method_15_code 3 = .ok (.isub, 1) := by decide +kernel
theorem dcfal_4 : decode jdk_52_method_15_code 4 = .ok (.bipush 31, 2) := by decide +kernel
theorem dcfal_6 : decode jdk_52_method_15_code 6 = .ok (.iushr, 1) := by decide +kernel
theorem dcfal_7 : decode jdk_52_method_15_code 7 = .ok (.i2b, 1) := by decide +kernel
theorem dcfal_8 : decode jdk_52_method_15_code 8 = .ok (.ireturn, 1) := by decide +kernel
theorem ef_cfal (m : MethodId) (t : Addr) (z : Int32) : entryFrame m #[(.ref t), (.int z)] 2 = mkF m 0 #[.val (.ref t), .val (.int z)] [] := by first | (simp [entryFrame, mkF, argsToLocals, Value.category]; done) | rfl
set_option maxRecDepth 65536 in
set_option maxHeartbeats 40000000 in
theorem rm_cfal (l : Launch) (Z : State) (a0 : Array Value) (hw : ∀ d ∈ tables_1, d.before a0 Z = true) (h0 : Heap) (t : Addr) (z : Int32) (n k : Nat) (g : Nat → Int32) (r : Int32) (hz : z = Int32.ofNat n) (A : An Z h0 t .byte k g) (hr : (k = n ∧ r = 0) ∨ (k = 2 * n ∧ 0 < n ∧ n < 1073741823 ∧ r = 1)) :
    Ct l Z [] (⟨"java/lang/StringUTF16", "coderFromArrayLen", "([BI)B"⟩ : MethodName) jdk_52_method_15_code 2 (some .byte) (⟨0, 0, 0, 0⟩ : Room) #[(.ref t), (.int z)] h0 (Pu h0 (.int r)) := by
  refine Ct.of pn_java_lang_StringUTF16 (fun m => ef_cfal m t z) ?_
  intro p e s m below meth c s₁ X0
  subst hz
  refine Go.iloadN X0 1 dcfal_0 rfl ?_
  refine Go.aloadN X0 2 dcfal_1 rfl rfl ?_
  refine Go.alenN X0 3 A dcfal_2 ?_
  refine Go.isub X0 4 dcfal_3 ?_
  refine Go.bipush X0 6 (31 : Int32) dcfal_4 ?_
  refine Go.iushr X0 7 dcfal_6 ?_
  refine Go.i2b X0 8 dcfal_7 ?_
  rcases hr with ⟨rfl, rfl⟩ | ⟨rfl, q1, q2, rfl⟩
  · rw [n_cf0]
    exact Go.retI X0 rfl (by simp) rfl dcfal_8 (X0.fin ⟨rfl, rfl⟩ (by decide) (by decide))
  · rw [n_cf1 q1 q2]
    exact Go.retI X0 rfl (by simp) rfl dcfal_8 (X0.fin ⟨rfl, rfl⟩ (by decide) (by decide))
theorem dcmp3_0 : decode jdk_52_method_16_code 0 = .ok (.iload_n 2, 1) := by decide +kernel
theorem dcmp3_1 : decode jdk_52_method_16_code 1 = .ok (.newarray .byte, 2) := by decide +kernel
theorem dcmp3_3 : decode jdk_52_method_16_code 3 = .ok (.astore_n 3, 1) := by decide +kernel
theorem dcmp3_4 : decode jdk_52_method_16_code 4 = .ok (.aload_n 0, 1) := by decide +kernel
theorem dcmp3_5 : decode jdk_52_method_16_code 5 = .ok (.iload_n 1, 1) := by decide +kernel
theorem dcmp3_6 : decode jdk_52_method_16_code 6 = .ok (.aload_n 3, 1) := by decide +kernel
theorem dcmp3_7 : decode jdk_52_method_16_code 7 = .ok (.iconst 0, 1) := by decide +kernel
theorem dcmp3_8 : decode jdk_52_method_16_code 8 = .ok (.iload_n 2, 1) := by decide +kernel
theorem dcmp3_9 : decode jdk_52_method_16_code 9 = .ok (.invokestatic 115, 3) := by decide +kernel
theorem dcmp3_12 : decode jdk_52_method_16_code 12 = .ok (.istore 4, 2) := by decide +kernel
theorem dcmp3_14 : decode jdk_52_method_16_code 14 = .ok (.iload 4, 2) := by decide +kernel
theorem dcmp3_16 : decode jdk_52_method_16_code 16 = .ok (.iload_n 2, 1) := by decide +kernel
theorem dcmp3_17 : decode jdk_52_method_16_code 17 = .ok (.if_icmp .eq 40, 3) := by decide +kernel
theorem dcmp3_20 : decode jdk_52_method_16_code 20 = .ok (.aload_n 0, 1) := by decide +kernel
theorem dcmp3_21 : decode jdk_52_method_16_code 21 = .ok (.iload_n 1, 1) := by decide +kernel
theorem dcmp3_22 : decode jdk_52_method_16_code 22 = .ok (.iload_n 2, 1) := by decide +kernel
theorem dcmp3_23 : decode jdk_52_method_16_code 23 = .ok (.invokestatic 119, 3) := by decide +kernel
theorem dcmp3_26 : decode jdk_52_method_16_code 26 = .ok (.astore 5, 2) := by decide +kernel
theorem dcmp3_28 : decode jdk_52_method_16_code 28 = .ok (.aload 5, 2) := by decide +kernel
theorem dcmp3_30 : decode jdk_52_method_16_code 30 = .ok (.iload 4, 2) := by decide +kernel
theorem dcmp3_32 : decode jdk_52_method_16_code 32 = .ok (.invokestatic 71, 3) := by decide +kernel
theorem dcmp3_35 : decode jdk_52_method_16_code 35 = .ok (.sipush 255, 3) := by decide +kernel
theorem dcmp3_38 : decode jdk_52_method_16_code 38 = .ok (.if_icmp .gt 16, 3) := by decide +kernel
theorem dcmp3_41 : decode jdk_52_method_16_code 41 = .ok (.aload 5, 2) := by decide +kernel
theorem dcmp3_43 : decode jdk_52_method_16_code 43 = .ok (.iconst 0, 1) := by decide +kernel
theorem dcmp3_44 : decode jdk_52_method_16_code 44 = .ok (.aload_n 3, 1) := by decide +kernel
theorem dcmp3_45 : decode jdk_52_method_16_code 45 = .ok (.iconst 0, 1) := by decide +kernel
theorem dcmp3_46 : decode jdk_52_method_16_code 46 = .ok (.iload_n 2, 1) := by decide +kernel
theorem dcmp3_47 : decode jdk_52_method_16_code 47 = .ok (.invokestatic 123, 3) := by decide +kernel
theorem dcmp3_50 : decode jdk_52_method_16_code 50 = .ok (.iload_n 2, 1) := by decide +kernel
theorem dcmp3_51 : decode jdk_52_method_16_code 51 = .ok (.if_icmp .eq 6, 3) := by decide +kernel
theorem dcmp3_54 : decode jdk_52_method_16_code 54 = .ok (.aload 5, 2) := by decide +kernel
theorem dcmp3_56 : decode jdk_52_method_16_code 56 = .ok (.areturn, 1) := by decide +kernel
theorem dcmp3_57 : decode jdk_52_method_16_code 57 = .ok (.aload_n 3, 1) := by decide +kernel
theorem dcmp3_58 : decode jdk_52_method_16_code 58 = .ok (.areturn, 1) := by decide +kernel
theorem ef_cmp3 (m : MethodId) (src : Addr) (z0 : Int32) (z1 : Int32) : entryFrame m #[(.ref src), (.int z0), (.int z1)] 6 = mkF m 0 #[.val (.ref src), .val (.int z0), .val (.int z1), .unset, .unset, .unset] [] := by first | (simp [entryFrame, mkF, argsToLocals, Value.category]; done) | rfl
set_option maxRecDepth 65536 in
set_option maxHeartbeats 40000000 in
theorem rm_cmp3 (l : Launch) (Z : State) (a0 : Array Value) (hw : ∀ d ∈ tables_1, d.before a0 Z = true) (h0 : Heap) (src : Addr) (z0 z1 : Int32) (n : Nat) (f : Nat → Int32) (hz0 : z0 = 0) (hz1 : z1 = Int32.ofNat n) (hcap : n ≤ 2) (A : An Z h0 src .char n f) (hl : ∀ j, j < n → ¬ 255 < f j) :
    Ct l Z [] (⟨"java/lang/StringUTF16", "compress", "([CII)[B"⟩ : MethodName) jdk_52_method_16_code 6 (some (.array .byte)) (⟨1, 1, 2, 18⟩ : Room) #[(.ref src), (.int z0), (.int z1)] h0 (fun v h' => ∃ t g, v = some (.ref t) ∧ Keep h0 h' [] ∧ h0.size ≤ t ∧ An Z h' t .byte n g ∧ ∀ j, j < n → ¬ 255 < f j ∧ g j = (f j).toInt8.toInt32) := by
  refine Ct.of pn_java_lang_StringUTF16 (fun m => ef_cmp3 m src z0 z1) ?_
  intro p e s m below meth c s₁ X0
  subst hz0 hz1
  have K1 : Keep h0 h0 [] := Keep.refl _ _
  refine Go.iloadN X0 1 dcmp3_0 rfl ?_
  refine Go.newB X0 3 (n := n) (hw _ (List.mem_of_getElem? (i := 24) rfl)) dcmp3_1 2 hcap (by decide) (by decide) (by decide) ?_
  intro T2 h2 a2 X2 E2 g2 V2
  have nw_a2 : Z.heap.size ≤ a2 := by rw [← g2]; exact X0.le
  have si_a2 : h0.size ≤ a2 := by rw [← g2]; exact K1.1
  have ne_src_a2 : src ≠ a2 := by rw [← g2]; exact Nat.ne_of_lt A.lt
  have K3 : Keep h0 h2 [] := K1.ext E2
  have F4 : An Z h2 src .char n f := A.ext E2
  refine Go.astoreN X2 4 #[.val (.ref src), .val (.int (0 : Int32)), .val (.int (Int32.ofNat n)), .val (.ref a2), .unset, .unset] dcmp3_3 rfl rfl ?_
  refine Go.aloadN X2 5 dcmp3_4 rfl rfl ?_
  refine Go.iloadN X2 6 dcmp3_5 rfl ?_
  refine Go.aloadN X2 7 dcmp3_6 rfl rfl ?_
  refine Go.iconst X2 8 (0 : Int32) dcmp3_7 ?_
  refine Go.iloadN X2 9 dcmp3_8 rfl ?_
  refine Go.callS X2 12 [(.ref src), (.int (0 : Int32)), (.ref a2), (.int (0 : Int32)), (.int (Int32.ofNat n))] [] 0 (hw _ (List.mem_of_getElem? (i := 25) rfl)) (hw _ (List.mem_of_getElem? (i := 26) rfl)) (hw _ (List.mem_of_getElem? (i := 22) rfl)) (by decide) (hw _ (List.mem_of_getElem? (i := 27) rfl)) pd_0 dcmp3_9 (rm_cmp5 l Z a0 hw h2 src a2 n f _ ne_src_a2 nw_a2 F4 V2) rfl rfl rfl (Nat.le_of_eq rfl) (by decide) (by decide) (by decide) (by decide) ?_
  rintro T5 v5 L5 X5 ⟨r, g, rfl, hr, K, B, hg, hx⟩
  show Go p e below _ T5 m 12 #[.val (.ref src), .val (.int (0 : Int32)), .val (.int (Int32.ofNat n)), .val (.ref a2), .unset, .unset] [(.int (Int32.ofNat r))]
  have K6 : Keep h0 T5.heap [] := K3.trans K (allS (Or.inr si_a2) all0)
  have F7 : An Z T5.heap src .char n f := F4.keep K (ninS ne_src_a2 nin0)
  have hrn : r = n := hx.elim id (fun q => absurd q.2 (hl r q.1))
  subst hrn
  refine Go.istore X5 14 #[.val (.ref src), .val (.int (0 : Int32)), .val (.int (Int32.ofNat r)), .val (.ref a2), .val (.int (Int32.ofNat r)), .unset] dcmp3_12 rfl ?_
  refine Go.iload X5 16 dcmp3_14 rfl ?_
  refine Go.iloadN X5 17 dcmp3_16 rfl ?_
  refine Go.icmpY X5 57 dcmp3_17 (XT.ii_eq_t rfl) ?_
  refine Go.aloadN X5 58 dcmp3_57 rfl rfl ?_
  exact Go.retA X5 rfl rfl rfl dcmp3_58 (X5.fin ⟨_, g, rfl, K6, si_a2, B, hg⟩ (by decide) (by decide))
theorem pn_java_lang_String : plainName "java/lang/String" = true := by first | (simp [plainName, overriddenIn]; done) | decide +kernel
theorem di4_0 : decode jdk_42_method_149_code 0 = .ok (.aload_n 0, 1) := by decide +kernel
theorem di4_1 : decode jdk_42_method_149_code 1 = .ok (.invokespecial 1, 3) := by decide +kernel
theorem di4_4 : decode jdk_42_method_149_code 4 = .ok (.iload_n 3, 1) := by decide +kernel
theorem di4_5 : decode jdk_42_method_149_code 5 = .ok (.ifCond .ne 22, 3) := by decide +kernel
theorem di4_8 : decode jdk_42_method_149_code 8 = .ok (.aload_n 0, 1) := by decide +kernel
theorem di4_9 : decode jdk_42_method_149_code 9 = .ok (.ldc 7, 2) := by decide +kernel
theorem di4_11 : decode jdk_42_method_149_code 11 = .ok (.getfield 9, 3) := by decide +kernel
theorem di4_14 : decode jdk_42_method_149_code 14 = .ok (.putfield 9, 3) := by decide +kernel
theorem di4_17 : decode jdk_42_method_149_code 17 = .ok (.aload_n 0, 1) := by decide +kernel
theorem di4_18 : decode jdk_42_method_149_code 18 = .ok (.ldc 7, 2) := by decide +kernel
theorem di4_20 : decode jdk_42_method_149_code 20 = .ok (.getfield 15, 3) := by decide +kernel
theorem di4_23 : decode jdk_42_method_149_code 23 = .ok (.putfield 15, 3) := by decide +kernel
theorem di4_26 : decode jdk_42_method_149_code 26 = .ok (.return_, 1) := by decide +kernel
theorem di4_27 : decode jdk_42_method_149_code 27 = .ok (.getstatic 38, 3) := by decide +kernel
theorem di4_30 : decode jdk_42_method_149_code 30 = .ok (.ifCond .eq 28, 3) := by decide +kernel
theorem di4_33 : decode jdk_42_method_149_code 33 = .ok (.aload_n 1, 1) := by decide +kernel
theorem di4_34 : decode jdk_42_method_149_code 34 = .ok (.iload_n 2, 1) := by decide +kernel
theorem di4_35 : decode jdk_42_method_149_code 35 = .ok (.iload_n 3, 1) := by decide +kernel
theorem di4_36 : decode jdk_42_method_149_code 36 = .ok (.invokestatic 177, 3) := by decide +kernel
theorem di4_39 : decode jdk_42_method_149_code 39 = .ok (.astore 5, 2) := by decide +kernel
theorem di4_41 : decode jdk_42_method_149_code 41 = .ok (.aload_n 0, 1) := by decide +kernel
theorem di4_42 : decode jdk_42_method_149_code 42 = .ok (.aload 5, 2) := by decide +kernel
theorem di4_44 : decode jdk_42_method_149_code 44 = .ok (.iload_n 3, 1) := by decide +kernel
theorem di4_45 : decode jdk_42_method_149_code 45 = .ok (.invokestatic 47, 3) := by decide +kernel
theorem di4_48 : decode jdk_42_method_149_code 48 = .ok (.putfield 15, 3) := by decide +kernel
theorem di4_51 : decode jdk_42_method_149_code 51 = .ok (.aload_n 0, 1) := by decide +kernel
theorem di4_52 : decode jdk_42_method_149_code 52 = .ok (.aload 5, 2) := by decide +kernel
theorem di4_54 : decode jdk_42_method_149_code 54 = .ok (.putfield 9, 3) := by decide +kernel
theorem di4_57 : decode jdk_42_method_149_code 57 = .ok (.return_, 1) := by decide +kernel
theorem di4_58 : decode jdk_42_method_149_code 58 = .ok (.aload_n 0, 1) := by decide +kernel
theorem di4_59 : decode jdk_42_method_149_code 59 = .ok (.iconst 1, 1) := by decide +kernel
theorem di4_60 : decode jdk_42_method_149_code 60 = .ok (.putfield 15, 3) := by decide +kernel
theorem di4_63 : decode jdk_42_method_149_code 63 = .ok (.aload_n 0, 1) := by decide +kernel
theorem di4_64 : decode jdk_42_method_149_code 64 = .ok (.aload_n 1, 1) := by decide +kernel
theorem di4_65 : decode jdk_42_method_149_code 65 = .ok (.iload_n 2, 1) := by decide +kernel
theorem di4_66 : decode jdk_42_method_149_code 66 = .ok (.iload_n 3, 1) := by decide +kernel
theorem di4_67 : decode jdk_42_method_149_code 67 = .ok (.invokestatic 180, 3) := by decide +kernel
theorem di4_70 : decode jdk_42_method_149_code 70 = .ok (.putfield 9, 3) := by decide +kernel
theorem di4_73 : decode jdk_42_method_149_code 73 = .ok (.return_, 1) := by decide +kernel
theorem ef_i4 (m : MethodId) (a : Addr) (src : Addr) (z0 : Int32) (z1 : Int32) : entryFrame m #[(.ref a), (.ref src), (.int z0), (.int z1), .null] 6 = mkF m 0 #[.val (.ref a), .val (.ref src), .val (.int z0), .val (.int z1), .val .null, .unset] [] := by first | (simp [entryFrame, mkF, argsToLocals, Value.category]; done) | rfl
set_option maxRecDepth 65536 in
set_option maxHeartbeats 40000000 in
theorem rm_i4 (l : Launch) (Z : State) (a0 : Array Value) (hw : ∀ d ∈ tables_1, d.before a0 Z = true) (h0 : Heap) (cz : Int32) (SC : Sta Z Z.heap "java/lang/String" "COMPACT_STRINGS" "Z" (.int cz)) (hcz : ¬ cz = 0) (a src : Addr) (n : Nat) (f : Nat → Int32) (hn : 0 < n) (hcap : n ≤ 2) (E : Exa Z h0 a "java/lang/String") (FV : Fld Z h0 a "java/lang/String" "value" "[B" .null) (FC : Fld Z h0 a "java/lang/String" "coder" "B" (.int 0)) (na : Z.heap.size ≤ a) (hne : src ≠ a) (A : An Z h0 src .char n f) (hf : ∀ j, j < n → 0 ≤ (f j).toInt ∧ (f j).toInt < 65536) (hl : ∀ j, j < n → ¬ 255 < f j) (z0 z1 : Int32) (hz0 : z0 = 0) (hz1 : z1 = Int32.ofNat n) :
    Ct l Z [] (⟨"java/lang/String", "<init>", "([CIILjava/lang/Void;)V"⟩ : MethodName) jdk_42_method_149_code 6 none (⟨2, 1, 2, 35⟩ : Room) #[(.ref a), (.ref src), (.int z0), (.int z1), .null] h0 (fun v h' => v = none ∧ ∃ t, Keep h0 h' [a] ∧ h0.size ≤ t ∧ Str Z h' a t n f) := by
  refine Ct.of pn_java_lang_String (fun m => ef_i4 m a src z0 z1) ?_
  intro p e s m below meth c s₁ X0
  subst hz0 hz1
  have K1 : Keep h0 h0 [a] := Keep.refl _ _
  refine Go.aloadN X0 1 di4_0 rfl rfl ?_
  refine Go.initO X0 4 (hw _ (List.mem_of_getElem? (i := 16) rfl)) (hw _ (List.mem_of_getElem? (i := 17) rfl)) (hw _ (List.mem_of_getElem? (i := 18) rfl)) 0 di4_1 rfl (by decide) (by decide) (by decide) ?_
  intro T2 X2
  refine Go.iloadN X2 5 di4_4 rfl ?_
  refine Go.if0Y X2 27 di4_5 (XT.i0_ne_t (n_ne0 hn (by omega))) ?_
  refine Go.getS X2 30 (hw _ (List.mem_of_getElem? (i := 19) rfl)) SC di4_27 ?_
  intro T3 X3
  refine Go.if0N X3 33 di4_30 (XT.i0_eq_f hcz) ?_
  refine Go.aloadN X3 34 di4_33 rfl rfl ?_
  refine Go.iloadN X3 35 di4_34 rfl ?_
  refine Go.iloadN X3 36 di4_35 rfl ?_
  refine Go.callS X3 39 [(.ref src), (.int (0 : Int32)), (.int (Int32.ofNat n))] [] 0 (hw _ (List.mem_of_getElem? (i := 20) rfl)) (hw _ (List.mem_of_getElem? (i := 21) rfl)) (hw _ (List.mem_of_getElem? (i := 22) rfl)) (by decide) (hw _ (List.mem_of_getElem? (i := 23) rfl)) pd_1 di4_36 (rm_cmp3 l Z a0 hw h0 src 0 (Int32.ofNat n) n f rfl rfl hcap A hl) rfl rfl rfl (Nat.le_of_eq rfl) (by decide) (by decide) (by decide) (by decide) ?_
  rintro T4 v4 L4 X4 ⟨t, g, rfl, K3, gt, B, hg⟩
  show Go p e below _ T4 m 39 #[.val (.ref a), .val (.ref src), .val (.int (0 : Int32)), .val (.int (Int32.ofNat n)), .val .null, .unset] [(.ref t)]
  have nw_t : Z.heap.size ≤ t := Nat.le_trans X3.le gt
  have ne_a_t : a ≠ t := Nat.ne_of_lt (Nat.lt_of_lt_of_le E.lt gt)
  have ne_src_t : src ≠ t := Nat.ne_of_lt (Nat.lt_of_lt_of_le A.lt gt)
  have si_t : h0.size ≤ t := Nat.le_trans K1.1 gt
  have K5 : Keep h0 T4.heap [a] := K1.trans K3 all0
  have F6 : Exa Z T4.heap a "java/lang/String" := E.keep K3
  have F7 : Fld Z T4.heap a "java/lang/String" "value" "[B" .null := FV.keep K3 nin0
  have F8 : Fld Z T4.heap a "java/lang/String" "coder" "B" (.int (0 : Int32)) := FC.keep K3 nin0
  have F9 : An Z T4.heap src .char n f := A.keep K3 nin0
  refine Go.astore X4 41 #[.val (.ref a), .val (.ref src), .val (.int (0 : Int32)), .val (.int (Int32.ofNat n)), .val .null, .val (.ref t)] di4_39 rfl rfl ?_
  refine Go.aloadN X4 42 di4_41 rfl rfl ?_
  refine Go.aload X4 44 di4_42 rfl rfl ?_
  refine Go.iloadN X4 45 di4_44 rfl ?_
  refine Go.callSP X4 48 [(.ref t), (.int (Int32.ofNat n))] [(.ref a)] 1 (hw _ (List.mem_of_getElem? (i := 28) rfl)) (hw _ (List.mem_of_getElem? (i := 29) rfl)) (hw _ (List.mem_of_getElem? (i := 22) rfl)) (by decide) (hw _ (List.mem_of_getElem? (i := 30) rfl)) pd_2 di4_45 (rm_cfal l Z a0 hw T4.heap t (Int32.ofNat n) n n g 0 rfl B (Or.inl ⟨rfl, rfl⟩)) rfl rfl rfl (Nat.le_of_eq rfl) (by decide) (by decide) (by decide) (by decide) ?_
  intro T10 L10 X10
  refine Go.putF X10 51 (hw _ (List.mem_of_getElem? (i := 31) rfl)) F8 F6 (Or.inr ⟨(hw _ (List.mem_of_getElem? (i := 32) rfl)), rfl, rfl⟩) (hw _ (List.mem_of_getElem? (i := 6) rfl)) (ty := .byte) (by decide) rfl rfl na di4_48 ?_
  intro T11 h11 X11 W11
  have K12 : Keep h0 h11 [a] := K5.wr W11 (Or.inl (List.mem_of_getElem? (i := 0) rfl))
  have F13 : Exa Z h11 a "java/lang/String" := F6.wr W11
  have F14 : Fld Z h11 a "java/lang/String" "value" "[B" .null := F7.other W11 (Or.inr (slot_ne (Or.inr (hw _ (List.mem_of_getElem? (i := 34) rfl))) (Or.inr (hw _ (List.mem_of_getElem? (i := 32) rfl))) (by decide) (t := (.array .byte)) (t' := .byte) (by decide) (by decide)))
  have F15 : Fld Z h11 a "java/lang/String" "coder" "B" (.int (0 : Int32)) := F8.same W11
  have F16 : An Z h11 src .char n f := F9.other W11 hne
  have F17 : An Z h11 t .byte n g := B.other W11 (Ne.symm ne_a_t)
  refine Go.aloadN X11 52 di4_51 rfl rfl ?_
  refine Go.aload X11 54 di4_52 rfl rfl ?_
  refine Go.putF X11 57 (hw _ (List.mem_of_getElem? (i := 33) rfl)) F14 F13 (Or.inr ⟨(hw _ (List.mem_of_getElem? (i := 34) rfl)), rfl, rfl⟩) (hw _ (List.mem_of_getElem? (i := 6) rfl)) (ty := (.array .byte)) (by decide) rfl rfl na di4_54 ?_
  intro T18 h18 X18 W18
  have K19 : Keep h0 h18 [a] := K12.wr W18 (Or.inl (List.mem_of_getElem? (i := 0) rfl))
  have F20 : Exa Z h18 a "java/lang/String" := F13.wr W18
  have F21 : Fld Z h18 a "java/lang/String" "value" "[B" (.ref t) := F14.same W18
  have F22 : Fld Z h18 a "java/lang/String" "coder" "B" (.int (0 : Int32)) := F15.other W18 (Or.inr (slot_ne (Or.inr (hw _ (List.mem_of_getElem? (i := 32) rfl))) (Or.inr (hw _ (List.mem_of_getElem? (i := 34) rfl))) (by decide) (t := .byte) (t' := (.array .byte)) (by decide) (by decide)))
  have F23 : An Z h18 src .char n f := F16.other W18 hne
  have F24 : An Z h18 t .byte n g := F17.other W18 (Ne.symm ne_a_t)
  exact Go.retV X18 rfl di4_57 (X18.fin ⟨rfl, t, K19, si_t, F20, F21, by omega, hf, Or.inl ⟨F22, g, F24, hg⟩⟩ (by decide) (by decide))
theorem di1_0 : decode jdk_42_method_3_code 0 = .ok (.aload_n 0, 1) := by decide +kernel
theorem di1_1 : decode jdk_42_method_3_code 1 = .ok (.aload_n 1, 1) := by decide +kernel
theorem di1_2 : decode jdk_42_method_3_code 2 = .ok (.iconst 0, 1) := by decide +kernel
theorem di1_3 : decode jdk_42_method_3_code 3 = .ok (.aload_n 1, 1) := by decide +kernel
theorem di1_4 : decode jdk_42_method_3_code 4 = .ok (.arraylength, 1) := by decide +kernel
theorem di1_5 : decode jdk_42_method_3_code 5 = .ok (.aconst_null, 1) := by decide +kernel
theorem di1_6 : decode jdk_42_method_3_code 6 = .ok (.invokespecial 27, 3) := by decide +kernel
theorem di1_9 : decode jdk_42_method_3_code 9 = .ok (.return_, 1) := by decide +kernel
theorem ef_i1 (m : MethodId) (a : Addr) (src : Addr) : entryFrame m #[(.ref a), (.ref src)] 2 = mkF m 0 #[.val (.ref a), .val (.ref src)] [] := by first | (simp [entryFrame, mkF, argsToLocals, Value.category]; done) | rfl
set_option maxRecDepth 65536 in
set_option maxHeartbeats 40000000 in
theorem rm_i1 (l : Launch) (Z : State) (a0 : Array Value) (hw : ∀ d ∈ tables_1, d.before a0 Z = true) (h0 : Heap) (cz : Int32) (SC : Sta Z Z.heap "java/lang/String" "COMPACT_STRINGS" "Z" (.int cz)) (hcz : ¬ cz = 0) (a src : Addr) (n : Nat) (f : Nat → Int32) (hn : 0 < n) (hcap : n ≤ 2) (E : Exa Z h0 a "java/lang/String") (FV : Fld Z h0 a "java/lang/String" "value" "[B" .null) (FC : Fld Z h0 a "java/lang/String" "coder" "B" (.int 0)) (na : Z.heap.size ≤ a) (hne : src ≠ a) (A : An Z h0 src .char n f) (hf : ∀ j, j < n → 0 ≤ (f j).toInt ∧ (f j).toInt < 65536) (hl : ∀ j, j < n → ¬ 255 < f j) :
    Ct l Z [] (⟨"java/lang/String", "<init>", "([C)V"⟩ : MethodName) jdk_42_method_3_code 2 none (⟨3, 1, 2, 52⟩ : Room) #[(.ref a), (.ref src)] h0 (fun v h' => v = none ∧ ∃ t, Keep h0 h' [a] ∧ h0.size ≤ t ∧ Str Z h' a t n f) := by
  refine Ct.of pn_java_lang_String (fun m => ef_i1 m a src) ?_
  intro p e s m below meth c s₁ X0
  refine Go.aloadN X0 1 di1_0 rfl rfl ?_
  refine Go.aloadN X0 2 di1_1 rfl rfl ?_
  refine Go.iconst X0 3 (0 : Int32) di1_2 ?_
  refine Go.aloadN X0 4 di1_3 rfl rfl ?_
  refine Go.alenN X0 5 A di1_4 ?_
  refine Go.aconst_null X0 6 di1_5 ?_
  refine Go.callI X0 9 [(.ref src), (.int (0 : Int32)), (.int (Int32.ofNat n)), .null] [] 0 rfl (hw _ (List.mem_of_getElem? (i := 12) rfl)) (hw _ (List.mem_of_getElem? (i := 13) rfl)) (hw _ (List.mem_of_getElem? (i := 7) rfl)) (by decide) rfl (hw _ (List.mem_of_getElem? (i := 15) rfl)) pd_3 di1_6 (rm_i4 l Z a0 hw h0 cz SC hcz a src n f hn hcap E FV FC na hne A hf hl 0 (Int32.ofNat n) rfl rfl) rfl rfl rfl (Nat.le_of_eq rfl) (by decide) (by decide) (by decide) (by decide) ?_
  rintro T1 v1 L1 X1 ⟨rfl, hq⟩
  show Go p e below _ T1 m 9 #[.val (.ref a), .val (.ref src)] []
  exact Go.retV X1 rfl di1_9 (X1.fin ⟨rfl, hq⟩ (by decide) (by decide))
theorem demp_0 : decode jdk_42_method_55_code 0 = .ok (.aload_n 0, 1) := by decide +kernel
theorem demp_1 : decode jdk_42_method_55_code 1 = .ok (.getfield 9, 3) := by decide +kernel
theorem demp_4 : decode jdk_42_method_55_code 4 = .ok (.arraylength, 1) := by decide +kernel
theorem demp_5 : decode jdk_42_method_55_code 5 = .ok (.ifCond .ne 7, 3) := by decide +kernel
theorem demp_8 : decode jdk_42_method_55_code 8 = .ok (.iconst 1, 1) := by decide +kernel
theorem demp_9 : decode jdk_42_method_55_code 9 = .ok (.goto 4, 3) := by decide +kernel
theorem demp_12 : decode jdk_42_method_55_code 12 = .ok (.iconst 0, 1) := by decide +kernel
theorem demp_13 : decode jdk_42_method_55_code 13 = .ok (.ireturn, 1) := by decide +kernel
theorem ef_emp (m : MethodId) (a : Addr) : entryFrame m #[(.ref a)] 1 = mkF m 0 #[.val (.ref a)] [] := by first | (simp [entryFrame, mkF, argsToLocals, Value.category]; done) | rfl
set_option maxRecDepth 65536 in
set_option maxHeartbeats 40000000 in
theorem rm_emp (l : Launch) (Z : State) (a0 : Array Value) (hw : ∀ d ∈ tables_1, d.before a0 Z = true) (h0 : Heap) (a t : Addr) (n : Nat) (f : Nat → Int32) (S : Str Z h0 a t n f) :
    Ct l Z [] (⟨"java/lang/String", "isEmpty", "()Z"⟩ : MethodName) jdk_42_method_55_code 1 (some .boolean) (⟨0, 0, 0, 0⟩ : Room) #[(.ref a)] h0 (Pu h0 (.int (if n = 0 then 1 else 0))) := by
  refine Ct.of pn_java_lang_String (fun m => ef_emp m a) ?_
  intro p e s m below meth c s₁ X0
  obtain ⟨S1, S2, S3, S4, ⟨S5, g, A, G⟩ | ⟨S5, S6, g, A, G⟩⟩ := S
  · by_cases q : n = 0
    · skip
      refine Go.aloadN X0 1 demp_0 rfl rfl ?_
      refine Go.getF X0 4 (hw _ (List.mem_of_getElem? (i := 33) rfl)) S2 demp_1 ?_
      intro T1 X1
      refine Go.alenN X1 5 A demp_4 ?_
      refine Go.if0N X1 8 demp_5 (XT.i0_ne_f (by rw [q]; rfl)) ?_
      refine Go.iconst X1 9 (1 : Int32) demp_8 ?_
      refine Go.goto X1 13 demp_9 ?_
      exact Go.retI X1 rfl (by simp) rfl demp_13 (X1.fin ⟨by simp [q], rfl⟩ (by decide) (by decide))
    · skip
      refine Go.aloadN X0 1 demp_0 rfl rfl ?_
      refine Go.getF X0 4 (hw _ (List.mem_of_getElem? (i := 33) rfl)) S2 demp_1 ?_
      intro T2 X2
      refine Go.alenN X2 5 A demp_4 ?_
      refine Go.if0Y X2 12 demp_5 (XT.i0_ne_t (n_ne0 (by omega) (by omega))) ?_
      refine Go.iconst X2 13 (0 : Int32) demp_12 ?_
      exact Go.retI X2 rfl (by simp) rfl demp_13 (X2.fin ⟨by simp [q], rfl⟩ (by decide) (by decide))
  · by_cases q : n = 0
    · skip
      refine Go.aloadN X0 1 demp_0 rfl rfl ?_
      refine Go.getF X0 4 (hw _ (List.mem_of_getElem? (i := 33) rfl)) S2 demp_1 ?_
      intro T3 X3
      refine Go.alenN X3 5 A demp_4 ?_
      refine Go.if0N X3 8 demp_5 (XT.i0_ne_f (by rw [q]; rfl)) ?_
      refine Go.iconst X3 9 (1 : Int32) demp_8 ?_
      refine Go.goto X3 13 demp_9 ?_
      exact Go.retI X3 rfl (by simp) rfl demp_13 (X3.fin ⟨by simp [q], rfl⟩ (by decide) (by decide))
    · skip
      refine Go.aloadN X0 1 demp_0 rfl rfl ?_
      refine Go.getF X0 4 (hw _ (List.mem_of_getElem? (i := 33) rfl)) S2 demp_1 ?_
      intro T4 X4
      refine Go.alenN X4 5 A demp_4 ?_
      refine Go.if0Y X4 12 demp_5 (XT.i0_ne_t (n_ne0 (by omega) (by omega))) ?_
      refine Go.iconst X4 13 (0 : Int32) demp_12 ?_
      exact Go.retI X4 rfl (by simp) rfl demp_13 (X4.fin ⟨by simp [q], rfl⟩ (by decide) (by decide))
theorem pn_java_lang_StringLatin1 : plainName "java/lang/StringLatin1" = true := by first | (simp [plainName, overriddenIn]; done) | decide +kernel
theorem dl1eq_0 : decode jdk_43_method_13_code 0 = .ok (.aload_n 0, 1) := by decide +kernel
theorem dl1eq_1 : decode jdk_43_method_13_code 1 = .ok (.arraylength, 1) := by decide +kernel
theorem dl1eq_2 : decode jdk_43_method_13_code 2 = .ok (.aload_n 1, 1) := by decide +kernel
theorem dl1eq_3 : decode jdk_43_method_13_code 3 = .ok (.arraylength, 1) := by decide +kernel
theorem dl1eq_4 : decode jdk_43_method_13_code 4 = .ok (.if_icmp .ne 30, 3) := by decide +kernel
theorem dl1eq_7 : decode jdk_43_method_13_code 7 = .ok (.iconst 0, 1) := by decide +kernel
theorem dl1eq_8 : decode jdk_43_method_13_code 8 = .ok (.istore_n 2, 1) := by decide +kernel
theorem dl1eq_9 : decode jdk_43_method_13_code 9 = .ok (.iload_n 2, 1) := by decide +kernel
theorem dl1eq_10 : decode jdk_43_method_13_code 10 = .ok (.aload_n 0, 1) := by decide +kernel
theorem dl1eq_11 : decode jdk_43_method_13_code 11 = .ok (.arraylength, 1) := by decide +kernel
theorem dl1eq_12 : decode jdk_43_method_13_code 12 = .ok (.if_icmp .ge 20, 3) := by decide +kernel
theorem dl1eq_15 : decode jdk_43_method_13_code 15 = .ok (.aload_n 0, 1) := by decide +kernel
theorem dl1eq_16 : decode jdk_43_method_13_code 16 = .ok (.iload_n 2, 1) := by decide +kernel
theorem dl1eq_17 : decode jdk_43_method_13_code 17 = .ok (.baload, 1) := by decide +kernel
theorem dl1eq_18 : decode jdk_43_method_13_code 18 = .ok (.aload_n 1, 1) := by decide +kernel
theorem dl1eq_19 : decode jdk_43_method_13_code 19 = .ok (.iload_n 2, 1) := by decide +kernel
theorem dl1eq_20 : decode jdk_43_method_13_code 20 = .ok (.baload, 1) := by decide +kernel
theorem dl1eq_21 : decode jdk_43_method_13_code 21 = .ok (.if_icmp .eq 5, 3) := by decide +kernel
theorem dl1eq_24 : decode jdk_43_method_13_code 24 = .ok (.iconst 0, 1) := by decide +kernel
theorem dl1eq_25 : decode jdk_43_method_13_code 25 = .ok (.ireturn, 1) := by decide +kernel
theorem dl1eq_26 : decode jdk_43_method_13_code 26 = .ok (.iinc 2 1, 3) := by decide +kernel
theorem dl1eq_29 : decode jdk_43_method_13_code 29 = .ok (.goto (-20), 3) := by decide +kernel
theorem dl1eq_32 : decode jdk_43_method_13_code 32 = .ok (.iconst 1, 1) := by decide +kernel
theorem dl1eq_33 : decode jdk_43_method_13_code 33 = .ok (.ireturn, 1) := by decide +kernel
theorem dl1eq_34 : decode jdk_43_method_13_code 34 = .ok (.iconst 0, 1) := by decide +kernel
theorem dl1eq_35 : decode jdk_43_method_13_code 35 = .ok (.ireturn, 1) := by decide +kernel
def QE (h0 : Heap) (n : Nat) (f g : Nat → Int32) : Option Value → Heap → Prop := fun v h' => h' = h0 ∧ ((v = some (.int 1) ∧ ∀ j, j < n → f j = g j) ∨ (v = some (.int 0) ∧ ∃ j, j < n ∧ ¬ f j = g j))
set_option maxRecDepth 65536 in
set_option maxHeartbeats 40000000 in
theorem lp_eq {p : Program} {l : Launch} {e : Env} {R : Room} {s : State} {m : MethodId} {args : Array Value} {below : List Frame} {meth : Method} {c : Code} {Z : State} {nm : String} {ce sl cells slots : Nat} (hce : cells ≤ ce) (hsl : slots ≤ sl) (a b : Addr) (n : Nat) (f g : Nat → Int32) :
    ∀ (k i : Nat), i + k = n → ∀ (T : State) (locs : List Loc) (h : Heap), Cx p l e R s m args below meth c Z "java/lang/StringLatin1" nm jdk_43_method_13_code 3 (some .boolean) T locs cells slots h → An Z h a .byte n f → An Z h b .byte n g → (∀ j, j < i → f j = g j) →
      Go p e below (FinN s Z (QE h n f g) ce sl) T m 9 #[.val (.ref a), .val (.ref b), .val (.int (Int32.ofNat i))] [] := by
  intro k
  induction k with
  | zero =>
    intro i hi T locs h X0 A B hg
    have hin : i = n := by omega
    subst hin
    refine Go.iloadN X0 10 dl1eq_9 rfl ?_
    refine Go.aloadN X0 11 dl1eq_10 rfl rfl ?_
    refine Go.alenN X0 12 A dl1eq_11 ?_
    refine Go.icmpY X0 32 dl1eq_12 (XT.ii_ge_t (n_nlt (Nat.le_refl _) A.1)) ?_
    refine Go.iconst X0 33 (1 : Int32) dl1eq_32 ?_
    exact Go.retI X0 rfl (by simp) rfl dl1eq_33 (X0.fin ⟨rfl, Or.inl ⟨rfl, hg⟩⟩ hce hsl)
  | succ k ih =>
    intro i hi T locs h X0 A B hg
    have hin : i < n := by omega
    refine Go.iloadN X0 10 dl1eq_9 rfl ?_
    refine Go.aloadN X0 11 dl1eq_10 rfl rfl ?_
    refine Go.alenN X0 12 A dl1eq_11 ?_
    refine Go.icmpN X0 15 dl1eq_12 (XT.ii_ge_f (n_lt hin A.1)) ?_
    refine Go.aloadN X0 16 dl1eq_15 rfl rfl ?_
    refine Go.iloadN X0 17 dl1eq_16 rfl ?_
    refine Go.baN X0 18 A i hin dl1eq_17 ?_
    refine Go.aloadN X0 19 dl1eq_18 rfl rfl ?_
    refine Go.iloadN X0 20 dl1eq_19 rfl ?_
    refine Go.baN X0 21 B i hin dl1eq_20 ?_
    by_cases c1 : (f i) = (g i)
    · skip
      refine Go.icmpY X0 26 dl1eq_21 (XT.ii_eq_t c1) ?_
      refine Go.iinc X0 29 (1 : Int32) #[.val (.ref a), .val (.ref b), .val (.int ((Int32.ofNat i) + (1 : Int32)))] dl1eq_26 rfl rfl ?_
      refine Go.goto X0 9 dl1eq_29 ?_
      rw [n_succ]
      refine ih (i + 1) (by omega) _ _ _ X0 A B (fun j hj => ?_)
      by_cases q : j = i
      · subst q; exact c1
      · exact hg j (by omega)
    · skip
      refine Go.icmpN X0 24 dl1eq_21 (XT.ii_eq_f c1) ?_
      refine Go.iconst X0 25 (0 : Int32) dl1eq_24 ?_
      exact Go.retI X0 rfl (by simp) rfl dl1eq_25 (X0.fin ⟨rfl, Or.inr ⟨rfl, i, hin, c1⟩⟩ hce hsl)
theorem ef_l1eq (m : MethodId) (a : Addr) (b : Addr) : entryFrame m #[(.ref a), (.ref b)] 3 = mkF m 0 #[.val (.ref a), .val (.ref b), .unset] [] := by first | (simp [entryFrame, mkF, argsToLocals, Value.category]; done) | rfl
set_option maxRecDepth 65536 in
set_option maxHeartbeats 40000000 in
theorem rm_l1eq (l : Launch) (Z : State) (a0 : Array Value) (hw : ∀ d ∈ tables_1, d.before a0 Z = true) (h0 : Heap) (a b : Addr) (n k : Nat) (f g : Nat → Int32) (A : An Z h0 a .byte n f) (B : An Z h0 b .byte k g) :
    Ct l Z [] (⟨"java/lang/StringLatin1", "equals", "([B[B)Z"⟩ : MethodName) jdk_43_method_13_code 3 (some .boolean) (⟨0, 0, 0, 0⟩ : Room) #[(.ref a), (.ref b)] h0 (fun v h' => h' = h0 ∧ ((v = some (.int 1) ∧ n = k ∧ ∀ j, j < n → f j = g j) ∨ (v = some (.int 0) ∧ ¬ (n = k ∧ ∀ j, j < n → f j = g j)))) := by
  refine Ct.of pn_java_lang_StringLatin1 (fun m => ef_l1eq m a b) ?_
  intro p e s m below meth c s₁ X0
  by_cases q : n = k
  · subst q
    refine Go.aloadN X0 1 dl1eq_0 rfl rfl ?_
    refine Go.alenN X0 2 A dl1eq_1 ?_
    refine Go.aloadN X0 3 dl1eq_2 rfl rfl ?_
    refine Go.alenN X0 4 B dl1eq_3 ?_
    refine Go.icmpN X0 7 dl1eq_4 (XT.ii_ne_f rfl) ?_
    refine Go.iconst X0 8 (0 : Int32) dl1eq_7 ?_
    refine Go.istoreN X0 9 #[.val (.ref a), .val (.ref b), .val (.int (0 : Int32))] dl1eq_8 rfl ?_
    refine Go.mono (fun v t q => ?_) (lp_eq (Nat.le_refl _) (Nat.le_refl _) a b n f g n 0 (by omega) _ _ h0 X0 A B (fun j hj => absurd hj (Nat.not_lt_zero j)))
    obtain ⟨L, ⟨q1, q2, q3, q4⟩, q5⟩ := q
    refine ⟨L, ⟨q1, q2, q3, ?_⟩, q5⟩
    rcases q4 with ⟨r1, r2⟩ | ⟨r1, j, r2, r3⟩
    · exact Or.inl ⟨r1, rfl, r2⟩
    · exact Or.inr ⟨r1, fun z => r3 (z.2 j r2)⟩
  · skip
    refine Go.aloadN X0 1 dl1eq_0 rfl rfl ?_
    refine Go.alenN X0 2 A dl1eq_1 ?_
    refine Go.aloadN X0 3 dl1eq_2 rfl rfl ?_
    refine Go.alenN X0 4 B dl1eq_3 ?_
    refine Go.icmpY X0 34 dl1eq_4 (XT.ii_ne_t (fun z => q (n_inj A.1 B.1 z))) ?_
    refine Go.iconst X0 35 (0 : Int32) dl1eq_34 ?_
    exact Go.retI X0 rfl (by simp) rfl dl1eq_35 (X0.fin ⟨rfl, Or.inr ⟨rfl, fun z => q z.1⟩⟩ (by decide) (by decide))
theorem dseq_0 : decode jdk_42_method_66_code 0 = .ok (.aload_n 0, 1) := by decide +kernel
theorem dseq_1 : decode jdk_42_method_66_code 1 = .ok (.aload_n 1, 1) := by decide +kernel
theorem dseq_2 : decode jdk_42_method_66_code 2 = .ok (.if_acmp .ne 5, 3) := by decide +kernel
theorem dseq_5 : decode jdk_42_method_66_code 5 = .ok (.iconst 1, 1) := by decide +kernel
theorem dseq_6 : decode jdk_42_method_66_code 6 = .ok (.ireturn, 1) := by decide +kernel
theorem dseq_7 : decode jdk_42_method_66_code 7 = .ok (.aload_n 1, 1) := by decide +kernel
theorem dseq_8 : decode jdk_42_method_66_code 8 = .ok (.instanceof 10, 3) := by decide +kernel
theorem dseq_11 : decode jdk_42_method_66_code 11 = .ok (.ifCond .eq 43, 3) := by decide +kernel
theorem dseq_14 : decode jdk_42_method_66_code 14 = .ok (.aload_n 1, 1) := by decide +kernel
theorem dseq_15 : decode jdk_42_method_66_code 15 = .ok (.checkcast 10, 3) := by decide +kernel
theorem dseq_18 : decode jdk_42_method_66_code 18 = .ok (.astore_n 2, 1) := by decide +kernel
theorem dseq_19 : decode jdk_42_method_66_code 19 = .ok (.getstatic 38, 3) := by decide +kernel
theorem dseq_22 : decode jdk_42_method_66_code 22 = .ok (.ifCond .eq 14, 3) := by decide +kernel
theorem dseq_25 : decode jdk_42_method_66_code 25 = .ok (.aload_n 0, 1) := by decide +kernel
theorem dseq_26 : decode jdk_42_method_66_code 26 = .ok (.getfield 15, 3) := by decide +kernel
theorem dseq_29 : decode jdk_42_method_66_code 29 = .ok (.aload_n 2, 1) := by decide +kernel
theorem dseq_30 : decode jdk_42_method_66_code 30 = .ok (.getfield 15, 3) := by decide +kernel
theorem dseq_33 : decode jdk_42_method_66_code 33 = .ok (.if_icmp .ne 21, 3) := by decide +kernel
theorem dseq_36 : decode jdk_42_method_66_code 36 = .ok (.aload_n 0, 1) := by decide +kernel
theorem dseq_37 : decode jdk_42_method_66_code 37 = .ok (.getfield 9, 3) := by decide +kernel
theorem dseq_40 : decode jdk_42_method_66_code 40 = .ok (.aload_n 2, 1) := by decide +kernel
theorem dseq_41 : decode jdk_42_method_66_code 41 = .ok (.getfield 9, 3) := by decide +kernel
theorem dseq_44 : decode jdk_42_method_66_code 44 = .ok (.invokestatic 541, 3) := by decide +kernel
theorem dseq_47 : decode jdk_42_method_66_code 47 = .ok (.ifCond .eq 7, 3) := by decide +kernel
theorem dseq_50 : decode jdk_42_method_66_code 50 = .ok (.iconst 1, 1) := by decide +kernel
theorem dseq_51 : decode jdk_42_method_66_code 51 = .ok (.goto 4, 3) := by decide +kernel
theorem dseq_54 : decode jdk_42_method_66_code 54 = .ok (.iconst 0, 1) := by decide +kernel
theorem dseq_55 : decode jdk_42_method_66_code 55 = .ok (.ireturn, 1) := by decide +kernel
theorem ef_seq (m : MethodId) (a : Addr) (b : Addr) : entryFrame m #[(.ref a), (.ref b)] 3 = mkF m 0 #[.val (.ref a), .val (.ref b), .unset] [] := by first | (simp [entryFrame, mkF, argsToLocals, Value.category]; done) | rfl
set_option maxRecDepth 65536 in
set_option maxHeartbeats 40000000 in
theorem rm_seq (l : Launch) (Z : State) (a0 : Array Value) (hw : ∀ d ∈ tables_1, d.before a0 Z = true) (h0 : Heap) (cz : Int32) (SC : Sta Z Z.heap "java/lang/String" "COMPACT_STRINGS" "Z" (.int cz)) (hcz : ¬ cz = 0) (a t b u : Addr) (n k : Nat) (f g : Nat → Int32) (S : Str Z h0 a t n f) (S' : Str Z h0 b u k g) (hl : ∀ j, j < n → ¬ 255 < f j) (hl' : ∀ j, j < k → ¬ 255 < g j) (hab : a = b → t = u ∧ n = k ∧ ∀ j, j < n → f j = g j) :
    Ct l Z [] (⟨"java/lang/String", "equals", "(Ljava/lang/Object;)Z"⟩ : MethodName) jdk_42_method_66_code 3 (some .boolean) (⟨1, 0, 0, 14⟩ : Room) #[(.ref a), (.ref b)] h0 (fun v h' => h' = h0 ∧ ((v = some (.int 1) ∧ n = k ∧ ∀ j, j < n → f j = g j) ∨ (v = some (.int 0) ∧ ¬ (n = k ∧ ∀ j, j < n → f j = g j)))) := by
  refine Ct.of pn_java_lang_String (fun m => ef_seq m a b) ?_
  intro p e s m below meth c s₁ X0
  obtain ⟨C1, f', A1, G1⟩ := S.lat hl
  obtain ⟨C2, g', A2, G2⟩ := S'.lat hl'
  obtain ⟨S1, S2, S3, S4, -⟩ := S
  obtain ⟨R1, R2, R3, R4, -⟩ := S'
  refine Go.aloadN X0 1 dseq_0 rfl rfl ?_
  refine Go.aloadN X0 2 dseq_1 rfl rfl ?_
  by_cases c1 : (.ref a) = ((.ref b) : Value)
  · skip
    refine Go.acmpN X0 5 dseq_2 rfl rfl (XT.aa_ne_f c1) ?_
    refine Go.iconst X0 6 (1 : Int32) dseq_5 ?_
    exact Go.retI X0 rfl (by simp) rfl dseq_6 (X0.fin ⟨rfl, Or.inl ⟨rfl, (hab (Value.ref.inj c1)).2⟩⟩ (by decide) (by decide))
  · skip
    refine Go.acmpY X0 7 dseq_2 rfl rfl (XT.aa_ne_t c1) ?_
    refine Go.aloadN X0 8 dseq_7 rfl rfl ?_
    refine Go.instY X0 11 (hw _ (List.mem_of_getElem? (i := 69) rfl)) (Ins.self R1) dseq_8 ?_
    intro T2 X2
    refine Go.if0N X2 14 dseq_11 (XT.i0_eq_f (by decide)) ?_
    refine Go.aloadN X2 15 dseq_14 rfl rfl ?_
    refine Go.castY X2 18 (hw _ (List.mem_of_getElem? (i := 69) rfl)) (Ins.self R1) dseq_15 ?_
    intro T3 X3
    refine Go.astoreN X3 19 #[.val (.ref a), .val (.ref b), .val (.ref b)] dseq_18 rfl rfl ?_
    refine Go.getS X3 22 (hw _ (List.mem_of_getElem? (i := 19) rfl)) SC dseq_19 ?_
    intro T4 X4
    refine Go.if0N X4 25 dseq_22 (XT.i0_eq_f hcz) ?_
    refine Go.aloadN X4 26 dseq_25 rfl rfl ?_
    refine Go.getF X4 29 (hw _ (List.mem_of_getElem? (i := 31) rfl)) C1 dseq_26 ?_
    intro T5 X5
    refine Go.aloadN X5 30 dseq_29 rfl rfl ?_
    refine Go.getF X5 33 (hw _ (List.mem_of_getElem? (i := 31) rfl)) C2 dseq_30 ?_
    intro T6 X6
    refine Go.icmpN X6 36 dseq_33 (XT.ii_ne_f (by decide)) ?_
    refine Go.aloadN X6 37 dseq_36 rfl rfl ?_
    refine Go.getF X6 40 (hw _ (List.mem_of_getElem? (i := 33) rfl)) S2 dseq_37 ?_
    intro T7 X7
    refine Go.aloadN X7 41 dseq_40 rfl rfl ?_
    refine Go.getF X7 44 (hw _ (List.mem_of_getElem? (i := 33) rfl)) R2 dseq_41 ?_
    intro T8 X8
    have key : (∀ j, j < n → n = k → f' j = g' j → f j = g j) ∧ (∀ j, j < n → n = k → f j = g j → f' j = g' j) := ⟨fun j hj e q => n_eqb (S4 j hj).1 (G1 j hj).1 (R4 j (e ▸ hj)).1 (G2 j (e ▸ hj)).1 (by rw [← (G1 j hj).2, ← (G2 j (e ▸ hj)).2]; exact q), fun j hj e q => by rw [(G1 j hj).2, (G2 j (e ▸ hj)).2, q]⟩
    refine Go.callS X8 47 [(.ref t), (.ref u)] [] 0 (hw _ (List.mem_of_getElem? (i := 70) rfl)) (hw _ (List.mem_of_getElem? (i := 71) rfl)) (hw _ (List.mem_of_getElem? (i := 72) rfl)) (by decide) (hw _ (List.mem_of_getElem? (i := 73) rfl)) pd_4 dseq_44 (rm_l1eq l Z a0 hw h0 t u n k f' g' A1 A2) rfl rfl rfl (Nat.le_of_eq rfl) (by decide) (by decide) (by decide) (by decide) ?_
    rintro T9 v9 L9 X9 ⟨hh, ⟨rfl, q1, q2⟩ | ⟨rfl, q1⟩⟩
    · rw [hh] at X9
      show Go p e below _ T9 m 47 #[.val (.ref a), .val (.ref b), .val (.ref b)] [(.int (1 : Int32))]
      refine Go.if0N X9 50 dseq_47 (XT.i0_eq_f (by decide)) ?_
      refine Go.iconst X9 51 (1 : Int32) dseq_50 ?_
      refine Go.goto X9 55 dseq_51 ?_
      exact Go.retI X9 rfl (by simp) rfl dseq_55 (X9.fin ⟨rfl, Or.inl ⟨rfl, q1, fun j hj => key.1 j hj q1 (q2 j hj)⟩⟩ (by decide) (by decide))
    · rw [hh] at X9
      show Go p e below _ T9 m 47 #[.val (.ref a), .val (.ref b), .val (.ref b)] [(.int (0 : Int32))]
      refine Go.if0Y X9 54 dseq_47 (XT.i0_eq_t (by decide)) ?_
      refine Go.iconst X9 55 (0 : Int32) dseq_54 ?_
      exact Go.retI X9 rfl (by simp) rfl dseq_55 (X9.fin ⟨rfl, Or.inr ⟨rfl, fun z => q1 ⟨z.1, fun j hj => key.2 j hj z.1 (z.2 j hj)⟩⟩⟩ (by decide) (by decide))
theorem own_le {x : Int32} (h1 : ¬ 255 < x) : x.toInt < 65536 := by
  rw [Int32.lt_iff_toInt_lt] at h1
  have e : (255 : Int32).toInt = 255 := by decide
  omega
def own_n (d : Int32) : Nat := if d = 0 then 1 else 2
def own_f (x y : Int32) : Nat → Int32 := fun j => if j = 0 then x else y
theorem own_nar {x : Int32} (h0 : 0 ≤ x.toInt) (h1 : ¬ 255 < x) : nar .char x = x := by
  have h2 : x.toInt < 65536 := by
    rw [Int32.lt_iff_toInt_lt] at h1
    have e : (255 : Int32).toInt = 255 := by decide
    omega
  exact n_chr h0 h2
theorem own_255 (x : Int32) : 0 ≤ (x &&& 255).toInt ∧ ¬ 255 < (x &&& 255) := by
  have e : (255 : Int32).toInt = 255 := by decide
  have := c_and x 255 (by decide)
  rw [Int32.lt_iff_toInt_lt, e]
  rw [e] at this
  omega
theorem own_65535 (x : Int32) : ¬ (x &&& 65535) < 0 ∧ ¬ 65535 < (x &&& 65535) := by
  have e : (65535 : Int32).toInt = 65535 := by decide
  have e0 : (0 : Int32).toInt = 0 := by decide
  have := c_and x 65535 (by decide)
  rw [Int32.lt_iff_toInt_lt, Int32.lt_iff_toInt_lt, e, e0]
  rw [e] at this
  omega
theorem own_k4 (x : Int32) : (x &&& 3) = 0 ∨ (x &&& 3) = 1 ∨ (x &&& 3) = 2 ∨ (x &&& 3) = 3 := by
  have h1 := c_and x 3 (by decide)
  simp only [← Int32.toInt_inj]
  have e0 : (0 : Int32).toInt = 0 := by decide
  have e1 : (1 : Int32).toInt = 1 := by decide
  have e2 : (2 : Int32).toInt = 2 := by decide
  have e3 : (3 : Int32).toInt = 3 := by decide
  rw [e0, e1, e2, e3]
  rw [e3] at h1
  omega
theorem own_n0 {d : Int32} (h : d = 0 ∨ d = 1) : 0 < own_n d ∧ own_n d ≤ 2 := by rcases h with rfl | rfl <;> decide
theorem own_fr {x y : Int32} (hx : 0 ≤ x.toInt ∧ ¬ 255 < x) (hy : 0 ≤ y.toInt ∧ ¬ 255 < y) (j : Nat) : 0 ≤ (own_f x y j).toInt ∧ ¬ 255 < own_f x y j := by
  unfold own_f
  split
  · exact hx
  · exact hy
theorem own_iff {d d' x0 x1 y0 y1 : Int32} (hd : d = 0 ∨ d = 1) (hd' : d' = 0 ∨ d' = 1) : (own_n d = own_n d' ∧ ∀ j, j < own_n d → own_f x0 x1 j = own_f y0 y1 j) ↔ (d = d' ∧ x0 = y0 ∧ (d = 0 ∨ x1 = y1)) := by
  constructor
  · rintro ⟨h1, h2⟩
    have p0 := h2 0 (own_n0 hd).1
    have q0 : x0 = y0 := by simpa [own_f] using p0
    rcases hd with rfl | rfl <;> rcases hd' with rfl | rfl
    · exact ⟨rfl, q0, Or.inl rfl⟩
    · exact absurd h1 (by decide)
    · exact absurd h1 (by decide)
    · have p1 := h2 1 (by decide)
      exact ⟨rfl, q0, Or.inr (by simpa [own_f] using p1)⟩
  · rintro ⟨rfl, rfl, h⟩
    refine ⟨rfl, fun j hj => ?_⟩
    unfold own_f
    by_cases q : j = 0
    · simp [q]
    · simp only [if_neg q]
      rcases h with rfl | rfl
      · have : own_n 0 = 1 := by decide
        omega
      · rfl
theorem pn_java_lang_Record : plainName "java/lang/Record" = true := by first | (simp [plainName, overriddenIn]; done) | decide +kernel
theorem dr_0 : decode jdk_30_method_1_code 0 = .ok (.aload_n 0, 1) := by decide +kernel
theorem dr_1 : decode jdk_30_method_1_code 1 = .ok (.invokespecial 1, 3) := by decide +kernel
theorem dr_4 : decode jdk_30_method_1_code 4 = .ok (.return_, 1) := by decide +kernel
theorem ef_r (m : MethodId) (a : Addr) : entryFrame m #[(.ref a)] 1 = mkF m 0 #[.val (.ref a)] [] := by first | (simp [entryFrame, mkF, argsToLocals, Value.category]; done) | rfl
set_option maxRecDepth 65536 in
set_option maxHeartbeats 40000000 in
theorem rm_r (l : Launch) (Z : State) (a0 : Array Value) (hw : ∀ d ∈ tables_1, d.before a0 Z = true) (h0 : Heap) (a : Addr) :
    Ct l Z [] (⟨"java/lang/Record", "<init>", "()V"⟩ : MethodName) jdk_30_method_1_code 1 none (⟨1, 0, 0, 12⟩ : Room) #[(.ref a)] h0 (fun v h' => v = none ∧ h' = h0) := by
  refine Ct.of pn_java_lang_Record (fun m => ef_r m a) ?_
  intro p e s m below meth c s₁ X0
  refine Go.aloadN X0 1 dr_0 rfl rfl ?_
  refine Go.initO X0 4 (hw _ (List.mem_of_getElem? (i := 46) rfl)) (hw _ (List.mem_of_getElem? (i := 17) rfl)) (hw _ (List.mem_of_getElem? (i := 18) rfl)) 0 dr_1 rfl (by decide) (by decide) (by decide) ?_
  intro T1 X1
  exact Go.retV X1 rfl dr_4 (X1.fin ⟨rfl, rfl⟩ (by decide) (by decide))
theorem pn_com_example_peerloom_peerloom_api_AddressEqualsPinLaw : plainName "com/example/peerloom/peerloom/api/AddressEqualsPinLaw" = true := by first | (simp [plainName, overriddenIn]; done) | decide +kernel
theorem dt_0 : decode method_3_code 0 = .ok (.iload_n 0, 1) := by decide +kernel
theorem dt_1 : decode method_3_code 1 = .ok (.ifCond .eq 22, 3) := by decide +kernel
theorem dt_4 : decode method_3_code 4 = .ok (.new 23, 3) := by decide +kernel
theorem dt_7 : decode method_3_code 7 = .ok (.dup, 1) := by decide +kernel
theorem dt_8 : decode method_3_code 8 = .ok (.iconst 2, 1) := by decide +kernel
theorem dt_9 : decode method_3_code 9 = .ok (.newarray .char, 2) := by decide +kernel
theorem dt_11 : decode method_3_code 11 = .ok (.dup, 1) := by decide +kernel
theorem dt_12 : decode method_3_code 12 = .ok (.iconst 0, 1) := by decide +kernel
theorem dt_13 : decode method_3_code 13 = .ok (.iload_n 1, 1) := by decide +kernel
theorem dt_14 : decode method_3_code 14 = .ok (.castore, 1) := by decide +kernel
theorem dt_15 : decode method_3_code 15 = .ok (.dup, 1) := by decide +kernel
theorem dt_16 : decode method_3_code 16 = .ok (.iconst 1, 1) := by decide +kernel
theorem dt_17 : decode method_3_code 17 = .ok (.iload_n 2, 1) := by decide +kernel
theorem dt_18 : decode method_3_code 18 = .ok (.castore, 1) := by decide +kernel
theorem dt_19 : decode method_3_code 19 = .ok (.invokespecial 25, 3) := by decide +kernel
theorem dt_22 : decode method_3_code 22 = .ok (.areturn, 1) := by decide +kernel
theorem dt_23 : decode method_3_code 23 = .ok (.new 23, 3) := by decide +kernel
theorem dt_26 : decode method_3_code 26 = .ok (.dup, 1) := by decide +kernel
theorem dt_27 : decode method_3_code 27 = .ok (.iconst 1, 1) := by decide +kernel
theorem dt_28 : decode method_3_code 28 = .ok (.newarray .char, 2) := by decide +kernel
theorem dt_30 : decode method_3_code 30 = .ok (.dup, 1) := by decide +kernel
theorem dt_31 : decode method_3_code 31 = .ok (.iconst 0, 1) := by decide +kernel
theorem dt_32 : decode method_3_code 32 = .ok (.iload_n 1, 1) := by decide +kernel
theorem dt_33 : decode method_3_code 33 = .ok (.castore, 1) := by decide +kernel
theorem dt_34 : decode method_3_code 34 = .ok (.invokespecial 25, 3) := by decide +kernel
theorem dt_37 : decode method_3_code 37 = .ok (.areturn, 1) := by decide +kernel
theorem ef_t (m : MethodId) (d : Int32) (y0 : Int32) (y1 : Int32) : entryFrame m #[(.int d), (.int y0), (.int y1)] 3 = mkF m 0 #[.val (.int d), .val (.int y0), .val (.int y1)] [] := by first | (simp [entryFrame, mkF, argsToLocals, Value.category]; done) | rfl
set_option maxRecDepth 65536 in
set_option maxHeartbeats 40000000 in
theorem rm_t (l : Launch) (Z : State) (a0 : Array Value) (hw : ∀ d ∈ tables_1, d.before a0 Z = true) (h0 : Heap) (cz : Int32) (SC : Sta Z Z.heap "java/lang/String" "COMPACT_STRINGS" "Z" (.int cz)) (hcz : ¬ cz = 0) (d y0 y1 : Int32) (hd : d = 0 ∨ d = 1) (hy0 : 0 ≤ y0.toInt ∧ ¬ 255 < y0) (hy1 : 0 ≤ y1.toInt ∧ ¬ 255 < y1) :
    Ct l Z [] (⟨"com/example/peerloom/peerloom/api/AddressEqualsPinLaw", "text", "(ZCC)Ljava/lang/String;"⟩ : MethodName) method_3_code 3 (some (.object "java/lang/String")) (⟨4, 3, 8, 66⟩ : Room) #[(.int d), (.int y0), (.int y1)] h0 (fun v h' => ∃ a t, v = some (.ref a) ∧ Keep h0 h' [] ∧ h0.size ≤ a ∧ h0.size ≤ t ∧ Str Z h' a t (own_n d) (own_f y0 y1)) := by
  refine Ct.of pn_com_example_peerloom_peerloom_api_AddressEqualsPinLaw (fun m => ef_t m d y0 y1) ?_
  intro p e s m below meth c s₁ X0
  have K1 : Keep h0 h0 [] := Keep.refl _ _
  rcases hd with rfl | rfl
  · skip
    refine Go.iloadN X0 1 dt_0 rfl ?_
    refine Go.if0Y X0 23 dt_1 (XT.i0_eq_t (by decide)) ?_
    refine Go.newO X0 26 (hw _ (List.mem_of_getElem? (i := 5) rfl)) (hw _ (List.mem_of_getElem? (i := 6) rfl)) (hw _ (List.mem_of_getElem? (i := 7) rfl)) dt_23 (by decide) (by decide) ?_
    intro T2 h2 a2 X2 E2 g2 A2 D2
    have nw_a2 : Z.heap.size ≤ a2 := by rw [← g2]; exact X0.le
    have si_a2 : h0.size ≤ a2 := by rw [← g2]; exact K1.1
    have K3 : Keep h0 h2 [] := K1.ext E2
    have F4 : Fld Z h2 a2 "java/lang/String" "coder" "B" (.int (0 : Int32)) := D2 (Or.inr (hw _ (List.mem_of_getElem? (i := 32) rfl))) (ty := .byte) (by decide)
    have F5 : Fld Z h2 a2 "java/lang/String" "value" "[B" .null := D2 (Or.inr (hw _ (List.mem_of_getElem? (i := 34) rfl))) (ty := (.array .byte)) (by decide)
    refine Go.dup X2 27 dt_26 rfl ?_
    refine Go.iconst X2 28 (1 : Int32) dt_27 ?_
    refine Go.newC X2 30 (n := 1) (hw _ (List.mem_of_getElem? (i := 8) rfl)) dt_28 1 (by decide) (by decide) (by decide) (by decide) ?_
    intro T6 h6 a6 X6 E6 g6 V6
    have nw_a6 : Z.heap.size ≤ a6 := by rw [← g6]; exact X2.le
    have si_a6 : h0.size ≤ a6 := by rw [← g6]; exact K3.1
    have ne_a2_a6 : a2 ≠ a6 := by rw [← g6]; exact Nat.ne_of_lt A2.lt
    have K7 : Keep h0 h6 [] := K3.ext E6
    have F8 : Exa Z h6 a2 "java/lang/String" := A2.ext E6
    have F9 : Fld Z h6 a2 "java/lang/String" "coder" "B" (.int (0 : Int32)) := F4.ext E6
    have F10 : Fld Z h6 a2 "java/lang/String" "value" "[B" .null := F5.ext E6
    refine Go.dup X6 31 dt_30 rfl ?_
    refine Go.iconst X6 32 (0 : Int32) dt_31 ?_
    refine Go.iloadN X6 33 dt_32 rfl ?_
    refine Go.stCN X6 34 V6 0 (by decide) dt_33 nw_a6 ?_
    intro T11 h11 w11 X11 W11 V11
    have K12 : Keep h0 h11 [] := K7.wr W11 (Or.inr si_a6)
    have F13 : Exa Z h11 a2 "java/lang/String" := F8.wr W11
    have F14 : Fld Z h11 a2 "java/lang/String" "coder" "B" (.int (0 : Int32)) := F9.other W11 (Or.inl ne_a2_a6)
    have F15 : Fld Z h11 a2 "java/lang/String" "value" "[B" .null := F10.other W11 (Or.inl ne_a2_a6)
    have F16 : An Z h11 a6 .char 1 (upd (fun _ => (0 : Int32)) 0 (nar .char y0)) := V11
    have hcs : ∀ j, j < 1 → (upd (fun _ => (0 : Int32)) 0 (nar .char y0)) j = own_f y0 y1 j := by
      intro j hj
      simp only [upd, own_f, own_nar hy0.1 hy0.2, own_nar hy1.1 hy1.2]
      have : j = 0 ∨ j = 1 := by omega
      rcases this with rfl | rfl <;> first | rfl | omega
    have hfr : ∀ j, j < 1 → 0 ≤ ((upd (fun _ => (0 : Int32)) 0 (nar .char y0)) j).toInt ∧ ((upd (fun _ => (0 : Int32)) 0 (nar .char y0)) j).toInt < 65536 := fun j hj => by rw [hcs j hj]; have q := own_fr hy0 hy1 j; exact ⟨q.1, own_le q.2⟩
    have hlt : ∀ j, j < 1 → ¬ 255 < (upd (fun _ => (0 : Int32)) 0 (nar .char y0)) j := fun j hj => by rw [hcs j hj]; exact (own_fr hy0 hy1 j).2
    refine Go.callI X11 37 [(.ref a6)] [(.ref a2)] 1 rfl (hw _ (List.mem_of_getElem? (i := 9) rfl)) (hw _ (List.mem_of_getElem? (i := 10) rfl)) (hw _ (List.mem_of_getElem? (i := 7) rfl)) (by decide) rfl (hw _ (List.mem_of_getElem? (i := 11) rfl)) pd_5 dt_34 (rm_i1 l Z a0 hw h11 cz SC hcz a2 a6 1 (upd (fun _ => (0 : Int32)) 0 (nar .char y0)) (by decide) (by decide) F13 F15 F14 nw_a2 (Ne.symm ne_a2_a6) F16 hfr hlt) rfl rfl rfl (Nat.le_of_eq rfl) (by decide) (by decide) (by decide) (by decide) ?_
    rintro T17 v17 L17 X17 ⟨rfl, t, K, gt, S⟩
    show Go p e below _ T17 m 37 #[.val (.int (0 : Int32)), .val (.int y0), .val (.int y1)] [(.ref a2)]
    have si_t : h0.size ≤ t := Nat.le_trans K12.1 gt
    have K18 : Keep h0 T17.heap [] := K12.trans K (allS (Or.inr si_a2) all0)
    have F19 : Exa Z T17.heap a2 "java/lang/String" := F13.keep K
    have F20 : An Z T17.heap a6 .char 1 (upd (fun _ => (0 : Int32)) 0 (nar .char y0)) := F16.keep K (ninS (Ne.symm ne_a2_a6) nin0)
    exact Go.retA X17 rfl rfl rfl dt_37 (X17.fin ⟨_, t, rfl, K18, si_a2, si_t, S.congr hcs⟩ (by decide) (by decide))
  · skip
    refine Go.iloadN X0 1 dt_0 rfl ?_
    refine Go.if0N X0 4 dt_1 (XT.i0_eq_f (by decide)) ?_
    refine Go.newO X0 7 (hw _ (List.mem_of_getElem? (i := 5) rfl)) (hw _ (List.mem_of_getElem? (i := 6) rfl)) (hw _ (List.mem_of_getElem? (i := 7) rfl)) dt_4 (by decide) (by decide) ?_
    intro T21 h21 a21 X21 E21 g21 A21 D21
    have nw_a21 : Z.heap.size ≤ a21 := by rw [← g21]; exact X0.le
    have si_a21 : h0.size ≤ a21 := by rw [← g21]; exact K1.1
    have K22 : Keep h0 h21 [] := K1.ext E21
    have F23 : Fld Z h21 a21 "java/lang/String" "coder" "B" (.int (0 : Int32)) := D21 (Or.inr (hw _ (List.mem_of_getElem? (i := 32) rfl))) (ty := .byte) (by decide)
    have F24 : Fld Z h21 a21 "java/lang/String" "value" "[B" .null := D21 (Or.inr (hw _ (List.mem_of_getElem? (i := 34) rfl))) (ty := (.array .byte)) (by decide)
    refine Go.dup X21 8 dt_7 rfl ?_
    refine Go.iconst X21 9 (2 : Int32) dt_8 ?_
    refine Go.newC X21 11 (n := 2) (hw _ (List.mem_of_getElem? (i := 8) rfl)) dt_9 2 (by decide) (by decide) (by decide) (by decide) ?_
    intro T25 h25 a25 X25 E25 g25 V25
    have nw_a25 : Z.heap.size ≤ a25 := by rw [← g25]; exact X21.le
    have si_a25 : h0.size ≤ a25 := by rw [← g25]; exact K22.1
    have ne_a21_a25 : a21 ≠ a25 := by rw [← g25]; exact Nat.ne_of_lt A21.lt
    have K26 : Keep h0 h25 [] := K22.ext E25
    have F27 : Exa Z h25 a21 "java/lang/String" := A21.ext E25
    have F28 : Fld Z h25 a21 "java/lang/String" "coder" "B" (.int (0 : Int32)) := F23.ext E25
    have F29 : Fld Z h25 a21 "java/lang/String" "value" "[B" .null := F24.ext E25
    refine Go.dup X25 12 dt_11 rfl ?_
    refine Go.iconst X25 13 (0 : Int32) dt_12 ?_
    refine Go.iloadN X25 14 dt_13 rfl ?_
    refine Go.stCN X25 15 V25 0 (by decide) dt_14 nw_a25 ?_
    intro T30 h30 w30 X30 W30 V30
    have K31 : Keep h0 h30 [] := K26.wr W30 (Or.inr si_a25)
    have F32 : Exa Z h30 a21 "java/lang/String" := F27.wr W30
    have F33 : Fld Z h30 a21 "java/lang/String" "coder" "B" (.int (0 : Int32)) := F28.other W30 (Or.inl ne_a21_a25)
    have F34 : Fld Z h30 a21 "java/lang/String" "value" "[B" .null := F29.other W30 (Or.inl ne_a21_a25)
    have F35 : An Z h30 a25 .char 2 (upd (fun _ => (0 : Int32)) 0 (nar .char y0)) := V30
    refine Go.dup X30 16 dt_15 rfl ?_
    refine Go.iconst X30 17 (1 : Int32) dt_16 ?_
    refine Go.iloadN X30 18 dt_17 rfl ?_
    refine Go.stCN X30 19 F35 1 (by decide) dt_18 nw_a25 ?_
    intro T36 h36 w36 X36 W36 V36
    have K37 : Keep h0 h36 [] := K31.wr W36 (Or.inr si_a25)
    have F38 : Exa Z h36 a21 "java/lang/String" := F32.wr W36
    have F39 : Fld Z h36 a21 "java/lang/String" "coder" "B" (.int (0 : Int32)) := F33.other W36 (Or.inl ne_a21_a25)
    have F40 : Fld Z h36 a21 "java/lang/String" "value" "[B" .null := F34.other W36 (Or.inl ne_a21_a25)
    have F41 : An Z h36 a25 .char 2 (upd (upd (fun _ => (0 : Int32)) 0 (nar .char y0)) 1 (nar .char y1)) := V36
    have hcs : ∀ j, j < 2 → (upd (upd (fun _ => (0 : Int32)) 0 (nar .char y0)) 1 (nar .char y1)) j = own_f y0 y1 j := by
      intro j hj
      simp only [upd, own_f, own_nar hy0.1 hy0.2, own_nar hy1.1 hy1.2]
      have : j = 0 ∨ j = 1 := by omega
      rcases this with rfl | rfl <;> first | rfl | omega
    have hfr : ∀ j, j < 2 → 0 ≤ ((upd (upd (fun _ => (0 : Int32)) 0 (nar .char y0)) 1 (nar .char y1)) j).toInt ∧ ((upd (upd (fun _ => (0 : Int32)) 0 (nar .char y0)) 1 (nar .char y1)) j).toInt < 65536 := fun j hj => by rw [hcs j hj]; have q := own_fr hy0 hy1 j; exact ⟨q.1, own_le q.2⟩
    have hlt : ∀ j, j < 2 → ¬ 255 < (upd (upd (fun _ => (0 : Int32)) 0 (nar .char y0)) 1 (nar .char y1)) j := fun j hj => by rw [hcs j hj]; exact (own_fr hy0 hy1 j).2
    refine Go.callI X36 22 [(.ref a25)] [(.ref a21)] 1 rfl (hw _ (List.mem_of_getElem? (i := 9) rfl)) (hw _ (List.mem_of_getElem? (i := 10) rfl)) (hw _ (List.mem_of_getElem? (i := 7) rfl)) (by decide) rfl (hw _ (List.mem_of_getElem? (i := 11) rfl)) pd_5 dt_19 (rm_i1 l Z a0 hw h36 cz SC hcz a21 a25 2 (upd (upd (fun _ => (0 : Int32)) 0 (nar .char y0)) 1 (nar .char y1)) (by decide) (by decide) F38 F40 F39 nw_a21 (Ne.symm ne_a21_a25) F41 hfr hlt) rfl rfl rfl (Nat.le_of_eq rfl) (by decide) (by decide) (by decide) (by decide) ?_
    rintro T42 v42 L42 X42 ⟨rfl, t, K, gt, S⟩
    show Go p e below _ T42 m 22 #[.val (.int (1 : Int32)), .val (.int y0), .val (.int y1)] [(.ref a21)]
    have si_t : h0.size ≤ t := Nat.le_trans K37.1 gt
    have K43 : Keep h0 T42.heap [] := K37.trans K (allS (Or.inr si_a21) all0)
    have F44 : Exa Z T42.heap a21 "java/lang/String" := F38.keep K
    have F45 : An Z T42.heap a25 .char 2 (upd (upd (fun _ => (0 : Int32)) 0 (nar .char y0)) 1 (nar .char y1)) := F41.keep K (ninS (Ne.symm ne_a21_a25) nin0)
    exact Go.retA X42 rfl rfl rfl dt_22 (X42.fin ⟨_, t, rfl, K43, si_a21, si_t, S.congr hcs⟩ (by decide) (by decide))
theorem pn_com_example_peerloom_peerloom_api_Address : plainName "com/example/peerloom/peerloom/api/Address" = true := by first | (simp [plainName, overriddenIn]; done) | decide +kernel
theorem da_0 : decode prog_3_method_1_code 0 = .ok (.aload_n 0, 1) := by decide +kernel
theorem da_1 : decode prog_3_method_1_code 1 = .ok (.invokespecial 1, 3) := by decide +kernel
theorem da_4 : decode prog_3_method_1_code 4 = .ok (.aload_n 1, 1) := by decide +kernel
theorem da_5 : decode prog_3_method_1_code 5 = .ok (.ifnull 10, 3) := by decide +kernel
theorem da_8 : decode prog_3_method_1_code 8 = .ok (.aload_n 1, 1) := by decide +kernel
theorem da_9 : decode prog_3_method_1_code 9 = .ok (.invokevirtual 7, 3) := by decide +kernel
theorem da_12 : decode prog_3_method_1_code 12 = .ok (.ifCond .eq 13, 3) := by decide +kernel
theorem da_15 : decode prog_3_method_1_code 15 = .ok (.new 13, 3) := by decide +kernel
theorem da_18 : decode prog_3_method_1_code 18 = .ok (.dup, 1) := by decide +kernel
theorem da_19 : decode prog_3_method_1_code 19 = .ok (.ldc 15, 2) := by decide +kernel
theorem da_21 : decode prog_3_method_1_code 21 = .ok (.invokespecial 17, 3) := by decide +kernel
theorem da_24 : decode prog_3_method_1_code 24 = .ok (.athrow, 1) := by decide +kernel
theorem da_25 : decode prog_3_method_1_code 25 = .ok (.iload_n 2, 1) := by decide +kernel
theorem da_26 : decode prog_3_method_1_code 26 = .ok (.ifCond .lt 9, 3) := by decide +kernel
theorem da_29 : decode prog_3_method_1_code 29 = .ok (.iload_n 2, 1) := by decide +kernel
theorem da_30 : decode prog_3_method_1_code 30 = .ok (.ldc 20, 2) := by decide +kernel
theorem da_32 : decode prog_3_method_1_code 32 = .ok (.if_icmp .le 17, 3) := by decide +kernel
theorem da_35 : decode prog_3_method_1_code 35 = .ok (.new 13, 3) := by decide +kernel
theorem da_38 : decode prog_3_method_1_code 38 = .ok (.dup, 1) := by decide +kernel
theorem da_39 : decode prog_3_method_1_code 39 = .ok (.iload_n 2, 1) := by decide +kernel
theorem da_40 : decode prog_3_method_1_code 40 = .ok (.invokedynamic 21, 5) := by decide +kernel
theorem da_45 : decode prog_3_method_1_code 45 = .ok (.invokespecial 17, 3) := by decide +kernel
theorem da_48 : decode prog_3_method_1_code 48 = .ok (.athrow, 1) := by decide +kernel
theorem da_49 : decode prog_3_method_1_code 49 = .ok (.aload_n 0, 1) := by decide +kernel
theorem da_50 : decode prog_3_method_1_code 50 = .ok (.aload_n 1, 1) := by decide +kernel
theorem da_51 : decode prog_3_method_1_code 51 = .ok (.putfield 25, 3) := by decide +kernel
theorem da_54 : decode prog_3_method_1_code 54 = .ok (.aload_n 0, 1) := by decide +kernel
theorem da_55 : decode prog_3_method_1_code 55 = .ok (.iload_n 2, 1) := by decide +kernel
theorem da_56 : decode prog_3_method_1_code 56 = .ok (.putfield 31, 3) := by decide +kernel
theorem da_59 : decode prog_3_method_1_code 59 = .ok (.return_, 1) := by decide +kernel
theorem ef_a (m : MethodId) (a : Addr) (b : Addr) (z : Int32) : entryFrame m #[(.ref a), (.ref b), (.int z)] 3 = mkF m 0 #[.val (.ref a), .val (.ref b), .val (.int z)] [] := by first | (simp [entryFrame, mkF, argsToLocals, Value.category]; done) | rfl
set_option maxRecDepth 65536 in
set_option maxHeartbeats 40000000 in
theorem rm_a (l : Launch) (Z : State) (a0 : Array Value) (hw : ∀ d ∈ tables_1, d.before a0 Z = true) (h0 : Heap) (a b t : Addr) (z : Int32) (n : Nat) (f : Nat → Int32) (hn : 0 < n) (E : Exa Z h0 a "com/example/peerloom/peerloom/api/Address") (F1 : Fld Z h0 a "com/example/peerloom/peerloom/api/Address" "host" "Ljava/lang/String;" .null) (F2 : Fld Z h0 a "com/example/peerloom/peerloom/api/Address" "port" "I" (.int 0)) (na : Z.heap.size ≤ a) (S : Str Z h0 b t n f) (hz : ¬ z < 0 ∧ ¬ 65535 < z) :
    Ct l Z [] (⟨"com/example/peerloom/peerloom/api/Address", "<init>", "(Ljava/lang/String;I)V"⟩ : MethodName) prog_3_method_1_code 3 none (⟨2, 0, 0, 24⟩ : Room) #[(.ref a), (.ref b), (.int z)] h0 (fun v h' => v = none ∧ Keep h0 h' [a] ∧ Fld Z h' a "com/example/peerloom/peerloom/api/Address" "host" "Ljava/lang/String;" (.ref b) ∧ Fld Z h' a "com/example/peerloom/peerloom/api/Address" "port" "I" (.int z)) := by
  refine Ct.of pn_com_example_peerloom_peerloom_api_Address (fun m => ef_a m a b z) ?_
  intro p e s m below meth c s₁ X0
  have K11 : Keep h0 h0 [a] := Keep.refl _ _
  refine Go.aloadN X0 1 da_0 rfl rfl ?_
  refine Go.callI X0 4 [] [] 0 rfl (hw _ (List.mem_of_getElem? (i := 41) rfl)) (hw _ (List.mem_of_getElem? (i := 42) rfl)) (hw _ (List.mem_of_getElem? (i := 44) rfl)) (by decide) rfl (hw _ (List.mem_of_getElem? (i := 45) rfl)) pd_6 da_1 (rm_r l Z a0 hw h0 a) rfl rfl rfl (Nat.le_of_eq rfl) (by decide) (by decide) (by decide) (by decide) ?_
  rintro T12 v12 L12 X12 ⟨rfl, hh⟩
  rw [hh] at X12
  show Go p e below _ T12 m 4 #[.val (.ref a), .val (.ref b), .val (.int z)] []
  refine Go.aloadN X12 5 da_4 rfl rfl ?_
  refine Go.ifnullN X12 8 da_5 ?_
  refine Go.aloadN X12 9 da_8 rfl rfl ?_
  refine Go.callVP X12 12 [] [] 0 (hw _ (List.mem_of_getElem? (i := 47) rfl)) (hw _ (List.mem_of_getElem? (i := 48) rfl)) (hw _ (List.mem_of_getElem? (i := 50) rfl)) (notFace_of_selects (args := #[]) (mvT X12.hZ (hw _ (List.mem_of_getElem? (i := 50) rfl)))) (hw _ (List.mem_of_getElem? (i := 49) rfl)) (hw _ (List.mem_of_getElem? (i := 7) rfl)) (by decide) S.exa (hw _ (List.mem_of_getElem? (i := 51) rfl)) pd_7 da_9 (rm_emp l Z a0 hw h0 b t n f S) rfl rfl rfl (Nat.le_of_eq rfl) (by decide) (by decide) (by decide) (by decide) ?_
  intro T13 L13 X13
  rw [if_neg (by omega)]
  refine Go.if0Y X13 25 da_12 (XT.i0_eq_t (by decide)) ?_
  refine Go.iloadN X13 26 da_25 rfl ?_
  refine Go.if0N X13 29 da_26 (XT.i0_lt_f hz.1) ?_
  refine Go.iloadN X13 30 da_29 rfl ?_
  refine Go.ldcI X13 32 (hw _ (List.mem_of_getElem? (i := 52) rfl)) da_30 ?_
  refine Go.icmpY X13 49 da_32 (XT.ii_le_t hz.2) ?_
  refine Go.aloadN X13 50 da_49 rfl rfl ?_
  refine Go.aloadN X13 51 da_50 rfl rfl ?_
  refine Go.putF X13 54 (hw _ (List.mem_of_getElem? (i := 53) rfl)) F1 E (Or.inr ⟨(hw _ (List.mem_of_getElem? (i := 54) rfl)), rfl, rfl⟩) (hw _ (List.mem_of_getElem? (i := 36) rfl)) (ty := (.object "java/lang/String")) (by decide) rfl rfl na da_51 ?_
  intro T14 h14 X14 W14
  have K15 : Keep h0 h14 [a] := K11.wr W14 (Or.inl (List.mem_of_getElem? (i := 0) rfl))
  have F16 : Exa Z h14 a "com/example/peerloom/peerloom/api/Address" := E.wr W14
  have F17 : Fld Z h14 a "com/example/peerloom/peerloom/api/Address" "host" "Ljava/lang/String;" (.ref b) := F1.same W14
  have F18 : Fld Z h14 a "com/example/peerloom/peerloom/api/Address" "port" "I" (.int (0 : Int32)) := F2.other W14 (Or.inr (slot_ne (Or.inr (hw _ (List.mem_of_getElem? (i := 56) rfl))) (Or.inr (hw _ (List.mem_of_getElem? (i := 54) rfl))) (by decide) (t := .int) (t' := (.object "java/lang/String")) (by decide) (by decide)))
  refine Go.aloadN X14 55 da_54 rfl rfl ?_
  refine Go.iloadN X14 56 da_55 rfl ?_
  refine Go.putF X14 59 (hw _ (List.mem_of_getElem? (i := 55) rfl)) F18 F16 (Or.inr ⟨(hw _ (List.mem_of_getElem? (i := 56) rfl)), rfl, rfl⟩) (hw _ (List.mem_of_getElem? (i := 36) rfl)) (ty := .int) (by decide) rfl rfl na da_56 ?_
  intro T19 h19 X19 W19
  have K20 : Keep h0 h19 [a] := K15.wr W19 (Or.inl (List.mem_of_getElem? (i := 0) rfl))
  have F21 : Exa Z h19 a "com/example/peerloom/peerloom/api/Address" := F16.wr W19
  have F22 : Fld Z h19 a "com/example/peerloom/peerloom/api/Address" "host" "Ljava/lang/String;" (.ref b) := F17.other W19 (Or.inr (slot_ne (Or.inr (hw _ (List.mem_of_getElem? (i := 54) rfl))) (Or.inr (hw _ (List.mem_of_getElem? (i := 56) rfl))) (by decide) (t := (.object "java/lang/String")) (t' := .int) (by decide) (by decide)))
  have F23 : Fld Z h19 a "com/example/peerloom/peerloom/api/Address" "port" "I" (.int z) := F18.same W19
  exact Go.retV X19 rfl da_59 (X19.fin ⟨rfl, K20, F22, F23⟩ (by decide) (by decide))
theorem dq_0 : decode prog_3_method_2_code 0 = .ok (.aload_n 1, 1) := by decide +kernel
theorem dq_1 : decode prog_3_method_2_code 1 = .ok (.instanceof 26, 3) := by decide +kernel
theorem dq_4 : decode prog_3_method_2_code 4 = .ok (.ifCond .eq 37, 3) := by decide +kernel
theorem dq_7 : decode prog_3_method_2_code 7 = .ok (.aload_n 1, 1) := by decide +kernel
theorem dq_8 : decode prog_3_method_2_code 8 = .ok (.checkcast 26, 3) := by decide +kernel
theorem dq_11 : decode prog_3_method_2_code 11 = .ok (.astore_n 2, 1) := by decide +kernel
theorem dq_12 : decode prog_3_method_2_code 12 = .ok (.aload_n 0, 1) := by decide +kernel
theorem dq_13 : decode prog_3_method_2_code 13 = .ok (.getfield 31, 3) := by decide +kernel
theorem dq_16 : decode prog_3_method_2_code 16 = .ok (.aload_n 2, 1) := by decide +kernel
theorem dq_17 : decode prog_3_method_2_code 17 = .ok (.getfield 31, 3) := by decide +kernel
theorem dq_20 : decode prog_3_method_2_code 20 = .ok (.if_icmp .ne 21, 3) := by decide +kernel
theorem dq_23 : decode prog_3_method_2_code 23 = .ok (.aload_n 0, 1) := by decide +kernel
theorem dq_24 : decode prog_3_method_2_code 24 = .ok (.getfield 25, 3) := by decide +kernel
theorem dq_27 : decode prog_3_method_2_code 27 = .ok (.aload_n 2, 1) := by decide +kernel
theorem dq_28 : decode prog_3_method_2_code 28 = .ok (.getfield 25, 3) := by decide +kernel
theorem dq_31 : decode prog_3_method_2_code 31 = .ok (.invokevirtual 35, 3) := by decide +kernel
theorem dq_34 : decode prog_3_method_2_code 34 = .ok (.ifCond .eq 7, 3) := by decide +kernel
theorem dq_37 : decode prog_3_method_2_code 37 = .ok (.iconst 1, 1) := by decide +kernel
theorem dq_38 : decode prog_3_method_2_code 38 = .ok (.goto 4, 3) := by decide +kernel
theorem dq_41 : decode prog_3_method_2_code 41 = .ok (.iconst 0, 1) := by decide +kernel
theorem dq_42 : decode prog_3_method_2_code 42 = .ok (.ireturn, 1) := by decide +kernel
theorem ef_q (m : MethodId) (a : Addr) (b : Addr) : entryFrame m #[(.ref a), (.ref b)] 3 = mkF m 0 #[.val (.ref a), .val (.ref b), .unset] [] := by first | (simp [entryFrame, mkF, argsToLocals, Value.category]; done) | rfl
set_option maxRecDepth 65536 in
set_option maxHeartbeats 40000000 in
theorem rm_q (l : Launch) (Z : State) (a0 : Array Value) (hw : ∀ d ∈ tables_1, d.before a0 Z = true) (h0 : Heap) (cz : Int32) (SC : Sta Z Z.heap "java/lang/String" "COMPACT_STRINGS" "Z" (.int cz)) (hcz : ¬ cz = 0) (a b ha ta hb tb : Addr) (z z' : Int32) (n k : Nat) (f g : Nat → Int32) (E : Exa Z h0 a "com/example/peerloom/peerloom/api/Address") (F1 : Fld Z h0 a "com/example/peerloom/peerloom/api/Address" "host" "Ljava/lang/String;" (.ref ha)) (F2 : Fld Z h0 a "com/example/peerloom/peerloom/api/Address" "port" "I" (.int z)) (E' : Exa Z h0 b "com/example/peerloom/peerloom/api/Address") (G1 : Fld Z h0 b "com/example/peerloom/peerloom/api/Address" "host" "Ljava/lang/String;" (.ref hb)) (G2 : Fld Z h0 b "com/example/peerloom/peerloom/api/Address" "port" "I" (.int z')) (S : Str Z h0 ha ta n f) (S' : Str Z h0 hb tb k g) (hl : ∀ j, j < n → ¬ 255 < f j) (hl' : ∀ j, j < k → ¬ 255 < g j) (hab : ha = hb → ta = tb ∧ n = k ∧ ∀ j, j < n → f j = g j) :
    Ct l Z [] (⟨"com/example/peerloom/peerloom/api/Address", "equals", "(Ljava/lang/Object;)Z"⟩ : MethodName) prog_3_method_2_code 3 (some .boolean) (⟨2, 0, 0, 28⟩ : Room) #[(.ref a), (.ref b)] h0 (fun v h' => h' = h0 ∧ ((v = some (.int 1) ∧ z = z' ∧ n = k ∧ ∀ j, j < n → f j = g j) ∨ (v = some (.int 0) ∧ ¬ (z = z' ∧ n = k ∧ ∀ j, j < n → f j = g j)))) := by
  refine Ct.of pn_com_example_peerloom_peerloom_api_Address (fun m => ef_q m a b) ?_
  intro p e s m below meth c s₁ X0
  refine Go.aloadN X0 1 dq_0 rfl rfl ?_
  refine Go.instY X0 4 (hw _ (List.mem_of_getElem? (i := 62) rfl)) (Ins.self E') dq_1 ?_
  intro T1 X1
  refine Go.if0N X1 7 dq_4 (XT.i0_eq_f (by decide)) ?_
  refine Go.aloadN X1 8 dq_7 rfl rfl ?_
  refine Go.castY X1 11 (hw _ (List.mem_of_getElem? (i := 62) rfl)) (Ins.self E') dq_8 ?_
  intro T2 X2
  refine Go.astoreN X2 12 #[.val (.ref a), .val (.ref b), .val (.ref b)] dq_11 rfl rfl ?_
  refine Go.aloadN X2 13 dq_12 rfl rfl ?_
  refine Go.getF X2 16 (hw _ (List.mem_of_getElem? (i := 55) rfl)) F2 dq_13 ?_
  intro T3 X3
  refine Go.aloadN X3 17 dq_16 rfl rfl ?_
  refine Go.getF X3 20 (hw _ (List.mem_of_getElem? (i := 55) rfl)) G2 dq_17 ?_
  intro T4 X4
  by_cases c5 : z = z'
  · skip
    refine Go.icmpN X4 23 dq_20 (XT.ii_ne_f c5) ?_
    refine Go.aloadN X4 24 dq_23 rfl rfl ?_
    refine Go.getF X4 27 (hw _ (List.mem_of_getElem? (i := 53) rfl)) F1 dq_24 ?_
    intro T6 X6
    refine Go.aloadN X6 28 dq_27 rfl rfl ?_
    refine Go.getF X6 31 (hw _ (List.mem_of_getElem? (i := 53) rfl)) G1 dq_28 ?_
    intro T7 X7
    refine Go.callV X7 34 [(.ref hb)] [] 0 (hw _ (List.mem_of_getElem? (i := 64) rfl)) (hw _ (List.mem_of_getElem? (i := 65) rfl)) (hw _ (List.mem_of_getElem? (i := 67) rfl)) (notFace_of_selects (args := #[]) (mvT X7.hZ (hw _ (List.mem_of_getElem? (i := 67) rfl)))) (hw _ (List.mem_of_getElem? (i := 66) rfl)) (hw _ (List.mem_of_getElem? (i := 7) rfl)) (by decide) S.exa (hw _ (List.mem_of_getElem? (i := 68) rfl)) pd_8 dq_31 (rm_seq l Z a0 hw h0 cz SC hcz ha ta hb tb n k f g S S' hl hl' hab) rfl rfl rfl (Nat.le_of_eq rfl) (by decide) (by decide) (by decide) (by decide) ?_
    rintro T8 v8 L8 X8 ⟨hh, ⟨rfl, q1⟩ | ⟨rfl, q1⟩⟩
    · rw [hh] at X8
      show Go p e below _ T8 m 34 #[.val (.ref a), .val (.ref b), .val (.ref b)] [(.int (1 : Int32))]
      refine Go.if0N X8 37 dq_34 (XT.i0_eq_f (by decide)) ?_
      refine Go.iconst X8 38 (1 : Int32) dq_37 ?_
      refine Go.goto X8 42 dq_38 ?_
      exact Go.retI X8 rfl (by simp) rfl dq_42 (X8.fin ⟨rfl, Or.inl ⟨rfl, c5, q1⟩⟩ (by decide) (by decide))
    · rw [hh] at X8
      show Go p e below _ T8 m 34 #[.val (.ref a), .val (.ref b), .val (.ref b)] [(.int (0 : Int32))]
      refine Go.if0Y X8 41 dq_34 (XT.i0_eq_t (by decide)) ?_
      refine Go.iconst X8 42 (0 : Int32) dq_41 ?_
      exact Go.retI X8 rfl (by simp) rfl dq_42 (X8.fin ⟨rfl, Or.inr ⟨rfl, fun r => q1 r.2⟩⟩ (by decide) (by decide))
  · skip
    refine Go.icmpY X4 41 dq_20 (XT.ii_ne_t c5) ?_
    refine Go.iconst X4 42 (0 : Int32) dq_41 ?_
    exact Go.retI X4 rfl (by simp) rfl dq_42 (X4.fin ⟨rfl, Or.inr ⟨rfl, fun r => c5 r.1⟩⟩ (by decide) (by decide))

theorem ef_q1 (m : MethodId) (a : Addr) : entryFrame m #[(.ref a), .null] 3 = mkF m 0 #[.val (.ref a), .val .null, .unset] [] := by first | (simp [entryFrame, mkF, argsToLocals, Value.category]; done) | rfl
set_option maxRecDepth 65536 in
set_option maxHeartbeats 40000000 in
theorem rm_q1 (l : Launch) (Z : State) (a0 : Array Value) (hw : ∀ d ∈ tables_1, d.before a0 Z = true) (h0 : Heap) (a : Addr) :
    Ct l Z [] (⟨"com/example/peerloom/peerloom/api/Address", "equals", "(Ljava/lang/Object;)Z"⟩ : MethodName) prog_3_method_2_code 3 (some .boolean) (⟨0, 0, 0, 0⟩ : Room) #[(.ref a), .null] h0 (Pu h0 (.int 0)) := by
  refine Ct.of pn_com_example_peerloom_peerloom_api_Address (fun m => ef_q1 m a) ?_
  intro p e s m below meth c s₁ X0
  refine Go.aloadN X0 1 dq_0 rfl rfl ?_
  refine Go.instNull X0 4 dq_1 ?_
  refine Go.if0Y X0 41 dq_4 (XT.i0_eq_t (by decide)) ?_
  refine Go.iconst X0 42 (0 : Int32) dq_41 ?_
  exact Go.retI X0 rfl (by simp) rfl dq_42 (X0.fin ⟨rfl, rfl⟩ (by decide) (by decide))
set_option maxRecDepth 65536 in
set_option maxHeartbeats 40000000 in
theorem rm_q2 (l : Launch) (Z : State) (a0 : Array Value) (hw : ∀ d ∈ tables_1, d.before a0 Z = true) (h0 : Heap) (a b : Addr) (E : Exa Z h0 b "java/lang/String") :
    Ct l Z [] (⟨"com/example/peerloom/peerloom/api/Address", "equals", "(Ljava/lang/Object;)Z"⟩ : MethodName) prog_3_method_2_code 3 (some .boolean) (⟨0, 0, 0, 0⟩ : Room) #[(.ref a), (.ref b)] h0 (Pu h0 (.int 0)) := by
  refine Ct.of pn_com_example_peerloom_peerloom_api_Address (fun m => ef_q m a b) ?_
  intro p e s m below meth c s₁ X0
  refine Go.aloadN X0 1 dq_0 rfl rfl ?_
  refine Go.instNo X0 4 (hw _ (List.mem_of_getElem? (i := 62) rfl)) E (own_noSub (hw _ (List.mem_of_getElem? (i := 74) rfl)) (hw _ (List.mem_of_getElem? (i := 36) rfl)) (hw _ (List.mem_of_getElem? (i := 75) rfl)) (by decide) (by decide)) dq_1 ?_
  intro T1 X1
  refine Go.if0Y X1 41 dq_4 (XT.i0_eq_t (by decide)) ?_
  refine Go.iconst X1 42 (0 : Int32) dq_41 ?_
  exact Go.retI X1 rfl (by simp) rfl dq_42 (X1.fin ⟨rfl, rfl⟩ (by decide) (by decide))
theorem ef_l (m : MethodId) (q0 : Int32) (q1 : Int32) (q2 : Int32) (q3 : Int32) (q4 : Int32) : entryFrame m #[(.int q0), (.int q1), (.int q2), (.int q3), (.int q4)] maxLocals = mkF m 0 #[.val (.int q0), .val (.int q1), .val (.int q2), .val (.int q3), .val (.int q4), .unset, .unset, .unset, .unset, .unset, .unset, .unset, .unset, .unset, .unset, .unset, .unset, .unset, .unset] [] := by first | (simp [entryFrame, mkF, argsToLocals, Value.category, maxLocals]; done) | rfl
set_option maxRecDepth 65536 in
set_option maxHeartbeats 40000000 in
theorem rm_l (l : Launch) (Z : State) (a0 : Array Value) (hw : ∀ d ∈ tables_1, d.before a0 Z = true) (h0 : Heap) (cz : Int32) (SC : Sta Z Z.heap "java/lang/String" "COMPACT_STRINGS" "Z" (.int cz)) (hcz : ¬ cz = 0) (q0 q1 q2 q3 q4 : Int32) :
    Ct l Z tables_1 x code maxLocals ret room_1 #[(.int q0), (.int q1), (.int q2), (.int q3), (.int q4)] h0 (fun v _ => v = some (.int 1)) := by
  refine Ct.of pn_com_example_peerloom_peerloom_api_AddressEqualsPinLaw (fun m => ef_l m q0 q1 q2 q3 q4) ?_
  intro p e s m below meth c s₁ X0
  refine Go.iload X0 2 at_0 rfl ?_
  refine Go.iconst X0 3 (1 : Int32) at_2 ?_
  refine Go.iand X0 4 at_3 ?_
  refine Go.join X0 (α := Int32) (fun q hJ => h0 = hJ ∧ (q = 0 ∨ q = 1)) 12 (fun q => #[.val (.int q0), .val (.int q1), .val (.int q2), .val (.int q3), .val (.int q4), .unset, .unset, .unset, .unset, .unset, .unset, .unset, .unset, .unset, .unset, .unset, .unset, .unset, .unset]) (fun q => [(.int q)]) 0 0 ?_ ?_
  · rintro T1 L1 h1 d1 X1 hp1
    replace hp1 : h0 = h1 ∧ (d1 = 0 ∨ d1 = 1) := hp1
    show Go p e below _ T1 m 12 #[.val (.int q0), .val (.int q1), .val (.int q2), .val (.int q3), .val (.int q4), .unset, .unset, .unset, .unset, .unset, .unset, .unset, .unset, .unset, .unset, .unset, .unset, .unset, .unset] [(.int d1)]
    obtain ⟨he, hd1⟩ := hp1
    subst he
    refine Go.istore X1 14 #[.val (.int q0), .val (.int q1), .val (.int q2), .val (.int q3), .val (.int q4), .val (.int d1), .unset, .unset, .unset, .unset, .unset, .unset, .unset, .unset, .unset, .unset, .unset, .unset, .unset] at_12 rfl ?_
    refine Go.iload X1 16 at_14 rfl ?_
    refine Go.iconst X1 17 (2 : Int32) at_16 ?_
    refine Go.iand X1 18 at_17 ?_
    refine Go.join X1 (α := Int32) (fun q hJ => h0 = hJ ∧ (q = 0 ∨ q = 1)) 26 (fun q => #[.val (.int q0), .val (.int q1), .val (.int q2), .val (.int q3), .val (.int q4), .val (.int d1), .unset, .unset, .unset, .unset, .unset, .unset, .unset, .unset, .unset, .unset, .unset, .unset, .unset]) (fun q => [(.int q)]) 0 0 ?_ ?_
    · rintro T2 L2 h2 d2 X2 hp2
      replace hp2 : h0 = h2 ∧ (d2 = 0 ∨ d2 = 1) := hp2
      show Go p e below _ T2 m 26 #[.val (.int q0), .val (.int q1), .val (.int q2), .val (.int q3), .val (.int q4), .val (.int d1), .unset, .unset, .unset, .unset, .unset, .unset, .unset, .unset, .unset, .unset, .unset, .unset, .unset] [(.int d2)]
      obtain ⟨he, hd2⟩ := hp2
      subst he
      refine Go.istore X2 28 #[.val (.int q0), .val (.int q1), .val (.int q2), .val (.int q3), .val (.int q4), .val (.int d1), .val (.int d2), .unset, .unset, .unset, .unset, .unset, .unset, .unset, .unset, .unset, .unset, .unset, .unset] at_26 rfl ?_
      refine Go.iloadN X2 29 at_28 rfl ?_
      refine Go.sipush X2 32 (255 : Int32) at_29 ?_
      refine Go.iand X2 33 at_32 ?_
      refine Go.i2c X2 34 at_33 ?_
      rw [i2c_mask q0]
      have rx0 := own_255 q0
      generalize (q0 &&& (255 : Int32)) = x0 at rx0 ⊢
      refine Go.istore X2 36 #[.val (.int q0), .val (.int q1), .val (.int q2), .val (.int q3), .val (.int q4), .val (.int d1), .val (.int d2), .val (.int x0), .unset, .unset, .unset, .unset, .unset, .unset, .unset, .unset, .unset, .unset, .unset] at_34 rfl ?_
      refine Go.iloadN X2 37 at_36 rfl ?_
      refine Go.bipush X2 39 (8 : Int32) at_37 ?_
      refine Go.iushr X2 40 at_39 ?_
      refine Go.sipush X2 43 (255 : Int32) at_40 ?_
      refine Go.iand X2 44 at_43 ?_
      refine Go.i2c X2 45 at_44 ?_
      rw [i2c_mask (XT.ushr q0 (8 : Int32))]
      have rx1 := own_255 (XT.ushr q0 (8 : Int32))
      generalize ((XT.ushr q0 (8 : Int32)) &&& (255 : Int32)) = x1 at rx1 ⊢
      refine Go.istore X2 47 #[.val (.int q0), .val (.int q1), .val (.int q2), .val (.int q3), .val (.int q4), .val (.int d1), .val (.int d2), .val (.int x0), .val (.int x1), .unset, .unset, .unset, .unset, .unset, .unset, .unset, .unset, .unset, .unset] at_45 rfl ?_
      refine Go.iload X2 49 at_47 rfl ?_
      refine Go.iconst X2 50 (4 : Int32) at_49 ?_
      refine Go.iand X2 51 at_50 ?_
      refine Go.join X2 (α := Int32) (fun q hJ => h0 = hJ ∧ (0 ≤ q.toInt ∧ ¬ 255 < q)) 65 (fun q => #[.val (.int q0), .val (.int q1), .val (.int q2), .val (.int q3), .val (.int q4), .val (.int d1), .val (.int d2), .val (.int x0), .val (.int x1), .unset, .unset, .unset, .unset, .unset, .unset, .unset, .unset, .unset, .unset]) (fun q => [(.int q)]) 0 0 ?_ ?_
      · rintro T3 L3 h3 y0 X3 hp3
        replace hp3 : h0 = h3 ∧ (0 ≤ y0.toInt ∧ ¬ 255 < y0) := hp3
        show Go p e below _ T3 m 65 #[.val (.int q0), .val (.int q1), .val (.int q2), .val (.int q3), .val (.int q4), .val (.int d1), .val (.int d2), .val (.int x0), .val (.int x1), .unset, .unset, .unset, .unset, .unset, .unset, .unset, .unset, .unset, .unset] [(.int y0)]
        obtain ⟨he, ry0⟩ := hp3
        subst he
        refine Go.istore X3 67 #[.val (.int q0), .val (.int q1), .val (.int q2), .val (.int q3), .val (.int q4), .val (.int d1), .val (.int d2), .val (.int x0), .val (.int x1), .val (.int y0), .unset, .unset, .unset, .unset, .unset, .unset, .unset, .unset, .unset] at_65 rfl ?_
        refine Go.iload X3 69 at_67 rfl ?_
        refine Go.bipush X3 71 (8 : Int32) at_69 ?_
        refine Go.iand X3 72 at_71 ?_
        refine Go.join X3 (α := Int32) (fun q hJ => h0 = hJ ∧ (0 ≤ q.toInt ∧ ¬ 255 < q)) 89 (fun q => #[.val (.int q0), .val (.int q1), .val (.int q2), .val (.int q3), .val (.int q4), .val (.int d1), .val (.int d2), .val (.int x0), .val (.int x1), .val (.int y0), .unset, .unset, .unset, .unset, .unset, .unset, .unset, .unset, .unset]) (fun q => [(.int q)]) 0 0 ?_ ?_
        · rintro T4 L4 h4 y1 X4 hp4
          replace hp4 : h0 = h4 ∧ (0 ≤ y1.toInt ∧ ¬ 255 < y1) := hp4
          show Go p e below _ T4 m 89 #[.val (.int q0), .val (.int q1), .val (.int q2), .val (.int q3), .val (.int q4), .val (.int d1), .val (.int d2), .val (.int x0), .val (.int x1), .val (.int y0), .unset, .unset, .unset, .unset, .unset, .unset, .unset, .unset, .unset] [(.int y1)]
          obtain ⟨he, ry1⟩ := hp4
          subst he
          refine Go.istore X4 91 #[.val (.int q0), .val (.int q1), .val (.int q2), .val (.int q3), .val (.int q4), .val (.int d1), .val (.int d2), .val (.int x0), .val (.int x1), .val (.int y0), .val (.int y1), .unset, .unset, .unset, .unset, .unset, .unset, .unset, .unset] at_89 rfl ?_
          refine Go.iloadN X4 92 at_91 rfl ?_
          refine Go.ldcI X4 94 (hw _ (List.mem_of_getElem? (i := 0) rfl)) at_92 ?_
          refine Go.iand X4 95 at_94 ?_
          have rz0 := own_65535 q2
          generalize (q2 &&& (65535 : Int32)) = z0 at rz0 ⊢
          refine Go.istore X4 97 #[.val (.int q0), .val (.int q1), .val (.int q2), .val (.int q3), .val (.int q4), .val (.int d1), .val (.int d2), .val (.int x0), .val (.int x1), .val (.int y0), .val (.int y1), .val (.int z0), .unset, .unset, .unset, .unset, .unset, .unset, .unset] at_95 rfl ?_
          refine Go.iload X4 99 at_97 rfl ?_
          refine Go.bipush X4 101 (16 : Int32) at_99 ?_
          refine Go.iand X4 102 at_101 ?_
          refine Go.join X4 (α := Int32) (fun q hJ => h0 = hJ ∧ (¬ q < 0 ∧ ¬ 65535 < q)) 114 (fun q => #[.val (.int q0), .val (.int q1), .val (.int q2), .val (.int q3), .val (.int q4), .val (.int d1), .val (.int d2), .val (.int x0), .val (.int x1), .val (.int y0), .val (.int y1), .val (.int z0), .unset, .unset, .unset, .unset, .unset, .unset, .unset]) (fun q => [(.int q)]) 0 0 ?_ ?_
          · rintro T5 L5 h5 z1 X5 hp5
            replace hp5 : h0 = h5 ∧ (¬ z1 < 0 ∧ ¬ 65535 < z1) := hp5
            show Go p e below _ T5 m 114 #[.val (.int q0), .val (.int q1), .val (.int q2), .val (.int q3), .val (.int q4), .val (.int d1), .val (.int d2), .val (.int x0), .val (.int x1), .val (.int y0), .val (.int y1), .val (.int z0), .unset, .unset, .unset, .unset, .unset, .unset, .unset] [(.int z1)]
            obtain ⟨he, rz1⟩ := hp5
            subst he
            refine Go.istore X5 116 #[.val (.int q0), .val (.int q1), .val (.int q2), .val (.int q3), .val (.int q4), .val (.int d1), .val (.int d2), .val (.int x0), .val (.int x1), .val (.int y0), .val (.int y1), .val (.int z0), .val (.int z1), .unset, .unset, .unset, .unset, .unset, .unset] at_114 rfl ?_
            refine Go.iload X5 118 at_116 rfl ?_
            refine Go.iconst X5 119 (5 : Int32) at_118 ?_
            refine Go.iushr X5 120 at_119 ?_
            refine Go.iconst X5 121 (3 : Int32) at_120 ?_
            refine Go.iand X5 122 at_121 ?_
            rcases own_k4 (XT.ushr q4 (5 : Int32)) with hk | hk | hk | hk
            · rw [hk]
              refine Go.istore X5 124 #[.val (.int q0), .val (.int q1), .val (.int q2), .val (.int q3), .val (.int q4), .val (.int d1), .val (.int d2), .val (.int x0), .val (.int x1), .val (.int y0), .val (.int y1), .val (.int z0), .val (.int z1), .val (.int (0 : Int32)), .unset, .unset, .unset, .unset, .unset] at_122 rfl ?_
              refine Go.iload X5 126 at_124 rfl ?_
              refine Go.iload X5 128 at_126 rfl ?_
              refine Go.iload X5 130 at_128 rfl ?_
              refine Go.callS X5 133 [(.int d1), (.int x0), (.int x1)] [] 0 (hw _ (List.mem_of_getElem? (i := 1) rfl)) (hw _ (List.mem_of_getElem? (i := 2) rfl)) (hw _ (List.mem_of_getElem? (i := 3) rfl)) (by decide) (hw _ (List.mem_of_getElem? (i := 4) rfl)) pd_9 at_130 (rm_t l Z a0 hw h0 cz SC hcz d1 x0 x1 hd1 rx0 rx1) rfl rfl rfl (Nat.le_of_eq rfl) (by decide) (by decide) (by decide) (by decide) ?_
              rintro T6 v6 L6 X6 ⟨s0, ts0, rfl, Ks0, gs0, gts0, Ss0⟩
              show Go p e below _ T6 m 133 #[.val (.int q0), .val (.int q1), .val (.int q2), .val (.int q3), .val (.int q4), .val (.int d1), .val (.int d2), .val (.int x0), .val (.int x1), .val (.int y0), .val (.int y1), .val (.int z0), .val (.int z1), .val (.int (0 : Int32)), .unset, .unset, .unset, .unset, .unset] [(.ref s0)]
              have nw_s0 : Z.heap.size ≤ s0 := Nat.le_trans X5.le gs0
              have nw_ts0 : Z.heap.size ≤ ts0 := Nat.le_trans X5.le gts0
              refine Go.astore X6 135 #[.val (.int q0), .val (.int q1), .val (.int q2), .val (.int q3), .val (.int q4), .val (.int d1), .val (.int d2), .val (.int x0), .val (.int x1), .val (.int y0), .val (.int y1), .val (.int z0), .val (.int z1), .val (.int (0 : Int32)), .val (.ref s0), .unset, .unset, .unset, .unset] at_133 rfl rfl ?_
              refine Go.iload X6 137 at_135 rfl ?_
              refine Go.iload X6 139 at_137 rfl ?_
              refine Go.iload X6 141 at_139 rfl ?_
              refine Go.callS X6 144 [(.int d2), (.int y0), (.int y1)] [] 0 (hw _ (List.mem_of_getElem? (i := 1) rfl)) (hw _ (List.mem_of_getElem? (i := 2) rfl)) (hw _ (List.mem_of_getElem? (i := 3) rfl)) (by decide) (hw _ (List.mem_of_getElem? (i := 4) rfl)) pd_9 at_141 (rm_t l Z a0 hw T6.heap cz SC hcz d2 y0 y1 hd2 ry0 ry1) rfl rfl rfl (Nat.le_of_eq rfl) (by decide) (by decide) (by decide) (by decide) ?_
              rintro T7 v7 L7 X7 ⟨s1, ts1, rfl, Ks1, gs1, gts1, Ss1⟩
              show Go p e below _ T7 m 144 #[.val (.int q0), .val (.int q1), .val (.int q2), .val (.int q3), .val (.int q4), .val (.int d1), .val (.int d2), .val (.int x0), .val (.int x1), .val (.int y0), .val (.int y1), .val (.int z0), .val (.int z1), .val (.int (0 : Int32)), .val (.ref s0), .unset, .unset, .unset, .unset] [(.ref s1)]
              have nw_s1 : Z.heap.size ≤ s1 := Nat.le_trans X6.le gs1
              have ne_s0_s1 : s0 ≠ s1 := Nat.ne_of_lt (Nat.lt_of_lt_of_le Ss0.lt gs1)
              have ne_ts0_s1 : ts0 ≠ s1 := Nat.ne_of_lt (Nat.lt_of_lt_of_le Ss0.ltT gs1)
              have nw_ts1 : Z.heap.size ≤ ts1 := Nat.le_trans X6.le gts1
              have ne_s0_ts1 : s0 ≠ ts1 := Nat.ne_of_lt (Nat.lt_of_lt_of_le Ss0.lt gts1)
              have ne_ts0_ts1 : ts0 ≠ ts1 := Nat.ne_of_lt (Nat.lt_of_lt_of_le Ss0.ltT gts1)
              have F8 : Str Z T7.heap s0 ts0 (own_n d1) (own_f x0 x1) := Ss0.keep Ks1 nin0 nin0
              refine Go.astore X7 146 #[.val (.int q0), .val (.int q1), .val (.int q2), .val (.int q3), .val (.int q4), .val (.int d1), .val (.int d2), .val (.int x0), .val (.int x1), .val (.int y0), .val (.int y1), .val (.int z0), .val (.int z1), .val (.int (0 : Int32)), .val (.ref s0), .val (.ref s1), .unset, .unset, .unset] at_144 rfl rfl ?_
              refine Go.newO X7 149 (hw _ (List.mem_of_getElem? (i := 35) rfl)) (hw _ (List.mem_of_getElem? (i := 36) rfl)) (hw _ (List.mem_of_getElem? (i := 37) rfl)) at_146 (by decide) (by decide) ?_
              intro T9 h9 a9 X9 E9 g9 A9 D9
              have nw_a9 : Z.heap.size ≤ a9 := by rw [← g9]; exact X7.le
              have ne_s0_a9 : s0 ≠ a9 := by rw [← g9]; exact Nat.ne_of_lt F8.lt
              have ne_ts0_a9 : ts0 ≠ a9 := by rw [← g9]; exact Nat.ne_of_lt F8.ltT
              have ne_s1_a9 : s1 ≠ a9 := by rw [← g9]; exact Nat.ne_of_lt Ss1.lt
              have ne_ts1_a9 : ts1 ≠ a9 := by rw [← g9]; exact Nat.ne_of_lt Ss1.ltT
              have F10 : Str Z h9 s0 ts0 (own_n d1) (own_f x0 x1) := F8.ext E9
              have F11 : Str Z h9 s1 ts1 (own_n d2) (own_f y0 y1) := Ss1.ext E9
              have F12 : Fld Z h9 a9 "com/example/peerloom/peerloom/api/Address" "host" "Ljava/lang/String;" .null := D9 (Or.inr (hw _ (List.mem_of_getElem? (i := 54) rfl))) (ty := (.object "java/lang/String")) (by decide)
              have F13 : Fld Z h9 a9 "com/example/peerloom/peerloom/api/Address" "port" "I" (.int (0 : Int32)) := D9 (Or.inr (hw _ (List.mem_of_getElem? (i := 56) rfl))) (ty := .int) (by decide)
              refine Go.dup X9 150 at_149 rfl ?_
              refine Go.aload X9 152 at_150 rfl rfl ?_
              refine Go.iload X9 154 at_152 rfl ?_
              refine Go.callI X9 157 [(.ref s0), (.int z0)] [(.ref a9)] 1 rfl (hw _ (List.mem_of_getElem? (i := 38) rfl)) (hw _ (List.mem_of_getElem? (i := 39) rfl)) (hw _ (List.mem_of_getElem? (i := 37) rfl)) (by decide) rfl (hw _ (List.mem_of_getElem? (i := 40) rfl)) pd_10 at_154 (rm_a l Z a0 hw h9 a9 s0 ts0 z0 _ _ (own_n0 hd1).1 A9 F12 F13 nw_a9 F10 rz0) rfl rfl rfl (Nat.le_of_eq rfl) (by decide) (by decide) (by decide) (by decide) ?_
              rintro T17 v17 L17 X17 ⟨rfl, K14, G15, H16⟩
              show Go p e below _ T17 m 157 #[.val (.int q0), .val (.int q1), .val (.int q2), .val (.int q3), .val (.int q4), .val (.int d1), .val (.int d2), .val (.int x0), .val (.int x1), .val (.int y0), .val (.int y1), .val (.int z0), .val (.int z1), .val (.int (0 : Int32)), .val (.ref s0), .val (.ref s1), .unset, .unset, .unset] [(.ref a9)]
              have F18 : Str Z T17.heap s0 ts0 (own_n d1) (own_f x0 x1) := F10.keep K14 (ninS ne_s0_a9 nin0) (ninS ne_ts0_a9 nin0)
              have F19 : Str Z T17.heap s1 ts1 (own_n d2) (own_f y0 y1) := F11.keep K14 (ninS ne_s1_a9 nin0) (ninS ne_ts1_a9 nin0)
              have F20 : Exa Z T17.heap a9 "com/example/peerloom/peerloom/api/Address" := A9.keep K14
              refine Go.astore X17 159 #[.val (.int q0), .val (.int q1), .val (.int q2), .val (.int q3), .val (.int q4), .val (.int d1), .val (.int d2), .val (.int x0), .val (.int x1), .val (.int y0), .val (.int y1), .val (.int z0), .val (.int z1), .val (.int (0 : Int32)), .val (.ref s0), .val (.ref s1), .val (.ref a9), .unset, .unset] at_157 rfl rfl ?_
              refine Go.iload X17 161 at_159 rfl ?_
              refine Go.if0N X17 164 at_161 (XT.i0_ne_f (by decide)) ?_
              refine Go.newO X17 167 (hw _ (List.mem_of_getElem? (i := 35) rfl)) (hw _ (List.mem_of_getElem? (i := 36) rfl)) (hw _ (List.mem_of_getElem? (i := 37) rfl)) at_164 (by decide) (by decide) ?_
              intro T21 h21 a21 X21 E21 g21 A21 D21
              have nw_a21 : Z.heap.size ≤ a21 := by rw [← g21]; exact X17.le
              have ne_s0_a21 : s0 ≠ a21 := by rw [← g21]; exact Nat.ne_of_lt F18.lt
              have ne_ts0_a21 : ts0 ≠ a21 := by rw [← g21]; exact Nat.ne_of_lt F18.ltT
              have ne_s1_a21 : s1 ≠ a21 := by rw [← g21]; exact Nat.ne_of_lt F19.lt
              have ne_ts1_a21 : ts1 ≠ a21 := by rw [← g21]; exact Nat.ne_of_lt F19.ltT
              have ne_a9_a21 : a9 ≠ a21 := by rw [← g21]; exact Nat.ne_of_lt F20.lt
              have F22 : Str Z h21 s0 ts0 (own_n d1) (own_f x0 x1) := F18.ext E21
              have F23 : Str Z h21 s1 ts1 (own_n d2) (own_f y0 y1) := F19.ext E21
              have F24 : Exa Z h21 a9 "com/example/peerloom/peerloom/api/Address" := F20.ext E21
              have F25 : Fld Z h21 a9 "com/example/peerloom/peerloom/api/Address" "host" "Ljava/lang/String;" (.ref s0) := G15.ext E21
              have F26 : Fld Z h21 a9 "com/example/peerloom/peerloom/api/Address" "port" "I" (.int z0) := H16.ext E21
              have F27 : Fld Z h21 a21 "com/example/peerloom/peerloom/api/Address" "host" "Ljava/lang/String;" .null := D21 (Or.inr (hw _ (List.mem_of_getElem? (i := 54) rfl))) (ty := (.object "java/lang/String")) (by decide)
              have F28 : Fld Z h21 a21 "com/example/peerloom/peerloom/api/Address" "port" "I" (.int (0 : Int32)) := D21 (Or.inr (hw _ (List.mem_of_getElem? (i := 56) rfl))) (ty := .int) (by decide)
              refine Go.dup X21 168 at_167 rfl ?_
              refine Go.aload X21 170 at_168 rfl rfl ?_
              refine Go.iload X21 172 at_170 rfl ?_
              refine Go.callI X21 175 [(.ref s1), (.int z1)] [(.ref a21)] 1 rfl (hw _ (List.mem_of_getElem? (i := 38) rfl)) (hw _ (List.mem_of_getElem? (i := 39) rfl)) (hw _ (List.mem_of_getElem? (i := 37) rfl)) (by decide) rfl (hw _ (List.mem_of_getElem? (i := 40) rfl)) pd_10 at_172 (rm_a l Z a0 hw h21 a21 s1 ts1 z1 _ _ (own_n0 hd2).1 A21 F27 F28 nw_a21 F23 rz1) rfl rfl rfl (Nat.le_of_eq rfl) (by decide) (by decide) (by decide) (by decide) ?_
              rintro T32 v32 L32 X32 ⟨rfl, K29, G30, H31⟩
              show Go p e below _ T32 m 175 #[.val (.int q0), .val (.int q1), .val (.int q2), .val (.int q3), .val (.int q4), .val (.int d1), .val (.int d2), .val (.int x0), .val (.int x1), .val (.int y0), .val (.int y1), .val (.int z0), .val (.int z1), .val (.int (0 : Int32)), .val (.ref s0), .val (.ref s1), .val (.ref a9), .unset, .unset] [(.ref a21)]
              have F33 : Str Z T32.heap s0 ts0 (own_n d1) (own_f x0 x1) := F22.keep K29 (ninS ne_s0_a21 nin0) (ninS ne_ts0_a21 nin0)
              have F34 : Str Z T32.heap s1 ts1 (own_n d2) (own_f y0 y1) := F23.keep K29 (ninS ne_s1_a21 nin0) (ninS ne_ts1_a21 nin0)
              have F35 : Exa Z T32.heap a9 "com/example/peerloom/peerloom/api/Address" := F24.keep K29
              have F36 : Fld Z T32.heap a9 "com/example/peerloom/peerloom/api/Address" "host" "Ljava/lang/String;" (.ref s0) := F25.keep K29 (ninS ne_a9_a21 nin0)
              have F37 : Fld Z T32.heap a9 "com/example/peerloom/peerloom/api/Address" "port" "I" (.int z0) := F26.keep K29 (ninS ne_a9_a21 nin0)
              have F38 : Exa Z T32.heap a21 "com/example/peerloom/peerloom/api/Address" := A21.keep K29
              refine Go.astore X32 177 #[.val (.int q0), .val (.int q1), .val (.int q2), .val (.int q3), .val (.int q4), .val (.int d1), .val (.int d2), .val (.int x0), .val (.int x1), .val (.int y0), .val (.int y1), .val (.int z0), .val (.int z1), .val (.int (0 : Int32)), .val (.ref s0), .val (.ref s1), .val (.ref a9), .val (.ref a21), .unset] at_175 rfl rfl ?_
              refine Go.goto X32 209 at_177 ?_
              refine Go.join X32 (α := Int32) (fun q hJ => T32.heap = hJ ∧ ((q = 1 ∧ (z0 = z1 ∧ d1 = d2 ∧ x0 = y0 ∧ (d1 = 0 ∨ x1 = y1))) ∨ (q = 0 ∧ ¬ (z0 = z1 ∧ d1 = d2 ∧ x0 = y0 ∧ (d1 = 0 ∨ x1 = y1))))) 252 (fun q => #[.val (.int q0), .val (.int q1), .val (.int q2), .val (.int q3), .val (.int q4), .val (.int d1), .val (.int d2), .val (.int x0), .val (.int x1), .val (.int y0), .val (.int y1), .val (.int z0), .val (.int z1), .val (.int (0 : Int32)), .val (.ref s0), .val (.ref s1), .val (.ref a9), .val (.ref a21), .unset]) (fun q => [(.int q)]) 8 20 ?_ ?_
              · rintro T39 L39 h39 E0 X39 hp39
                replace hp39 : T32.heap = h39 ∧ ((E0 = 1 ∧ (z0 = z1 ∧ d1 = d2 ∧ x0 = y0 ∧ (d1 = 0 ∨ x1 = y1))) ∨ (E0 = 0 ∧ ¬ (z0 = z1 ∧ d1 = d2 ∧ x0 = y0 ∧ (d1 = 0 ∨ x1 = y1)))) := hp39
                show Go p e below _ T39 m 252 #[.val (.int q0), .val (.int q1), .val (.int q2), .val (.int q3), .val (.int q4), .val (.int d1), .val (.int d2), .val (.int x0), .val (.int x1), .val (.int y0), .val (.int y1), .val (.int z0), .val (.int z1), .val (.int (0 : Int32)), .val (.ref s0), .val (.ref s1), .val (.ref a9), .val (.ref a21), .unset] [(.int E0)]
                obtain ⟨he, hE⟩ := hp39
                subst he
                refine Go.istore X39 254 #[.val (.int q0), .val (.int q1), .val (.int q2), .val (.int q3), .val (.int q4), .val (.int d1), .val (.int d2), .val (.int x0), .val (.int x1), .val (.int y0), .val (.int y1), .val (.int z0), .val (.int z1), .val (.int (0 : Int32)), .val (.ref s0), .val (.ref s1), .val (.ref a9), .val (.ref a21), .val (.int E0)] at_252 rfl ?_
                refine Go.goto X39 270 at_254 ?_
                refine Go.aload X39 272 at_270 rfl rfl ?_
                refine Go.aload X39 274 at_272 rfl rfl ?_
                refine Go.callV X39 277 [(.ref a21)] [] 0 (hw _ (List.mem_of_getElem? (i := 57) rfl)) (hw _ (List.mem_of_getElem? (i := 58) rfl)) (hw _ (List.mem_of_getElem? (i := 60) rfl)) (notFace_of_selects (args := #[]) (mvT X39.hZ (hw _ (List.mem_of_getElem? (i := 60) rfl)))) (hw _ (List.mem_of_getElem? (i := 59) rfl)) (hw _ (List.mem_of_getElem? (i := 37) rfl)) (by decide) F35 (hw _ (List.mem_of_getElem? (i := 61) rfl)) pd_8 at_274 (rm_q l Z a0 hw T32.heap cz SC hcz a9 a21 s0 ts0 s1 ts1 z0 z1 (own_n d1) (own_n d2) (own_f x0 x1) (own_f y0 y1) F35 F36 F37 F38 G30 H31 F33 F34 (fun j _ => (own_fr rx0 rx1 j).2) (fun j _ => (own_fr ry0 ry1 j).2) (fun q => absurd q ne_s0_s1)) rfl rfl rfl (Nat.le_of_eq rfl) (by decide) (by decide) (by decide) (by decide) ?_
                rintro T40 v40 L40 X40 ⟨hh, ⟨rfl, rr⟩ | ⟨rfl, rr⟩⟩
                · rw [hh] at X40
                  rcases hE with ⟨rfl, hC⟩ | ⟨rfl, hC⟩
                  · skip
                    show Go p e below _ T40 m 277 #[.val (.int q0), .val (.int q1), .val (.int q2), .val (.int q3), .val (.int q4), .val (.int d1), .val (.int d2), .val (.int x0), .val (.int x1), .val (.int y0), .val (.int y1), .val (.int z0), .val (.int z1), .val (.int (0 : Int32)), .val (.ref s0), .val (.ref s1), .val (.ref a9), .val (.ref a21), .val (.int (1 : Int32))] [(.int (1 : Int32))]
                    refine Go.iload X40 279 at_277 rfl ?_
                    refine Go.icmpN X40 282 at_279 (XT.ii_ne_f (by decide)) ?_
                    refine Go.iconst X40 283 (1 : Int32) at_282 ?_
                    refine Go.goto X40 287 at_283 ?_
                    exact Go.retI X40 rfl (by simp) rfl at_287 (X40.fin rfl (by decide) (by decide))
                  · skip
                    exact absurd ⟨rr.1, (own_iff hd1 hd2).mp rr.2⟩ hC
                · rw [hh] at X40
                  rcases hE with ⟨rfl, hC⟩ | ⟨rfl, hC⟩
                  · skip
                    exact absurd ⟨hC.1, (own_iff hd1 hd2).mpr hC.2⟩ rr
                  · skip
                    show Go p e below _ T40 m 277 #[.val (.int q0), .val (.int q1), .val (.int q2), .val (.int q3), .val (.int q4), .val (.int d1), .val (.int d2), .val (.int x0), .val (.int x1), .val (.int y0), .val (.int y1), .val (.int z0), .val (.int z1), .val (.int (0 : Int32)), .val (.ref s0), .val (.ref s1), .val (.ref a9), .val (.ref a21), .val (.int (0 : Int32))] [(.int (0 : Int32))]
                    refine Go.iload X40 279 at_277 rfl ?_
                    refine Go.icmpN X40 282 at_279 (XT.ii_ne_f (by decide)) ?_
                    refine Go.iconst X40 283 (1 : Int32) at_282 ?_
                    refine Go.goto X40 287 at_283 ?_
                    exact Go.retI X40 rfl (by simp) rfl at_287 (X40.fin rfl (by decide) (by decide))
              · intro J39
                refine Go.iload X32 211 at_209 rfl ?_
                refine Go.if0N X32 214 at_211 (XT.i0_ne_f (by decide)) ?_
                refine Go.iload X32 216 at_214 rfl ?_
                refine Go.iload X32 218 at_216 rfl ?_
                by_cases c41 : z0 = z1
                · skip
                  refine Go.icmpN X32 221 at_218 (XT.ii_ne_f c41) ?_
                  refine Go.iload X32 223 at_221 rfl ?_
                  refine Go.iload X32 225 at_223 rfl ?_
                  by_cases c42 : d1 = d2
                  · skip
                    refine Go.icmpN X32 228 at_225 (XT.ii_ne_f c42) ?_
                    refine Go.iload X32 230 at_228 rfl ?_
                    refine Go.iload X32 232 at_230 rfl ?_
                    by_cases c43 : x0 = y0
                    · skip
                      refine Go.icmpN X32 235 at_232 (XT.ii_ne_f c43) ?_
                      refine Go.iload X32 237 at_235 rfl ?_
                      by_cases c44 : d1 = 0
                      · skip
                        refine Go.if0Y X32 247 at_237 (XT.i0_eq_t c44) ?_
                        refine Go.iconst X32 248 (1 : Int32) at_247 ?_
                        refine Go.goto X32 252 at_248 ?_
                        exact J39 _ _ _ (1 : Int32) X32 ⟨rfl, by first | (left; exact ⟨rfl, by simp_all⟩) | (right; exact ⟨rfl, by simp_all⟩)⟩
                      · skip
                        refine Go.if0N X32 240 at_237 (XT.i0_eq_f c44) ?_
                        refine Go.iload X32 242 at_240 rfl ?_
                        refine Go.iload X32 244 at_242 rfl ?_
                        by_cases c45 : x1 = y1
                        · skip
                          refine Go.icmpN X32 247 at_244 (XT.ii_ne_f c45) ?_
                          refine Go.iconst X32 248 (1 : Int32) at_247 ?_
                          refine Go.goto X32 252 at_248 ?_
                          exact J39 _ _ _ (1 : Int32) X32 ⟨rfl, by first | (left; exact ⟨rfl, by simp_all⟩) | (right; exact ⟨rfl, by simp_all⟩)⟩
                        · skip
                          refine Go.icmpY X32 251 at_244 (XT.ii_ne_t c45) ?_
                          refine Go.iconst X32 252 (0 : Int32) at_251 ?_
                          exact J39 _ _ _ (0 : Int32) X32 ⟨rfl, by first | (left; exact ⟨rfl, by simp_all⟩) | (right; exact ⟨rfl, by simp_all⟩)⟩
                    · skip
                      refine Go.icmpY X32 251 at_232 (XT.ii_ne_t c43) ?_
                      refine Go.iconst X32 252 (0 : Int32) at_251 ?_
                      exact J39 _ _ _ (0 : Int32) X32 ⟨rfl, by first | (left; exact ⟨rfl, by simp_all⟩) | (right; exact ⟨rfl, by simp_all⟩)⟩
                  · skip
                    refine Go.icmpY X32 251 at_225 (XT.ii_ne_t c42) ?_
                    refine Go.iconst X32 252 (0 : Int32) at_251 ?_
                    exact J39 _ _ _ (0 : Int32) X32 ⟨rfl, by first | (left; exact ⟨rfl, by simp_all⟩) | (right; exact ⟨rfl, by simp_all⟩)⟩
                · skip
                  refine Go.icmpY X32 251 at_218 (XT.ii_ne_t c41) ?_
                  refine Go.iconst X32 252 (0 : Int32) at_251 ?_
                  exact J39 _ _ _ (0 : Int32) X32 ⟨rfl, by first | (left; exact ⟨rfl, by simp_all⟩) | (right; exact ⟨rfl, by simp_all⟩)⟩
            · rw [hk]
              refine Go.istore X5 124 #[.val (.int q0), .val (.int q1), .val (.int q2), .val (.int q3), .val (.int q4), .val (.int d1), .val (.int d2), .val (.int x0), .val (.int x1), .val (.int y0), .val (.int y1), .val (.int z0), .val (.int z1), .val (.int (1 : Int32)), .unset, .unset, .unset, .unset, .unset] at_122 rfl ?_
              refine Go.iload X5 126 at_124 rfl ?_
              refine Go.iload X5 128 at_126 rfl ?_
              refine Go.iload X5 130 at_128 rfl ?_
              refine Go.callS X5 133 [(.int d1), (.int x0), (.int x1)] [] 0 (hw _ (List.mem_of_getElem? (i := 1) rfl)) (hw _ (List.mem_of_getElem? (i := 2) rfl)) (hw _ (List.mem_of_getElem? (i := 3) rfl)) (by decide) (hw _ (List.mem_of_getElem? (i := 4) rfl)) pd_9 at_130 (rm_t l Z a0 hw h0 cz SC hcz d1 x0 x1 hd1 rx0 rx1) rfl rfl rfl (Nat.le_of_eq rfl) (by decide) (by decide) (by decide) (by decide) ?_
              rintro T46 v46 L46 X46 ⟨s0, ts0, rfl, Ks0, gs0, gts0, Ss0⟩
              show Go p e below _ T46 m 133 #[.val (.int q0), .val (.int q1), .val (.int q2), .val (.int q3), .val (.int q4), .val (.int d1), .val (.int d2), .val (.int x0), .val (.int x1), .val (.int y0), .val (.int y1), .val (.int z0), .val (.int z1), .val (.int (1 : Int32)), .unset, .unset, .unset, .unset, .unset] [(.ref s0)]
              have nw_s0 : Z.heap.size ≤ s0 := Nat.le_trans X5.le gs0
              have nw_ts0 : Z.heap.size ≤ ts0 := Nat.le_trans X5.le gts0
              refine Go.astore X46 135 #[.val (.int q0), .val (.int q1), .val (.int q2), .val (.int q3), .val (.int q4), .val (.int d1), .val (.int d2), .val (.int x0), .val (.int x1), .val (.int y0), .val (.int y1), .val (.int z0), .val (.int z1), .val (.int (1 : Int32)), .val (.ref s0), .unset, .unset, .unset, .unset] at_133 rfl rfl ?_
              refine Go.iload X46 137 at_135 rfl ?_
              refine Go.iload X46 139 at_137 rfl ?_
              refine Go.iload X46 141 at_139 rfl ?_
              refine Go.callS X46 144 [(.int d2), (.int y0), (.int y1)] [] 0 (hw _ (List.mem_of_getElem? (i := 1) rfl)) (hw _ (List.mem_of_getElem? (i := 2) rfl)) (hw _ (List.mem_of_getElem? (i := 3) rfl)) (by decide) (hw _ (List.mem_of_getElem? (i := 4) rfl)) pd_9 at_141 (rm_t l Z a0 hw T46.heap cz SC hcz d2 y0 y1 hd2 ry0 ry1) rfl rfl rfl (Nat.le_of_eq rfl) (by decide) (by decide) (by decide) (by decide) ?_
              rintro T47 v47 L47 X47 ⟨s1, ts1, rfl, Ks1, gs1, gts1, Ss1⟩
              show Go p e below _ T47 m 144 #[.val (.int q0), .val (.int q1), .val (.int q2), .val (.int q3), .val (.int q4), .val (.int d1), .val (.int d2), .val (.int x0), .val (.int x1), .val (.int y0), .val (.int y1), .val (.int z0), .val (.int z1), .val (.int (1 : Int32)), .val (.ref s0), .unset, .unset, .unset, .unset] [(.ref s1)]
              have nw_s1 : Z.heap.size ≤ s1 := Nat.le_trans X46.le gs1
              have ne_s0_s1 : s0 ≠ s1 := Nat.ne_of_lt (Nat.lt_of_lt_of_le Ss0.lt gs1)
              have ne_ts0_s1 : ts0 ≠ s1 := Nat.ne_of_lt (Nat.lt_of_lt_of_le Ss0.ltT gs1)
              have nw_ts1 : Z.heap.size ≤ ts1 := Nat.le_trans X46.le gts1
              have ne_s0_ts1 : s0 ≠ ts1 := Nat.ne_of_lt (Nat.lt_of_lt_of_le Ss0.lt gts1)
              have ne_ts0_ts1 : ts0 ≠ ts1 := Nat.ne_of_lt (Nat.lt_of_lt_of_le Ss0.ltT gts1)
              have F48 : Str Z T47.heap s0 ts0 (own_n d1) (own_f x0 x1) := Ss0.keep Ks1 nin0 nin0
              refine Go.astore X47 146 #[.val (.int q0), .val (.int q1), .val (.int q2), .val (.int q3), .val (.int q4), .val (.int d1), .val (.int d2), .val (.int x0), .val (.int x1), .val (.int y0), .val (.int y1), .val (.int z0), .val (.int z1), .val (.int (1 : Int32)), .val (.ref s0), .val (.ref s1), .unset, .unset, .unset] at_144 rfl rfl ?_
              refine Go.newO X47 149 (hw _ (List.mem_of_getElem? (i := 35) rfl)) (hw _ (List.mem_of_getElem? (i := 36) rfl)) (hw _ (List.mem_of_getElem? (i := 37) rfl)) at_146 (by decide) (by decide) ?_
              intro T49 h49 a49 X49 E49 g49 A49 D49
              have nw_a49 : Z.heap.size ≤ a49 := by rw [← g49]; exact X47.le
              have ne_s0_a49 : s0 ≠ a49 := by rw [← g49]; exact Nat.ne_of_lt F48.lt
              have ne_ts0_a49 : ts0 ≠ a49 := by rw [← g49]; exact Nat.ne_of_lt F48.ltT
              have ne_s1_a49 : s1 ≠ a49 := by rw [← g49]; exact Nat.ne_of_lt Ss1.lt
              have ne_ts1_a49 : ts1 ≠ a49 := by rw [← g49]; exact Nat.ne_of_lt Ss1.ltT
              have F50 : Str Z h49 s0 ts0 (own_n d1) (own_f x0 x1) := F48.ext E49
              have F51 : Str Z h49 s1 ts1 (own_n d2) (own_f y0 y1) := Ss1.ext E49
              have F52 : Fld Z h49 a49 "com/example/peerloom/peerloom/api/Address" "host" "Ljava/lang/String;" .null := D49 (Or.inr (hw _ (List.mem_of_getElem? (i := 54) rfl))) (ty := (.object "java/lang/String")) (by decide)
              have F53 : Fld Z h49 a49 "com/example/peerloom/peerloom/api/Address" "port" "I" (.int (0 : Int32)) := D49 (Or.inr (hw _ (List.mem_of_getElem? (i := 56) rfl))) (ty := .int) (by decide)
              refine Go.dup X49 150 at_149 rfl ?_
              refine Go.aload X49 152 at_150 rfl rfl ?_
              refine Go.iload X49 154 at_152 rfl ?_
              refine Go.callI X49 157 [(.ref s0), (.int z0)] [(.ref a49)] 1 rfl (hw _ (List.mem_of_getElem? (i := 38) rfl)) (hw _ (List.mem_of_getElem? (i := 39) rfl)) (hw _ (List.mem_of_getElem? (i := 37) rfl)) (by decide) rfl (hw _ (List.mem_of_getElem? (i := 40) rfl)) pd_10 at_154 (rm_a l Z a0 hw h49 a49 s0 ts0 z0 _ _ (own_n0 hd1).1 A49 F52 F53 nw_a49 F50 rz0) rfl rfl rfl (Nat.le_of_eq rfl) (by decide) (by decide) (by decide) (by decide) ?_
              rintro T57 v57 L57 X57 ⟨rfl, K54, G55, H56⟩
              show Go p e below _ T57 m 157 #[.val (.int q0), .val (.int q1), .val (.int q2), .val (.int q3), .val (.int q4), .val (.int d1), .val (.int d2), .val (.int x0), .val (.int x1), .val (.int y0), .val (.int y1), .val (.int z0), .val (.int z1), .val (.int (1 : Int32)), .val (.ref s0), .val (.ref s1), .unset, .unset, .unset] [(.ref a49)]
              have F58 : Str Z T57.heap s0 ts0 (own_n d1) (own_f x0 x1) := F50.keep K54 (ninS ne_s0_a49 nin0) (ninS ne_ts0_a49 nin0)
              have F59 : Str Z T57.heap s1 ts1 (own_n d2) (own_f y0 y1) := F51.keep K54 (ninS ne_s1_a49 nin0) (ninS ne_ts1_a49 nin0)
              have F60 : Exa Z T57.heap a49 "com/example/peerloom/peerloom/api/Address" := A49.keep K54
              refine Go.astore X57 159 #[.val (.int q0), .val (.int q1), .val (.int q2), .val (.int q3), .val (.int q4), .val (.int d1), .val (.int d2), .val (.int x0), .val (.int x1), .val (.int y0), .val (.int y1), .val (.int z0), .val (.int z1), .val (.int (1 : Int32)), .val (.ref s0), .val (.ref s1), .val (.ref a49), .unset, .unset] at_157 rfl rfl ?_
              refine Go.iload X57 161 at_159 rfl ?_
              refine Go.if0Y X57 180 at_161 (XT.i0_ne_t (by decide)) ?_
              refine Go.iload X57 182 at_180 rfl ?_
              refine Go.iconst X57 183 (1 : Int32) at_182 ?_
              refine Go.icmpN X57 186 at_183 (XT.ii_ne_f (by decide)) ?_
              refine Go.aconst_null X57 187 at_186 ?_
              refine Go.astore X57 189 #[.val (.int q0), .val (.int q1), .val (.int q2), .val (.int q3), .val (.int q4), .val (.int d1), .val (.int d2), .val (.int x0), .val (.int x1), .val (.int y0), .val (.int y1), .val (.int z0), .val (.int z1), .val (.int (1 : Int32)), .val (.ref s0), .val (.ref s1), .val (.ref a49), .val .null, .unset] at_187 rfl rfl ?_
              refine Go.goto X57 209 at_189 ?_
              refine Go.iload X57 211 at_209 rfl ?_
              refine Go.if0Y X57 257 at_211 (XT.i0_ne_t (by decide)) ?_
              refine Go.iload X57 259 at_257 rfl ?_
              refine Go.iconst X57 260 (3 : Int32) at_259 ?_
              refine Go.icmpY X57 267 at_260 (XT.ii_ne_t (by decide)) ?_
              refine Go.iconst X57 268 (0 : Int32) at_267 ?_
              refine Go.istore X57 270 #[.val (.int q0), .val (.int q1), .val (.int q2), .val (.int q3), .val (.int q4), .val (.int d1), .val (.int d2), .val (.int x0), .val (.int x1), .val (.int y0), .val (.int y1), .val (.int z0), .val (.int z1), .val (.int (1 : Int32)), .val (.ref s0), .val (.ref s1), .val (.ref a49), .val .null, .val (.int (0 : Int32))] at_268 rfl ?_
              refine Go.aload X57 272 at_270 rfl rfl ?_
              refine Go.aload X57 274 at_272 rfl rfl ?_
              refine Go.callVP X57 277 [.null] [] 0 (hw _ (List.mem_of_getElem? (i := 57) rfl)) (hw _ (List.mem_of_getElem? (i := 58) rfl)) (hw _ (List.mem_of_getElem? (i := 60) rfl)) (notFace_of_selects (args := #[]) (mvT X57.hZ (hw _ (List.mem_of_getElem? (i := 60) rfl)))) (hw _ (List.mem_of_getElem? (i := 59) rfl)) (hw _ (List.mem_of_getElem? (i := 37) rfl)) (by decide) F60 (hw _ (List.mem_of_getElem? (i := 61) rfl)) pd_8 at_274 (rm_q1 l Z a0 hw T57.heap a49) rfl rfl rfl (Nat.le_of_eq rfl) (by decide) (by decide) (by decide) (by decide) ?_
              intro T61 L61 X61
              refine Go.iload X61 279 at_277 rfl ?_
              refine Go.icmpN X61 282 at_279 (XT.ii_ne_f (by decide)) ?_
              refine Go.iconst X61 283 (1 : Int32) at_282 ?_
              refine Go.goto X61 287 at_283 ?_
              exact Go.retI X61 rfl (by simp) rfl at_287 (X61.fin rfl (by decide) (by decide))
            · rw [hk]
              refine Go.istore X5 124 #[.val (.int q0), .val (.int q1), .val (.int q2), .val (.int q3), .val (.int q4), .val (.int d1), .val (.int d2), .val (.int x0), .val (.int x1), .val (.int y0), .val (.int y1), .val (.int z0), .val (.int z1), .val (.int (2 : Int32)), .unset, .unset, .unset, .unset, .unset] at_122 rfl ?_
              refine Go.iload X5 126 at_124 rfl ?_
              refine Go.iload X5 128 at_126 rfl ?_
              refine Go.iload X5 130 at_128 rfl ?_
              refine Go.callS X5 133 [(.int d1), (.int x0), (.int x1)] [] 0 (hw _ (List.mem_of_getElem? (i := 1) rfl)) (hw _ (List.mem_of_getElem? (i := 2) rfl)) (hw _ (List.mem_of_getElem? (i := 3) rfl)) (by decide) (hw _ (List.mem_of_getElem? (i := 4) rfl)) pd_9 at_130 (rm_t l Z a0 hw h0 cz SC hcz d1 x0 x1 hd1 rx0 rx1) rfl rfl rfl (Nat.le_of_eq rfl) (by decide) (by decide) (by decide) (by decide) ?_
              rintro T62 v62 L62 X62 ⟨s0, ts0, rfl, Ks0, gs0, gts0, Ss0⟩
              show Go p e below _ T62 m 133 #[.val (.int q0), .val (.int q1), .val (.int q2), .val (.int q3), .val (.int q4), .val (.int d1), .val (.int d2), .val (.int x0), .val (.int x1), .val (.int y0), .val (.int y1), .val (.int z0), .val (.int z1), .val (.int (2 : Int32)), .unset, .unset, .unset, .unset, .unset] [(.ref s0)]
              have nw_s0 : Z.heap.size ≤ s0 := Nat.le_trans X5.le gs0
              have nw_ts0 : Z.heap.size ≤ ts0 := Nat.le_trans X5.le gts0
              refine Go.astore X62 135 #[.val (.int q0), .val (.int q1), .val (.int q2), .val (.int q3), .val (.int q4), .val (.int d1), .val (.int d2), .val (.int x0), .val (.int x1), .val (.int y0), .val (.int y1), .val (.int z0), .val (.int z1), .val (.int (2 : Int32)), .val (.ref s0), .unset, .unset, .unset, .unset] at_133 rfl rfl ?_
              refine Go.iload X62 137 at_135 rfl ?_
              refine Go.iload X62 139 at_137 rfl ?_
              refine Go.iload X62 141 at_139 rfl ?_
              refine Go.callS X62 144 [(.int d2), (.int y0), (.int y1)] [] 0 (hw _ (List.mem_of_getElem? (i := 1) rfl)) (hw _ (List.mem_of_getElem? (i := 2) rfl)) (hw _ (List.mem_of_getElem? (i := 3) rfl)) (by decide) (hw _ (List.mem_of_getElem? (i := 4) rfl)) pd_9 at_141 (rm_t l Z a0 hw T62.heap cz SC hcz d2 y0 y1 hd2 ry0 ry1) rfl rfl rfl (Nat.le_of_eq rfl) (by decide) (by decide) (by decide) (by decide) ?_
              rintro T63 v63 L63 X63 ⟨s1, ts1, rfl, Ks1, gs1, gts1, Ss1⟩
              show Go p e below _ T63 m 144 #[.val (.int q0), .val (.int q1), .val (.int q2), .val (.int q3), .val (.int q4), .val (.int d1), .val (.int d2), .val (.int x0), .val (.int x1), .val (.int y0), .val (.int y1), .val (.int z0), .val (.int z1), .val (.int (2 : Int32)), .val (.ref s0), .unset, .unset, .unset, .unset] [(.ref s1)]
              have nw_s1 : Z.heap.size ≤ s1 := Nat.le_trans X62.le gs1
              have ne_s0_s1 : s0 ≠ s1 := Nat.ne_of_lt (Nat.lt_of_lt_of_le Ss0.lt gs1)
              have ne_ts0_s1 : ts0 ≠ s1 := Nat.ne_of_lt (Nat.lt_of_lt_of_le Ss0.ltT gs1)
              have nw_ts1 : Z.heap.size ≤ ts1 := Nat.le_trans X62.le gts1
              have ne_s0_ts1 : s0 ≠ ts1 := Nat.ne_of_lt (Nat.lt_of_lt_of_le Ss0.lt gts1)
              have ne_ts0_ts1 : ts0 ≠ ts1 := Nat.ne_of_lt (Nat.lt_of_lt_of_le Ss0.ltT gts1)
              have F64 : Str Z T63.heap s0 ts0 (own_n d1) (own_f x0 x1) := Ss0.keep Ks1 nin0 nin0
              refine Go.astore X63 146 #[.val (.int q0), .val (.int q1), .val (.int q2), .val (.int q3), .val (.int q4), .val (.int d1), .val (.int d2), .val (.int x0), .val (.int x1), .val (.int y0), .val (.int y1), .val (.int z0), .val (.int z1), .val (.int (2 : Int32)), .val (.ref s0), .val (.ref s1), .unset, .unset, .unset] at_144 rfl rfl ?_
              refine Go.newO X63 149 (hw _ (List.mem_of_getElem? (i := 35) rfl)) (hw _ (List.mem_of_getElem? (i := 36) rfl)) (hw _ (List.mem_of_getElem? (i := 37) rfl)) at_146 (by decide) (by decide) ?_
              intro T65 h65 a65 X65 E65 g65 A65 D65
              have nw_a65 : Z.heap.size ≤ a65 := by rw [← g65]; exact X63.le
              have ne_s0_a65 : s0 ≠ a65 := by rw [← g65]; exact Nat.ne_of_lt F64.lt
              have ne_ts0_a65 : ts0 ≠ a65 := by rw [← g65]; exact Nat.ne_of_lt F64.ltT
              have ne_s1_a65 : s1 ≠ a65 := by rw [← g65]; exact Nat.ne_of_lt Ss1.lt
              have ne_ts1_a65 : ts1 ≠ a65 := by rw [← g65]; exact Nat.ne_of_lt Ss1.ltT
              have F66 : Str Z h65 s0 ts0 (own_n d1) (own_f x0 x1) := F64.ext E65
              have F67 : Str Z h65 s1 ts1 (own_n d2) (own_f y0 y1) := Ss1.ext E65
              have F68 : Fld Z h65 a65 "com/example/peerloom/peerloom/api/Address" "host" "Ljava/lang/String;" .null := D65 (Or.inr (hw _ (List.mem_of_getElem? (i := 54) rfl))) (ty := (.object "java/lang/String")) (by decide)
              have F69 : Fld Z h65 a65 "com/example/peerloom/peerloom/api/Address" "port" "I" (.int (0 : Int32)) := D65 (Or.inr (hw _ (List.mem_of_getElem? (i := 56) rfl))) (ty := .int) (by decide)
              refine Go.dup X65 150 at_149 rfl ?_
              refine Go.aload X65 152 at_150 rfl rfl ?_
              refine Go.iload X65 154 at_152 rfl ?_
              refine Go.callI X65 157 [(.ref s0), (.int z0)] [(.ref a65)] 1 rfl (hw _ (List.mem_of_getElem? (i := 38) rfl)) (hw _ (List.mem_of_getElem? (i := 39) rfl)) (hw _ (List.mem_of_getElem? (i := 37) rfl)) (by decide) rfl (hw _ (List.mem_of_getElem? (i := 40) rfl)) pd_10 at_154 (rm_a l Z a0 hw h65 a65 s0 ts0 z0 _ _ (own_n0 hd1).1 A65 F68 F69 nw_a65 F66 rz0) rfl rfl rfl (Nat.le_of_eq rfl) (by decide) (by decide) (by decide) (by decide) ?_
              rintro T73 v73 L73 X73 ⟨rfl, K70, G71, H72⟩
              show Go p e below _ T73 m 157 #[.val (.int q0), .val (.int q1), .val (.int q2), .val (.int q3), .val (.int q4), .val (.int d1), .val (.int d2), .val (.int x0), .val (.int x1), .val (.int y0), .val (.int y1), .val (.int z0), .val (.int z1), .val (.int (2 : Int32)), .val (.ref s0), .val (.ref s1), .unset, .unset, .unset] [(.ref a65)]
              have F74 : Str Z T73.heap s0 ts0 (own_n d1) (own_f x0 x1) := F66.keep K70 (ninS ne_s0_a65 nin0) (ninS ne_ts0_a65 nin0)
              have F75 : Str Z T73.heap s1 ts1 (own_n d2) (own_f y0 y1) := F67.keep K70 (ninS ne_s1_a65 nin0) (ninS ne_ts1_a65 nin0)
              have F76 : Exa Z T73.heap a65 "com/example/peerloom/peerloom/api/Address" := A65.keep K70
              refine Go.astore X73 159 #[.val (.int q0), .val (.int q1), .val (.int q2), .val (.int q3), .val (.int q4), .val (.int d1), .val (.int d2), .val (.int x0), .val (.int x1), .val (.int y0), .val (.int y1), .val (.int z0), .val (.int z1), .val (.int (2 : Int32)), .val (.ref s0), .val (.ref s1), .val (.ref a65), .unset, .unset] at_157 rfl rfl ?_
              refine Go.iload X73 161 at_159 rfl ?_
              refine Go.if0Y X73 180 at_161 (XT.i0_ne_t (by decide)) ?_
              refine Go.iload X73 182 at_180 rfl ?_
              refine Go.iconst X73 183 (1 : Int32) at_182 ?_
              refine Go.icmpY X73 192 at_183 (XT.ii_ne_t (by decide)) ?_
              refine Go.iload X73 194 at_192 rfl ?_
              refine Go.iconst X73 195 (2 : Int32) at_194 ?_
              refine Go.icmpN X73 198 at_195 (XT.ii_ne_f (by decide)) ?_
              refine Go.aload X73 200 at_198 rfl rfl ?_
              refine Go.astore X73 202 #[.val (.int q0), .val (.int q1), .val (.int q2), .val (.int q3), .val (.int q4), .val (.int d1), .val (.int d2), .val (.int x0), .val (.int x1), .val (.int y0), .val (.int y1), .val (.int z0), .val (.int z1), .val (.int (2 : Int32)), .val (.ref s0), .val (.ref s1), .val (.ref a65), .val (.ref s1), .unset] at_200 rfl rfl ?_
              refine Go.goto X73 209 at_202 ?_
              refine Go.iload X73 211 at_209 rfl ?_
              refine Go.if0Y X73 257 at_211 (XT.i0_ne_t (by decide)) ?_
              refine Go.iload X73 259 at_257 rfl ?_
              refine Go.iconst X73 260 (3 : Int32) at_259 ?_
              refine Go.icmpY X73 267 at_260 (XT.ii_ne_t (by decide)) ?_
              refine Go.iconst X73 268 (0 : Int32) at_267 ?_
              refine Go.istore X73 270 #[.val (.int q0), .val (.int q1), .val (.int q2), .val (.int q3), .val (.int q4), .val (.int d1), .val (.int d2), .val (.int x0), .val (.int x1), .val (.int y0), .val (.int y1), .val (.int z0), .val (.int z1), .val (.int (2 : Int32)), .val (.ref s0), .val (.ref s1), .val (.ref a65), .val (.ref s1), .val (.int (0 : Int32))] at_268 rfl ?_
              refine Go.aload X73 272 at_270 rfl rfl ?_
              refine Go.aload X73 274 at_272 rfl rfl ?_
              refine Go.callVP X73 277 [(.ref s1)] [] 0 (hw _ (List.mem_of_getElem? (i := 57) rfl)) (hw _ (List.mem_of_getElem? (i := 58) rfl)) (hw _ (List.mem_of_getElem? (i := 60) rfl)) (notFace_of_selects (args := #[]) (mvT X73.hZ (hw _ (List.mem_of_getElem? (i := 60) rfl)))) (hw _ (List.mem_of_getElem? (i := 59) rfl)) (hw _ (List.mem_of_getElem? (i := 37) rfl)) (by decide) F76 (hw _ (List.mem_of_getElem? (i := 61) rfl)) pd_8 at_274 (rm_q2 l Z a0 hw T73.heap a65 s1 F75.exa) rfl rfl rfl (Nat.le_of_eq rfl) (by decide) (by decide) (by decide) (by decide) ?_
              intro T77 L77 X77
              refine Go.iload X77 279 at_277 rfl ?_
              refine Go.icmpN X77 282 at_279 (XT.ii_ne_f (by decide)) ?_
              refine Go.iconst X77 283 (1 : Int32) at_282 ?_
              refine Go.goto X77 287 at_283 ?_
              exact Go.retI X77 rfl (by simp) rfl at_287 (X77.fin rfl (by decide) (by decide))
            · rw [hk]
              refine Go.istore X5 124 #[.val (.int q0), .val (.int q1), .val (.int q2), .val (.int q3), .val (.int q4), .val (.int d1), .val (.int d2), .val (.int x0), .val (.int x1), .val (.int y0), .val (.int y1), .val (.int z0), .val (.int z1), .val (.int (3 : Int32)), .unset, .unset, .unset, .unset, .unset] at_122 rfl ?_
              refine Go.iload X5 126 at_124 rfl ?_
              refine Go.iload X5 128 at_126 rfl ?_
              refine Go.iload X5 130 at_128 rfl ?_
              refine Go.callS X5 133 [(.int d1), (.int x0), (.int x1)] [] 0 (hw _ (List.mem_of_getElem? (i := 1) rfl)) (hw _ (List.mem_of_getElem? (i := 2) rfl)) (hw _ (List.mem_of_getElem? (i := 3) rfl)) (by decide) (hw _ (List.mem_of_getElem? (i := 4) rfl)) pd_9 at_130 (rm_t l Z a0 hw h0 cz SC hcz d1 x0 x1 hd1 rx0 rx1) rfl rfl rfl (Nat.le_of_eq rfl) (by decide) (by decide) (by decide) (by decide) ?_
              rintro T78 v78 L78 X78 ⟨s0, ts0, rfl, Ks0, gs0, gts0, Ss0⟩
              show Go p e below _ T78 m 133 #[.val (.int q0), .val (.int q1), .val (.int q2), .val (.int q3), .val (.int q4), .val (.int d1), .val (.int d2), .val (.int x0), .val (.int x1), .val (.int y0), .val (.int y1), .val (.int z0), .val (.int z1), .val (.int (3 : Int32)), .unset, .unset, .unset, .unset, .unset] [(.ref s0)]
              have nw_s0 : Z.heap.size ≤ s0 := Nat.le_trans X5.le gs0
              have nw_ts0 : Z.heap.size ≤ ts0 := Nat.le_trans X5.le gts0
              refine Go.astore X78 135 #[.val (.int q0), .val (.int q1), .val (.int q2), .val (.int q3), .val (.int q4), .val (.int d1), .val (.int d2), .val (.int x0), .val (.int x1), .val (.int y0), .val (.int y1), .val (.int z0), .val (.int z1), .val (.int (3 : Int32)), .val (.ref s0), .unset, .unset, .unset, .unset] at_133 rfl rfl ?_
              refine Go.iload X78 137 at_135 rfl ?_
              refine Go.iload X78 139 at_137 rfl ?_
              refine Go.iload X78 141 at_139 rfl ?_
              refine Go.callS X78 144 [(.int d2), (.int y0), (.int y1)] [] 0 (hw _ (List.mem_of_getElem? (i := 1) rfl)) (hw _ (List.mem_of_getElem? (i := 2) rfl)) (hw _ (List.mem_of_getElem? (i := 3) rfl)) (by decide) (hw _ (List.mem_of_getElem? (i := 4) rfl)) pd_9 at_141 (rm_t l Z a0 hw T78.heap cz SC hcz d2 y0 y1 hd2 ry0 ry1) rfl rfl rfl (Nat.le_of_eq rfl) (by decide) (by decide) (by decide) (by decide) ?_
              rintro T79 v79 L79 X79 ⟨s1, ts1, rfl, Ks1, gs1, gts1, Ss1⟩
              show Go p e below _ T79 m 144 #[.val (.int q0), .val (.int q1), .val (.int q2), .val (.int q3), .val (.int q4), .val (.int d1), .val (.int d2), .val (.int x0), .val (.int x1), .val (.int y0), .val (.int y1), .val (.int z0), .val (.int z1), .val (.int (3 : Int32)), .val (.ref s0), .unset, .unset, .unset, .unset] [(.ref s1)]
              have nw_s1 : Z.heap.size ≤ s1 := Nat.le_trans X78.le gs1
              have ne_s0_s1 : s0 ≠ s1 := Nat.ne_of_lt (Nat.lt_of_lt_of_le Ss0.lt gs1)
              have ne_ts0_s1 : ts0 ≠ s1 := Nat.ne_of_lt (Nat.lt_of_lt_of_le Ss0.ltT gs1)
              have nw_ts1 : Z.heap.size ≤ ts1 := Nat.le_trans X78.le gts1
              have ne_s0_ts1 : s0 ≠ ts1 := Nat.ne_of_lt (Nat.lt_of_lt_of_le Ss0.lt gts1)
              have ne_ts0_ts1 : ts0 ≠ ts1 := Nat.ne_of_lt (Nat.lt_of_lt_of_le Ss0.ltT gts1)
              have F80 : Str Z T79.heap s0 ts0 (own_n d1) (own_f x0 x1) := Ss0.keep Ks1 nin0 nin0
              refine Go.astore X79 146 #[.val (.int q0), .val (.int q1), .val (.int q2), .val (.int q3), .val (.int q4), .val (.int d1), .val (.int d2), .val (.int x0), .val (.int x1), .val (.int y0), .val (.int y1), .val (.int z0), .val (.int z1), .val (.int (3 : Int32)), .val (.ref s0), .val (.ref s1), .unset, .unset, .unset] at_144 rfl rfl ?_
              refine Go.newO X79 149 (hw _ (List.mem_of_getElem? (i := 35) rfl)) (hw _ (List.mem_of_getElem? (i := 36) rfl)) (hw _ (List.mem_of_getElem? (i := 37) rfl)) at_146 (by decide) (by decide) ?_
              intro T81 h81 a81 X81 E81 g81 A81 D81
              have nw_a81 : Z.heap.size ≤ a81 := by rw [← g81]; exact X79.le
              have ne_s0_a81 : s0 ≠ a81 := by rw [← g81]; exact Nat.ne_of_lt F80.lt
              have ne_ts0_a81 : ts0 ≠ a81 := by rw [← g81]; exact Nat.ne_of_lt F80.ltT
              have ne_s1_a81 : s1 ≠ a81 := by rw [← g81]; exact Nat.ne_of_lt Ss1.lt
              have ne_ts1_a81 : ts1 ≠ a81 := by rw [← g81]; exact Nat.ne_of_lt Ss1.ltT
              have F82 : Str Z h81 s0 ts0 (own_n d1) (own_f x0 x1) := F80.ext E81
              have F83 : Str Z h81 s1 ts1 (own_n d2) (own_f y0 y1) := Ss1.ext E81
              have F84 : Fld Z h81 a81 "com/example/peerloom/peerloom/api/Address" "host" "Ljava/lang/String;" .null := D81 (Or.inr (hw _ (List.mem_of_getElem? (i := 54) rfl))) (ty := (.object "java/lang/String")) (by decide)
              have F85 : Fld Z h81 a81 "com/example/peerloom/peerloom/api/Address" "port" "I" (.int (0 : Int32)) := D81 (Or.inr (hw _ (List.mem_of_getElem? (i := 56) rfl))) (ty := .int) (by decide)
              refine Go.dup X81 150 at_149 rfl ?_
              refine Go.aload X81 152 at_150 rfl rfl ?_
              refine Go.iload X81 154 at_152 rfl ?_
              refine Go.callI X81 157 [(.ref s0), (.int z0)] [(.ref a81)] 1 rfl (hw _ (List.mem_of_getElem? (i := 38) rfl)) (hw _ (List.mem_of_getElem? (i := 39) rfl)) (hw _ (List.mem_of_getElem? (i := 37) rfl)) (by decide) rfl (hw _ (List.mem_of_getElem? (i := 40) rfl)) pd_10 at_154 (rm_a l Z a0 hw h81 a81 s0 ts0 z0 _ _ (own_n0 hd1).1 A81 F84 F85 nw_a81 F82 rz0) rfl rfl rfl (Nat.le_of_eq rfl) (by decide) (by decide) (by decide) (by decide) ?_
              rintro T89 v89 L89 X89 ⟨rfl, K86, G87, H88⟩
              show Go p e below _ T89 m 157 #[.val (.int q0), .val (.int q1), .val (.int q2), .val (.int q3), .val (.int q4), .val (.int d1), .val (.int d2), .val (.int x0), .val (.int x1), .val (.int y0), .val (.int y1), .val (.int z0), .val (.int z1), .val (.int (3 : Int32)), .val (.ref s0), .val (.ref s1), .unset, .unset, .unset] [(.ref a81)]
              have F90 : Str Z T89.heap s0 ts0 (own_n d1) (own_f x0 x1) := F82.keep K86 (ninS ne_s0_a81 nin0) (ninS ne_ts0_a81 nin0)
              have F91 : Str Z T89.heap s1 ts1 (own_n d2) (own_f y0 y1) := F83.keep K86 (ninS ne_s1_a81 nin0) (ninS ne_ts1_a81 nin0)
              have F92 : Exa Z T89.heap a81 "com/example/peerloom/peerloom/api/Address" := A81.keep K86
              refine Go.astore X89 159 #[.val (.int q0), .val (.int q1), .val (.int q2), .val (.int q3), .val (.int q4), .val (.int d1), .val (.int d2), .val (.int x0), .val (.int x1), .val (.int y0), .val (.int y1), .val (.int z0), .val (.int z1), .val (.int (3 : Int32)), .val (.ref s0), .val (.ref s1), .val (.ref a81), .unset, .unset] at_157 rfl rfl ?_
              refine Go.iload X89 161 at_159 rfl ?_
              refine Go.if0Y X89 180 at_161 (XT.i0_ne_t (by decide)) ?_
              refine Go.iload X89 182 at_180 rfl ?_
              refine Go.iconst X89 183 (1 : Int32) at_182 ?_
              refine Go.icmpY X89 192 at_183 (XT.ii_ne_t (by decide)) ?_
              refine Go.iload X89 194 at_192 rfl ?_
              refine Go.iconst X89 195 (2 : Int32) at_194 ?_
              refine Go.icmpY X89 205 at_195 (XT.ii_ne_t (by decide)) ?_
              refine Go.aload X89 207 at_205 rfl rfl ?_
              refine Go.astore X89 209 #[.val (.int q0), .val (.int q1), .val (.int q2), .val (.int q3), .val (.int q4), .val (.int d1), .val (.int d2), .val (.int x0), .val (.int x1), .val (.int y0), .val (.int y1), .val (.int z0), .val (.int z1), .val (.int (3 : Int32)), .val (.ref s0), .val (.ref s1), .val (.ref a81), .val (.ref a81), .unset] at_207 rfl rfl ?_
              refine Go.iload X89 211 at_209 rfl ?_
              refine Go.if0Y X89 257 at_211 (XT.i0_ne_t (by decide)) ?_
              refine Go.iload X89 259 at_257 rfl ?_
              refine Go.iconst X89 260 (3 : Int32) at_259 ?_
              refine Go.icmpN X89 263 at_260 (XT.ii_ne_f (by decide)) ?_
              refine Go.iconst X89 264 (1 : Int32) at_263 ?_
              refine Go.goto X89 268 at_264 ?_
              refine Go.istore X89 270 #[.val (.int q0), .val (.int q1), .val (.int q2), .val (.int q3), .val (.int q4), .val (.int d1), .val (.int d2), .val (.int x0), .val (.int x1), .val (.int y0), .val (.int y1), .val (.int z0), .val (.int z1), .val (.int (3 : Int32)), .val (.ref s0), .val (.ref s1), .val (.ref a81), .val (.ref a81), .val (.int (1 : Int32))] at_268 rfl ?_
              refine Go.aload X89 272 at_270 rfl rfl ?_
              refine Go.aload X89 274 at_272 rfl rfl ?_
              refine Go.callV X89 277 [(.ref a81)] [] 0 (hw _ (List.mem_of_getElem? (i := 57) rfl)) (hw _ (List.mem_of_getElem? (i := 58) rfl)) (hw _ (List.mem_of_getElem? (i := 60) rfl)) (notFace_of_selects (args := #[]) (mvT X89.hZ (hw _ (List.mem_of_getElem? (i := 60) rfl)))) (hw _ (List.mem_of_getElem? (i := 59) rfl)) (hw _ (List.mem_of_getElem? (i := 37) rfl)) (by decide) F92 (hw _ (List.mem_of_getElem? (i := 61) rfl)) pd_8 at_274 (rm_q l Z a0 hw T89.heap cz SC hcz a81 a81 s0 ts0 s0 ts0 z0 z0 (own_n d1) (own_n d1) (own_f x0 x1) (own_f x0 x1) F92 G87 H88 F92 G87 H88 F90 F90 (fun j _ => (own_fr rx0 rx1 j).2) (fun j _ => (own_fr rx0 rx1 j).2) (fun _ => ⟨rfl, rfl, fun _ _ => rfl⟩)) rfl rfl rfl (Nat.le_of_eq rfl) (by decide) (by decide) (by decide) (by decide) ?_
              rintro T93 v93 L93 X93 ⟨hh, ⟨rfl, rr⟩ | ⟨rfl, rr⟩⟩
              · rw [hh] at X93
                show Go p e below _ T93 m 277 #[.val (.int q0), .val (.int q1), .val (.int q2), .val (.int q3), .val (.int q4), .val (.int d1), .val (.int d2), .val (.int x0), .val (.int x1), .val (.int y0), .val (.int y1), .val (.int z0), .val (.int z1), .val (.int (3 : Int32)), .val (.ref s0), .val (.ref s1), .val (.ref a81), .val (.ref a81), .val (.int (1 : Int32))] [(.int (1 : Int32))]
                refine Go.iload X93 279 at_277 rfl ?_
                refine Go.icmpN X93 282 at_279 (XT.ii_ne_f (by decide)) ?_
                refine Go.iconst X93 283 (1 : Int32) at_282 ?_
                refine Go.goto X93 287 at_283 ?_
                exact Go.retI X93 rfl (by simp) rfl at_287 (X93.fin rfl (by decide) (by decide))
              · rw [hh] at X93
                exact absurd ⟨rfl, rfl, fun _ _ => rfl⟩ rr
          · intro J5
            by_cases c94 : (q4 &&& (16 : Int32)) = 0
            · skip
              refine Go.if0Y X4 110 at_102 (XT.i0_eq_t c94) ?_
              refine Go.iloadN X4 111 at_110 rfl ?_
              refine Go.ldcI X4 113 (hw _ (List.mem_of_getElem? (i := 0) rfl)) at_111 ?_
              refine Go.iand X4 114 at_113 ?_
              exact J5 _ _ _ (q3 &&& (65535 : Int32)) X4 ⟨rfl, own_65535 q3⟩
            · skip
              refine Go.if0N X4 105 at_102 (XT.i0_eq_f c94) ?_
              refine Go.iload X4 107 at_105 rfl ?_
              refine Go.goto X4 114 at_107 ?_
              exact J5 _ _ _ z0 X4 ⟨rfl, rz0⟩
        · intro J4
          by_cases c95 : (q4 &&& (8 : Int32)) = 0
          · skip
            refine Go.if0Y X3 80 at_72 (XT.i0_eq_t c95) ?_
            refine Go.iloadN X3 81 at_80 rfl ?_
            refine Go.bipush X3 83 (8 : Int32) at_81 ?_
            refine Go.iushr X3 84 at_83 ?_
            refine Go.sipush X3 87 (255 : Int32) at_84 ?_
            refine Go.iand X3 88 at_87 ?_
            refine Go.i2c X3 89 at_88 ?_
            rw [i2c_mask (XT.ushr q1 (8 : Int32))]
            exact J4 _ _ _ ((XT.ushr q1 (8 : Int32)) &&& (255 : Int32)) X3 ⟨rfl, own_255 (XT.ushr q1 (8 : Int32))⟩
          · skip
            refine Go.if0N X3 75 at_72 (XT.i0_eq_f c95) ?_
            refine Go.iload X3 77 at_75 rfl ?_
            refine Go.goto X3 89 at_77 ?_
            exact J4 _ _ _ x1 X3 ⟨rfl, rx1⟩
      · intro J3
        by_cases c96 : (q4 &&& (4 : Int32)) = 0
        · skip
          refine Go.if0Y X2 59 at_51 (XT.i0_eq_t c96) ?_
          refine Go.iloadN X2 60 at_59 rfl ?_
          refine Go.sipush X2 63 (255 : Int32) at_60 ?_
          refine Go.iand X2 64 at_63 ?_
          refine Go.i2c X2 65 at_64 ?_
          rw [i2c_mask q1]
          exact J3 _ _ _ (q1 &&& (255 : Int32)) X2 ⟨rfl, own_255 q1⟩
        · skip
          refine Go.if0N X2 54 at_51 (XT.i0_eq_f c96) ?_
          refine Go.iload X2 56 at_54 rfl ?_
          refine Go.goto X2 65 at_56 ?_
          exact J3 _ _ _ x0 X2 ⟨rfl, rx0⟩
    · intro J2
      by_cases c97 : (q4 &&& (2 : Int32)) = 0
      · skip
        refine Go.if0Y X1 25 at_18 (XT.i0_eq_t c97) ?_
        refine Go.iconst X1 26 (0 : Int32) at_25 ?_
        exact J2 _ _ _ (0 : Int32) X1 ⟨rfl, by decide⟩
      · skip
        refine Go.if0N X1 21 at_18 (XT.i0_eq_f c97) ?_
        refine Go.iconst X1 22 (1 : Int32) at_21 ?_
        refine Go.goto X1 26 at_22 ?_
        exact J2 _ _ _ (1 : Int32) X1 ⟨rfl, by decide⟩
  · intro J1
    by_cases c98 : (q4 &&& (1 : Int32)) = 0
    · skip
      refine Go.if0Y X0 11 at_4 (XT.i0_eq_t c98) ?_
      refine Go.iconst X0 12 (0 : Int32) at_11 ?_
      exact J1 _ _ _ (0 : Int32) X0 ⟨rfl, by decide⟩
    · skip
      refine Go.if0N X0 7 at_4 (XT.i0_eq_f c98) ?_
      refine Go.iconst X0 8 (1 : Int32) at_7 ?_
      refine Go.goto X0 12 at_8 ?_
      exact J1 _ _ _ (1 : Int32) X0 ⟨rfl, by decide⟩
theorem eq_I {a b : Term} {args : Array Value} {s : State} {x y : Int32} (ha : a.eval args s none [] s = some (.int x)) (hb : b.eval args s none [] s = some (.int y)) : (Jvm.Cond.eq a b).value args s none s [] = some (decide (x = y)) := by simp [Cond.value, ha, hb]
theorem own_eqI {t : Term} {args : Array Value} {s : State} {z : Int32} (h : (Jvm.Cond.eq t (.int z)).value args s none s [] = some true) : t.eval args s none [] s = some (.int z) := by
  obtain ⟨x, y, e1, e2, -, k⟩ := cmp_v (Or.inl h)
  have e3 : y = .int z := Option.some.inj (e2.symm.trans (Term.int_eval z))
  subst e3
  obtain ⟨w, rfl⟩ := k
  have := gotT (eq_I e1 e2) h
  rw [this] at e1
  exact e1
theorem own_sta {C n d : String} {args : Array Value} {s : State} (hx : (Jvm.Cond.exactly (.static C n d) C).value args s none s [] = some true) (wi : (Jvm.Cond.initialized C).before args s = true) (wl : (Jvm.Cond.laysStatic C n d).before args s = true) : ∃ a, Sta s s.heap C n d (.ref a) ∧ Exa s s.heap a C ∧ (Term.static C n d).eval args s none [] s = some (.ref a) := by
  obtain ⟨a, ev⟩ := exa_v hx
  exact ⟨a, Sta.start ev (Or.inr ⟨wi, wl⟩), Exa.start ev hx, ev⟩
theorem own_fldI {t : Term} {C n d : String} {args : Array Value} {s : State} {a : Addr} {z : Int32} (ev : t.eval args s none [] s = some (.ref a)) (hz : (Jvm.Cond.eq (.field t C n d) (.int z)).value args s none s [] = some true) : Fld s s.heap a C n d (.int z) := by
  have := own_eqI hz
  rw [fld_at ev] at this
  exact Fld.start this
theorem own_nz {t : Term} {args : Array Value} {s : State} {z : Int32} (ev : t.eval args s none [] s = some (.int z)) (h : (Jvm.Cond.not (.eq t (.int 0))).value args s none s [] = some true) : ¬ z = 0 := by
  have h1 := not_v h
  exact gotF (eq_I ev (Term.int_eval 0)) h1
set_option maxRecDepth 65536 in
set_option maxHeartbeats 40000000 in
theorem comes_1 {Post : Tables → Env → Array Value → State → Outcome → State → Prop} (hpost : ∀ tb e args s v u, (limb_1_1.after args s (.returned v) u = true ∧ limb_1_2.after args s (.returned v) u = true ∧ True) → FrameEnd s (.returned v) u (Jvm.fieldLocs frame_1_writes args s ++ Jvm.arrayLocs frame_1_arrays args s ++ Jvm.staticLocs frame_1_statics s) 24 128 → Post tb e args s (.returned v) u) :
    ArmFor flags0 classFile x code maxLocals ret World_1 tables_1 room_1 Calls_1 rest_1 Pre_1 Post := by
  intro l hfl _ _ p e ha hc hk s m args below hf hA hF happ hP
  obtain ⟨hcalls, hrest, hpre⟩ := hP
  obtain ⟨-, -, -, hnamed, -, -, -, hat⟩ := (Spec.applies_iff hf).mp happ
  obtain ⟨hg, hn⟩ := and_e (Cond.before_iff.mp (show (Jvm.Cond.and given_1 narrow_1).before args s = true from hpre))
  obtain ⟨hcount, hr_hcount⟩ := and_e hg
  obtain ⟨hk0, hr_hk0⟩ := and_e hr_hcount
  obtain ⟨hk1, hr_hk1⟩ := and_e hr_hk0
  obtain ⟨hk2, hr_hk2⟩ := and_e hr_hk1
  obtain ⟨hk3, hr_hk3⟩ := and_e hr_hk2
  have hk4 := hr_hk3
  obtain ⟨w0, w1, w2, w3, w4, rfl⟩ : ∃ w0 w1 w2 w3 w4 : Value, args = #[w0, w1, w2, w3, w4] := by
    have hs : args.size = 5 := by simpa [Cond.value, given_1] using hcount
    obtain ⟨L⟩ := args
    match L, hs with
    | [w0, w1, w2, w3, w4], _ => exact ⟨w0, w1, w2, w3, w4, rfl⟩
  have hw := fun d (hd : d ∈ tables_1) => atoms_spec (ws := Jvm.Cond.code x code maxLocals ret :: tables_1) hat d (List.mem_cons_of_mem _ hd)
  obtain ⟨i0, e0⟩ := is_v hk0
  obtain rfl : w0 = (.int i0) := Option.some.inj e0
  obtain ⟨i1, e1⟩ := is_v hk1
  obtain rfl : w1 = (.int i1) := Option.some.inj e1
  obtain ⟨i2, e2⟩ := is_v hk2
  obtain rfl : w2 = (.int i2) := Option.some.inj e2
  obtain ⟨i3, e3⟩ := is_v hk3
  obtain rfl : w3 = (.int i3) := Option.some.inj e3
  obtain ⟨i4, e4⟩ := is_v hk4
  obtain rfl : w4 = (.int i4) := Option.some.inj e4
  have hsets := (atoms_of jdkStatics_1 (rest_1_c_eq ▸ (show rest_1_c.before _ s = true from hrest))).1
  obtain ⟨cz, evc⟩ := is_v (Cond.before_iff.mp (hsets _ (List.mem_of_getElem? (i := 1) rfl)))
  have SC := Sta.start evc (Or.inl (hsets _ (List.mem_of_getElem? (i := 0) rfl)))
  have hcz := own_nz evc (Cond.before_iff.mp (hsets _ (List.mem_of_getElem? (i := 2) rfl)))
  obtain ⟨n, o, h1, h2, h3, _, L, rfl, ⟨N, -, rfl⟩, hq⟩ := rm_l l s _ hw s.heap cz SC hcz i0 i1 i2 i3 i4 (Ext.rf _) p e ha hc hk s m _ below hf ((Spec.applies_iff_loose hf).mp happ).1 ⟨rfl, State.Warmed39.refl s, rfl⟩ trivial
  refine ⟨n, _, h1, h2, h3, hpost _ _ _ _ _ _ ⟨Cond.after_iff.mpr rfl, Cond.after_iff.mpr (eq_i res_at (Term.int_eval (1)) rfl), trivial⟩ ⟨hq.1, hq.2.1, (hq.2.2.sift fun y hy => Or.inr (N y hy)).mono (by decide) (by decide)⟩⟩
theorem main_1_1 : Claimed_1_1 := comes_1 fun _ _ _ _ _ _ h hF => ⟨h.1, hF⟩
theorem main_1_2 : Claimed_1_2 := comes_1 fun _ _ _ _ _ _ h hF => ⟨h.2.1, hF⟩
end Jvm.Pilot.@@N@@
namespace Jvm.Pilot.@@N@@
open Jvm Jvm.ClassFile Sem Op Lib Jvm.Free Jvm.Stand Jvm.Pilot.@@N@@.Jvm.D
/-! MADE BY PROGRAM (witnessworld.py) out of the Statement's table words and the real class files: 21 classes; the members and pool entries that the words name. The judged class is class 1, her method 1. -/
namespace start1
open Jvm.ClassFile
def u (s : String) : CpInfo := .utf8 (stringToUtf16 s)
/-- a pool by its gaps: so many unusable entries, then the entry; so many at the end -/
def gap : Nat → List CpInfo → List CpInfo
  | 0, r => r
  | n + 1, r => .unusable :: gap n r
def poolList (es : List (Nat × CpInfo)) (last : Nat) : List CpInfo := es.foldr (fun e r => gap e.1 (e.2 :: r)) (gap last [])
def pool (es : List (Nat × CpInfo)) (last : Nat) : Array CpInfo := ⟨poolList es last⟩
def fileOf (pool : Array CpInfo) (this : Nat) (attrs : Array Attribute := #[]) (ms : Array MethodInfo := #[]) (fl : Nat := 33) (sup : Nat := 0) (ifs : Array Nat := #[]) (fds : Array FieldInfo := #[]) : ClassFile where
  minorVersion := 0
  majorVersion := 65
  constantPool := pool
  accessFlags := fl
  thisClass := this
  superClass := sup
  interfaces := ifs
  fields := fds
  methods := ms
  attributes := attrs
def plain (name : String) (sup : Option ClassId) : Class where
  name := name
  kind := .ordinary
  loader := none
  accessFlags := 33
  super := sup
  interfaces := #[]
  cf := none
  fields := #[]
  methods := #[]
  instanceTypes := #[]
  staticTypes := #[]
  resolved := #[]
  callSites := []
  init := .initialized
  statics := none
  mirror := none

def pool0 : Array CpInfo := pool [(5, u "<init>"), (0, u "()V"), (1, .class_ 10), (1, u "java/lang/Object")] 113

def k0c0 : Code := { maxStack := 0, maxLocals := 1, code := object_method_1_code, exceptionTable := #[], attributes := #[] }
def k0m0 : Method := { name := "<init>", desc := "()V", sig := { parameters := [], returnType := none }, accessFlags := 1, code := some k0c0 }
/-- java/lang/Object -/
def k0 : Class := { plain "java/lang/Object" none with
  accessFlags := 33
  interfaces := #[]
  cf := some (fileOf pool0 8 #[] #[{ accessFlags := 1, nameIndex := 5, descriptorIndex := 6, attributes := #[] }] 33 0 #[] #[])
  fields := #[]
  methods := #[k0m0]
  instanceTypes := #[]
  staticTypes := #[]
  resolved := Array.replicate 124 none
  statics := none }

def pool1 : Array CpInfo := pool [(2, .class_ 4), (1, u "java/lang/Object"), (0, u "<init>"), (0, u "()V"), (0, .integer 65535), (0, .methodref 9 10), (0, .class_ 11), (0, .nameAndType 12 13), (0, u "com/example/peerloom/peerloom/api/AddressEqualsPinLaw"), (0, u "text"), (0, u "(ZCC)Ljava/lang/String;"), (0, .class_ 15), (0, u "com/example/peerloom/peerloom/api/Address"), (0, .methodref 14 17), (0, .nameAndType 5 18), (0, u "(Ljava/lang/String;I)V"), (0, .methodref 14 20), (0, .nameAndType 21 22), (0, u "equals"), (0, u "(Ljava/lang/Object;)Z"), (0, .class_ 24), (0, u "java/lang/String"), (0, .methodref 23 26), (0, .nameAndType 5 27), (0, u "([C)V"), (2, u "law"), (0, u "(IIIII)Z")] 3

def k1m0 : Method := { name := "<init>", desc := "()V", sig := { parameters := [], returnType := none }, accessFlags := 1, code := none }
def k1c1 : Code := { maxStack := 4, maxLocals := 19, code := code, exceptionTable := #[], attributes := #[] }
def k1m1 : Method := { name := "law", desc := "(IIIII)Z", sig := { parameters := [.int, .int, .int, .int, .int], returnType := some .boolean }, accessFlags := 9, code := some k1c1 }
def k1c2 : Code := { maxStack := 6, maxLocals := 3, code := method_3_code, exceptionTable := #[], attributes := #[] }
def k1m2 : Method := { name := "text", desc := "(ZCC)Ljava/lang/String;", sig := { parameters := [.boolean, .char, .char], returnType := some (.object "java/lang/String") }, accessFlags := 10, code := some k1c2 }
/-- com/example/peerloom/peerloom/api/AddressEqualsPinLaw -/
def k1 : Class := { plain "com/example/peerloom/peerloom/api/AddressEqualsPinLaw" (some 0) with
  accessFlags := 49
  interfaces := #[]
  cf := some (fileOf pool1 9 #[] #[{ accessFlags := 1, nameIndex := 5, descriptorIndex := 6, attributes := #[] }, { accessFlags := 9, nameIndex := 30, descriptorIndex := 31, attributes := #[] }, { accessFlags := 10, nameIndex := 12, descriptorIndex := 13, attributes := #[] }] 49 2 #[] #[])
  fields := #[]
  methods := #[k1m0, k1m1, k1m2]
  instanceTypes := #[]
  staticTypes := #[]
  resolved := Array.replicate 35 none
  statics := none }

def pool2 : Array CpInfo := pool [(1, .class_ 2), (0, u "java/io/Serializable"), (0, .class_ 4), (0, u "java/lang/Object")] 2

/-- java/io/Serializable -/
def k2 : Class := { plain "java/io/Serializable" (some 0) with
  accessFlags := 1537
  interfaces := #[]
  cf := some (fileOf pool2 1 #[] #[] 1537 3 #[] #[])
  fields := #[]
  methods := #[]
  instanceTypes := #[]
  staticTypes := #[]
  resolved := Array.replicate 7 none
  statics := none }

def pool3 : Array CpInfo := pool [(1, .class_ 2), (0, u "java/lang/Comparable"), (0, .class_ 4), (0, u "java/lang/Object")] 7

/-- java/lang/Comparable -/
def k3 : Class := { plain "java/lang/Comparable" (some 0) with
  accessFlags := 1537
  interfaces := #[]
  cf := some (fileOf pool3 1 #[] #[] 1537 3 #[] #[])
  fields := #[]
  methods := #[]
  instanceTypes := #[]
  staticTypes := #[]
  resolved := Array.replicate 12 none
  statics := none }

def pool4 : Array CpInfo := pool [(2, .class_ 4), (1, u "java/lang/CharSequence"), (42, .class_ 48), (0, u "java/lang/CharSequence$1CodePointIterator"), (10, .class_ 60), (0, u "java/lang/CharSequence$1CharIterator"), (5, .class_ 67), (0, u "java/lang/Object")] 63

/-- java/lang/CharSequence -/
def k4 : Class := { plain "java/lang/CharSequence" (some 0) with
  accessFlags := 1537
  interfaces := #[]
  cf := some (fileOf pool4 2 #[.nestMembers #[47, 59]] #[] 1537 66 #[] #[])
  fields := #[]
  methods := #[]
  instanceTypes := #[]
  staticTypes := #[]
  resolved := Array.replicate 131 none
  statics := none }

def pool5 : Array CpInfo := pool [(1, .class_ 2), (0, u "java/lang/constant/Constable"), (0, .class_ 4), (0, u "java/lang/Object")] 6

/-- java/lang/constant/Constable -/
def k5 : Class := { plain "java/lang/constant/Constable" (some 0) with
  accessFlags := 1537
  interfaces := #[]
  cf := some (fileOf pool5 1 #[] #[] 1537 3 #[] #[])
  fields := #[]
  methods := #[]
  instanceTypes := #[]
  staticTypes := #[]
  resolved := Array.replicate 11 none
  statics := none }

def pool6 : Array CpInfo := pool [(1, .class_ 2), (0, u "java/lang/constant/ConstantDesc"), (0, .class_ 4), (0, u "java/lang/Object")] 32

/-- java/lang/constant/ConstantDesc -/
def k6 : Class := { plain "java/lang/constant/ConstantDesc" (some 0) with
  accessFlags := 1537
  interfaces := #[]
  cf := some (fileOf pool6 1 #[] #[] 1537 3 #[] #[])
  fields := #[]
  methods := #[]
  instanceTypes := #[]
  staticTypes := #[]
  resolved := Array.replicate 37 none
  statics := none }

def pool7 : Array CpInfo := pool [(1, .methodref 2 3), (0, .class_ 4), (0, .nameAndType 5 6), (0, u "java/lang/Object"), (0, u "<init>"), (0, u "()V"), (2, .fieldref 10 11), (0, .class_ 12), (0, .nameAndType 13 14), (0, u "java/lang/String"), (0, u "value"), (0, u "[B"), (0, .fieldref 10 16), (0, .nameAndType 17 18), (0, u "coder"), (0, u "B"), (2, u "hash"), (0, u "I"), (2, u "hashIsZero"), (0, u "Z"), (0, .methodref 10 28), (0, .nameAndType 5 29), (0, u "([CIILjava/lang/Void;)V"), (8, .fieldref 10 39), (0, .nameAndType 40 26), (0, u "COMPACT_STRINGS"), (1, .class_ 44), (1, u "java/lang/StringUTF16"), (0, u "compress"), (1, .methodref 42 48), (0, .nameAndType 49 50), (0, u "coderFromArrayLen"), (0, u "([BI)B"), (56, .class_ 109), (1, u "java/lang/StringLatin1"), (32, u "()Z"), (34, .methodref 42 178), (0, .nameAndType 45 179), (0, u "([CII)[B"), (361, .methodref 107 542), (0, .nameAndType 543 544), (0, u "equals"), (0, u "([B[B)Z"), (28, u "(Ljava/lang/Object;)Z"), (1, .class_ 576), (0, u "java/lang/CharSequence"), (22, u "CASE_INSENSITIVE_ORDER"), (0, u "Ljava/util/Comparator;"), (91, u "isEmpty"), (317, u "([C)V"), (90, u "serialPersistentFields"), (0, u "[Ljava/io/ObjectStreamField;"), (0, .class_ 1104), (0, u "java/lang/String$CaseInsensitiveComparator"), (1, .class_ 1107), (0, u "java/io/Serializable"), (0, .class_ 1109), (0, u "java/lang/Comparable"), (0, .class_ 1111), (0, u "java/lang/constant/Constable"), (0, .class_ 1113), (0, u "java/lang/constant/ConstantDesc"), (2, u "serialVersionUID"), (0, u "J"), (3, u "REPL"), (0, u "C"), (2, u "LATIN1"), (1, u "UTF16")] 323

def k7m0 : Method := { name := "<init>", desc := "()V", sig := { parameters := [], returnType := none }, accessFlags := 1, code := none }
def k7c1 : Code := { maxStack := 5, maxLocals := 2, code := jdk_42_method_3_code, exceptionTable := #[], attributes := #[] }
def k7m1 : Method := { name := "<init>", desc := "([C)V", sig := { parameters := [(.array .char)], returnType := none }, accessFlags := 1, code := some k7c1 }
def k7c2 : Code := { maxStack := 1, maxLocals := 1, code := jdk_42_method_55_code, exceptionTable := #[], attributes := #[] }
def k7m2 : Method := { name := "isEmpty", desc := "()Z", sig := { parameters := [], returnType := some .boolean }, accessFlags := 1, code := some k7c2 }
def k7c3 : Code := { maxStack := 2, maxLocals := 3, code := jdk_42_method_66_code, exceptionTable := #[], attributes := #[] }
def k7m3 : Method := { name := "equals", desc := "(Ljava/lang/Object;)Z", sig := { parameters := [(.object "java/lang/Object")], returnType := some .boolean }, accessFlags := 1, code := some k7c3 }
def k7c4 : Code := { maxStack := 4, maxLocals := 6, code := jdk_42_method_149_code, exceptionTable := #[], attributes := #[] }
def k7m4 : Method := { name := "<init>", desc := "([CIILjava/lang/Void;)V", sig := { parameters := [(.array .char), .int, .int, (.object "java/lang/Void")], returnType := none }, accessFlags := 2, code := some k7c4 }
/-- java/lang/String -/
def k7 : Class := { plain "java/lang/String" (some 0) with
  accessFlags := 49
  interfaces := #[2, 3, 4, 5, 6]
  cf := some (fileOf pool7 10 #[.nestMembers #[1103]] #[{ accessFlags := 1, nameIndex := 5, descriptorIndex := 6, attributes := #[] }, { accessFlags := 1, nameIndex := 5, descriptorIndex := 1010, attributes := #[] }, { accessFlags := 1, nameIndex := 692, descriptorIndex := 142, attributes := #[] }, { accessFlags := 1, nameIndex := 543, descriptorIndex := 573, attributes := #[] }, { accessFlags := 2, nameIndex := 5, descriptorIndex := 29, attributes := #[] }] 49 2 #[1106, 1108, 575, 1110, 1112] #[{ accessFlags := 18, nameIndex := 13, descriptorIndex := 14, attributes := #[] }, { accessFlags := 18, nameIndex := 17, descriptorIndex := 18, attributes := #[] }, { accessFlags := 2, nameIndex := 21, descriptorIndex := 22, attributes := #[] }, { accessFlags := 2, nameIndex := 25, descriptorIndex := 26, attributes := #[] }, { accessFlags := 26, nameIndex := 1116, descriptorIndex := 1117, attributes := #[] }, { accessFlags := 24, nameIndex := 40, descriptorIndex := 26, attributes := #[] }, { accessFlags := 26, nameIndex := 1101, descriptorIndex := 1102, attributes := #[] }, { accessFlags := 26, nameIndex := 1121, descriptorIndex := 1122, attributes := #[] }, { accessFlags := 25, nameIndex := 599, descriptorIndex := 600, attributes := #[] }, { accessFlags := 24, nameIndex := 1125, descriptorIndex := 18, attributes := #[] }, { accessFlags := 24, nameIndex := 1127, descriptorIndex := 18, attributes := #[] }])
  fields := #[{ name := "value", type := (.array .byte), accessFlags := 18, slot := 0, constantValue := 0 }, { name := "coder", type := .byte, accessFlags := 18, slot := 1, constantValue := 0 }, { name := "hash", type := .int, accessFlags := 2, slot := 2, constantValue := 0 }, { name := "hashIsZero", type := .boolean, accessFlags := 2, slot := 3, constantValue := 0 }, { name := "serialVersionUID", type := .long, accessFlags := 26, slot := 0, constantValue := 0 }, { name := "COMPACT_STRINGS", type := .boolean, accessFlags := 24, slot := 1, constantValue := 0 }, { name := "serialPersistentFields", type := (.array (.object "java/io/ObjectStreamField")), accessFlags := 26, slot := 2, constantValue := 0 }, { name := "REPL", type := .char, accessFlags := 26, slot := 3, constantValue := 0 }, { name := "CASE_INSENSITIVE_ORDER", type := (.object "java/util/Comparator"), accessFlags := 25, slot := 4, constantValue := 0 }, { name := "LATIN1", type := .byte, accessFlags := 24, slot := 5, constantValue := 0 }, { name := "UTF16", type := .byte, accessFlags := 24, slot := 6, constantValue := 0 }]
  methods := #[k7m0, k7m1, k7m2, k7m3, k7m4]
  instanceTypes := #[(.array .byte), .byte, .int, .boolean]
  staticTypes := #[.long, .boolean, (.array (.object "java/io/ObjectStreamField")), .char, (.object "java/util/Comparator"), .byte, .byte]
  resolved := Array.replicate 1451 none
  statics := some 0 }

def pool8 : Array CpInfo := pool [(6, .class_ 8), (1, u "java/lang/Object"), (0, u "<init>"), (0, u "()V"), (1, .class_ 14), (1, u "java/lang/StringUTF16"), (31, u "$assertionsDisabled"), (0, u "Z"), (13, u "HI_BYTE_SHIFT"), (0, u "I"), (2, u "LO_BYTE_SHIFT"), (49, .methodref 12 116), (0, .nameAndType 117 118), (0, u "compress"), (0, u "([CI[BII)I"), (3, u "([CII)[B"), (138, u "coderFromArrayLen"), (0, u "([BI)B"), (106, .class_ 371), (1, u "java/lang/StringUTF16$LinesSpliterator"), (58, u "MAX_LENGTH"), (196, .class_ 628), (0, u "java/lang/StringUTF16$CodePointsSpliterator"), (0, .class_ 630), (0, u "java/lang/StringUTF16$CharsSpliterator")] 4

def k8m0 : Method := { name := "<init>", desc := "()V", sig := { parameters := [], returnType := none }, accessFlags := 0, code := none }
def k8c1 : Code := { maxStack := 2, maxLocals := 2, code := jdk_52_method_15_code, exceptionTable := #[], attributes := #[] }
def k8m1 : Method := { name := "coderFromArrayLen", desc := "([BI)B", sig := { parameters := [(.array .byte), .int], returnType := some .byte }, accessFlags := 8, code := some k8c1 }
def k8c2 : Code := { maxStack := 5, maxLocals := 6, code := jdk_52_method_16_code, exceptionTable := #[], attributes := #[] }
def k8m2 : Method := { name := "compress", desc := "([CII)[B", sig := { parameters := [(.array .char), .int, .int], returnType := some (.array .byte) }, accessFlags := 9, code := some k8c2 }
def k8c3 : Code := { maxStack := 3, maxLocals := 7, code := jdk_52_method_21_code, exceptionTable := #[], attributes := #[] }
def k8m3 : Method := { name := "compress", desc := "([CI[BII)I", sig := { parameters := [(.array .char), .int, (.array .byte), .int, .int], returnType := some .int }, accessFlags := 9, code := some k8c3 }
/-- java/lang/StringUTF16 -/
def k8 : Class := { plain "java/lang/StringUTF16" (some 0) with
  accessFlags := 48
  interfaces := #[]
  cf := some (fileOf pool8 12 #[.nestMembers #[627, 629, 369]] #[{ accessFlags := 0, nameIndex := 9, descriptorIndex := 10, attributes := #[] }, { accessFlags := 8, nameIndex := 261, descriptorIndex := 262, attributes := #[] }, { accessFlags := 9, nameIndex := 117, descriptorIndex := 122, attributes := #[] }, { accessFlags := 9, nameIndex := 117, descriptorIndex := 118, attributes := #[] }] 48 6 #[] #[{ accessFlags := 26, nameIndex := 61, descriptorIndex := 62, attributes := #[] }, { accessFlags := 26, nameIndex := 65, descriptorIndex := 62, attributes := #[] }, { accessFlags := 24, nameIndex := 430, descriptorIndex := 62, attributes := #[] }, { accessFlags := 4120, nameIndex := 46, descriptorIndex := 47, attributes := #[] }])
  fields := #[{ name := "HI_BYTE_SHIFT", type := .int, accessFlags := 26, slot := 0, constantValue := 0 }, { name := "LO_BYTE_SHIFT", type := .int, accessFlags := 26, slot := 1, constantValue := 0 }, { name := "MAX_LENGTH", type := .int, accessFlags := 24, slot := 2, constantValue := 0 }, { name := "$assertionsDisabled", type := .boolean, accessFlags := 4120, slot := 3, constantValue := 0 }]
  methods := #[k8m0, k8m1, k8m2, k8m3]
  instanceTypes := #[]
  staticTypes := #[.int, .int, .int, .boolean]
  resolved := Array.replicate 635 none
  statics := none }

def pool9 : Array CpInfo := pool [(1, .methodref 2 3), (0, .class_ 4), (0, .nameAndType 5 6), (0, u "java/lang/Object"), (0, u "<init>"), (0, u "()V"), (0, .class_ 8), (0, u "java/lang/Record")] 13

def k9c0 : Code := { maxStack := 1, maxLocals := 1, code := jdk_30_method_1_code, exceptionTable := #[], attributes := #[] }
def k9m0 : Method := { name := "<init>", desc := "()V", sig := { parameters := [], returnType := none }, accessFlags := 4, code := some k9c0 }
/-- java/lang/Record -/
def k9 : Class := { plain "java/lang/Record" (some 0) with
  accessFlags := 1057
  interfaces := #[]
  cf := some (fileOf pool9 7 #[] #[{ accessFlags := 4, nameIndex := 5, descriptorIndex := 6, attributes := #[] }] 1057 2 #[] #[])
  fields := #[]
  methods := #[k9m0]
  instanceTypes := #[]
  staticTypes := #[]
  resolved := Array.replicate 22 none
  statics := none }

def pool10 : Array CpInfo := pool [(1, .methodref 2 3), (0, .class_ 4), (0, .nameAndType 5 6), (0, u "java/lang/Record"), (0, u "<init>"), (0, u "()V"), (0, .methodref 8 9), (0, .class_ 10), (0, .nameAndType 11 12), (0, u "java/lang/String"), (0, u "isEmpty"), (0, u "()Z"), (7, .integer 65535), (4, .fieldref 26 27), (0, .class_ 28), (0, .nameAndType 29 30), (0, u "com/example/peerloom/peerloom/api/Address"), (0, u "host"), (0, u "Ljava/lang/String;"), (0, .fieldref 26 32), (0, .nameAndType 33 34), (0, u "port"), (0, u "I"), (0, .methodref 8 36), (0, .nameAndType 37 38), (0, u "equals"), (0, u "(Ljava/lang/Object;)Z"), (46, u "(Ljava/lang/String;I)V"), (26, u "HOST_PUNCTUATION")] 42

def k10c0 : Code := { maxStack := 3, maxLocals := 3, code := prog_3_method_1_code, exceptionTable := #[], attributes := #[] }
def k10m0 : Method := { name := "<init>", desc := "(Ljava/lang/String;I)V", sig := { parameters := [(.object "java/lang/String"), .int], returnType := none }, accessFlags := 1, code := some k10c0 }
def k10c1 : Code := { maxStack := 2, maxLocals := 3, code := prog_3_method_2_code, exceptionTable := #[], attributes := #[] }
def k10m1 : Method := { name := "equals", desc := "(Ljava/lang/Object;)Z", sig := { parameters := [(.object "java/lang/Object")], returnType := some .boolean }, accessFlags := 1, code := some k10c1 }
/-- com/example/peerloom/peerloom/api/Address -/
def k10 : Class := { plain "com/example/peerloom/peerloom/api/Address" (some 9) with
  accessFlags := 49
  interfaces := #[]
  cf := some (fileOf pool10 26 #[] #[{ accessFlags := 1, nameIndex := 5, descriptorIndex := 85, attributes := #[] }, { accessFlags := 1, nameIndex := 37, descriptorIndex := 38, attributes := #[] }] 49 2 #[] #[{ accessFlags := 18, nameIndex := 29, descriptorIndex := 30, attributes := #[] }, { accessFlags := 18, nameIndex := 33, descriptorIndex := 34, attributes := #[] }, { accessFlags := 26, nameIndex := 112, descriptorIndex := 30, attributes := #[] }])
  fields := #[{ name := "host", type := (.object "java/lang/String"), accessFlags := 18, slot := 0, constantValue := 0 }, { name := "port", type := .int, accessFlags := 18, slot := 1, constantValue := 0 }, { name := "HOST_PUNCTUATION", type := (.object "java/lang/String"), accessFlags := 26, slot := 0, constantValue := 0 }]
  methods := #[k10m0, k10m1]
  instanceTypes := #[(.object "java/lang/String"), .int]
  staticTypes := #[(.object "java/lang/String")]
  resolved := Array.replicate 155 none
  statics := none }

def pool11 : Array CpInfo := pool [(4, .class_ 6), (1, u "java/lang/Object"), (0, u "<init>"), (0, u "()V"), (5, .class_ 16), (1, u "java/lang/StringLatin1"), (104, u "$assertionsDisabled"), (0, u "Z"), (98, .class_ 223), (1, u "java/lang/StringLatin1$LinesSpliterator"), (57, u "equals"), (0, u "([B[B)Z"), (107, .class_ 391), (0, u "java/lang/StringLatin1$CharsSpliterator")] 3

def k11m0 : Method := { name := "<init>", desc := "()V", sig := { parameters := [], returnType := none }, accessFlags := 0, code := none }
def k11c1 : Code := { maxStack := 3, maxLocals := 3, code := jdk_43_method_13_code, exceptionTable := #[], attributes := #[] }
def k11m1 : Method := { name := "equals", desc := "([B[B)Z", sig := { parameters := [(.array .byte), (.array .byte)], returnType := some .boolean }, accessFlags := 9, code := some k11c1 }
/-- java/lang/StringLatin1 -/
def k11 : Class := { plain "java/lang/StringLatin1" (some 0) with
  accessFlags := 48
  interfaces := #[]
  cf := some (fileOf pool11 14 #[.nestMembers #[390, 221]] #[{ accessFlags := 0, nameIndex := 7, descriptorIndex := 8, attributes := #[] }, { accessFlags := 9, nameIndex := 281, descriptorIndex := 282, attributes := #[] }] 48 4 #[] #[{ accessFlags := 4120, nameIndex := 121, descriptorIndex := 122, attributes := #[] }])
  fields := #[{ name := "$assertionsDisabled", type := .boolean, accessFlags := 4120, slot := 0, constantValue := 0 }]
  methods := #[k11m0, k11m1]
  instanceTypes := #[]
  staticTypes := #[.boolean]
  resolved := Array.replicate 395 none
  statics := none }

def pool12 : Array CpInfo := pool [(2, .class_ 4), (1, u "java/lang/Object"), (0, u "<init>"), (0, u "()V"), (17, .class_ 26), (1, u "jdk/internal/util/Preconditions"), (28, .class_ 56), (0, u "jdk/internal/util/Preconditions$4"), (57, .class_ 115), (0, u "jdk/internal/util/Preconditions$1"), (7, u "SIOOBE_FORMATTER"), (0, u "Ljava/util/function/BiFunction;"), (0, .class_ 126), (0, u "jdk/internal/util/Preconditions$2"), (3, u "AIOOBE_FORMATTER"), (0, .class_ 132), (0, u "jdk/internal/util/Preconditions$3"), (3, u "IOOBE_FORMATTER")] 57

def k12m0 : Method := { name := "<init>", desc := "()V", sig := { parameters := [], returnType := none }, accessFlags := 1, code := none }
/-- jdk/internal/util/Preconditions -/
def k12 : Class := { plain "jdk/internal/util/Preconditions" (some 0) with
  accessFlags := 33
  interfaces := #[]
  cf := some (fileOf pool12 24 #[.nestMembers #[55, 131, 125, 114]] #[{ accessFlags := 1, nameIndex := 5, descriptorIndex := 6, attributes := #[] }] 33 2 #[] #[{ accessFlags := 25, nameIndex := 123, descriptorIndex := 124, attributes := #[] }, { accessFlags := 25, nameIndex := 130, descriptorIndex := 124, attributes := #[] }, { accessFlags := 25, nameIndex := 136, descriptorIndex := 124, attributes := #[] }])
  fields := #[{ name := "SIOOBE_FORMATTER", type := (.object "java/util/function/BiFunction"), accessFlags := 25, slot := 0, constantValue := 0 }, { name := "AIOOBE_FORMATTER", type := (.object "java/util/function/BiFunction"), accessFlags := 25, slot := 1, constantValue := 0 }, { name := "IOOBE_FORMATTER", type := (.object "java/util/function/BiFunction"), accessFlags := 25, slot := 2, constantValue := 0 }]
  methods := #[k12m0]
  instanceTypes := #[]
  staticTypes := #[(.object "java/util/function/BiFunction"), (.object "java/util/function/BiFunction"), (.object "java/util/function/BiFunction")]
  resolved := Array.replicate 194 none
  statics := some 1 }

def pool13 : Array CpInfo := pool [(9, u "<init>"), (6, .class_ 18), (1, u "java/lang/Object"), (0, u "()V"), (1, .class_ 23), (1, u "jdk/internal/util/ArraysSupport"), (0, u "LOG2_ARRAY_LONG_INDEX_SCALE"), (0, u "I"), (2, u "U"), (0, u "Ljdk/internal/misc/Unsafe;"), (8, u "BIG_ENDIAN"), (0, u "Z"), (8, u "LOG2_BYTE_BIT_SIZE"), (4, u "LOG2_ARRAY_INT_INDEX_SCALE"), (54, u "JLA"), (0, u "Ljdk/internal/access/JavaLangAccess;"), (11, u "LOG2_ARRAY_BOOLEAN_INDEX_SCALE"), (9, u "LOG2_ARRAY_BYTE_INDEX_SCALE"), (5, u "LOG2_ARRAY_CHAR_INDEX_SCALE"), (5, u "LOG2_ARRAY_SHORT_INDEX_SCALE"), (18, u "LOG2_ARRAY_FLOAT_INDEX_SCALE"), (24, u "LOG2_ARRAY_DOUBLE_INDEX_SCALE"), (89, u "T_BOOLEAN"), (2, u "T_CHAR"), (1, u "T_FLOAT"), (1, u "T_DOUBLE"), (1, u "T_BYTE"), (1, u "T_SHORT"), (1, u "T_INT"), (1, u "T_LONG"), (1, u "SOFT_MAX_ARRAY_LENGTH")] 83

def k13m0 : Method := { name := "<init>", desc := "()V", sig := { parameters := [], returnType := none }, accessFlags := 2, code := none }
/-- jdk/internal/util/ArraysSupport -/
def k13 : Class := { plain "jdk/internal/util/ArraysSupport" (some 0) with
  accessFlags := 33
  interfaces := #[]
  cf := some (fileOf pool13 21 #[] #[{ accessFlags := 2, nameIndex := 9, descriptorIndex := 19, attributes := #[] }] 33 16 #[] #[{ accessFlags := 24, nameIndex := 28, descriptorIndex := 29, attributes := #[] }, { accessFlags := 26, nameIndex := 38, descriptorIndex := 39, attributes := #[] }, { accessFlags := 25, nameIndex := 121, descriptorIndex := 25, attributes := #[] }, { accessFlags := 25, nameIndex := 131, descriptorIndex := 25, attributes := #[] }, { accessFlags := 25, nameIndex := 137, descriptorIndex := 25, attributes := #[] }, { accessFlags := 25, nameIndex := 143, descriptorIndex := 25, attributes := #[] }, { accessFlags := 25, nameIndex := 53, descriptorIndex := 25, attributes := #[] }, { accessFlags := 25, nameIndex := 24, descriptorIndex := 25, attributes := #[] }, { accessFlags := 25, nameIndex := 162, descriptorIndex := 25, attributes := #[] }, { accessFlags := 25, nameIndex := 187, descriptorIndex := 25, attributes := #[] }, { accessFlags := 26, nameIndex := 48, descriptorIndex := 25, attributes := #[] }, { accessFlags := 25, nameIndex := 277, descriptorIndex := 25, attributes := #[] }, { accessFlags := 25, nameIndex := 280, descriptorIndex := 25, attributes := #[] }, { accessFlags := 25, nameIndex := 282, descriptorIndex := 25, attributes := #[] }, { accessFlags := 25, nameIndex := 284, descriptorIndex := 25, attributes := #[] }, { accessFlags := 25, nameIndex := 286, descriptorIndex := 25, attributes := #[] }, { accessFlags := 25, nameIndex := 288, descriptorIndex := 25, attributes := #[] }, { accessFlags := 25, nameIndex := 290, descriptorIndex := 25, attributes := #[] }, { accessFlags := 25, nameIndex := 292, descriptorIndex := 25, attributes := #[] }, { accessFlags := 26, nameIndex := 108, descriptorIndex := 109, attributes := #[] }, { accessFlags := 25, nameIndex := 294, descriptorIndex := 25, attributes := #[] }])
  fields := #[{ name := "U", type := (.object "jdk/internal/misc/Unsafe"), accessFlags := 24, slot := 0, constantValue := 0 }, { name := "BIG_ENDIAN", type := .boolean, accessFlags := 26, slot := 1, constantValue := 0 }, { name := "LOG2_ARRAY_BOOLEAN_INDEX_SCALE", type := .int, accessFlags := 25, slot := 2, constantValue := 0 }, { name := "LOG2_ARRAY_BYTE_INDEX_SCALE", type := .int, accessFlags := 25, slot := 3, constantValue := 0 }, { name := "LOG2_ARRAY_CHAR_INDEX_SCALE", type := .int, accessFlags := 25, slot := 4, constantValue := 0 }, { name := "LOG2_ARRAY_SHORT_INDEX_SCALE", type := .int, accessFlags := 25, slot := 5, constantValue := 0 }, { name := "LOG2_ARRAY_INT_INDEX_SCALE", type := .int, accessFlags := 25, slot := 6, constantValue := 0 }, { name := "LOG2_ARRAY_LONG_INDEX_SCALE", type := .int, accessFlags := 25, slot := 7, constantValue := 0 }, { name := "LOG2_ARRAY_FLOAT_INDEX_SCALE", type := .int, accessFlags := 25, slot := 8, constantValue := 0 }, { name := "LOG2_ARRAY_DOUBLE_INDEX_SCALE", type := .int, accessFlags := 25, slot := 9, constantValue := 0 }, { name := "LOG2_BYTE_BIT_SIZE", type := .int, accessFlags := 26, slot := 10, constantValue := 0 }, { name := "T_BOOLEAN", type := .int, accessFlags := 25, slot := 11, constantValue := 0 }, { name := "T_CHAR", type := .int, accessFlags := 25, slot := 12, constantValue := 0 }, { name := "T_FLOAT", type := .int, accessFlags := 25, slot := 13, constantValue := 0 }, { name := "T_DOUBLE", type := .int, accessFlags := 25, slot := 14, constantValue := 0 }, { name := "T_BYTE", type := .int, accessFlags := 25, slot := 15, constantValue := 0 }, { name := "T_SHORT", type := .int, accessFlags := 25, slot := 16, constantValue := 0 }, { name := "T_INT", type := .int, accessFlags := 25, slot := 17, constantValue := 0 }, { name := "T_LONG", type := .int, accessFlags := 25, slot := 18, constantValue := 0 }, { name := "JLA", type := (.object "jdk/internal/access/JavaLangAccess"), accessFlags := 26, slot := 19, constantValue := 0 }, { name := "SOFT_MAX_ARRAY_LENGTH", type := .int, accessFlags := 25, slot := 20, constantValue := 0 }]
  methods := #[k13m0]
  instanceTypes := #[]
  staticTypes := #[(.object "jdk/internal/misc/Unsafe"), .boolean, .int, .int, .int, .int, .int, .int, .int, .int, .int, .int, .int, .int, .int, .int, .int, .int, .int, (.object "jdk/internal/access/JavaLangAccess"), .int]
  resolved := Array.replicate 378 none
  statics := none }

def pool14 : Array CpInfo := pool [(1, u "java/lang/Cloneable"), (0, .class_ 1), (0, u "java/lang/Object"), (0, .class_ 3)] 3

/-- java/lang/Cloneable -/
def k14 : Class := { plain "java/lang/Cloneable" (some 0) with
  accessFlags := 1537
  interfaces := #[]
  cf := some (fileOf pool14 2 #[] #[] 1537 4 #[] #[])
  fields := #[]
  methods := #[]
  instanceTypes := #[]
  staticTypes := #[]
  resolved := Array.replicate 8 none
  statics := none }

/-- the primitive byte -/
def k15 : Class := { plain "byte" none with kind := .primitive 'B', accessFlags := 0x411 }
/-- [B -/
def k16 : Class := { plain "[B" (some 0) with kind := .array 15 .byte, interfaces := #[14, 2], accessFlags := 1041 }

/-- the primitive char -/
def k17 : Class := { plain "char" none with kind := .primitive 'C', accessFlags := 0x411 }
/-- [C -/
def k18 : Class := { plain "[C" (some 0) with kind := .array 17 .char, interfaces := #[14, 2], accessFlags := 1041 }

/-- the primitive int -/
def k19 : Class := { plain "int" none with kind := .primitive 'I', accessFlags := 0x411 }
/-- [I -/
def k20 : Class := { plain "[I" (some 0) with kind := .array 19 .int, interfaces := #[14, 2], accessFlags := 1041 }

def heap : Heap := #[{ cls := 7, slots := #[.long 0, .int 1, .null, .int 0, .null, .int 0, .int 0], vm := .statics 7 },
  { cls := 12, slots := #[.null, .null, .null], vm := .statics 12 }]
def classes : Array Class := #[k0, k1, k2, k3, k4, k5, k6, k7, k8, k9, k10, k11, k12, k13, k14, k15, k16, k17, k18, k19, k20]
def interned : List (Array UInt16 × Addr) := []
def slotsUsed : Nat := 10
def theMethod : MethodId := ⟨1, 1⟩
def args0 : Array Value := #[.int 5, .int 6, .int 7, .int 8, .int 9]
def aboutOver (below : List Frame) : State where
  vm := { classes := classes, interned := interned.toArray }
  heap := heap
  slotsUsed := slotsUsed
  threads := #[{ frames := .invoking theMethod args0 :: below }]
def below0 : List Frame := [.native { method := ⟨0, 0⟩, args := #[] }]
def about1 : State := aboutOver below0
def p0 : Program := .bare "" "" ""
def e0 : Env := launch0.env 0 0 0
theorem w_frames : about1.frames = Frame.invoking theMethod args0 :: below0 := rfl
set_option maxRecDepth 65536 in
theorem w_args : argsFit about1.vm theMethod args0 = true := by decide +kernel
set_option maxRecDepth 65536 in
theorem w_heap : heapFits about1 = true := by decide +kernel
set_option maxRecDepth 65536 in
theorem w_runnable : about1.curStatus? = some .runnable := by decide +kernel
set_option maxRecDepth 65536 in
theorem w_alone : about1.alone = true := by decide +kernel
set_option maxRecDepth 65536 in
theorem w_named : about1.methodNamed? x = some theMethod := by decide +kernel
set_option maxRecDepth 65536 in
theorem w_hears : about1.hears theMethod below0 = true := by decide +kernel
set_option maxRecDepth 65536 in
theorem w_ripe : about1.ripe theMethod args0 below0 = true := by decide +kernel
theorem w_running : about1.status = .running := rfl
set_option maxRecDepth 65536 in
theorem w_room : about1.hasRoom e0.platform room_1 = true :=
  launch0.hasRoom_least _ room_1 (by decide +kernel) (by decide +kernel) (by decide +kernel) (by decide +kernel) (by decide +kernel) (by decide +kernel)
theorem allAtoms_all (ts : List Jvm.Cond) (a : Array Jvm.Value) (st : Jvm.State) : (allAtoms ts).before a st = ts.all (fun c => c.before a st) := by
  induction ts with
  | nil => rfl
  | cons c t ih =>
    show (Jvm.Cond.and c (allAtoms t)).before a st = _
    rw [Jvm.Cond.before_and, ih, List.all_cons]
def words1 : List Jvm.Cond := Jvm.Cond.code x code maxLocals ret :: tables_1
/-- a 'code' word, met by the world's own term for the bytes: nothing is compared byte by byte -/
theorem code_word {y : MethodName} {bytes : ByteArray} {mx : Nat} {rt : Option FieldType} {a : Array Value} {s : State} {m : MethodId} {meth : Method} {c : Code} (h1 : s.methodNamed? y = some m) (h2 : s.vm.method? m = some meth) (h3 : meth.code = some c) (h4 : c.code = bytes)
    (h5 : (c.maxLocals == mx && c.exceptionTable.isEmpty && decide (c.maxStack ≤ mostOperands) && decide (meth.sig.returnType = rt) && !meth.locks && decide (parseMethodDescriptor y.desc = some meth.sig)) = true) : (Jvm.Cond.code y bytes mx rt).before a s = true := by
  simp only [Bool.and_eq_true, beq_iff_eq, Bool.not_eq_true', decide_eq_true_eq] at h5
  obtain ⟨⟨⟨⟨⟨g1, g2⟩, g3⟩, g4⟩, g5⟩, g6⟩ := h5
  simp [Cond.before, Cond.holds, Cond.value, h1, h2, h3, h4, g1, g2, g3, g4, g5, g6]
def isCode : Jvm.Cond → Bool
  | .code _ _ _ _ => true
  | _ => false
theorem all_split {L : List Jvm.Cond} {P : Jvm.Cond → Bool} (h1 : L.all (fun c => isCode c || P c) = true) (h2 : ∀ c ∈ L.filter isCode, P c = true) : L.all P = true := by
  refine List.all_eq_true.mpr fun c hc => ?_
  have h := List.all_eq_true.mp h1 c hc
  rcases Bool.eq_false_or_eq_true (isCode c) with hi | hi
  · exact h2 c (List.mem_filter.mpr ⟨hc, hi⟩)
  · simpa [hi] using h
set_option maxRecDepth 65536 in
theorem w_c0 : (Jvm.Cond.code x code maxLocals ret).before args0 about1 = true := code_word (m := ⟨1, 1⟩) (meth := k1m1) (c := k1c1) (by decide +kernel) rfl rfl rfl (by decide +kernel)
set_option maxRecDepth 65536 in
theorem w_c1 : (Jvm.Cond.code ({ cls := "com/example/peerloom/peerloom/api/AddressEqualsPinLaw", name := "text", desc := "(ZCC)Ljava/lang/String;" } : Jvm.MethodName) method_3_code (3 : Nat) (Option.some (Jvm.ClassFile.FieldType.object "java/lang/String"))).before args0 about1 = true := code_word (m := ⟨1, 2⟩) (meth := k1m2) (c := k1c2) (by decide +kernel) rfl rfl rfl (by decide +kernel)
set_option maxRecDepth 65536 in
theorem w_c2 : (Jvm.Cond.code ({ cls := "java/lang/String", name := "<init>", desc := "([C)V" } : Jvm.MethodName) jdk_42_method_3_code (2 : Nat) (Option.none : Option Jvm.ClassFile.FieldType)).before args0 about1 = true := code_word (m := ⟨7, 1⟩) (meth := k7m1) (c := k7c1) (by decide +kernel) rfl rfl rfl (by decide +kernel)
set_option maxRecDepth 65536 in
theorem w_c3 : (Jvm.Cond.code ({ cls := "java/lang/String", name := "<init>", desc := "([CIILjava/lang/Void;)V" } : Jvm.MethodName) jdk_42_method_149_code (6 : Nat) (Option.none : Option Jvm.ClassFile.FieldType)).before args0 about1 = true := code_word (m := ⟨7, 4⟩) (meth := k7m4) (c := k7c4) (by decide +kernel) rfl rfl rfl (by decide +kernel)
set_option maxRecDepth 65536 in
theorem w_c4 : (Jvm.Cond.code ({ cls := "java/lang/Object", name := "<init>", desc := "()V" } : Jvm.MethodName) object_method_1_code (1 : Nat) (Option.none : Option Jvm.ClassFile.FieldType)).before args0 about1 = true := code_word (m := ⟨0, 0⟩) (meth := k0m0) (c := k0c0) (by decide +kernel) rfl rfl rfl (by decide +kernel)
set_option maxRecDepth 65536 in
theorem w_c5 : (Jvm.Cond.code ({ cls := "java/lang/StringUTF16", name := "compress", desc := "([CII)[B" } : Jvm.MethodName) jdk_52_method_16_code (6 : Nat) (Option.some (Jvm.ClassFile.FieldType.array Jvm.ClassFile.FieldType.byte))).before args0 about1 = true := code_word (m := ⟨8, 2⟩) (meth := k8m2) (c := k8c2) (by decide +kernel) rfl rfl rfl (by decide +kernel)
set_option maxRecDepth 65536 in
theorem w_c6 : (Jvm.Cond.code ({ cls := "java/lang/StringUTF16", name := "compress", desc := "([CI[BII)I" } : Jvm.MethodName) jdk_52_method_21_code (7 : Nat) (Option.some Jvm.ClassFile.FieldType.int)).before args0 about1 = true := code_word (m := ⟨8, 3⟩) (meth := k8m3) (c := k8c3) (by decide +kernel) rfl rfl rfl (by decide +kernel)
set_option maxRecDepth 65536 in
theorem w_c7 : (Jvm.Cond.code ({ cls := "java/lang/StringUTF16", name := "coderFromArrayLen", desc := "([BI)B" } : Jvm.MethodName) jdk_52_method_15_code (2 : Nat) (Option.some Jvm.ClassFile.FieldType.byte)).before args0 about1 = true := code_word (m := ⟨8, 1⟩) (meth := k8m1) (c := k8c1) (by decide +kernel) rfl rfl rfl (by decide +kernel)
set_option maxRecDepth 65536 in
theorem w_c8 : (Jvm.Cond.code ({ cls := "com/example/peerloom/peerloom/api/Address", name := "<init>", desc := "(Ljava/lang/String;I)V" } : Jvm.MethodName) prog_3_method_1_code (3 : Nat) (Option.none : Option Jvm.ClassFile.FieldType)).before args0 about1 = true := code_word (m := ⟨10, 0⟩) (meth := k10m0) (c := k10c0) (by decide +kernel) rfl rfl rfl (by decide +kernel)
set_option maxRecDepth 65536 in
theorem w_c9 : (Jvm.Cond.code ({ cls := "java/lang/Record", name := "<init>", desc := "()V" } : Jvm.MethodName) jdk_30_method_1_code (1 : Nat) (Option.none : Option Jvm.ClassFile.FieldType)).before args0 about1 = true := code_word (m := ⟨9, 0⟩) (meth := k9m0) (c := k9c0) (by decide +kernel) rfl rfl rfl (by decide +kernel)
set_option maxRecDepth 65536 in
theorem w_c10 : (Jvm.Cond.code ({ cls := "java/lang/String", name := "isEmpty", desc := "()Z" } : Jvm.MethodName) jdk_42_method_55_code (1 : Nat) (Option.some Jvm.ClassFile.FieldType.boolean)).before args0 about1 = true := code_word (m := ⟨7, 2⟩) (meth := k7m2) (c := k7c2) (by decide +kernel) rfl rfl rfl (by decide +kernel)
set_option maxRecDepth 65536 in
theorem w_c11 : (Jvm.Cond.code ({ cls := "com/example/peerloom/peerloom/api/Address", name := "equals", desc := "(Ljava/lang/Object;)Z" } : Jvm.MethodName) prog_3_method_2_code (3 : Nat) (Option.some Jvm.ClassFile.FieldType.boolean)).before args0 about1 = true := code_word (m := ⟨10, 1⟩) (meth := k10m1) (c := k10c1) (by decide +kernel) rfl rfl rfl (by decide +kernel)
set_option maxRecDepth 65536 in
theorem w_c12 : (Jvm.Cond.code ({ cls := "java/lang/String", name := "equals", desc := "(Ljava/lang/Object;)Z" } : Jvm.MethodName) jdk_42_method_66_code (3 : Nat) (Option.some Jvm.ClassFile.FieldType.boolean)).before args0 about1 = true := code_word (m := ⟨7, 3⟩) (meth := k7m3) (c := k7c3) (by decide +kernel) rfl rfl rfl (by decide +kernel)
set_option maxRecDepth 65536 in
theorem w_c13 : (Jvm.Cond.code ({ cls := "java/lang/StringLatin1", name := "equals", desc := "([B[B)Z" } : Jvm.MethodName) jdk_43_method_13_code (3 : Nat) (Option.some Jvm.ClassFile.FieldType.boolean)).before args0 about1 = true := code_word (m := ⟨11, 1⟩) (meth := k11m1) (c := k11c1) (by decide +kernel) rfl rfl rfl (by decide +kernel)
def codes1 : List Jvm.Cond := [Jvm.Cond.code x code maxLocals ret, Jvm.Cond.code ({ cls := "com/example/peerloom/peerloom/api/AddressEqualsPinLaw", name := "text", desc := "(ZCC)Ljava/lang/String;" } : Jvm.MethodName) method_3_code (3 : Nat) (Option.some (Jvm.ClassFile.FieldType.object "java/lang/String")), Jvm.Cond.code ({ cls := "java/lang/String", name := "<init>", desc := "([C)V" } : Jvm.MethodName) jdk_42_method_3_code (2 : Nat) (Option.none : Option Jvm.ClassFile.FieldType), Jvm.Cond.code ({ cls := "java/lang/String", name := "<init>", desc := "([CIILjava/lang/Void;)V" } : Jvm.MethodName) jdk_42_method_149_code (6 : Nat) (Option.none : Option Jvm.ClassFile.FieldType), Jvm.Cond.code ({ cls := "java/lang/Object", name := "<init>", desc := "()V" } : Jvm.MethodName) object_method_1_code (1 : Nat) (Option.none : Option Jvm.ClassFile.FieldType), Jvm.Cond.code ({ cls := "java/lang/StringUTF16", name := "compress", desc := "([CII)[B" } : Jvm.MethodName) jdk_52_method_16_code (6 : Nat) (Option.some (Jvm.ClassFile.FieldType.array Jvm.ClassFile.FieldType.byte)), Jvm.Cond.code ({ cls := "java/lang/StringUTF16", name := "compress", desc := "([CI[BII)I" } : Jvm.MethodName) jdk_52_method_21_code (7 : Nat) (Option.some Jvm.ClassFile.FieldType.int), Jvm.Cond.code ({ cls := "java/lang/StringUTF16", name := "coderFromArrayLen", desc := "([BI)B" } : Jvm.MethodName) jdk_52_method_15_code (2 : Nat) (Option.some Jvm.ClassFile.FieldType.byte), Jvm.Cond.code ({ cls := "com/example/peerloom/peerloom/api/Address", name := "<init>", desc := "(Ljava/lang/String;I)V" } : Jvm.MethodName) prog_3_method_1_code (3 : Nat) (Option.none : Option Jvm.ClassFile.FieldType), Jvm.Cond.code ({ cls := "java/lang/Record", name := "<init>", desc := "()V" } : Jvm.MethodName) jdk_30_method_1_code (1 : Nat) (Option.none : Option Jvm.ClassFile.FieldType), Jvm.Cond.code ({ cls := "java/lang/String", name := "isEmpty", desc := "()Z" } : Jvm.MethodName) jdk_42_method_55_code (1 : Nat) (Option.some Jvm.ClassFile.FieldType.boolean), Jvm.Cond.code ({ cls := "com/example/peerloom/peerloom/api/Address", name := "equals", desc := "(Ljava/lang/Object;)Z" } : Jvm.MethodName) prog_3_method_2_code (3 : Nat) (Option.some Jvm.ClassFile.FieldType.boolean), Jvm.Cond.code ({ cls := "java/lang/String", name := "equals", desc := "(Ljava/lang/Object;)Z" } : Jvm.MethodName) jdk_42_method_66_code (3 : Nat) (Option.some Jvm.ClassFile.FieldType.boolean), Jvm.Cond.code ({ cls := "java/lang/StringLatin1", name := "equals", desc := "([B[B)Z" } : Jvm.MethodName) jdk_43_method_13_code (3 : Nat) (Option.some Jvm.ClassFile.FieldType.boolean)]
set_option maxRecDepth 65536 in
theorem codes_eq : words1.filter isCode = codes1 := rfl
theorem w_codes : ∀ c ∈ words1.filter isCode, c.before args0 about1 = true := by
  rw [codes_eq]
  intro c hc
  simp only [codes1, List.mem_cons, List.not_mem_nil, or_false] at hc
  rcases hc with rfl | rfl | rfl | rfl | rfl | rfl | rfl | rfl | rfl | rfl | rfl | rfl | rfl | rfl
  · exact w_c0
  · exact w_c1
  · exact w_c2
  · exact w_c3
  · exact w_c4
  · exact w_c5
  · exact w_c6
  · exact w_c7
  · exact w_c8
  · exact w_c9
  · exact w_c10
  · exact w_c11
  · exact w_c12
  · exact w_c13
set_option maxRecDepth 65536 in
theorem w_t1 : (words1.take 24).all (fun c => isCode c || c.before args0 about1) = true := by decide +kernel
set_option maxRecDepth 65536 in
theorem w_t2 : ((words1.drop 24).take 24).all (fun c => isCode c || c.before args0 about1) = true := by decide +kernel
set_option maxRecDepth 65536 in
theorem w_t3 : (((words1.drop 24).drop 24).take 24).all (fun c => isCode c || c.before args0 about1) = true := by decide +kernel
set_option maxRecDepth 65536 in
theorem w_t4 : (((words1.drop 24).drop 24).drop 24).all (fun c => isCode c || c.before args0 about1) = true := by decide +kernel
theorem w_tables : (allAtoms (Jvm.Cond.code x code maxLocals ret :: tables_1)).before args0 about1 = true := by
  rw [allAtoms_all]
  show words1.all (fun c => c.before args0 about1) = true
  refine all_split ?_ w_codes
  rw [← List.take_append_drop 24 words1, List.all_append, w_t1, ← List.take_append_drop 24 (words1.drop 24), List.all_append, w_t2, ← List.take_append_drop 24 ((words1.drop 24).drop 24), List.all_append, w_t3, w_t4]
  rfl
set_option maxRecDepth 65536 in
theorem w_rest : rest_1_c.before args0 about1 = true := by decide +kernel
set_option maxRecDepth 65536 in
theorem w_case : (Jvm.Cond.and given_1 narrow_1).before args0 about1 = true := by decide +kernel
theorem w_applies : (headSpec (Jvm.Cond.code x code maxLocals ret :: tables_1) room_1).applies x e0.platform about1 = true :=
  (Spec.applies_iff w_frames).mpr ⟨w_running, w_runnable, w_alone, w_named, w_hears, w_ripe, w_room, w_tables⟩
theorem atStart : AtStart classFile x code maxLocals ret World_1 tables_1 room_1 Calls_1 rest_1 Pre_1 launch0 p0 e0 about1 theMethod args0 below0 :=
  ⟨lists_1, trivial, launch0.admits_env _ _ _, launch0.least_env, fairChoices_fair.cas, fairChoices_fair.clock, w_frames, w_args, w_heap, w_applies, trivial, w_rest, w_case⟩
end start1
theorem witness_1 : WitnessClaimed_1 := ⟨start1.p0, start1.e0, start1.about1, start1.theMethod, start1.args0, start1.below0, start1.atStart⟩
end Jvm.Pilot.@@N@@
