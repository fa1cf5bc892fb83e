import JvmDerived
import JvmDerived.Pilot.@@N@@Statement
import JvmDerived.Pilot.@@N@@Code
set_option linter.unusedVariables false
set_option linter.unusedSimpArgs false
namespace Jvm.RoadKit
open Sem ClassFile Op Lib Jvm.Stand Jvm.Free Jvm.LawKit
section New
variable {p : Program} {l : Launch} {e : Env} {R : Room} {s : State} {m : MethodId} {args : Array Value} {below : List Frame} {meth : Method} {c : Code} {T : State} {locs : List Loc} {cells slots : Nat}
theorem retI (X : Stand p l e R s m args below meth c T locs cells slots) (hx : p.tables.exec = Jvm.exec) {pc : Nat} {Ls : Array Slot} {z : Int32} {rest : List Value} (hret : meth.sig.returnType = some .int) (hd : decode c.code pc = .ok (.ireturn, 1)) {fs : List Frame}
    (hl : ∀ (f : JFrame) (acts : List Action), f.method = m → f.locked = none → f.entered = [] → (doReturn e (T.setTop f) acts (some (.int z))).1 = T.setFrames fs) : Steps p.tables e below (T.setTop (mkF m pc Ls (.int z :: rest))) (T.setFrames fs) := by
  have hm' : T.vm.method? m = some meth := X.method'
  have hn : narrow .int (.int z) = .int z := rfl
  show Steps p.tables e below (T.setTop { method := m, pc := pc, locals := Ls, stack := _ :: rest, locked := none }) _
  jvm_step X.here [X.here.top, hx, hd, hm', hret, hn]
  first | (intro acts; rw [hl _ acts rfl rfl rfl]) | rw [hl _ _ rfl rfl rfl]
  exact Steps.refl _
theorem retA (X : Stand p l e R s m args below meth c T locs cells slots) (hx : p.tables.exec = Jvm.exec) {pc : Nat} {Ls : Array Slot} {v : Value} {t : FieldType} (ht : t.isReference = true) (hv : v.isRef = true) (hret : meth.sig.returnType = some t) (hd : decode c.code pc = .ok (.areturn, 1)) {fs : List Frame}
    (hl : ∀ (f : JFrame) (acts : List Action), f.method = m → f.locked = none → f.entered = [] → (doReturn e (T.setTop f) acts (some v)).1 = T.setFrames fs) : Steps p.tables e below (T.setTop (mkF m pc Ls [v])) (T.setFrames fs) := by
  have hm' : T.vm.method? m = some meth := X.method'
  show Steps p.tables e below (T.setTop { method := m, pc := pc, locals := Ls, stack := [v], locked := none }) _
  jvm_step X.here [X.here.top, hx, hd, hm', hret, hv, ht]
  first | (intro acts; rw [hl _ acts rfl rfl rfl]) | rw [hl _ _ rfl rfl rfl]
  exact Steps.refl _
end New
end Jvm.RoadKit
namespace Jvm.Pilot.@@N@@
open Jvm Jvm.ClassFile Sem Op Lib Jvm.Free Jvm.Stand Jvm.LawKit Jvm.RoadKit Bundle Jvm.Pilot.@@N@@.Jvm.D
/-- from A the invocation comes to its end: it returns some v, P holds of v, of the heap and of the places written, and the frame is kept -/
def Rt (p : Program) (e : Env) (below : List Frame) (s : State) (k n : Nat) (P : Option Value → Heap → List Loc → Prop) (A : State) : Prop :=
  ∃ s₂ o, Steps p.tables e below A s₂ ∧ s₂.status = .running ∧ Ended s₂ below o ∧ ∃ v L, o = .returned v ∧ P v s₂.heap L ∧ FrameEnd s o s₂ L k n
/-- where the walk stands: its heap, and that all it wrote lies at n0 or above -/
def Sd (p : Program) (l : Launch) (e : Env) (R : Room) (s : State) (m : MethodId) (args : Array Value) (below : List Frame) (meth : Method) (c : Code) (T : State) (n0 cells slots : Nat) (h : Heap) : Prop :=
  ∃ locs, Stand p l e R s m args below meth c T locs cells slots ∧ Fr n0 locs ∧ T.heap = h
def lcv (j : Fin 2) : Int64 := Int64.ofNat j.val
section Own
variable {p : Program} {l : Launch} {e : Env} {R : Room} {s : State} {m : MethodId} {args : Array Value} {below : List Frame} {meth : Method} {c : Code} {T : State} {n0 cells slots : Nat} {h0 : Heap} {k n : Nat} {P : Option Value → Heap → List Loc → Prop}
theorem Rt.go {A B : State} (f : ∀ t, Steps p.tables e below B t → Steps p.tables e below A t) (h : Rt p e below s k n P B) : Rt p e below s k n P A := by
  obtain ⟨s₂, o, h1, h2⟩ := h
  exact ⟨s₂, o, f _ h1, h2⟩
theorem Rt.mono {Q : Option Value → Heap → List Loc → Prop} {A : State} (h : Rt p e below s k n Q A) (q : ∀ v h L, Q v h L → P v h L) : Rt p e below s k n P A := by
  obtain ⟨s₂, o, h1, h2, h3, v, L, h4, h5, h6⟩ := h
  exact ⟨s₂, o, h1, h2, h3, v, L, h4, q _ _ _ h5, h6⟩
theorem Rt.iloadN (X : Sd p l e R s m args below meth c T n0 cells slots h0) (hx : p.tables.exec = Jvm.exec) {pc pc' : Nat} {Ls : Array Slot} {S : List Value} {j : Fin 4} {v : Int32} (hd : decode c.code pc = .ok (.iload_n j, 1)) (hl : Ls[j.val]? = some (.val (.int v))) (hp : pc + 1 = pc')
    (h : Rt p e below s k n P (T.setTop (mkF m pc' Ls (.int v :: S)))) : Rt p e below s k n P (T.setTop (mkF m pc Ls (S))) := by
  subst hp; obtain ⟨_, X, _, _⟩ := X; exact Rt.go (fun _ => XS.iloadN X.here hx rfl hd hl) h
theorem Rt.iload (X : Sd p l e R s m args below meth c T n0 cells slots h0) (hx : p.tables.exec = Jvm.exec) {pc pc' : Nat} {Ls : Array Slot} {S : List Value} {j : Nat} {v : Int32} (hd : decode c.code pc = .ok (.iload j, 2)) (hl : Ls[j]? = some (.val (.int v))) (hp : pc + 2 = pc')
    (h : Rt p e below s k n P (T.setTop (mkF m pc' Ls (.int v :: S)))) : Rt p e below s k n P (T.setTop (mkF m pc Ls (S))) := by
  subst hp; obtain ⟨_, X, _, _⟩ := X; exact Rt.go (fun _ => XS.iload X.here hx rfl hd hl) h
theorem Rt.istoreN (X : Sd p l e R s m args below meth c T n0 cells slots h0) (hx : p.tables.exec = Jvm.exec) {pc pc' : Nat} {Ls : Array Slot} {S : List Value} {j : Fin 4} {v : Int32} {l' : Array Slot} (hd : decode c.code pc = .ok (.istore_n j, 1)) (hl : storeLocals Ls j.val (.int v) = some l') (hp : pc + 1 = pc')
    (h : Rt p e below s k n P (T.setTop (mkF m pc' l' (S)))) : Rt p e below s k n P (T.setTop (mkF m pc Ls (.int v :: S))) := by
  subst hp; obtain ⟨_, X, _, _⟩ := X; exact Rt.go (fun _ => XS.istoreN X.here hx rfl hd rfl hl) h
theorem Rt.istore (X : Sd p l e R s m args below meth c T n0 cells slots h0) (hx : p.tables.exec = Jvm.exec) {pc pc' : Nat} {Ls : Array Slot} {S : List Value} {j : Nat} {v : Int32} {l' : Array Slot} (hd : decode c.code pc = .ok (.istore j, 2)) (hl : storeLocals Ls j (.int v) = some l') (hp : pc + 2 = pc')
    (h : Rt p e below s k n P (T.setTop (mkF m pc' l' (S)))) : Rt p e below s k n P (T.setTop (mkF m pc Ls (.int v :: S))) := by
  subst hp; obtain ⟨_, X, _, _⟩ := X; exact Rt.go (fun _ => XS.istore X.here hx rfl hd rfl hl) h
theorem Rt.lloadN (X : Sd p l e R s m args below meth c T n0 cells slots h0) (hx : p.tables.exec = Jvm.exec) {pc pc' : Nat} {Ls : Array Slot} {S : List Value} {j : Fin 4} {v : Int64} (hd : decode c.code pc = .ok (.lload_n j, 1)) (hl : Ls[j.val]? = some (.val (.long v))) (hp : pc + 1 = pc')
    (h : Rt p e below s k n P (T.setTop (mkF m pc' Ls (.long v :: S)))) : Rt p e below s k n P (T.setTop (mkF m pc Ls (S))) := by
  subst hp; obtain ⟨_, X, _, _⟩ := X; exact Rt.go (fun _ => XS.lloadN X.here hx rfl hd hl) h
theorem Rt.lload (X : Sd p l e R s m args below meth c T n0 cells slots h0) (hx : p.tables.exec = Jvm.exec) {pc pc' : Nat} {Ls : Array Slot} {S : List Value} {j : Nat} {v : Int64} (hd : decode c.code pc = .ok (.lload j, 2)) (hl : Ls[j]? = some (.val (.long v))) (hp : pc + 2 = pc')
    (h : Rt p e below s k n P (T.setTop (mkF m pc' Ls (.long v :: S)))) : Rt p e below s k n P (T.setTop (mkF m pc Ls (S))) := by
  subst hp; obtain ⟨_, X, _, _⟩ := X; exact Rt.go (fun _ => XS.lload X.here hx rfl hd hl) h
theorem Rt.lstoreN (X : Sd p l e R s m args below meth c T n0 cells slots h0) (hx : p.tables.exec = Jvm.exec) {pc pc' : Nat} {Ls : Array Slot} {S : List Value} {j : Fin 4} {v : Int64} {l' : Array Slot} (hd : decode c.code pc = .ok (.lstore_n j, 1)) (hl : storeLocals Ls j.val (.long v) = some l') (hp : pc + 1 = pc')
    (h : Rt p e below s k n P (T.setTop (mkF m pc' l' (S)))) : Rt p e below s k n P (T.setTop (mkF m pc Ls (.long v :: S))) := by
  subst hp; obtain ⟨_, X, _, _⟩ := X; exact Rt.go (fun _ => XS.lstoreN X.here hx rfl hd rfl hl) h
theorem Rt.lstore (X : Sd p l e R s m args below meth c T n0 cells slots h0) (hx : p.tables.exec = Jvm.exec) {pc pc' : Nat} {Ls : Array Slot} {S : List Value} {j : Nat} {v : Int64} {l' : Array Slot} (hd : decode c.code pc = .ok (.lstore j, 2)) (hl : storeLocals Ls j (.long v) = some l') (hp : pc + 2 = pc')
    (h : Rt p e below s k n P (T.setTop (mkF m pc' l' (S)))) : Rt p e below s k n P (T.setTop (mkF m pc Ls (.long v :: S))) := by
  subst hp; obtain ⟨_, X, _, _⟩ := X; exact Rt.go (fun _ => XS.lstore X.here hx rfl hd rfl hl) h
theorem Rt.aloadN (X : Sd p l e R s m args below meth c T n0 cells slots h0) (hx : p.tables.exec = Jvm.exec) {pc pc' : Nat} {Ls : Array Slot} {S : List Value} {j : Fin 4} {v : Value} (hd : decode c.code pc = .ok (.aload_n j, 1)) (hl : Ls[j.val]? = some (.val v)) (hv : v.isRef = true) (hp : pc + 1 = pc')
    (h : Rt p e below s k n P (T.setTop (mkF m pc' Ls (v :: S)))) : Rt p e below s k n P (T.setTop (mkF m pc Ls (S))) := by
  subst hp; obtain ⟨_, X, _, _⟩ := X; exact Rt.go (fun _ => XS.aloadN X.here hx rfl hd hl hv) h
theorem Rt.aload (X : Sd p l e R s m args below meth c T n0 cells slots h0) (hx : p.tables.exec = Jvm.exec) {pc pc' : Nat} {Ls : Array Slot} {S : List Value} {j : Nat} {v : Value} (hd : decode c.code pc = .ok (.aload j, 2)) (hl : Ls[j]? = some (.val v)) (hv : v.isRef = true) (hp : pc + 2 = pc')
    (h : Rt p e below s k n P (T.setTop (mkF m pc' Ls (v :: S)))) : Rt p e below s k n P (T.setTop (mkF m pc Ls (S))) := by
  subst hp; obtain ⟨_, X, _, _⟩ := X; exact Rt.go (fun _ => XS.aload X.here hx rfl hd hl hv) h
theorem Rt.astoreN (X : Sd p l e R s m args below meth c T n0 cells slots h0) (hx : p.tables.exec = Jvm.exec) {pc pc' : Nat} {Ls : Array Slot} {S : List Value} {j : Fin 4} {v : Value} {l' : Array Slot} (hd : decode c.code pc = .ok (.astore_n j, 1)) (hv : v.isRef = true) (hl : storeLocals Ls j.val v = some l') (hp : pc + 1 = pc')
    (h : Rt p e below s k n P (T.setTop (mkF m pc' l' (S)))) : Rt p e below s k n P (T.setTop (mkF m pc Ls (v :: S))) := by
  subst hp; obtain ⟨_, X, _, _⟩ := X; exact Rt.go (fun _ => XS.astoreN X.here hx rfl hd rfl hv hl) h
theorem Rt.astore (X : Sd p l e R s m args below meth c T n0 cells slots h0) (hx : p.tables.exec = Jvm.exec) {pc pc' : Nat} {Ls : Array Slot} {S : List Value} {j : Nat} {v : Value} {l' : Array Slot} (hd : decode c.code pc = .ok (.astore j, 2)) (hv : v.isRef = true) (hl : storeLocals Ls j v = some l') (hp : pc + 2 = pc')
    (h : Rt p e below s k n P (T.setTop (mkF m pc' l' (S)))) : Rt p e below s k n P (T.setTop (mkF m pc Ls (v :: S))) := by
  subst hp; obtain ⟨_, X, _, _⟩ := X; exact Rt.go (fun _ => XS.astore X.here hx rfl hd rfl hv hl) h
theorem Rt.iconst (X : Sd p l e R s m args below meth c T n0 cells slots h0) (hx : p.tables.exec = Jvm.exec) {pc pc' : Nat} {Ls : Array Slot} {S : List Value} {i : Int} {v : Int32} (hd : decode c.code pc = .ok (.iconst i, 1)) (hv : Int32.ofInt i = v) (hp : pc + 1 = pc')
    (h : Rt p e below s k n P (T.setTop (mkF m pc' Ls (.int v :: S)))) : Rt p e below s k n P (T.setTop (mkF m pc Ls S)) := by
  subst hp hv; obtain ⟨_, X, _, _⟩ := X; exact Rt.go (fun _ => XS.iconst X.here hx rfl hd) h
theorem Rt.bipush (X : Sd p l e R s m args below meth c T n0 cells slots h0) (hx : p.tables.exec = Jvm.exec) {pc pc' : Nat} {Ls : Array Slot} {S : List Value} {i : Int} {v : Int32} (hd : decode c.code pc = .ok (.bipush i, 2)) (hv : (Int8.ofInt i).toInt32 = v) (hp : pc + 2 = pc')
    (h : Rt p e below s k n P (T.setTop (mkF m pc' Ls (.int v :: S)))) : Rt p e below s k n P (T.setTop (mkF m pc Ls S)) := by
  subst hp hv; obtain ⟨_, X, _, _⟩ := X; exact Rt.go (fun _ => XS.bipush X.here hx rfl hd) h
theorem Rt.sipush (X : Sd p l e R s m args below meth c T n0 cells slots h0) (hx : p.tables.exec = Jvm.exec) {pc pc' : Nat} {Ls : Array Slot} {S : List Value} {i : Int} {v : Int32} (hd : decode c.code pc = .ok (.sipush i, 3)) (hv : (Int16.ofInt i).toInt32 = v) (hp : pc + 3 = pc')
    (h : Rt p e below s k n P (T.setTop (mkF m pc' Ls (.int v :: S)))) : Rt p e below s k n P (T.setTop (mkF m pc Ls S)) := by
  subst hp hv; obtain ⟨_, X, _, _⟩ := X; exact Rt.go (fun _ => XS.sipush X.here hx rfl hd) h
theorem Rt.lconst (X : Sd p l e R s m args below meth c T n0 cells slots h0) (hx : p.tables.exec = Jvm.exec) {pc pc' : Nat} {Ls : Array Slot} {S : List Value} {i : Fin 2} {v : Int64} (hd : decode c.code pc = .ok (.lconst i, 1)) (hv : lcv i = v) (hp : pc + 1 = pc')
    (h : Rt p e below s k n P (T.setTop (mkF m pc' Ls (.long v :: S)))) : Rt p e below s k n P (T.setTop (mkF m pc Ls S)) := by
  subst hp hv; obtain ⟨_, X, _, _⟩ := X; exact Rt.go (fun _ => XS.lconst X.here hx rfl hd) h
theorem Rt.aconstNull (X : Sd p l e R s m args below meth c T n0 cells slots h0) (hx : p.tables.exec = Jvm.exec) {pc pc' : Nat} {Ls : Array Slot} {S : List Value}  (hd : decode c.code pc = .ok (.aconst_null, 1)) (hp : pc + 1 = pc')
    (h : Rt p e below s k n P (T.setTop (mkF m pc' Ls (.null :: S)))) : Rt p e below s k n P (T.setTop (mkF m pc Ls (S))) := by
  subst hp; obtain ⟨_, X, _, _⟩ := X; exact Rt.go (fun _ => XS.aconstNull X.here hx rfl hd ) h
theorem Rt.iadd (X : Sd p l e R s m args below meth c T n0 cells slots h0) (hx : p.tables.exec = Jvm.exec) {pc pc' : Nat} {Ls : Array Slot} {S : List Value} {x y r : Int32} (hd : decode c.code pc = .ok (.iadd, 1)) (hr : x + y = r) (hp : pc + 1 = pc')
    (h : Rt p e below s k n P (T.setTop (mkF m pc' Ls (.int r :: S)))) : Rt p e below s k n P (T.setTop (mkF m pc Ls (.int y :: .int x :: S))) := by
  subst hp hr; obtain ⟨_, X, _, _⟩ := X; exact Rt.go (fun _ => XS.iadd X.here hx rfl hd rfl) h
theorem Rt.isub (X : Sd p l e R s m args below meth c T n0 cells slots h0) (hx : p.tables.exec = Jvm.exec) {pc pc' : Nat} {Ls : Array Slot} {S : List Value} {x y r : Int32} (hd : decode c.code pc = .ok (.isub, 1)) (hr : x - y = r) (hp : pc + 1 = pc')
    (h : Rt p e below s k n P (T.setTop (mkF m pc' Ls (.int r :: S)))) : Rt p e below s k n P (T.setTop (mkF m pc Ls (.int y :: .int x :: S))) := by
  subst hp hr; obtain ⟨_, X, _, _⟩ := X; exact Rt.go (fun _ => XS.isub X.here hx rfl hd rfl) h
theorem Rt.imul (X : Sd p l e R s m args below meth c T n0 cells slots h0) (hx : p.tables.exec = Jvm.exec) {pc pc' : Nat} {Ls : Array Slot} {S : List Value} {x y r : Int32} (hd : decode c.code pc = .ok (.imul, 1)) (hr : x * y = r) (hp : pc + 1 = pc')
    (h : Rt p e below s k n P (T.setTop (mkF m pc' Ls (.int r :: S)))) : Rt p e below s k n P (T.setTop (mkF m pc Ls (.int y :: .int x :: S))) := by
  subst hp hr; obtain ⟨_, X, _, _⟩ := X; exact Rt.go (fun _ => XS.imul X.here hx rfl hd rfl) h
theorem Rt.iand (X : Sd p l e R s m args below meth c T n0 cells slots h0) (hx : p.tables.exec = Jvm.exec) {pc pc' : Nat} {Ls : Array Slot} {S : List Value} {x y r : Int32} (hd : decode c.code pc = .ok (.iand, 1)) (hr : x &&& y = r) (hp : pc + 1 = pc')
    (h : Rt p e below s k n P (T.setTop (mkF m pc' Ls (.int r :: S)))) : Rt p e below s k n P (T.setTop (mkF m pc Ls (.int y :: .int x :: S))) := by
  subst hp hr; obtain ⟨_, X, _, _⟩ := X; exact Rt.go (fun _ => XS.iand X.here hx rfl hd rfl) h
theorem Rt.ior (X : Sd p l e R s m args below meth c T n0 cells slots h0) (hx : p.tables.exec = Jvm.exec) {pc pc' : Nat} {Ls : Array Slot} {S : List Value} {x y r : Int32} (hd : decode c.code pc = .ok (.ior, 1)) (hr : x ||| y = r) (hp : pc + 1 = pc')
    (h : Rt p e below s k n P (T.setTop (mkF m pc' Ls (.int r :: S)))) : Rt p e below s k n P (T.setTop (mkF m pc Ls (.int y :: .int x :: S))) := by
  subst hp hr; obtain ⟨_, X, _, _⟩ := X; exact Rt.go (fun _ => XS.ior X.here hx rfl hd rfl) h
theorem Rt.ixor (X : Sd p l e R s m args below meth c T n0 cells slots h0) (hx : p.tables.exec = Jvm.exec) {pc pc' : Nat} {Ls : Array Slot} {S : List Value} {x y r : Int32} (hd : decode c.code pc = .ok (.ixor, 1)) (hr : x ^^^ y = r) (hp : pc + 1 = pc')
    (h : Rt p e below s k n P (T.setTop (mkF m pc' Ls (.int r :: S)))) : Rt p e below s k n P (T.setTop (mkF m pc Ls (.int y :: .int x :: S))) := by
  subst hp hr; obtain ⟨_, X, _, _⟩ := X; exact Rt.go (fun _ => XS.ixor X.here hx rfl hd rfl) h
theorem Rt.ishl (X : Sd p l e R s m args below meth c T n0 cells slots h0) (hx : p.tables.exec = Jvm.exec) {pc pc' : Nat} {Ls : Array Slot} {S : List Value} {x y r : Int32} (hd : decode c.code pc = .ok (.ishl, 1)) (hr : x <<< (y &&& 31) = r) (hp : pc + 1 = pc')
    (h : Rt p e below s k n P (T.setTop (mkF m pc' Ls (.int r :: S)))) : Rt p e below s k n P (T.setTop (mkF m pc Ls (.int y :: .int x :: S))) := by
  subst hp hr; obtain ⟨_, X, _, _⟩ := X; exact Rt.go (fun _ => XS.ishl X.here hx rfl hd rfl) h
theorem Rt.ishr (X : Sd p l e R s m args below meth c T n0 cells slots h0) (hx : p.tables.exec = Jvm.exec) {pc pc' : Nat} {Ls : Array Slot} {S : List Value} {x y r : Int32} (hd : decode c.code pc = .ok (.ishr, 1)) (hr : x >>> (y &&& 31) = r) (hp : pc + 1 = pc')
    (h : Rt p e below s k n P (T.setTop (mkF m pc' Ls (.int r :: S)))) : Rt p e below s k n P (T.setTop (mkF m pc Ls (.int y :: .int x :: S))) := by
  subst hp hr; obtain ⟨_, X, _, _⟩ := X; exact Rt.go (fun _ => XS.ishr X.here hx rfl hd rfl) h
theorem Rt.iushr (X : Sd p l e R s m args below meth c T n0 cells slots h0) (hx : p.tables.exec = Jvm.exec) {pc pc' : Nat} {Ls : Array Slot} {S : List Value} {x y r : Int32} (hd : decode c.code pc = .ok (.iushr, 1)) (hr : (x.toUInt32 >>> (y &&& 31).toUInt32).toInt32 = r) (hp : pc + 1 = pc')
    (h : Rt p e below s k n P (T.setTop (mkF m pc' Ls (.int r :: S)))) : Rt p e below s k n P (T.setTop (mkF m pc Ls (.int y :: .int x :: S))) := by
  subst hp hr; obtain ⟨_, X, _, _⟩ := X; exact Rt.go (fun _ => XS.iushr X.here hx rfl hd rfl) h
theorem Rt.ladd (X : Sd p l e R s m args below meth c T n0 cells slots h0) (hx : p.tables.exec = Jvm.exec) {pc pc' : Nat} {Ls : Array Slot} {S : List Value} {x y r : Int64} (hd : decode c.code pc = .ok (.ladd, 1)) (hr : x + y = r) (hp : pc + 1 = pc')
    (h : Rt p e below s k n P (T.setTop (mkF m pc' Ls (.long r :: S)))) : Rt p e below s k n P (T.setTop (mkF m pc Ls (.long y :: .long x :: S))) := by
  subst hp hr; obtain ⟨_, X, _, _⟩ := X; exact Rt.go (fun _ => XS.ladd X.here hx rfl hd rfl) h
theorem Rt.lsub (X : Sd p l e R s m args below meth c T n0 cells slots h0) (hx : p.tables.exec = Jvm.exec) {pc pc' : Nat} {Ls : Array Slot} {S : List Value} {x y r : Int64} (hd : decode c.code pc = .ok (.lsub, 1)) (hr : x - y = r) (hp : pc + 1 = pc')
    (h : Rt p e below s k n P (T.setTop (mkF m pc' Ls (.long r :: S)))) : Rt p e below s k n P (T.setTop (mkF m pc Ls (.long y :: .long x :: S))) := by
  subst hp hr; obtain ⟨_, X, _, _⟩ := X; exact Rt.go (fun _ => XS.lsub X.here hx rfl hd rfl) h
theorem Rt.lmul (X : Sd p l e R s m args below meth c T n0 cells slots h0) (hx : p.tables.exec = Jvm.exec) {pc pc' : Nat} {Ls : Array Slot} {S : List Value} {x y r : Int64} (hd : decode c.code pc = .ok (.lmul, 1)) (hr : x * y = r) (hp : pc + 1 = pc')
    (h : Rt p e below s k n P (T.setTop (mkF m pc' Ls (.long r :: S)))) : Rt p e below s k n P (T.setTop (mkF m pc Ls (.long y :: .long x :: S))) := by
  subst hp hr; obtain ⟨_, X, _, _⟩ := X; exact Rt.go (fun _ => XS.lmul X.here hx rfl hd rfl) h
theorem Rt.land (X : Sd p l e R s m args below meth c T n0 cells slots h0) (hx : p.tables.exec = Jvm.exec) {pc pc' : Nat} {Ls : Array Slot} {S : List Value} {x y r : Int64} (hd : decode c.code pc = .ok (.land, 1)) (hr : x &&& y = r) (hp : pc + 1 = pc')
    (h : Rt p e below s k n P (T.setTop (mkF m pc' Ls (.long r :: S)))) : Rt p e below s k n P (T.setTop (mkF m pc Ls (.long y :: .long x :: S))) := by
  subst hp hr; obtain ⟨_, X, _, _⟩ := X; exact Rt.go (fun _ => XS.land X.here hx rfl hd rfl) h
theorem Rt.lor (X : Sd p l e R s m args below meth c T n0 cells slots h0) (hx : p.tables.exec = Jvm.exec) {pc pc' : Nat} {Ls : Array Slot} {S : List Value} {x y r : Int64} (hd : decode c.code pc = .ok (.lor, 1)) (hr : x ||| y = r) (hp : pc + 1 = pc')
    (h : Rt p e below s k n P (T.setTop (mkF m pc' Ls (.long r :: S)))) : Rt p e below s k n P (T.setTop (mkF m pc Ls (.long y :: .long x :: S))) := by
  subst hp hr; obtain ⟨_, X, _, _⟩ := X; exact Rt.go (fun _ => XS.lor X.here hx rfl hd rfl) h
theorem Rt.lxor (X : Sd p l e R s m args below meth c T n0 cells slots h0) (hx : p.tables.exec = Jvm.exec) {pc pc' : Nat} {Ls : Array Slot} {S : List Value} {x y r : Int64} (hd : decode c.code pc = .ok (.lxor, 1)) (hr : x ^^^ y = r) (hp : pc + 1 = pc')
    (h : Rt p e below s k n P (T.setTop (mkF m pc' Ls (.long r :: S)))) : Rt p e below s k n P (T.setTop (mkF m pc Ls (.long y :: .long x :: S))) := by
  subst hp hr; obtain ⟨_, X, _, _⟩ := X; exact Rt.go (fun _ => XS.lxor X.here hx rfl hd rfl) h
theorem Rt.lshl (X : Sd p l e R s m args below meth c T n0 cells slots h0) (hx : p.tables.exec = Jvm.exec) {pc pc' : Nat} {Ls : Array Slot} {S : List Value} {x r : Int64} {y : Int32} (hd : decode c.code pc = .ok (.lshl, 1)) (hr : x <<< (y &&& 0x3f).toInt64 = r) (hp : pc + 1 = pc')
    (h : Rt p e below s k n P (T.setTop (mkF m pc' Ls (.long r :: S)))) : Rt p e below s k n P (T.setTop (mkF m pc Ls (.int y :: .long x :: S))) := by
  subst hp hr; obtain ⟨_, X, _, _⟩ := X; exact Rt.go (fun _ => XS.lshl X.here hx rfl hd rfl) h
theorem Rt.lshr (X : Sd p l e R s m args below meth c T n0 cells slots h0) (hx : p.tables.exec = Jvm.exec) {pc pc' : Nat} {Ls : Array Slot} {S : List Value} {x r : Int64} {y : Int32} (hd : decode c.code pc = .ok (.lshr, 1)) (hr : x >>> (y &&& 0x3f).toInt64 = r) (hp : pc + 1 = pc')
    (h : Rt p e below s k n P (T.setTop (mkF m pc' Ls (.long r :: S)))) : Rt p e below s k n P (T.setTop (mkF m pc Ls (.int y :: .long x :: S))) := by
  subst hp hr; obtain ⟨_, X, _, _⟩ := X; exact Rt.go (fun _ => XS.lshr X.here hx rfl hd rfl) h
theorem Rt.lushr (X : Sd p l e R s m args below meth c T n0 cells slots h0) (hx : p.tables.exec = Jvm.exec) {pc pc' : Nat} {Ls : Array Slot} {S : List Value} {x r : Int64} {y : Int32} (hd : decode c.code pc = .ok (.lushr, 1)) (hr : (x.toUInt64 >>> (y &&& 0x3f).toInt64.toUInt64).toInt64 = r) (hp : pc + 1 = pc')
    (h : Rt p e below s k n P (T.setTop (mkF m pc' Ls (.long r :: S)))) : Rt p e below s k n P (T.setTop (mkF m pc Ls (.int y :: .long x :: S))) := by
  subst hp hr; obtain ⟨_, X, _, _⟩ := X; exact Rt.go (fun _ => XS.lushr X.here hx rfl hd rfl) h
theorem Rt.idiv (X : Sd p l e R s m args below meth c T n0 cells slots h0) (hx : p.tables.exec = Jvm.exec) {pc pc' : Nat} {Ls : Array Slot} {S : List Value} {x y r : Int32} (hd : decode c.code pc = .ok (.idiv, 1)) (hy : y ≠ 0) (hr : x / y = r) (hp : pc + 1 = pc')
    (h : Rt p e below s k n P (T.setTop (mkF m pc' Ls (.int r :: S)))) : Rt p e below s k n P (T.setTop (mkF m pc Ls (.int y :: .int x :: S))) := by
  subst hp hr; obtain ⟨_, X, _, _⟩ := X; exact Rt.go (fun _ => XS.idiv X.here hx rfl hd rfl hy) h
theorem Rt.irem (X : Sd p l e R s m args below meth c T n0 cells slots h0) (hx : p.tables.exec = Jvm.exec) {pc pc' : Nat} {Ls : Array Slot} {S : List Value} {x y r : Int32} (hd : decode c.code pc = .ok (.irem, 1)) (hy : y ≠ 0) (hr : x % y = r) (hp : pc + 1 = pc')
    (h : Rt p e below s k n P (T.setTop (mkF m pc' Ls (.int r :: S)))) : Rt p e below s k n P (T.setTop (mkF m pc Ls (.int y :: .int x :: S))) := by
  subst hp hr; obtain ⟨_, X, _, _⟩ := X; exact Rt.go (fun _ => iremM X hx rfl hd rfl hy) h
theorem Rt.ldiv (X : Sd p l e R s m args below meth c T n0 cells slots h0) (hx : p.tables.exec = Jvm.exec) {pc pc' : Nat} {Ls : Array Slot} {S : List Value} {x y r : Int64} (hd : decode c.code pc = .ok (.ldiv, 1)) (hy : y ≠ 0) (hr : x / y = r) (hp : pc + 1 = pc')
    (h : Rt p e below s k n P (T.setTop (mkF m pc' Ls (.long r :: S)))) : Rt p e below s k n P (T.setTop (mkF m pc Ls (.long y :: .long x :: S))) := by
  subst hp hr; obtain ⟨_, X, _, _⟩ := X; exact Rt.go (fun _ => XS.ldiv X.here hx rfl hd rfl hy) h
theorem Rt.lrem (X : Sd p l e R s m args below meth c T n0 cells slots h0) (hx : p.tables.exec = Jvm.exec) {pc pc' : Nat} {Ls : Array Slot} {S : List Value} {x y r : Int64} (hd : decode c.code pc = .ok (.lrem, 1)) (hy : y ≠ 0) (hr : x - (x / y) * y = r) (hp : pc + 1 = pc')
    (h : Rt p e below s k n P (T.setTop (mkF m pc' Ls (.long r :: S)))) : Rt p e below s k n P (T.setTop (mkF m pc Ls (.long y :: .long x :: S))) := by
  subst hp hr; obtain ⟨_, X, _, _⟩ := X; exact Rt.go (fun _ => XS.lrem X.here hx rfl hd rfl hy) h
theorem Rt.ineg (X : Sd p l e R s m args below meth c T n0 cells slots h0) (hx : p.tables.exec = Jvm.exec) {pc pc' : Nat} {Ls : Array Slot} {S : List Value} {v : Int32} {r : Int32} (hd : decode c.code pc = .ok (.ineg, 1)) (hr : -v = r) (hp : pc + 1 = pc')
    (h : Rt p e below s k n P (T.setTop (mkF m pc' Ls (.int r :: S)))) : Rt p e below s k n P (T.setTop (mkF m pc Ls (.int v :: S))) := by
  subst hp hr; obtain ⟨_, X, _, _⟩ := X; exact Rt.go (fun _ => XS.ineg X.here hx rfl hd rfl) h
theorem Rt.lneg (X : Sd p l e R s m args below meth c T n0 cells slots h0) (hx : p.tables.exec = Jvm.exec) {pc pc' : Nat} {Ls : Array Slot} {S : List Value} {v : Int64} {r : Int64} (hd : decode c.code pc = .ok (.lneg, 1)) (hr : -v = r) (hp : pc + 1 = pc')
    (h : Rt p e below s k n P (T.setTop (mkF m pc' Ls (.long r :: S)))) : Rt p e below s k n P (T.setTop (mkF m pc Ls (.long v :: S))) := by
  subst hp hr; obtain ⟨_, X, _, _⟩ := X; exact Rt.go (fun _ => XS.lneg X.here hx rfl hd rfl) h
theorem Rt.i2l (X : Sd p l e R s m args below meth c T n0 cells slots h0) (hx : p.tables.exec = Jvm.exec) {pc pc' : Nat} {Ls : Array Slot} {S : List Value} {v : Int32} {r : Int64} (hd : decode c.code pc = .ok (.i2l, 1)) (hr : v.toInt64 = r) (hp : pc + 1 = pc')
    (h : Rt p e below s k n P (T.setTop (mkF m pc' Ls (.long r :: S)))) : Rt p e below s k n P (T.setTop (mkF m pc Ls (.int v :: S))) := by
  subst hp hr; obtain ⟨_, X, _, _⟩ := X; exact Rt.go (fun _ => XS.i2l X.here hx rfl hd rfl) h
theorem Rt.l2i (X : Sd p l e R s m args below meth c T n0 cells slots h0) (hx : p.tables.exec = Jvm.exec) {pc pc' : Nat} {Ls : Array Slot} {S : List Value} {v : Int64} {r : Int32} (hd : decode c.code pc = .ok (.l2i, 1)) (hr : v.toInt32 = r) (hp : pc + 1 = pc')
    (h : Rt p e below s k n P (T.setTop (mkF m pc' Ls (.int r :: S)))) : Rt p e below s k n P (T.setTop (mkF m pc Ls (.long v :: S))) := by
  subst hp hr; obtain ⟨_, X, _, _⟩ := X; exact Rt.go (fun _ => XS.l2i X.here hx rfl hd rfl) h
theorem Rt.i2b (X : Sd p l e R s m args below meth c T n0 cells slots h0) (hx : p.tables.exec = Jvm.exec) {pc pc' : Nat} {Ls : Array Slot} {S : List Value} {v : Int32} {r : Int32} (hd : decode c.code pc = .ok (.i2b, 1)) (hr : v.toInt8.toInt32 = r) (hp : pc + 1 = pc')
    (h : Rt p e below s k n P (T.setTop (mkF m pc' Ls (.int r :: S)))) : Rt p e below s k n P (T.setTop (mkF m pc Ls (.int v :: S))) := by
  subst hp hr; obtain ⟨_, X, _, _⟩ := X; exact Rt.go (fun _ => XS.i2b X.here hx rfl hd rfl) h
theorem Rt.i2s (X : Sd p l e R s m args below meth c T n0 cells slots h0) (hx : p.tables.exec = Jvm.exec) {pc pc' : Nat} {Ls : Array Slot} {S : List Value} {v : Int32} {r : Int32} (hd : decode c.code pc = .ok (.i2s, 1)) (hr : v.toInt16.toInt32 = r) (hp : pc + 1 = pc')
    (h : Rt p e below s k n P (T.setTop (mkF m pc' Ls (.int r :: S)))) : Rt p e below s k n P (T.setTop (mkF m pc Ls (.int v :: S))) := by
  subst hp hr; obtain ⟨_, X, _, _⟩ := X; exact Rt.go (fun _ => XS.i2s X.here hx rfl hd rfl) h
theorem Rt.i2c (X : Sd p l e R s m args below meth c T n0 cells slots h0) (hx : p.tables.exec = Jvm.exec) {pc pc' : Nat} {Ls : Array Slot} {S : List Value} {v : Int32} {r : Int32} (hd : decode c.code pc = .ok (.i2c, 1)) (hr : v.toUInt32.toUInt16.toUInt32.toInt32 = r) (hp : pc + 1 = pc')
    (h : Rt p e below s k n P (T.setTop (mkF m pc' Ls (.int r :: S)))) : Rt p e below s k n P (T.setTop (mkF m pc Ls (.int v :: S))) := by
  subst hp hr; obtain ⟨_, X, _, _⟩ := X; exact Rt.go (fun _ => XS.i2c X.here hx rfl hd rfl) h
theorem Rt.lcmp (X : Sd p l e R s m args below meth c T n0 cells slots h0) (hx : p.tables.exec = Jvm.exec) {pc pc' : Nat} {Ls : Array Slot} {S : List Value} {x y : Int64} (hd : decode c.code pc = .ok (.lcmp, 1)) (hp : pc + 1 = pc')
    (h : Rt p e below s k n P (T.setTop (mkF m pc' Ls (.int (lcmpW x y) :: S)))) : Rt p e below s k n P (T.setTop (mkF m pc Ls (.long y :: .long x :: S))) := by
  subst hp; obtain ⟨_, X, _, _⟩ := X; exact Rt.go (fun _ => XS.lcmp X.here hx rfl hd rfl) h
theorem Rt.iinc (X : Sd p l e R s m args below meth c T n0 cells slots h0) (hx : p.tables.exec = Jvm.exec) {pc pc' : Nat} {Ls : Array Slot} {S : List Value} {j : Nat} {cst : Int} {x r : Int32} {l' : Array Slot} (hd : decode c.code pc = .ok (.iinc j cst, 3)) (hl : Ls[j]? = some (.val (.int x))) (hr : x + Int32.ofInt cst = r) (hl' : storeLocals Ls j (.int r) = some l') (hp : pc + 3 = pc')
    (h : Rt p e below s k n P (T.setTop (mkF m pc' l' S))) : Rt p e below s k n P (T.setTop (mkF m pc Ls S)) := by
  subst hp hr; obtain ⟨_, X, _, _⟩ := X; exact Rt.go (fun _ => XS.iinc X.here hx rfl hd hl hl') h
theorem Rt.dup (X : Sd p l e R s m args below meth c T n0 cells slots h0) (hx : p.tables.exec = Jvm.exec) {pc pc' : Nat} {Ls : Array Slot} {S : List Value} {x : Value} (hd : decode c.code pc = .ok (.dup, 1)) (hc : x.category = 1) (hp : pc + 1 = pc')
    (h : Rt p e below s k n P (T.setTop (mkF m pc' Ls (x :: x :: S)))) : Rt p e below s k n P (T.setTop (mkF m pc Ls (x :: S))) := by
  subst hp; obtain ⟨_, X, _, _⟩ := X; exact Rt.go (fun _ => XS.dup X.here hx rfl hd rfl hc) h
theorem Rt.pop (X : Sd p l e R s m args below meth c T n0 cells slots h0) (hx : p.tables.exec = Jvm.exec) {pc pc' : Nat} {Ls : Array Slot} {S : List Value} {x : Value} (hd : decode c.code pc = .ok (.pop, 1)) (hc : x.category = 1) (hp : pc + 1 = pc')
    (h : Rt p e below s k n P (T.setTop (mkF m pc' Ls (S)))) : Rt p e below s k n P (T.setTop (mkF m pc Ls (x :: S))) := by
  subst hp; obtain ⟨_, X, _, _⟩ := X; exact Rt.go (fun _ => XS.pop X.here hx rfl hd rfl hc) h
theorem Rt.dup2 (X : Sd p l e R s m args below meth c T n0 cells slots h0) (hx : p.tables.exec = Jvm.exec) {pc pc' : Nat} {Ls : Array Slot} {S : List Value} {x y : Value} (hd : decode c.code pc = .ok (.dup2, 1)) (hc : x.category = 1) (hc2 : y.category = 1) (hp : pc + 1 = pc')
    (h : Rt p e below s k n P (T.setTop (mkF m pc' Ls (x :: y :: x :: y :: S)))) : Rt p e below s k n P (T.setTop (mkF m pc Ls (x :: y :: S))) := by
  subst hp; obtain ⟨_, X, _, _⟩ := X; exact Rt.go (fun _ => XT.dup2 X.here hx rfl hd rfl hc hc2) h
theorem Rt.dupX1 (X : Sd p l e R s m args below meth c T n0 cells slots h0) (hx : p.tables.exec = Jvm.exec) {pc pc' : Nat} {Ls : Array Slot} {S : List Value} {x y : Value} (hd : decode c.code pc = .ok (.dup_x1, 1)) (hc : x.category = 1) (hc2 : y.category = 1) (hp : pc + 1 = pc')
    (h : Rt p e below s k n P (T.setTop (mkF m pc' Ls (x :: y :: x :: S)))) : Rt p e below s k n P (T.setTop (mkF m pc Ls (x :: y :: S))) := by
  subst hp; obtain ⟨_, X, _, _⟩ := X; exact Rt.go (fun _ => XS.dupX1 X.here hx rfl hd rfl hc hc2) h
theorem Rt.goto (X : Sd p l e R s m args below meth c T n0 cells slots h0) (hx : p.tables.exec = Jvm.exec) {pc pc' : Nat} {Ls : Array Slot} {S : List Value} {o : Int} (hd : decode c.code pc = .ok (.goto o, 3)) (ho : 0 ≤ (pc : Int) + o) (hp : ((pc : Int) + o).toNat = pc')
    (h : Rt p e below s k n P (T.setTop (mkF m pc' Ls S))) : Rt p e below s k n P (T.setTop (mkF m pc Ls S)) := by
  obtain ⟨_, X, _, _⟩ := X; exact Rt.go (fun _ => XS.goto X.here hx rfl (pc0 := pc) rfl hd ho hp) h
theorem Rt.ifY (X : Sd p l e R s m args below meth c T n0 cells slots h0) (hx : p.tables.exec = Jvm.exec) {pc pc' : Nat} {Ls : Array Slot} {S : List Value} {o : Int} {cd : ClassFile.Cond} {x : Int32} (hd : decode c.code pc = .ok (.ifCond cd o, 3)) (hc : ifCond.holds cd x = true) (ho : 0 ≤ (pc : Int) + o) (hp : ((pc : Int) + o).toNat = pc')
    (h : Rt p e below s k n P (T.setTop (mkF m pc' Ls S))) : Rt p e below s k n P (T.setTop (mkF m pc Ls (.int x :: S))) := by
  obtain ⟨_, X, _, _⟩ := X; exact Rt.go (fun _ => XS.ifYes X.here hx rfl (pc0 := pc) rfl hd rfl hc ho hp) h
theorem Rt.ifN (X : Sd p l e R s m args below meth c T n0 cells slots h0) (hx : p.tables.exec = Jvm.exec) {pc pc' : Nat} {Ls : Array Slot} {S : List Value} {o : Int} {cd : ClassFile.Cond} {x : Int32} (hd : decode c.code pc = .ok (.ifCond cd o, 3)) (hc : ifCond.holds cd x = false) (hp : pc + 3 = pc')
    (h : Rt p e below s k n P (T.setTop (mkF m pc' Ls S))) : Rt p e below s k n P (T.setTop (mkF m pc Ls (.int x :: S))) := by
  subst hp; obtain ⟨_, X, _, _⟩ := X; exact Rt.go (fun _ => XS.ifNo X.here hx rfl hd rfl hc) h
theorem Rt.icmpY (X : Sd p l e R s m args below meth c T n0 cells slots h0) (hx : p.tables.exec = Jvm.exec) {pc pc' : Nat} {Ls : Array Slot} {S : List Value} {o : Int} {cd : ClassFile.Cond} {x y : Int32} (hd : decode c.code pc = .ok (.if_icmp cd o, 3)) (hc : if_icmp.holds cd x y = true) (ho : 0 ≤ (pc : Int) + o) (hp : ((pc : Int) + o).toNat = pc')
    (h : Rt p e below s k n P (T.setTop (mkF m pc' Ls S))) : Rt p e below s k n P (T.setTop (mkF m pc Ls (.int y :: .int x :: S))) := by
  obtain ⟨_, X, _, _⟩ := X; exact Rt.go (fun _ => XS.icmpYes X.here hx rfl (pc0 := pc) rfl hd rfl hc ho hp) h
theorem Rt.icmpN (X : Sd p l e R s m args below meth c T n0 cells slots h0) (hx : p.tables.exec = Jvm.exec) {pc pc' : Nat} {Ls : Array Slot} {S : List Value} {o : Int} {cd : ClassFile.Cond} {x y : Int32} (hd : decode c.code pc = .ok (.if_icmp cd o, 3)) (hc : if_icmp.holds cd x y = false) (hp : pc + 3 = pc')
    (h : Rt p e below s k n P (T.setTop (mkF m pc' Ls S))) : Rt p e below s k n P (T.setTop (mkF m pc Ls (.int y :: .int x :: S))) := by
  subst hp; obtain ⟨_, X, _, _⟩ := X; exact Rt.go (fun _ => XS.icmpNo X.here hx rfl hd rfl hc) h
theorem Rt.ifnullY (X : Sd p l e R s m args below meth c T n0 cells slots h0) (hx : p.tables.exec = Jvm.exec) {pc pc' : Nat} {Ls : Array Slot} {S : List Value} {o : Int} (hd : decode c.code pc = .ok (.ifnull o, 3)) (ho : 0 ≤ (pc : Int) + o) (hp : ((pc : Int) + o).toNat = pc')
    (h : Rt p e below s k n P (T.setTop (mkF m pc' Ls S))) : Rt p e below s k n P (T.setTop (mkF m pc Ls (.null :: S))) := by
  obtain ⟨_, X, _, _⟩ := X; exact Rt.go (fun _ => XS.ifnullYes X.here hx rfl (pc0 := pc) rfl hd rfl ho hp) h
theorem Rt.ifnullN (X : Sd p l e R s m args below meth c T n0 cells slots h0) (hx : p.tables.exec = Jvm.exec) {pc pc' : Nat} {Ls : Array Slot} {S : List Value} {o : Int} {b : Addr} (hd : decode c.code pc = .ok (.ifnull o, 3)) (hp : pc + 3 = pc')
    (h : Rt p e below s k n P (T.setTop (mkF m pc' Ls S))) : Rt p e below s k n P (T.setTop (mkF m pc Ls (.ref b :: S))) := by
  subst hp; obtain ⟨_, X, _, _⟩ := X; exact Rt.go (fun _ => XS.ifnullNo X.here hx rfl hd rfl) h
theorem Rt.ifnonnullY (X : Sd p l e R s m args below meth c T n0 cells slots h0) (hx : p.tables.exec = Jvm.exec) {pc pc' : Nat} {Ls : Array Slot} {S : List Value} {o : Int} {b : Addr} (hd : decode c.code pc = .ok (.ifnonnull o, 3)) (ho : 0 ≤ (pc : Int) + o) (hp : ((pc : Int) + o).toNat = pc')
    (h : Rt p e below s k n P (T.setTop (mkF m pc' Ls S))) : Rt p e below s k n P (T.setTop (mkF m pc Ls (.ref b :: S))) := by
  obtain ⟨_, X, _, _⟩ := X; exact Rt.go (fun _ => XS.ifnonnullYes X.here hx rfl (pc0 := pc) rfl hd rfl ho hp) h
theorem Rt.ifnonnullN (X : Sd p l e R s m args below meth c T n0 cells slots h0) (hx : p.tables.exec = Jvm.exec) {pc pc' : Nat} {Ls : Array Slot} {S : List Value} {o : Int} (hd : decode c.code pc = .ok (.ifnonnull o, 3)) (hp : pc + 3 = pc')
    (h : Rt p e below s k n P (T.setTop (mkF m pc' Ls S))) : Rt p e below s k n P (T.setTop (mkF m pc Ls (.null :: S))) := by
  subst hp; obtain ⟨_, X, _, _⟩ := X; exact Rt.go (fun _ => XS.ifnonnullNo X.here hx rfl hd rfl) h
theorem Rt.acmp (X : Sd p l e R s m args below meth c T n0 cells slots h0) (hx : p.tables.exec = Jvm.exec) {pc pc' : Nat} {Ls : Array Slot} {S : List Value} {o : Int} {cd : ACond} {x y : Value} {same : Bool} (h1 : x.isRef = true) (h2 : y.isRef = true) (hd : decode c.code pc = .ok (.if_acmp cd o, 3)) (hq : decide (x = y) = same) (ho : 0 ≤ (pc : Int) + o) (hp : pc' = if acV cd same = true then ((pc : Int) + o).toNat else pc + 3)
    (h : Rt p e below s k n P (T.setTop (mkF m pc' Ls S))) : Rt p e below s k n P (T.setTop (mkF m pc Ls (y :: x :: S))) := by
  obtain ⟨_, X, _, _⟩ := X; exact Rt.go (fun _ => Jvm.RoadKit.acmp X hx rfl h1 h2 (pc0 := pc) rfl hd rfl hq ho hp) h
theorem Rt.retZ (X : Sd p l e R s m args below meth c T n0 cells slots h0) (hx : p.tables.exec = Jvm.exec) (hlk : meth.locks = false) {t : FieldType} (hret : meth.sig.returnType = some t) (ht : t = .boolean ∨ t = .byte ∨ t = .char ∨ t = .short) {pc : Nat} {Ls : Array Slot} {S : List Value} {z w : Int32} (hd : decode c.code pc = .ok (.ireturn, 1)) (hw : nar t z = w) (hk : cells ≤ k) (hn : slots ≤ n)
    (hP : ∀ L, Fr n0 L → P (some (.int w)) h0 L) : Rt p e below s k n P (T.setTop (mkF m pc Ls (.int z :: S))) := by
  subst hw; obtain ⟨locs, X, N, eh⟩ := X
  obtain ⟨fs, hr, hrun, hended, hW, hsame⟩ := X.leave (v := some (.int (nar t z))) (fun h => by rw [hret] at h; cases h) hlk
  exact ⟨_, _, retN X hx hret ht hd hr, hrun, hended, _, _, rfl, by show P _ T.heap _; rw [eh]; exact hP _ N, ⟨_, rfl⟩, hW, hsame.mono hk hn⟩
theorem Rt.retI (X : Sd p l e R s m args below meth c T n0 cells slots h0) (hx : p.tables.exec = Jvm.exec) (hlk : meth.locks = false) (hret : meth.sig.returnType = some .int) {pc : Nat} {Ls : Array Slot} {S : List Value} {z : Int32} (hd : decode c.code pc = .ok (.ireturn, 1)) (hk : cells ≤ k) (hn : slots ≤ n)
    (hP : ∀ L, Fr n0 L → P (some (.int z)) h0 L) : Rt p e below s k n P (T.setTop (mkF m pc Ls (.int z :: S))) := by
  obtain ⟨locs, X, N, eh⟩ := X
  obtain ⟨fs, hr, hrun, hended, hW, hsame⟩ := X.leave (v := some (.int z)) (fun h => by rw [hret] at h; cases h) hlk
  exact ⟨_, _, Jvm.RoadKit.retI X hx hret hd hr, hrun, hended, _, _, rfl, by show P _ T.heap _; rw [eh]; exact hP _ N, ⟨_, rfl⟩, hW, hsame.mono hk hn⟩
theorem Rt.retJ (X : Sd p l e R s m args below meth c T n0 cells slots h0) (hx : p.tables.exec = Jvm.exec) (hlk : meth.locks = false) (hret : meth.sig.returnType = some .long) {pc : Nat} {Ls : Array Slot} {z : Int64} (hd : decode c.code pc = .ok (.lreturn, 1)) (hk : cells ≤ k) (hn : slots ≤ n)
    (hP : ∀ L, Fr n0 L → P (some (.long z)) h0 L) : Rt p e below s k n P (T.setTop (mkF m pc Ls [.long z])) := by
  obtain ⟨locs, X, N, eh⟩ := X
  obtain ⟨fs, hr, hrun, hended, hW, hsame⟩ := X.leave (v := some (.long z)) (fun h => by rw [hret] at h; cases h) hlk
  exact ⟨_, _, X.lreturnOut hx hret hd hr, hrun, hended, _, _, rfl, by show P _ T.heap _; rw [eh]; exact hP _ N, ⟨_, rfl⟩, hW, hsame.mono hk hn⟩
theorem Rt.retA (X : Sd p l e R s m args below meth c T n0 cells slots h0) (hx : p.tables.exec = Jvm.exec) (hlk : meth.locks = false) {t : FieldType} (ht : t.isReference = true) (hret : meth.sig.returnType = some t) {pc : Nat} {Ls : Array Slot} {v : Value} (hv : v.isRef = true) (hd : decode c.code pc = .ok (.areturn, 1)) (hk : cells ≤ k) (hn : slots ≤ n)
    (hP : ∀ L, Fr n0 L → P (some v) h0 L) : Rt p e below s k n P (T.setTop (mkF m pc Ls [v])) := by
  obtain ⟨locs, X, N, eh⟩ := X
  obtain ⟨fs, hr, hrun, hended, hW, hsame⟩ := X.leave (v := some v) (fun h => by rw [hret] at h; cases h) hlk
  exact ⟨_, _, Jvm.RoadKit.retA X hx ht hv hret hd hr, hrun, hended, _, _, rfl, by show P _ T.heap _; rw [eh]; exact hP _ N, ⟨_, rfl⟩, hW, hsame.mono hk hn⟩
theorem Rt.retV (X : Sd p l e R s m args below meth c T n0 cells slots h0) (hx : p.tables.exec = Jvm.exec) (hlk : meth.locks = false) (hret : meth.sig.returnType = none) {pc : Nat} {Ls : Array Slot}  (hd : decode c.code pc = .ok (.return_, 1)) (hk : cells ≤ k) (hn : slots ≤ n)
    (hP : ∀ L, Fr n0 L → P none h0 L) : Rt p e below s k n P (T.setTop (mkF m pc Ls [])) := by
  obtain ⟨locs, X, N, eh⟩ := X
  obtain ⟨fs, hr, hrun, hended, hW, hsame⟩ := X.leave (v := none) (fun _ => rfl) hlk
  exact ⟨_, _, X.returnOut hx hret hd hr, hrun, hended, _, _, rfl, by show P _ T.heap _; rw [eh]; exact hP _ N, ⟨_, rfl⟩, hW, hsame.mono hk hn⟩
theorem Rt.ldcInt (X : Sd p l e R s m args below meth c T n0 cells slots h0) (hx : p.tables.exec = Jvm.exec) {Z : State} {a0 : Array Value} (hZ : Z.Warmed39 s.vm) {own : String} {index : Nat} {v : Int32} (hown : s.vm.findClass own = some m.cls) (w : (Cond.constant own index v).before a0 Z = true) {pc pc' : Nat} {Ls : Array Slot} {S : List Value} (hd : decode c.code pc = .ok (.ldc index, 2)) (hp : pc + 2 = pc')
    (h : Rt p e below s k n P (T.setTop (mkF m pc' Ls (.int v :: S)))) : Rt p e below s k n P (T.setTop (mkF m pc Ls S)) := by
  subst hp; obtain ⟨_, X, _, _⟩ := X; exact Rt.go (X.ldcInt hx hown (mvT hZ w) (g := mkF m pc Ls S) rfl hd) h
theorem Rt.ldcwInt (X : Sd p l e R s m args below meth c T n0 cells slots h0) (hx : p.tables.exec = Jvm.exec) {Z : State} {a0 : Array Value} (hZ : Z.Warmed39 s.vm) {own : String} {index : Nat} {v : Int32} (hown : s.vm.findClass own = some m.cls) (w : (Cond.constant own index v).before a0 Z = true) {pc pc' : Nat} {Ls : Array Slot} {S : List Value} (hd : decode c.code pc = .ok (.ldc_w index, 3)) (hp : pc + 3 = pc')
    (h : Rt p e below s k n P (T.setTop (mkF m pc' Ls (.int v :: S)))) : Rt p e below s k n P (T.setTop (mkF m pc Ls S)) := by
  subst hp; obtain ⟨_, X, _, _⟩ := X; exact Rt.go (X.ldcwInt hx hown (mvT hZ w) (g := mkF m pc Ls S) rfl hd) h
theorem Rt.ldc2Long (X : Sd p l e R s m args below meth c T n0 cells slots h0) (hx : p.tables.exec = Jvm.exec) {Z : State} {a0 : Array Value} (hZ : Z.Warmed39 s.vm) {own : String} {index : Nat} {v : Int64} (hown : s.vm.findClass own = some m.cls) (w : (Cond.constantLong own index v).before a0 Z = true) {pc pc' : Nat} {Ls : Array Slot} {S : List Value} (hd : decode c.code pc = .ok (.ldc2_w index, 3)) (hp : pc + 3 = pc')
    (h : Rt p e below s k n P (T.setTop (mkF m pc' Ls (.long v :: S)))) : Rt p e below s k n P (T.setTop (mkF m pc Ls S)) := by
  subst hp; obtain ⟨_, X, _, _⟩ := X; exact Rt.go (X.ldc2Long hx hown (mvT hZ w) (g := mkF m pc Ls S) rfl hd) h
theorem ltl {x y : Int64} (h : x < y) : ifCond.holds .lt (lcmpW x y) = true ∧ ifCond.holds .ge (lcmpW x y) = false := ⟨(if0 _ _).trans (tlt ((lw_lt x y).mpr h)).1, (if0 _ _).trans (tlt ((lw_lt x y).mpr h)).2.1⟩
theorem lfl {x y : Int64} (h : ¬ x < y) : ifCond.holds .lt (lcmpW x y) = false ∧ ifCond.holds .ge (lcmpW x y) = true := ⟨(if0 _ _).trans (flt (fun q => h ((lw_lt x y).mp q))).1, (if0 _ _).trans (flt (fun q => h ((lw_lt x y).mp q))).2.1⟩
theorem gtl {x y : Int64} (h : y < x) : ifCond.holds .gt (lcmpW x y) = true ∧ ifCond.holds .le (lcmpW x y) = false := ⟨(if0 _ _).trans (tlt ((lw_gt x y).mpr h)).2.2.1, (if0 _ _).trans (tlt ((lw_gt x y).mpr h)).2.2.2⟩
theorem gfl {x y : Int64} (h : ¬ y < x) : ifCond.holds .gt (lcmpW x y) = false ∧ ifCond.holds .le (lcmpW x y) = true := ⟨(if0 _ _).trans (flt (fun q => h ((lw_gt x y).mp q))).2.2.1, (if0 _ _).trans (flt (fun q => h ((lw_gt x y).mp q))).2.2.2⟩
theorem etl {x y : Int64} (h : x = y) : ifCond.holds .eq (lcmpW x y) = true ∧ ifCond.holds .ne (lcmpW x y) = false := ⟨(if0 _ _).trans (teq ((lw_eq x y).mpr h)).1, (if0 _ _).trans (teq ((lw_eq x y).mpr h)).2⟩
theorem efl {x y : Int64} (h : ¬ x = y) : ifCond.holds .eq (lcmpW x y) = false ∧ ifCond.holds .ne (lcmpW x y) = true := ⟨(if0 _ _).trans (feq (fun q => h ((lw_eq x y).mp q))).1, (if0 _ _).trans (feq (fun q => h ((lw_eq x y).mp q))).2⟩
/-- what a method leaves: its contract's form -/
abbrev Mt (l : Launch) (Z : State) (y : MethodName) (ws : List Jvm.Cond) (rm : Room) (as' : Array Value) (h : Heap) (Q : Option Value → Heap → List Loc → Prop) : Prop :=
  MetFree l y (head1 ws rm) (fun a U => a = as' ∧ Z.Warmed39 U.vm ∧ U.heap = h) (fun _ _ _ _ _ => True) (fun _ U o U' => ∃ v L, o = .returned v ∧ Q v U'.heap L ∧ FrameEnd U o U' L rm.cells rm.slots)
/-- from a body's walk to its contract -/
theorem Mt.of {Z : State} {y : MethodName} {bytes : ByteArray} {maxL : Nat} {ret : Option FieldType} {ws : List Jvm.Cond} {rm : Room} {as' : Array Value} {h : Heap} {Q : Option Value → Heap → List Loc → Prop} (n0 : Nat) (hpl : plainFor y = true)
    (body : ∀ (p : Program) (e : Env) (s : State) (m : MethodId) (below : List Frame) (meth : Method) (c : Code) (T : State), Sd p l e rm s m as' below meth c T n0 0 0 h → p.tables.exec = Jvm.exec → Z.Warmed39 s.vm → c.code = bytes → c.maxLocals = maxL → s.vm.findClass y.cls = some m.cls → meth.sig.returnType = ret → meth.locks = false → meth.name = y.name → s.heap = h →
      Rt p e below s rm.cells rm.slots Q (T.setTop (entryFrame m as' maxL))) : Mt l Z y (Jvm.Cond.code y bytes maxL ret :: ws) rm as' h Q := by
  refine MetFree.of_bodySF hpl hisR ?_
  intro p e s m args below meth c s₁ Bd hml0 hP hK
  obtain ⟨rfl, hZ, hh⟩ := hP
  have e0 : s₁.heap = h := by rw [← hh, Bd.state]; rfl
  obtain ⟨s₂, o, h1, h2, h3, v, L, h4, h5, h6⟩ := body p e s m below meth c s₁ ⟨[], Stand.of_body Bd, Fr.nil n0, e0⟩ Bd.exec hZ Bd.bytes hml0 (findClass_of_methodNamed Bd.named) Bd.returns (BodyLoose.notSynchronized Bd) (name_of_methodNamed Bd.named Bd.method).1 hh
  exact ⟨s₂, o, h1, h2, h3, v, L, h4, h5, h6⟩
theorem Rt.callS (X : Sd p l e R s m args below meth c T n0 cells slots h0) (hx : p.tables.exec = Jvm.exec) {Z : State} {a0 : Array Value} (hZ : Z.Warmed39 s.vm) {own : String} {index : Nat} {y : MethodName} {bytes : ByteArray} {maxL W : Nat} {ret : Option FieldType} {rm : Room} {as' : Array Value} {Q : Option Value → Heap → List Loc → Prop}
    (hown : s.vm.findClass own = some m.cls) (w1 : (Cond.methodLink own index y).before a0 Z = true) (w2 : (Cond.static y).before a0 Z = true) (w3 : (Cond.initialized y.cls).before a0 Z = true) (w4 : (Cond.code y bytes maxL ret).before a0 Z = true) (hy : y.cls ≠ "java/lang/invoke/MethodHandle" ∧ y.cls ≠ "java/lang/invoke/VarHandle")
    (hM : Mt l Z y [Cond.code y bytes maxL ret] rm as' h0 Q) (hF : ∀ v h L, Q v h L → Fr n0 L) (hf : rm.frames + 1 ≤ R.frames) (hl : W + (maxL + 11) + rm.locals ≤ R.locals) (hc : cells + rm.cells ≤ R.cells) (hs : slots + rm.slots ≤ R.slots)
    {pc pc' : Nat} {Ls : Array Slot} {S argsL rest : List Value} (hsize : Ls.size = c.maxLocals) (hlen : ∀ sig, parseMethodDescriptor y.desc = some sig → argsL.length = sig.parameters.length) (hst : S = argsL.reverse ++ rest) (has : argsL.toArray = as') (hW : (rest.map fun v => v.category).sum ≤ W) (hd : decode c.code pc = .ok (.invokestatic index, 3)) (hp : pc + 3 = pc')
    (hh : ∀ v T' h' L, Sd p l e R s m args below meth c T' n0 (cells + rm.cells) (slots + rm.slots) h' → Q v h' L → Rt p e below s k n P (T'.setTop (mkF m pc' Ls (v.toList ++ rest)))) : Rt p e below s k n P (T.setTop (mkF m pc Ls S)) := by
  subst hp has
  obtain ⟨locs, X, N, eT⟩ := X
  obtain ⟨v, _, ⟨T', L', k', n'⟩, -, X', ⟨Lc, hQ, l', y', z'⟩, st⟩ := Jvm.LawKit.callS X hx (y := y) hown (mvT hZ w1) (mvT hZ w2) (mvT hZ w3) (mvT hZ w4) hy (backOf (W := W) hM hZ w4 w3 hf hl) (g := mkF m pc Ls S) rfl hsize (argsL := argsL) (rest := rest) hlen hst (by show 2 * 0 + _ ≤ _; omega) hd (fun _ _ => ⟨rfl, eT, hc, hs⟩)
  dsimp only [Pt.U, Pt.locs, Pt.cells, Pt.slots] at X' l' y' z' st hQ
  subst l' y' z'
  exact Rt.go st (hh v T' _ Lc ⟨_, X', Fr.app N (hF _ _ _ hQ), rfl⟩ hQ)
/-- a static method that writes nothing -/
theorem Rt.callP (X : Sd p l e R s m args below meth c T n0 cells slots h0) (hx : p.tables.exec = Jvm.exec) {Z : State} {a0 : Array Value} (hZ : Z.Warmed39 s.vm) {own : String} {index : Nat} {y : MethodName} {bytes : ByteArray} {maxL W : Nat} {ret : Option FieldType} {rm : Room} {as' : Array Value} {r : Value}
    (hown : s.vm.findClass own = some m.cls) (w1 : (Cond.methodLink own index y).before a0 Z = true) (w2 : (Cond.static y).before a0 Z = true) (w3 : (Cond.initialized y.cls).before a0 Z = true) (w4 : (Cond.code y bytes maxL ret).before a0 Z = true) (hy : y.cls ≠ "java/lang/invoke/MethodHandle" ∧ y.cls ≠ "java/lang/invoke/VarHandle")
    (hM : Mt l Z y [Cond.code y bytes maxL ret] rm as' h0 (fun v h L => v = some r ∧ Fr n0 L ∧ h = h0)) (hf : rm.frames + 1 ≤ R.frames) (hl : W + (maxL + 11) + rm.locals ≤ R.locals) (hc : cells + rm.cells ≤ R.cells) (hs : slots + rm.slots ≤ R.slots) (hc0 : rm.cells = 0) (hs0 : rm.slots = 0)
    {pc pc' : Nat} {Ls : Array Slot} {S argsL rest : List Value} (hsize : Ls.size = c.maxLocals) (hlen : ∀ sig, parseMethodDescriptor y.desc = some sig → argsL.length = sig.parameters.length) (hst : S = argsL.reverse ++ rest) (has : argsL.toArray = as') (hW : (rest.map fun v => v.category).sum ≤ W) (hd : decode c.code pc = .ok (.invokestatic index, 3)) (hp : pc + 3 = pc')
    (hh : ∀ T', Sd p l e R s m args below meth c T' n0 cells slots h0 → Rt p e below s k n P (T'.setTop (mkF m pc' Ls (r :: rest)))) : Rt p e below s k n P (T.setTop (mkF m pc Ls S)) := by
  refine Rt.callS X hx hZ hown w1 w2 w3 w4 hy hM (fun _ _ _ q => q.2.1) hf hl hc hs hsize hlen hst has hW hd hp ?_
  rintro v T' h' L X' ⟨rfl, _, rfl⟩
  rw [hc0, hs0, Nat.add_zero, Nat.add_zero] at X'
  exact hh T' X'
/-- an instance method, by the contract of the body that the receiver's class selects -/
theorem Rt.callV (X : Sd p l e R s m args below meth c T n0 cells slots h0) (hx : p.tables.exec = Jvm.exec) {Z : State} {a0 : Array Value} (hZ : Z.Warmed39 s.vm) {own : String} {index : Nat} {y : MethodName} {bytes : ByteArray} {maxL W : Nat} {ret : Option FieldType} {rm : Room} {as' : Array Value} {Q : Option Value → Heap → List Loc → Prop} {K : String} {yz : MethodName}
    (hown : s.vm.findClass own = some m.cls) (w1 : (Cond.methodLink own index y).before a0 Z = true) (w2 : (Cond.declares y).before a0 Z = true) (hnf : NotFace s y) (w5 : (Cond.selects K y yz).before a0 Z = true) (w6 : (Cond.instanceMethod yz).before a0 Z = true) (w3 : (Cond.initialized yz.cls).before a0 Z = true) (w4 : (Cond.code yz bytes maxL ret).before a0 Z = true) (hy : y.cls ≠ "java/lang/invoke/MethodHandle" ∧ y.cls ≠ "java/lang/invoke/VarHandle")
    {a : Addr} (E : Exa Z h0 a K) (hM : Mt l Z yz [Cond.code yz bytes maxL ret] rm as' h0 Q) (hF : ∀ v h L, Q v h L → Fr n0 L) (hf : rm.frames + 1 ≤ R.frames) (hl : W + (maxL + 11) + rm.locals ≤ R.locals) (hc : cells + rm.cells ≤ R.cells) (hs : slots + rm.slots ≤ R.slots)
    {pc pc' : Nat} {Ls : Array Slot} {S argsL rest : List Value} (hsize : Ls.size = c.maxLocals) (hlen : ∀ sig, parseMethodDescriptor y.desc = some sig → argsL.length = sig.parameters.length) (hst : S = argsL.reverse ++ .ref a :: rest) (has : (.ref a :: argsL).toArray = as') (hW : (rest.map fun v => v.category).sum ≤ W) (hd : decode c.code pc = .ok (.invokevirtual index, 3)) (hp : pc + 3 = pc')
    (hh : ∀ v T' h' L, Sd p l e R s m args below meth c T' n0 (cells + rm.cells) (slots + rm.slots) h' → Q v h' L → Rt p e below s k n P (T'.setTop (mkF m pc' Ls (v.toList ++ rest)))) : Rt p e below s k n P (T.setTop (mkF m pc Ls S)) := by
  subst hp has
  obtain ⟨locs, X, N, eT⟩ := X
  obtain ⟨cq, kq, qa, qb, qc⟩ := isOf hZ eT E
  obtain ⟨v, _, ⟨T', L', k', n'⟩, -, X', ⟨Lc, hQ, l', y', z'⟩, st⟩ := X.virtualBack hx (y := y) (z := yz) hown (mvT hZ w1) (mvT hZ w2) hnf (mvT hZ w5) (mvT hZ w6) hy (backOf (W := W) hM hZ w4 w3 hf hl) qa qc (g := mkF m pc Ls S) rfl hsize (Steps.refl _) (argsL := argsL) (rest := rest) hlen hst (by show 2 * 0 + _ ≤ _; omega) hd (fun _ _ => ⟨rfl, eT, hc, hs⟩)
  dsimp only [Pt.U, Pt.locs, Pt.cells, Pt.slots] at X' l' y' z' st hQ
  subst l' y' z'
  exact Rt.go (fun _ q => st.trans q) (hh v T' _ Lc ⟨_, X', Fr.app N (hF _ _ _ hQ), rfl⟩ hQ)
/-- a constructor by its contract -/
theorem Rt.callI (X : Sd p l e R s m args below meth c T n0 cells slots h0) (hx : p.tables.exec = Jvm.exec) {Z : State} {a0 : Array Value} (hZ : Z.Warmed39 s.vm) {own : String} {index : Nat} {y : MethodName} {bytes : ByteArray} {maxL W : Nat} {rm : Room} {as' : Array Value} {Q : Option Value → Heap → List Loc → Prop} (hy1 : y.name = "<init>")
    (hown : s.vm.findClass own = some m.cls) (w1 : (Cond.methodLink own index y).before a0 Z = true) (w2 : (Cond.instanceMethod y).before a0 Z = true) (w3 : (Cond.initialized y.cls).before a0 Z = true) (w4 : (Cond.code y bytes maxL none).before a0 Z = true) (hy : y.cls ≠ "java/lang/invoke/MethodHandle" ∧ y.cls ≠ "java/lang/invoke/VarHandle")
    {a : Addr} (hM : Mt l Z y [Cond.code y bytes maxL none] rm as' h0 Q) (hF : ∀ v h L, Q v h L → Fr n0 L) (hf : rm.frames + 1 ≤ R.frames) (hl : W + (maxL + 11) + rm.locals ≤ R.locals) (hc : cells + rm.cells ≤ R.cells) (hs : slots + rm.slots ≤ R.slots)
    {pc pc' : Nat} {Ls : Array Slot} {S argsL rest : List Value} (hsize : Ls.size = c.maxLocals) (hlen : ∀ sig, parseMethodDescriptor y.desc = some sig → argsL.length = sig.parameters.length) (hst : S = argsL.reverse ++ .ref a :: rest) (has : (.ref a :: argsL).toArray = as') (hW : (rest.map fun v => v.category).sum ≤ W) (hd : decode c.code pc = .ok (.invokespecial index, 3)) (hp : pc + 3 = pc')
    (hh : ∀ v T' h' L, Sd p l e R s m args below meth c T' n0 (cells + rm.cells) (slots + rm.slots) h' → Q v h' L → Rt p e below s k n P (T'.setTop (mkF m pc' Ls (v.toList ++ rest)))) : Rt p e below s k n P (T.setTop (mkF m pc Ls S)) := by
  subst hp has
  obtain ⟨locs, X, N, eT⟩ := X
  obtain ⟨v, _, ⟨T', L', k', n'⟩, -, X', ⟨Lc, hQ, l', y', z'⟩, st⟩ := X.specialBack hx (y := y) hy1 hown (mvT hZ w1) (mvT hZ w2) (mvT hZ w4) hy (backOf (W := W) hM hZ w4 w3 hf hl) (g := mkF m pc Ls S) rfl hsize (Steps.refl _) (a := a) (argsL := argsL) (rest := rest) hlen hst (by show 2 * 0 + _ ≤ _; omega) hd (fun _ _ => ⟨rfl, eT, hc, hs⟩)
  dsimp only [Pt.U, Pt.locs, Pt.cells, Pt.slots] at X' l' y' z' st hQ
  subst l' y' z'
  exact Rt.go (fun _ q => st.trans q) (hh v T' _ Lc ⟨_, X', Fr.app N (hF _ _ _ hQ), rfl⟩ hQ)
/-- a private instance method by its contract -/
theorem Rt.callPr (X : Sd p l e R s m args below meth c T n0 cells slots h0) (hx : p.tables.exec = Jvm.exec) {Z : State} {a0 : Array Value} (hZ : Z.Warmed39 s.vm) {own : String} {index : Nat} {y : MethodName} {bytes : ByteArray} {maxL W : Nat} {ret : Option FieldType} {rm : Room} {as' : Array Value} {Q : Option Value → Heap → List Loc → Prop} {K : String} {nf : Nat}
    (hown : s.vm.findClass own = some m.cls) (w1 : (Cond.methodLink own index y).before a0 Z = true) (w2 : (Cond.instanceMethod y).before a0 Z = true) (w5 : (Cond.privateMethod y).before a0 Z = true) (wi : (Cond.instantiable y.cls nf).before a0 Z = true) (w3 : (Cond.initialized y.cls).before a0 Z = true) (w4 : (Cond.code y bytes maxL ret).before a0 Z = true) (hy : y.cls ≠ "java/lang/invoke/MethodHandle" ∧ y.cls ≠ "java/lang/invoke/VarHandle")
    {a : Addr} (E : Exa Z h0 a K) (hM : Mt l Z y [Cond.code y bytes maxL ret] rm as' h0 Q) (hF : ∀ v h L, Q v h L → Fr n0 L) (hf : rm.frames + 1 ≤ R.frames) (hl : W + (maxL + 11) + rm.locals ≤ R.locals) (hc : cells + rm.cells ≤ R.cells) (hs : slots + rm.slots ≤ R.slots)
    {pc pc' : Nat} {Ls : Array Slot} {S argsL rest : List Value} (hsize : Ls.size = c.maxLocals) (hlen : ∀ sig, parseMethodDescriptor y.desc = some sig → argsL.length = sig.parameters.length) (hst : S = argsL.reverse ++ .ref a :: rest) (has : (.ref a :: argsL).toArray = as') (hW : (rest.map fun v => v.category).sum ≤ W) (hd : decode c.code pc = .ok (.invokevirtual index, 3)) (hp : pc + 3 = pc')
    (hh : ∀ v T' h' L, Sd p l e R s m args below meth c T' n0 (cells + rm.cells) (slots + rm.slots) h' → Q v h' L → Rt p e below s k n P (T'.setTop (mkF m pc' Ls (v.toList ++ rest)))) : Rt p e below s k n P (T.setTop (mkF m pc Ls S)) := by
  subst hp has
  obtain ⟨locs, X, N, eT⟩ := X
  obtain ⟨ce, q1, q2⟩ := E.cell
  obtain ⟨cc, kc, i1, i2, -, i4, -⟩ := Cond.instantiable_spec (mvT hZ wi (args := args))
  have hpv := Cond.privateMethod_at (mvP hZ w5 (args := #[]))
  have hni : kc.isInterface = false := by simp only [Bool.or_eq_false_iff] at i4; exact i4.1
  obtain ⟨v, _, ⟨T', L', k', n'⟩, -, X', ⟨Lc, hQ, l', y', z'⟩, st⟩ := X.privateBack hx (y := y) hown (mvT hZ w1) (mvT hZ w2) (selects_self_of_private i1 i2 hni hpv (mvT hZ w2) hy) hpv (mvT hZ w4) hy (backOf (W := W) hM hZ w4 w3 hf hl) (g := mkF m pc Ls S) rfl hsize (Steps.refl _) (a := a) (by rw [eT]; exact q1) q2 (argsL := argsL) (rest := rest) hlen hst (by show 2 * 0 + _ ≤ _; omega) hd (fun _ _ => ⟨rfl, eT, hc, hs⟩)
  dsimp only [Pt.U, Pt.locs, Pt.cells, Pt.slots] at X' l' y' z' st hQ
  subst l' y' z'
  exact Rt.go (fun _ q => st.trans q) (hh v T' _ Lc ⟨_, X', Fr.app N (hF _ _ _ hQ), rfl⟩ hQ)
theorem Rt.initO (X : Sd p l e R s m args below meth c T n0 cells slots h0) (hx : p.tables.exec = Jvm.exec) {Z : State} {a0 : Array Value} (hZ : Z.Warmed39 s.vm) {own : String} {index : Nat} (hown : s.vm.findClass own = some m.cls) (w1 : (Cond.methodLink own index Lib.objectInit).before a0 Z = true) (w2 : (Cond.instanceMethod Lib.objectInit).before a0 Z = true) (w3 : (Cond.code Lib.objectInit ⟨#[0xb1]⟩ 1 none).before a0 Z = true)
    {pc pc' W : Nat} {Ls : Array Slot} {rest : List Value} {a : Addr} (hsize : Ls.size = c.maxLocals) (hd : decode c.code pc = .ok (.invokespecial index, 3)) (hf : 1 ≤ R.frames) (hW : (rest.map fun v => v.category).sum ≤ W) (hl : W + 12 ≤ R.locals) (hp : pc + 3 = pc')
    (hh : ∀ T', Sd p l e R s m args below meth c T' n0 cells slots h0 → Rt p e below s k n P (T'.setTop (mkF m pc' Ls rest))) : Rt p e below s k n P (T.setTop (mkF m pc Ls (.ref a :: rest))) := by
  subst hp
  obtain ⟨locs, X, N, eT⟩ := X
  obtain ⟨T', X', e', st⟩ := Jvm.RoadKit.initO X hx hZ hown w1 w2 w3 eT (g := mkF m pc Ls (.ref a :: rest)) rfl hsize rfl hd hf (W := W) (by show 2 * 0 + _ ≤ _; omega) hl
  exact Rt.go st (hh T' ⟨_, X', N, e'⟩)
theorem Rt.getS (X : Sd p l e R s m args below meth c T n0 cells slots h0) (hx : p.tables.exec = Jvm.exec) {Z : State} {a0 : Array Value} (hZ : Z.Warmed39 s.vm) {own K f d host : String} {index : Nat} (hown : s.vm.findClass own = some m.cls) (w : (Cond.fieldLink own index K f d).before a0 Z = true ∨ (Cond.fieldLinkNest own index K f d host).before a0 Z = true) {v : Value} (F : Sta Z h0 K f d v) {pc pc' : Nat} {Ls : Array Slot} {S : List Value} (hd : decode c.code pc = .ok (.getstatic index, 3)) (hp : pc + 3 = pc')
    (hh : ∀ T', Sd p l e R s m args below meth c T' n0 cells slots h0 → Rt p e below s k n P (T'.setTop (mkF m pc' Ls (v :: S)))) : Rt p e below s k n P (T.setTop (mkF m pc Ls S)) := by
  subst hp
  obtain ⟨locs, X, N, eT⟩ := X
  obtain ⟨T', X', e', st⟩ := getS2 X hx hZ hown (host := host) w Via.refl eT F (g := mkF m pc Ls S) rfl hd
  exact Rt.go st (hh T' ⟨_, X', N, e'⟩)
theorem Rt.getF (X : Sd p l e R s m args below meth c T n0 cells slots h0) (hx : p.tables.exec = Jvm.exec) {Z : State} {a0 : Array Value} (hZ : Z.Warmed39 s.vm) {own K f d host : String} {index : Nat} (hown : s.vm.findClass own = some m.cls) (w : (Cond.fieldLink own index K f d).before a0 Z = true ∨ (Cond.fieldLinkNest own index K f d host).before a0 Z = true) {v : Value} {a : Addr} (F : Fld Z h0 a K f d v) {pc pc' : Nat} {Ls : Array Slot} {S : List Value} (hd : decode c.code pc = .ok (.getfield index, 3)) (hp : pc + 3 = pc')
    (hh : ∀ T', Sd p l e R s m args below meth c T' n0 cells slots h0 → Rt p e below s k n P (T'.setTop (mkF m pc' Ls (v :: S)))) : Rt p e below s k n P (T.setTop (mkF m pc Ls (.ref a :: S))) := by
  subst hp
  obtain ⟨locs, X, N, eT⟩ := X
  obtain ⟨T', X', e', st⟩ := Jvm.RoadKit.getF X hx hZ hown (host := host) w Via.refl eT F (g := mkF m pc Ls (.ref a :: S)) rfl rfl hd
  exact Rt.go st (hh T' ⟨_, X', N, e'⟩)
theorem Rt.putF (X : Sd p l e R s m args below meth c T n0 cells slots h0) (hx : p.tables.exec = Jvm.exec) {Z : State} {a0 : Array Value} (hZ : Z.Warmed39 s.vm) {own K f d C' host : String} {index kk : Nat} {ty : FieldType} (hown : s.vm.findClass own = some m.cls) (w : (Cond.fieldLink own index K f d).before a0 Z = true ∨ (Cond.fieldLinkNest own index K f d host).before a0 Z = true) {v old : Value} {a : Addr} (F : Fld Z h0 a K f d old) (E : Exa Z h0 a C') (L : (Cond.lays C' K f d).before a0 Z = true ∨ ((Cond.laysFinal C' K f d).before a0 Z = true ∧ own = K ∧ meth.name = "<init>")) (wi : (Cond.instantiable C' kk).before a0 Z = true) (hty : parseFieldDescriptor d = some ty) (hn : narrow ty v = v) (hf : fits ty v = true) (ga : n0 ≤ a) {pc pc' : Nat} {Ls : Array Slot} {S : List Value} (hd : decode c.code pc = .ok (.putfield index, 3)) (hp : pc + 3 = pc')
    (hh : ∀ T' h', Sd p l e R s m args below meth c T' n0 cells slots h' → Wr h0 h' a (Jvm.RoadKit.slotOf Z K f d) v → Fld Z h' a K f d v → Rt p e below s k n P (T'.setTop (mkF m pc' Ls S))) : Rt p e below s k n P (T.setTop (mkF m pc Ls (v :: .ref a :: S))) := by
  subst hp
  obtain ⟨locs, X, N, eT⟩ := X
  obtain ⟨T', h', X', e', W', st⟩ := Jvm.RoadKit.putF X hx hZ hown (host := host) w Via.refl eT F E L wi hty hn hf (g := mkF m pc Ls (v :: .ref a :: S)) rfl rfl hd
  exact Rt.go st (hh T' h' ⟨_, X', Fr.snoc X' N ga, e'⟩ W' (F.same W'))
theorem Rt.newO (X : Sd p l e R s m args below meth c T n0 cells slots h0) (hx : p.tables.exec = Jvm.exec) {Z : State} {a0 : Array Value} (hZ : Z.Warmed39 s.vm) {own K : String} {index nf : Nat} (hown : s.vm.findClass own = some m.cls) (w : (Cond.classLink own index K).before a0 Z = true) (wi : (Cond.instantiable K nf).before a0 Z = true) (wz : (Cond.initialized K).before a0 Z = true) {pc pc' : Nat} {Ls : Array Slot} {S : List Value} (hd : decode c.code pc = .ok (.new index, 3)) (hc : cells + 1 ≤ R.cells) (hl : slots + nf ≤ R.slots) (hp : pc + 3 = pc')
    (hh : ∀ T' h' a, a = h0.size → Sd p l e R s m args below meth c T' n0 (cells + 1) (slots + nf) h' → Ext h0 h' → Exa Z h' a K → (∀ {O nm d : String} {ty : FieldType}, Laid Z a0 K O nm d → parseFieldDescriptor d = some ty → Fld Z h' a O nm d (defaultValue ty)) → Rt p e below s k n P (T'.setTop (mkF m pc' Ls (.ref a :: S)))) : Rt p e below s k n P (T.setTop (mkF m pc Ls S)) := by
  subst hp
  obtain ⟨locs, X, N, eT⟩ := X
  obtain ⟨T', h', X', e', E', A', D', -, st⟩ := Jvm.RoadKit.newO X hx hZ hown w wi wz eT (g := mkF m pc Ls S) rfl hd hc hl
  exact Rt.go st (hh T' h' _ rfl ⟨_, X', N, e'⟩ E' A' D')
theorem Rt.castY (X : Sd p l e R s m args below meth c T n0 cells slots h0) (hx : p.tables.exec = Jvm.exec) {Z : State} {a0 : Array Value} (hZ : Z.Warmed39 s.vm) {own K : String} {index : Nat} (hown : s.vm.findClass own = some m.cls) (w : (Cond.classLink own index K).before a0 Z = true) {a : Addr} (F : Ins Z h0 a K true) {pc pc' : Nat} {Ls : Array Slot} {S : List Value} (hd : decode c.code pc = .ok (.checkcast index, 3)) (hp : pc + 3 = pc')
    (hh : ∀ T', Sd p l e R s m args below meth c T' n0 cells slots h0 → Rt p e below s k n P (T'.setTop (mkF m pc' Ls (.ref a :: S)))) : Rt p e below s k n P (T.setTop (mkF m pc Ls (.ref a :: S))) := by
  subst hp
  obtain ⟨locs, X, N, eT⟩ := X
  obtain ⟨T', X', e', st⟩ := Jvm.RoadKit.castY X hx hZ hown w eT F (g := mkF m pc Ls (.ref a :: S)) rfl rfl hd
  exact Rt.go st (hh T' ⟨_, X', N, e'⟩)
theorem Rt.instY (X : Sd p l e R s m args below meth c T n0 cells slots h0) (hx : p.tables.exec = Jvm.exec) {Z : State} {a0 : Array Value} (hZ : Z.Warmed39 s.vm) {own K : String} {index : Nat} (hown : s.vm.findClass own = some m.cls) (w : (Cond.classLink own index K).before a0 Z = true) {a : Addr} (F : Ins Z h0 a K true) {pc pc' : Nat} {Ls : Array Slot} {S : List Value} (hd : decode c.code pc = .ok (.instanceof index, 3)) (hp : pc + 3 = pc')
    (hh : ∀ T', Sd p l e R s m args below meth c T' n0 cells slots h0 → Rt p e below s k n P (T'.setTop (mkF m pc' Ls (.int 1 :: S)))) : Rt p e below s k n P (T.setTop (mkF m pc Ls (.ref a :: S))) := by
  subst hp
  obtain ⟨locs, X, N, eT⟩ := X
  obtain ⟨T', X', e', st⟩ := Jvm.RoadKit.instY X hx hZ hown w eT F (g := mkF m pc Ls (.ref a :: S)) rfl rfl hd
  exact Rt.go st (hh T' ⟨_, X', N, e'⟩)
theorem Rt.instNo (X : Sd p l e R s m args below meth c T n0 cells slots h0) (hx : p.tables.exec = Jvm.exec) {Z : State} {a0 : Array Value} (hZ : Z.Warmed39 s.vm) {own K C' : String} {index : Nat} (hown : s.vm.findClass own = some m.cls) (w : (Cond.classLink own index K).before a0 Z = true) (hs0 : s.heap = h0) {a : Addr} (F : Ins Z h0 a K false) (E : Exa Z h0 a C') {pc pc' : Nat} {Ls : Array Slot} {S : List Value} (hd : decode c.code pc = .ok (.instanceof index, 3)) (hp : pc + 3 = pc')
    (hh : ∀ T', Sd p l e R s m args below meth c T' n0 cells slots h0 → Rt p e below s k n P (T'.setTop (mkF m pc' Ls (.int 0 :: S)))) : Rt p e below s k n P (T.setTop (mkF m pc Ls (.ref a :: S))) := by
  subst hp hs0
  obtain ⟨locs, X, N, eT⟩ := X
  obtain ⟨T', X', e', st⟩ := Jvm.RoadKit.instN X hx hZ hown w eT F E (g := mkF m pc Ls (.ref a :: S)) rfl rfl hd
  exact Rt.go st (hh T' ⟨_, X', N, e'⟩)
theorem Rt.instNull (X : Sd p l e R s m args below meth c T n0 cells slots h0) (hx : p.tables.exec = Jvm.exec) {index : Nat} {pc pc' : Nat} {Ls : Array Slot} {S : List Value} (hd : decode c.code pc = .ok (.instanceof index, 3)) (hp : pc + 3 = pc')
    (h : Rt p e below s k n P (T.setTop (mkF m pc' Ls (.int 0 :: S)))) : Rt p e below s k n P (T.setTop (mkF m pc Ls (.null :: S))) := by
  subst hp
  obtain ⟨locs, X, N, eT⟩ := X
  exact Rt.go (X.instanceofNull hx (g := mkF m pc Ls (.null :: S)) rfl rfl hd) h
theorem own_cat {v : Value} (h : v.isRef = true) : v.category = 1 := by rcases ref_cases h with rfl | ⟨_, rfl⟩ <;> rfl
theorem staK {Z : State} {h h' : Heap} {K f d : String} {v : Value} (F : Sta Z h K f d v) (Kp : Keep h h' []) : Sta Z h' K f d v := by
  obtain ⟨cf, i, k, f, st, cell, h1, h2, h3, h4, h5, r⟩ := F; exact ⟨cf, i, k, f, st, cell, h1, h2, h3, h4, Kp.2.1 _ _ h5 nin0, r⟩
/-- an array of values -/
def IA (Z : State) (h : Heap) (a : Addr) (ty : FieldType) (vs : List Value) : Prop := ∃ cl : Cell, Arr Z h a cl ty ∧ cl.slots = vs.toArray ∧ vs.length < 2 ^ 31
section Arrays
variable {Z : State} {h h' : Heap} {a b : Addr} {ty : FieldType} {vs : List Value}
theorem IA.lt (F : IA Z h a ty vs) : a < h.size := by obtain ⟨_, A, -⟩ := F; exact A.lt
theorem IA.ext (F : IA Z h a ty vs) (E : Ext h h') : IA Z h' a ty vs := by obtain ⟨c, A, r⟩ := F; exact ⟨c, A.ext E, r⟩
theorem IA.other {sl : Nat} {v : Value} (F : IA Z h a ty vs) (W : Wr h h' b sl v) (q : a ≠ b) : IA Z h' a ty vs := by obtain ⟨c, A, r⟩ := F; exact ⟨c, A.other W q, r⟩
theorem IA.keep {ws : List Addr} (F : IA Z h a ty vs) (K : Keep h h' ws) (q : a ∉ ws) : IA Z h' a ty vs := by obtain ⟨c, A, r⟩ := F; exact ⟨c, ⟨K.2.1 a c A.1 q, A.2⟩, r⟩
theorem IA.set {i : Nat} {v : Value} (F : IA Z h a ty vs) (W : Wr h h' a i v) : IA Z h' a ty (vs.set i v) := by
  obtain ⟨c, A, r, q⟩ := F
  refine ⟨_, A.same W, ?_, by rw [List.length_set]; exact q⟩
  show (c.slots.setIfInBounds i v) = _
  rw [r]; simp
theorem IA.new {k : ClassId} {z : Int32} {i : Nat} (A : Arr Z h a (newA k ty z) ty) (hz : z.toNatClampNeg = i) : IA Z h a ty (List.replicate i (defaultValue ty)) := by
  refine ⟨_, A, ?_, ?_⟩
  · show Array.replicate _ _ = _
    rw [hz]; simp
  · rw [List.length_replicate, ← hz]
    have := z.toInt_lt
    simp only [Int32.toNatClampNeg]; omega
theorem inA {cl : Cell} {j : Int32} {i : Nat} (r : cl.slots = vs.toArray) (hj : ¬ j < 0) (hi : j.toNatClampNeg = i) (hv : i < vs.length) : ¬ (j < 0 ∨ cl.slots.size ≤ j.toNatClampNeg) := by
  rintro (q | q)
  · exact hj q
  · rw [r, hi] at q; simp at q; omega
end Arrays
theorem Rt.newP (X : Sd p l e R s m args below meth c T n0 cells slots h0) (hx : p.tables.exec = Jvm.exec) {Z : State} {a0 : Array Value} (hZ : Z.Warmed39 s.vm) {aty : ArrayType} {ty : FieldType} (hty : newarray.typeOf aty = ty) (w : (Cond.arrayClass ty).before a0 Z = true) {z : Int32} {i : Nat} (hz : z.toNatClampNeg = i) (hn : ¬ z < 0) {cap : Nat} (hcap : i ≤ cap) (hb : cap * 8 ≤ 536870912) {pc pc' : Nat} {Ls : Array Slot} {S : List Value} (hd : decode c.code pc = .ok (.newarray aty, 2)) (hc : cells + 1 ≤ R.cells) (hl : slots + cap ≤ R.slots) (hp : pc + 2 = pc')
    (hh : ∀ T' h' a, a = h0.size → Sd p l e R s m args below meth c T' n0 (cells + 1) (slots + cap) h' → Ext h0 h' → IA Z h' a ty (List.replicate i (defaultValue ty)) → Rt p e below s k n P (T'.setTop (mkF m pc' Ls (.ref a :: S)))) : Rt p e below s k n P (T.setTop (mkF m pc Ls (.int z :: S))) := by
  subst hp hty
  obtain ⟨locs, X, N, eT⟩ := X
  obtain ⟨T', h', cA, X', e', E', A', st⟩ := Jvm.RoadKit.newP X hx hZ w eT (g := mkF m pc Ls (.int z :: S)) rfl hd rfl hn (cap := cap) (by rw [hz]; exact hcap) hb hc hl
  exact Rt.go st (hh T' h' _ rfl ⟨_, X', N, e'⟩ E' (IA.new A' hz))
theorem Rt.arraylength (X : Sd p l e R s m args below meth c T n0 cells slots h0) (hx : p.tables.exec = Jvm.exec) {Z : State} (hZ : Z.Warmed39 s.vm) {ty : FieldType} {a : Addr} {vs : List Value} (F : IA Z h0 a ty vs) {v : Int32} (hv : vs.length.toInt32 = v) {pc pc' : Nat} {Ls : Array Slot} {S : List Value} (hd : decode c.code pc = .ok (.arraylength, 1)) (hp : pc + 1 = pc')
    (h : Rt p e below s k n P (T.setTop (mkF m pc' Ls (.int v :: S)))) : Rt p e below s k n P (T.setTop (mkF m pc Ls (.ref a :: S))) := by
  subst hp hv
  obtain ⟨locs, X, N, eT⟩ := X
  obtain ⟨cl, A, r, q⟩ := F
  have e1 : vs.length = cl.slots.size := by rw [r]; simp
  rw [e1] at h
  exact Rt.go (X.arraylength hx (by rw [eT]; exact A.1) (State.isArrayOf_alike hZ.alike A.2.1) (g := mkF m pc Ls (.ref a :: S)) rfl rfl hd) h

theorem Rt.iaload (X : Sd p l e R s m args below meth c T n0 cells slots h0) (hx : p.tables.exec = Jvm.exec) {Z : State} (hZ : Z.Warmed39 s.vm) {a : Addr} {vs : List Value} (F : IA Z h0 a .int vs) {j : Int32} {i : Nat} (hi : j.toNatClampNeg = i) (hj : ¬ j < 0) {v : Value} (hv : vs[i]? = some v) {pc pc' : Nat} {Ls : Array Slot} {S : List Value} (hd : decode c.code pc = .ok (.iaload, 1)) (hp : pc + 1 = pc')
    (h : Rt p e below s k n P (T.setTop (mkF m pc' Ls (v :: S)))) : Rt p e below s k n P (T.setTop (mkF m pc Ls (.int j :: .ref a :: S))) := by
  subst hp
  obtain ⟨locs, X, N, eT⟩ := X
  obtain ⟨cl, A, r, q⟩ := F
  exact Rt.go (X.iaload hx (j := j) (v := v) (by rw [eT]; exact A.1) (State.isArrayOf_alike hZ.alike A.2.1) A.2.2 (inA r hj hi (List.getElem?_eq_some_iff.mp hv).1) (by rw [r, hi]; simpa using hv) (g := mkF m pc Ls (.int j :: .ref a :: S)) rfl rfl hd) h
theorem Rt.laload (X : Sd p l e R s m args below meth c T n0 cells slots h0) (hx : p.tables.exec = Jvm.exec) {Z : State} (hZ : Z.Warmed39 s.vm) {a : Addr} {vs : List Value} (F : IA Z h0 a .long vs) {j : Int32} {i : Nat} (hi : j.toNatClampNeg = i) (hj : ¬ j < 0) {v : Value} (hv : vs[i]? = some v) {pc pc' : Nat} {Ls : Array Slot} {S : List Value} (hd : decode c.code pc = .ok (.laload, 1)) (hp : pc + 1 = pc')
    (h : Rt p e below s k n P (T.setTop (mkF m pc' Ls (v :: S)))) : Rt p e below s k n P (T.setTop (mkF m pc Ls (.int j :: .ref a :: S))) := by
  subst hp
  obtain ⟨locs, X, N, eT⟩ := X
  obtain ⟨cl, A, r, q⟩ := F
  exact Rt.go (X.laload hx (j := j) (v := v) (by rw [eT]; exact A.1) (State.isArrayOf_alike hZ.alike A.2.1) A.2.2 (inA r hj hi (List.getElem?_eq_some_iff.mp hv).1) (by rw [r, hi]; simpa using hv) (g := mkF m pc Ls (.int j :: .ref a :: S)) rfl rfl hd) h
theorem Rt.baload (X : Sd p l e R s m args below meth c T n0 cells slots h0) (hx : p.tables.exec = Jvm.exec) {Z : State} (hZ : Z.Warmed39 s.vm) {a : Addr} {vs : List Value} (F : IA Z h0 a .byte vs) {j : Int32} {i : Nat} (hi : j.toNatClampNeg = i) (hj : ¬ j < 0) {v : Value} (hv : vs[i]? = some v) {pc pc' : Nat} {Ls : Array Slot} {S : List Value} (hd : decode c.code pc = .ok (.baload, 1)) (hp : pc + 1 = pc')
    (h : Rt p e below s k n P (T.setTop (mkF m pc' Ls (v :: S)))) : Rt p e below s k n P (T.setTop (mkF m pc Ls (.int j :: .ref a :: S))) := by
  subst hp
  obtain ⟨locs, X, N, eT⟩ := X
  obtain ⟨cl, A, r, q⟩ := F
  exact Rt.go (X.baloadBytes hx (j := j) (v := v) (by rw [eT]; exact A.1) (State.isArrayOf_alike hZ.alike A.2.1) A.2.2 (inA r hj hi (List.getElem?_eq_some_iff.mp hv).1) (by rw [r, hi]; simpa using hv) (g := mkF m pc Ls (.int j :: .ref a :: S)) rfl rfl hd) h
theorem Rt.zaload (X : Sd p l e R s m args below meth c T n0 cells slots h0) (hx : p.tables.exec = Jvm.exec) {Z : State} (hZ : Z.Warmed39 s.vm) {a : Addr} {vs : List Value} (F : IA Z h0 a .boolean vs) {j : Int32} {i : Nat} (hi : j.toNatClampNeg = i) (hj : ¬ j < 0) {v : Value} (hv : vs[i]? = some v) {pc pc' : Nat} {Ls : Array Slot} {S : List Value} (hd : decode c.code pc = .ok (.baload, 1)) (hp : pc + 1 = pc')
    (h : Rt p e below s k n P (T.setTop (mkF m pc' Ls (v :: S)))) : Rt p e below s k n P (T.setTop (mkF m pc Ls (.int j :: .ref a :: S))) := by
  subst hp
  obtain ⟨locs, X, N, eT⟩ := X
  obtain ⟨cl, A, r, q⟩ := F
  exact Rt.go (X.baloadBooleans hx (j := j) (v := v) (by rw [eT]; exact A.1) (State.isArrayOf_alike hZ.alike A.2.1) A.2.2 (inA r hj hi (List.getElem?_eq_some_iff.mp hv).1) (by rw [r, hi]; simpa using hv) (g := mkF m pc Ls (.int j :: .ref a :: S)) rfl rfl hd) h
theorem Rt.caload (X : Sd p l e R s m args below meth c T n0 cells slots h0) (hx : p.tables.exec = Jvm.exec) {Z : State} (hZ : Z.Warmed39 s.vm) {a : Addr} {vs : List Value} (F : IA Z h0 a .char vs) {j : Int32} {i : Nat} (hi : j.toNatClampNeg = i) (hj : ¬ j < 0) {v : Value} (hv : vs[i]? = some v) {pc pc' : Nat} {Ls : Array Slot} {S : List Value} (hd : decode c.code pc = .ok (.caload, 1)) (hp : pc + 1 = pc')
    (h : Rt p e below s k n P (T.setTop (mkF m pc' Ls (v :: S)))) : Rt p e below s k n P (T.setTop (mkF m pc Ls (.int j :: .ref a :: S))) := by
  subst hp
  obtain ⟨locs, X, N, eT⟩ := X
  obtain ⟨cl, A, r, q⟩ := F
  exact Rt.go (X.caload hx (j := j) (v := v) (by rw [eT]; exact A.1) (State.isArrayOf_alike hZ.alike A.2.1) A.2.2 (inA r hj hi (List.getElem?_eq_some_iff.mp hv).1) (by rw [r, hi]; simpa using hv) (g := mkF m pc Ls (.int j :: .ref a :: S)) rfl rfl hd) h
theorem Rt.aaload (X : Sd p l e R s m args below meth c T n0 cells slots h0) (hx : p.tables.exec = Jvm.exec) {Z : State} (hZ : Z.Warmed39 s.vm) {ty : FieldType} (hty : ty.isReference = true) {a : Addr} {vs : List Value} (F : IA Z h0 a ty vs) {j : Int32} {i : Nat} (hi : j.toNatClampNeg = i) (hj : ¬ j < 0) {v : Value} (hv : vs[i]? = some v) {pc pc' : Nat} {Ls : Array Slot} {S : List Value} (hd : decode c.code pc = .ok (.aaload, 1)) (hp : pc + 1 = pc')
    (h : Rt p e below s k n P (T.setTop (mkF m pc' Ls (v :: S)))) : Rt p e below s k n P (T.setTop (mkF m pc Ls (.int j :: .ref a :: S))) := by
  subst hp
  obtain ⟨locs, X, N, eT⟩ := X
  obtain ⟨cl, A, r, q⟩ := F
  exact Rt.go (X.aaload hx (j := j) (v := v) (by rw [eT]; exact A.1) (State.isArrayOf_alike hZ.alike A.2.1) hty A.2.2 (inA r hj hi (List.getElem?_eq_some_iff.mp hv).1) (by rw [r, hi]; simpa using hv) (g := mkF m pc Ls (.int j :: .ref a :: S)) rfl rfl hd) h
theorem Rt.iastore (X : Sd p l e R s m args below meth c T n0 cells slots h0) (hx : p.tables.exec = Jvm.exec) {Z : State} (hZ : Z.Warmed39 s.vm) {a : Addr} {vs : List Value} (F : IA Z h0 a .int vs) {j : Int32} {i : Nat} (hi : j.toNatClampNeg = i) (hj : ¬ j < 0) (hv : i < vs.length) {x : Int32} {w : Value} (hw : .int x = w) (ga : n0 ≤ a) {pc pc' : Nat} {Ls : Array Slot} {S : List Value} (hd : decode c.code pc = .ok (.iastore, 1)) (hp : pc + 1 = pc')
    (hh : ∀ T' h', Sd p l e R s m args below meth c T' n0 cells slots h' → Wr h0 h' a i w → IA Z h' a .int (vs.set i w) → Rt p e below s k n P (T'.setTop (mkF m pc' Ls S))) : Rt p e below s k n P (T.setTop (mkF m pc Ls (.int x :: .int j :: .ref a :: S))) := by
  subst hp hw
  obtain ⟨locs, X, N, eT⟩ := X
  obtain ⟨cl, A, r, q⟩ := id F
  obtain ⟨T', h', X', e', W', st⟩ := stI X hx hZ eT A (j := j) (inA r hj hi hv) (g := mkF m pc Ls (.int x :: .int j :: .ref a :: S)) rfl rfl hd
  rw [hi] at W'
  exact Rt.go st (hh T' h' ⟨_, X', Fr.snoc X' N ga, e'⟩ W' (F.set W'))
theorem Rt.lastore (X : Sd p l e R s m args below meth c T n0 cells slots h0) (hx : p.tables.exec = Jvm.exec) {Z : State} (hZ : Z.Warmed39 s.vm) {a : Addr} {vs : List Value} (F : IA Z h0 a .long vs) {j : Int32} {i : Nat} (hi : j.toNatClampNeg = i) (hj : ¬ j < 0) (hv : i < vs.length) {x : Int64} {w : Value} (hw : .long x = w) (ga : n0 ≤ a) {pc pc' : Nat} {Ls : Array Slot} {S : List Value} (hd : decode c.code pc = .ok (.lastore, 1)) (hp : pc + 1 = pc')
    (hh : ∀ T' h', Sd p l e R s m args below meth c T' n0 cells slots h' → Wr h0 h' a i w → IA Z h' a .long (vs.set i w) → Rt p e below s k n P (T'.setTop (mkF m pc' Ls S))) : Rt p e below s k n P (T.setTop (mkF m pc Ls (.long x :: .int j :: .ref a :: S))) := by
  subst hp hw
  obtain ⟨locs, X, N, eT⟩ := X
  obtain ⟨cl, A, r, q⟩ := id F
  obtain ⟨T', h', X', e', W', st⟩ := stJ X hx hZ eT A (j := j) (inA r hj hi hv) (g := mkF m pc Ls (.long x :: .int j :: .ref a :: S)) rfl rfl hd
  rw [hi] at W'
  exact Rt.go st (hh T' h' ⟨_, X', Fr.snoc X' N ga, e'⟩ W' (F.set W'))
theorem Rt.bastore (X : Sd p l e R s m args below meth c T n0 cells slots h0) (hx : p.tables.exec = Jvm.exec) {Z : State} (hZ : Z.Warmed39 s.vm) {a : Addr} {vs : List Value} (F : IA Z h0 a .byte vs) {j : Int32} {i : Nat} (hi : j.toNatClampNeg = i) (hj : ¬ j < 0) (hv : i < vs.length) {x : Int32} {w : Value} (hw : .int (nar .byte x) = w) (ga : n0 ≤ a) {pc pc' : Nat} {Ls : Array Slot} {S : List Value} (hd : decode c.code pc = .ok (.bastore, 1)) (hp : pc + 1 = pc')
    (hh : ∀ T' h', Sd p l e R s m args below meth c T' n0 cells slots h' → Wr h0 h' a i w → IA Z h' a .byte (vs.set i w) → Rt p e below s k n P (T'.setTop (mkF m pc' Ls S))) : Rt p e below s k n P (T.setTop (mkF m pc Ls (.int x :: .int j :: .ref a :: S))) := by
  subst hp hw
  obtain ⟨locs, X, N, eT⟩ := X
  obtain ⟨cl, A, r, q⟩ := id F
  obtain ⟨T', h', X', e', W', st⟩ := stB X hx hZ eT A (j := j) (inA r hj hi hv) (g := mkF m pc Ls (.int x :: .int j :: .ref a :: S)) rfl rfl hd
  rw [hi] at W'
  exact Rt.go st (hh T' h' ⟨_, X', Fr.snoc X' N ga, e'⟩ W' (F.set W'))
theorem Rt.zastore (X : Sd p l e R s m args below meth c T n0 cells slots h0) (hx : p.tables.exec = Jvm.exec) {Z : State} (hZ : Z.Warmed39 s.vm) {a : Addr} {vs : List Value} (F : IA Z h0 a .boolean vs) {j : Int32} {i : Nat} (hi : j.toNatClampNeg = i) (hj : ¬ j < 0) (hv : i < vs.length) {x : Int32} {w : Value} (hw : .int (nar .boolean x) = w) (ga : n0 ≤ a) {pc pc' : Nat} {Ls : Array Slot} {S : List Value} (hd : decode c.code pc = .ok (.bastore, 1)) (hp : pc + 1 = pc')
    (hh : ∀ T' h', Sd p l e R s m args below meth c T' n0 cells slots h' → Wr h0 h' a i w → IA Z h' a .boolean (vs.set i w) → Rt p e below s k n P (T'.setTop (mkF m pc' Ls S))) : Rt p e below s k n P (T.setTop (mkF m pc Ls (.int x :: .int j :: .ref a :: S))) := by
  subst hp hw
  obtain ⟨locs, X, N, eT⟩ := X
  obtain ⟨cl, A, r, q⟩ := id F
  obtain ⟨T', h', X', e', W', st⟩ := stZ X hx hZ eT A (j := j) (inA r hj hi hv) (g := mkF m pc Ls (.int x :: .int j :: .ref a :: S)) rfl rfl hd
  rw [hi] at W'
  exact Rt.go st (hh T' h' ⟨_, X', Fr.snoc X' N ga, e'⟩ W' (F.set W'))
theorem Rt.castore (X : Sd p l e R s m args below meth c T n0 cells slots h0) (hx : p.tables.exec = Jvm.exec) {Z : State} (hZ : Z.Warmed39 s.vm) {a : Addr} {vs : List Value} (F : IA Z h0 a .char vs) {j : Int32} {i : Nat} (hi : j.toNatClampNeg = i) (hj : ¬ j < 0) (hv : i < vs.length) {x : Int32} {w : Value} (hw : .int (nar .char x) = w) (ga : n0 ≤ a) {pc pc' : Nat} {Ls : Array Slot} {S : List Value} (hd : decode c.code pc = .ok (.castore, 1)) (hp : pc + 1 = pc')
    (hh : ∀ T' h', Sd p l e R s m args below meth c T' n0 cells slots h' → Wr h0 h' a i w → IA Z h' a .char (vs.set i w) → Rt p e below s k n P (T'.setTop (mkF m pc' Ls S))) : Rt p e below s k n P (T.setTop (mkF m pc Ls (.int x :: .int j :: .ref a :: S))) := by
  subst hp hw
  obtain ⟨locs, X, N, eT⟩ := X
  obtain ⟨cl, A, r, q⟩ := id F
  obtain ⟨T', h', X', e', W', st⟩ := stC X hx hZ eT A (j := j) (inA r hj hi hv) (g := mkF m pc Ls (.int x :: .int j :: .ref a :: S)) rfl rfl hd
  rw [hi] at W'
  exact Rt.go st (hh T' h' ⟨_, X', Fr.snoc X' N ga, e'⟩ W' (F.set W'))
/-- an array of so many elements -/
def IL (Z : State) (h : Heap) (a : Addr) (ty : FieldType) (N : Nat) : Prop := ∃ vs, IA Z h a ty vs ∧ vs.length = N
section Arrays
variable {Z : State} {h h' : Heap} {a b : Addr} {ty : FieldType} {N : Nat}
theorem IL.lt (F : IL Z h a ty N) : a < h.size := by obtain ⟨_, A, -⟩ := F; exact A.lt
theorem IL.ext (F : IL Z h a ty N) (E : Ext h h') : IL Z h' a ty N := by obtain ⟨c, A, r⟩ := F; exact ⟨c, A.ext E, r⟩
theorem IL.other {sl : Nat} {v : Value} (F : IL Z h a ty N) (W : Wr h h' b sl v) (q : a ≠ b) : IL Z h' a ty N := by obtain ⟨c, A, r⟩ := F; exact ⟨c, A.other W q, r⟩
theorem IL.wr {sl : Nat} {v : Value} (F : IL Z h a ty N) (W : Wr h h' b sl v) : IL Z h' a ty N := by
  obtain ⟨vs, A, r⟩ := F
  by_cases q : a = b
  · subst q; exact ⟨_, A.set W, by rw [List.length_set]; exact r⟩
  · exact ⟨vs, A.other W q, r⟩
theorem IL.keep {ws : List Addr} (F : IL Z h a ty N) (K : Keep h h' ws) : IL Z h' a ty N := by
  obtain ⟨vs, ⟨c, ⟨A1, ⟨A2, A3⟩, A4⟩, r1, r2⟩, r⟩ := F
  obtain ⟨c', q, e1, e2, e3⟩ := K.2.2 a c A1
  refine ⟨c'.slots.toList, ⟨c', ⟨q, ⟨?_, ?_⟩, by rw [e2]; exact A4⟩, by simp, ?_⟩, ?_⟩
  · rw [e2]; exact A2
  · rw [e1]; exact A3
  · rw [Array.length_toList, e3, r1]; simpa using r2
  · rw [Array.length_toList, e3, r1]; simpa using r
end Arrays
theorem Rt.arraylengthL (X : Sd p l e R s m args below meth c T n0 cells slots h0) (hx : p.tables.exec = Jvm.exec) {Z : State} (hZ : Z.Warmed39 s.vm) {ty : FieldType} {a : Addr} {N : Nat} (F : IL Z h0 a ty N) {v : Int32} (hv : N.toInt32 = v) {pc pc' : Nat} {Ls : Array Slot} {S : List Value} (hd : decode c.code pc = .ok (.arraylength, 1)) (hp : pc + 1 = pc')
    (h : Rt p e below s k n P (T.setTop (mkF m pc' Ls (.int v :: S)))) : Rt p e below s k n P (T.setTop (mkF m pc Ls (.ref a :: S))) := by
  obtain ⟨vs, F, rfl⟩ := F
  exact Rt.arraylength X hx hZ F hv hd hp h
theorem Rt.iastoreL (X : Sd p l e R s m args below meth c T n0 cells slots h0) (hx : p.tables.exec = Jvm.exec) {Z : State} (hZ : Z.Warmed39 s.vm) {a : Addr} {N : Nat} (F : IL Z h0 a .int N) {j : Int32} {i : Nat} (hi : j.toNatClampNeg = i) (hj : ¬ j < 0) (hv : i < N) {x : Int32} (ga : n0 ≤ a) {pc pc' : Nat} {Ls : Array Slot} {S : List Value} (hd : decode c.code pc = .ok (.iastore, 1)) (hp : pc + 1 = pc')
    (hh : ∀ T' h', Sd p l e R s m args below meth c T' n0 cells slots h' → ∀ w, Wr h0 h' a i w → IL Z h' a .int N → Rt p e below s k n P (T'.setTop (mkF m pc' Ls S))) : Rt p e below s k n P (T.setTop (mkF m pc Ls (.int x :: .int j :: .ref a :: S))) := by
  obtain ⟨vs, F, rfl⟩ := F
  exact Rt.iastore X hx hZ F hi hj hv rfl ga hd hp fun T' h' X' W' F' => hh T' h' X' _ W' ⟨_, F', List.length_set⟩
theorem Rt.lastoreL (X : Sd p l e R s m args below meth c T n0 cells slots h0) (hx : p.tables.exec = Jvm.exec) {Z : State} (hZ : Z.Warmed39 s.vm) {a : Addr} {N : Nat} (F : IL Z h0 a .long N) {j : Int32} {i : Nat} (hi : j.toNatClampNeg = i) (hj : ¬ j < 0) (hv : i < N) {x : Int64} (ga : n0 ≤ a) {pc pc' : Nat} {Ls : Array Slot} {S : List Value} (hd : decode c.code pc = .ok (.lastore, 1)) (hp : pc + 1 = pc')
    (hh : ∀ T' h', Sd p l e R s m args below meth c T' n0 cells slots h' → ∀ w, Wr h0 h' a i w → IL Z h' a .long N → Rt p e below s k n P (T'.setTop (mkF m pc' Ls S))) : Rt p e below s k n P (T.setTop (mkF m pc Ls (.long x :: .int j :: .ref a :: S))) := by
  obtain ⟨vs, F, rfl⟩ := F
  exact Rt.lastore X hx hZ F hi hj hv rfl ga hd hp fun T' h' X' W' F' => hh T' h' X' _ W' ⟨_, F', List.length_set⟩
theorem Rt.bastoreL (X : Sd p l e R s m args below meth c T n0 cells slots h0) (hx : p.tables.exec = Jvm.exec) {Z : State} (hZ : Z.Warmed39 s.vm) {a : Addr} {N : Nat} (F : IL Z h0 a .byte N) {j : Int32} {i : Nat} (hi : j.toNatClampNeg = i) (hj : ¬ j < 0) (hv : i < N) {x : Int32} (ga : n0 ≤ a) {pc pc' : Nat} {Ls : Array Slot} {S : List Value} (hd : decode c.code pc = .ok (.bastore, 1)) (hp : pc + 1 = pc')
    (hh : ∀ T' h', Sd p l e R s m args below meth c T' n0 cells slots h' → ∀ w, Wr h0 h' a i w → IL Z h' a .byte N → Rt p e below s k n P (T'.setTop (mkF m pc' Ls S))) : Rt p e below s k n P (T.setTop (mkF m pc Ls (.int x :: .int j :: .ref a :: S))) := by
  obtain ⟨vs, F, rfl⟩ := F
  exact Rt.bastore X hx hZ F hi hj hv rfl ga hd hp fun T' h' X' W' F' => hh T' h' X' _ W' ⟨_, F', List.length_set⟩
theorem Rt.zastoreL (X : Sd p l e R s m args below meth c T n0 cells slots h0) (hx : p.tables.exec = Jvm.exec) {Z : State} (hZ : Z.Warmed39 s.vm) {a : Addr} {N : Nat} (F : IL Z h0 a .boolean N) {j : Int32} {i : Nat} (hi : j.toNatClampNeg = i) (hj : ¬ j < 0) (hv : i < N) {x : Int32} (ga : n0 ≤ a) {pc pc' : Nat} {Ls : Array Slot} {S : List Value} (hd : decode c.code pc = .ok (.bastore, 1)) (hp : pc + 1 = pc')
    (hh : ∀ T' h', Sd p l e R s m args below meth c T' n0 cells slots h' → ∀ w, Wr h0 h' a i w → IL Z h' a .boolean N → Rt p e below s k n P (T'.setTop (mkF m pc' Ls S))) : Rt p e below s k n P (T.setTop (mkF m pc Ls (.int x :: .int j :: .ref a :: S))) := by
  obtain ⟨vs, F, rfl⟩ := F
  exact Rt.zastore X hx hZ F hi hj hv rfl ga hd hp fun T' h' X' W' F' => hh T' h' X' _ W' ⟨_, F', List.length_set⟩
theorem Rt.castoreL (X : Sd p l e R s m args below meth c T n0 cells slots h0) (hx : p.tables.exec = Jvm.exec) {Z : State} (hZ : Z.Warmed39 s.vm) {a : Addr} {N : Nat} (F : IL Z h0 a .char N) {j : Int32} {i : Nat} (hi : j.toNatClampNeg = i) (hj : ¬ j < 0) (hv : i < N) {x : Int32} (ga : n0 ≤ a) {pc pc' : Nat} {Ls : Array Slot} {S : List Value} (hd : decode c.code pc = .ok (.castore, 1)) (hp : pc + 1 = pc')
    (hh : ∀ T' h', Sd p l e R s m args below meth c T' n0 cells slots h' → ∀ w, Wr h0 h' a i w → IL Z h' a .char N → Rt p e below s k n P (T'.setTop (mkF m pc' Ls S))) : Rt p e below s k n P (T.setTop (mkF m pc Ls (.int x :: .int j :: .ref a :: S))) := by
  obtain ⟨vs, F, rfl⟩ := F
  exact Rt.castore X hx hZ F hi hj hv rfl ga hd hp fun T' h' X' W' F' => hh T' h' X' _ W' ⟨_, F', List.length_set⟩
end Own
abbrev nm1 : String := "com/example/silent_isles/silentisles/voyage/Card"
abbrev nm2 : String := "com/example/silent_isles/silentisles/voyage/Card$Kind"
abbrev nm3 : String := "Lcom/example/silent_isles/silentisles/voyage/Card$Kind;"
abbrev nm4 : String := "java/lang/Integer$IntegerCache"
abbrev mt1 : MethodName := ⟨"com/example/silent_isles/silentisles/voyage/CardEqualsPinLaw", "num", "(II)I"⟩
abbrev mt2 : MethodName := ⟨"java/lang/Record", "<init>", "()V"⟩
abbrev mt3 : MethodName := ⟨"com/example/silent_isles/silentisles/voyage/Card", "requireIsland", "(I)V"⟩
abbrev mt4 : MethodName := ⟨"com/example/silent_isles/silentisles/voyage/Card", "<init>", "(Lcom/example/silent_isles/silentisles/voyage/Card$Kind;I)V"⟩
abbrev mt5 : MethodName := ⟨"com/example/silent_isles/silentisles/voyage/CardEqualsPinLaw", "make", "(II)Lcom/example/silent_isles/silentisles/voyage/Card;"⟩
abbrev mt6 : MethodName := ⟨"com/example/silent_isles/silentisles/voyage/Card", "equals", "(Ljava/lang/Object;)Z"⟩
abbrev mt7 : MethodName := ⟨"java/lang/Integer", "valueOf", "(I)Ljava/lang/Integer;"⟩
/-- an array's element -/
def EL (Z : State) (h : Heap) (a : Addr) (ty : FieldType) (i : Int32) (v : Value) : Prop := ∃ cl : Cell, Arr Z h a cl ty ∧ ¬ (i < 0 ∨ cl.slots.size ≤ i.toNatClampNeg) ∧ cl.slots[i.toNatClampNeg]? = some v
theorem EL.lt {Z : State} {h : Heap} {a : Addr} {ty : FieldType} {i : Int32} {v : Value} (F : EL Z h a ty i v) : a < h.size := by obtain ⟨_, A, -⟩ := F; exact A.lt
theorem EL.ext {Z : State} {h h' : Heap} {a : Addr} {ty : FieldType} {i : Int32} {v : Value} (F : EL Z h a ty i v) (E : Ext h h') : EL Z h' a ty i v := by obtain ⟨c, A, r⟩ := F; exact ⟨c, A.ext E, r⟩
theorem EL.keep {Z : State} {h h' : Heap} {ws : List Addr} {a : Addr} {ty : FieldType} {i : Int32} {v : Value} (F : EL Z h a ty i v) (K : Keep h h' ws) (q : a ∉ ws) : EL Z h' a ty i v := by obtain ⟨c, A, r⟩ := F; exact ⟨c, ⟨K.2.1 a c A.1 q, A.2⟩, r⟩
theorem own_noins (Z : State) (a0 : Array Value) (hw : ∀ d ∈ tables_1, d.before a0 Z = true) {h : Heap} {a : Addr} (E : Exa Z h a "java/lang/Integer") : Ins Z h a "com/example/silent_isles/silentisles/voyage/Card" false := by
  obtain ⟨cell, k, h1, h2, h3, h4, h5⟩ := E
  obtain ⟨cc, kc, i1, i2, i3, i4, -⟩ := Cond.instantiable_spec (hw _ (List.mem_of_getElem? (i := 9) rfl))
  have hni : kc.isInterface = false := by simp only [Bool.or_eq_false_iff] at i4; exact i4.1
  have q := Vm.notAssignable_of_chain (args := a0) (t := ["java/lang/Number", "java/lang/Object"]) h2 i1 i2 i3 hni (by
    intro w hq
    simp only [Cond.chainWords, List.mem_cons, List.not_mem_nil, or_false] at hq
    rcases hq with rfl | rfl | rfl
    · exact (hw _ (List.mem_of_getElem? (i := 51) rfl))
    · exact (hw _ (List.mem_of_getElem? (i := 52) rfl))
    · exact (hw _ (List.mem_of_getElem? (i := 53) rfl))) (by decide)
  exact ⟨cell, cc, h1, i1, by rw [q, Bool.and_false]⟩
theorem d1_0 : decode method_2_code 0 = .ok (.iload_n 0, 1) := by decide +kernel
theorem d1_1 : decode method_2_code 1 = .ok (.ifCond .ne 13, 3) := by decide +kernel
theorem d1_4 : decode method_2_code 4 = .ok (.iload_n 1, 1) := by decide +kernel
theorem d1_5 : decode method_2_code 5 = .ok (.ldc 7, 2) := by decide +kernel
theorem d1_7 : decode method_2_code 7 = .ok (.iand, 1) := by decide +kernel
theorem d1_8 : decode method_2_code 8 = .ok (.bipush 80, 2) := by decide +kernel
theorem d1_10 : decode method_2_code 10 = .ok (.irem, 1) := by decide +kernel
theorem d1_11 : decode method_2_code 11 = .ok (.iconst 1, 1) := by decide +kernel
theorem d1_12 : decode method_2_code 12 = .ok (.iadd, 1) := by decide +kernel
theorem d1_13 : decode method_2_code 13 = .ok (.ireturn, 1) := by decide +kernel
theorem d1_14 : decode method_2_code 14 = .ok (.iconst 0, 1) := by decide +kernel
theorem d1_15 : decode method_2_code 15 = .ok (.ireturn, 1) := by decide +kernel
def f1 (p1 : Int32) (p2 : Int32) : Int32 := (if p1 = (0 : Int32) then (((p2 &&& (2147483647 : Int32)) % (80 : Int32)) + (1 : Int32)) else (0 : Int32))
def Q1 (p1 : Int32) (p2 : Int32) (h0 : Heap) (n0 : Nat) (v : Option Value) (h : Heap) (L : List Loc) : Prop := v = some (.int (f1 p1 p2)) ∧ Fr n0 L ∧ h = h0
def rmR1 : Room := { frames := 0, cells := 0, slots := 0, locals := 0 }
theorem ef_1 (m : MethodId) (p1 : Int32) (p2 : Int32) : entryFrame m #[(.int p1), (.int p2)] 2 = mkF m 0 #[.val (.int p1), .val (.int p2)] [] := by first | (simp [entryFrame, mkF, argsToLocals, Value.category]; done) | rfl
theorem pn_com_example_silent_isles_silentisles_voyage_CardEqualsPinLaw : plainName "com/example/silent_isles/silentisles/voyage/CardEqualsPinLaw" = true := by first | (simp [plainName, overriddenIn]; done) | decide +kernel
set_option maxRecDepth 65536 in
set_option maxHeartbeats 40000000 in
theorem rm1 (l : Launch) (Z : State) (a0 : Array Value) (hw : ∀ d ∈ tables_1, d.before a0 Z = true) (ws : List Jvm.Cond) (p1 : Int32) (p2 : Int32) (h0 : Heap) (n0 : Nat) :
    Mt l Z mt1 (Jvm.Cond.code mt1 method_2_code 2 (some .int) :: ws) rmR1 #[(.int p1), (.int p2)] h0 (Q1 p1 p2 h0 n0) := by
  refine Mt.of n0 (plainFor_of_name pn_com_example_silent_isles_silentisles_voyage_CardEqualsPinLaw) ?_
  intro p e s m below meth c T0 X0 hx hZ hby hml hown hret hlk hnm hs0
  have hown : s.vm.findClass "com/example/silent_isles/silentisles/voyage/CardEqualsPinLaw" = some m.cls := hown
  rw [ef_1]
  show Rt p e below s rmR1.cells rmR1.slots (Q1 p1 p2 h0 n0) (T0.setTop (mkF m 0 #[.val (.int p1), .val (.int p2)] []))
  refine Rt.iloadN (pc' := 1) X0 hx (hb hby d1_0) rfl rfl ?_
  by_cases hc1_1 : p1 = (0 : Int32)
  · refine Rt.ifN (pc' := 4) X0 hx (hb hby d1_1) ((if0 _ _).trans (teq hc1_1).2) rfl ?_
    refine Rt.iloadN (pc' := 5) X0 hx (hb hby d1_4) rfl rfl ?_
    refine Rt.ldcInt (pc' := 7) X0 hx hZ hown (hw _ (List.mem_of_getElem? (i := 0) rfl)) (hb hby d1_5) rfl ?_
    refine Rt.iand (pc' := 8) (r := (p2 &&& (2147483647 : Int32))) X0 hx (hb hby d1_7) rfl rfl ?_
    refine Rt.bipush (pc' := 10) (v := (80 : Int32)) X0 hx (hb hby d1_8) rfl rfl ?_
    refine Rt.irem (pc' := 11) X0 hx (hb hby d1_10) (by decide) rfl rfl ?_
    refine Rt.iconst (pc' := 12) (v := (1 : Int32)) X0 hx (hb hby d1_11) rfl rfl ?_
    refine Rt.iadd (pc' := 13) (r := (((p2 &&& (2147483647 : Int32)) % (80 : Int32)) + (1 : Int32))) X0 hx (hb hby d1_12) rfl rfl ?_
    exact Rt.retI X0 hx hlk hret (hb hby d1_13) (by decide) (by decide) (fun L N => ⟨congrArg some (congrArg Value.int (by rw [f1, if_pos hc1_1])), N, rfl⟩)
  · refine Rt.ifY (pc' := 14) X0 hx (hb hby d1_1) ((if0 _ _).trans (feq hc1_1).2) (by decide) (by decide) ?_
    refine Rt.iconst (pc' := 15) (v := (0 : Int32)) X0 hx (hb hby d1_14) rfl rfl ?_
    exact Rt.retI X0 hx hlk hret (hb hby d1_15) (by decide) (by decide) (fun L N => ⟨congrArg some (congrArg Value.int (by rw [f1, if_neg hc1_1])), N, rfl⟩)
theorem d4_0 : decode jdk_30_method_1_code 0 = .ok (.aload_n 0, 1) := by decide +kernel
theorem d4_1 : decode jdk_30_method_1_code 1 = .ok (.invokespecial 1, 3) := by decide +kernel
theorem d4_4 : decode jdk_30_method_1_code 4 = .ok (.return_, 1) := by decide +kernel
def Q4 (a1 : Addr) (h0 : Heap) (n0 : Nat) (v : Option Value) (h : Heap) (L : List Loc) : Prop := v = none ∧ Fr n0 L ∧ h = h0
def rmR4 : Room := { frames := 1, cells := 0, slots := 0, locals := 12 }
theorem ef_4 (m : MethodId) (a1 : Addr) : entryFrame m #[(.ref a1)] 1 = mkF m 0 #[.val (.ref a1)] [] := by first | (simp [entryFrame, mkF, argsToLocals, Value.category]; done) | rfl
theorem pn_java_lang_Record : plainName "java/lang/Record" = true := by first | (simp [plainName, overriddenIn]; done) | decide +kernel
set_option maxRecDepth 65536 in
set_option maxHeartbeats 40000000 in
theorem rm4 (l : Launch) (Z : State) (a0 : Array Value) (hw : ∀ d ∈ tables_1, d.before a0 Z = true) (ws : List Jvm.Cond) (a1 : Addr) (h0 : Heap) (n0 : Nat) :
    Mt l Z mt2 (Jvm.Cond.code mt2 jdk_30_method_1_code 1 none :: ws) rmR4 #[(.ref a1)] h0 (Q4 a1 h0 n0) := by
  refine Mt.of n0 (plainFor_of_name pn_java_lang_Record) ?_
  intro p e s m below meth c T0 X0 hx hZ hby hml hown hret hlk hnm hs0
  have hown : s.vm.findClass "java/lang/Record" = some m.cls := hown
  rw [ef_4]
  show Rt p e below s rmR4.cells rmR4.slots (Q4 a1 h0 n0) (T0.setTop (mkF m 0 #[.val (.ref a1)] []))
  refine Rt.aloadN (pc' := 1) X0 hx (hb hby d4_0) rfl rfl rfl ?_
  refine Rt.initO (pc' := 4) X0 hx hZ hown (hw _ (List.mem_of_getElem? (i := 22) rfl)) (hw _ (List.mem_of_getElem? (i := 23) rfl)) (hw _ (List.mem_of_getElem? (i := 24) rfl)) (by rw [hml]; rfl) (hb hby d4_1) (by decide) (W := 0) (Nat.le_of_eq rfl) (by decide) rfl ?_
  intro T1 X1
  exact Rt.retV X1 hx hlk hret (hb hby d4_4) (by decide) (by decide) (fun L N => ⟨rfl, N, rfl⟩)
theorem d6_0 : decode prog_14_method_15_code 0 = .ok (.iload_n 0, 1) := by decide +kernel
theorem d6_1 : decode prog_14_method_15_code 1 = .ok (.iconst 1, 1) := by decide +kernel
theorem d6_2 : decode prog_14_method_15_code 2 = .ok (.if_icmp .lt 9, 3) := by decide +kernel
theorem d6_5 : decode prog_14_method_15_code 5 = .ok (.iload_n 0, 1) := by decide +kernel
theorem d6_6 : decode prog_14_method_15_code 6 = .ok (.bipush 80, 2) := by decide +kernel
theorem d6_8 : decode prog_14_method_15_code 8 = .ok (.if_icmp .le 17, 3) := by decide +kernel
theorem d6_25 : decode prog_14_method_15_code 25 = .ok (.return_, 1) := by decide +kernel
def Q6 (p1 : Int32) (h0 : Heap) (n0 : Nat) (v : Option Value) (h : Heap) (L : List Loc) : Prop := v = none ∧ Fr n0 L ∧ h = h0
def rmR6 : Room := { frames := 0, cells := 0, slots := 0, locals := 0 }
theorem ef_6 (m : MethodId) (p1 : Int32) : entryFrame m #[(.int p1)] 1 = mkF m 0 #[.val (.int p1)] [] := by first | (simp [entryFrame, mkF, argsToLocals, Value.category]; done) | rfl
theorem pn_com_example_silent_isles_silentisles_voyage_Card : plainName "com/example/silent_isles/silentisles/voyage/Card" = true := by first | (simp [plainName, overriddenIn]; done) | decide +kernel
set_option maxRecDepth 65536 in
set_option maxHeartbeats 40000000 in
theorem rm6 (l : Launch) (Z : State) (a0 : Array Value) (hw : ∀ d ∈ tables_1, d.before a0 Z = true) (ws : List Jvm.Cond) (p1 : Int32) (h0 : Heap) (n0 : Nat) (hp1 : ¬ p1 < (1 : Int32)) (hp2 : ¬ (80 : Int32) < p1) :
    Mt l Z mt3 (Jvm.Cond.code mt3 prog_14_method_15_code 1 none :: ws) rmR6 #[(.int p1)] h0 (Q6 p1 h0 n0) := by
  refine Mt.of n0 (plainFor_of_name pn_com_example_silent_isles_silentisles_voyage_Card) ?_
  intro p e s m below meth c T0 X0 hx hZ hby hml hown hret hlk hnm hs0
  have hown : s.vm.findClass "com/example/silent_isles/silentisles/voyage/Card" = some m.cls := hown
  rw [ef_6]
  show Rt p e below s rmR6.cells rmR6.slots (Q6 p1 h0 n0) (T0.setTop (mkF m 0 #[.val (.int p1)] []))
  refine Rt.iloadN (pc' := 1) X0 hx (hb hby d6_0) rfl rfl ?_
  refine Rt.iconst (pc' := 2) (v := (1 : Int32)) X0 hx (hb hby d6_1) rfl rfl ?_
  refine Rt.icmpN (pc' := 5) X0 hx (hb hby d6_2) (flt hp1).1 rfl ?_
  refine Rt.iloadN (pc' := 6) X0 hx (hb hby d6_5) rfl rfl ?_
  refine Rt.bipush (pc' := 8) (v := (80 : Int32)) X0 hx (hb hby d6_6) rfl rfl ?_
  refine Rt.icmpY (pc' := 25) X0 hx (hb hby d6_8) (flt hp2).2.2.2 (by decide) (by decide) ?_
  exact Rt.retV X0 hx hlk hret (hb hby d6_25) (by decide) (by decide) (fun L N => ⟨rfl, N, rfl⟩)
theorem d3_0 : decode prog_14_method_1_code 0 = .ok (.aload_n 0, 1) := by decide +kernel
theorem pd_0 : parseMethodDescriptor "()V" = some ⟨[], none⟩ := by decide +kernel
theorem d3_1 : decode prog_14_method_1_code 1 = .ok (.invokespecial 3, 3) := by decide +kernel
theorem d3_4 : decode prog_14_method_1_code 4 = .ok (.aload_n 1, 1) := by decide +kernel
theorem d3_5 : decode prog_14_method_1_code 5 = .ok (.ifnonnull 13, 3) := by decide +kernel
theorem d3_18 : decode prog_14_method_1_code 18 = .ok (.aload_n 1, 1) := by decide +kernel
theorem d3_19 : decode prog_14_method_1_code 19 = .ok (.getstatic 16, 3) := by decide +kernel
theorem d3_22 : decode prog_14_method_1_code 22 = .ok (.if_acmp .ne 7, 3) := by decide +kernel
theorem d3_25 : decode prog_14_method_1_code 25 = .ok (.iload_n 2, 1) := by decide +kernel
theorem pd_1 : parseMethodDescriptor "(I)V" = some ⟨[.int], none⟩ := by decide +kernel
theorem d3_26 : decode prog_14_method_1_code 26 = .ok (.invokestatic 22, 3) := by decide +kernel
theorem d3_29 : decode prog_14_method_1_code 29 = .ok (.aload_n 1, 1) := by decide +kernel
theorem d3_30 : decode prog_14_method_1_code 30 = .ok (.getstatic 16, 3) := by decide +kernel
theorem d3_33 : decode prog_14_method_1_code 33 = .ok (.if_acmp .eq 24, 3) := by decide +kernel
theorem d3_57 : decode prog_14_method_1_code 57 = .ok (.aload_n 0, 1) := by decide +kernel
theorem d3_58 : decode prog_14_method_1_code 58 = .ok (.aload_n 1, 1) := by decide +kernel
theorem d3_59 : decode prog_14_method_1_code 59 = .ok (.putfield 36, 3) := by decide +kernel
theorem d3_62 : decode prog_14_method_1_code 62 = .ok (.aload_n 0, 1) := by decide +kernel
theorem d3_63 : decode prog_14_method_1_code 63 = .ok (.iload_n 2, 1) := by decide +kernel
theorem d3_64 : decode prog_14_method_1_code 64 = .ok (.putfield 39, 3) := by decide +kernel
theorem d3_67 : decode prog_14_method_1_code 67 = .ok (.return_, 1) := by decide +kernel
def Q3i (Z : State) (a1 : Addr) (w_ISLAND : Addr) (p3 : Int32) (h0 : Heap) (n0 : Nat) (v : Option Value) (h : Heap) (L : List Loc) : Prop := v = none ∧ Fr n0 L ∧ Keep h0 h [a1] ∧ Exa Z h a1 nm1 ∧ Fld Z h a1 nm1 "kind" nm3 (.ref w_ISLAND) ∧ Fld Z h a1 nm1 "number" "I" (.int p3)
def rmR3i : Room := { frames := 2, cells := 0, slots := 0, locals := 24 }
theorem ef_3i (m : MethodId) (a1 : Addr) (w_ISLAND : Addr) (p3 : Int32) : entryFrame m #[(.ref a1), (.ref w_ISLAND), (.int p3)] 3 = mkF m 0 #[.val (.ref a1), .val (.ref w_ISLAND), .val (.int p3)] [] := by first | (simp [entryFrame, mkF, argsToLocals, Value.category]; done) | rfl
set_option maxRecDepth 65536 in
set_option maxHeartbeats 40000000 in
theorem rm3i (l : Launch) (Z : State) (a0 : Array Value) (hw : ∀ d ∈ tables_1, d.before a0 Z = true) (ws : List Jvm.Cond) (a1 : Addr) (w_ISLAND : Addr) (p3 : Int32) (h0 : Heap) (n0 : Nat) (Z0 : n0 ≤ h0.size) (F_E_a1 : Exa Z h0 a1 nm1) (F_F_a1_kind : Fld Z h0 a1 nm1 "kind" nm3 .null) (F_F_a1_number : Fld Z h0 a1 nm1 "number" "I" (.int (0 : Int32))) (F_S_com_example_silent_isles_silentisles_voyage_Card_Kind_ISLAND : Sta Z h0 nm2 "ISLAND" nm3 (.ref w_ISLAND)) (g_a1 : n0 ≤ a1) (hp1 : ¬ p3 < (1 : Int32)) (hp2 : ¬ (80 : Int32) < p3) :
    Mt l Z mt4 (Jvm.Cond.code mt4 prog_14_method_1_code 3 none :: ws) rmR3i #[(.ref a1), (.ref w_ISLAND), (.int p3)] h0 (Q3i Z a1 w_ISLAND p3 h0 n0) := by
  refine Mt.of n0 (plainFor_of_name pn_com_example_silent_isles_silentisles_voyage_Card) ?_
  intro p e s m below meth c T0 X0 hx hZ hby hml hown hret hlk hnm hs0
  have hown : s.vm.findClass "com/example/silent_isles/silentisles/voyage/Card" = some m.cls := hown
  rw [ef_3i]
  show Rt p e below s rmR3i.cells rmR3i.slots (Q3i Z a1 w_ISLAND p3 h0 n0) (T0.setTop (mkF m 0 #[.val (.ref a1), .val (.ref w_ISLAND), .val (.int p3)] []))
  refine Rt.aloadN (pc' := 1) X0 hx (hb hby d3_0) rfl rfl rfl ?_
  refine Rt.callI (pc' := 4) X0 hx hZ (y := mt2) rfl hown (hw _ (List.mem_of_getElem? (i := 17) rfl)) (hw _ (List.mem_of_getElem? (i := 18) rfl)) (hw _ (List.mem_of_getElem? (i := 20) rfl)) (hw _ (List.mem_of_getElem? (i := 21) rfl)) (by decide) (rm4 l Z a0 hw [] a1 h0 n0) (fun _ _ _ q => q.2.1) (W := 0) (by decide) (by decide) (by decide) (by decide) (argsL := []) (rest := []) (by rw [hml]; rfl) (lenOf pd_0 rfl) rfl rfl (Nat.le_of_eq rfl) (hb hby d3_1) rfl ?_
  rintro _ T1 h1 L1 X1 ⟨rfl, N1, e1⟩
  rw [e1] at X1
  show Rt _ _ _ _ _ _ _ (T1.setTop (mkF m 4 #[.val (.ref a1), .val (.ref w_ISLAND), .val (.int p3)] []))
  refine Rt.aloadN (pc' := 5) X1 hx (hb hby d3_4) rfl rfl rfl ?_
  refine Rt.ifnonnullY (pc' := 18) X1 hx (hb hby d3_5) (by decide) (by decide) ?_
  refine Rt.aloadN (pc' := 19) X1 hx (hb hby d3_18) rfl rfl rfl ?_
  refine Rt.getS (pc' := 22) (v := (.ref w_ISLAND)) X1 hx hZ hown (host := "") (Or.inl (hw _ (List.mem_of_getElem? (i := 25) rfl))) F_S_com_example_silent_isles_silentisles_voyage_Card_Kind_ISLAND (hb hby d3_19) rfl ?_
  intro T3 X3
  refine Rt.acmp (pc' := 25) X3 hx (same := true) rfl rfl (hb hby d3_22) (decide_eq_true rfl) (by decide) (by decide) ?_
  refine Rt.iloadN (pc' := 26) X3 hx (hb hby d3_25) rfl rfl ?_
  refine Rt.callS (pc' := 29) X3 hx hZ (y := mt3) hown (hw _ (List.mem_of_getElem? (i := 26) rfl)) (hw _ (List.mem_of_getElem? (i := 27) rfl)) (hw _ (List.mem_of_getElem? (i := 10) rfl)) (hw _ (List.mem_of_getElem? (i := 28) rfl)) (by decide) (rm6 l Z a0 hw [] p3 h0 n0 hp1 hp2) (fun _ _ _ q => q.2.1) (W := 0) (by decide) (by decide) (by decide) (by decide) (argsL := [(.int p3)]) (rest := []) (by rw [hml]; rfl) (lenOf pd_1 rfl) rfl rfl (Nat.le_of_eq rfl) (hb hby d3_26) rfl ?_
  rintro _ T4 h4 L4 X4 ⟨rfl, N4, e4⟩
  rw [e4] at X4
  show Rt _ _ _ _ _ _ _ (T4.setTop (mkF m 29 #[.val (.ref a1), .val (.ref w_ISLAND), .val (.int p3)] []))
  refine Rt.aloadN (pc' := 30) X4 hx (hb hby d3_29) rfl rfl rfl ?_
  refine Rt.getS (pc' := 33) (v := (.ref w_ISLAND)) X4 hx hZ hown (host := "") (Or.inl (hw _ (List.mem_of_getElem? (i := 25) rfl))) F_S_com_example_silent_isles_silentisles_voyage_Card_Kind_ISLAND (hb hby d3_30) rfl ?_
  intro T6 X6
  refine Rt.acmp (pc' := 57) X6 hx (same := true) rfl rfl (hb hby d3_33) (decide_eq_true rfl) (by decide) (by decide) ?_
  refine Rt.aloadN (pc' := 58) X6 hx (hb hby d3_57) rfl rfl rfl ?_
  refine Rt.aloadN (pc' := 59) X6 hx (hb hby d3_58) rfl rfl rfl ?_
  refine Rt.putF (pc' := 62) (v := (.ref w_ISLAND)) X6 hx hZ hown (host := "") (Or.inl (hw _ (List.mem_of_getElem? (i := 29) rfl))) F_F_a1_kind F_E_a1 (Or.inr ⟨(hw _ (List.mem_of_getElem? (i := 30) rfl)), rfl, hnm⟩) (hw _ (List.mem_of_getElem? (i := 9) rfl)) (ty := (.object "com/example/silent_isles/silentisles/voyage/Card$Kind")) (by decide) rfl rfl g_a1 (hb hby d3_59) rfl ?_
  intro T7 h7 X7 W7 F7
  have F8 : Exa Z h7 a1 nm1 := F_E_a1.wr W7
  have F9 : Fld Z h7 a1 nm1 "number" "I" (.int (0 : Int32)) := F_F_a1_number.other W7 (Or.inr (slot_ne (Or.inr (hw _ (List.mem_of_getElem? (i := 32) rfl))) (Or.inr (hw _ (List.mem_of_getElem? (i := 30) rfl))) (by decide) (t := .int) (t' := (.object "com/example/silent_isles/silentisles/voyage/Card$Kind")) (by decide) (by decide)))
  have F10 : Sta Z h7 nm2 "ISLAND" nm3 (.ref w_ISLAND) := F_S_com_example_silent_isles_silentisles_voyage_Card_Kind_ISLAND.wr W7
  have K11 : Keep h0 h7 [a1] := (Keep.refl h0 [a1]).wr W7 (Or.inl (List.mem_of_getElem? (i := 0) rfl))
  have Z12 : n0 ≤ h7.size := Nat.le_trans Z0 (Keep.of_wr W7).1
  refine Rt.aloadN (pc' := 63) X7 hx (hb hby d3_62) rfl rfl rfl ?_
  refine Rt.iloadN (pc' := 64) X7 hx (hb hby d3_63) rfl rfl ?_
  refine Rt.putF (pc' := 67) (v := (.int p3)) X7 hx hZ hown (host := "") (Or.inl (hw _ (List.mem_of_getElem? (i := 31) rfl))) F9 F8 (Or.inr ⟨(hw _ (List.mem_of_getElem? (i := 32) rfl)), rfl, hnm⟩) (hw _ (List.mem_of_getElem? (i := 9) rfl)) (ty := .int) (by decide) rfl rfl g_a1 (hb hby d3_64) rfl ?_
  intro T13 h13 X13 W13 F13
  have F14 : Exa Z h13 a1 nm1 := F8.wr W13
  have F15 : Fld Z h13 a1 nm1 "kind" nm3 (.ref w_ISLAND) := F7.other W13 (Or.inr (slot_ne (Or.inr (hw _ (List.mem_of_getElem? (i := 30) rfl))) (Or.inr (hw _ (List.mem_of_getElem? (i := 32) rfl))) (by decide) (t := (.object "com/example/silent_isles/silentisles/voyage/Card$Kind")) (t' := .int) (by decide) (by decide)))
  have F16 : Sta Z h13 nm2 "ISLAND" nm3 (.ref w_ISLAND) := F10.wr W13
  have K17 : Keep h0 h13 [a1] := K11.wr W13 (Or.inl (List.mem_of_getElem? (i := 0) rfl))
  have Z18 : n0 ≤ h13.size := Nat.le_trans Z12 (Keep.of_wr W13).1
  exact Rt.retV X13 hx hlk hret (hb hby d3_67) (by decide) (by decide) (fun L N => ⟨rfl, N, K17, F14, F15, F13⟩)
theorem d3_36 : decode prog_14_method_1_code 36 = .ok (.iload_n 2, 1) := by decide +kernel
theorem d3_37 : decode prog_14_method_1_code 37 = .ok (.ifCond .eq 20, 3) := by decide +kernel
def Q3o (Z : State) (a1 : Addr) (a2 : Addr) (w_ISLAND : Addr) (h0 : Heap) (n0 : Nat) (v : Option Value) (h : Heap) (L : List Loc) : Prop := v = none ∧ Fr n0 L ∧ Keep h0 h [a1] ∧ Exa Z h a1 nm1 ∧ Fld Z h a1 nm1 "kind" nm3 (.ref a2) ∧ Fld Z h a1 nm1 "number" "I" (.int (0 : Int32))
def rmR3o : Room := { frames := 2, cells := 0, slots := 0, locals := 24 }
theorem ef_3o (m : MethodId) (a1 : Addr) (a2 : Addr) : entryFrame m #[(.ref a1), (.ref a2), (.int (0 : Int32))] 3 = mkF m 0 #[.val (.ref a1), .val (.ref a2), .val (.int (0 : Int32))] [] := by first | (simp [entryFrame, mkF, argsToLocals, Value.category]; done) | rfl
set_option maxRecDepth 65536 in
set_option maxHeartbeats 40000000 in
theorem rm3o (l : Launch) (Z : State) (a0 : Array Value) (hw : ∀ d ∈ tables_1, d.before a0 Z = true) (ws : List Jvm.Cond) (a1 : Addr) (a2 : Addr) (w_ISLAND : Addr) (h0 : Heap) (n0 : Nat) (Z0 : n0 ≤ h0.size) (F_E_a1 : Exa Z h0 a1 nm1) (F_F_a1_kind : Fld Z h0 a1 nm1 "kind" nm3 .null) (F_F_a1_number : Fld Z h0 a1 nm1 "number" "I" (.int (0 : Int32))) (F_S_com_example_silent_isles_silentisles_voyage_Card_Kind_ISLAND : Sta Z h0 nm2 "ISLAND" nm3 (.ref w_ISLAND)) (g_a1 : n0 ≤ a1) (ne_k : a2 ≠ w_ISLAND) :
    Mt l Z mt4 (Jvm.Cond.code mt4 prog_14_method_1_code 3 none :: ws) rmR3o #[(.ref a1), (.ref a2), (.int (0 : Int32))] h0 (Q3o Z a1 a2 w_ISLAND h0 n0) := by
  refine Mt.of n0 (plainFor_of_name pn_com_example_silent_isles_silentisles_voyage_Card) ?_
  intro p e s m below meth c T0 X0 hx hZ hby hml hown hret hlk hnm hs0
  have hown : s.vm.findClass "com/example/silent_isles/silentisles/voyage/Card" = some m.cls := hown
  rw [ef_3o]
  show Rt p e below s rmR3o.cells rmR3o.slots (Q3o Z a1 a2 w_ISLAND h0 n0) (T0.setTop (mkF m 0 #[.val (.ref a1), .val (.ref a2), .val (.int (0 : Int32))] []))
  refine Rt.aloadN (pc' := 1) X0 hx (hb hby d3_0) rfl rfl rfl ?_
  refine Rt.callI (pc' := 4) X0 hx hZ (y := mt2) rfl hown (hw _ (List.mem_of_getElem? (i := 17) rfl)) (hw _ (List.mem_of_getElem? (i := 18) rfl)) (hw _ (List.mem_of_getElem? (i := 20) rfl)) (hw _ (List.mem_of_getElem? (i := 21) rfl)) (by decide) (rm4 l Z a0 hw [] a1 h0 n0) (fun _ _ _ q => q.2.1) (W := 0) (by decide) (by decide) (by decide) (by decide) (argsL := []) (rest := []) (by rw [hml]; rfl) (lenOf pd_0 rfl) rfl rfl (Nat.le_of_eq rfl) (hb hby d3_1) rfl ?_
  rintro _ T1 h1 L1 X1 ⟨rfl, N1, e1⟩
  rw [e1] at X1
  show Rt _ _ _ _ _ _ _ (T1.setTop (mkF m 4 #[.val (.ref a1), .val (.ref a2), .val (.int (0 : Int32))] []))
  refine Rt.aloadN (pc' := 5) X1 hx (hb hby d3_4) rfl rfl rfl ?_
  refine Rt.ifnonnullY (pc' := 18) X1 hx (hb hby d3_5) (by decide) (by decide) ?_
  refine Rt.aloadN (pc' := 19) X1 hx (hb hby d3_18) rfl rfl rfl ?_
  refine Rt.getS (pc' := 22) (v := (.ref w_ISLAND)) X1 hx hZ hown (host := "") (Or.inl (hw _ (List.mem_of_getElem? (i := 25) rfl))) F_S_com_example_silent_isles_silentisles_voyage_Card_Kind_ISLAND (hb hby d3_19) rfl ?_
  intro T3 X3
  refine Rt.acmp (pc' := 29) X3 hx (same := false) rfl rfl (hb hby d3_22) (decide_eq_false fun q => ne_k (Value.ref.inj q)) (by decide) (by decide) ?_
  refine Rt.aloadN (pc' := 30) X3 hx (hb hby d3_29) rfl rfl rfl ?_
  refine Rt.getS (pc' := 33) (v := (.ref w_ISLAND)) X3 hx hZ hown (host := "") (Or.inl (hw _ (List.mem_of_getElem? (i := 25) rfl))) F_S_com_example_silent_isles_silentisles_voyage_Card_Kind_ISLAND (hb hby d3_30) rfl ?_
  intro T5 X5
  refine Rt.acmp (pc' := 36) X5 hx (same := false) rfl rfl (hb hby d3_33) (decide_eq_false fun q => ne_k (Value.ref.inj q)) (by decide) (by decide) ?_
  refine Rt.iloadN (pc' := 37) X5 hx (hb hby d3_36) rfl rfl ?_
  refine Rt.ifY (pc' := 57) X5 hx (hb hby d3_37) ((if0 _ _).trans (teq (by decide : (0 : Int32) = (0 : Int32))).1) (by decide) (by decide) ?_
  refine Rt.aloadN (pc' := 58) X5 hx (hb hby d3_57) rfl rfl rfl ?_
  refine Rt.aloadN (pc' := 59) X5 hx (hb hby d3_58) rfl rfl rfl ?_
  refine Rt.putF (pc' := 62) (v := (.ref a2)) X5 hx hZ hown (host := "") (Or.inl (hw _ (List.mem_of_getElem? (i := 29) rfl))) F_F_a1_kind F_E_a1 (Or.inr ⟨(hw _ (List.mem_of_getElem? (i := 30) rfl)), rfl, hnm⟩) (hw _ (List.mem_of_getElem? (i := 9) rfl)) (ty := (.object "com/example/silent_isles/silentisles/voyage/Card$Kind")) (by decide) rfl rfl g_a1 (hb hby d3_59) rfl ?_
  intro T6 h6 X6 W6 F6
  have F7 : Exa Z h6 a1 nm1 := F_E_a1.wr W6
  have F8 : Fld Z h6 a1 nm1 "number" "I" (.int (0 : Int32)) := F_F_a1_number.other W6 (Or.inr (slot_ne (Or.inr (hw _ (List.mem_of_getElem? (i := 32) rfl))) (Or.inr (hw _ (List.mem_of_getElem? (i := 30) rfl))) (by decide) (t := .int) (t' := (.object "com/example/silent_isles/silentisles/voyage/Card$Kind")) (by decide) (by decide)))
  have F9 : Sta Z h6 nm2 "ISLAND" nm3 (.ref w_ISLAND) := F_S_com_example_silent_isles_silentisles_voyage_Card_Kind_ISLAND.wr W6
  have K10 : Keep h0 h6 [a1] := (Keep.refl h0 [a1]).wr W6 (Or.inl (List.mem_of_getElem? (i := 0) rfl))
  have Z11 : n0 ≤ h6.size := Nat.le_trans Z0 (Keep.of_wr W6).1
  refine Rt.aloadN (pc' := 63) X6 hx (hb hby d3_62) rfl rfl rfl ?_
  refine Rt.iloadN (pc' := 64) X6 hx (hb hby d3_63) rfl rfl ?_
  refine Rt.putF (pc' := 67) (v := (.int (0 : Int32))) X6 hx hZ hown (host := "") (Or.inl (hw _ (List.mem_of_getElem? (i := 31) rfl))) F8 F7 (Or.inr ⟨(hw _ (List.mem_of_getElem? (i := 32) rfl)), rfl, hnm⟩) (hw _ (List.mem_of_getElem? (i := 9) rfl)) (ty := .int) (by decide) rfl rfl g_a1 (hb hby d3_64) rfl ?_
  intro T12 h12 X12 W12 F12
  have F13 : Exa Z h12 a1 nm1 := F7.wr W12
  have F14 : Fld Z h12 a1 nm1 "kind" nm3 (.ref a2) := F6.other W12 (Or.inr (slot_ne (Or.inr (hw _ (List.mem_of_getElem? (i := 30) rfl))) (Or.inr (hw _ (List.mem_of_getElem? (i := 32) rfl))) (by decide) (t := (.object "com/example/silent_isles/silentisles/voyage/Card$Kind")) (t' := .int) (by decide) (by decide)))
  have F15 : Sta Z h12 nm2 "ISLAND" nm3 (.ref w_ISLAND) := F9.wr W12
  have K16 : Keep h0 h12 [a1] := K10.wr W12 (Or.inl (List.mem_of_getElem? (i := 0) rfl))
  have Z17 : n0 ≤ h12.size := Nat.le_trans Z11 (Keep.of_wr W12).1
  exact Rt.retV X12 hx hlk hret (hb hby d3_67) (by decide) (by decide) (fun L N => ⟨rfl, N, K16, F13, F14, F12⟩)
theorem d2_0 : decode method_3_code 0 = .ok (.iload_n 0, 1) := by decide +kernel
theorem d2_1 : decode method_3_code 1 = .ok (.ifCond .ne 15, 3) := by decide +kernel
theorem d2_4 : decode method_3_code 4 = .ok (.new 8, 3) := by decide +kernel
theorem d2_7 : decode method_3_code 7 = .ok (.dup, 1) := by decide +kernel
theorem d2_8 : decode method_3_code 8 = .ok (.getstatic 10, 3) := by decide +kernel
theorem d2_11 : decode method_3_code 11 = .ok (.iload_n 1, 1) := by decide +kernel
theorem pd_2 : parseMethodDescriptor "(Lcom/example/silent_isles/silentisles/voyage/Card$Kind;I)V" = some ⟨[(.object "com/example/silent_isles/silentisles/voyage/Card$Kind"), .int], none⟩ := by decide +kernel
theorem d2_12 : decode method_3_code 12 = .ok (.invokespecial 16, 3) := by decide +kernel
theorem d2_15 : decode method_3_code 15 = .ok (.areturn, 1) := by decide +kernel
theorem d2_16 : decode method_3_code 16 = .ok (.iload_n 0, 1) := by decide +kernel
theorem d2_17 : decode method_3_code 17 = .ok (.iconst 1, 1) := by decide +kernel
theorem d2_18 : decode method_3_code 18 = .ok (.if_icmp .ne 15, 3) := by decide +kernel
theorem d2_21 : decode method_3_code 21 = .ok (.new 8, 3) := by decide +kernel
theorem d2_24 : decode method_3_code 24 = .ok (.dup, 1) := by decide +kernel
theorem d2_25 : decode method_3_code 25 = .ok (.getstatic 19, 3) := by decide +kernel
theorem d2_28 : decode method_3_code 28 = .ok (.iconst 0, 1) := by decide +kernel
theorem d2_29 : decode method_3_code 29 = .ok (.invokespecial 16, 3) := by decide +kernel
theorem d2_32 : decode method_3_code 32 = .ok (.areturn, 1) := by decide +kernel
theorem d2_33 : decode method_3_code 33 = .ok (.new 8, 3) := by decide +kernel
theorem d2_36 : decode method_3_code 36 = .ok (.dup, 1) := by decide +kernel
theorem d2_37 : decode method_3_code 37 = .ok (.getstatic 22, 3) := by decide +kernel
theorem d2_40 : decode method_3_code 40 = .ok (.iconst 0, 1) := by decide +kernel
theorem d2_41 : decode method_3_code 41 = .ok (.invokespecial 16, 3) := by decide +kernel
theorem d2_44 : decode method_3_code 44 = .ok (.areturn, 1) := by decide +kernel
def f2_o_F_nw_kind_0 (p1 : Int32) (w_ISLAND : Addr) (w_FINISH : Addr) (w_START : Addr) : Addr := (if p1 = (0 : Int32) then w_ISLAND else (if p1 = (1 : Int32) then w_FINISH else w_START))
def f2_o_F_nw_number_0 (p1 : Int32) (p2 : Int32) : Int32 := (if p1 = (0 : Int32) then p2 else (if p1 = (1 : Int32) then (0 : Int32) else (0 : Int32)))
def Q2 (Z : State) (p1 : Int32) (p2 : Int32) (w_ISLAND : Addr) (w_FINISH : Addr) (w_START : Addr) (h0 : Heap) (n0 : Nat) (v : Option Value) (h : Heap) (L : List Loc) : Prop := ∃ nw : Addr, h0.size ≤ nw ∧ v = some (.ref nw) ∧ Fr n0 L ∧ Keep h0 h [] ∧ Exa Z h nw nm1 ∧ Fld Z h nw nm1 "kind" nm3 (.ref (f2_o_F_nw_kind_0 p1 w_ISLAND w_FINISH w_START)) ∧ Fld Z h nw nm1 "number" "I" (.int (f2_o_F_nw_number_0 p1 p2))
def rmR2 : Room := { frames := 3, cells := 1, slots := 2, locals := 39 }
theorem ef_2 (m : MethodId) (p1 : Int32) (p2 : Int32) : entryFrame m #[(.int p1), (.int p2)] 2 = mkF m 0 #[.val (.int p1), .val (.int p2)] [] := by first | (simp [entryFrame, mkF, argsToLocals, Value.category]; done) | rfl
set_option maxRecDepth 65536 in
set_option maxHeartbeats 40000000 in
theorem rm2 (l : Launch) (Z : State) (a0 : Array Value) (hw : ∀ d ∈ tables_1, d.before a0 Z = true) (ws : List Jvm.Cond) (p1 : Int32) (p2 : Int32) (w_ISLAND : Addr) (w_FINISH : Addr) (w_START : Addr) (h0 : Heap) (n0 : Nat) (Z0 : n0 ≤ h0.size) (F_S_com_example_silent_isles_silentisles_voyage_Card_Kind_ISLAND : Sta Z h0 nm2 "ISLAND" nm3 (.ref w_ISLAND)) (F_S_com_example_silent_isles_silentisles_voyage_Card_Kind_FINISH : Sta Z h0 nm2 "FINISH" nm3 (.ref w_FINISH)) (F_S_com_example_silent_isles_silentisles_voyage_Card_Kind_START : Sta Z h0 nm2 "START" nm3 (.ref w_START)) (hmk1 : p1 = (0 : Int32) → ¬ p2 < (1 : Int32)) (hmk2 : p1 = (0 : Int32) → ¬ (80 : Int32) < p2) (neF : w_FINISH ≠ w_ISLAND) (neS : w_START ≠ w_ISLAND) :
    Mt l Z mt5 (Jvm.Cond.code mt5 method_3_code 2 (some (.object "com/example/silent_isles/silentisles/voyage/Card")) :: ws) rmR2 #[(.int p1), (.int p2)] h0 (Q2 Z p1 p2 w_ISLAND w_FINISH w_START h0 n0) := by
  refine Mt.of n0 (plainFor_of_name pn_com_example_silent_isles_silentisles_voyage_CardEqualsPinLaw) ?_
  intro p e s m below meth c T0 X0 hx hZ hby hml hown hret hlk hnm hs0
  have hown : s.vm.findClass "com/example/silent_isles/silentisles/voyage/CardEqualsPinLaw" = some m.cls := hown
  rw [ef_2]
  show Rt p e below s rmR2.cells rmR2.slots (Q2 Z p1 p2 w_ISLAND w_FINISH w_START h0 n0) (T0.setTop (mkF m 0 #[.val (.int p1), .val (.int p2)] []))
  refine Rt.iloadN (pc' := 1) X0 hx (hb hby d2_0) rfl rfl ?_
  by_cases hc1_1 : p1 = (0 : Int32)
  · refine Rt.ifN (pc' := 4) X0 hx (hb hby d2_1) ((if0 _ _).trans (teq hc1_1).2) rfl ?_
    refine Rt.newO (pc' := 7) X0 hx hZ hown (hw _ (List.mem_of_getElem? (i := 8) rfl)) (hw _ (List.mem_of_getElem? (i := 9) rfl)) (hw _ (List.mem_of_getElem? (i := 10) rfl)) (hb hby d2_4) (by decide) (by decide) rfl ?_
    intro T2 h2 b4 ha2 X2 E2 A2 D2
    have g3 : n0 ≤ b4 := by rw [ha2]; exact Z0
    have s4 : h0.size ≤ b4 := by rw [ha2]; exact (Keep.refl h0 []).1
    have F5 : Sta Z h2 nm2 "ISLAND" nm3 (.ref w_ISLAND) := F_S_com_example_silent_isles_silentisles_voyage_Card_Kind_ISLAND.ext E2
    have F6 : Sta Z h2 nm2 "FINISH" nm3 (.ref w_FINISH) := F_S_com_example_silent_isles_silentisles_voyage_Card_Kind_FINISH.ext E2
    have F7 : Sta Z h2 nm2 "START" nm3 (.ref w_START) := F_S_com_example_silent_isles_silentisles_voyage_Card_Kind_START.ext E2
    have K8 : Keep h0 h2 [] := (Keep.refl h0 []).ext E2
    have Z9 : n0 ≤ h2.size := Nat.le_trans Z0 E2.1
    have F10 : Fld Z h2 b4 nm1 "kind" nm3 .null := D2 (Or.inr (hw _ (List.mem_of_getElem? (i := 30) rfl))) (ty := (.object "com/example/silent_isles/silentisles/voyage/Card$Kind")) (by decide)
    have F11 : Fld Z h2 b4 nm1 "number" "I" (.int (0 : Int32)) := D2 (Or.inr (hw _ (List.mem_of_getElem? (i := 32) rfl))) (ty := .int) (by decide)
    refine Rt.dup (pc' := 8) X2 hx (hb hby d2_7) rfl rfl ?_
    refine Rt.getS (pc' := 11) (v := (.ref w_ISLAND)) X2 hx hZ hown (host := "") (Or.inl (hw _ (List.mem_of_getElem? (i := 11) rfl))) F5 (hb hby d2_8) rfl ?_
    intro T13 X13
    refine Rt.iloadN (pc' := 12) X13 hx (hb hby d2_11) rfl rfl ?_
    refine Rt.callI (pc' := 15) X13 hx hZ (y := mt4) rfl hown (hw _ (List.mem_of_getElem? (i := 14) rfl)) (hw _ (List.mem_of_getElem? (i := 15) rfl)) (hw _ (List.mem_of_getElem? (i := 10) rfl)) (hw _ (List.mem_of_getElem? (i := 16) rfl)) (by decide) (rm3i l Z a0 hw [] b4 w_ISLAND p2 h2 n0 Z9 A2 F10 F11 F5 g3 (hmk1 hc1_1) (hmk2 hc1_1)) (fun _ _ _ q => q.2.1) (W := 1) (by decide) (by decide) (by decide) (by decide) (argsL := [(.ref w_ISLAND), (.int p2)]) (rest := [(.ref b4)]) (by rw [hml]; rfl) (lenOf pd_2 rfl) rfl rfl (Nat.le_of_eq rfl) (hb hby d2_12) rfl ?_
    rintro _ T14 h14 L14 X14 ⟨rfl, N14, K14, F15, F16, F17⟩
    have F18 : Exa Z h14 b4 nm1 := A2.keep K14
    have K19 : Keep h0 h14 [] := K8.trans K14 (allS (Or.inr s4) all0)
    have Z20 : n0 ≤ h14.size := Nat.le_trans Z9 K14.1
    show Rt _ _ _ _ _ _ _ (T14.setTop (mkF m 15 #[.val (.int p1), .val (.int p2)] [(.ref b4)]))
    have F21 : Fld Z h14 b4 nm1 "kind" nm3 (.ref (f2_o_F_nw_kind_0 p1 w_ISLAND w_FINISH w_START)) := by rw [show (f2_o_F_nw_kind_0 p1 w_ISLAND w_FINISH w_START) = w_ISLAND from by rw [f2_o_F_nw_kind_0, if_pos hc1_1]]; exact F16
    have F22 : Fld Z h14 b4 nm1 "number" "I" (.int (f2_o_F_nw_number_0 p1 p2)) := by rw [show (f2_o_F_nw_number_0 p1 p2) = p2 from by rw [f2_o_F_nw_number_0, if_pos hc1_1]]; exact F17
    exact Rt.retA X14 hx hlk (t := (.object "com/example/silent_isles/silentisles/voyage/Card")) rfl hret rfl (hb hby d2_15) (by decide) (by decide) (fun L N => ⟨b4, s4, rfl, N, K19, F15, F21, F22⟩)
  · refine Rt.ifY (pc' := 16) X0 hx (hb hby d2_1) ((if0 _ _).trans (feq hc1_1).2) (by decide) (by decide) ?_
    refine Rt.iloadN (pc' := 17) X0 hx (hb hby d2_16) rfl rfl ?_
    refine Rt.iconst (pc' := 18) (v := (1 : Int32)) X0 hx (hb hby d2_17) rfl rfl ?_
    by_cases hc18_23 : p1 = (1 : Int32)
    · refine Rt.icmpN (pc' := 21) X0 hx (hb hby d2_18) (teq hc18_23).2 rfl ?_
      refine Rt.newO (pc' := 24) X0 hx hZ hown (hw _ (List.mem_of_getElem? (i := 8) rfl)) (hw _ (List.mem_of_getElem? (i := 9) rfl)) (hw _ (List.mem_of_getElem? (i := 10) rfl)) (hb hby d2_21) (by decide) (by decide) rfl ?_
      intro T24 h24 b21 ha24 X24 E24 A24 D24
      have g25 : n0 ≤ b21 := by rw [ha24]; exact Z0
      have s26 : h0.size ≤ b21 := by rw [ha24]; exact (Keep.refl h0 []).1
      have F27 : Sta Z h24 nm2 "ISLAND" nm3 (.ref w_ISLAND) := F_S_com_example_silent_isles_silentisles_voyage_Card_Kind_ISLAND.ext E24
      have F28 : Sta Z h24 nm2 "FINISH" nm3 (.ref w_FINISH) := F_S_com_example_silent_isles_silentisles_voyage_Card_Kind_FINISH.ext E24
      have F29 : Sta Z h24 nm2 "START" nm3 (.ref w_START) := F_S_com_example_silent_isles_silentisles_voyage_Card_Kind_START.ext E24
      have K30 : Keep h0 h24 [] := (Keep.refl h0 []).ext E24
      have Z31 : n0 ≤ h24.size := Nat.le_trans Z0 E24.1
      have F32 : Fld Z h24 b21 nm1 "kind" nm3 .null := D24 (Or.inr (hw _ (List.mem_of_getElem? (i := 30) rfl))) (ty := (.object "com/example/silent_isles/silentisles/voyage/Card$Kind")) (by decide)
      have F33 : Fld Z h24 b21 nm1 "number" "I" (.int (0 : Int32)) := D24 (Or.inr (hw _ (List.mem_of_getElem? (i := 32) rfl))) (ty := .int) (by decide)
      refine Rt.dup (pc' := 25) X24 hx (hb hby d2_24) rfl rfl ?_
      refine Rt.getS (pc' := 28) (v := (.ref w_FINISH)) X24 hx hZ hown (host := "") (Or.inl (hw _ (List.mem_of_getElem? (i := 40) rfl))) F28 (hb hby d2_25) rfl ?_
      intro T35 X35
      refine Rt.iconst (pc' := 29) (v := (0 : Int32)) X35 hx (hb hby d2_28) rfl rfl ?_
      refine Rt.callI (pc' := 32) X35 hx hZ (y := mt4) rfl hown (hw _ (List.mem_of_getElem? (i := 14) rfl)) (hw _ (List.mem_of_getElem? (i := 15) rfl)) (hw _ (List.mem_of_getElem? (i := 10) rfl)) (hw _ (List.mem_of_getElem? (i := 16) rfl)) (by decide) (rm3o l Z a0 hw [] b21 w_FINISH w_ISLAND h24 n0 Z31 A24 F32 F33 F27 g25 neF) (fun _ _ _ q => q.2.1) (W := 1) (by decide) (by decide) (by decide) (by decide) (argsL := [(.ref w_FINISH), (.int (0 : Int32))]) (rest := [(.ref b21)]) (by rw [hml]; rfl) (lenOf pd_2 rfl) rfl rfl (Nat.le_of_eq rfl) (hb hby d2_29) rfl ?_
      rintro _ T36 h36 L36 X36 ⟨rfl, N36, K36, F37, F38, F39⟩
      have F40 : Exa Z h36 b21 nm1 := A24.keep K36
      have K41 : Keep h0 h36 [] := K30.trans K36 (allS (Or.inr s26) all0)
      have Z42 : n0 ≤ h36.size := Nat.le_trans Z31 K36.1
      show Rt _ _ _ _ _ _ _ (T36.setTop (mkF m 32 #[.val (.int p1), .val (.int p2)] [(.ref b21)]))
      have F43 : Fld Z h36 b21 nm1 "kind" nm3 (.ref (f2_o_F_nw_kind_0 p1 w_ISLAND w_FINISH w_START)) := by rw [show (f2_o_F_nw_kind_0 p1 w_ISLAND w_FINISH w_START) = w_FINISH from by rw [f2_o_F_nw_kind_0, if_neg hc1_1, if_pos hc18_23]]; exact F38
      have F44 : Fld Z h36 b21 nm1 "number" "I" (.int (f2_o_F_nw_number_0 p1 p2)) := by rw [show (f2_o_F_nw_number_0 p1 p2) = (0 : Int32) from by rw [f2_o_F_nw_number_0, if_neg hc1_1, if_pos hc18_23]]; exact F39
      exact Rt.retA X36 hx hlk (t := (.object "com/example/silent_isles/silentisles/voyage/Card")) rfl hret rfl (hb hby d2_32) (by decide) (by decide) (fun L N => ⟨b21, s26, rfl, N, K41, F37, F43, F44⟩)
    · refine Rt.icmpY (pc' := 33) X0 hx (hb hby d2_18) (feq hc18_23).2 (by decide) (by decide) ?_
      refine Rt.newO (pc' := 36) X0 hx hZ hown (hw _ (List.mem_of_getElem? (i := 8) rfl)) (hw _ (List.mem_of_getElem? (i := 9) rfl)) (hw _ (List.mem_of_getElem? (i := 10) rfl)) (hb hby d2_33) (by decide) (by decide) rfl ?_
      intro T45 h45 b33 ha45 X45 E45 A45 D45
      have g46 : n0 ≤ b33 := by rw [ha45]; exact Z0
      have s47 : h0.size ≤ b33 := by rw [ha45]; exact (Keep.refl h0 []).1
      have F48 : Sta Z h45 nm2 "ISLAND" nm3 (.ref w_ISLAND) := F_S_com_example_silent_isles_silentisles_voyage_Card_Kind_ISLAND.ext E45
      have F49 : Sta Z h45 nm2 "FINISH" nm3 (.ref w_FINISH) := F_S_com_example_silent_isles_silentisles_voyage_Card_Kind_FINISH.ext E45
      have F50 : Sta Z h45 nm2 "START" nm3 (.ref w_START) := F_S_com_example_silent_isles_silentisles_voyage_Card_Kind_START.ext E45
      have K51 : Keep h0 h45 [] := (Keep.refl h0 []).ext E45
      have Z52 : n0 ≤ h45.size := Nat.le_trans Z0 E45.1
      have F53 : Fld Z h45 b33 nm1 "kind" nm3 .null := D45 (Or.inr (hw _ (List.mem_of_getElem? (i := 30) rfl))) (ty := (.object "com/example/silent_isles/silentisles/voyage/Card$Kind")) (by decide)
      have F54 : Fld Z h45 b33 nm1 "number" "I" (.int (0 : Int32)) := D45 (Or.inr (hw _ (List.mem_of_getElem? (i := 32) rfl))) (ty := .int) (by decide)
      refine Rt.dup (pc' := 37) X45 hx (hb hby d2_36) rfl rfl ?_
      refine Rt.getS (pc' := 40) (v := (.ref w_START)) X45 hx hZ hown (host := "") (Or.inl (hw _ (List.mem_of_getElem? (i := 42) rfl))) F50 (hb hby d2_37) rfl ?_
      intro T56 X56
      refine Rt.iconst (pc' := 41) (v := (0 : Int32)) X56 hx (hb hby d2_40) rfl rfl ?_
      refine Rt.callI (pc' := 44) X56 hx hZ (y := mt4) rfl hown (hw _ (List.mem_of_getElem? (i := 14) rfl)) (hw _ (List.mem_of_getElem? (i := 15) rfl)) (hw _ (List.mem_of_getElem? (i := 10) rfl)) (hw _ (List.mem_of_getElem? (i := 16) rfl)) (by decide) (rm3o l Z a0 hw [] b33 w_START w_ISLAND h45 n0 Z52 A45 F53 F54 F48 g46 neS) (fun _ _ _ q => q.2.1) (W := 1) (by decide) (by decide) (by decide) (by decide) (argsL := [(.ref w_START), (.int (0 : Int32))]) (rest := [(.ref b33)]) (by rw [hml]; rfl) (lenOf pd_2 rfl) rfl rfl (Nat.le_of_eq rfl) (hb hby d2_41) rfl ?_
      rintro _ T57 h57 L57 X57 ⟨rfl, N57, K57, F58, F59, F60⟩
      have F61 : Exa Z h57 b33 nm1 := A45.keep K57
      have K62 : Keep h0 h57 [] := K51.trans K57 (allS (Or.inr s47) all0)
      have Z63 : n0 ≤ h57.size := Nat.le_trans Z52 K57.1
      show Rt _ _ _ _ _ _ _ (T57.setTop (mkF m 44 #[.val (.int p1), .val (.int p2)] [(.ref b33)]))
      have F64 : Fld Z h57 b33 nm1 "kind" nm3 (.ref (f2_o_F_nw_kind_0 p1 w_ISLAND w_FINISH w_START)) := by rw [show (f2_o_F_nw_kind_0 p1 w_ISLAND w_FINISH w_START) = w_START from by rw [f2_o_F_nw_kind_0, if_neg hc1_1, if_neg hc18_23]]; exact F59
      have F65 : Fld Z h57 b33 nm1 "number" "I" (.int (f2_o_F_nw_number_0 p1 p2)) := by rw [show (f2_o_F_nw_number_0 p1 p2) = (0 : Int32) from by rw [f2_o_F_nw_number_0, if_neg hc1_1, if_neg hc18_23]]; exact F60
      exact Rt.retA X57 hx hlk (t := (.object "com/example/silent_isles/silentisles/voyage/Card")) rfl hret rfl (hb hby d2_44) (by decide) (by decide) (fun L N => ⟨b33, s47, rfl, N, K62, F58, F64, F65⟩)
theorem d7_0 : decode prog_14_method_13_code 0 = .ok (.aload_n 1, 1) := by decide +kernel
theorem d7_1 : decode prog_14_method_13_code 1 = .ok (.instanceof 1, 3) := by decide +kernel
theorem d7_4 : decode prog_14_method_13_code 4 = .ok (.ifCond .eq 34, 3) := by decide +kernel
theorem d7_7 : decode prog_14_method_13_code 7 = .ok (.aload_n 1, 1) := by decide +kernel
theorem d7_8 : decode prog_14_method_13_code 8 = .ok (.checkcast 1, 3) := by decide +kernel
theorem d7_11 : decode prog_14_method_13_code 11 = .ok (.astore_n 2, 1) := by decide +kernel
theorem d7_12 : decode prog_14_method_13_code 12 = .ok (.aload_n 0, 1) := by decide +kernel
theorem d7_13 : decode prog_14_method_13_code 13 = .ok (.getfield 36, 3) := by decide +kernel
theorem d7_16 : decode prog_14_method_13_code 16 = .ok (.aload_n 2, 1) := by decide +kernel
theorem d7_17 : decode prog_14_method_13_code 17 = .ok (.getfield 36, 3) := by decide +kernel
theorem d7_20 : decode prog_14_method_13_code 20 = .ok (.if_acmp .ne 18, 3) := by decide +kernel
theorem d7_23 : decode prog_14_method_13_code 23 = .ok (.aload_n 0, 1) := by decide +kernel
theorem d7_24 : decode prog_14_method_13_code 24 = .ok (.getfield 39, 3) := by decide +kernel
theorem d7_27 : decode prog_14_method_13_code 27 = .ok (.aload_n 2, 1) := by decide +kernel
theorem d7_28 : decode prog_14_method_13_code 28 = .ok (.getfield 39, 3) := by decide +kernel
theorem d7_31 : decode prog_14_method_13_code 31 = .ok (.if_icmp .ne 7, 3) := by decide +kernel
theorem d7_34 : decode prog_14_method_13_code 34 = .ok (.iconst 1, 1) := by decide +kernel
theorem d7_35 : decode prog_14_method_13_code 35 = .ok (.goto 4, 3) := by decide +kernel
theorem d7_39 : decode prog_14_method_13_code 39 = .ok (.ireturn, 1) := by decide +kernel
theorem d7_38 : decode prog_14_method_13_code 38 = .ok (.iconst 0, 1) := by decide +kernel
def f7 (k1 : Addr) (n1 : Int32) (k2 : Addr) (n2 : Int32) : Int32 := (if k1 = k2 then (if n1 = n2 then (1 : Int32) else (0 : Int32)) else (0 : Int32))
def Q7 (a1 : Addr) (a2 : Addr) (k1 : Addr) (n1 : Int32) (k2 : Addr) (n2 : Int32) (h0 : Heap) (n0 : Nat) (v : Option Value) (h : Heap) (L : List Loc) : Prop := v = some (.int (f7 k1 n1 k2 n2)) ∧ Fr n0 L ∧ h = h0
def rmR7 : Room := { frames := 0, cells := 0, slots := 0, locals := 0 }
theorem ef_7 (m : MethodId) (a1 : Addr) (a2 : Addr) : entryFrame m #[(.ref a1), (.ref a2)] 3 = mkF m 0 #[.val (.ref a1), .val (.ref a2), .unset] [] := by first | (simp [entryFrame, mkF, argsToLocals, Value.category]; done) | rfl
set_option maxRecDepth 65536 in
set_option maxHeartbeats 40000000 in
theorem rm7 (l : Launch) (Z : State) (a0 : Array Value) (hw : ∀ d ∈ tables_1, d.before a0 Z = true) (ws : List Jvm.Cond) (a1 : Addr) (a2 : Addr) (k1 : Addr) (n1 : Int32) (k2 : Addr) (n2 : Int32) (h0 : Heap) (n0 : Nat) (F_F_a1_kind : Fld Z h0 a1 nm1 "kind" nm3 (.ref k1)) (F_F_a1_number : Fld Z h0 a1 nm1 "number" "I" (.int n1)) (F_E_a2 : Exa Z h0 a2 nm1) (F_F_a2_kind : Fld Z h0 a2 nm1 "kind" nm3 (.ref k2)) (F_F_a2_number : Fld Z h0 a2 nm1 "number" "I" (.int n2)) :
    Mt l Z mt6 (Jvm.Cond.code mt6 prog_14_method_13_code 3 (some .boolean) :: ws) rmR7 #[(.ref a1), (.ref a2)] h0 (Q7 a1 a2 k1 n1 k2 n2 h0 n0) := by
  refine Mt.of n0 (plainFor_of_name pn_com_example_silent_isles_silentisles_voyage_Card) ?_
  intro p e s m below meth c T0 X0 hx hZ hby hml hown hret hlk hnm hs0
  have hown : s.vm.findClass "com/example/silent_isles/silentisles/voyage/Card" = some m.cls := hown
  rw [ef_7]
  show Rt p e below s rmR7.cells rmR7.slots (Q7 a1 a2 k1 n1 k2 n2 h0 n0) (T0.setTop (mkF m 0 #[.val (.ref a1), .val (.ref a2), .unset] []))
  refine Rt.aloadN (pc' := 1) X0 hx (hb hby d7_0) rfl rfl rfl ?_
  refine Rt.instY (pc' := 4) X0 hx hZ hown (hw _ (List.mem_of_getElem? (i := 38) rfl)) (Ins.self F_E_a2) (hb hby d7_1) rfl ?_
  intro T1 X1
  refine Rt.ifN (pc' := 7) X1 hx (hb hby d7_4) ((if0 _ _).trans (feq (by decide : ¬ ((1 : Int32) = (0 : Int32)))).1) rfl ?_
  refine Rt.aloadN (pc' := 8) X1 hx (hb hby d7_7) rfl rfl rfl ?_
  refine Rt.castY (pc' := 11) X1 hx hZ hown (hw _ (List.mem_of_getElem? (i := 38) rfl)) (Ins.self F_E_a2) (hb hby d7_8) rfl ?_
  intro T2 X2
  refine Rt.astoreN (pc' := 12) (v := (.ref a2)) (l' := #[.val (.ref a1), .val (.ref a2), .val (.ref a2)]) X2 hx (hb hby d7_11) rfl rfl rfl ?_
  refine Rt.aloadN (pc' := 13) X2 hx (hb hby d7_12) rfl rfl rfl ?_
  refine Rt.getF (pc' := 16) (v := (.ref k1)) X2 hx hZ hown (host := "") (Or.inl (hw _ (List.mem_of_getElem? (i := 29) rfl))) F_F_a1_kind (hb hby d7_13) rfl ?_
  intro T3 X3
  refine Rt.aloadN (pc' := 17) X3 hx (hb hby d7_16) rfl rfl rfl ?_
  refine Rt.getF (pc' := 20) (v := (.ref k2)) X3 hx hZ hown (host := "") (Or.inl (hw _ (List.mem_of_getElem? (i := 29) rfl))) F_F_a2_kind (hb hby d7_17) rfl ?_
  intro T4 X4
  by_cases hc20_5 : k1 = k2
  · refine Rt.acmp (pc' := 23) X4 hx (same := true) rfl rfl (hb hby d7_20) (decide_eq_true (congrArg Value.ref hc20_5)) (by decide) (by decide) ?_
    refine Rt.aloadN (pc' := 24) X4 hx (hb hby d7_23) rfl rfl rfl ?_
    refine Rt.getF (pc' := 27) (v := (.int n1)) X4 hx hZ hown (host := "") (Or.inl (hw _ (List.mem_of_getElem? (i := 31) rfl))) F_F_a1_number (hb hby d7_24) rfl ?_
    intro T6 X6
    refine Rt.aloadN (pc' := 28) X6 hx (hb hby d7_27) rfl rfl rfl ?_
    refine Rt.getF (pc' := 31) (v := (.int n2)) X6 hx hZ hown (host := "") (Or.inl (hw _ (List.mem_of_getElem? (i := 31) rfl))) F_F_a2_number (hb hby d7_28) rfl ?_
    intro T7 X7
    by_cases hc31_8 : n1 = n2
    · refine Rt.icmpN (pc' := 34) X7 hx (hb hby d7_31) (teq hc31_8).2 rfl ?_
      refine Rt.iconst (pc' := 35) (v := (1 : Int32)) X7 hx (hb hby d7_34) rfl rfl ?_
      refine Rt.goto (pc' := 39) X7 hx (hb hby d7_35) (by decide) (by decide) ?_
      exact Rt.retZ (w := (1 : Int32)) X7 hx hlk hret (by simp) (hb hby d7_39) (by decide) (by decide) (by decide) (fun L N => ⟨congrArg some (congrArg Value.int (by rw [f7, if_pos hc20_5, if_pos hc31_8])), N, rfl⟩)
    · refine Rt.icmpY (pc' := 38) X7 hx (hb hby d7_31) (feq hc31_8).2 (by decide) (by decide) ?_
      refine Rt.iconst (pc' := 39) (v := (0 : Int32)) X7 hx (hb hby d7_38) rfl rfl ?_
      exact Rt.retZ (w := (0 : Int32)) X7 hx hlk hret (by simp) (hb hby d7_39) (by decide) (by decide) (by decide) (fun L N => ⟨congrArg some (congrArg Value.int (by rw [f7, if_pos hc20_5, if_neg hc31_8])), N, rfl⟩)
  · refine Rt.acmp (pc' := 38) X4 hx (same := false) rfl rfl (hb hby d7_20) (decide_eq_false fun q => hc20_5 (Value.ref.inj q)) (by decide) (by decide) ?_
    refine Rt.iconst (pc' := 39) (v := (0 : Int32)) X4 hx (hb hby d7_38) rfl rfl ?_
    exact Rt.retZ (w := (0 : Int32)) X4 hx hlk hret (by simp) (hb hby d7_39) (by decide) (by decide) (by decide) (fun L N => ⟨congrArg some (congrArg Value.int (by rw [f7, if_neg hc20_5])), N, rfl⟩)
def f7n  : Int32 := (0 : Int32)
def Q7n (a1 : Addr) (h0 : Heap) (n0 : Nat) (v : Option Value) (h : Heap) (L : List Loc) : Prop := v = some (.int f7n) ∧ Fr n0 L ∧ h = h0
def rmR7n : Room := { frames := 0, cells := 0, slots := 0, locals := 0 }
theorem ef_7n (m : MethodId) (a1 : Addr) : entryFrame m #[(.ref a1), .null] 3 = mkF m 0 #[.val (.ref a1), .val .null, .unset] [] := by first | (simp [entryFrame, mkF, argsToLocals, Value.category]; done) | rfl
set_option maxRecDepth 65536 in
set_option maxHeartbeats 40000000 in
theorem rm7n (l : Launch) (Z : State) (a0 : Array Value) (hw : ∀ d ∈ tables_1, d.before a0 Z = true) (ws : List Jvm.Cond) (a1 : Addr) (h0 : Heap) (n0 : Nat) :
    Mt l Z mt6 (Jvm.Cond.code mt6 prog_14_method_13_code 3 (some .boolean) :: ws) rmR7n #[(.ref a1), .null] h0 (Q7n a1 h0 n0) := by
  refine Mt.of n0 (plainFor_of_name pn_com_example_silent_isles_silentisles_voyage_Card) ?_
  intro p e s m below meth c T0 X0 hx hZ hby hml hown hret hlk hnm hs0
  have hown : s.vm.findClass "com/example/silent_isles/silentisles/voyage/Card" = some m.cls := hown
  rw [ef_7n]
  show Rt p e below s rmR7n.cells rmR7n.slots (Q7n a1 h0 n0) (T0.setTop (mkF m 0 #[.val (.ref a1), .val .null, .unset] []))
  refine Rt.aloadN (pc' := 1) X0 hx (hb hby d7_0) rfl rfl rfl ?_
  refine Rt.instNull (pc' := 4) X0 hx (hb hby d7_1) rfl ?_
  refine Rt.ifY (pc' := 38) X0 hx (hb hby d7_4) ((if0 _ _).trans (teq (by decide : (0 : Int32) = (0 : Int32))).1) (by decide) (by decide) ?_
  refine Rt.iconst (pc' := 39) (v := (0 : Int32)) X0 hx (hb hby d7_38) rfl rfl ?_
  exact Rt.retZ (w := (0 : Int32)) X0 hx hlk hret (by simp) (hb hby d7_39) (by decide) (by decide) (by decide) (fun L N => ⟨congrArg some (congrArg Value.int (by rw [f7n])), N, rfl⟩)
def f7i  : Int32 := (0 : Int32)
def Q7i (a1 : Addr) (a2 : Addr) (h0 : Heap) (n0 : Nat) (v : Option Value) (h : Heap) (L : List Loc) : Prop := v = some (.int f7i) ∧ Fr n0 L ∧ h = h0
def rmR7i : Room := { frames := 0, cells := 0, slots := 0, locals := 0 }
theorem ef_7i (m : MethodId) (a1 : Addr) (a2 : Addr) : entryFrame m #[(.ref a1), (.ref a2)] 3 = mkF m 0 #[.val (.ref a1), .val (.ref a2), .unset] [] := by first | (simp [entryFrame, mkF, argsToLocals, Value.category]; done) | rfl
set_option maxRecDepth 65536 in
set_option maxHeartbeats 40000000 in
theorem rm7i (l : Launch) (Z : State) (a0 : Array Value) (hw : ∀ d ∈ tables_1, d.before a0 Z = true) (ws : List Jvm.Cond) (a1 : Addr) (a2 : Addr) (h0 : Heap) (n0 : Nat) (F_E_a2 : Exa Z h0 a2 "java/lang/Integer") :
    Mt l Z mt6 (Jvm.Cond.code mt6 prog_14_method_13_code 3 (some .boolean) :: ws) rmR7i #[(.ref a1), (.ref a2)] h0 (Q7i a1 a2 h0 n0) := by
  refine Mt.of n0 (plainFor_of_name pn_com_example_silent_isles_silentisles_voyage_Card) ?_
  intro p e s m below meth c T0 X0 hx hZ hby hml hown hret hlk hnm hs0
  have hown : s.vm.findClass "com/example/silent_isles/silentisles/voyage/Card" = some m.cls := hown
  rw [ef_7i]
  show Rt p e below s rmR7i.cells rmR7i.slots (Q7i a1 a2 h0 n0) (T0.setTop (mkF m 0 #[.val (.ref a1), .val (.ref a2), .unset] []))
  refine Rt.aloadN (pc' := 1) X0 hx (hb hby d7_0) rfl rfl rfl ?_
  refine Rt.instNo (pc' := 4) X0 hx hZ hown (hw _ (List.mem_of_getElem? (i := 38) rfl)) hs0 (own_noins Z a0 hw F_E_a2) F_E_a2 (hb hby d7_1) rfl ?_
  intro T1 X1
  refine Rt.ifY (pc' := 38) X1 hx (hb hby d7_4) ((if0 _ _).trans (teq (by decide : (0 : Int32) = (0 : Int32))).1) (by decide) (by decide) ?_
  refine Rt.iconst (pc' := 39) (v := (0 : Int32)) X1 hx (hb hby d7_38) rfl rfl ?_
  exact Rt.retZ (w := (0 : Int32)) X1 hx hlk hret (by simp) (hb hby d7_39) (by decide) (by decide) (by decide) (fun L N => ⟨congrArg some (congrArg Value.int (by rw [f7i])), N, rfl⟩)
theorem d8_0 : decode jdk_33_method_22_code 0 = .ok (.iload_n 0, 1) := by decide +kernel
theorem d8_1 : decode jdk_33_method_22_code 1 = .ok (.bipush (-128), 2) := by decide +kernel
theorem d8_3 : decode jdk_33_method_22_code 3 = .ok (.if_icmp .lt 20, 3) := by decide +kernel
theorem d8_6 : decode jdk_33_method_22_code 6 = .ok (.iload_n 0, 1) := by decide +kernel
theorem d8_7 : decode jdk_33_method_22_code 7 = .ok (.getstatic 191, 3) := by decide +kernel
theorem d8_10 : decode jdk_33_method_22_code 10 = .ok (.if_icmp .gt 13, 3) := by decide +kernel
theorem d8_13 : decode jdk_33_method_22_code 13 = .ok (.getstatic 195, 3) := by decide +kernel
theorem d8_16 : decode jdk_33_method_22_code 16 = .ok (.iload_n 0, 1) := by decide +kernel
theorem d8_17 : decode jdk_33_method_22_code 17 = .ok (.sipush 128, 3) := by decide +kernel
theorem d8_20 : decode jdk_33_method_22_code 20 = .ok (.iadd, 1) := by decide +kernel
theorem d8_21 : decode jdk_33_method_22_code 21 = .ok (.aaload, 1) := by decide +kernel
theorem d8_22 : decode jdk_33_method_22_code 22 = .ok (.areturn, 1) := by decide +kernel
def Q8 (p1 : Int32) (w_cache : Addr) (w_box : Addr) (h0 : Heap) (n0 : Nat) (v : Option Value) (h : Heap) (L : List Loc) : Prop := v = some (.ref w_box) ∧ Fr n0 L ∧ h = h0
def rmR8 : Room := { frames := 0, cells := 0, slots := 0, locals := 0 }
theorem ef_8 (m : MethodId) (p1 : Int32) : entryFrame m #[(.int p1)] 1 = mkF m 0 #[.val (.int p1)] [] := by first | (simp [entryFrame, mkF, argsToLocals, Value.category]; done) | rfl
theorem pn_java_lang_Integer : plainName "java/lang/Integer" = true := by first | (simp [plainName, overriddenIn]; done) | decide +kernel
set_option maxRecDepth 65536 in
set_option maxHeartbeats 40000000 in
theorem rm8 (l : Launch) (Z : State) (a0 : Array Value) (hw : ∀ d ∈ tables_1, d.before a0 Z = true) (ws : List Jvm.Cond) (p1 : Int32) (w_cache : Addr) (w_box : Addr) (h0 : Heap) (n0 : Nat) (F_S_java_lang_Integer_IntegerCache_high : Sta Z h0 nm4 "high" "I" (.int (127 : Int32))) (F_S_java_lang_Integer_IntegerCache_cache : Sta Z h0 nm4 "cache" "[Ljava/lang/Integer;" (.ref w_cache)) (F_L_w_cache : EL Z h0 w_cache (.object "java/lang/Integer") (p1 + (128 : Int32)) (.ref w_box)) (hp1 : ¬ p1 < (-128 : Int32)) (hp2 : ¬ (127 : Int32) < p1) :
    Mt l Z mt7 (Jvm.Cond.code mt7 jdk_33_method_22_code 1 (some (.object "java/lang/Integer")) :: ws) rmR8 #[(.int p1)] h0 (Q8 p1 w_cache w_box h0 n0) := by
  refine Mt.of n0 (plainFor_of_name pn_java_lang_Integer) ?_
  intro p e s m below meth c T0 X0 hx hZ hby hml hown hret hlk hnm hs0
  have hown : s.vm.findClass "java/lang/Integer" = some m.cls := hown
  rw [ef_8]
  show Rt p e below s rmR8.cells rmR8.slots (Q8 p1 w_cache w_box h0 n0) (T0.setTop (mkF m 0 #[.val (.int p1)] []))
  refine Rt.iloadN (pc' := 1) X0 hx (hb hby d8_0) rfl rfl ?_
  refine Rt.bipush (pc' := 3) (v := (-128 : Int32)) X0 hx (hb hby d8_1) rfl rfl ?_
  refine Rt.icmpN (pc' := 6) X0 hx (hb hby d8_3) (flt hp1).1 rfl ?_
  refine Rt.iloadN (pc' := 7) X0 hx (hb hby d8_6) rfl rfl ?_
  refine Rt.getS (pc' := 10) (v := (.int (127 : Int32))) X0 hx hZ hown (host := "") (Or.inl (hw _ (List.mem_of_getElem? (i := 48) rfl))) F_S_java_lang_Integer_IntegerCache_high (hb hby d8_7) rfl ?_
  intro T2 X2
  refine Rt.icmpN (pc' := 13) X2 hx (hb hby d8_10) (flt hp2).2.2.1 rfl ?_
  refine Rt.getS (pc' := 16) (v := (.ref w_cache)) X2 hx hZ hown (host := "") (Or.inl (hw _ (List.mem_of_getElem? (i := 50) rfl))) F_S_java_lang_Integer_IntegerCache_cache (hb hby d8_13) rfl ?_
  intro T4 X4
  refine Rt.iloadN (pc' := 17) X4 hx (hb hby d8_16) rfl rfl ?_
  refine Rt.sipush (pc' := 20) (v := (128 : Int32)) X4 hx (hb hby d8_17) rfl rfl ?_
  refine Rt.iadd (pc' := 21) (r := (p1 + (128 : Int32))) X4 hx (hb hby d8_20) rfl rfl ?_
  refine Rt.go (by obtain ⟨locs, X, _, eT⟩ := X4; obtain ⟨cl, A, q1, q2⟩ := F_L_w_cache; exact X.aaload hx (ty := (.object "java/lang/Integer")) (by rw [eT]; exact A.1) (State.isArrayOf_alike hZ.alike A.2.1) rfl A.2.2 q1 q2 (g := (mkF m 21 #[.val (.int p1)] [(.int (p1 + (128 : Int32))), (.ref w_cache)])) rfl rfl (hb hby d8_21)) ?_
  show Rt _ _ _ _ _ _ _ (T4.setTop (mkF m 22 #[.val (.int p1)] [(.ref w_box)]))
  exact Rt.retA X4 hx hlk (t := (.object "java/lang/Integer")) rfl hret rfl (hb hby d8_22) (by decide) (by decide) (fun L N => ⟨rfl, N, rfl⟩)
theorem pd_3 : parseMethodDescriptor "(II)I" = some ⟨[.int, .int], some .int⟩ := by decide +kernel
theorem pd_4 : parseMethodDescriptor "(II)Lcom/example/silent_isles/silentisles/voyage/Card;" = some ⟨[.int, .int], some (.object "com/example/silent_isles/silentisles/voyage/Card")⟩ := by decide +kernel
theorem pd_5 : parseMethodDescriptor "(Ljava/lang/Object;)Z" = some ⟨[(.object "java/lang/Object")], some .boolean⟩ := by decide +kernel
theorem pd_6 : parseMethodDescriptor "(I)Ljava/lang/Integer;" = some ⟨[.int], some (.object "java/lang/Integer")⟩ := by decide +kernel
def f0_v6 (p1 : Int32) : Int32 := ((p1 &&& (2147483647 : Int32)) % (3 : Int32))
def f0_v14 (p2 : Int32) : Int32 := ((p2 &&& (2147483647 : Int32)) % (3 : Int32))
def f0_v22 (p1 : Int32) (p3 : Int32) : Int32 := (f1 (f0_v6 p1) p3)
def f0_j46_s0 (p2 : Int32) (p3 : Int32) (p4 : Int32) (p5 : Int32) : Int32 := (if (p5 &&& (1 : Int32)) = (0 : Int32) then (f1 (f0_v14 p2) p4) else (f1 (f0_v14 p2) p3))
def f0_c52_b52nw_number0 (p1 : Int32) (p3 : Int32) : Int32 := (f2_o_F_nw_number_0 (f0_v6 p1) (f0_v22 p1 p3))
def f0_c61_b61nw_number0 (p2 : Int32) (p3 : Int32) (p4 : Int32) (p5 : Int32) : Int32 := (f2_o_F_nw_number_0 (f0_v14 p2) (f0_j46_s0 p2 p3 p4 p5))
def f0_v72 (p5 : Int32) : Int32 := (((p5.toUInt32 >>> ((1 : Int32) &&& 31).toUInt32).toInt32) &&& (3 : Int32))
def f0_c142_b142nw_number0 (p1 : Int32) (p3 : Int32) : Int32 := (f2_o_F_nw_number_0 (f0_v6 p1) (f0_v22 p1 p3))
def f0_j176_s0 (p1 : Int32) (p2 : Int32) (p3 : Int32) (p4 : Int32) (p5 : Int32) : Int32 := (if (f0_v6 p1) = (f0_v14 p2) then (if (f0_v22 p1 p3) = (f0_j46_s0 p2 p3 p4 p5) then (1 : Int32) else (0 : Int32)) else (0 : Int32))
def f0 (p1 : Int32) (p2 : Int32) (p3 : Int32) (p4 : Int32) (p5 : Int32) (w_ISLAND : Addr) (w_FINISH : Addr) (w_START : Addr) : Int32 := (if (f0_v72 p5) = (1 : Int32) then (if f7n = (0 : Int32) then (1 : Int32) else (0 : Int32)) else (if (f0_v72 p5) = (2 : Int32) then (if f7i = (0 : Int32) then (1 : Int32) else (0 : Int32)) else (if (f0_v72 p5) = (3 : Int32) then (if (f7 (f2_o_F_nw_kind_0 (f0_v6 p1) w_ISLAND w_FINISH w_START) (f0_c52_b52nw_number0 p1 p3) (f2_o_F_nw_kind_0 (f0_v6 p1) w_ISLAND w_FINISH w_START) (f0_c52_b52nw_number0 p1 p3)) = (0 : Int32) then (0 : Int32) else (if (f7 (f2_o_F_nw_kind_0 (f0_v6 p1) w_ISLAND w_FINISH w_START) (f0_c52_b52nw_number0 p1 p3) (f2_o_F_nw_kind_0 (f0_v6 p1) w_ISLAND w_FINISH w_START) (f0_c142_b142nw_number0 p1 p3)) = (0 : Int32) then (0 : Int32) else (1 : Int32))) else (if (f7 (f2_o_F_nw_kind_0 (f0_v6 p1) w_ISLAND w_FINISH w_START) (f0_c52_b52nw_number0 p1 p3) (f2_o_F_nw_kind_0 (f0_v14 p2) w_ISLAND w_FINISH w_START) (f0_c61_b61nw_number0 p2 p3 p4 p5)) = (f0_j176_s0 p1 p2 p3 p4 p5) then (if (f7 (f2_o_F_nw_kind_0 (f0_v14 p2) w_ISLAND w_FINISH w_START) (f0_c61_b61nw_number0 p2 p3 p4 p5) (f2_o_F_nw_kind_0 (f0_v6 p1) w_ISLAND w_FINISH w_START) (f0_c52_b52nw_number0 p1 p3)) = (f0_j176_s0 p1 p2 p3 p4 p5) then (1 : Int32) else (0 : Int32)) else (0 : Int32)))))
theorem own_f1 (k x : Int32) : 0 ≤ (f1 k x).toInt ∧ (f1 k x).toInt ≤ 80 ∧ (k = 0 → 1 ≤ (f1 k x).toInt) := by
  have l0 : (0 : Int32).toInt = 0 := by decide
  have l1 : (1 : Int32).toInt = 1 := by decide
  have g1 := c_mask x 2147483647 31 (by decide) (by decide)
  have g2 := c_irem (x &&& 2147483647) 80 80 (by decide)
  have g3 := c_iadd ((x &&& 2147483647) % 80) 1
  have b1 := (((x &&& 2147483647) % 80) + 1).le_toInt
  have b2 := (((x &&& 2147483647) % 80) + 1).toInt_lt
  unfold f1
  split
  · refine ⟨by omega, by omega, fun _ => by omega⟩
  · rename_i q
    exact ⟨by omega, by omega, fun z => absurd z q⟩
theorem own_lt1 {x : Int32} (h : 1 ≤ x.toInt) (h2 : x.toInt ≤ 80) : ¬ x < (1 : Int32) ∧ ¬ (80 : Int32) < x := by
  have l1 : (1 : Int32).toInt = 1 := by decide
  have l2 : (80 : Int32).toInt = 80 := by decide
  rw [Int32.lt_iff_toInt_lt, Int32.lt_iff_toInt_lt]
  omega
theorem own_na (a x : Int32) (q : f0_v6 a = 0) : ¬ f0_v22 a x < (1 : Int32) ∧ ¬ (80 : Int32) < f0_v22 a x := own_lt1 ((own_f1 _ _).2.2 q) (own_f1 _ _).2.1
theorem own_nb (b x y f : Int32) (q : f0_v14 b = 0) : ¬ f0_j46_s0 b x y f < (1 : Int32) ∧ ¬ (80 : Int32) < f0_j46_s0 b x y f := by
  unfold f0_j46_s0
  split
  · exact own_lt1 ((own_f1 _ _).2.2 q) (own_f1 _ _).2.1
  · exact own_lt1 ((own_f1 _ _).2.2 q) (own_f1 _ _).2.1
theorem own_vn (a x : Int32) : ¬ f0_v22 a x < (-128 : Int32) ∧ ¬ (127 : Int32) < f0_v22 a x := by
  have h := own_f1 (f0_v6 a) x
  have l1 : (-128 : Int32).toInt = -128 := by decide
  have l2 : (127 : Int32).toInt = 127 := by decide
  rw [Int32.lt_iff_toInt_lt, Int32.lt_iff_toInt_lt]
  unfold f0_v22
  omega
def Q0 (Z : State) (p1 : Int32) (p2 : Int32) (p3 : Int32) (p4 : Int32) (p5 : Int32) (w_ISLAND : Addr) (w_FINISH : Addr) (w_START : Addr) (w_cache : Addr) (w_box : Addr) (h0 : Heap) (n0 : Nat) (v : Option Value) (h : Heap) (L : List Loc) : Prop := v = some (.int (f0 p1 p2 p3 p4 p5 w_ISLAND w_FINISH w_START)) ∧ Fr n0 L ∧ Keep h0 h []
theorem ef_0 (m : MethodId) (p1 : Int32) (p2 : Int32) (p3 : Int32) (p4 : Int32) (p5 : Int32) : entryFrame m #[(.int p1), (.int p2), (.int p3), (.int p4), (.int p5)] maxLocals = mkF m 0 #[.val (.int p1), .val (.int p2), .val (.int p3), .val (.int p4), .val (.int p5), .unset, .unset, .unset, .unset, .unset, .unset, .unset, .unset] [] := by first | (simp [entryFrame, mkF, argsToLocals, Value.category, maxLocals]; done) | rfl
set_option maxRecDepth 65536 in
set_option maxHeartbeats 40000000 in
theorem rm0 (l : Launch) (Z : State) (a0 : Array Value) (hw : ∀ d ∈ tables_1, d.before a0 Z = true) (ws : List Jvm.Cond) (p1 : Int32) (p2 : Int32) (p3 : Int32) (p4 : Int32) (p5 : Int32) (w_ISLAND : Addr) (w_FINISH : Addr) (w_START : Addr) (w_cache : Addr) (w_box : Addr) (h0 : Heap) (n0 : Nat) (Z0 : n0 ≤ h0.size) (F_S_com_example_silent_isles_silentisles_voyage_Card_Kind_ISLAND : Sta Z h0 nm2 "ISLAND" nm3 (.ref w_ISLAND)) (F_S_com_example_silent_isles_silentisles_voyage_Card_Kind_FINISH : Sta Z h0 nm2 "FINISH" nm3 (.ref w_FINISH)) (F_S_com_example_silent_isles_silentisles_voyage_Card_Kind_START : Sta Z h0 nm2 "START" nm3 (.ref w_START)) (F_S_java_lang_Integer_IntegerCache_high : Sta Z h0 nm4 "high" "I" (.int (127 : Int32))) (F_S_java_lang_Integer_IntegerCache_cache : Sta Z h0 nm4 "cache" "[Ljava/lang/Integer;" (.ref w_cache)) (F_L_w_cache : EL Z h0 w_cache (.object "java/lang/Integer") ((f0_v22 p1 p3) + (128 : Int32)) (.ref w_box)) (F_E_w_box : Exa Z h0 w_box "java/lang/Integer") (neF : w_FINISH ≠ w_ISLAND) (neS : w_START ≠ w_ISLAND) :
    Mt l Z x (Jvm.Cond.code x code maxLocals ret :: ws) room_1 #[(.int p1), (.int p2), (.int p3), (.int p4), (.int p5)] h0 (Q0 Z p1 p2 p3 p4 p5 w_ISLAND w_FINISH w_START w_cache w_box h0 n0) := by
  refine Mt.of n0 (plainFor_of_name pn_com_example_silent_isles_silentisles_voyage_CardEqualsPinLaw) ?_
  intro p e s m below meth c T0 X0 hx hZ hby hml hown hret hlk hnm hs0
  have hml : c.maxLocals = 13 := hml
  have hret : meth.sig.returnType = some .boolean := hret
  have hown : s.vm.findClass "com/example/silent_isles/silentisles/voyage/CardEqualsPinLaw" = some m.cls := hown
  rw [ef_0]
  show Rt p e below s room_1.cells room_1.slots (Q0 Z p1 p2 p3 p4 p5 w_ISLAND w_FINISH w_START w_cache w_box h0 n0) (T0.setTop (mkF m 0 #[.val (.int p1), .val (.int p2), .val (.int p3), .val (.int p4), .val (.int p5), .unset, .unset, .unset, .unset, .unset, .unset, .unset, .unset] []))
  refine Rt.iloadN (pc' := 1) X0 hx (hb hby at_0) rfl rfl ?_
  refine Rt.ldcInt (pc' := 3) X0 hx hZ hown (hw _ (List.mem_of_getElem? (i := 0) rfl)) (hb hby at_1) rfl ?_
  refine Rt.iand (pc' := 4) (r := (p1 &&& (2147483647 : Int32))) X0 hx (hb hby at_3) rfl rfl ?_
  refine Rt.iconst (pc' := 5) (v := (3 : Int32)) X0 hx (hb hby at_4) rfl rfl ?_
  refine Rt.irem (pc' := 6) X0 hx (hb hby at_5) (by decide) rfl rfl ?_
  refine Rt.istore (pc' := 8) (v := (f0_v6 p1)) (l' := #[.val (.int p1), .val (.int p2), .val (.int p3), .val (.int p4), .val (.int p5), .val (.int (f0_v6 p1)), .unset, .unset, .unset, .unset, .unset, .unset, .unset]) X0 hx (hb hby at_6) rfl rfl ?_
  refine Rt.iloadN (pc' := 9) X0 hx (hb hby at_8) rfl rfl ?_
  refine Rt.ldcInt (pc' := 11) X0 hx hZ hown (hw _ (List.mem_of_getElem? (i := 0) rfl)) (hb hby at_9) rfl ?_
  refine Rt.iand (pc' := 12) (r := (p2 &&& (2147483647 : Int32))) X0 hx (hb hby at_11) rfl rfl ?_
  refine Rt.iconst (pc' := 13) (v := (3 : Int32)) X0 hx (hb hby at_12) rfl rfl ?_
  refine Rt.irem (pc' := 14) X0 hx (hb hby at_13) (by decide) rfl rfl ?_
  refine Rt.istore (pc' := 16) (v := (f0_v14 p2)) (l' := #[.val (.int p1), .val (.int p2), .val (.int p3), .val (.int p4), .val (.int p5), .val (.int (f0_v6 p1)), .val (.int (f0_v14 p2)), .unset, .unset, .unset, .unset, .unset, .unset]) X0 hx (hb hby at_14) rfl rfl ?_
  refine Rt.iload (pc' := 18) X0 hx (hb hby at_16) rfl rfl ?_
  refine Rt.iloadN (pc' := 19) X0 hx (hb hby at_18) rfl rfl ?_
  refine Rt.callP (pc' := 22) (r := (.int (f1 (f0_v6 p1) p3))) X0 hx hZ (y := mt1) hown (hw _ (List.mem_of_getElem? (i := 1) rfl)) (hw _ (List.mem_of_getElem? (i := 2) rfl)) (hw _ (List.mem_of_getElem? (i := 3) rfl)) (hw _ (List.mem_of_getElem? (i := 4) rfl)) (by decide) (rm1 l Z a0 hw [] (f0_v6 p1) p3 h0 n0) (W := 0) (by decide) (by decide) (by decide) (by decide) rfl rfl (argsL := [(.int (f0_v6 p1)), (.int p3)]) (rest := []) (by rw [hml]; rfl) (lenOf pd_3 rfl) rfl rfl (Nat.le_of_eq rfl) (hb hby at_19) rfl ?_
  intro T1 X1
  refine Rt.istore (pc' := 24) (v := (f0_v22 p1 p3)) (l' := #[.val (.int p1), .val (.int p2), .val (.int p3), .val (.int p4), .val (.int p5), .val (.int (f0_v6 p1)), .val (.int (f0_v14 p2)), .val (.int (f0_v22 p1 p3)), .unset, .unset, .unset, .unset, .unset]) X1 hx (hb hby at_22) rfl rfl ?_
  refine Rt.iload (pc' := 26) X1 hx (hb hby at_24) rfl rfl ?_
  refine Rt.iconst (pc' := 27) (v := (1 : Int32)) X1 hx (hb hby at_26) rfl rfl ?_
  refine Rt.iand (pc' := 28) (r := (p5 &&& (1 : Int32))) X1 hx (hb hby at_27) rfl rfl ?_
  have J28_2 : ∀ T2  , Sd p l e room_1 s m #[(.int p1), (.int p2), (.int p3), (.int p4), (.int p5)] below meth c T2 n0 0 0 h0 → Rt p e below s room_1.cells room_1.slots (Q0 Z p1 p2 p3 p4 p5 w_ISLAND w_FINISH w_START w_cache w_box h0 n0) (T2.setTop (mkF m 46 #[.val (.int p1), .val (.int p2), .val (.int p3), .val (.int p4), .val (.int p5), .val (.int (f0_v6 p1)), .val (.int (f0_v14 p2)), .val (.int (f0_v22 p1 p3)), .unset, .unset, .unset, .unset, .unset] [(.int (f0_j46_s0 p2 p3 p4 p5))])) := by
    intro T2   X2 
    refine Rt.istore (pc' := 48) (v := (f0_j46_s0 p2 p3 p4 p5)) (l' := #[.val (.int p1), .val (.int p2), .val (.int p3), .val (.int p4), .val (.int p5), .val (.int (f0_v6 p1)), .val (.int (f0_v14 p2)), .val (.int (f0_v22 p1 p3)), .val (.int (f0_j46_s0 p2 p3 p4 p5)), .unset, .unset, .unset, .unset]) X2 hx (hb hby at_46) rfl rfl ?_
    refine Rt.iload (pc' := 50) X2 hx (hb hby at_48) rfl rfl ?_
    refine Rt.iload (pc' := 52) X2 hx (hb hby at_50) rfl rfl ?_
    refine Rt.callS (pc' := 55) X2 hx hZ (y := mt5) hown (hw _ (List.mem_of_getElem? (i := 5) rfl)) (hw _ (List.mem_of_getElem? (i := 6) rfl)) (hw _ (List.mem_of_getElem? (i := 3) rfl)) (hw _ (List.mem_of_getElem? (i := 7) rfl)) (by decide) (rm2 l Z a0 hw [] (f0_v6 p1) (f0_v22 p1 p3) w_ISLAND w_FINISH w_START h0 n0 Z0 F_S_com_example_silent_isles_silentisles_voyage_Card_Kind_ISLAND F_S_com_example_silent_isles_silentisles_voyage_Card_Kind_FINISH F_S_com_example_silent_isles_silentisles_voyage_Card_Kind_START (fun q => (own_na _ _ q).1) (fun q => (own_na _ _ q).2) neF neS) (fun _ _ _ q => (by obtain ⟨_, _, _, q, _⟩ := q; exact q)) (W := 0) (by decide) (by decide) (by decide) (by decide) (argsL := [(.int (f0_v6 p1)), (.int (f0_v22 p1 p3))]) (rest := []) (by rw [hml]; rfl) (lenOf pd_4 rfl) rfl rfl (Nat.le_of_eq rfl) (hb hby at_52) rfl ?_
    rintro _ T3 h3 L3 X3 ⟨b52nw, sb52nw, rfl, N3, K3, F4, F5, F6⟩
    have g7 : n0 ≤ b52nw := Nat.le_trans Z0 sb52nw
    have s8 : h0.size ≤ b52nw := Nat.le_trans (Keep.refl h0 []).1 sb52nw
    have ne9 : w_cache ≠ b52nw := Nat.ne_of_lt (Nat.lt_of_lt_of_le F_L_w_cache.lt sb52nw)
    have ne10 : w_box ≠ b52nw := Nat.ne_of_lt (Nat.lt_of_lt_of_le F_E_w_box.lt sb52nw)
    have F11 : Sta Z h3 nm2 "ISLAND" nm3 (.ref w_ISLAND) := staK F_S_com_example_silent_isles_silentisles_voyage_Card_Kind_ISLAND K3
    have F12 : Sta Z h3 nm2 "FINISH" nm3 (.ref w_FINISH) := staK F_S_com_example_silent_isles_silentisles_voyage_Card_Kind_FINISH K3
    have F13 : Sta Z h3 nm2 "START" nm3 (.ref w_START) := staK F_S_com_example_silent_isles_silentisles_voyage_Card_Kind_START K3
    have F14 : Sta Z h3 nm4 "high" "I" (.int (127 : Int32)) := staK F_S_java_lang_Integer_IntegerCache_high K3
    have F15 : Sta Z h3 nm4 "cache" "[Ljava/lang/Integer;" (.ref w_cache) := staK F_S_java_lang_Integer_IntegerCache_cache K3
    have F16 : EL Z h3 w_cache (.object "java/lang/Integer") ((f0_v22 p1 p3) + (128 : Int32)) (.ref w_box) := F_L_w_cache.keep K3 nin0
    have F17 : Exa Z h3 w_box "java/lang/Integer" := F_E_w_box.keep K3
    have K18 : Keep h0 h3 [] := (Keep.refl h0 []).trans K3 all0
    have Z19 : n0 ≤ h3.size := Nat.le_trans Z0 K3.1
    have F20 : Fld Z h3 b52nw nm1 "number" "I" (.int (f0_c52_b52nw_number0 p1 p3)) := F6
    show Rt _ _ _ _ _ _ _ (T3.setTop (mkF m 55 #[.val (.int p1), .val (.int p2), .val (.int p3), .val (.int p4), .val (.int p5), .val (.int (f0_v6 p1)), .val (.int (f0_v14 p2)), .val (.int (f0_v22 p1 p3)), .val (.int (f0_j46_s0 p2 p3 p4 p5)), .unset, .unset, .unset, .unset] [(.ref b52nw)]))
    refine Rt.astore (pc' := 57) (v := (.ref b52nw)) (l' := #[.val (.int p1), .val (.int p2), .val (.int p3), .val (.int p4), .val (.int p5), .val (.int (f0_v6 p1)), .val (.int (f0_v14 p2)), .val (.int (f0_v22 p1 p3)), .val (.int (f0_j46_s0 p2 p3 p4 p5)), .val (.ref b52nw), .unset, .unset, .unset]) X3 hx (hb hby at_55) rfl rfl rfl ?_
    refine Rt.iload (pc' := 59) X3 hx (hb hby at_57) rfl rfl ?_
    refine Rt.iload (pc' := 61) X3 hx (hb hby at_59) rfl rfl ?_
    refine Rt.callS (pc' := 64) X3 hx hZ (y := mt5) hown (hw _ (List.mem_of_getElem? (i := 5) rfl)) (hw _ (List.mem_of_getElem? (i := 6) rfl)) (hw _ (List.mem_of_getElem? (i := 3) rfl)) (hw _ (List.mem_of_getElem? (i := 7) rfl)) (by decide) (rm2 l Z a0 hw [] (f0_v14 p2) (f0_j46_s0 p2 p3 p4 p5) w_ISLAND w_FINISH w_START h3 n0 Z19 F11 F12 F13 (fun q => (own_nb _ _ _ _ q).1) (fun q => (own_nb _ _ _ _ q).2) neF neS) (fun _ _ _ q => (by obtain ⟨_, _, _, q, _⟩ := q; exact q)) (W := 0) (by decide) (by decide) (by decide) (by decide) (argsL := [(.int (f0_v14 p2)), (.int (f0_j46_s0 p2 p3 p4 p5))]) (rest := []) (by rw [hml]; rfl) (lenOf pd_4 rfl) rfl rfl (Nat.le_of_eq rfl) (hb hby at_61) rfl ?_
    rintro _ T21 h21 L21 X21 ⟨b61nw, sb61nw, rfl, N21, K21, F22, F23, F24⟩
    have g25 : n0 ≤ b61nw := Nat.le_trans Z19 sb61nw
    have s26 : h0.size ≤ b61nw := Nat.le_trans K18.1 sb61nw
    have ne27 : w_cache ≠ b61nw := Nat.ne_of_lt (Nat.lt_of_lt_of_le F16.lt sb61nw)
    have ne28 : w_box ≠ b61nw := Nat.ne_of_lt (Nat.lt_of_lt_of_le F17.lt sb61nw)
    have ne29 : b52nw ≠ b61nw := Nat.ne_of_lt (Nat.lt_of_lt_of_le F4.lt sb61nw)
    have F30 : Sta Z h21 nm2 "ISLAND" nm3 (.ref w_ISLAND) := staK F11 K21
    have F31 : Sta Z h21 nm2 "FINISH" nm3 (.ref w_FINISH) := staK F12 K21
    have F32 : Sta Z h21 nm2 "START" nm3 (.ref w_START) := staK F13 K21
    have F33 : Sta Z h21 nm4 "high" "I" (.int (127 : Int32)) := staK F14 K21
    have F34 : Sta Z h21 nm4 "cache" "[Ljava/lang/Integer;" (.ref w_cache) := staK F15 K21
    have F35 : EL Z h21 w_cache (.object "java/lang/Integer") ((f0_v22 p1 p3) + (128 : Int32)) (.ref w_box) := F16.keep K21 nin0
    have F36 : Exa Z h21 w_box "java/lang/Integer" := F17.keep K21
    have F37 : Exa Z h21 b52nw nm1 := F4.keep K21
    have F38 : Fld Z h21 b52nw nm1 "kind" nm3 (.ref (f2_o_F_nw_kind_0 (f0_v6 p1) w_ISLAND w_FINISH w_START)) := F5.keep K21 nin0
    have F39 : Fld Z h21 b52nw nm1 "number" "I" (.int (f0_c52_b52nw_number0 p1 p3)) := F20.keep K21 nin0
    have K40 : Keep h0 h21 [] := K18.trans K21 all0
    have Z41 : n0 ≤ h21.size := Nat.le_trans Z19 K21.1
    have F42 : Fld Z h21 b61nw nm1 "number" "I" (.int (f0_c61_b61nw_number0 p2 p3 p4 p5)) := F24
    show Rt _ _ _ _ _ _ _ (T21.setTop (mkF m 64 #[.val (.int p1), .val (.int p2), .val (.int p3), .val (.int p4), .val (.int p5), .val (.int (f0_v6 p1)), .val (.int (f0_v14 p2)), .val (.int (f0_v22 p1 p3)), .val (.int (f0_j46_s0 p2 p3 p4 p5)), .val (.ref b52nw), .unset, .unset, .unset] [(.ref b61nw)]))
    refine Rt.astore (pc' := 66) (v := (.ref b61nw)) (l' := #[.val (.int p1), .val (.int p2), .val (.int p3), .val (.int p4), .val (.int p5), .val (.int (f0_v6 p1)), .val (.int (f0_v14 p2)), .val (.int (f0_v22 p1 p3)), .val (.int (f0_j46_s0 p2 p3 p4 p5)), .val (.ref b52nw), .val (.ref b61nw), .unset, .unset]) X21 hx (hb hby at_64) rfl rfl rfl ?_
    refine Rt.iload (pc' := 68) X21 hx (hb hby at_66) rfl rfl ?_
    refine Rt.iconst (pc' := 69) (v := (1 : Int32)) X21 hx (hb hby at_68) rfl rfl ?_
    refine Rt.iushr (pc' := 70) (r := ((p5.toUInt32 >>> ((1 : Int32) &&& 31).toUInt32).toInt32)) X21 hx (hb hby at_69) rfl rfl ?_
    refine Rt.iconst (pc' := 71) (v := (3 : Int32)) X21 hx (hb hby at_70) rfl rfl ?_
    refine Rt.iand (pc' := 72) (r := (((p5.toUInt32 >>> ((1 : Int32) &&& 31).toUInt32).toInt32) &&& (3 : Int32))) X21 hx (hb hby at_71) rfl rfl ?_
    refine Rt.istore (pc' := 74) (v := (f0_v72 p5)) (l' := #[.val (.int p1), .val (.int p2), .val (.int p3), .val (.int p4), .val (.int p5), .val (.int (f0_v6 p1)), .val (.int (f0_v14 p2)), .val (.int (f0_v22 p1 p3)), .val (.int (f0_j46_s0 p2 p3 p4 p5)), .val (.ref b52nw), .val (.ref b61nw), .val (.int (f0_v72 p5)), .unset]) X21 hx (hb hby at_72) rfl rfl ?_
    refine Rt.iload (pc' := 76) X21 hx (hb hby at_74) rfl rfl ?_
    refine Rt.iconst (pc' := 77) (v := (1 : Int32)) X21 hx (hb hby at_76) rfl rfl ?_
    by_cases hc77_43 : (f0_v72 p5) = (1 : Int32)
    · refine Rt.icmpN (pc' := 80) X21 hx (hb hby at_77) (teq hc77_43).2 rfl ?_
      refine Rt.aload (pc' := 82) X21 hx (hb hby at_80) rfl rfl rfl ?_
      refine Rt.aconstNull (pc' := 83) X21 hx (hb hby at_82) rfl ?_
      refine Rt.callV (pc' := 86) X21 hx hZ (y := mt6) (yz := mt6) hown (hw _ (List.mem_of_getElem? (i := 33) rfl)) (hw _ (List.mem_of_getElem? (i := 34) rfl)) (notFace_of_selects (args := #[]) (mvT hZ (hw _ (List.mem_of_getElem? (i := 36) rfl)))) (hw _ (List.mem_of_getElem? (i := 36) rfl)) (hw _ (List.mem_of_getElem? (i := 35) rfl)) (hw _ (List.mem_of_getElem? (i := 10) rfl)) (hw _ (List.mem_of_getElem? (i := 37) rfl)) (by decide) F37 (rm7n l Z a0 hw [] b52nw h21 n0) (fun _ _ _ q => q.2.1) (W := 0) (by decide) (by decide) (by decide) (by decide) (argsL := [.null]) (rest := []) (by rw [hml]; rfl) (lenOf pd_5 rfl) rfl rfl (Nat.le_of_eq rfl) (hb hby at_83) rfl ?_
      rintro _ T44 h44 L44 X44 ⟨rfl, N44, e44⟩
      rw [e44] at X44
      show Rt _ _ _ _ _ _ _ (T44.setTop (mkF m 86 #[.val (.int p1), .val (.int p2), .val (.int p3), .val (.int p4), .val (.int p5), .val (.int (f0_v6 p1)), .val (.int (f0_v14 p2)), .val (.int (f0_v22 p1 p3)), .val (.int (f0_j46_s0 p2 p3 p4 p5)), .val (.ref b52nw), .val (.ref b61nw), .val (.int (f0_v72 p5)), .unset] [(.int f7n)]))
      by_cases hc86_45 : f7n = (0 : Int32)
      · refine Rt.ifN (pc' := 89) X44 hx (hb hby at_86) ((if0 _ _).trans (teq hc86_45).2) rfl ?_
        refine Rt.iconst (pc' := 90) (v := (1 : Int32)) X44 hx (hb hby at_89) rfl rfl ?_
        refine Rt.goto (pc' := 94) X44 hx (hb hby at_90) (by decide) (by decide) ?_
        exact Rt.retZ (w := (1 : Int32)) X44 hx hlk hret (by simp) (hb hby at_94) (by decide) (by decide) (by decide) (fun L N => ⟨congrArg some (congrArg Value.int (by rw [f0, if_pos hc77_43, if_pos hc86_45])), N, K40⟩)
      · refine Rt.ifY (pc' := 93) X44 hx (hb hby at_86) ((if0 _ _).trans (feq hc86_45).2) (by decide) (by decide) ?_
        refine Rt.iconst (pc' := 94) (v := (0 : Int32)) X44 hx (hb hby at_93) rfl rfl ?_
        exact Rt.retZ (w := (0 : Int32)) X44 hx hlk hret (by simp) (hb hby at_94) (by decide) (by decide) (by decide) (fun L N => ⟨congrArg some (congrArg Value.int (by rw [f0, if_pos hc77_43, if_neg hc86_45])), N, K40⟩)
    · refine Rt.icmpY (pc' := 95) X21 hx (hb hby at_77) (feq hc77_43).2 (by decide) (by decide) ?_
      refine Rt.iload (pc' := 97) X21 hx (hb hby at_95) rfl rfl ?_
      refine Rt.iconst (pc' := 98) (v := (2 : Int32)) X21 hx (hb hby at_97) rfl rfl ?_
      by_cases hc98_46 : (f0_v72 p5) = (2 : Int32)
      · refine Rt.icmpN (pc' := 101) X21 hx (hb hby at_98) (teq hc98_46).2 rfl ?_
        refine Rt.aload (pc' := 103) X21 hx (hb hby at_101) rfl rfl rfl ?_
        refine Rt.iload (pc' := 105) X21 hx (hb hby at_103) rfl rfl ?_
        refine Rt.callP (pc' := 108) (r := (.ref w_box)) X21 hx hZ (y := mt7) hown (hw _ (List.mem_of_getElem? (i := 44) rfl)) (hw _ (List.mem_of_getElem? (i := 45) rfl)) (hw _ (List.mem_of_getElem? (i := 46) rfl)) (hw _ (List.mem_of_getElem? (i := 47) rfl)) (by decide) (rm8 l Z a0 hw [] (f0_v22 p1 p3) w_cache w_box h21 n0 F33 F34 F35 (own_vn _ _).1 (own_vn _ _).2) (W := 1) (by decide) (by decide) (by decide) (by decide) rfl rfl (argsL := [(.int (f0_v22 p1 p3))]) (rest := [(.ref b52nw)]) (by rw [hml]; rfl) (lenOf pd_6 rfl) rfl rfl (Nat.le_of_eq rfl) (hb hby at_105) rfl ?_
        intro T47 X47
        refine Rt.callV (pc' := 111) X47 hx hZ (y := mt6) (yz := mt6) hown (hw _ (List.mem_of_getElem? (i := 33) rfl)) (hw _ (List.mem_of_getElem? (i := 34) rfl)) (notFace_of_selects (args := #[]) (mvT hZ (hw _ (List.mem_of_getElem? (i := 36) rfl)))) (hw _ (List.mem_of_getElem? (i := 36) rfl)) (hw _ (List.mem_of_getElem? (i := 35) rfl)) (hw _ (List.mem_of_getElem? (i := 10) rfl)) (hw _ (List.mem_of_getElem? (i := 37) rfl)) (by decide) F37 (rm7i l Z a0 hw [] b52nw w_box h21 n0 F36) (fun _ _ _ q => q.2.1) (W := 0) (by decide) (by decide) (by decide) (by decide) (argsL := [(.ref w_box)]) (rest := []) (by rw [hml]; rfl) (lenOf pd_5 rfl) rfl rfl (Nat.le_of_eq rfl) (hb hby at_108) rfl ?_
        rintro _ T48 h48 L48 X48 ⟨rfl, N48, e48⟩
        rw [e48] at X48
        show Rt _ _ _ _ _ _ _ (T48.setTop (mkF m 111 #[.val (.int p1), .val (.int p2), .val (.int p3), .val (.int p4), .val (.int p5), .val (.int (f0_v6 p1)), .val (.int (f0_v14 p2)), .val (.int (f0_v22 p1 p3)), .val (.int (f0_j46_s0 p2 p3 p4 p5)), .val (.ref b52nw), .val (.ref b61nw), .val (.int (f0_v72 p5)), .unset] [(.int f7i)]))
        by_cases hc111_49 : f7i = (0 : Int32)
        · refine Rt.ifN (pc' := 114) X48 hx (hb hby at_111) ((if0 _ _).trans (teq hc111_49).2) rfl ?_
          refine Rt.iconst (pc' := 115) (v := (1 : Int32)) X48 hx (hb hby at_114) rfl rfl ?_
          refine Rt.goto (pc' := 119) X48 hx (hb hby at_115) (by decide) (by decide) ?_
          exact Rt.retZ (w := (1 : Int32)) X48 hx hlk hret (by simp) (hb hby at_119) (by decide) (by decide) (by decide) (fun L N => ⟨congrArg some (congrArg Value.int (by rw [f0, if_neg hc77_43, if_pos hc98_46, if_pos hc111_49])), N, K40⟩)
        · refine Rt.ifY (pc' := 118) X48 hx (hb hby at_111) ((if0 _ _).trans (feq hc111_49).2) (by decide) (by decide) ?_
          refine Rt.iconst (pc' := 119) (v := (0 : Int32)) X48 hx (hb hby at_118) rfl rfl ?_
          exact Rt.retZ (w := (0 : Int32)) X48 hx hlk hret (by simp) (hb hby at_119) (by decide) (by decide) (by decide) (fun L N => ⟨congrArg some (congrArg Value.int (by rw [f0, if_neg hc77_43, if_pos hc98_46, if_neg hc111_49])), N, K40⟩)
      · refine Rt.icmpY (pc' := 120) X21 hx (hb hby at_98) (feq hc98_46).2 (by decide) (by decide) ?_
        refine Rt.iload (pc' := 122) X21 hx (hb hby at_120) rfl rfl ?_
        refine Rt.iconst (pc' := 123) (v := (3 : Int32)) X21 hx (hb hby at_122) rfl rfl ?_
        by_cases hc123_50 : (f0_v72 p5) = (3 : Int32)
        · refine Rt.icmpN (pc' := 126) X21 hx (hb hby at_123) (teq hc123_50).2 rfl ?_
          refine Rt.aload (pc' := 128) X21 hx (hb hby at_126) rfl rfl rfl ?_
          refine Rt.aload (pc' := 130) X21 hx (hb hby at_128) rfl rfl rfl ?_
          refine Rt.callV (pc' := 133) X21 hx hZ (y := mt6) (yz := mt6) hown (hw _ (List.mem_of_getElem? (i := 33) rfl)) (hw _ (List.mem_of_getElem? (i := 34) rfl)) (notFace_of_selects (args := #[]) (mvT hZ (hw _ (List.mem_of_getElem? (i := 36) rfl)))) (hw _ (List.mem_of_getElem? (i := 36) rfl)) (hw _ (List.mem_of_getElem? (i := 35) rfl)) (hw _ (List.mem_of_getElem? (i := 10) rfl)) (hw _ (List.mem_of_getElem? (i := 37) rfl)) (by decide) F37 (rm7 l Z a0 hw [] b52nw b52nw (f2_o_F_nw_kind_0 (f0_v6 p1) w_ISLAND w_FINISH w_START) (f0_c52_b52nw_number0 p1 p3) (f2_o_F_nw_kind_0 (f0_v6 p1) w_ISLAND w_FINISH w_START) (f0_c52_b52nw_number0 p1 p3) h21 n0 F38 F39 F37 F38 F39) (fun _ _ _ q => q.2.1) (W := 0) (by decide) (by decide) (by decide) (by decide) (argsL := [(.ref b52nw)]) (rest := []) (by rw [hml]; rfl) (lenOf pd_5 rfl) rfl rfl (Nat.le_of_eq rfl) (hb hby at_130) rfl ?_
          rintro _ T51 h51 L51 X51 ⟨rfl, N51, e51⟩
          rw [e51] at X51
          show Rt _ _ _ _ _ _ _ (T51.setTop (mkF m 133 #[.val (.int p1), .val (.int p2), .val (.int p3), .val (.int p4), .val (.int p5), .val (.int (f0_v6 p1)), .val (.int (f0_v14 p2)), .val (.int (f0_v22 p1 p3)), .val (.int (f0_j46_s0 p2 p3 p4 p5)), .val (.ref b52nw), .val (.ref b61nw), .val (.int (f0_v72 p5)), .unset] [(.int (f7 (f2_o_F_nw_kind_0 (f0_v6 p1) w_ISLAND w_FINISH w_START) (f0_c52_b52nw_number0 p1 p3) (f2_o_F_nw_kind_0 (f0_v6 p1) w_ISLAND w_FINISH w_START) (f0_c52_b52nw_number0 p1 p3)))]))
          by_cases hc133_52 : (f7 (f2_o_F_nw_kind_0 (f0_v6 p1) w_ISLAND w_FINISH w_START) (f0_c52_b52nw_number0 p1 p3) (f2_o_F_nw_kind_0 (f0_v6 p1) w_ISLAND w_FINISH w_START) (f0_c52_b52nw_number0 p1 p3)) = (0 : Int32)
          · refine Rt.ifY (pc' := 155) X51 hx (hb hby at_133) ((if0 _ _).trans (teq hc133_52).1) (by decide) (by decide) ?_
            refine Rt.iconst (pc' := 156) (v := (0 : Int32)) X51 hx (hb hby at_155) rfl rfl ?_
            exact Rt.retZ (w := (0 : Int32)) X51 hx hlk hret (by simp) (hb hby at_156) (by decide) (by decide) (by decide) (fun L N => ⟨congrArg some (congrArg Value.int (by rw [f0, if_neg hc77_43, if_neg hc98_46, if_pos hc123_50, if_pos hc133_52])), N, K40⟩)
          · refine Rt.ifN (pc' := 136) X51 hx (hb hby at_133) ((if0 _ _).trans (feq hc133_52).1) rfl ?_
            refine Rt.aload (pc' := 138) X51 hx (hb hby at_136) rfl rfl rfl ?_
            refine Rt.iload (pc' := 140) X51 hx (hb hby at_138) rfl rfl ?_
            refine Rt.iload (pc' := 142) X51 hx (hb hby at_140) rfl rfl ?_
            refine Rt.callS (pc' := 145) X51 hx hZ (y := mt5) hown (hw _ (List.mem_of_getElem? (i := 5) rfl)) (hw _ (List.mem_of_getElem? (i := 6) rfl)) (hw _ (List.mem_of_getElem? (i := 3) rfl)) (hw _ (List.mem_of_getElem? (i := 7) rfl)) (by decide) (rm2 l Z a0 hw [] (f0_v6 p1) (f0_v22 p1 p3) w_ISLAND w_FINISH w_START h21 n0 Z41 F30 F31 F32 (fun q => (own_na _ _ q).1) (fun q => (own_na _ _ q).2) neF neS) (fun _ _ _ q => (by obtain ⟨_, _, _, q, _⟩ := q; exact q)) (W := 1) (by decide) (by decide) (by decide) (by decide) (argsL := [(.int (f0_v6 p1)), (.int (f0_v22 p1 p3))]) (rest := [(.ref b52nw)]) (by rw [hml]; rfl) (lenOf pd_4 rfl) rfl rfl (Nat.le_of_eq rfl) (hb hby at_142) rfl ?_
            rintro _ T53 h53 L53 X53 ⟨b142nw, sb142nw, rfl, N53, K53, F54, F55, F56⟩
            have g57 : n0 ≤ b142nw := Nat.le_trans Z41 sb142nw
            have s58 : h0.size ≤ b142nw := Nat.le_trans K40.1 sb142nw
            have ne59 : w_cache ≠ b142nw := Nat.ne_of_lt (Nat.lt_of_lt_of_le F35.lt sb142nw)
            have ne60 : w_box ≠ b142nw := Nat.ne_of_lt (Nat.lt_of_lt_of_le F36.lt sb142nw)
            have ne61 : b52nw ≠ b142nw := Nat.ne_of_lt (Nat.lt_of_lt_of_le F37.lt sb142nw)
            have ne62 : b61nw ≠ b142nw := Nat.ne_of_lt (Nat.lt_of_lt_of_le F22.lt sb142nw)
            have F63 : Sta Z h53 nm2 "ISLAND" nm3 (.ref w_ISLAND) := staK F30 K53
            have F64 : Sta Z h53 nm2 "FINISH" nm3 (.ref w_FINISH) := staK F31 K53
            have F65 : Sta Z h53 nm2 "START" nm3 (.ref w_START) := staK F32 K53
            have F66 : Sta Z h53 nm4 "high" "I" (.int (127 : Int32)) := staK F33 K53
            have F67 : Sta Z h53 nm4 "cache" "[Ljava/lang/Integer;" (.ref w_cache) := staK F34 K53
            have F68 : EL Z h53 w_cache (.object "java/lang/Integer") ((f0_v22 p1 p3) + (128 : Int32)) (.ref w_box) := F35.keep K53 nin0
            have F69 : Exa Z h53 w_box "java/lang/Integer" := F36.keep K53
            have F70 : Exa Z h53 b52nw nm1 := F37.keep K53
            have F71 : Fld Z h53 b52nw nm1 "kind" nm3 (.ref (f2_o_F_nw_kind_0 (f0_v6 p1) w_ISLAND w_FINISH w_START)) := F38.keep K53 nin0
            have F72 : Fld Z h53 b52nw nm1 "number" "I" (.int (f0_c52_b52nw_number0 p1 p3)) := F39.keep K53 nin0
            have F73 : Exa Z h53 b61nw nm1 := F22.keep K53
            have F74 : Fld Z h53 b61nw nm1 "kind" nm3 (.ref (f2_o_F_nw_kind_0 (f0_v14 p2) w_ISLAND w_FINISH w_START)) := F23.keep K53 nin0
            have F75 : Fld Z h53 b61nw nm1 "number" "I" (.int (f0_c61_b61nw_number0 p2 p3 p4 p5)) := F42.keep K53 nin0
            have K76 : Keep h0 h53 [] := K40.trans K53 all0
            have Z77 : n0 ≤ h53.size := Nat.le_trans Z41 K53.1
            have F78 : Fld Z h53 b142nw nm1 "number" "I" (.int (f0_c142_b142nw_number0 p1 p3)) := F56
            show Rt _ _ _ _ _ _ _ (T53.setTop (mkF m 145 #[.val (.int p1), .val (.int p2), .val (.int p3), .val (.int p4), .val (.int p5), .val (.int (f0_v6 p1)), .val (.int (f0_v14 p2)), .val (.int (f0_v22 p1 p3)), .val (.int (f0_j46_s0 p2 p3 p4 p5)), .val (.ref b52nw), .val (.ref b61nw), .val (.int (f0_v72 p5)), .unset] [(.ref b142nw), (.ref b52nw)]))
            refine Rt.callV (pc' := 148) X53 hx hZ (y := mt6) (yz := mt6) hown (hw _ (List.mem_of_getElem? (i := 33) rfl)) (hw _ (List.mem_of_getElem? (i := 34) rfl)) (notFace_of_selects (args := #[]) (mvT hZ (hw _ (List.mem_of_getElem? (i := 36) rfl)))) (hw _ (List.mem_of_getElem? (i := 36) rfl)) (hw _ (List.mem_of_getElem? (i := 35) rfl)) (hw _ (List.mem_of_getElem? (i := 10) rfl)) (hw _ (List.mem_of_getElem? (i := 37) rfl)) (by decide) F70 (rm7 l Z a0 hw [] b52nw b142nw (f2_o_F_nw_kind_0 (f0_v6 p1) w_ISLAND w_FINISH w_START) (f0_c52_b52nw_number0 p1 p3) (f2_o_F_nw_kind_0 (f0_v6 p1) w_ISLAND w_FINISH w_START) (f0_c142_b142nw_number0 p1 p3) h53 n0 F71 F72 F54 F55 F78) (fun _ _ _ q => q.2.1) (W := 0) (by decide) (by decide) (by decide) (by decide) (argsL := [(.ref b142nw)]) (rest := []) (by rw [hml]; rfl) (lenOf pd_5 rfl) rfl rfl (Nat.le_of_eq rfl) (hb hby at_145) rfl ?_
            rintro _ T79 h79 L79 X79 ⟨rfl, N79, e79⟩
            rw [e79] at X79
            show Rt _ _ _ _ _ _ _ (T79.setTop (mkF m 148 #[.val (.int p1), .val (.int p2), .val (.int p3), .val (.int p4), .val (.int p5), .val (.int (f0_v6 p1)), .val (.int (f0_v14 p2)), .val (.int (f0_v22 p1 p3)), .val (.int (f0_j46_s0 p2 p3 p4 p5)), .val (.ref b52nw), .val (.ref b61nw), .val (.int (f0_v72 p5)), .unset] [(.int (f7 (f2_o_F_nw_kind_0 (f0_v6 p1) w_ISLAND w_FINISH w_START) (f0_c52_b52nw_number0 p1 p3) (f2_o_F_nw_kind_0 (f0_v6 p1) w_ISLAND w_FINISH w_START) (f0_c142_b142nw_number0 p1 p3)))]))
            by_cases hc148_80 : (f7 (f2_o_F_nw_kind_0 (f0_v6 p1) w_ISLAND w_FINISH w_START) (f0_c52_b52nw_number0 p1 p3) (f2_o_F_nw_kind_0 (f0_v6 p1) w_ISLAND w_FINISH w_START) (f0_c142_b142nw_number0 p1 p3)) = (0 : Int32)
            · refine Rt.ifY (pc' := 155) X79 hx (hb hby at_148) ((if0 _ _).trans (teq hc148_80).1) (by decide) (by decide) ?_
              refine Rt.iconst (pc' := 156) (v := (0 : Int32)) X79 hx (hb hby at_155) rfl rfl ?_
              exact Rt.retZ (w := (0 : Int32)) X79 hx hlk hret (by simp) (hb hby at_156) (by decide) (by decide) (by decide) (fun L N => ⟨congrArg some (congrArg Value.int (by rw [f0, if_neg hc77_43, if_neg hc98_46, if_pos hc123_50, if_neg hc133_52, if_pos hc148_80])), N, K76⟩)
            · refine Rt.ifN (pc' := 151) X79 hx (hb hby at_148) ((if0 _ _).trans (feq hc148_80).1) rfl ?_
              refine Rt.iconst (pc' := 152) (v := (1 : Int32)) X79 hx (hb hby at_151) rfl rfl ?_
              refine Rt.goto (pc' := 156) X79 hx (hb hby at_152) (by decide) (by decide) ?_
              exact Rt.retZ (w := (1 : Int32)) X79 hx hlk hret (by simp) (hb hby at_156) (by decide) (by decide) (by decide) (fun L N => ⟨congrArg some (congrArg Value.int (by rw [f0, if_neg hc77_43, if_neg hc98_46, if_pos hc123_50, if_neg hc133_52, if_neg hc148_80])), N, K76⟩)
        · refine Rt.icmpY (pc' := 157) X21 hx (hb hby at_123) (feq hc123_50).2 (by decide) (by decide) ?_
          refine Rt.iload (pc' := 159) X21 hx (hb hby at_157) rfl rfl ?_
          refine Rt.iload (pc' := 161) X21 hx (hb hby at_159) rfl rfl ?_
          have J161_81 : ∀ T81  , Sd p l e room_1 s m #[(.int p1), (.int p2), (.int p3), (.int p4), (.int p5)] below meth c T81 n0 2 4 h21 → Rt p e below s room_1.cells room_1.slots (Q0 Z p1 p2 p3 p4 p5 w_ISLAND w_FINISH w_START w_cache w_box h0 n0) (T81.setTop (mkF m 176 #[.val (.int p1), .val (.int p2), .val (.int p3), .val (.int p4), .val (.int p5), .val (.int (f0_v6 p1)), .val (.int (f0_v14 p2)), .val (.int (f0_v22 p1 p3)), .val (.int (f0_j46_s0 p2 p3 p4 p5)), .val (.ref b52nw), .val (.ref b61nw), .val (.int (f0_v72 p5)), .unset] [(.int (f0_j176_s0 p1 p2 p3 p4 p5))])) := by
            intro T81   X81 
            refine Rt.istore (pc' := 178) (v := (f0_j176_s0 p1 p2 p3 p4 p5)) (l' := #[.val (.int p1), .val (.int p2), .val (.int p3), .val (.int p4), .val (.int p5), .val (.int (f0_v6 p1)), .val (.int (f0_v14 p2)), .val (.int (f0_v22 p1 p3)), .val (.int (f0_j46_s0 p2 p3 p4 p5)), .val (.ref b52nw), .val (.ref b61nw), .val (.int (f0_v72 p5)), .val (.int (f0_j176_s0 p1 p2 p3 p4 p5))]) X81 hx (hb hby at_176) rfl rfl ?_
            refine Rt.aload (pc' := 180) X81 hx (hb hby at_178) rfl rfl rfl ?_
            refine Rt.aload (pc' := 182) X81 hx (hb hby at_180) rfl rfl rfl ?_
            refine Rt.callV (pc' := 185) X81 hx hZ (y := mt6) (yz := mt6) hown (hw _ (List.mem_of_getElem? (i := 33) rfl)) (hw _ (List.mem_of_getElem? (i := 34) rfl)) (notFace_of_selects (args := #[]) (mvT hZ (hw _ (List.mem_of_getElem? (i := 36) rfl)))) (hw _ (List.mem_of_getElem? (i := 36) rfl)) (hw _ (List.mem_of_getElem? (i := 35) rfl)) (hw _ (List.mem_of_getElem? (i := 10) rfl)) (hw _ (List.mem_of_getElem? (i := 37) rfl)) (by decide) F37 (rm7 l Z a0 hw [] b52nw b61nw (f2_o_F_nw_kind_0 (f0_v6 p1) w_ISLAND w_FINISH w_START) (f0_c52_b52nw_number0 p1 p3) (f2_o_F_nw_kind_0 (f0_v14 p2) w_ISLAND w_FINISH w_START) (f0_c61_b61nw_number0 p2 p3 p4 p5) h21 n0 F38 F39 F22 F23 F42) (fun _ _ _ q => q.2.1) (W := 0) (by decide) (by decide) (by decide) (by decide) (argsL := [(.ref b61nw)]) (rest := []) (by rw [hml]; rfl) (lenOf pd_5 rfl) rfl rfl (Nat.le_of_eq rfl) (hb hby at_182) rfl ?_
            rintro _ T82 h82 L82 X82 ⟨rfl, N82, e82⟩
            rw [e82] at X82
            show Rt _ _ _ _ _ _ _ (T82.setTop (mkF m 185 #[.val (.int p1), .val (.int p2), .val (.int p3), .val (.int p4), .val (.int p5), .val (.int (f0_v6 p1)), .val (.int (f0_v14 p2)), .val (.int (f0_v22 p1 p3)), .val (.int (f0_j46_s0 p2 p3 p4 p5)), .val (.ref b52nw), .val (.ref b61nw), .val (.int (f0_v72 p5)), .val (.int (f0_j176_s0 p1 p2 p3 p4 p5))] [(.int (f7 (f2_o_F_nw_kind_0 (f0_v6 p1) w_ISLAND w_FINISH w_START) (f0_c52_b52nw_number0 p1 p3) (f2_o_F_nw_kind_0 (f0_v14 p2) w_ISLAND w_FINISH w_START) (f0_c61_b61nw_number0 p2 p3 p4 p5)))]))
            refine Rt.iload (pc' := 187) X82 hx (hb hby at_185) rfl rfl ?_
            by_cases hc187_83 : (f7 (f2_o_F_nw_kind_0 (f0_v6 p1) w_ISLAND w_FINISH w_START) (f0_c52_b52nw_number0 p1 p3) (f2_o_F_nw_kind_0 (f0_v14 p2) w_ISLAND w_FINISH w_START) (f0_c61_b61nw_number0 p2 p3 p4 p5)) = (f0_j176_s0 p1 p2 p3 p4 p5)
            · refine Rt.icmpN (pc' := 190) X82 hx (hb hby at_187) (teq hc187_83).2 rfl ?_
              refine Rt.aload (pc' := 192) X82 hx (hb hby at_190) rfl rfl rfl ?_
              refine Rt.aload (pc' := 194) X82 hx (hb hby at_192) rfl rfl rfl ?_
              refine Rt.callV (pc' := 197) X82 hx hZ (y := mt6) (yz := mt6) hown (hw _ (List.mem_of_getElem? (i := 33) rfl)) (hw _ (List.mem_of_getElem? (i := 34) rfl)) (notFace_of_selects (args := #[]) (mvT hZ (hw _ (List.mem_of_getElem? (i := 36) rfl)))) (hw _ (List.mem_of_getElem? (i := 36) rfl)) (hw _ (List.mem_of_getElem? (i := 35) rfl)) (hw _ (List.mem_of_getElem? (i := 10) rfl)) (hw _ (List.mem_of_getElem? (i := 37) rfl)) (by decide) F22 (rm7 l Z a0 hw [] b61nw b52nw (f2_o_F_nw_kind_0 (f0_v14 p2) w_ISLAND w_FINISH w_START) (f0_c61_b61nw_number0 p2 p3 p4 p5) (f2_o_F_nw_kind_0 (f0_v6 p1) w_ISLAND w_FINISH w_START) (f0_c52_b52nw_number0 p1 p3) h21 n0 F23 F42 F37 F38 F39) (fun _ _ _ q => q.2.1) (W := 0) (by decide) (by decide) (by decide) (by decide) (argsL := [(.ref b52nw)]) (rest := []) (by rw [hml]; rfl) (lenOf pd_5 rfl) rfl rfl (Nat.le_of_eq rfl) (hb hby at_194) rfl ?_
              rintro _ T84 h84 L84 X84 ⟨rfl, N84, e84⟩
              rw [e84] at X84
              show Rt _ _ _ _ _ _ _ (T84.setTop (mkF m 197 #[.val (.int p1), .val (.int p2), .val (.int p3), .val (.int p4), .val (.int p5), .val (.int (f0_v6 p1)), .val (.int (f0_v14 p2)), .val (.int (f0_v22 p1 p3)), .val (.int (f0_j46_s0 p2 p3 p4 p5)), .val (.ref b52nw), .val (.ref b61nw), .val (.int (f0_v72 p5)), .val (.int (f0_j176_s0 p1 p2 p3 p4 p5))] [(.int (f7 (f2_o_F_nw_kind_0 (f0_v14 p2) w_ISLAND w_FINISH w_START) (f0_c61_b61nw_number0 p2 p3 p4 p5) (f2_o_F_nw_kind_0 (f0_v6 p1) w_ISLAND w_FINISH w_START) (f0_c52_b52nw_number0 p1 p3)))]))
              refine Rt.iload (pc' := 199) X84 hx (hb hby at_197) rfl rfl ?_
              by_cases hc199_85 : (f7 (f2_o_F_nw_kind_0 (f0_v14 p2) w_ISLAND w_FINISH w_START) (f0_c61_b61nw_number0 p2 p3 p4 p5) (f2_o_F_nw_kind_0 (f0_v6 p1) w_ISLAND w_FINISH w_START) (f0_c52_b52nw_number0 p1 p3)) = (f0_j176_s0 p1 p2 p3 p4 p5)
              · refine Rt.icmpN (pc' := 202) X84 hx (hb hby at_199) (teq hc199_85).2 rfl ?_
                refine Rt.iconst (pc' := 203) (v := (1 : Int32)) X84 hx (hb hby at_202) rfl rfl ?_
                refine Rt.goto (pc' := 207) X84 hx (hb hby at_203) (by decide) (by decide) ?_
                exact Rt.retZ (w := (1 : Int32)) X84 hx hlk hret (by simp) (hb hby at_207) (by decide) (by decide) (by decide) (fun L N => ⟨congrArg some (congrArg Value.int (by rw [f0, if_neg hc77_43, if_neg hc98_46, if_neg hc123_50, if_pos hc187_83, if_pos hc199_85])), N, K40⟩)
              · refine Rt.icmpY (pc' := 206) X84 hx (hb hby at_199) (feq hc199_85).2 (by decide) (by decide) ?_
                refine Rt.iconst (pc' := 207) (v := (0 : Int32)) X84 hx (hb hby at_206) rfl rfl ?_
                exact Rt.retZ (w := (0 : Int32)) X84 hx hlk hret (by simp) (hb hby at_207) (by decide) (by decide) (by decide) (fun L N => ⟨congrArg some (congrArg Value.int (by rw [f0, if_neg hc77_43, if_neg hc98_46, if_neg hc123_50, if_pos hc187_83, if_neg hc199_85])), N, K40⟩)
            · refine Rt.icmpY (pc' := 206) X82 hx (hb hby at_187) (feq hc187_83).2 (by decide) (by decide) ?_
              refine Rt.iconst (pc' := 207) (v := (0 : Int32)) X82 hx (hb hby at_206) rfl rfl ?_
              exact Rt.retZ (w := (0 : Int32)) X82 hx hlk hret (by simp) (hb hby at_207) (by decide) (by decide) (by decide) (fun L N => ⟨congrArg some (congrArg Value.int (by rw [f0, if_neg hc77_43, if_neg hc98_46, if_neg hc123_50, if_neg hc187_83])), N, K40⟩)
          by_cases hc161_86 : (f0_v6 p1) = (f0_v14 p2)
          · refine Rt.icmpN (pc' := 164) X21 hx (hb hby at_161) (teq hc161_86).2 rfl ?_
            refine Rt.iload (pc' := 166) X21 hx (hb hby at_164) rfl rfl ?_
            refine Rt.iload (pc' := 168) X21 hx (hb hby at_166) rfl rfl ?_
            by_cases hc168_87 : (f0_v22 p1 p3) = (f0_j46_s0 p2 p3 p4 p5)
            · refine Rt.icmpN (pc' := 171) X21 hx (hb hby at_168) (teq hc168_87).2 rfl ?_
              refine Rt.iconst (pc' := 172) (v := (1 : Int32)) X21 hx (hb hby at_171) rfl rfl ?_
              refine Rt.goto (pc' := 176) X21 hx (hb hby at_172) (by decide) (by decide) ?_
              have q := J161_81 T21   X21
              rw [show (f0_j176_s0 p1 p2 p3 p4 p5) = (1 : Int32) from by rw [f0_j176_s0, if_pos hc161_86, if_pos hc168_87]] at q
              exact q
            · refine Rt.icmpY (pc' := 175) X21 hx (hb hby at_168) (feq hc168_87).2 (by decide) (by decide) ?_
              refine Rt.iconst (pc' := 176) (v := (0 : Int32)) X21 hx (hb hby at_175) rfl rfl ?_
              have q := J161_81 T21   X21
              rw [show (f0_j176_s0 p1 p2 p3 p4 p5) = (0 : Int32) from by rw [f0_j176_s0, if_pos hc161_86, if_neg hc168_87]] at q
              exact q
          · refine Rt.icmpY (pc' := 175) X21 hx (hb hby at_161) (feq hc161_86).2 (by decide) (by decide) ?_
            refine Rt.iconst (pc' := 176) (v := (0 : Int32)) X21 hx (hb hby at_175) rfl rfl ?_
            have q := J161_81 T21   X21
            rw [show (f0_j176_s0 p1 p2 p3 p4 p5) = (0 : Int32) from by rw [f0_j176_s0, if_neg hc161_86]] at q
            exact q
  by_cases hc28_88 : (p5 &&& (1 : Int32)) = (0 : Int32)
  · refine Rt.ifY (pc' := 40) X1 hx (hb hby at_28) ((if0 _ _).trans (teq hc28_88).1) (by decide) (by decide) ?_
    refine Rt.iload (pc' := 42) X1 hx (hb hby at_40) rfl rfl ?_
    refine Rt.iloadN (pc' := 43) X1 hx (hb hby at_42) rfl rfl ?_
    refine Rt.callP (pc' := 46) (r := (.int (f1 (f0_v14 p2) p4))) X1 hx hZ (y := mt1) hown (hw _ (List.mem_of_getElem? (i := 1) rfl)) (hw _ (List.mem_of_getElem? (i := 2) rfl)) (hw _ (List.mem_of_getElem? (i := 3) rfl)) (hw _ (List.mem_of_getElem? (i := 4) rfl)) (by decide) (rm1 l Z a0 hw [] (f0_v14 p2) p4 h0 n0) (W := 0) (by decide) (by decide) (by decide) (by decide) rfl rfl (argsL := [(.int (f0_v14 p2)), (.int p4)]) (rest := []) (by rw [hml]; rfl) (lenOf pd_3 rfl) rfl rfl (Nat.le_of_eq rfl) (hb hby at_43) rfl ?_
    intro T89 X89
    have q := J28_2 T89   X89
    rw [show (f0_j46_s0 p2 p3 p4 p5) = (f1 (f0_v14 p2) p4) from by rw [f0_j46_s0, if_pos hc28_88]] at q
    exact q
  · refine Rt.ifN (pc' := 31) X1 hx (hb hby at_28) ((if0 _ _).trans (feq hc28_88).1) rfl ?_
    refine Rt.iload (pc' := 33) X1 hx (hb hby at_31) rfl rfl ?_
    refine Rt.iloadN (pc' := 34) X1 hx (hb hby at_33) rfl rfl ?_
    refine Rt.callP (pc' := 37) (r := (.int (f1 (f0_v14 p2) p3))) X1 hx hZ (y := mt1) hown (hw _ (List.mem_of_getElem? (i := 1) rfl)) (hw _ (List.mem_of_getElem? (i := 2) rfl)) (hw _ (List.mem_of_getElem? (i := 3) rfl)) (hw _ (List.mem_of_getElem? (i := 4) rfl)) (by decide) (rm1 l Z a0 hw [] (f0_v14 p2) p3 h0 n0) (W := 0) (by decide) (by decide) (by decide) (by decide) rfl rfl (argsL := [(.int (f0_v14 p2)), (.int p3)]) (rest := []) (by rw [hml]; rfl) (lenOf pd_3 rfl) rfl rfl (Nat.le_of_eq rfl) (hb hby at_34) rfl ?_
    intro T90 X90
    refine Rt.goto (pc' := 46) X90 hx (hb hby at_37) (by decide) (by decide) ?_
    have q := J28_2 T90   X90
    rw [show (f0_j46_s0 p2 p3 p4 p5) = (f1 (f0_v14 p2) p3) from by rw [f0_j46_s0, if_neg hc28_88]] at q
    exact q
theorem own_eqi {args : Array Value} {s : State} {a : Term} {n : Int32} (h : (Jvm.Cond.eq a (.int n)).value args s none s [] = some true) : a.eval args s none [] s = some (.int n) := Cond.eq_int (b := .int n) (by simp [Cond.holds, h]) rfl
theorem own_eqr {args : Array Value} {s : State} {a b : Term} {y : Value} (h : (Jvm.Cond.eq a b).value args s none s [] = some true) (hb : b.eval args s none [] s = some y) (hy : y.isRef = true) : a.eval args s none [] s = some y := Cond.eq_refs (by simp [Cond.holds, h]) hb hy
theorem own_ord {args : Array Value} {s : State} {t : Term} {K f d : String} {k : Int32} {x : Addr} (h : (Jvm.Cond.eq (.field t K f d) (.int k)).value args s none s [] = some true) (ht : t.eval args s none [] s = some (.ref x)) : s.fieldOf? x K f d = some (.int k) := by
  have h' : (Jvm.Cond.eq (.field t K f d) (.int k)).holds args s none s [] = true := by simp [Cond.holds, h]
  have q := Cond.eq_int h' (n := k) rfl
  rw [fld_at (C := K) (n := f) (dd := d) ht] at q
  exact q
theorem own_ne {s : State} {x y : Addr} {K f d : String} {j k : Int32} (hx : s.fieldOf? x K f d = some (.int j)) (hy : s.fieldOf? y K f d = some (.int k)) (q : j ≠ k) : x ≠ y := fun e => by
  subst e; exact q (Value.int.inj (Option.some.inj (hx.symm.trans hy)))
theorem own_num0 (k x : Int32) : f2_o_F_nw_number_0 k (f1 k x) = f1 k x := by
  unfold f2_o_F_nw_number_0 f1
  by_cases q : k = 0
  · rw [if_pos q]
  · rw [if_neg q, if_neg q]; split <;> rfl
theorem own_kind (p q : Int32) (i j k : Addr) (h1 : j ≠ i) (h2 : k ≠ i) (h3 : k ≠ j) (hp : p = 0 ∨ p = 1 ∨ p = 2) (hq : q = 0 ∨ q = 1 ∨ q = 2) : (f2_o_F_nw_kind_0 p i j k = f2_o_F_nw_kind_0 q i j k) ↔ p = q := by
  rcases hp with rfl | rfl | rfl <;> rcases hq with rfl | rfl | rfl <;> simp [f2_o_F_nw_kind_0, h1, h2, h3, h1.symm, h2.symm, h3.symm]
theorem own_three (x : Int32) : (x &&& 2147483647) % 3 = 0 ∨ (x &&& 2147483647) % 3 = 1 ∨ (x &&& 2147483647) % 3 = 2 := by
  have g1 := c_mask x 2147483647 31 (by decide) (by decide)
  have g2 := c_irem (x &&& 2147483647) 3 3 (by decide)
  generalize (x &&& 2147483647) % 3 = y at g2
  simp only [← Int32.toInt_inj]
  have : y.toInt = 0 ∨ y.toInt = 1 ∨ y.toInt = 2 := by omega
  exact this
theorem own_law (a b x y f : Int32) (i j k : Addr) (h1 : j ≠ i) (h2 : k ≠ i) (h3 : k ≠ j) : f0 a b x y f i j k = 1 := by
  have n1 : f0_c52_b52nw_number0 a x = f0_v22 a x := own_num0 _ _
  have n2 : f0_c142_b142nw_number0 a x = f0_v22 a x := own_num0 _ _
  have n3 : f0_c61_b61nw_number0 b x y f = f0_j46_s0 b x y f := by
    unfold f0_c61_b61nw_number0 f0_j46_s0; split <;> exact own_num0 _ _
  have hk := own_kind (f0_v6 a) (f0_v14 b) i j k h1 h2 h3 (own_three a) (own_three b)
  unfold f0
  rw [n1, n2, n3]
  unfold f7 f0_j176_s0 f7n f7i
  generalize f2_o_F_nw_kind_0 (f0_v6 a) i j k = ka at hk
  generalize f2_o_F_nw_kind_0 (f0_v14 b) i j k = kb at hk
  generalize f0_v22 a x = na
  generalize f0_j46_s0 b x y f = nb
  generalize f0_v6 a = p at hk
  generalize f0_v14 b = q at hk
  by_cases c1 : p = q
  · have c2 := hk.mpr c1
    subst c1; subst c2
    by_cases c3 : na = nb
    · subst c3; simp
    · have c4 : ¬ nb = na := fun z => c3 z.symm
      simp [c3, c4]
  · have c2 : ¬ ka = kb := fun z => c1 (hk.mp z)
    have c3 : ¬ kb = ka := fun z => c2 z.symm
    simp [c1, c2, c3]
theorem own_len {args : Array Value} {s : State} {t : Term} {a : Addr} {cl : Cell} {ty : FieldType} {n : Int32} {k : Nat} (ht : t.eval args s none [] s = some (.ref a)) (A : Arr s s.heap a cl ty) (h : (Term.length t).eval args s none [] s = some (.int n)) (hn : n.toNatClampNeg = k) : cl.slots.size = k := by
  have ha : s.arrayAt? a = some cl := Arr.fin (Vm.Alike.refl _) A
  simp only [Term.eval, ht, ha, Option.bind_eq_bind, Option.bind_some] at h
  split at h
  · rename_i q
    have e : cl.slots.size.toInt32 = n := Value.int.inj (Option.some.inj h)
    rw [← hn, ← e]
    simp only [Int32.toNatClampNeg, len_toInt q]; rfl
  · cases h
theorem own_box {args : Array Value} {s : State} {a : Addr} {cl : Cell} {K f d : String} {X : Jvm.Cond} (hall : (Jvm.Cond.all (.static K f d) (.and (.exactly (.elem (.static K f d) (.index 0)) "java/lang/Integer") X)).value args s none s [] = some true) (hc : (Term.static K f d).eval args s none [] s = some (.ref a)) (A : Arr s s.heap a cl (.object "java/lang/Integer")) (hsz : cl.slots.size = 256) (j : Int32) (h0 : 0 ≤ j.toInt) (h1 : j.toInt < 256) : ∃ b, EL s s.heap a (.object "java/lang/Integer") j (.ref b) ∧ Exa s s.heap b "java/lang/Integer" := by
  have ha : s.arrayAt? a = some cl := Arr.fin (Vm.Alike.refl _) A
  have hi : j.toNatClampNeg < 256 := by simp only [Int32.toNatClampNeg]; omega
  have q := Cond.all_elim hc ha hall j.toNatClampNeg (by rw [hsz]; exact hi)
  obtain ⟨q1, -⟩ := and_e q
  obtain ⟨b, c', cell, k, e1, e2, e3, e4, e5, rfl, e7⟩ := Cond.exactly_spec (beq_iff_eq.mpr q1 : (Jvm.Cond.exactly _ _).holds _ _ _ _ _ = true)
  have z0 : (0 : Int32).toInt = 0 := by decide
  have hn : ¬ j < 0 := by rw [Int32.lt_iff_toInt_lt]; omega
  have ej : (j.toNatClampNeg).toInt32 = j := (back32 hn).1
  have r := elem_in e1 (show (Term.static K f d).eval args s none [j.toNatClampNeg] s = some (.ref a) from hc) (j := j) (by show some (Value.int _) = _; rw [ej]) A.1
  exact ⟨b, ⟨cl, A, r.1, r.2⟩, ⟨cell, k, e3, e2, e4, e5, e7⟩⟩
theorem own_ix (a x : Int32) : 0 ≤ (f0_v22 a x + 128).toInt ∧ (f0_v22 a x + 128).toInt < 256 := by
  have h := own_f1 (f0_v6 a) x
  have l : (128 : Int32).toInt = 128 := by decide
  have g := c_iadd (f0_v22 a x) 128
  have b1 := (f0_v22 a x + 128).le_toInt
  have b2 := (f0_v22 a x + 128).toInt_lt
  have e : (f0_v22 a x).toInt = (f1 (f0_v6 a) x).toInt := rfl
  omega
set_option maxRecDepth 65536 in
set_option maxHeartbeats 40000000 in
theorem comes_1 {Post : Tables → Env → Array Value → State → Outcome → State → Prop} (hpost : ∀ tb e args s v u, (limb_1_1.after args s (.returned v) u = true ∧ limb_1_2.after args s (.returned v) u = true ∧ True) → FrameEnd s (.returned v) u (Jvm.fieldLocs frame_1_writes args s ++ Jvm.arrayLocs frame_1_arrays args s ++ Jvm.staticLocs frame_1_statics s) 16 128 → Post tb e args s (.returned v) u) :
    ArmFor flags0 classFile x code maxLocals ret World_1 tables_1 room_1 Calls_1 rest_1 Pre_1 Post := by
  intro l hfl _ _ p e ha hc hk s m args below hf hA hF happ hP
  obtain ⟨hcalls, hrest, hpre⟩ := hP
  obtain ⟨-, -, -, hnamed, -, -, -, hat⟩ := (Spec.applies_iff hf).mp happ
  obtain ⟨hg, hn⟩ := and_e (Cond.before_iff.mp (show (Jvm.Cond.and given_1 narrow_1).before args s = true from hpre))
  obtain ⟨g1, g2⟩ := and_e hg
  obtain ⟨g3, g4⟩ := and_e g2
  obtain ⟨g5, g6⟩ := and_e g4
  obtain ⟨g7, g8⟩ := and_e g6
  obtain ⟨g9, g10⟩ := and_e g8
  obtain ⟨u11, u12⟩ := and_e hn
  obtain ⟨u13, u14⟩ := and_e u12
  obtain ⟨u15, u16⟩ := and_e u14
  obtain ⟨u17, u18⟩ := and_e u16
  obtain ⟨u19, u20⟩ := and_e u18
  obtain ⟨w0, w1, w2, w3, w4, rfl⟩ : ∃ w0 w1 w2 w3 w4 : Value, args = #[w0, w1, w2, w3, w4] := by
    have hs : args.size = 5 := by simpa [Cond.value, given_1] using g1
    obtain ⟨L⟩ := args
    match L, hs with
    | [w0, w1, w2, w3, w4], _ => exact ⟨w0, w1, w2, w3, w4, rfl⟩
  have hw := fun d (hd : d ∈ tables_1) => atoms_spec (ws := Jvm.Cond.code x code maxLocals ret :: tables_1) hat d (List.mem_cons_of_mem _ hd)
  have hfit : Fit s := fun {y c} hc i hi => by
    obtain ⟨ha, rfl⟩ := Array.getElem?_eq_some_iff.mp hc
    have q := List.all_eq_true.mp ((Array.all_eq_true_iff_forall_mem.mp hF) _ (Array.getElem_mem ha)) i (List.mem_range.mpr hi)
    simpa [Array.getElem?_eq_getElem hi] using q
  obtain ⟨hsets, hown0⟩ := atoms_of _ (rest_1_c_eq ▸ (show rest_1_c.before _ s = true from hrest))
  have hr0 := Cond.before_iff.mp hown0
  obtain ⟨i0, ei0⟩ := is_v g3
  obtain rfl : w0 = (.int i0) := Option.some.inj ei0
  obtain ⟨i1, ei1⟩ := is_v g5
  obtain rfl : w1 = (.int i1) := Option.some.inj ei1
  obtain ⟨i2, ei2⟩ := is_v g7
  obtain rfl : w2 = (.int i2) := Option.some.inj ei2
  obtain ⟨i3, ei3⟩ := is_v g9
  obtain rfl : w3 = (.int i3) := Option.some.inj ei3
  obtain ⟨i4, ei4⟩ := is_v g10
  obtain rfl : w4 = (.int i4) := Option.some.inj ei4
  obtain ⟨w_ISLAND, v_ISLAND⟩ := exa_v u11
  have S_ISLAND := Sta.start v_ISLAND (Or.inr ⟨(hw _ (List.mem_of_getElem? (i := 12) rfl)), (hw _ (List.mem_of_getElem? (i := 13) rfl))⟩)
  have X_ISLAND := Exa.start v_ISLAND u11
  have O_ISLAND := own_ord u17 v_ISLAND
  obtain ⟨w_FINISH, v_FINISH⟩ := exa_v u13
  have S_FINISH := Sta.start v_FINISH (Or.inr ⟨(hw _ (List.mem_of_getElem? (i := 12) rfl)), (hw _ (List.mem_of_getElem? (i := 41) rfl))⟩)
  have X_FINISH := Exa.start v_FINISH u13
  have O_FINISH := own_ord u15 v_FINISH
  obtain ⟨w_START, v_START⟩ := exa_v u19
  have S_START := Sta.start v_START (Or.inr ⟨(hw _ (List.mem_of_getElem? (i := 12) rfl)), (hw _ (List.mem_of_getElem? (i := 43) rfl))⟩)
  have X_START := Exa.start v_START u19
  have O_START := own_ord u20 v_START
  have v_high := own_eqi (Cond.before_iff.mp (hsets _ (List.mem_of_getElem? (i := 3) rfl)))
  have S_high := Sta.start v_high (Or.inl (hsets _ (List.mem_of_getElem? (i := 1) rfl)))
  have q_arr := Cond.before_iff.mp (hsets _ (List.mem_of_getElem? (i := 4) rfl))
  obtain ⟨w_cache, v_cache⟩ := arr_v q_arr
  obtain ⟨cA, A_cache⟩ := Arr.start v_cache q_arr
  have S_cache := Sta.start v_cache (Or.inr ⟨(hw _ (List.mem_of_getElem? (i := 49) rfl)), (hsets _ (List.mem_of_getElem? (i := 2) rfl))⟩)
  have hsz := own_len v_cache A_cache (own_eqi (Cond.before_iff.mp (hsets _ (List.mem_of_getElem? (i := 6) rfl)))) (k := 256) (by decide)
  obtain ⟨w_box, L_box, E_box⟩ := own_box (Cond.before_iff.mp (hsets _ (List.mem_of_getElem? (i := 7) rfl))) v_cache A_cache hsz (f0_v22 i0 i2 + 128) (own_ix i0 i2).1 (own_ix i0 i2).2
  obtain ⟨n, o, h1, h2, h3, _, L, rfl, ⟨rfl, N, -⟩, hq⟩ := rm0 l s _ hw tables_1 i0 i1 i2 i3 i4 w_ISLAND w_FINISH w_START w_cache w_box s.heap s.heap.size (Nat.le_refl _) S_ISLAND S_FINISH S_START S_high S_cache L_box E_box (own_ne O_FINISH O_ISLAND (by decide)) (own_ne O_START O_ISLAND (by decide)) p e ha hc hk s m _ below hf ((Spec.applies_iff_loose hf).mp happ).1 ⟨rfl, State.Warmed39.refl s, rfl⟩ trivial
  rw [own_law _ _ _ _ _ _ _ _ (own_ne O_FINISH O_ISLAND (by decide)) (own_ne O_START O_ISLAND (by decide)) (own_ne O_START O_FINISH (by decide))] at *
  refine ⟨n, _, h1, h2, h3, hpost _ _ _ _ _ _ ⟨Cond.after_iff.mpr rfl, Cond.after_iff.mpr (eq_i res_at (Term.int_eval (1)) rfl), trivial⟩ ⟨hq.1, hq.2.1, (hq.2.2.sift fun y hy => Or.inr (N y hy)).mono (by decide) (by decide)⟩⟩
theorem main_1_1 : Claimed_1_1 := comes_1 fun _ _ _ _ _ _ h hF => ⟨h.1, hF⟩
theorem main_1_2 : Claimed_1_2 := comes_1 fun _ _ _ _ _ _ h hF => ⟨h.2.1, hF⟩
end Jvm.Pilot.@@N@@
namespace Jvm.Pilot.@@N@@
open Jvm Jvm.ClassFile Sem Op Lib Jvm.Free Jvm.Stand Jvm.Pilot.@@N@@.Jvm.D
/-! MADE BY PROGRAM (witnessworld.py) out of the Statement's table words and the real class files: 19 classes; the members and pool entries that the words name. The judged class is class 1, her method 3. -/
namespace start1
open Jvm.ClassFile
def u (s : String) : CpInfo := .utf8 (stringToUtf16 s)
/-- a pool by its gaps: so many unusable entries, then the entry; so many at the end -/
def gap : Nat → List CpInfo → List CpInfo
  | 0, r => r
  | n + 1, r => .unusable :: gap n r
def poolList (es : List (Nat × CpInfo)) (last : Nat) : List CpInfo := es.foldr (fun e r => gap e.1 (e.2 :: r)) (gap last [])
def pool (es : List (Nat × CpInfo)) (last : Nat) : Array CpInfo := ⟨poolList es last⟩
def fileOf (pool : Array CpInfo) (this : Nat) (attrs : Array Attribute := #[]) (ms : Array MethodInfo := #[]) (fl : Nat := 33) (sup : Nat := 0) (ifs : Array Nat := #[]) (fds : Array FieldInfo := #[]) : ClassFile where
  minorVersion := 0
  majorVersion := 65
  constantPool := pool
  accessFlags := fl
  thisClass := this
  superClass := sup
  interfaces := ifs
  fields := fds
  methods := ms
  attributes := attrs
def plain (name : String) (sup : Option ClassId) : Class where
  name := name
  kind := .ordinary
  loader := none
  accessFlags := 33
  super := sup
  interfaces := #[]
  cf := none
  fields := #[]
  methods := #[]
  instanceTypes := #[]
  staticTypes := #[]
  resolved := #[]
  callSites := []
  init := .initialized
  statics := none
  mirror := none

def pool0 : Array CpInfo := pool [(5, u "<init>"), (0, u "()V"), (1, .class_ 10), (1, u "java/lang/Object")] 113

def k0c0 : Code := { maxStack := 0, maxLocals := 1, code := object_method_1_code, exceptionTable := #[], attributes := #[] }
def k0m0 : Method := { name := "<init>", desc := "()V", sig := { parameters := [], returnType := none }, accessFlags := 1, code := some k0c0 }
/-- java/lang/Object -/
def k0 : Class := { plain "java/lang/Object" none with
  accessFlags := 33
  interfaces := #[]
  cf := some (fileOf pool0 8 #[] #[{ accessFlags := 1, nameIndex := 5, descriptorIndex := 6, attributes := #[] }] 33 0 #[] #[])
  fields := #[]
  methods := #[k0m0]
  instanceTypes := #[]
  staticTypes := #[]
  resolved := Array.replicate 124 none
  statics := none }

def pool1 : Array CpInfo := pool [(2, .class_ 4), (1, u "java/lang/Object"), (0, u "<init>"), (0, u "()V"), (0, .integer 2147483647), (0, .class_ 9), (0, u "com/example/silent_isles/silentisles/voyage/Card"), (0, .fieldref 11 12), (0, .class_ 13), (0, .nameAndType 14 15), (0, u "com/example/silent_isles/silentisles/voyage/Card$Kind"), (0, u "ISLAND"), (0, u "Lcom/example/silent_isles/silentisles/voyage/Card$Kind;"), (0, .methodref 8 17), (0, .nameAndType 5 18), (0, u "(Lcom/example/silent_isles/silentisles/voyage/Card$Kind;I)V"), (0, .fieldref 11 20), (0, .nameAndType 21 15), (0, u "FINISH"), (0, .fieldref 11 23), (0, .nameAndType 24 15), (0, u "START"), (0, .methodref 26 27), (0, .class_ 28), (0, .nameAndType 29 30), (0, u "com/example/silent_isles/silentisles/voyage/CardEqualsPinLaw"), (0, u "num"), (0, u "(II)I"), (0, .methodref 26 32), (0, .nameAndType 33 34), (0, u "make"), (0, u "(II)Lcom/example/silent_isles/silentisles/voyage/Card;"), (0, .methodref 8 36), (0, .nameAndType 37 38), (0, u "equals"), (0, u "(Ljava/lang/Object;)Z"), (0, .methodref 40 41), (0, .class_ 42), (0, .nameAndType 43 44), (0, u "java/lang/Integer"), (0, u "valueOf"), (0, u "(I)Ljava/lang/Integer;"), (3, u "law"), (0, u "(IIIII)Z")] 4

def k1m0 : Method := { name := "<init>", desc := "()V", sig := { parameters := [], returnType := none }, accessFlags := 1, code := none }
def k1c1 : Code := { maxStack := 2, maxLocals := 2, code := method_2_code, exceptionTable := #[], attributes := #[] }
def k1m1 : Method := { name := "num", desc := "(II)I", sig := { parameters := [.int, .int], returnType := some .int }, accessFlags := 10, code := some k1c1 }
def k1c2 : Code := { maxStack := 4, maxLocals := 2, code := method_3_code, exceptionTable := #[], attributes := #[] }
def k1m2 : Method := { name := "make", desc := "(II)Lcom/example/silent_isles/silentisles/voyage/Card;", sig := { parameters := [.int, .int], returnType := some (.object "com/example/silent_isles/silentisles/voyage/Card") }, accessFlags := 10, code := some k1c2 }
def k1c3 : Code := { maxStack := 3, maxLocals := 13, code := code, exceptionTable := #[], attributes := #[] }
def k1m3 : Method := { name := "law", desc := "(IIIII)Z", sig := { parameters := [.int, .int, .int, .int, .int], returnType := some .boolean }, accessFlags := 9, code := some k1c3 }
/-- com/example/silent_isles/silentisles/voyage/CardEqualsPinLaw -/
def k1 : Class := { plain "com/example/silent_isles/silentisles/voyage/CardEqualsPinLaw" (some 0) with
  accessFlags := 49
  interfaces := #[]
  cf := some (fileOf pool1 26 #[] #[{ accessFlags := 1, nameIndex := 5, descriptorIndex := 6, attributes := #[] }, { accessFlags := 10, nameIndex := 29, descriptorIndex := 30, attributes := #[] }, { accessFlags := 10, nameIndex := 33, descriptorIndex := 34, attributes := #[] }, { accessFlags := 9, nameIndex := 48, descriptorIndex := 49, attributes := #[] }] 49 2 #[] #[])
  fields := #[]
  methods := #[k1m0, k1m1, k1m2, k1m3]
  instanceTypes := #[]
  staticTypes := #[]
  resolved := Array.replicate 54 none
  statics := none }

def pool2 : Array CpInfo := pool [(1, .methodref 2 3), (0, .class_ 4), (0, .nameAndType 5 6), (0, u "java/lang/Object"), (0, u "<init>"), (0, u "()V"), (0, .class_ 8), (0, u "java/lang/Record")] 13

def k2c0 : Code := { maxStack := 1, maxLocals := 1, code := jdk_30_method_1_code, exceptionTable := #[], attributes := #[] }
def k2m0 : Method := { name := "<init>", desc := "()V", sig := { parameters := [], returnType := none }, accessFlags := 4, code := some k2c0 }
/-- java/lang/Record -/
def k2 : Class := { plain "java/lang/Record" (some 0) with
  accessFlags := 1057
  interfaces := #[]
  cf := some (fileOf pool2 7 #[] #[{ accessFlags := 4, nameIndex := 5, descriptorIndex := 6, attributes := #[] }] 1057 2 #[] #[])
  fields := #[]
  methods := #[k2m0]
  instanceTypes := #[]
  staticTypes := #[]
  resolved := Array.replicate 22 none
  statics := none }

def pool3 : Array CpInfo := pool [(1, .class_ 2), (0, u "java/lang/Comparable"), (0, .class_ 4), (0, u "java/lang/Object")] 7

/-- java/lang/Comparable -/
def k3 : Class := { plain "java/lang/Comparable" (some 0) with
  accessFlags := 1537
  interfaces := #[]
  cf := some (fileOf pool3 1 #[] #[] 1537 3 #[] #[])
  fields := #[]
  methods := #[]
  instanceTypes := #[]
  staticTypes := #[]
  resolved := Array.replicate 12 none
  statics := none }

def pool4 : Array CpInfo := pool [(1, .class_ 2), (0, u "com/example/silent_isles/silentisles/voyage/Card"), (0, .methodref 4 5), (0, .class_ 6), (0, .nameAndType 7 8), (0, u "java/lang/Record"), (0, u "<init>"), (0, u "()V"), (7, .fieldref 17 18), (0, .class_ 19), (0, .nameAndType 20 21), (0, u "com/example/silent_isles/silentisles/voyage/Card$Kind"), (0, u "ISLAND"), (0, u "Lcom/example/silent_isles/silentisles/voyage/Card$Kind;"), (0, .methodref 1 23), (0, .nameAndType 24 25), (0, u "requireIsland"), (0, u "(I)V"), (10, .fieldref 1 37), (0, .nameAndType 38 21), (0, u "kind"), (0, .fieldref 1 40), (0, .nameAndType 41 42), (0, u "number"), (0, u "I"), (2, u "BY_CODE"), (0, u "[Lcom/example/silent_isles/silentisles/voyage/Card;"), (0, .class_ 48), (0, u "com/example/silent_isles/silentisles/voyage/Card$CodeList"), (60, u "(Lcom/example/silent_isles/silentisles/voyage/Card$Kind;I)V"), (2, u "FINISH"), (0, u "Lcom/example/silent_isles/silentisles/voyage/Card;"), (2, u "START"), (15, .class_ 133), (0, u "java/lang/Comparable"), (0, u "ISLANDS"), (2, u "FINISH_CODE"), (1, u "START_CODE"), (22, u "equals"), (0, u "(Ljava/lang/Object;)Z")] 40

def k4c0 : Code := { maxStack := 3, maxLocals := 3, code := prog_14_method_1_code, exceptionTable := #[], attributes := #[] }
def k4m0 : Method := { name := "<init>", desc := "(Lcom/example/silent_isles/silentisles/voyage/Card$Kind;I)V", sig := { parameters := [(.object "com/example/silent_isles/silentisles/voyage/Card$Kind"), .int], returnType := none }, accessFlags := 1, code := some k4c0 }
def k4c1 : Code := { maxStack := 2, maxLocals := 3, code := prog_14_method_13_code, exceptionTable := #[], attributes := #[] }
def k4m1 : Method := { name := "equals", desc := "(Ljava/lang/Object;)Z", sig := { parameters := [(.object "java/lang/Object")], returnType := some .boolean }, accessFlags := 1, code := some k4c1 }
def k4c2 : Code := { maxStack := 3, maxLocals := 1, code := prog_14_method_15_code, exceptionTable := #[], attributes := #[] }
def k4m2 : Method := { name := "requireIsland", desc := "(I)V", sig := { parameters := [.int], returnType := none }, accessFlags := 8, code := some k4c2 }
/-- com/example/silent_isles/silentisles/voyage/Card -/
def k4 : Class := { plain "com/example/silent_isles/silentisles/voyage/Card" (some 2) with
  accessFlags := 49
  interfaces := #[3]
  cf := some (fileOf pool4 1 #[.nestMembers #[47, 17]] #[{ accessFlags := 1, nameIndex := 7, descriptorIndex := 109, attributes := #[] }, { accessFlags := 1, nameIndex := 162, descriptorIndex := 163, attributes := #[] }, { accessFlags := 8, nameIndex := 24, descriptorIndex := 25, attributes := #[] }] 49 4 #[132] #[{ accessFlags := 18, nameIndex := 38, descriptorIndex := 21, attributes := #[] }, { accessFlags := 18, nameIndex := 41, descriptorIndex := 42, attributes := #[] }, { accessFlags := 25, nameIndex := 134, descriptorIndex := 42, attributes := #[] }, { accessFlags := 25, nameIndex := 112, descriptorIndex := 113, attributes := #[] }, { accessFlags := 25, nameIndex := 116, descriptorIndex := 113, attributes := #[] }, { accessFlags := 24, nameIndex := 137, descriptorIndex := 42, attributes := #[] }, { accessFlags := 24, nameIndex := 139, descriptorIndex := 42, attributes := #[] }, { accessFlags := 26, nameIndex := 45, descriptorIndex := 46, attributes := #[] }])
  fields := #[{ name := "kind", type := (.object "com/example/silent_isles/silentisles/voyage/Card$Kind"), accessFlags := 18, slot := 0, constantValue := 0 }, { name := "number", type := .int, accessFlags := 18, slot := 1, constantValue := 0 }, { name := "ISLANDS", type := .int, accessFlags := 25, slot := 0, constantValue := 0 }, { name := "FINISH", type := (.object "com/example/silent_isles/silentisles/voyage/Card"), accessFlags := 25, slot := 1, constantValue := 0 }, { name := "START", type := (.object "com/example/silent_isles/silentisles/voyage/Card"), accessFlags := 25, slot := 2, constantValue := 0 }, { name := "FINISH_CODE", type := .int, accessFlags := 24, slot := 3, constantValue := 0 }, { name := "START_CODE", type := .int, accessFlags := 24, slot := 4, constantValue := 0 }, { name := "BY_CODE", type := (.array (.object "com/example/silent_isles/silentisles/voyage/Card")), accessFlags := 26, slot := 5, constantValue := 0 }]
  methods := #[k4m0, k4m1, k4m2]
  instanceTypes := #[(.object "com/example/silent_isles/silentisles/voyage/Card$Kind"), .int]
  staticTypes := #[.int, (.object "com/example/silent_isles/silentisles/voyage/Card"), (.object "com/example/silent_isles/silentisles/voyage/Card"), .int, .int, (.array (.object "com/example/silent_isles/silentisles/voyage/Card"))]
  resolved := Array.replicate 204 none
  statics := none }

def pool5 : Array CpInfo := pool [(1, .class_ 2), (0, u "java/lang/constant/Constable"), (0, .class_ 4), (0, u "java/lang/Object")] 6

/-- java/lang/constant/Constable -/
def k5 : Class := { plain "java/lang/constant/Constable" (some 0) with
  accessFlags := 1537
  interfaces := #[]
  cf := some (fileOf pool5 1 #[] #[] 1537 3 #[] #[])
  fields := #[]
  methods := #[]
  instanceTypes := #[]
  staticTypes := #[]
  resolved := Array.replicate 11 none
  statics := none }

def pool6 : Array CpInfo := pool [(1, .class_ 2), (0, u "java/io/Serializable"), (0, .class_ 4), (0, u "java/lang/Object")] 2

/-- java/io/Serializable -/
def k6 : Class := { plain "java/io/Serializable" (some 0) with
  accessFlags := 1537
  interfaces := #[]
  cf := some (fileOf pool6 1 #[] #[] 1537 3 #[] #[])
  fields := #[]
  methods := #[]
  instanceTypes := #[]
  staticTypes := #[]
  resolved := Array.replicate 7 none
  statics := none }

def pool7 : Array CpInfo := pool [(2, .class_ 4), (1, u "java/lang/Enum"), (0, u "name"), (0, u "Ljava/lang/String;"), (2, u "ordinal"), (0, u "I"), (1, .class_ 14), (1, u "java/lang/Object"), (4, u "hash"), (86, .class_ 108), (1, u "java/lang/Enum$EnumDesc"), (2, .class_ 112), (0, u "java/lang/constant/Constable"), (0, .class_ 114), (0, u "java/lang/Comparable"), (0, .class_ 116), (0, u "java/io/Serializable")] 87

/-- java/lang/Enum -/
def k7 : Class := { plain "java/lang/Enum" (some 0) with
  accessFlags := 1057
  interfaces := #[5, 3, 6]
  cf := some (fileOf pool7 2 #[.nestMembers #[106]] #[] 1057 12 #[111, 113, 115] #[{ accessFlags := 18, nameIndex := 5, descriptorIndex := 6, attributes := #[] }, { accessFlags := 18, nameIndex := 9, descriptorIndex := 10, attributes := #[] }, { accessFlags := 2, nameIndex := 19, descriptorIndex := 10, attributes := #[] }])
  fields := #[{ name := "name", type := (.object "java/lang/String"), accessFlags := 18, slot := 0, constantValue := 0 }, { name := "ordinal", type := .int, accessFlags := 18, slot := 1, constantValue := 0 }, { name := "hash", type := .int, accessFlags := 2, slot := 2, constantValue := 0 }]
  methods := #[]
  instanceTypes := #[(.object "java/lang/String"), .int, .int]
  staticTypes := #[]
  resolved := Array.replicate 204 none
  statics := none }

def pool8 : Array CpInfo := pool [(1, .class_ 2), (0, u "com/example/silent_isles/silentisles/voyage/Card$Kind"), (2, u "ISLAND"), (0, u "Lcom/example/silent_isles/silentisles/voyage/Card$Kind;"), (2, u "FINISH"), (2, u "START"), (2, u "$VALUES"), (0, u "[Lcom/example/silent_isles/silentisles/voyage/Card$Kind;"), (6, .class_ 25), (1, u "java/lang/Enum"), (26, .class_ 53), (0, u "com/example/silent_isles/silentisles/voyage/Card")] 2

/-- com/example/silent_isles/silentisles/voyage/Card$Kind -/
def k8 : Class := { plain "com/example/silent_isles/silentisles/voyage/Card$Kind" (some 7) with
  accessFlags := 16433
  interfaces := #[]
  cf := some (fileOf pool8 1 #[.nestHost 52] #[] 16433 23 #[] #[{ accessFlags := 16409, nameIndex := 5, descriptorIndex := 6, attributes := #[] }, { accessFlags := 16409, nameIndex := 9, descriptorIndex := 6, attributes := #[] }, { accessFlags := 16409, nameIndex := 12, descriptorIndex := 6, attributes := #[] }, { accessFlags := 4122, nameIndex := 15, descriptorIndex := 16, attributes := #[] }])
  fields := #[{ name := "ISLAND", type := (.object "com/example/silent_isles/silentisles/voyage/Card$Kind"), accessFlags := 16409, slot := 0, constantValue := 0 }, { name := "FINISH", type := (.object "com/example/silent_isles/silentisles/voyage/Card$Kind"), accessFlags := 16409, slot := 1, constantValue := 0 }, { name := "START", type := (.object "com/example/silent_isles/silentisles/voyage/Card$Kind"), accessFlags := 16409, slot := 2, constantValue := 0 }, { name := "$VALUES", type := (.array (.object "com/example/silent_isles/silentisles/voyage/Card$Kind")), accessFlags := 4122, slot := 3, constantValue := 0 }]
  methods := #[]
  instanceTypes := #[(.object "java/lang/String"), .int, .int]
  staticTypes := #[(.object "com/example/silent_isles/silentisles/voyage/Card$Kind"), (.object "com/example/silent_isles/silentisles/voyage/Card$Kind"), (.object "com/example/silent_isles/silentisles/voyage/Card$Kind"), (.array (.object "com/example/silent_isles/silentisles/voyage/Card$Kind"))]
  resolved := Array.replicate 56 none
  statics := some 0 }

def pool9 : Array CpInfo := pool [(2, .class_ 4), (1, u "java/lang/Object"), (0, u "<init>"), (0, u "()V"), (1, .class_ 10), (1, u "java/lang/Number"), (2, .class_ 14), (0, u "java/io/Serializable"), (0, u "serialVersionUID"), (0, u "J")] 20

def k9m0 : Method := { name := "<init>", desc := "()V", sig := { parameters := [], returnType := none }, accessFlags := 1, code := none }
/-- java/lang/Number -/
def k9 : Class := { plain "java/lang/Number" (some 0) with
  accessFlags := 1057
  interfaces := #[6]
  cf := some (fileOf pool9 8 #[] #[{ accessFlags := 1, nameIndex := 5, descriptorIndex := 6, attributes := #[] }] 1057 2 #[13] #[{ accessFlags := 26, nameIndex := 15, descriptorIndex := 16, attributes := #[] }])
  fields := #[{ name := "serialVersionUID", type := .long, accessFlags := 26, slot := 0, constantValue := 0 }]
  methods := #[k9m0]
  instanceTypes := #[]
  staticTypes := #[.long]
  resolved := Array.replicate 37 none
  statics := none }

def pool10 : Array CpInfo := pool [(1, .class_ 2), (0, u "java/lang/constant/ConstantDesc"), (0, .class_ 4), (0, u "java/lang/Object")] 32

/-- java/lang/constant/ConstantDesc -/
def k10 : Class := { plain "java/lang/constant/ConstantDesc" (some 0) with
  accessFlags := 1537
  interfaces := #[]
  cf := some (fileOf pool10 1 #[] #[] 1537 3 #[] #[])
  fields := #[]
  methods := #[]
  instanceTypes := #[]
  staticTypes := #[]
  resolved := Array.replicate 37 none
  statics := none }

def pool11 : Array CpInfo := pool [(1, .class_ 2), (0, u "java/lang/Integer"), (16, u "digits"), (0, u "[C"), (64, u "DigitOnes"), (0, u "[B"), (2, u "DigitTens"), (97, u "valueOf"), (0, u "(I)Ljava/lang/Integer;"), (0, .class_ 190), (0, u "java/lang/Integer$IntegerCache"), (0, .fieldref 189 192), (0, .nameAndType 193 194), (0, u "high"), (0, u "I"), (0, .fieldref 189 196), (0, .nameAndType 197 198), (0, u "cache"), (0, u "[Ljava/lang/Integer;"), (4, .class_ 204), (0, u "java/lang/Number"), (2, u "value"), (94, u "TYPE"), (0, u "Ljava/lang/Class;"), (0, .class_ 305), (0, u "java/lang/Comparable"), (0, .class_ 307), (0, u "java/lang/constant/Constable"), (0, .class_ 309), (0, u "java/lang/constant/ConstantDesc"), (0, u "MIN_VALUE"), (1, u "MAX_VALUE"), (3, u "SIZE"), (1, u "BYTES"), (1, u "serialVersionUID"), (0, u "J")] 131

def k11c0 : Code := { maxStack := 3, maxLocals := 1, code := jdk_33_method_22_code, exceptionTable := #[], attributes := #[] }
def k11m0 : Method := { name := "valueOf", desc := "(I)Ljava/lang/Integer;", sig := { parameters := [.int], returnType := some (.object "java/lang/Integer") }, accessFlags := 9, code := some k11c0 }
/-- java/lang/Integer -/
def k11 : Class := { plain "java/lang/Integer" (some 9) with
  accessFlags := 49
  interfaces := #[3, 5, 10]
  cf := some (fileOf pool11 1 #[.nestMembers #[189]] #[{ accessFlags := 9, nameIndex := 187, descriptorIndex := 188, attributes := #[] }] 49 203 #[304, 306, 308] #[{ accessFlags := 25, nameIndex := 310, descriptorIndex := 194, attributes := #[] }, { accessFlags := 25, nameIndex := 312, descriptorIndex := 194, attributes := #[] }, { accessFlags := 25, nameIndex := 302, descriptorIndex := 303, attributes := #[] }, { accessFlags := 24, nameIndex := 19, descriptorIndex := 20, attributes := #[] }, { accessFlags := 24, nameIndex := 89, descriptorIndex := 86, attributes := #[] }, { accessFlags := 24, nameIndex := 85, descriptorIndex := 86, attributes := #[] }, { accessFlags := 18, nameIndex := 207, descriptorIndex := 194, attributes := #[] }, { accessFlags := 25, nameIndex := 316, descriptorIndex := 194, attributes := #[] }, { accessFlags := 25, nameIndex := 318, descriptorIndex := 194, attributes := #[] }, { accessFlags := 26, nameIndex := 320, descriptorIndex := 321, attributes := #[] }])
  fields := #[{ name := "MIN_VALUE", type := .int, accessFlags := 25, slot := 0, constantValue := 0 }, { name := "MAX_VALUE", type := .int, accessFlags := 25, slot := 1, constantValue := 0 }, { name := "TYPE", type := (.object "java/lang/Class"), accessFlags := 25, slot := 2, constantValue := 0 }, { name := "digits", type := (.array .char), accessFlags := 24, slot := 3, constantValue := 0 }, { name := "DigitTens", type := (.array .byte), accessFlags := 24, slot := 4, constantValue := 0 }, { name := "DigitOnes", type := (.array .byte), accessFlags := 24, slot := 5, constantValue := 0 }, { name := "value", type := .int, accessFlags := 18, slot := 0, constantValue := 0 }, { name := "SIZE", type := .int, accessFlags := 25, slot := 6, constantValue := 0 }, { name := "BYTES", type := .int, accessFlags := 25, slot := 7, constantValue := 0 }, { name := "serialVersionUID", type := .long, accessFlags := 26, slot := 8, constantValue := 0 }]
  methods := #[k11m0]
  instanceTypes := #[.int]
  staticTypes := #[.int, .int, (.object "java/lang/Class"), (.array .char), (.array .byte), (.array .byte), .int, .int, .long]
  resolved := Array.replicate 453 none
  statics := none }

def pool12 : Array CpInfo := pool [(2, .class_ 4), (1, u "java/lang/Object"), (0, u "<init>"), (0, u "()V"), (0, .class_ 8), (0, u "java/lang/Integer"), (7, .class_ 18), (1, u "java/lang/Integer$IntegerCache"), (0, u "$assertionsDisabled"), (0, u "Z"), (26, u "high"), (0, u "I"), (8, u "archivedCache"), (0, u "[Ljava/lang/Integer;"), (12, u "cache"), (0, u "low")] 27

def k12m0 : Method := { name := "<init>", desc := "()V", sig := { parameters := [], returnType := none }, accessFlags := 2, code := none }
/-- java/lang/Integer$IntegerCache -/
def k12 : Class := { plain "java/lang/Integer$IntegerCache" (some 0) with
  accessFlags := 48
  interfaces := #[]
  cf := some (fileOf pool12 16 #[.nestHost 7] #[{ accessFlags := 2, nameIndex := 5, descriptorIndex := 6, attributes := #[] }] 48 2 #[] #[{ accessFlags := 24, nameIndex := 72, descriptorIndex := 48, attributes := #[] }, { accessFlags := 24, nameIndex := 47, descriptorIndex := 48, attributes := #[] }, { accessFlags := 24, nameIndex := 71, descriptorIndex := 58, attributes := #[] }, { accessFlags := 8, nameIndex := 57, descriptorIndex := 58, attributes := #[] }, { accessFlags := 4120, nameIndex := 19, descriptorIndex := 20, attributes := #[] }])
  fields := #[{ name := "low", type := .int, accessFlags := 24, slot := 0, constantValue := 0 }, { name := "high", type := .int, accessFlags := 24, slot := 1, constantValue := 0 }, { name := "cache", type := (.array (.object "java/lang/Integer")), accessFlags := 24, slot := 2, constantValue := 0 }, { name := "archivedCache", type := (.array (.object "java/lang/Integer")), accessFlags := 8, slot := 3, constantValue := 0 }, { name := "$assertionsDisabled", type := .boolean, accessFlags := 4120, slot := 4, constantValue := 0 }]
  methods := #[k12m0]
  instanceTypes := #[]
  staticTypes := #[.int, .int, (.array (.object "java/lang/Integer")), (.array (.object "java/lang/Integer")), .boolean]
  resolved := Array.replicate 100 none
  statics := some 1 }

def pool13 : Array CpInfo := pool [(1, u "java/lang/Cloneable"), (0, .class_ 1), (0, u "java/lang/Object"), (0, .class_ 3)] 3

/-- java/lang/Cloneable -/
def k13 : Class := { plain "java/lang/Cloneable" (some 0) with
  accessFlags := 1537
  interfaces := #[]
  cf := some (fileOf pool13 2 #[] #[] 1537 4 #[] #[])
  fields := #[]
  methods := #[]
  instanceTypes := #[]
  staticTypes := #[]
  resolved := Array.replicate 8 none
  statics := none }

/-- the primitive byte -/
def k14 : Class := { plain "byte" none with kind := .primitive 'B', accessFlags := 0x411 }
/-- [B -/
def k15 : Class := { plain "[B" (some 0) with kind := .array 14 .byte, interfaces := #[13, 6], accessFlags := 1041 }

/-- the primitive int -/
def k16 : Class := { plain "int" none with kind := .primitive 'I', accessFlags := 0x411 }
/-- [I -/
def k17 : Class := { plain "[I" (some 0) with kind := .array 16 .int, interfaces := #[13, 6], accessFlags := 1041 }

/-- [Ljava/lang/Integer; -/
def k18 : Class := { plain "[Ljava/lang/Integer;" (some 0) with kind := .array 11 (.object "java/lang/Integer"), interfaces := #[13, 6], accessFlags := 1041 }

def heap : Heap := #[{ cls := 8, slots := #[.ref 259, .ref 260, .ref 261, .null], vm := .statics 8 },
  { cls := 12, slots := #[.int 0, .int 127, .ref 2, .null, .int 0], vm := .statics 12 },
  { cls := 18, slots := #[.ref 3, .ref 4, .ref 5, .ref 6, .ref 7, .ref 8, .ref 9, .ref 10, .ref 11, .ref 12, .ref 13, .ref 14, .ref 15, .ref 16, .ref 17, .ref 18, .ref 19, .ref 20, .ref 21, .ref 22, .ref 23, .ref 24, .ref 25, .ref 26, .ref 27, .ref 28, .ref 29, .ref 30, .ref 31, .ref 32, .ref 33, .ref 34, .ref 35, .ref 36, .ref 37, .ref 38, .ref 39, .ref 40, .ref 41, .ref 42, .ref 43, .ref 44, .ref 45, .ref 46, .ref 47, .ref 48, .ref 49, .ref 50, .ref 51, .ref 52, .ref 53, .ref 54, .ref 55, .ref 56, .ref 57, .ref 58, .ref 59, .ref 60, .ref 61, .ref 62, .ref 63, .ref 64, .ref 65, .ref 66, .ref 67, .ref 68, .ref 69, .ref 70, .ref 71, .ref 72, .ref 73, .ref 74, .ref 75, .ref 76, .ref 77, .ref 78, .ref 79, .ref 80, .ref 81, .ref 82, .ref 83, .ref 84, .ref 85, .ref 86, .ref 87, .ref 88, .ref 89, .ref 90, .ref 91, .ref 92, .ref 93, .ref 94, .ref 95, .ref 96, .ref 97, .ref 98, .ref 99, .ref 100, .ref 101, .ref 102, .ref 103, .ref 104, .ref 105, .ref 106, .ref 107, .ref 108, .ref 109, .ref 110, .ref 111, .ref 112, .ref 113, .ref 114, .ref 115, .ref 116, .ref 117, .ref 118, .ref 119, .ref 120, .ref 121, .ref 122, .ref 123, .ref 124, .ref 125, .ref 126, .ref 127, .ref 128, .ref 129, .ref 130, .ref 131, .ref 132, .ref 133, .ref 134, .ref 135, .ref 136, .ref 137, .ref 138, .ref 139, .ref 140, .ref 141, .ref 142, .ref 143, .ref 144, .ref 145, .ref 146, .ref 147, .ref 148, .ref 149, .ref 150, .ref 151, .ref 152, .ref 153, .ref 154, .ref 155, .ref 156, .ref 157, .ref 158, .ref 159, .ref 160, .ref 161, .ref 162, .ref 163, .ref 164, .ref 165, .ref 166, .ref 167, .ref 168, .ref 169, .ref 170, .ref 171, .ref 172, .ref 173, .ref 174, .ref 175, .ref 176, .ref 177, .ref 178, .ref 179, .ref 180, .ref 181, .ref 182, .ref 183, .ref 184, .ref 185, .ref 186, .ref 187, .ref 188, .ref 189, .ref 190, .ref 191, .ref 192, .ref 193, .ref 194, .ref 195, .ref 196, .ref 197, .ref 198, .ref 199, .ref 200, .ref 201, .ref 202, .ref 203, .ref 204, .ref 205, .ref 206, .ref 207, .ref 208, .ref 209, .ref 210, .ref 211, .ref 212, .ref 213, .ref 214, .ref 215, .ref 216, .ref 217, .ref 218, .ref 219, .ref 220, .ref 221, .ref 222, .ref 223, .ref 224, .ref 225, .ref 226, .ref 227, .ref 228, .ref 229, .ref 230, .ref 231, .ref 232, .ref 233, .ref 234, .ref 235, .ref 236, .ref 237, .ref 238, .ref 239, .ref 240, .ref 241, .ref 242, .ref 243, .ref 244, .ref 245, .ref 246, .ref 247, .ref 248, .ref 249, .ref 250, .ref 251, .ref 252, .ref 253, .ref 254, .ref 255, .ref 256, .ref 257, .ref 258], vm := .none },
  { cls := 11, slots := #[.int (-128)], vm := .none },
  { cls := 11, slots := #[.int (-127)], vm := .none },
  { cls := 11, slots := #[.int (-126)], vm := .none },
  { cls := 11, slots := #[.int (-125)], vm := .none },
  { cls := 11, slots := #[.int (-124)], vm := .none },
  { cls := 11, slots := #[.int (-123)], vm := .none },
  { cls := 11, slots := #[.int (-122)], vm := .none },
  { cls := 11, slots := #[.int (-121)], vm := .none },
  { cls := 11, slots := #[.int (-120)], vm := .none },
  { cls := 11, slots := #[.int (-119)], vm := .none },
  { cls := 11, slots := #[.int (-118)], vm := .none },
  { cls := 11, slots := #[.int (-117)], vm := .none },
  { cls := 11, slots := #[.int (-116)], vm := .none },
  { cls := 11, slots := #[.int (-115)], vm := .none },
  { cls := 11, slots := #[.int (-114)], vm := .none },
  { cls := 11, slots := #[.int (-113)], vm := .none },
  { cls := 11, slots := #[.int (-112)], vm := .none },
  { cls := 11, slots := #[.int (-111)], vm := .none },
  { cls := 11, slots := #[.int (-110)], vm := .none },
  { cls := 11, slots := #[.int (-109)], vm := .none },
  { cls := 11, slots := #[.int (-108)], vm := .none },
  { cls := 11, slots := #[.int (-107)], vm := .none },
  { cls := 11, slots := #[.int (-106)], vm := .none },
  { cls := 11, slots := #[.int (-105)], vm := .none },
  { cls := 11, slots := #[.int (-104)], vm := .none },
  { cls := 11, slots := #[.int (-103)], vm := .none },
  { cls := 11, slots := #[.int (-102)], vm := .none },
  { cls := 11, slots := #[.int (-101)], vm := .none },
  { cls := 11, slots := #[.int (-100)], vm := .none },
  { cls := 11, slots := #[.int (-99)], vm := .none },
  { cls := 11, slots := #[.int (-98)], vm := .none },
  { cls := 11, slots := #[.int (-97)], vm := .none },
  { cls := 11, slots := #[.int (-96)], vm := .none },
  { cls := 11, slots := #[.int (-95)], vm := .none },
  { cls := 11, slots := #[.int (-94)], vm := .none },
  { cls := 11, slots := #[.int (-93)], vm := .none },
  { cls := 11, slots := #[.int (-92)], vm := .none },
  { cls := 11, slots := #[.int (-91)], vm := .none },
  { cls := 11, slots := #[.int (-90)], vm := .none },
  { cls := 11, slots := #[.int (-89)], vm := .none },
  { cls := 11, slots := #[.int (-88)], vm := .none },
  { cls := 11, slots := #[.int (-87)], vm := .none },
  { cls := 11, slots := #[.int (-86)], vm := .none },
  { cls := 11, slots := #[.int (-85)], vm := .none },
  { cls := 11, slots := #[.int (-84)], vm := .none },
  { cls := 11, slots := #[.int (-83)], vm := .none },
  { cls := 11, slots := #[.int (-82)], vm := .none },
  { cls := 11, slots := #[.int (-81)], vm := .none },
  { cls := 11, slots := #[.int (-80)], vm := .none },
  { cls := 11, slots := #[.int (-79)], vm := .none },
  { cls := 11, slots := #[.int (-78)], vm := .none },
  { cls := 11, slots := #[.int (-77)], vm := .none },
  { cls := 11, slots := #[.int (-76)], vm := .none },
  { cls := 11, slots := #[.int (-75)], vm := .none },
  { cls := 11, slots := #[.int (-74)], vm := .none },
  { cls := 11, slots := #[.int (-73)], vm := .none },
  { cls := 11, slots := #[.int (-72)], vm := .none },
  { cls := 11, slots := #[.int (-71)], vm := .none },
  { cls := 11, slots := #[.int (-70)], vm := .none },
  { cls := 11, slots := #[.int (-69)], vm := .none },
  { cls := 11, slots := #[.int (-68)], vm := .none },
  { cls := 11, slots := #[.int (-67)], vm := .none },
  { cls := 11, slots := #[.int (-66)], vm := .none },
  { cls := 11, slots := #[.int (-65)], vm := .none },
  { cls := 11, slots := #[.int (-64)], vm := .none },
  { cls := 11, slots := #[.int (-63)], vm := .none },
  { cls := 11, slots := #[.int (-62)], vm := .none },
  { cls := 11, slots := #[.int (-61)], vm := .none },
  { cls := 11, slots := #[.int (-60)], vm := .none },
  { cls := 11, slots := #[.int (-59)], vm := .none },
  { cls := 11, slots := #[.int (-58)], vm := .none },
  { cls := 11, slots := #[.int (-57)], vm := .none },
  { cls := 11, slots := #[.int (-56)], vm := .none },
  { cls := 11, slots := #[.int (-55)], vm := .none },
  { cls := 11, slots := #[.int (-54)], vm := .none },
  { cls := 11, slots := #[.int (-53)], vm := .none },
  { cls := 11, slots := #[.int (-52)], vm := .none },
  { cls := 11, slots := #[.int (-51)], vm := .none },
  { cls := 11, slots := #[.int (-50)], vm := .none },
  { cls := 11, slots := #[.int (-49)], vm := .none },
  { cls := 11, slots := #[.int (-48)], vm := .none },
  { cls := 11, slots := #[.int (-47)], vm := .none },
  { cls := 11, slots := #[.int (-46)], vm := .none },
  { cls := 11, slots := #[.int (-45)], vm := .none },
  { cls := 11, slots := #[.int (-44)], vm := .none },
  { cls := 11, slots := #[.int (-43)], vm := .none },
  { cls := 11, slots := #[.int (-42)], vm := .none },
  { cls := 11, slots := #[.int (-41)], vm := .none },
  { cls := 11, slots := #[.int (-40)], vm := .none },
  { cls := 11, slots := #[.int (-39)], vm := .none },
  { cls := 11, slots := #[.int (-38)], vm := .none },
  { cls := 11, slots := #[.int (-37)], vm := .none },
  { cls := 11, slots := #[.int (-36)], vm := .none },
  { cls := 11, slots := #[.int (-35)], vm := .none },
  { cls := 11, slots := #[.int (-34)], vm := .none },
  { cls := 11, slots := #[.int (-33)], vm := .none },
  { cls := 11, slots := #[.int (-32)], vm := .none },
  { cls := 11, slots := #[.int (-31)], vm := .none },
  { cls := 11, slots := #[.int (-30)], vm := .none },
  { cls := 11, slots := #[.int (-29)], vm := .none },
  { cls := 11, slots := #[.int (-28)], vm := .none },
  { cls := 11, slots := #[.int (-27)], vm := .none },
  { cls := 11, slots := #[.int (-26)], vm := .none },
  { cls := 11, slots := #[.int (-25)], vm := .none },
  { cls := 11, slots := #[.int (-24)], vm := .none },
  { cls := 11, slots := #[.int (-23)], vm := .none },
  { cls := 11, slots := #[.int (-22)], vm := .none },
  { cls := 11, slots := #[.int (-21)], vm := .none },
  { cls := 11, slots := #[.int (-20)], vm := .none },
  { cls := 11, slots := #[.int (-19)], vm := .none },
  { cls := 11, slots := #[.int (-18)], vm := .none },
  { cls := 11, slots := #[.int (-17)], vm := .none },
  { cls := 11, slots := #[.int (-16)], vm := .none },
  { cls := 11, slots := #[.int (-15)], vm := .none },
  { cls := 11, slots := #[.int (-14)], vm := .none },
  { cls := 11, slots := #[.int (-13)], vm := .none },
  { cls := 11, slots := #[.int (-12)], vm := .none },
  { cls := 11, slots := #[.int (-11)], vm := .none },
  { cls := 11, slots := #[.int (-10)], vm := .none },
  { cls := 11, slots := #[.int (-9)], vm := .none },
  { cls := 11, slots := #[.int (-8)], vm := .none },
  { cls := 11, slots := #[.int (-7)], vm := .none },
  { cls := 11, slots := #[.int (-6)], vm := .none },
  { cls := 11, slots := #[.int (-5)], vm := .none },
  { cls := 11, slots := #[.int (-4)], vm := .none },
  { cls := 11, slots := #[.int (-3)], vm := .none },
  { cls := 11, slots := #[.int (-2)], vm := .none },
  { cls := 11, slots := #[.int (-1)], vm := .none },
  { cls := 11, slots := #[.int 0], vm := .none },
  { cls := 11, slots := #[.int 1], vm := .none },
  { cls := 11, slots := #[.int 2], vm := .none },
  { cls := 11, slots := #[.int 3], vm := .none },
  { cls := 11, slots := #[.int 4], vm := .none },
  { cls := 11, slots := #[.int 5], vm := .none },
  { cls := 11, slots := #[.int 6], vm := .none },
  { cls := 11, slots := #[.int 7], vm := .none },
  { cls := 11, slots := #[.int 8], vm := .none },
  { cls := 11, slots := #[.int 9], vm := .none },
  { cls := 11, slots := #[.int 10], vm := .none },
  { cls := 11, slots := #[.int 11], vm := .none },
  { cls := 11, slots := #[.int 12], vm := .none },
  { cls := 11, slots := #[.int 13], vm := .none },
  { cls := 11, slots := #[.int 14], vm := .none },
  { cls := 11, slots := #[.int 15], vm := .none },
  { cls := 11, slots := #[.int 16], vm := .none },
  { cls := 11, slots := #[.int 17], vm := .none },
  { cls := 11, slots := #[.int 18], vm := .none },
  { cls := 11, slots := #[.int 19], vm := .none },
  { cls := 11, slots := #[.int 20], vm := .none },
  { cls := 11, slots := #[.int 21], vm := .none },
  { cls := 11, slots := #[.int 22], vm := .none },
  { cls := 11, slots := #[.int 23], vm := .none },
  { cls := 11, slots := #[.int 24], vm := .none },
  { cls := 11, slots := #[.int 25], vm := .none },
  { cls := 11, slots := #[.int 26], vm := .none },
  { cls := 11, slots := #[.int 27], vm := .none },
  { cls := 11, slots := #[.int 28], vm := .none },
  { cls := 11, slots := #[.int 29], vm := .none },
  { cls := 11, slots := #[.int 30], vm := .none },
  { cls := 11, slots := #[.int 31], vm := .none },
  { cls := 11, slots := #[.int 32], vm := .none },
  { cls := 11, slots := #[.int 33], vm := .none },
  { cls := 11, slots := #[.int 34], vm := .none },
  { cls := 11, slots := #[.int 35], vm := .none },
  { cls := 11, slots := #[.int 36], vm := .none },
  { cls := 11, slots := #[.int 37], vm := .none },
  { cls := 11, slots := #[.int 38], vm := .none },
  { cls := 11, slots := #[.int 39], vm := .none },
  { cls := 11, slots := #[.int 40], vm := .none },
  { cls := 11, slots := #[.int 41], vm := .none },
  { cls := 11, slots := #[.int 42], vm := .none },
  { cls := 11, slots := #[.int 43], vm := .none },
  { cls := 11, slots := #[.int 44], vm := .none },
  { cls := 11, slots := #[.int 45], vm := .none },
  { cls := 11, slots := #[.int 46], vm := .none },
  { cls := 11, slots := #[.int 47], vm := .none },
  { cls := 11, slots := #[.int 48], vm := .none },
  { cls := 11, slots := #[.int 49], vm := .none },
  { cls := 11, slots := #[.int 50], vm := .none },
  { cls := 11, slots := #[.int 51], vm := .none },
  { cls := 11, slots := #[.int 52], vm := .none },
  { cls := 11, slots := #[.int 53], vm := .none },
  { cls := 11, slots := #[.int 54], vm := .none },
  { cls := 11, slots := #[.int 55], vm := .none },
  { cls := 11, slots := #[.int 56], vm := .none },
  { cls := 11, slots := #[.int 57], vm := .none },
  { cls := 11, slots := #[.int 58], vm := .none },
  { cls := 11, slots := #[.int 59], vm := .none },
  { cls := 11, slots := #[.int 60], vm := .none },
  { cls := 11, slots := #[.int 61], vm := .none },
  { cls := 11, slots := #[.int 62], vm := .none },
  { cls := 11, slots := #[.int 63], vm := .none },
  { cls := 11, slots := #[.int 64], vm := .none },
  { cls := 11, slots := #[.int 65], vm := .none },
  { cls := 11, slots := #[.int 66], vm := .none },
  { cls := 11, slots := #[.int 67], vm := .none },
  { cls := 11, slots := #[.int 68], vm := .none },
  { cls := 11, slots := #[.int 69], vm := .none },
  { cls := 11, slots := #[.int 70], vm := .none },
  { cls := 11, slots := #[.int 71], vm := .none },
  { cls := 11, slots := #[.int 72], vm := .none },
  { cls := 11, slots := #[.int 73], vm := .none },
  { cls := 11, slots := #[.int 74], vm := .none },
  { cls := 11, slots := #[.int 75], vm := .none },
  { cls := 11, slots := #[.int 76], vm := .none },
  { cls := 11, slots := #[.int 77], vm := .none },
  { cls := 11, slots := #[.int 78], vm := .none },
  { cls := 11, slots := #[.int 79], vm := .none },
  { cls := 11, slots := #[.int 80], vm := .none },
  { cls := 11, slots := #[.int 81], vm := .none },
  { cls := 11, slots := #[.int 82], vm := .none },
  { cls := 11, slots := #[.int 83], vm := .none },
  { cls := 11, slots := #[.int 84], vm := .none },
  { cls := 11, slots := #[.int 85], vm := .none },
  { cls := 11, slots := #[.int 86], vm := .none },
  { cls := 11, slots := #[.int 87], vm := .none },
  { cls := 11, slots := #[.int 88], vm := .none },
  { cls := 11, slots := #[.int 89], vm := .none },
  { cls := 11, slots := #[.int 90], vm := .none },
  { cls := 11, slots := #[.int 91], vm := .none },
  { cls := 11, slots := #[.int 92], vm := .none },
  { cls := 11, slots := #[.int 93], vm := .none },
  { cls := 11, slots := #[.int 94], vm := .none },
  { cls := 11, slots := #[.int 95], vm := .none },
  { cls := 11, slots := #[.int 96], vm := .none },
  { cls := 11, slots := #[.int 97], vm := .none },
  { cls := 11, slots := #[.int 98], vm := .none },
  { cls := 11, slots := #[.int 99], vm := .none },
  { cls := 11, slots := #[.int 100], vm := .none },
  { cls := 11, slots := #[.int 101], vm := .none },
  { cls := 11, slots := #[.int 102], vm := .none },
  { cls := 11, slots := #[.int 103], vm := .none },
  { cls := 11, slots := #[.int 104], vm := .none },
  { cls := 11, slots := #[.int 105], vm := .none },
  { cls := 11, slots := #[.int 106], vm := .none },
  { cls := 11, slots := #[.int 107], vm := .none },
  { cls := 11, slots := #[.int 108], vm := .none },
  { cls := 11, slots := #[.int 109], vm := .none },
  { cls := 11, slots := #[.int 110], vm := .none },
  { cls := 11, slots := #[.int 111], vm := .none },
  { cls := 11, slots := #[.int 112], vm := .none },
  { cls := 11, slots := #[.int 113], vm := .none },
  { cls := 11, slots := #[.int 114], vm := .none },
  { cls := 11, slots := #[.int 115], vm := .none },
  { cls := 11, slots := #[.int 116], vm := .none },
  { cls := 11, slots := #[.int 117], vm := .none },
  { cls := 11, slots := #[.int 118], vm := .none },
  { cls := 11, slots := #[.int 119], vm := .none },
  { cls := 11, slots := #[.int 120], vm := .none },
  { cls := 11, slots := #[.int 121], vm := .none },
  { cls := 11, slots := #[.int 122], vm := .none },
  { cls := 11, slots := #[.int 123], vm := .none },
  { cls := 11, slots := #[.int 124], vm := .none },
  { cls := 11, slots := #[.int 125], vm := .none },
  { cls := 11, slots := #[.int 126], vm := .none },
  { cls := 11, slots := #[.int 127], vm := .none },
  { cls := 8, slots := #[.null, .int 0, .int 0], vm := .none },
  { cls := 8, slots := #[.null, .int 1, .int 0], vm := .none },
  { cls := 8, slots := #[.null, .int 2, .int 0], vm := .none }]
def classes : Array Class := #[k0, k1, k2, k3, k4, k5, k6, k7, k8, k9, k10, k11, k12, k13, k14, k15, k16, k17, k18]
def interned : List (Array UInt16 × Addr) := []
def slotsUsed : Nat := 530
def theMethod : MethodId := ⟨1, 3⟩
def args0 : Array Value := #[.int 5, .int 7, .int 1, .int 2, .int 0]
def aboutOver (below : List Frame) : State where
  vm := { classes := classes, interned := interned.toArray }
  heap := heap
  slotsUsed := slotsUsed
  threads := #[{ frames := .invoking theMethod args0 :: below }]
def below0 : List Frame := [.native { method := ⟨0, 0⟩, args := #[] }]
def about1 : State := aboutOver below0
def p0 : Program := .bare "" "" ""
def e0 : Env := launch0.env 0 0 0
theorem w_frames : about1.frames = Frame.invoking theMethod args0 :: below0 := rfl
set_option maxRecDepth 65536 in
theorem w_args : argsFit about1.vm theMethod args0 = true := by decide +kernel
set_option maxRecDepth 65536 in
theorem w_heap : heapFits about1 = true := by decide +kernel
set_option maxRecDepth 65536 in
theorem w_runnable : about1.curStatus? = some .runnable := by decide +kernel
set_option maxRecDepth 65536 in
theorem w_alone : about1.alone = true := by decide +kernel
set_option maxRecDepth 65536 in
theorem w_named : about1.methodNamed? x = some theMethod := by decide +kernel
set_option maxRecDepth 65536 in
theorem w_hears : about1.hears theMethod below0 = true := by decide +kernel
set_option maxRecDepth 65536 in
theorem w_ripe : about1.ripe theMethod args0 below0 = true := by decide +kernel
theorem w_running : about1.status = .running := rfl
set_option maxRecDepth 65536 in
theorem w_room : about1.hasRoom e0.platform room_1 = true :=
  launch0.hasRoom_least _ room_1 (by decide +kernel) (by decide +kernel) (by decide +kernel) (by decide +kernel) (by decide +kernel) (by decide +kernel)
theorem allAtoms_all (ts : List Jvm.Cond) (a : Array Jvm.Value) (st : Jvm.State) : (allAtoms ts).before a st = ts.all (fun c => c.before a st) := by
  induction ts with
  | nil => rfl
  | cons c t ih =>
    show (Jvm.Cond.and c (allAtoms t)).before a st = _
    rw [Jvm.Cond.before_and, ih, List.all_cons]
def words1 : List Jvm.Cond := Jvm.Cond.code x code maxLocals ret :: tables_1
/-- a 'code' word, met by the world's own term for the bytes: nothing is compared byte by byte -/
theorem code_word {y : MethodName} {bytes : ByteArray} {mx : Nat} {rt : Option FieldType} {a : Array Value} {s : State} {m : MethodId} {meth : Method} {c : Code} (h1 : s.methodNamed? y = some m) (h2 : s.vm.method? m = some meth) (h3 : meth.code = some c) (h4 : c.code = bytes)
    (h5 : (c.maxLocals == mx && c.exceptionTable.isEmpty && decide (c.maxStack ≤ mostOperands) && decide (meth.sig.returnType = rt) && !meth.locks && decide (parseMethodDescriptor y.desc = some meth.sig)) = true) : (Jvm.Cond.code y bytes mx rt).before a s = true := by
  simp only [Bool.and_eq_true, beq_iff_eq, Bool.not_eq_true', decide_eq_true_eq] at h5
  obtain ⟨⟨⟨⟨⟨g1, g2⟩, g3⟩, g4⟩, g5⟩, g6⟩ := h5
  simp [Cond.before, Cond.holds, Cond.value, h1, h2, h3, h4, g1, g2, g3, g4, g5, g6]
def isCode : Jvm.Cond → Bool
  | .code _ _ _ _ => true
  | _ => false
theorem all_split {L : List Jvm.Cond} {P : Jvm.Cond → Bool} (h1 : L.all (fun c => isCode c || P c) = true) (h2 : ∀ c ∈ L.filter isCode, P c = true) : L.all P = true := by
  refine List.all_eq_true.mpr fun c hc => ?_
  have h := List.all_eq_true.mp h1 c hc
  rcases Bool.eq_false_or_eq_true (isCode c) with hi | hi
  · exact h2 c (List.mem_filter.mpr ⟨hc, hi⟩)
  · simpa [hi] using h
set_option maxRecDepth 65536 in
theorem w_c0 : (Jvm.Cond.code x code maxLocals ret).before args0 about1 = true := code_word (m := ⟨1, 3⟩) (meth := k1m3) (c := k1c3) (by decide +kernel) rfl rfl rfl (by decide +kernel)
set_option maxRecDepth 65536 in
theorem w_c1 : (Jvm.Cond.code ({ cls := "com/example/silent_isles/silentisles/voyage/CardEqualsPinLaw", name := "num", desc := "(II)I" } : Jvm.MethodName) method_2_code (2 : Nat) (Option.some Jvm.ClassFile.FieldType.int)).before args0 about1 = true := code_word (m := ⟨1, 1⟩) (meth := k1m1) (c := k1c1) (by decide +kernel) rfl rfl rfl (by decide +kernel)
set_option maxRecDepth 65536 in
theorem w_c2 : (Jvm.Cond.code ({ cls := "com/example/silent_isles/silentisles/voyage/CardEqualsPinLaw", name := "make", desc := "(II)Lcom/example/silent_isles/silentisles/voyage/Card;" } : Jvm.MethodName) method_3_code (2 : Nat) (Option.some (Jvm.ClassFile.FieldType.object "com/example/silent_isles/silentisles/voyage/Card"))).before args0 about1 = true := code_word (m := ⟨1, 2⟩) (meth := k1m2) (c := k1c2) (by decide +kernel) rfl rfl rfl (by decide +kernel)
set_option maxRecDepth 65536 in
theorem w_c3 : (Jvm.Cond.code ({ cls := "com/example/silent_isles/silentisles/voyage/Card", name := "<init>", desc := "(Lcom/example/silent_isles/silentisles/voyage/Card$Kind;I)V" } : Jvm.MethodName) prog_14_method_1_code (3 : Nat) (Option.none : Option Jvm.ClassFile.FieldType)).before args0 about1 = true := code_word (m := ⟨4, 0⟩) (meth := k4m0) (c := k4c0) (by decide +kernel) rfl rfl rfl (by decide +kernel)
set_option maxRecDepth 65536 in
theorem w_c4 : (Jvm.Cond.code ({ cls := "java/lang/Record", name := "<init>", desc := "()V" } : Jvm.MethodName) jdk_30_method_1_code (1 : Nat) (Option.none : Option Jvm.ClassFile.FieldType)).before args0 about1 = true := code_word (m := ⟨2, 0⟩) (meth := k2m0) (c := k2c0) (by decide +kernel) rfl rfl rfl (by decide +kernel)
set_option maxRecDepth 65536 in
theorem w_c5 : (Jvm.Cond.code ({ cls := "java/lang/Object", name := "<init>", desc := "()V" } : Jvm.MethodName) object_method_1_code (1 : Nat) (Option.none : Option Jvm.ClassFile.FieldType)).before args0 about1 = true := code_word (m := ⟨0, 0⟩) (meth := k0m0) (c := k0c0) (by decide +kernel) rfl rfl rfl (by decide +kernel)
set_option maxRecDepth 65536 in
theorem w_c6 : (Jvm.Cond.code ({ cls := "com/example/silent_isles/silentisles/voyage/Card", name := "requireIsland", desc := "(I)V" } : Jvm.MethodName) prog_14_method_15_code (1 : Nat) (Option.none : Option Jvm.ClassFile.FieldType)).before args0 about1 = true := code_word (m := ⟨4, 2⟩) (meth := k4m2) (c := k4c2) (by decide +kernel) rfl rfl rfl (by decide +kernel)
set_option maxRecDepth 65536 in
theorem w_c7 : (Jvm.Cond.code ({ cls := "com/example/silent_isles/silentisles/voyage/Card", name := "equals", desc := "(Ljava/lang/Object;)Z" } : Jvm.MethodName) prog_14_method_13_code (3 : Nat) (Option.some Jvm.ClassFile.FieldType.boolean)).before args0 about1 = true := code_word (m := ⟨4, 1⟩) (meth := k4m1) (c := k4c1) (by decide +kernel) rfl rfl rfl (by decide +kernel)
set_option maxRecDepth 65536 in
theorem w_c8 : (Jvm.Cond.code ({ cls := "java/lang/Integer", name := "valueOf", desc := "(I)Ljava/lang/Integer;" } : Jvm.MethodName) jdk_33_method_22_code (1 : Nat) (Option.some (Jvm.ClassFile.FieldType.object "java/lang/Integer"))).before args0 about1 = true := code_word (m := ⟨11, 0⟩) (meth := k11m0) (c := k11c0) (by decide +kernel) rfl rfl rfl (by decide +kernel)
def codes1 : List Jvm.Cond := [Jvm.Cond.code x code maxLocals ret, Jvm.Cond.code ({ cls := "com/example/silent_isles/silentisles/voyage/CardEqualsPinLaw", name := "num", desc := "(II)I" } : Jvm.MethodName) method_2_code (2 : Nat) (Option.some Jvm.ClassFile.FieldType.int), Jvm.Cond.code ({ cls := "com/example/silent_isles/silentisles/voyage/CardEqualsPinLaw", name := "make", desc := "(II)Lcom/example/silent_isles/silentisles/voyage/Card;" } : Jvm.MethodName) method_3_code (2 : Nat) (Option.some (Jvm.ClassFile.FieldType.object "com/example/silent_isles/silentisles/voyage/Card")), Jvm.Cond.code ({ cls := "com/example/silent_isles/silentisles/voyage/Card", name := "<init>", desc := "(Lcom/example/silent_isles/silentisles/voyage/Card$Kind;I)V" } : Jvm.MethodName) prog_14_method_1_code (3 : Nat) (Option.none : Option Jvm.ClassFile.FieldType), Jvm.Cond.code ({ cls := "java/lang/Record", name := "<init>", desc := "()V" } : Jvm.MethodName) jdk_30_method_1_code (1 : Nat) (Option.none : Option Jvm.ClassFile.FieldType), Jvm.Cond.code ({ cls := "java/lang/Object", name := "<init>", desc := "()V" } : Jvm.MethodName) object_method_1_code (1 : Nat) (Option.none : Option Jvm.ClassFile.FieldType), Jvm.Cond.code ({ cls := "com/example/silent_isles/silentisles/voyage/Card", name := "requireIsland", desc := "(I)V" } : Jvm.MethodName) prog_14_method_15_code (1 : Nat) (Option.none : Option Jvm.ClassFile.FieldType), Jvm.Cond.code ({ cls := "com/example/silent_isles/silentisles/voyage/Card", name := "equals", desc := "(Ljava/lang/Object;)Z" } : Jvm.MethodName) prog_14_method_13_code (3 : Nat) (Option.some Jvm.ClassFile.FieldType.boolean), Jvm.Cond.code ({ cls := "java/lang/Integer", name := "valueOf", desc := "(I)Ljava/lang/Integer;" } : Jvm.MethodName) jdk_33_method_22_code (1 : Nat) (Option.some (Jvm.ClassFile.FieldType.object "java/lang/Integer"))]
set_option maxRecDepth 65536 in
theorem codes_eq : words1.filter isCode = codes1 := rfl
theorem w_codes : ∀ c ∈ words1.filter isCode, c.before args0 about1 = true := by
  rw [codes_eq]
  intro c hc
  simp only [codes1, List.mem_cons, List.not_mem_nil, or_false] at hc
  rcases hc with rfl | rfl | rfl | rfl | rfl | rfl | rfl | rfl | rfl
  · exact w_c0
  · exact w_c1
  · exact w_c2
  · exact w_c3
  · exact w_c4
  · exact w_c5
  · exact w_c6
  · exact w_c7
  · exact w_c8
set_option maxRecDepth 65536 in
theorem w_t1 : (words1.take 24).all (fun c => isCode c || c.before args0 about1) = true := by decide +kernel
set_option maxRecDepth 65536 in
theorem w_t2 : ((words1.drop 24).take 24).all (fun c => isCode c || c.before args0 about1) = true := by decide +kernel
set_option maxRecDepth 65536 in
theorem w_t3 : ((words1.drop 24).drop 24).all (fun c => isCode c || c.before args0 about1) = true := by decide +kernel
theorem w_tables : (allAtoms (Jvm.Cond.code x code maxLocals ret :: tables_1)).before args0 about1 = true := by
  rw [allAtoms_all]
  show words1.all (fun c => c.before args0 about1) = true
  refine all_split ?_ w_codes
  rw [← List.take_append_drop 24 words1, List.all_append, w_t1, ← List.take_append_drop 24 (words1.drop 24), List.all_append, w_t2, w_t3]
  rfl
set_option maxRecDepth 65536 in
theorem w_rest : rest_1_c.before args0 about1 = true := by decide +kernel
set_option maxRecDepth 65536 in
theorem w_case : (Jvm.Cond.and given_1 narrow_1).before args0 about1 = true := by decide +kernel
theorem w_applies : (headSpec (Jvm.Cond.code x code maxLocals ret :: tables_1) room_1).applies x e0.platform about1 = true :=
  (Spec.applies_iff w_frames).mpr ⟨w_running, w_runnable, w_alone, w_named, w_hears, w_ripe, w_room, w_tables⟩
theorem atStart : AtStart classFile x code maxLocals ret World_1 tables_1 room_1 Calls_1 rest_1 Pre_1 launch0 p0 e0 about1 theMethod args0 below0 :=
  ⟨lists_1, trivial, launch0.admits_env _ _ _, launch0.least_env, fairChoices_fair.cas, fairChoices_fair.clock, w_frames, w_args, w_heap, w_applies, trivial, w_rest, w_case⟩
end start1
theorem witness_1 : WitnessClaimed_1 := ⟨start1.p0, start1.e0, start1.about1, start1.theMethod, start1.args0, start1.below0, start1.atStart⟩
end Jvm.Pilot.@@N@@
