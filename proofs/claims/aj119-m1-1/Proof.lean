import JvmDerived
import JvmDerived.Pilot.@@N@@Statement
import JvmDerived.Pilot.@@N@@Code
set_option linter.unusedVariables false
set_option linter.unusedSimpArgs false
namespace Jvm.RoadKit
open Sem ClassFile Op Lib Jvm.Stand Jvm.Free Jvm.LawKit
section New
variable {p : Program} {l : Launch} {e : Env} {R : Room} {s : State} {m : MethodId} {args : Array Value} {below : List Frame} {meth : Method} {c : Code} {T : State} {locs : List Loc} {cells slots : Nat}
theorem retI (X : Stand p l e R s m args below meth c T locs cells slots) (hx : p.tables.exec = Jvm.exec) {pc : Nat} {Ls : Array Slot} {z : Int32} {rest : List Value} (hret : meth.sig.returnType = some .int) (hd : decode c.code pc = .ok (.ireturn, 1)) {fs : List Frame}
    (hl : ∀ (f : JFrame) (acts : List Action), f.method = m → f.locked = none → f.entered = [] → (doReturn e (T.setTop f) acts (some (.int z))).1 = T.setFrames fs) : Steps p.tables e below (T.setTop (mkF m pc Ls (.int z :: rest))) (T.setFrames fs) := by
  have hm' : T.vm.method? m = some meth := X.method'
  have hn : narrow .int (.int z) = .int z := rfl
  show Steps p.tables e below (T.setTop { method := m, pc := pc, locals := Ls, stack := _ :: rest, locked := none }) _
  jvm_step X.here [X.here.top, hx, hd, hm', hret, hn]
  first | (intro acts; rw [hl _ acts rfl rfl rfl]) | rw [hl _ _ rfl rfl rfl]
  exact Steps.refl _
theorem retA (X : Stand p l e R s m args below meth c T locs cells slots) (hx : p.tables.exec = Jvm.exec) {pc : Nat} {Ls : Array Slot} {v : Value} {t : FieldType} (ht : t.isReference = true) (hv : v.isRef = true) (hret : meth.sig.returnType = some t) (hd : decode c.code pc = .ok (.areturn, 1)) {fs : List Frame}
    (hl : ∀ (f : JFrame) (acts : List Action), f.method = m → f.locked = none → f.entered = [] → (doReturn e (T.setTop f) acts (some v)).1 = T.setFrames fs) : Steps p.tables e below (T.setTop (mkF m pc Ls [v])) (T.setFrames fs) := by
  have hm' : T.vm.method? m = some meth := X.method'
  show Steps p.tables e below (T.setTop { method := m, pc := pc, locals := Ls, stack := [v], locked := none }) _
  jvm_step X.here [X.here.top, hx, hd, hm', hret, hv, ht]
  first | (intro acts; rw [hl _ acts rfl rfl rfl]) | rw [hl _ _ rfl rfl rfl]
  exact Steps.refl _
end New
end Jvm.RoadKit
namespace Jvm.Pilot.@@N@@
open Jvm Jvm.ClassFile Sem Op Lib Jvm.Free Jvm.Stand Jvm.LawKit Jvm.RoadKit Bundle Jvm.Pilot.@@N@@.Jvm.D
/-- from A the invocation comes to its end: it returns some v, P holds of v, of the heap and of the places written, and the frame is kept -/
def Rt (p : Program) (e : Env) (below : List Frame) (s : State) (k n : Nat) (P : Option Value → Heap → List Loc → Prop) (A : State) : Prop :=
  ∃ s₂ o, Steps p.tables e below A s₂ ∧ s₂.status = .running ∧ Ended s₂ below o ∧ ∃ v L, o = .returned v ∧ P v s₂.heap L ∧ FrameEnd s o s₂ L k n
/-- where the walk stands: its heap, and that all it wrote lies at n0 or above -/
def Sd (p : Program) (l : Launch) (e : Env) (R : Room) (s : State) (m : MethodId) (args : Array Value) (below : List Frame) (meth : Method) (c : Code) (T : State) (n0 cells slots : Nat) (h : Heap) : Prop :=
  ∃ locs, Stand p l e R s m args below meth c T locs cells slots ∧ Fr n0 locs ∧ T.heap = h
def lcv (j : Fin 2) : Int64 := Int64.ofNat j.val
section Own
variable {p : Program} {l : Launch} {e : Env} {R : Room} {s : State} {m : MethodId} {args : Array Value} {below : List Frame} {meth : Method} {c : Code} {T : State} {n0 cells slots : Nat} {h0 : Heap} {k n : Nat} {P : Option Value → Heap → List Loc → Prop}
theorem Rt.go {A B : State} (f : ∀ t, Steps p.tables e below B t → Steps p.tables e below A t) (h : Rt p e below s k n P B) : Rt p e below s k n P A := by
  obtain ⟨s₂, o, h1, h2⟩ := h
  exact ⟨s₂, o, f _ h1, h2⟩
theorem Rt.mono {Q : Option Value → Heap → List Loc → Prop} {A : State} (h : Rt p e below s k n Q A) (q : ∀ v h L, Q v h L → P v h L) : Rt p e below s k n P A := by
  obtain ⟨s₂, o, h1, h2, h3, v, L, h4, h5, h6⟩ := h
  exact ⟨s₂, o, h1, h2, h3, v, L, h4, q _ _ _ h5, h6⟩
theorem Rt.iloadN (X : Sd p l e R s m args below meth c T n0 cells slots h0) (hx : p.tables.exec = Jvm.exec) {pc pc' : Nat} {Ls : Array Slot} {S : List Value} {j : Fin 4} {v : Int32} (hd : decode c.code pc = .ok (.iload_n j, 1)) (hl : Ls[j.val]? = some (.val (.int v))) (hp : pc + 1 = pc')
    (h : Rt p e below s k n P (T.setTop (mkF m pc' Ls (.int v :: S)))) : Rt p e below s k n P (T.setTop (mkF m pc Ls (S))) := by
  subst hp; obtain ⟨_, X, _, _⟩ := X; exact Rt.go (fun _ => XS.iloadN X.here hx rfl hd hl) h
theorem Rt.iload (X : Sd p l e R s m args below meth c T n0 cells slots h0) (hx : p.tables.exec = Jvm.exec) {pc pc' : Nat} {Ls : Array Slot} {S : List Value} {j : Nat} {v : Int32} (hd : decode c.code pc = .ok (.iload j, 2)) (hl : Ls[j]? = some (.val (.int v))) (hp : pc + 2 = pc')
    (h : Rt p e below s k n P (T.setTop (mkF m pc' Ls (.int v :: S)))) : Rt p e below s k n P (T.setTop (mkF m pc Ls (S))) := by
  subst hp; obtain ⟨_, X, _, _⟩ := X; exact Rt.go (fun _ => XS.iload X.here hx rfl hd hl) h
theorem Rt.istoreN (X : Sd p l e R s m args below meth c T n0 cells slots h0) (hx : p.tables.exec = Jvm.exec) {pc pc' : Nat} {Ls : Array Slot} {S : List Value} {j : Fin 4} {v : Int32} {l' : Array Slot} (hd : decode c.code pc = .ok (.istore_n j, 1)) (hl : storeLocals Ls j.val (.int v) = some l') (hp : pc + 1 = pc')
    (h : Rt p e below s k n P (T.setTop (mkF m pc' l' (S)))) : Rt p e below s k n P (T.setTop (mkF m pc Ls (.int v :: S))) := by
  subst hp; obtain ⟨_, X, _, _⟩ := X; exact Rt.go (fun _ => XS.istoreN X.here hx rfl hd rfl hl) h
theorem Rt.istore (X : Sd p l e R s m args below meth c T n0 cells slots h0) (hx : p.tables.exec = Jvm.exec) {pc pc' : Nat} {Ls : Array Slot} {S : List Value} {j : Nat} {v : Int32} {l' : Array Slot} (hd : decode c.code pc = .ok (.istore j, 2)) (hl : storeLocals Ls j (.int v) = some l') (hp : pc + 2 = pc')
    (h : Rt p e below s k n P (T.setTop (mkF m pc' l' (S)))) : Rt p e below s k n P (T.setTop (mkF m pc Ls (.int v :: S))) := by
  subst hp; obtain ⟨_, X, _, _⟩ := X; exact Rt.go (fun _ => XS.istore X.here hx rfl hd rfl hl) h
theorem Rt.lloadN (X : Sd p l e R s m args below meth c T n0 cells slots h0) (hx : p.tables.exec = Jvm.exec) {pc pc' : Nat} {Ls : Array Slot} {S : List Value} {j : Fin 4} {v : Int64} (hd : decode c.code pc = .ok (.lload_n j, 1)) (hl : Ls[j.val]? = some (.val (.long v))) (hp : pc + 1 = pc')
    (h : Rt p e below s k n P (T.setTop (mkF m pc' Ls (.long v :: S)))) : Rt p e below s k n P (T.setTop (mkF m pc Ls (S))) := by
  subst hp; obtain ⟨_, X, _, _⟩ := X; exact Rt.go (fun _ => XS.lloadN X.here hx rfl hd hl) h
theorem Rt.lload (X : Sd p l e R s m args below meth c T n0 cells slots h0) (hx : p.tables.exec = Jvm.exec) {pc pc' : Nat} {Ls : Array Slot} {S : List Value} {j : Nat} {v : Int64} (hd : decode c.code pc = .ok (.lload j, 2)) (hl : Ls[j]? = some (.val (.long v))) (hp : pc + 2 = pc')
    (h : Rt p e below s k n P (T.setTop (mkF m pc' Ls (.long v :: S)))) : Rt p e below s k n P (T.setTop (mkF m pc Ls (S))) := by
  subst hp; obtain ⟨_, X, _, _⟩ := X; exact Rt.go (fun _ => XS.lload X.here hx rfl hd hl) h
theorem Rt.lstoreN (X : Sd p l e R s m args below meth c T n0 cells slots h0) (hx : p.tables.exec = Jvm.exec) {pc pc' : Nat} {Ls : Array Slot} {S : List Value} {j : Fin 4} {v : Int64} {l' : Array Slot} (hd : decode c.code pc = .ok (.lstore_n j, 1)) (hl : storeLocals Ls j.val (.long v) = some l') (hp : pc + 1 = pc')
    (h : Rt p e below s k n P (T.setTop (mkF m pc' l' (S)))) : Rt p e below s k n P (T.setTop (mkF m pc Ls (.long v :: S))) := by
  subst hp; obtain ⟨_, X, _, _⟩ := X; exact Rt.go (fun _ => XS.lstoreN X.here hx rfl hd rfl hl) h
theorem Rt.lstore (X : Sd p l e R s m args below meth c T n0 cells slots h0) (hx : p.tables.exec = Jvm.exec) {pc pc' : Nat} {Ls : Array Slot} {S : List Value} {j : Nat} {v : Int64} {l' : Array Slot} (hd : decode c.code pc = .ok (.lstore j, 2)) (hl : storeLocals Ls j (.long v) = some l') (hp : pc + 2 = pc')
    (h : Rt p e below s k n P (T.setTop (mkF m pc' l' (S)))) : Rt p e below s k n P (T.setTop (mkF m pc Ls (.long v :: S))) := by
  subst hp; obtain ⟨_, X, _, _⟩ := X; exact Rt.go (fun _ => XS.lstore X.here hx rfl hd rfl hl) h
theorem Rt.aloadN (X : Sd p l e R s m args below meth c T n0 cells slots h0) (hx : p.tables.exec = Jvm.exec) {pc pc' : Nat} {Ls : Array Slot} {S : List Value} {j : Fin 4} {v : Value} (hd : decode c.code pc = .ok (.aload_n j, 1)) (hl : Ls[j.val]? = some (.val v)) (hv : v.isRef = true) (hp : pc + 1 = pc')
    (h : Rt p e below s k n P (T.setTop (mkF m pc' Ls (v :: S)))) : Rt p e below s k n P (T.setTop (mkF m pc Ls (S))) := by
  subst hp; obtain ⟨_, X, _, _⟩ := X; exact Rt.go (fun _ => XS.aloadN X.here hx rfl hd hl hv) h
theorem Rt.aload (X : Sd p l e R s m args below meth c T n0 cells slots h0) (hx : p.tables.exec = Jvm.exec) {pc pc' : Nat} {Ls : Array Slot} {S : List Value} {j : Nat} {v : Value} (hd : decode c.code pc = .ok (.aload j, 2)) (hl : Ls[j]? = some (.val v)) (hv : v.isRef = true) (hp : pc + 2 = pc')
    (h : Rt p e below s k n P (T.setTop (mkF m pc' Ls (v :: S)))) : Rt p e below s k n P (T.setTop (mkF m pc Ls (S))) := by
  subst hp; obtain ⟨_, X, _, _⟩ := X; exact Rt.go (fun _ => XS.aload X.here hx rfl hd hl hv) h
theorem Rt.astoreN (X : Sd p l e R s m args below meth c T n0 cells slots h0) (hx : p.tables.exec = Jvm.exec) {pc pc' : Nat} {Ls : Array Slot} {S : List Value} {j : Fin 4} {v : Value} {l' : Array Slot} (hd : decode c.code pc = .ok (.astore_n j, 1)) (hv : v.isRef = true) (hl : storeLocals Ls j.val v = some l') (hp : pc + 1 = pc')
    (h : Rt p e below s k n P (T.setTop (mkF m pc' l' (S)))) : Rt p e below s k n P (T.setTop (mkF m pc Ls (v :: S))) := by
  subst hp; obtain ⟨_, X, _, _⟩ := X; exact Rt.go (fun _ => XS.astoreN X.here hx rfl hd rfl hv hl) h
theorem Rt.astore (X : Sd p l e R s m args below meth c T n0 cells slots h0) (hx : p.tables.exec = Jvm.exec) {pc pc' : Nat} {Ls : Array Slot} {S : List Value} {j : Nat} {v : Value} {l' : Array Slot} (hd : decode c.code pc = .ok (.astore j, 2)) (hv : v.isRef = true) (hl : storeLocals Ls j v = some l') (hp : pc + 2 = pc')
    (h : Rt p e below s k n P (T.setTop (mkF m pc' l' (S)))) : Rt p e below s k n P (T.setTop (mkF m pc Ls (v :: S))) := by
  subst hp; obtain ⟨_, X, _, _⟩ := X; exact Rt.go (fun _ => XS.astore X.here hx rfl hd rfl hv hl) h
theorem Rt.iconst (X : Sd p l e R s m args below meth c T n0 cells slots h0) (hx : p.tables.exec = Jvm.exec) {pc pc' : Nat} {Ls : Array Slot} {S : List Value} {i : Int} {v : Int32} (hd : decode c.code pc = .ok (.iconst i, 1)) (hv : Int32.ofInt i = v) (hp : pc + 1 = pc')
    (h : Rt p e below s k n P (T.setTop (mkF m pc' Ls (.int v :: S)))) : Rt p e below s k n P (T.setTop (mkF m pc Ls S)) := by
  subst hp hv; obtain ⟨_, X, _, _⟩ := X; exact Rt.go (fun _ => XS.iconst X.here hx rfl hd) h
theorem Rt.bipush (X : Sd p l e R s m args below meth c T n0 cells slots h0) (hx : p.tables.exec = Jvm.exec) {pc pc' : Nat} {Ls : Array Slot} {S : List Value} {i : Int} {v : Int32} (hd : decode c.code pc = .ok (.bipush i, 2)) (hv : (Int8.ofInt i).toInt32 = v) (hp : pc + 2 = pc')
    (h : Rt p e below s k n P (T.setTop (mkF m pc' Ls (.int v :: S)))) : Rt p e below s k n P (T.setTop (mkF m pc Ls S)) := by
  subst hp hv; obtain ⟨_, X, _, _⟩ := X; exact Rt.go (fun _ => XS.bipush X.here hx rfl hd) h
theorem Rt.sipush (X : Sd p l e R s m args below meth c T n0 cells slots h0) (hx : p.tables.exec = Jvm.exec) {pc pc' : Nat} {Ls : Array Slot} {S : List Value} {i : Int} {v : Int32} (hd : decode c.code pc = .ok (.sipush i, 3)) (hv : (Int16.ofInt i).toInt32 = v) (hp : pc + 3 = pc')
    (h : Rt p e below s k n P (T.setTop (mkF m pc' Ls (.int v :: S)))) : Rt p e below s k n P (T.setTop (mkF m pc Ls S)) := by
  subst hp hv; obtain ⟨_, X, _, _⟩ := X; exact Rt.go (fun _ => XS.sipush X.here hx rfl hd) h
theorem Rt.lconst (X : Sd p l e R s m args below meth c T n0 cells slots h0) (hx : p.tables.exec = Jvm.exec) {pc pc' : Nat} {Ls : Array Slot} {S : List Value} {i : Fin 2} {v : Int64} (hd : decode c.code pc = .ok (.lconst i, 1)) (hv : lcv i = v) (hp : pc + 1 = pc')
    (h : Rt p e below s k n P (T.setTop (mkF m pc' Ls (.long v :: S)))) : Rt p e below s k n P (T.setTop (mkF m pc Ls S)) := by
  subst hp hv; obtain ⟨_, X, _, _⟩ := X; exact Rt.go (fun _ => XS.lconst X.here hx rfl hd) h
theorem Rt.aconstNull (X : Sd p l e R s m args below meth c T n0 cells slots h0) (hx : p.tables.exec = Jvm.exec) {pc pc' : Nat} {Ls : Array Slot} {S : List Value}  (hd : decode c.code pc = .ok (.aconst_null, 1)) (hp : pc + 1 = pc')
    (h : Rt p e below s k n P (T.setTop (mkF m pc' Ls (.null :: S)))) : Rt p e below s k n P (T.setTop (mkF m pc Ls (S))) := by
  subst hp; obtain ⟨_, X, _, _⟩ := X; exact Rt.go (fun _ => XS.aconstNull X.here hx rfl hd ) h
theorem Rt.iadd (X : Sd p l e R s m args below meth c T n0 cells slots h0) (hx : p.tables.exec = Jvm.exec) {pc pc' : Nat} {Ls : Array Slot} {S : List Value} {x y r : Int32} (hd : decode c.code pc = .ok (.iadd, 1)) (hr : x + y = r) (hp : pc + 1 = pc')
    (h : Rt p e below s k n P (T.setTop (mkF m pc' Ls (.int r :: S)))) : Rt p e below s k n P (T.setTop (mkF m pc Ls (.int y :: .int x :: S))) := by
  subst hp hr; obtain ⟨_, X, _, _⟩ := X; exact Rt.go (fun _ => XS.iadd X.here hx rfl hd rfl) h
theorem Rt.isub (X : Sd p l e R s m args below meth c T n0 cells slots h0) (hx : p.tables.exec = Jvm.exec) {pc pc' : Nat} {Ls : Array Slot} {S : List Value} {x y r : Int32} (hd : decode c.code pc = .ok (.isub, 1)) (hr : x - y = r) (hp : pc + 1 = pc')
    (h : Rt p e below s k n P (T.setTop (mkF m pc' Ls (.int r :: S)))) : Rt p e below s k n P (T.setTop (mkF m pc Ls (.int y :: .int x :: S))) := by
  subst hp hr; obtain ⟨_, X, _, _⟩ := X; exact Rt.go (fun _ => XS.isub X.here hx rfl hd rfl) h
theorem Rt.imul (X : Sd p l e R s m args below meth c T n0 cells slots h0) (hx : p.tables.exec = Jvm.exec) {pc pc' : Nat} {Ls : Array Slot} {S : List Value} {x y r : Int32} (hd : decode c.code pc = .ok (.imul, 1)) (hr : x * y = r) (hp : pc + 1 = pc')
    (h : Rt p e below s k n P (T.setTop (mkF m pc' Ls (.int r :: S)))) : Rt p e below s k n P (T.setTop (mkF m pc Ls (.int y :: .int x :: S))) := by
  subst hp hr; obtain ⟨_, X, _, _⟩ := X; exact Rt.go (fun _ => XS.imul X.here hx rfl hd rfl) h
theorem Rt.iand (X : Sd p l e R s m args below meth c T n0 cells slots h0) (hx : p.tables.exec = Jvm.exec) {pc pc' : Nat} {Ls : Array Slot} {S : List Value} {x y r : Int32} (hd : decode c.code pc = .ok (.iand, 1)) (hr : x &&& y = r) (hp : pc + 1 = pc')
    (h : Rt p e below s k n P (T.setTop (mkF m pc' Ls (.int r :: S)))) : Rt p e below s k n P (T.setTop (mkF m pc Ls (.int y :: .int x :: S))) := by
  subst hp hr; obtain ⟨_, X, _, _⟩ := X; exact Rt.go (fun _ => XS.iand X.here hx rfl hd rfl) h
theorem Rt.ior (X : Sd p l e R s m args below meth c T n0 cells slots h0) (hx : p.tables.exec = Jvm.exec) {pc pc' : Nat} {Ls : Array Slot} {S : List Value} {x y r : Int32} (hd : decode c.code pc = .ok (.ior, 1)) (hr : x ||| y = r) (hp : pc + 1 = pc')
    (h : Rt p e below s k n P (T.setTop (mkF m pc' Ls (.int r :: S)))) : Rt p e below s k n P (T.setTop (mkF m pc Ls (.int y :: .int x :: S))) := by
  subst hp hr; obtain ⟨_, X, _, _⟩ := X; exact Rt.go (fun _ => XS.ior X.here hx rfl hd rfl) h
theorem Rt.ixor (X : Sd p l e R s m args below meth c T n0 cells slots h0) (hx : p.tables.exec = Jvm.exec) {pc pc' : Nat} {Ls : Array Slot} {S : List Value} {x y r : Int32} (hd : decode c.code pc = .ok (.ixor, 1)) (hr : x ^^^ y = r) (hp : pc + 1 = pc')
    (h : Rt p e below s k n P (T.setTop (mkF m pc' Ls (.int r :: S)))) : Rt p e below s k n P (T.setTop (mkF m pc Ls (.int y :: .int x :: S))) := by
  subst hp hr; obtain ⟨_, X, _, _⟩ := X; exact Rt.go (fun _ => XS.ixor X.here hx rfl hd rfl) h
theorem Rt.ishl (X : Sd p l e R s m args below meth c T n0 cells slots h0) (hx : p.tables.exec = Jvm.exec) {pc pc' : Nat} {Ls : Array Slot} {S : List Value} {x y r : Int32} (hd : decode c.code pc = .ok (.ishl, 1)) (hr : x <<< (y &&& 31) = r) (hp : pc + 1 = pc')
    (h : Rt p e below s k n P (T.setTop (mkF m pc' Ls (.int r :: S)))) : Rt p e below s k n P (T.setTop (mkF m pc Ls (.int y :: .int x :: S))) := by
  subst hp hr; obtain ⟨_, X, _, _⟩ := X; exact Rt.go (fun _ => XS.ishl X.here hx rfl hd rfl) h
theorem Rt.ishr (X : Sd p l e R s m args below meth c T n0 cells slots h0) (hx : p.tables.exec = Jvm.exec) {pc pc' : Nat} {Ls : Array Slot} {S : List Value} {x y r : Int32} (hd : decode c.code pc = .ok (.ishr, 1)) (hr : x >>> (y &&& 31) = r) (hp : pc + 1 = pc')
    (h : Rt p e below s k n P (T.setTop (mkF m pc' Ls (.int r :: S)))) : Rt p e below s k n P (T.setTop (mkF m pc Ls (.int y :: .int x :: S))) := by
  subst hp hr; obtain ⟨_, X, _, _⟩ := X; exact Rt.go (fun _ => XS.ishr X.here hx rfl hd rfl) h
theorem Rt.iushr (X : Sd p l e R s m args below meth c T n0 cells slots h0) (hx : p.tables.exec = Jvm.exec) {pc pc' : Nat} {Ls : Array Slot} {S : List Value} {x y r : Int32} (hd : decode c.code pc = .ok (.iushr, 1)) (hr : (x.toUInt32 >>> (y &&& 31).toUInt32).toInt32 = r) (hp : pc + 1 = pc')
    (h : Rt p e below s k n P (T.setTop (mkF m pc' Ls (.int r :: S)))) : Rt p e below s k n P (T.setTop (mkF m pc Ls (.int y :: .int x :: S))) := by
  subst hp hr; obtain ⟨_, X, _, _⟩ := X; exact Rt.go (fun _ => XS.iushr X.here hx rfl hd rfl) h
theorem Rt.ladd (X : Sd p l e R s m args below meth c T n0 cells slots h0) (hx : p.tables.exec = Jvm.exec) {pc pc' : Nat} {Ls : Array Slot} {S : List Value} {x y r : Int64} (hd : decode c.code pc = .ok (.ladd, 1)) (hr : x + y = r) (hp : pc + 1 = pc')
    (h : Rt p e below s k n P (T.setTop (mkF m pc' Ls (.long r :: S)))) : Rt p e below s k n P (T.setTop (mkF m pc Ls (.long y :: .long x :: S))) := by
  subst hp hr; obtain ⟨_, X, _, _⟩ := X; exact Rt.go (fun _ => XS.ladd X.here hx rfl hd rfl) h
theorem Rt.lsub (X : Sd p l e R s m args below meth c T n0 cells slots h0) (hx : p.tables.exec = Jvm.exec) {pc pc' : Nat} {Ls : Array Slot} {S : List Value} {x y r : Int64} (hd : decode c.code pc = .ok (.lsub, 1)) (hr : x - y = r) (hp : pc + 1 = pc')
    (h : Rt p e below s k n P (T.setTop (mkF m pc' Ls (.long r :: S)))) : Rt p e below s k n P (T.setTop (mkF m pc Ls (.long y :: .long x :: S))) := by
  subst hp hr; obtain ⟨_, X, _, _⟩ := X; exact Rt.go (fun _ => XS.lsub X.here hx rfl hd rfl) h
theorem Rt.lmul (X : Sd p l e R s m args below meth c T n0 cells slots h0) (hx : p.tables.exec = Jvm.exec) {pc pc' : Nat} {Ls : Array Slot} {S : List Value} {x y r : Int64} (hd : decode c.code pc = .ok (.lmul, 1)) (hr : x * y = r) (hp : pc + 1 = pc')
    (h : Rt p e below s k n P (T.setTop (mkF m pc' Ls (.long r :: S)))) : Rt p e below s k n P (T.setTop (mkF m pc Ls (.long y :: .long x :: S))) := by
  subst hp hr; obtain ⟨_, X, _, _⟩ := X; exact Rt.go (fun _ => XS.lmul X.here hx rfl hd rfl) h
theorem Rt.land (X : Sd p l e R s m args below meth c T n0 cells slots h0) (hx : p.tables.exec = Jvm.exec) {pc pc' : Nat} {Ls : Array Slot} {S : List Value} {x y r : Int64} (hd : decode c.code pc = .ok (.land, 1)) (hr : x &&& y = r) (hp : pc + 1 = pc')
    (h : Rt p e below s k n P (T.setTop (mkF m pc' Ls (.long r :: S)))) : Rt p e below s k n P (T.setTop (mkF m pc Ls (.long y :: .long x :: S))) := by
  subst hp hr; obtain ⟨_, X, _, _⟩ := X; exact Rt.go (fun _ => XS.land X.here hx rfl hd rfl) h
theorem Rt.lor (X : Sd p l e R s m args below meth c T n0 cells slots h0) (hx : p.tables.exec = Jvm.exec) {pc pc' : Nat} {Ls : Array Slot} {S : List Value} {x y r : Int64} (hd : decode c.code pc = .ok (.lor, 1)) (hr : x ||| y = r) (hp : pc + 1 = pc')
    (h : Rt p e below s k n P (T.setTop (mkF m pc' Ls (.long r :: S)))) : Rt p e below s k n P (T.setTop (mkF m pc Ls (.long y :: .long x :: S))) := by
  subst hp hr; obtain ⟨_, X, _, _⟩ := X; exact Rt.go (fun _ => XS.lor X.here hx rfl hd rfl) h
theorem Rt.lxor (X : Sd p l e R s m args below meth c T n0 cells slots h0) (hx : p.tables.exec = Jvm.exec) {pc pc' : Nat} {Ls : Array Slot} {S : List Value} {x y r : Int64} (hd : decode c.code pc = .ok (.lxor, 1)) (hr : x ^^^ y = r) (hp : pc + 1 = pc')
    (h : Rt p e below s k n P (T.setTop (mkF m pc' Ls (.long r :: S)))) : Rt p e below s k n P (T.setTop (mkF m pc Ls (.long y :: .long x :: S))) := by
  subst hp hr; obtain ⟨_, X, _, _⟩ := X; exact Rt.go (fun _ => XS.lxor X.here hx rfl hd rfl) h
theorem Rt.lshl (X : Sd p l e R s m args below meth c T n0 cells slots h0) (hx : p.tables.exec = Jvm.exec) {pc pc' : Nat} {Ls : Array Slot} {S : List Value} {x r : Int64} {y : Int32} (hd : decode c.code pc = .ok (.lshl, 1)) (hr : x <<< (y &&& 0x3f).toInt64 = r) (hp : pc + 1 = pc')
    (h : Rt p e below s k n P (T.setTop (mkF m pc' Ls (.long r :: S)))) : Rt p e below s k n P (T.setTop (mkF m pc Ls (.int y :: .long x :: S))) := by
  subst hp hr; obtain ⟨_, X, _, _⟩ := X; exact Rt.go (fun _ => XS.lshl X.here hx rfl hd rfl) h
theorem Rt.lshr (X : Sd p l e R s m args below meth c T n0 cells slots h0) (hx : p.tables.exec = Jvm.exec) {pc pc' : Nat} {Ls : Array Slot} {S : List Value} {x r : Int64} {y : Int32} (hd : decode c.code pc = .ok (.lshr, 1)) (hr : x >>> (y &&& 0x3f).toInt64 = r) (hp : pc + 1 = pc')
    (h : Rt p e below s k n P (T.setTop (mkF m pc' Ls (.long r :: S)))) : Rt p e below s k n P (T.setTop (mkF m pc Ls (.int y :: .long x :: S))) := by
  subst hp hr; obtain ⟨_, X, _, _⟩ := X; exact Rt.go (fun _ => XS.lshr X.here hx rfl hd rfl) h
theorem Rt.lushr (X : Sd p l e R s m args below meth c T n0 cells slots h0) (hx : p.tables.exec = Jvm.exec) {pc pc' : Nat} {Ls : Array Slot} {S : List Value} {x r : Int64} {y : Int32} (hd : decode c.code pc = .ok (.lushr, 1)) (hr : (x.toUInt64 >>> (y &&& 0x3f).toInt64.toUInt64).toInt64 = r) (hp : pc + 1 = pc')
    (h : Rt p e below s k n P (T.setTop (mkF m pc' Ls (.long r :: S)))) : Rt p e below s k n P (T.setTop (mkF m pc Ls (.int y :: .long x :: S))) := by
  subst hp hr; obtain ⟨_, X, _, _⟩ := X; exact Rt.go (fun _ => XS.lushr X.here hx rfl hd rfl) h
theorem Rt.idiv (X : Sd p l e R s m args below meth c T n0 cells slots h0) (hx : p.tables.exec = Jvm.exec) {pc pc' : Nat} {Ls : Array Slot} {S : List Value} {x y r : Int32} (hd : decode c.code pc = .ok (.idiv, 1)) (hy : y ≠ 0) (hr : x / y = r) (hp : pc + 1 = pc')
    (h : Rt p e below s k n P (T.setTop (mkF m pc' Ls (.int r :: S)))) : Rt p e below s k n P (T.setTop (mkF m pc Ls (.int y :: .int x :: S))) := by
  subst hp hr; obtain ⟨_, X, _, _⟩ := X; exact Rt.go (fun _ => XS.idiv X.here hx rfl hd rfl hy) h
theorem Rt.irem (X : Sd p l e R s m args below meth c T n0 cells slots h0) (hx : p.tables.exec = Jvm.exec) {pc pc' : Nat} {Ls : Array Slot} {S : List Value} {x y r : Int32} (hd : decode c.code pc = .ok (.irem, 1)) (hy : y ≠ 0) (hr : x % y = r) (hp : pc + 1 = pc')
    (h : Rt p e below s k n P (T.setTop (mkF m pc' Ls (.int r :: S)))) : Rt p e below s k n P (T.setTop (mkF m pc Ls (.int y :: .int x :: S))) := by
  subst hp hr; obtain ⟨_, X, _, _⟩ := X; exact Rt.go (fun _ => iremM X hx rfl hd rfl hy) h
theorem Rt.ldiv (X : Sd p l e R s m args below meth c T n0 cells slots h0) (hx : p.tables.exec = Jvm.exec) {pc pc' : Nat} {Ls : Array Slot} {S : List Value} {x y r : Int64} (hd : decode c.code pc = .ok (.ldiv, 1)) (hy : y ≠ 0) (hr : x / y = r) (hp : pc + 1 = pc')
    (h : Rt p e below s k n P (T.setTop (mkF m pc' Ls (.long r :: S)))) : Rt p e below s k n P (T.setTop (mkF m pc Ls (.long y :: .long x :: S))) := by
  subst hp hr; obtain ⟨_, X, _, _⟩ := X; exact Rt.go (fun _ => XS.ldiv X.here hx rfl hd rfl hy) h
theorem Rt.lrem (X : Sd p l e R s m args below meth c T n0 cells slots h0) (hx : p.tables.exec = Jvm.exec) {pc pc' : Nat} {Ls : Array Slot} {S : List Value} {x y r : Int64} (hd : decode c.code pc = .ok (.lrem, 1)) (hy : y ≠ 0) (hr : x - (x / y) * y = r) (hp : pc + 1 = pc')
    (h : Rt p e below s k n P (T.setTop (mkF m pc' Ls (.long r :: S)))) : Rt p e below s k n P (T.setTop (mkF m pc Ls (.long y :: .long x :: S))) := by
  subst hp hr; obtain ⟨_, X, _, _⟩ := X; exact Rt.go (fun _ => XS.lrem X.here hx rfl hd rfl hy) h
theorem Rt.ineg (X : Sd p l e R s m args below meth c T n0 cells slots h0) (hx : p.tables.exec = Jvm.exec) {pc pc' : Nat} {Ls : Array Slot} {S : List Value} {v : Int32} {r : Int32} (hd : decode c.code pc = .ok (.ineg, 1)) (hr : -v = r) (hp : pc + 1 = pc')
    (h : Rt p e below s k n P (T.setTop (mkF m pc' Ls (.int r :: S)))) : Rt p e below s k n P (T.setTop (mkF m pc Ls (.int v :: S))) := by
  subst hp hr; obtain ⟨_, X, _, _⟩ := X; exact Rt.go (fun _ => XS.ineg X.here hx rfl hd rfl) h
theorem Rt.lneg (X : Sd p l e R s m args below meth c T n0 cells slots h0) (hx : p.tables.exec = Jvm.exec) {pc pc' : Nat} {Ls : Array Slot} {S : List Value} {v : Int64} {r : Int64} (hd : decode c.code pc = .ok (.lneg, 1)) (hr : -v = r) (hp : pc + 1 = pc')
    (h : Rt p e below s k n P (T.setTop (mkF m pc' Ls (.long r :: S)))) : Rt p e below s k n P (T.setTop (mkF m pc Ls (.long v :: S))) := by
  subst hp hr; obtain ⟨_, X, _, _⟩ := X; exact Rt.go (fun _ => XS.lneg X.here hx rfl hd rfl) h
theorem Rt.i2l (X : Sd p l e R s m args below meth c T n0 cells slots h0) (hx : p.tables.exec = Jvm.exec) {pc pc' : Nat} {Ls : Array Slot} {S : List Value} {v : Int32} {r : Int64} (hd : decode c.code pc = .ok (.i2l, 1)) (hr : v.toInt64 = r) (hp : pc + 1 = pc')
    (h : Rt p e below s k n P (T.setTop (mkF m pc' Ls (.long r :: S)))) : Rt p e below s k n P (T.setTop (mkF m pc Ls (.int v :: S))) := by
  subst hp hr; obtain ⟨_, X, _, _⟩ := X; exact Rt.go (fun _ => XS.i2l X.here hx rfl hd rfl) h
theorem Rt.l2i (X : Sd p l e R s m args below meth c T n0 cells slots h0) (hx : p.tables.exec = Jvm.exec) {pc pc' : Nat} {Ls : Array Slot} {S : List Value} {v : Int64} {r : Int32} (hd : decode c.code pc = .ok (.l2i, 1)) (hr : v.toInt32 = r) (hp : pc + 1 = pc')
    (h : Rt p e below s k n P (T.setTop (mkF m pc' Ls (.int r :: S)))) : Rt p e below s k n P (T.setTop (mkF m pc Ls (.long v :: S))) := by
  subst hp hr; obtain ⟨_, X, _, _⟩ := X; exact Rt.go (fun _ => XS.l2i X.here hx rfl hd rfl) h
theorem Rt.i2b (X : Sd p l e R s m args below meth c T n0 cells slots h0) (hx : p.tables.exec = Jvm.exec) {pc pc' : Nat} {Ls : Array Slot} {S : List Value} {v : Int32} {r : Int32} (hd : decode c.code pc = .ok (.i2b, 1)) (hr : v.toInt8.toInt32 = r) (hp : pc + 1 = pc')
    (h : Rt p e below s k n P (T.setTop (mkF m pc' Ls (.int r :: S)))) : Rt p e below s k n P (T.setTop (mkF m pc Ls (.int v :: S))) := by
  subst hp hr; obtain ⟨_, X, _, _⟩ := X; exact Rt.go (fun _ => XS.i2b X.here hx rfl hd rfl) h
theorem Rt.i2s (X : Sd p l e R s m args below meth c T n0 cells slots h0) (hx : p.tables.exec = Jvm.exec) {pc pc' : Nat} {Ls : Array Slot} {S : List Value} {v : Int32} {r : Int32} (hd : decode c.code pc = .ok (.i2s, 1)) (hr : v.toInt16.toInt32 = r) (hp : pc + 1 = pc')
    (h : Rt p e below s k n P (T.setTop (mkF m pc' Ls (.int r :: S)))) : Rt p e below s k n P (T.setTop (mkF m pc Ls (.int v :: S))) := by
  subst hp hr; obtain ⟨_, X, _, _⟩ := X; exact Rt.go (fun _ => XS.i2s X.here hx rfl hd rfl) h
theorem Rt.i2c (X : Sd p l e R s m args below meth c T n0 cells slots h0) (hx : p.tables.exec = Jvm.exec) {pc pc' : Nat} {Ls : Array Slot} {S : List Value} {v : Int32} {r : Int32} (hd : decode c.code pc = .ok (.i2c, 1)) (hr : v.toUInt32.toUInt16.toUInt32.toInt32 = r) (hp : pc + 1 = pc')
    (h : Rt p e below s k n P (T.setTop (mkF m pc' Ls (.int r :: S)))) : Rt p e below s k n P (T.setTop (mkF m pc Ls (.int v :: S))) := by
  subst hp hr; obtain ⟨_, X, _, _⟩ := X; exact Rt.go (fun _ => XS.i2c X.here hx rfl hd rfl) h
theorem Rt.lcmp (X : Sd p l e R s m args below meth c T n0 cells slots h0) (hx : p.tables.exec = Jvm.exec) {pc pc' : Nat} {Ls : Array Slot} {S : List Value} {x y : Int64} (hd : decode c.code pc = .ok (.lcmp, 1)) (hp : pc + 1 = pc')
    (h : Rt p e below s k n P (T.setTop (mkF m pc' Ls (.int (lcmpW x y) :: S)))) : Rt p e below s k n P (T.setTop (mkF m pc Ls (.long y :: .long x :: S))) := by
  subst hp; obtain ⟨_, X, _, _⟩ := X; exact Rt.go (fun _ => XS.lcmp X.here hx rfl hd rfl) h
theorem Rt.iinc (X : Sd p l e R s m args below meth c T n0 cells slots h0) (hx : p.tables.exec = Jvm.exec) {pc pc' : Nat} {Ls : Array Slot} {S : List Value} {j : Nat} {cst : Int} {x r : Int32} {l' : Array Slot} (hd : decode c.code pc = .ok (.iinc j cst, 3)) (hl : Ls[j]? = some (.val (.int x))) (hr : x + Int32.ofInt cst = r) (hl' : storeLocals Ls j (.int r) = some l') (hp : pc + 3 = pc')
    (h : Rt p e below s k n P (T.setTop (mkF m pc' l' S))) : Rt p e below s k n P (T.setTop (mkF m pc Ls S)) := by
  subst hp hr; obtain ⟨_, X, _, _⟩ := X; exact Rt.go (fun _ => XS.iinc X.here hx rfl hd hl hl') h
theorem Rt.dup (X : Sd p l e R s m args below meth c T n0 cells slots h0) (hx : p.tables.exec = Jvm.exec) {pc pc' : Nat} {Ls : Array Slot} {S : List Value} {x : Value} (hd : decode c.code pc = .ok (.dup, 1)) (hc : x.category = 1) (hp : pc + 1 = pc')
    (h : Rt p e below s k n P (T.setTop (mkF m pc' Ls (x :: x :: S)))) : Rt p e below s k n P (T.setTop (mkF m pc Ls (x :: S))) := by
  subst hp; obtain ⟨_, X, _, _⟩ := X; exact Rt.go (fun _ => XS.dup X.here hx rfl hd rfl hc) h
theorem Rt.pop (X : Sd p l e R s m args below meth c T n0 cells slots h0) (hx : p.tables.exec = Jvm.exec) {pc pc' : Nat} {Ls : Array Slot} {S : List Value} {x : Value} (hd : decode c.code pc = .ok (.pop, 1)) (hc : x.category = 1) (hp : pc + 1 = pc')
    (h : Rt p e below s k n P (T.setTop (mkF m pc' Ls (S)))) : Rt p e below s k n P (T.setTop (mkF m pc Ls (x :: S))) := by
  subst hp; obtain ⟨_, X, _, _⟩ := X; exact Rt.go (fun _ => XS.pop X.here hx rfl hd rfl hc) h
theorem Rt.dup2 (X : Sd p l e R s m args below meth c T n0 cells slots h0) (hx : p.tables.exec = Jvm.exec) {pc pc' : Nat} {Ls : Array Slot} {S : List Value} {x y : Value} (hd : decode c.code pc = .ok (.dup2, 1)) (hc : x.category = 1) (hc2 : y.category = 1) (hp : pc + 1 = pc')
    (h : Rt p e below s k n P (T.setTop (mkF m pc' Ls (x :: y :: x :: y :: S)))) : Rt p e below s k n P (T.setTop (mkF m pc Ls (x :: y :: S))) := by
  subst hp; obtain ⟨_, X, _, _⟩ := X; exact Rt.go (fun _ => XT.dup2 X.here hx rfl hd rfl hc hc2) h
theorem Rt.dupX1 (X : Sd p l e R s m args below meth c T n0 cells slots h0) (hx : p.tables.exec = Jvm.exec) {pc pc' : Nat} {Ls : Array Slot} {S : List Value} {x y : Value} (hd : decode c.code pc = .ok (.dup_x1, 1)) (hc : x.category = 1) (hc2 : y.category = 1) (hp : pc + 1 = pc')
    (h : Rt p e below s k n P (T.setTop (mkF m pc' Ls (x :: y :: x :: S)))) : Rt p e below s k n P (T.setTop (mkF m pc Ls (x :: y :: S))) := by
  subst hp; obtain ⟨_, X, _, _⟩ := X; exact Rt.go (fun _ => XS.dupX1 X.here hx rfl hd rfl hc hc2) h
theorem Rt.goto (X : Sd p l e R s m args below meth c T n0 cells slots h0) (hx : p.tables.exec = Jvm.exec) {pc pc' : Nat} {Ls : Array Slot} {S : List Value} {o : Int} (hd : decode c.code pc = .ok (.goto o, 3)) (ho : 0 ≤ (pc : Int) + o) (hp : ((pc : Int) + o).toNat = pc')
    (h : Rt p e below s k n P (T.setTop (mkF m pc' Ls S))) : Rt p e below s k n P (T.setTop (mkF m pc Ls S)) := by
  obtain ⟨_, X, _, _⟩ := X; exact Rt.go (fun _ => XS.goto X.here hx rfl (pc0 := pc) rfl hd ho hp) h
theorem Rt.ifY (X : Sd p l e R s m args below meth c T n0 cells slots h0) (hx : p.tables.exec = Jvm.exec) {pc pc' : Nat} {Ls : Array Slot} {S : List Value} {o : Int} {cd : ClassFile.Cond} {x : Int32} (hd : decode c.code pc = .ok (.ifCond cd o, 3)) (hc : ifCond.holds cd x = true) (ho : 0 ≤ (pc : Int) + o) (hp : ((pc : Int) + o).toNat = pc')
    (h : Rt p e below s k n P (T.setTop (mkF m pc' Ls S))) : Rt p e below s k n P (T.setTop (mkF m pc Ls (.int x :: S))) := by
  obtain ⟨_, X, _, _⟩ := X; exact Rt.go (fun _ => XS.ifYes X.here hx rfl (pc0 := pc) rfl hd rfl hc ho hp) h
theorem Rt.ifN (X : Sd p l e R s m args below meth c T n0 cells slots h0) (hx : p.tables.exec = Jvm.exec) {pc pc' : Nat} {Ls : Array Slot} {S : List Value} {o : Int} {cd : ClassFile.Cond} {x : Int32} (hd : decode c.code pc = .ok (.ifCond cd o, 3)) (hc : ifCond.holds cd x = false) (hp : pc + 3 = pc')
    (h : Rt p e below s k n P (T.setTop (mkF m pc' Ls S))) : Rt p e below s k n P (T.setTop (mkF m pc Ls (.int x :: S))) := by
  subst hp; obtain ⟨_, X, _, _⟩ := X; exact Rt.go (fun _ => XS.ifNo X.here hx rfl hd rfl hc) h
theorem Rt.icmpY (X : Sd p l e R s m args below meth c T n0 cells slots h0) (hx : p.tables.exec = Jvm.exec) {pc pc' : Nat} {Ls : Array Slot} {S : List Value} {o : Int} {cd : ClassFile.Cond} {x y : Int32} (hd : decode c.code pc = .ok (.if_icmp cd o, 3)) (hc : if_icmp.holds cd x y = true) (ho : 0 ≤ (pc : Int) + o) (hp : ((pc : Int) + o).toNat = pc')
    (h : Rt p e below s k n P (T.setTop (mkF m pc' Ls S))) : Rt p e below s k n P (T.setTop (mkF m pc Ls (.int y :: .int x :: S))) := by
  obtain ⟨_, X, _, _⟩ := X; exact Rt.go (fun _ => XS.icmpYes X.here hx rfl (pc0 := pc) rfl hd rfl hc ho hp) h
theorem Rt.icmpN (X : Sd p l e R s m args below meth c T n0 cells slots h0) (hx : p.tables.exec = Jvm.exec) {pc pc' : Nat} {Ls : Array Slot} {S : List Value} {o : Int} {cd : ClassFile.Cond} {x y : Int32} (hd : decode c.code pc = .ok (.if_icmp cd o, 3)) (hc : if_icmp.holds cd x y = false) (hp : pc + 3 = pc')
    (h : Rt p e below s k n P (T.setTop (mkF m pc' Ls S))) : Rt p e below s k n P (T.setTop (mkF m pc Ls (.int y :: .int x :: S))) := by
  subst hp; obtain ⟨_, X, _, _⟩ := X; exact Rt.go (fun _ => XS.icmpNo X.here hx rfl hd rfl hc) h
theorem Rt.ifnullY (X : Sd p l e R s m args below meth c T n0 cells slots h0) (hx : p.tables.exec = Jvm.exec) {pc pc' : Nat} {Ls : Array Slot} {S : List Value} {o : Int} (hd : decode c.code pc = .ok (.ifnull o, 3)) (ho : 0 ≤ (pc : Int) + o) (hp : ((pc : Int) + o).toNat = pc')
    (h : Rt p e below s k n P (T.setTop (mkF m pc' Ls S))) : Rt p e below s k n P (T.setTop (mkF m pc Ls (.null :: S))) := by
  obtain ⟨_, X, _, _⟩ := X; exact Rt.go (fun _ => XS.ifnullYes X.here hx rfl (pc0 := pc) rfl hd rfl ho hp) h
theorem Rt.ifnullN (X : Sd p l e R s m args below meth c T n0 cells slots h0) (hx : p.tables.exec = Jvm.exec) {pc pc' : Nat} {Ls : Array Slot} {S : List Value} {o : Int} {b : Addr} (hd : decode c.code pc = .ok (.ifnull o, 3)) (hp : pc + 3 = pc')
    (h : Rt p e below s k n P (T.setTop (mkF m pc' Ls S))) : Rt p e below s k n P (T.setTop (mkF m pc Ls (.ref b :: S))) := by
  subst hp; obtain ⟨_, X, _, _⟩ := X; exact Rt.go (fun _ => XS.ifnullNo X.here hx rfl hd rfl) h
theorem Rt.ifnonnullY (X : Sd p l e R s m args below meth c T n0 cells slots h0) (hx : p.tables.exec = Jvm.exec) {pc pc' : Nat} {Ls : Array Slot} {S : List Value} {o : Int} {b : Addr} (hd : decode c.code pc = .ok (.ifnonnull o, 3)) (ho : 0 ≤ (pc : Int) + o) (hp : ((pc : Int) + o).toNat = pc')
    (h : Rt p e below s k n P (T.setTop (mkF m pc' Ls S))) : Rt p e below s k n P (T.setTop (mkF m pc Ls (.ref b :: S))) := by
  obtain ⟨_, X, _, _⟩ := X; exact Rt.go (fun _ => XS.ifnonnullYes X.here hx rfl (pc0 := pc) rfl hd rfl ho hp) h
theorem Rt.ifnonnullN (X : Sd p l e R s m args below meth c T n0 cells slots h0) (hx : p.tables.exec = Jvm.exec) {pc pc' : Nat} {Ls : Array Slot} {S : List Value} {o : Int} (hd : decode c.code pc = .ok (.ifnonnull o, 3)) (hp : pc + 3 = pc')
    (h : Rt p e below s k n P (T.setTop (mkF m pc' Ls S))) : Rt p e below s k n P (T.setTop (mkF m pc Ls (.null :: S))) := by
  subst hp; obtain ⟨_, X, _, _⟩ := X; exact Rt.go (fun _ => XS.ifnonnullNo X.here hx rfl hd rfl) h
theorem Rt.acmp (X : Sd p l e R s m args below meth c T n0 cells slots h0) (hx : p.tables.exec = Jvm.exec) {pc pc' : Nat} {Ls : Array Slot} {S : List Value} {o : Int} {cd : ACond} {x y : Value} {same : Bool} (h1 : x.isRef = true) (h2 : y.isRef = true) (hd : decode c.code pc = .ok (.if_acmp cd o, 3)) (hq : decide (x = y) = same) (ho : 0 ≤ (pc : Int) + o) (hp : pc' = if acV cd same = true then ((pc : Int) + o).toNat else pc + 3)
    (h : Rt p e below s k n P (T.setTop (mkF m pc' Ls S))) : Rt p e below s k n P (T.setTop (mkF m pc Ls (y :: x :: S))) := by
  obtain ⟨_, X, _, _⟩ := X; exact Rt.go (fun _ => Jvm.RoadKit.acmp X hx rfl h1 h2 (pc0 := pc) rfl hd rfl hq ho hp) h
theorem Rt.retZ (X : Sd p l e R s m args below meth c T n0 cells slots h0) (hx : p.tables.exec = Jvm.exec) (hlk : meth.locks = false) {t : FieldType} (hret : meth.sig.returnType = some t) (ht : t = .boolean ∨ t = .byte ∨ t = .char ∨ t = .short) {pc : Nat} {Ls : Array Slot} {S : List Value} {z w : Int32} (hd : decode c.code pc = .ok (.ireturn, 1)) (hw : nar t z = w) (hk : cells ≤ k) (hn : slots ≤ n)
    (hP : ∀ L, Fr n0 L → P (some (.int w)) h0 L) : Rt p e below s k n P (T.setTop (mkF m pc Ls (.int z :: S))) := by
  subst hw; obtain ⟨locs, X, N, eh⟩ := X
  obtain ⟨fs, hr, hrun, hended, hW, hsame⟩ := X.leave (v := some (.int (nar t z))) (fun h => by rw [hret] at h; cases h) hlk
  exact ⟨_, _, retN X hx hret ht hd hr, hrun, hended, _, _, rfl, by show P _ T.heap _; rw [eh]; exact hP _ N, ⟨_, rfl⟩, hW, hsame.mono hk hn⟩
theorem Rt.retI (X : Sd p l e R s m args below meth c T n0 cells slots h0) (hx : p.tables.exec = Jvm.exec) (hlk : meth.locks = false) (hret : meth.sig.returnType = some .int) {pc : Nat} {Ls : Array Slot} {S : List Value} {z : Int32} (hd : decode c.code pc = .ok (.ireturn, 1)) (hk : cells ≤ k) (hn : slots ≤ n)
    (hP : ∀ L, Fr n0 L → P (some (.int z)) h0 L) : Rt p e below s k n P (T.setTop (mkF m pc Ls (.int z :: S))) := by
  obtain ⟨locs, X, N, eh⟩ := X
  obtain ⟨fs, hr, hrun, hended, hW, hsame⟩ := X.leave (v := some (.int z)) (fun h => by rw [hret] at h; cases h) hlk
  exact ⟨_, _, Jvm.RoadKit.retI X hx hret hd hr, hrun, hended, _, _, rfl, by show P _ T.heap _; rw [eh]; exact hP _ N, ⟨_, rfl⟩, hW, hsame.mono hk hn⟩
theorem Rt.retJ (X : Sd p l e R s m args below meth c T n0 cells slots h0) (hx : p.tables.exec = Jvm.exec) (hlk : meth.locks = false) (hret : meth.sig.returnType = some .long) {pc : Nat} {Ls : Array Slot} {z : Int64} (hd : decode c.code pc = .ok (.lreturn, 1)) (hk : cells ≤ k) (hn : slots ≤ n)
    (hP : ∀ L, Fr n0 L → P (some (.long z)) h0 L) : Rt p e below s k n P (T.setTop (mkF m pc Ls [.long z])) := by
  obtain ⟨locs, X, N, eh⟩ := X
  obtain ⟨fs, hr, hrun, hended, hW, hsame⟩ := X.leave (v := some (.long z)) (fun h => by rw [hret] at h; cases h) hlk
  exact ⟨_, _, X.lreturnOut hx hret hd hr, hrun, hended, _, _, rfl, by show P _ T.heap _; rw [eh]; exact hP _ N, ⟨_, rfl⟩, hW, hsame.mono hk hn⟩
theorem Rt.retA (X : Sd p l e R s m args below meth c T n0 cells slots h0) (hx : p.tables.exec = Jvm.exec) (hlk : meth.locks = false) {t : FieldType} (ht : t.isReference = true) (hret : meth.sig.returnType = some t) {pc : Nat} {Ls : Array Slot} {v : Value} (hv : v.isRef = true) (hd : decode c.code pc = .ok (.areturn, 1)) (hk : cells ≤ k) (hn : slots ≤ n)
    (hP : ∀ L, Fr n0 L → P (some v) h0 L) : Rt p e below s k n P (T.setTop (mkF m pc Ls [v])) := by
  obtain ⟨locs, X, N, eh⟩ := X
  obtain ⟨fs, hr, hrun, hended, hW, hsame⟩ := X.leave (v := some v) (fun h => by rw [hret] at h; cases h) hlk
  exact ⟨_, _, Jvm.RoadKit.retA X hx ht hv hret hd hr, hrun, hended, _, _, rfl, by show P _ T.heap _; rw [eh]; exact hP _ N, ⟨_, rfl⟩, hW, hsame.mono hk hn⟩
theorem Rt.retV (X : Sd p l e R s m args below meth c T n0 cells slots h0) (hx : p.tables.exec = Jvm.exec) (hlk : meth.locks = false) (hret : meth.sig.returnType = none) {pc : Nat} {Ls : Array Slot}  (hd : decode c.code pc = .ok (.return_, 1)) (hk : cells ≤ k) (hn : slots ≤ n)
    (hP : ∀ L, Fr n0 L → P none h0 L) : Rt p e below s k n P (T.setTop (mkF m pc Ls [])) := by
  obtain ⟨locs, X, N, eh⟩ := X
  obtain ⟨fs, hr, hrun, hended, hW, hsame⟩ := X.leave (v := none) (fun _ => rfl) hlk
  exact ⟨_, _, X.returnOut hx hret hd hr, hrun, hended, _, _, rfl, by show P _ T.heap _; rw [eh]; exact hP _ N, ⟨_, rfl⟩, hW, hsame.mono hk hn⟩
theorem Rt.ldcInt (X : Sd p l e R s m args below meth c T n0 cells slots h0) (hx : p.tables.exec = Jvm.exec) {Z : State} {a0 : Array Value} (hZ : Z.Warmed39 s.vm) {own : String} {index : Nat} {v : Int32} (hown : s.vm.findClass own = some m.cls) (w : (Cond.constant own index v).before a0 Z = true) {pc pc' : Nat} {Ls : Array Slot} {S : List Value} (hd : decode c.code pc = .ok (.ldc index, 2)) (hp : pc + 2 = pc')
    (h : Rt p e below s k n P (T.setTop (mkF m pc' Ls (.int v :: S)))) : Rt p e below s k n P (T.setTop (mkF m pc Ls S)) := by
  subst hp; obtain ⟨_, X, _, _⟩ := X; exact Rt.go (X.ldcInt hx hown (mvT hZ w) (g := mkF m pc Ls S) rfl hd) h
theorem Rt.ldcwInt (X : Sd p l e R s m args below meth c T n0 cells slots h0) (hx : p.tables.exec = Jvm.exec) {Z : State} {a0 : Array Value} (hZ : Z.Warmed39 s.vm) {own : String} {index : Nat} {v : Int32} (hown : s.vm.findClass own = some m.cls) (w : (Cond.constant own index v).before a0 Z = true) {pc pc' : Nat} {Ls : Array Slot} {S : List Value} (hd : decode c.code pc = .ok (.ldc_w index, 3)) (hp : pc + 3 = pc')
    (h : Rt p e below s k n P (T.setTop (mkF m pc' Ls (.int v :: S)))) : Rt p e below s k n P (T.setTop (mkF m pc Ls S)) := by
  subst hp; obtain ⟨_, X, _, _⟩ := X; exact Rt.go (X.ldcwInt hx hown (mvT hZ w) (g := mkF m pc Ls S) rfl hd) h
theorem Rt.ldc2Long (X : Sd p l e R s m args below meth c T n0 cells slots h0) (hx : p.tables.exec = Jvm.exec) {Z : State} {a0 : Array Value} (hZ : Z.Warmed39 s.vm) {own : String} {index : Nat} {v : Int64} (hown : s.vm.findClass own = some m.cls) (w : (Cond.constantLong own index v).before a0 Z = true) {pc pc' : Nat} {Ls : Array Slot} {S : List Value} (hd : decode c.code pc = .ok (.ldc2_w index, 3)) (hp : pc + 3 = pc')
    (h : Rt p e below s k n P (T.setTop (mkF m pc' Ls (.long v :: S)))) : Rt p e below s k n P (T.setTop (mkF m pc Ls S)) := by
  subst hp; obtain ⟨_, X, _, _⟩ := X; exact Rt.go (X.ldc2Long hx hown (mvT hZ w) (g := mkF m pc Ls S) rfl hd) h
theorem ltl {x y : Int64} (h : x < y) : ifCond.holds .lt (lcmpW x y) = true ∧ ifCond.holds .ge (lcmpW x y) = false := ⟨(if0 _ _).trans (tlt ((lw_lt x y).mpr h)).1, (if0 _ _).trans (tlt ((lw_lt x y).mpr h)).2.1⟩
theorem lfl {x y : Int64} (h : ¬ x < y) : ifCond.holds .lt (lcmpW x y) = false ∧ ifCond.holds .ge (lcmpW x y) = true := ⟨(if0 _ _).trans (flt (fun q => h ((lw_lt x y).mp q))).1, (if0 _ _).trans (flt (fun q => h ((lw_lt x y).mp q))).2.1⟩
theorem gtl {x y : Int64} (h : y < x) : ifCond.holds .gt (lcmpW x y) = true ∧ ifCond.holds .le (lcmpW x y) = false := ⟨(if0 _ _).trans (tlt ((lw_gt x y).mpr h)).2.2.1, (if0 _ _).trans (tlt ((lw_gt x y).mpr h)).2.2.2⟩
theorem gfl {x y : Int64} (h : ¬ y < x) : ifCond.holds .gt (lcmpW x y) = false ∧ ifCond.holds .le (lcmpW x y) = true := ⟨(if0 _ _).trans (flt (fun q => h ((lw_gt x y).mp q))).2.2.1, (if0 _ _).trans (flt (fun q => h ((lw_gt x y).mp q))).2.2.2⟩
theorem etl {x y : Int64} (h : x = y) : ifCond.holds .eq (lcmpW x y) = true ∧ ifCond.holds .ne (lcmpW x y) = false := ⟨(if0 _ _).trans (teq ((lw_eq x y).mpr h)).1, (if0 _ _).trans (teq ((lw_eq x y).mpr h)).2⟩
theorem efl {x y : Int64} (h : ¬ x = y) : ifCond.holds .eq (lcmpW x y) = false ∧ ifCond.holds .ne (lcmpW x y) = true := ⟨(if0 _ _).trans (feq (fun q => h ((lw_eq x y).mp q))).1, (if0 _ _).trans (feq (fun q => h ((lw_eq x y).mp q))).2⟩
/-- what a method leaves: its contract's form -/
abbrev Mt (l : Launch) (Z : State) (y : MethodName) (ws : List Jvm.Cond) (rm : Room) (as' : Array Value) (h : Heap) (Q : Option Value → Heap → List Loc → Prop) : Prop :=
  MetFree l y (head1 ws rm) (fun a U => a = as' ∧ Z.Warmed39 U.vm ∧ U.heap = h) (fun _ _ _ _ _ => True) (fun _ U o U' => ∃ v L, o = .returned v ∧ Q v U'.heap L ∧ FrameEnd U o U' L rm.cells rm.slots)
/-- from a body's walk to its contract -/
theorem Mt.of {Z : State} {y : MethodName} {bytes : ByteArray} {maxL : Nat} {ret : Option FieldType} {ws : List Jvm.Cond} {rm : Room} {as' : Array Value} {h : Heap} {Q : Option Value → Heap → List Loc → Prop} (n0 : Nat) (hpl : plainFor y = true)
    (body : ∀ (p : Program) (e : Env) (s : State) (m : MethodId) (below : List Frame) (meth : Method) (c : Code) (T : State), Sd p l e rm s m as' below meth c T n0 0 0 h → p.tables.exec = Jvm.exec → Z.Warmed39 s.vm → c.code = bytes → c.maxLocals = maxL → s.vm.findClass y.cls = some m.cls → meth.sig.returnType = ret → meth.locks = false → meth.name = y.name → s.heap = h →
      Rt p e below s rm.cells rm.slots Q (T.setTop (entryFrame m as' maxL))) : Mt l Z y (Jvm.Cond.code y bytes maxL ret :: ws) rm as' h Q := by
  refine MetFree.of_bodySF hpl hisR ?_
  intro p e s m args below meth c s₁ Bd hml0 hP hK
  obtain ⟨rfl, hZ, hh⟩ := hP
  have e0 : s₁.heap = h := by rw [← hh, Bd.state]; rfl
  obtain ⟨s₂, o, h1, h2, h3, v, L, h4, h5, h6⟩ := body p e s m below meth c s₁ ⟨[], Stand.of_body Bd, Fr.nil n0, e0⟩ Bd.exec hZ Bd.bytes hml0 (findClass_of_methodNamed Bd.named) Bd.returns (BodyLoose.notSynchronized Bd) (name_of_methodNamed Bd.named Bd.method).1 hh
  exact ⟨s₂, o, h1, h2, h3, v, L, h4, h5, h6⟩
theorem Rt.callS (X : Sd p l e R s m args below meth c T n0 cells slots h0) (hx : p.tables.exec = Jvm.exec) {Z : State} {a0 : Array Value} (hZ : Z.Warmed39 s.vm) {own : String} {index : Nat} {y : MethodName} {bytes : ByteArray} {maxL W : Nat} {ret : Option FieldType} {rm : Room} {as' : Array Value} {Q : Option Value → Heap → List Loc → Prop}
    (hown : s.vm.findClass own = some m.cls) (w1 : (Cond.methodLink own index y).before a0 Z = true) (w2 : (Cond.static y).before a0 Z = true) (w3 : (Cond.initialized y.cls).before a0 Z = true) (w4 : (Cond.code y bytes maxL ret).before a0 Z = true) (hy : y.cls ≠ "java/lang/invoke/MethodHandle" ∧ y.cls ≠ "java/lang/invoke/VarHandle")
    (hM : Mt l Z y [Cond.code y bytes maxL ret] rm as' h0 Q) (hF : ∀ v h L, Q v h L → Fr n0 L) (hf : rm.frames + 1 ≤ R.frames) (hl : W + (maxL + 11) + rm.locals ≤ R.locals) (hc : cells + rm.cells ≤ R.cells) (hs : slots + rm.slots ≤ R.slots)
    {pc pc' : Nat} {Ls : Array Slot} {S argsL rest : List Value} (hsize : Ls.size = c.maxLocals) (hlen : ∀ sig, parseMethodDescriptor y.desc = some sig → argsL.length = sig.parameters.length) (hst : S = argsL.reverse ++ rest) (has : argsL.toArray = as') (hW : (rest.map fun v => v.category).sum ≤ W) (hd : decode c.code pc = .ok (.invokestatic index, 3)) (hp : pc + 3 = pc')
    (hh : ∀ v T' h' L, Sd p l e R s m args below meth c T' n0 (cells + rm.cells) (slots + rm.slots) h' → Q v h' L → Rt p e below s k n P (T'.setTop (mkF m pc' Ls (v.toList ++ rest)))) : Rt p e below s k n P (T.setTop (mkF m pc Ls S)) := by
  subst hp has
  obtain ⟨locs, X, N, eT⟩ := X
  obtain ⟨v, _, ⟨T', L', k', n'⟩, -, X', ⟨Lc, hQ, l', y', z'⟩, st⟩ := Jvm.LawKit.callS X hx (y := y) hown (mvT hZ w1) (mvT hZ w2) (mvT hZ w3) (mvT hZ w4) hy (backOf (W := W) hM hZ w4 w3 hf hl) (g := mkF m pc Ls S) rfl hsize (argsL := argsL) (rest := rest) hlen hst (by show 2 * 0 + _ ≤ _; omega) hd (fun _ _ => ⟨rfl, eT, hc, hs⟩)
  dsimp only [Pt.U, Pt.locs, Pt.cells, Pt.slots] at X' l' y' z' st hQ
  subst l' y' z'
  exact Rt.go st (hh v T' _ Lc ⟨_, X', Fr.app N (hF _ _ _ hQ), rfl⟩ hQ)
/-- a static method that writes nothing -/
theorem Rt.callP (X : Sd p l e R s m args below meth c T n0 cells slots h0) (hx : p.tables.exec = Jvm.exec) {Z : State} {a0 : Array Value} (hZ : Z.Warmed39 s.vm) {own : String} {index : Nat} {y : MethodName} {bytes : ByteArray} {maxL W : Nat} {ret : Option FieldType} {rm : Room} {as' : Array Value} {r : Value}
    (hown : s.vm.findClass own = some m.cls) (w1 : (Cond.methodLink own index y).before a0 Z = true) (w2 : (Cond.static y).before a0 Z = true) (w3 : (Cond.initialized y.cls).before a0 Z = true) (w4 : (Cond.code y bytes maxL ret).before a0 Z = true) (hy : y.cls ≠ "java/lang/invoke/MethodHandle" ∧ y.cls ≠ "java/lang/invoke/VarHandle")
    (hM : Mt l Z y [Cond.code y bytes maxL ret] rm as' h0 (fun v h L => v = some r ∧ Fr n0 L ∧ h = h0)) (hf : rm.frames + 1 ≤ R.frames) (hl : W + (maxL + 11) + rm.locals ≤ R.locals) (hc : cells + rm.cells ≤ R.cells) (hs : slots + rm.slots ≤ R.slots) (hc0 : rm.cells = 0) (hs0 : rm.slots = 0)
    {pc pc' : Nat} {Ls : Array Slot} {S argsL rest : List Value} (hsize : Ls.size = c.maxLocals) (hlen : ∀ sig, parseMethodDescriptor y.desc = some sig → argsL.length = sig.parameters.length) (hst : S = argsL.reverse ++ rest) (has : argsL.toArray = as') (hW : (rest.map fun v => v.category).sum ≤ W) (hd : decode c.code pc = .ok (.invokestatic index, 3)) (hp : pc + 3 = pc')
    (hh : ∀ T', Sd p l e R s m args below meth c T' n0 cells slots h0 → Rt p e below s k n P (T'.setTop (mkF m pc' Ls (r :: rest)))) : Rt p e below s k n P (T.setTop (mkF m pc Ls S)) := by
  refine Rt.callS X hx hZ hown w1 w2 w3 w4 hy hM (fun _ _ _ q => q.2.1) hf hl hc hs hsize hlen hst has hW hd hp ?_
  rintro v T' h' L X' ⟨rfl, _, rfl⟩
  rw [hc0, hs0, Nat.add_zero, Nat.add_zero] at X'
  exact hh T' X'
/-- an instance method, by the contract of the body that the receiver's class selects -/
theorem Rt.callV (X : Sd p l e R s m args below meth c T n0 cells slots h0) (hx : p.tables.exec = Jvm.exec) {Z : State} {a0 : Array Value} (hZ : Z.Warmed39 s.vm) {own : String} {index : Nat} {y : MethodName} {bytes : ByteArray} {maxL W : Nat} {ret : Option FieldType} {rm : Room} {as' : Array Value} {Q : Option Value → Heap → List Loc → Prop} {K : String} {yz : MethodName}
    (hown : s.vm.findClass own = some m.cls) (w1 : (Cond.methodLink own index y).before a0 Z = true) (w2 : (Cond.declares y).before a0 Z = true) (hnf : NotFace s y) (w5 : (Cond.selects K y yz).before a0 Z = true) (w6 : (Cond.instanceMethod yz).before a0 Z = true) (w3 : (Cond.initialized yz.cls).before a0 Z = true) (w4 : (Cond.code yz bytes maxL ret).before a0 Z = true) (hy : y.cls ≠ "java/lang/invoke/MethodHandle" ∧ y.cls ≠ "java/lang/invoke/VarHandle")
    {a : Addr} (E : Exa Z h0 a K) (hM : Mt l Z yz [Cond.code yz bytes maxL ret] rm as' h0 Q) (hF : ∀ v h L, Q v h L → Fr n0 L) (hf : rm.frames + 1 ≤ R.frames) (hl : W + (maxL + 11) + rm.locals ≤ R.locals) (hc : cells + rm.cells ≤ R.cells) (hs : slots + rm.slots ≤ R.slots)
    {pc pc' : Nat} {Ls : Array Slot} {S argsL rest : List Value} (hsize : Ls.size = c.maxLocals) (hlen : ∀ sig, parseMethodDescriptor y.desc = some sig → argsL.length = sig.parameters.length) (hst : S = argsL.reverse ++ .ref a :: rest) (has : (.ref a :: argsL).toArray = as') (hW : (rest.map fun v => v.category).sum ≤ W) (hd : decode c.code pc = .ok (.invokevirtual index, 3)) (hp : pc + 3 = pc')
    (hh : ∀ v T' h' L, Sd p l e R s m args below meth c T' n0 (cells + rm.cells) (slots + rm.slots) h' → Q v h' L → Rt p e below s k n P (T'.setTop (mkF m pc' Ls (v.toList ++ rest)))) : Rt p e below s k n P (T.setTop (mkF m pc Ls S)) := by
  subst hp has
  obtain ⟨locs, X, N, eT⟩ := X
  obtain ⟨cq, kq, qa, qb, qc⟩ := isOf hZ eT E
  obtain ⟨v, _, ⟨T', L', k', n'⟩, -, X', ⟨Lc, hQ, l', y', z'⟩, st⟩ := X.virtualBack hx (y := y) (z := yz) hown (mvT hZ w1) (mvT hZ w2) hnf (mvT hZ w5) (mvT hZ w6) hy (backOf (W := W) hM hZ w4 w3 hf hl) qa qc (g := mkF m pc Ls S) rfl hsize (Steps.refl _) (argsL := argsL) (rest := rest) hlen hst (by show 2 * 0 + _ ≤ _; omega) hd (fun _ _ => ⟨rfl, eT, hc, hs⟩)
  dsimp only [Pt.U, Pt.locs, Pt.cells, Pt.slots] at X' l' y' z' st hQ
  subst l' y' z'
  exact Rt.go (fun _ q => st.trans q) (hh v T' _ Lc ⟨_, X', Fr.app N (hF _ _ _ hQ), rfl⟩ hQ)
/-- a constructor by its contract -/
theorem Rt.callI (X : Sd p l e R s m args below meth c T n0 cells slots h0) (hx : p.tables.exec = Jvm.exec) {Z : State} {a0 : Array Value} (hZ : Z.Warmed39 s.vm) {own : String} {index : Nat} {y : MethodName} {bytes : ByteArray} {maxL W : Nat} {rm : Room} {as' : Array Value} {Q : Option Value → Heap → List Loc → Prop} (hy1 : y.name = "<init>")
    (hown : s.vm.findClass own = some m.cls) (w1 : (Cond.methodLink own index y).before a0 Z = true) (w2 : (Cond.instanceMethod y).before a0 Z = true) (w3 : (Cond.initialized y.cls).before a0 Z = true) (w4 : (Cond.code y bytes maxL none).before a0 Z = true) (hy : y.cls ≠ "java/lang/invoke/MethodHandle" ∧ y.cls ≠ "java/lang/invoke/VarHandle")
    {a : Addr} (hM : Mt l Z y [Cond.code y bytes maxL none] rm as' h0 Q) (hF : ∀ v h L, Q v h L → Fr n0 L) (hf : rm.frames + 1 ≤ R.frames) (hl : W + (maxL + 11) + rm.locals ≤ R.locals) (hc : cells + rm.cells ≤ R.cells) (hs : slots + rm.slots ≤ R.slots)
    {pc pc' : Nat} {Ls : Array Slot} {S argsL rest : List Value} (hsize : Ls.size = c.maxLocals) (hlen : ∀ sig, parseMethodDescriptor y.desc = some sig → argsL.length = sig.parameters.length) (hst : S = argsL.reverse ++ .ref a :: rest) (has : (.ref a :: argsL).toArray = as') (hW : (rest.map fun v => v.category).sum ≤ W) (hd : decode c.code pc = .ok (.invokespecial index, 3)) (hp : pc + 3 = pc')
    (hh : ∀ v T' h' L, Sd p l e R s m args below meth c T' n0 (cells + rm.cells) (slots + rm.slots) h' → Q v h' L → Rt p e below s k n P (T'.setTop (mkF m pc' Ls (v.toList ++ rest)))) : Rt p e below s k n P (T.setTop (mkF m pc Ls S)) := by
  subst hp has
  obtain ⟨locs, X, N, eT⟩ := X
  obtain ⟨v, _, ⟨T', L', k', n'⟩, -, X', ⟨Lc, hQ, l', y', z'⟩, st⟩ := X.specialBack hx (y := y) hy1 hown (mvT hZ w1) (mvT hZ w2) (mvT hZ w4) hy (backOf (W := W) hM hZ w4 w3 hf hl) (g := mkF m pc Ls S) rfl hsize (Steps.refl _) (a := a) (argsL := argsL) (rest := rest) hlen hst (by show 2 * 0 + _ ≤ _; omega) hd (fun _ _ => ⟨rfl, eT, hc, hs⟩)
  dsimp only [Pt.U, Pt.locs, Pt.cells, Pt.slots] at X' l' y' z' st hQ
  subst l' y' z'
  exact Rt.go (fun _ q => st.trans q) (hh v T' _ Lc ⟨_, X', Fr.app N (hF _ _ _ hQ), rfl⟩ hQ)
/-- a private instance method by its contract -/
theorem Rt.callPr (X : Sd p l e R s m args below meth c T n0 cells slots h0) (hx : p.tables.exec = Jvm.exec) {Z : State} {a0 : Array Value} (hZ : Z.Warmed39 s.vm) {own : String} {index : Nat} {y : MethodName} {bytes : ByteArray} {maxL W : Nat} {ret : Option FieldType} {rm : Room} {as' : Array Value} {Q : Option Value → Heap → List Loc → Prop} {K : String} {nf : Nat}
    (hown : s.vm.findClass own = some m.cls) (w1 : (Cond.methodLink own index y).before a0 Z = true) (w2 : (Cond.instanceMethod y).before a0 Z = true) (w5 : (Cond.privateMethod y).before a0 Z = true) (wi : (Cond.instantiable y.cls nf).before a0 Z = true) (w3 : (Cond.initialized y.cls).before a0 Z = true) (w4 : (Cond.code y bytes maxL ret).before a0 Z = true) (hy : y.cls ≠ "java/lang/invoke/MethodHandle" ∧ y.cls ≠ "java/lang/invoke/VarHandle")
    {a : Addr} (E : Exa Z h0 a K) (hM : Mt l Z y [Cond.code y bytes maxL ret] rm as' h0 Q) (hF : ∀ v h L, Q v h L → Fr n0 L) (hf : rm.frames + 1 ≤ R.frames) (hl : W + (maxL + 11) + rm.locals ≤ R.locals) (hc : cells + rm.cells ≤ R.cells) (hs : slots + rm.slots ≤ R.slots)
    {pc pc' : Nat} {Ls : Array Slot} {S argsL rest : List Value} (hsize : Ls.size = c.maxLocals) (hlen : ∀ sig, parseMethodDescriptor y.desc = some sig → argsL.length = sig.parameters.length) (hst : S = argsL.reverse ++ .ref a :: rest) (has : (.ref a :: argsL).toArray = as') (hW : (rest.map fun v => v.category).sum ≤ W) (hd : decode c.code pc = .ok (.invokevirtual index, 3)) (hp : pc + 3 = pc')
    (hh : ∀ v T' h' L, Sd p l e R s m args below meth c T' n0 (cells + rm.cells) (slots + rm.slots) h' → Q v h' L → Rt p e below s k n P (T'.setTop (mkF m pc' Ls (v.toList ++ rest)))) : Rt p e below s k n P (T.setTop (mkF m pc Ls S)) := by
  subst hp has
  obtain ⟨locs, X, N, eT⟩ := X
  obtain ⟨ce, q1, q2⟩ := E.cell
  obtain ⟨cc, kc, i1, i2, -, i4, -⟩ := Cond.instantiable_spec (mvT hZ wi (args := args))
  have hpv := Cond.privateMethod_at (mvP hZ w5 (args := #[]))
  have hni : kc.isInterface = false := by simp only [Bool.or_eq_false_iff] at i4; exact i4.1
  obtain ⟨v, _, ⟨T', L', k', n'⟩, -, X', ⟨Lc, hQ, l', y', z'⟩, st⟩ := X.privateBack hx (y := y) hown (mvT hZ w1) (mvT hZ w2) (selects_self_of_private i1 i2 hni hpv (mvT hZ w2) hy) hpv (mvT hZ w4) hy (backOf (W := W) hM hZ w4 w3 hf hl) (g := mkF m pc Ls S) rfl hsize (Steps.refl _) (a := a) (by rw [eT]; exact q1) q2 (argsL := argsL) (rest := rest) hlen hst (by show 2 * 0 + _ ≤ _; omega) hd (fun _ _ => ⟨rfl, eT, hc, hs⟩)
  dsimp only [Pt.U, Pt.locs, Pt.cells, Pt.slots] at X' l' y' z' st hQ
  subst l' y' z'
  exact Rt.go (fun _ q => st.trans q) (hh v T' _ Lc ⟨_, X', Fr.app N (hF _ _ _ hQ), rfl⟩ hQ)
theorem Rt.initO (X : Sd p l e R s m args below meth c T n0 cells slots h0) (hx : p.tables.exec = Jvm.exec) {Z : State} {a0 : Array Value} (hZ : Z.Warmed39 s.vm) {own : String} {index : Nat} (hown : s.vm.findClass own = some m.cls) (w1 : (Cond.methodLink own index Lib.objectInit).before a0 Z = true) (w2 : (Cond.instanceMethod Lib.objectInit).before a0 Z = true) (w3 : (Cond.code Lib.objectInit ⟨#[0xb1]⟩ 1 none).before a0 Z = true)
    {pc pc' W : Nat} {Ls : Array Slot} {rest : List Value} {a : Addr} (hsize : Ls.size = c.maxLocals) (hd : decode c.code pc = .ok (.invokespecial index, 3)) (hf : 1 ≤ R.frames) (hW : (rest.map fun v => v.category).sum ≤ W) (hl : W + 12 ≤ R.locals) (hp : pc + 3 = pc')
    (hh : ∀ T', Sd p l e R s m args below meth c T' n0 cells slots h0 → Rt p e below s k n P (T'.setTop (mkF m pc' Ls rest))) : Rt p e below s k n P (T.setTop (mkF m pc Ls (.ref a :: rest))) := by
  subst hp
  obtain ⟨locs, X, N, eT⟩ := X
  obtain ⟨T', X', e', st⟩ := Jvm.RoadKit.initO X hx hZ hown w1 w2 w3 eT (g := mkF m pc Ls (.ref a :: rest)) rfl hsize rfl hd hf (W := W) (by show 2 * 0 + _ ≤ _; omega) hl
  exact Rt.go st (hh T' ⟨_, X', N, e'⟩)
theorem Rt.getS (X : Sd p l e R s m args below meth c T n0 cells slots h0) (hx : p.tables.exec = Jvm.exec) {Z : State} {a0 : Array Value} (hZ : Z.Warmed39 s.vm) {own K f d host : String} {index : Nat} (hown : s.vm.findClass own = some m.cls) (w : (Cond.fieldLink own index K f d).before a0 Z = true ∨ (Cond.fieldLinkNest own index K f d host).before a0 Z = true) {v : Value} (F : Sta Z h0 K f d v) {pc pc' : Nat} {Ls : Array Slot} {S : List Value} (hd : decode c.code pc = .ok (.getstatic index, 3)) (hp : pc + 3 = pc')
    (hh : ∀ T', Sd p l e R s m args below meth c T' n0 cells slots h0 → Rt p e below s k n P (T'.setTop (mkF m pc' Ls (v :: S)))) : Rt p e below s k n P (T.setTop (mkF m pc Ls S)) := by
  subst hp
  obtain ⟨locs, X, N, eT⟩ := X
  obtain ⟨T', X', e', st⟩ := getS2 X hx hZ hown (host := host) w Via.refl eT F (g := mkF m pc Ls S) rfl hd
  exact Rt.go st (hh T' ⟨_, X', N, e'⟩)
theorem Rt.getF (X : Sd p l e R s m args below meth c T n0 cells slots h0) (hx : p.tables.exec = Jvm.exec) {Z : State} {a0 : Array Value} (hZ : Z.Warmed39 s.vm) {own K f d host : String} {index : Nat} (hown : s.vm.findClass own = some m.cls) (w : (Cond.fieldLink own index K f d).before a0 Z = true ∨ (Cond.fieldLinkNest own index K f d host).before a0 Z = true) {v : Value} {a : Addr} (F : Fld Z h0 a K f d v) {pc pc' : Nat} {Ls : Array Slot} {S : List Value} (hd : decode c.code pc = .ok (.getfield index, 3)) (hp : pc + 3 = pc')
    (hh : ∀ T', Sd p l e R s m args below meth c T' n0 cells slots h0 → Rt p e below s k n P (T'.setTop (mkF m pc' Ls (v :: S)))) : Rt p e below s k n P (T.setTop (mkF m pc Ls (.ref a :: S))) := by
  subst hp
  obtain ⟨locs, X, N, eT⟩ := X
  obtain ⟨T', X', e', st⟩ := Jvm.RoadKit.getF X hx hZ hown (host := host) w Via.refl eT F (g := mkF m pc Ls (.ref a :: S)) rfl rfl hd
  exact Rt.go st (hh T' ⟨_, X', N, e'⟩)
theorem Rt.putF (X : Sd p l e R s m args below meth c T n0 cells slots h0) (hx : p.tables.exec = Jvm.exec) {Z : State} {a0 : Array Value} (hZ : Z.Warmed39 s.vm) {own K f d C' host : String} {index kk : Nat} {ty : FieldType} (hown : s.vm.findClass own = some m.cls) (w : (Cond.fieldLink own index K f d).before a0 Z = true ∨ (Cond.fieldLinkNest own index K f d host).before a0 Z = true) {v old : Value} {a : Addr} (F : Fld Z h0 a K f d old) (E : Exa Z h0 a C') (L : (Cond.lays C' K f d).before a0 Z = true ∨ ((Cond.laysFinal C' K f d).before a0 Z = true ∧ own = K ∧ meth.name = "<init>")) (wi : (Cond.instantiable C' kk).before a0 Z = true) (hty : parseFieldDescriptor d = some ty) (hn : narrow ty v = v) (hf : fits ty v = true) (ga : n0 ≤ a) {pc pc' : Nat} {Ls : Array Slot} {S : List Value} (hd : decode c.code pc = .ok (.putfield index, 3)) (hp : pc + 3 = pc')
    (hh : ∀ T' h', Sd p l e R s m args below meth c T' n0 cells slots h' → Wr h0 h' a (Jvm.RoadKit.slotOf Z K f d) v → Fld Z h' a K f d v → Rt p e below s k n P (T'.setTop (mkF m pc' Ls S))) : Rt p e below s k n P (T.setTop (mkF m pc Ls (v :: .ref a :: S))) := by
  subst hp
  obtain ⟨locs, X, N, eT⟩ := X
  obtain ⟨T', h', X', e', W', st⟩ := Jvm.RoadKit.putF X hx hZ hown (host := host) w Via.refl eT F E L wi hty hn hf (g := mkF m pc Ls (v :: .ref a :: S)) rfl rfl hd
  exact Rt.go st (hh T' h' ⟨_, X', Fr.snoc X' N ga, e'⟩ W' (F.same W'))
theorem Rt.newO (X : Sd p l e R s m args below meth c T n0 cells slots h0) (hx : p.tables.exec = Jvm.exec) {Z : State} {a0 : Array Value} (hZ : Z.Warmed39 s.vm) {own K : String} {index nf : Nat} (hown : s.vm.findClass own = some m.cls) (w : (Cond.classLink own index K).before a0 Z = true) (wi : (Cond.instantiable K nf).before a0 Z = true) (wz : (Cond.initialized K).before a0 Z = true) {pc pc' : Nat} {Ls : Array Slot} {S : List Value} (hd : decode c.code pc = .ok (.new index, 3)) (hc : cells + 1 ≤ R.cells) (hl : slots + nf ≤ R.slots) (hp : pc + 3 = pc')
    (hh : ∀ T' h' a, a = h0.size → Sd p l e R s m args below meth c T' n0 (cells + 1) (slots + nf) h' → Ext h0 h' → Exa Z h' a K → (∀ {O nm d : String} {ty : FieldType}, Laid Z a0 K O nm d → parseFieldDescriptor d = some ty → Fld Z h' a O nm d (defaultValue ty)) → Rt p e below s k n P (T'.setTop (mkF m pc' Ls (.ref a :: S)))) : Rt p e below s k n P (T.setTop (mkF m pc Ls S)) := by
  subst hp
  obtain ⟨locs, X, N, eT⟩ := X
  obtain ⟨T', h', X', e', E', A', D', -, st⟩ := Jvm.RoadKit.newO X hx hZ hown w wi wz eT (g := mkF m pc Ls S) rfl hd hc hl
  exact Rt.go st (hh T' h' _ rfl ⟨_, X', N, e'⟩ E' A' D')
theorem Rt.castY (X : Sd p l e R s m args below meth c T n0 cells slots h0) (hx : p.tables.exec = Jvm.exec) {Z : State} {a0 : Array Value} (hZ : Z.Warmed39 s.vm) {own K : String} {index : Nat} (hown : s.vm.findClass own = some m.cls) (w : (Cond.classLink own index K).before a0 Z = true) {a : Addr} (F : Ins Z h0 a K true) {pc pc' : Nat} {Ls : Array Slot} {S : List Value} (hd : decode c.code pc = .ok (.checkcast index, 3)) (hp : pc + 3 = pc')
    (hh : ∀ T', Sd p l e R s m args below meth c T' n0 cells slots h0 → Rt p e below s k n P (T'.setTop (mkF m pc' Ls (.ref a :: S)))) : Rt p e below s k n P (T.setTop (mkF m pc Ls (.ref a :: S))) := by
  subst hp
  obtain ⟨locs, X, N, eT⟩ := X
  obtain ⟨T', X', e', st⟩ := Jvm.RoadKit.castY X hx hZ hown w eT F (g := mkF m pc Ls (.ref a :: S)) rfl rfl hd
  exact Rt.go st (hh T' ⟨_, X', N, e'⟩)
theorem Rt.instY (X : Sd p l e R s m args below meth c T n0 cells slots h0) (hx : p.tables.exec = Jvm.exec) {Z : State} {a0 : Array Value} (hZ : Z.Warmed39 s.vm) {own K : String} {index : Nat} (hown : s.vm.findClass own = some m.cls) (w : (Cond.classLink own index K).before a0 Z = true) {a : Addr} (F : Ins Z h0 a K true) {pc pc' : Nat} {Ls : Array Slot} {S : List Value} (hd : decode c.code pc = .ok (.instanceof index, 3)) (hp : pc + 3 = pc')
    (hh : ∀ T', Sd p l e R s m args below meth c T' n0 cells slots h0 → Rt p e below s k n P (T'.setTop (mkF m pc' Ls (.int 1 :: S)))) : Rt p e below s k n P (T.setTop (mkF m pc Ls (.ref a :: S))) := by
  subst hp
  obtain ⟨locs, X, N, eT⟩ := X
  obtain ⟨T', X', e', st⟩ := Jvm.RoadKit.instY X hx hZ hown w eT F (g := mkF m pc Ls (.ref a :: S)) rfl rfl hd
  exact Rt.go st (hh T' ⟨_, X', N, e'⟩)
theorem Rt.instNo (X : Sd p l e R s m args below meth c T n0 cells slots h0) (hx : p.tables.exec = Jvm.exec) {Z : State} {a0 : Array Value} (hZ : Z.Warmed39 s.vm) {own K C' : String} {index : Nat} (hown : s.vm.findClass own = some m.cls) (w : (Cond.classLink own index K).before a0 Z = true) (hs0 : s.heap = h0) {a : Addr} (F : Ins Z h0 a K false) (E : Exa Z h0 a C') {pc pc' : Nat} {Ls : Array Slot} {S : List Value} (hd : decode c.code pc = .ok (.instanceof index, 3)) (hp : pc + 3 = pc')
    (hh : ∀ T', Sd p l e R s m args below meth c T' n0 cells slots h0 → Rt p e below s k n P (T'.setTop (mkF m pc' Ls (.int 0 :: S)))) : Rt p e below s k n P (T.setTop (mkF m pc Ls (.ref a :: S))) := by
  subst hp hs0
  obtain ⟨locs, X, N, eT⟩ := X
  obtain ⟨T', X', e', st⟩ := Jvm.RoadKit.instN X hx hZ hown w eT F E (g := mkF m pc Ls (.ref a :: S)) rfl rfl hd
  exact Rt.go st (hh T' ⟨_, X', N, e'⟩)
theorem Rt.instNull (X : Sd p l e R s m args below meth c T n0 cells slots h0) (hx : p.tables.exec = Jvm.exec) {index : Nat} {pc pc' : Nat} {Ls : Array Slot} {S : List Value} (hd : decode c.code pc = .ok (.instanceof index, 3)) (hp : pc + 3 = pc')
    (h : Rt p e below s k n P (T.setTop (mkF m pc' Ls (.int 0 :: S)))) : Rt p e below s k n P (T.setTop (mkF m pc Ls (.null :: S))) := by
  subst hp
  obtain ⟨locs, X, N, eT⟩ := X
  exact Rt.go (X.instanceofNull hx (g := mkF m pc Ls (.null :: S)) rfl rfl hd) h
theorem staK {Z : State} {h h' : Heap} {K f d : String} {v : Value} (F : Sta Z h K f d v) (Kp : Keep h h' []) : Sta Z h' K f d v := by
  obtain ⟨cf, i, k, f, st, cell, h1, h2, h3, h4, h5, r⟩ := F; exact ⟨cf, i, k, f, st, cell, h1, h2, h3, h4, Kp.2.1 _ _ h5 nin0, r⟩
/-- an array of values -/
def IA (Z : State) (h : Heap) (a : Addr) (ty : FieldType) (vs : List Value) : Prop := ∃ cl : Cell, Arr Z h a cl ty ∧ cl.slots = vs.toArray ∧ vs.length < 2 ^ 31
section Arrays
variable {Z : State} {h h' : Heap} {a b : Addr} {ty : FieldType} {vs : List Value}
theorem IA.lt (F : IA Z h a ty vs) : a < h.size := by obtain ⟨_, A, -⟩ := F; exact A.lt
theorem IA.ext (F : IA Z h a ty vs) (E : Ext h h') : IA Z h' a ty vs := by obtain ⟨c, A, r⟩ := F; exact ⟨c, A.ext E, r⟩
theorem IA.other {sl : Nat} {v : Value} (F : IA Z h a ty vs) (W : Wr h h' b sl v) (q : a ≠ b) : IA Z h' a ty vs := by obtain ⟨c, A, r⟩ := F; exact ⟨c, A.other W q, r⟩
theorem IA.keep {ws : List Addr} (F : IA Z h a ty vs) (K : Keep h h' ws) (q : a ∉ ws) : IA Z h' a ty vs := by obtain ⟨c, A, r⟩ := F; exact ⟨c, ⟨K.2.1 a c A.1 q, A.2⟩, r⟩
theorem IA.set {i : Nat} {v : Value} (F : IA Z h a ty vs) (W : Wr h h' a i v) : IA Z h' a ty (vs.set i v) := by
  obtain ⟨c, A, r, q⟩ := F
  refine ⟨_, A.same W, ?_, by rw [List.length_set]; exact q⟩
  show (c.slots.setIfInBounds i v) = _
  rw [r]; simp
theorem IA.new {k : ClassId} {z : Int32} {i : Nat} (A : Arr Z h a (newA k ty z) ty) (hz : z.toNatClampNeg = i) : IA Z h a ty (List.replicate i (defaultValue ty)) := by
  refine ⟨_, A, ?_, ?_⟩
  · show Array.replicate _ _ = _
    rw [hz]; simp
  · rw [List.length_replicate, ← hz]
    have := z.toInt_lt
    simp only [Int32.toNatClampNeg]; omega
theorem inA {cl : Cell} {j : Int32} {i : Nat} (r : cl.slots = vs.toArray) (hj : ¬ j < 0) (hi : j.toNatClampNeg = i) (hv : i < vs.length) : ¬ (j < 0 ∨ cl.slots.size ≤ j.toNatClampNeg) := by
  rintro (q | q)
  · exact hj q
  · rw [r, hi] at q; simp at q; omega
end Arrays
theorem Rt.newP (X : Sd p l e R s m args below meth c T n0 cells slots h0) (hx : p.tables.exec = Jvm.exec) {Z : State} {a0 : Array Value} (hZ : Z.Warmed39 s.vm) {aty : ArrayType} {ty : FieldType} (hty : newarray.typeOf aty = ty) (w : (Cond.arrayClass ty).before a0 Z = true) {z : Int32} {i : Nat} (hz : z.toNatClampNeg = i) (hn : ¬ z < 0) {cap : Nat} (hcap : i ≤ cap) (hb : cap * 8 ≤ 536870912) {pc pc' : Nat} {Ls : Array Slot} {S : List Value} (hd : decode c.code pc = .ok (.newarray aty, 2)) (hc : cells + 1 ≤ R.cells) (hl : slots + cap ≤ R.slots) (hp : pc + 2 = pc')
    (hh : ∀ T' h' a, a = h0.size → Sd p l e R s m args below meth c T' n0 (cells + 1) (slots + cap) h' → Ext h0 h' → IA Z h' a ty (List.replicate i (defaultValue ty)) → Rt p e below s k n P (T'.setTop (mkF m pc' Ls (.ref a :: S)))) : Rt p e below s k n P (T.setTop (mkF m pc Ls (.int z :: S))) := by
  subst hp hty
  obtain ⟨locs, X, N, eT⟩ := X
  obtain ⟨T', h', cA, X', e', E', A', st⟩ := Jvm.RoadKit.newP X hx hZ w eT (g := mkF m pc Ls (.int z :: S)) rfl hd rfl hn (cap := cap) (by rw [hz]; exact hcap) hb hc hl
  exact Rt.go st (hh T' h' _ rfl ⟨_, X', N, e'⟩ E' (IA.new A' hz))
theorem Rt.arraylength (X : Sd p l e R s m args below meth c T n0 cells slots h0) (hx : p.tables.exec = Jvm.exec) {Z : State} (hZ : Z.Warmed39 s.vm) {ty : FieldType} {a : Addr} {vs : List Value} (F : IA Z h0 a ty vs) {v : Int32} (hv : vs.length.toInt32 = v) {pc pc' : Nat} {Ls : Array Slot} {S : List Value} (hd : decode c.code pc = .ok (.arraylength, 1)) (hp : pc + 1 = pc')
    (h : Rt p e below s k n P (T.setTop (mkF m pc' Ls (.int v :: S)))) : Rt p e below s k n P (T.setTop (mkF m pc Ls (.ref a :: S))) := by
  subst hp hv
  obtain ⟨locs, X, N, eT⟩ := X
  obtain ⟨cl, A, r, q⟩ := F
  have e1 : vs.length = cl.slots.size := by rw [r]; simp
  rw [e1] at h
  exact Rt.go (X.arraylength hx (by rw [eT]; exact A.1) (State.isArrayOf_alike hZ.alike A.2.1) (g := mkF m pc Ls (.ref a :: S)) rfl rfl hd) h

theorem Rt.iaload (X : Sd p l e R s m args below meth c T n0 cells slots h0) (hx : p.tables.exec = Jvm.exec) {Z : State} (hZ : Z.Warmed39 s.vm) {a : Addr} {vs : List Value} (F : IA Z h0 a .int vs) {j : Int32} {i : Nat} (hi : j.toNatClampNeg = i) (hj : ¬ j < 0) {v : Value} (hv : vs[i]? = some v) {pc pc' : Nat} {Ls : Array Slot} {S : List Value} (hd : decode c.code pc = .ok (.iaload, 1)) (hp : pc + 1 = pc')
    (h : Rt p e below s k n P (T.setTop (mkF m pc' Ls (v :: S)))) : Rt p e below s k n P (T.setTop (mkF m pc Ls (.int j :: .ref a :: S))) := by
  subst hp
  obtain ⟨locs, X, N, eT⟩ := X
  obtain ⟨cl, A, r, q⟩ := F
  exact Rt.go (X.iaload hx (j := j) (v := v) (by rw [eT]; exact A.1) (State.isArrayOf_alike hZ.alike A.2.1) A.2.2 (inA r hj hi (List.getElem?_eq_some_iff.mp hv).1) (by rw [r, hi]; simpa using hv) (g := mkF m pc Ls (.int j :: .ref a :: S)) rfl rfl hd) h
theorem Rt.laload (X : Sd p l e R s m args below meth c T n0 cells slots h0) (hx : p.tables.exec = Jvm.exec) {Z : State} (hZ : Z.Warmed39 s.vm) {a : Addr} {vs : List Value} (F : IA Z h0 a .long vs) {j : Int32} {i : Nat} (hi : j.toNatClampNeg = i) (hj : ¬ j < 0) {v : Value} (hv : vs[i]? = some v) {pc pc' : Nat} {Ls : Array Slot} {S : List Value} (hd : decode c.code pc = .ok (.laload, 1)) (hp : pc + 1 = pc')
    (h : Rt p e below s k n P (T.setTop (mkF m pc' Ls (v :: S)))) : Rt p e below s k n P (T.setTop (mkF m pc Ls (.int j :: .ref a :: S))) := by
  subst hp
  obtain ⟨locs, X, N, eT⟩ := X
  obtain ⟨cl, A, r, q⟩ := F
  exact Rt.go (X.laload hx (j := j) (v := v) (by rw [eT]; exact A.1) (State.isArrayOf_alike hZ.alike A.2.1) A.2.2 (inA r hj hi (List.getElem?_eq_some_iff.mp hv).1) (by rw [r, hi]; simpa using hv) (g := mkF m pc Ls (.int j :: .ref a :: S)) rfl rfl hd) h
theorem Rt.baload (X : Sd p l e R s m args below meth c T n0 cells slots h0) (hx : p.tables.exec = Jvm.exec) {Z : State} (hZ : Z.Warmed39 s.vm) {a : Addr} {vs : List Value} (F : IA Z h0 a .byte vs) {j : Int32} {i : Nat} (hi : j.toNatClampNeg = i) (hj : ¬ j < 0) {v : Value} (hv : vs[i]? = some v) {pc pc' : Nat} {Ls : Array Slot} {S : List Value} (hd : decode c.code pc = .ok (.baload, 1)) (hp : pc + 1 = pc')
    (h : Rt p e below s k n P (T.setTop (mkF m pc' Ls (v :: S)))) : Rt p e below s k n P (T.setTop (mkF m pc Ls (.int j :: .ref a :: S))) := by
  subst hp
  obtain ⟨locs, X, N, eT⟩ := X
  obtain ⟨cl, A, r, q⟩ := F
  exact Rt.go (X.baloadBytes hx (j := j) (v := v) (by rw [eT]; exact A.1) (State.isArrayOf_alike hZ.alike A.2.1) A.2.2 (inA r hj hi (List.getElem?_eq_some_iff.mp hv).1) (by rw [r, hi]; simpa using hv) (g := mkF m pc Ls (.int j :: .ref a :: S)) rfl rfl hd) h
theorem Rt.zaload (X : Sd p l e R s m args below meth c T n0 cells slots h0) (hx : p.tables.exec = Jvm.exec) {Z : State} (hZ : Z.Warmed39 s.vm) {a : Addr} {vs : List Value} (F : IA Z h0 a .boolean vs) {j : Int32} {i : Nat} (hi : j.toNatClampNeg = i) (hj : ¬ j < 0) {v : Value} (hv : vs[i]? = some v) {pc pc' : Nat} {Ls : Array Slot} {S : List Value} (hd : decode c.code pc = .ok (.baload, 1)) (hp : pc + 1 = pc')
    (h : Rt p e below s k n P (T.setTop (mkF m pc' Ls (v :: S)))) : Rt p e below s k n P (T.setTop (mkF m pc Ls (.int j :: .ref a :: S))) := by
  subst hp
  obtain ⟨locs, X, N, eT⟩ := X
  obtain ⟨cl, A, r, q⟩ := F
  exact Rt.go (X.baloadBooleans hx (j := j) (v := v) (by rw [eT]; exact A.1) (State.isArrayOf_alike hZ.alike A.2.1) A.2.2 (inA r hj hi (List.getElem?_eq_some_iff.mp hv).1) (by rw [r, hi]; simpa using hv) (g := mkF m pc Ls (.int j :: .ref a :: S)) rfl rfl hd) h
theorem Rt.caload (X : Sd p l e R s m args below meth c T n0 cells slots h0) (hx : p.tables.exec = Jvm.exec) {Z : State} (hZ : Z.Warmed39 s.vm) {a : Addr} {vs : List Value} (F : IA Z h0 a .char vs) {j : Int32} {i : Nat} (hi : j.toNatClampNeg = i) (hj : ¬ j < 0) {v : Value} (hv : vs[i]? = some v) {pc pc' : Nat} {Ls : Array Slot} {S : List Value} (hd : decode c.code pc = .ok (.caload, 1)) (hp : pc + 1 = pc')
    (h : Rt p e below s k n P (T.setTop (mkF m pc' Ls (v :: S)))) : Rt p e below s k n P (T.setTop (mkF m pc Ls (.int j :: .ref a :: S))) := by
  subst hp
  obtain ⟨locs, X, N, eT⟩ := X
  obtain ⟨cl, A, r, q⟩ := F
  exact Rt.go (X.caload hx (j := j) (v := v) (by rw [eT]; exact A.1) (State.isArrayOf_alike hZ.alike A.2.1) A.2.2 (inA r hj hi (List.getElem?_eq_some_iff.mp hv).1) (by rw [r, hi]; simpa using hv) (g := mkF m pc Ls (.int j :: .ref a :: S)) rfl rfl hd) h
theorem Rt.aaload (X : Sd p l e R s m args below meth c T n0 cells slots h0) (hx : p.tables.exec = Jvm.exec) {Z : State} (hZ : Z.Warmed39 s.vm) {ty : FieldType} (hty : ty.isReference = true) {a : Addr} {vs : List Value} (F : IA Z h0 a ty vs) {j : Int32} {i : Nat} (hi : j.toNatClampNeg = i) (hj : ¬ j < 0) {v : Value} (hv : vs[i]? = some v) {pc pc' : Nat} {Ls : Array Slot} {S : List Value} (hd : decode c.code pc = .ok (.aaload, 1)) (hp : pc + 1 = pc')
    (h : Rt p e below s k n P (T.setTop (mkF m pc' Ls (v :: S)))) : Rt p e below s k n P (T.setTop (mkF m pc Ls (.int j :: .ref a :: S))) := by
  subst hp
  obtain ⟨locs, X, N, eT⟩ := X
  obtain ⟨cl, A, r, q⟩ := F
  exact Rt.go (X.aaload hx (j := j) (v := v) (by rw [eT]; exact A.1) (State.isArrayOf_alike hZ.alike A.2.1) hty A.2.2 (inA r hj hi (List.getElem?_eq_some_iff.mp hv).1) (by rw [r, hi]; simpa using hv) (g := mkF m pc Ls (.int j :: .ref a :: S)) rfl rfl hd) h
theorem Rt.iastore (X : Sd p l e R s m args below meth c T n0 cells slots h0) (hx : p.tables.exec = Jvm.exec) {Z : State} (hZ : Z.Warmed39 s.vm) {a : Addr} {vs : List Value} (F : IA Z h0 a .int vs) {j : Int32} {i : Nat} (hi : j.toNatClampNeg = i) (hj : ¬ j < 0) (hv : i < vs.length) {x : Int32} {w : Value} (hw : .int x = w) (ga : n0 ≤ a) {pc pc' : Nat} {Ls : Array Slot} {S : List Value} (hd : decode c.code pc = .ok (.iastore, 1)) (hp : pc + 1 = pc')
    (hh : ∀ T' h', Sd p l e R s m args below meth c T' n0 cells slots h' → Wr h0 h' a i w → IA Z h' a .int (vs.set i w) → Rt p e below s k n P (T'.setTop (mkF m pc' Ls S))) : Rt p e below s k n P (T.setTop (mkF m pc Ls (.int x :: .int j :: .ref a :: S))) := by
  subst hp hw
  obtain ⟨locs, X, N, eT⟩ := X
  obtain ⟨cl, A, r, q⟩ := id F
  obtain ⟨T', h', X', e', W', st⟩ := stI X hx hZ eT A (j := j) (inA r hj hi hv) (g := mkF m pc Ls (.int x :: .int j :: .ref a :: S)) rfl rfl hd
  rw [hi] at W'
  exact Rt.go st (hh T' h' ⟨_, X', Fr.snoc X' N ga, e'⟩ W' (F.set W'))
theorem Rt.lastore (X : Sd p l e R s m args below meth c T n0 cells slots h0) (hx : p.tables.exec = Jvm.exec) {Z : State} (hZ : Z.Warmed39 s.vm) {a : Addr} {vs : List Value} (F : IA Z h0 a .long vs) {j : Int32} {i : Nat} (hi : j.toNatClampNeg = i) (hj : ¬ j < 0) (hv : i < vs.length) {x : Int64} {w : Value} (hw : .long x = w) (ga : n0 ≤ a) {pc pc' : Nat} {Ls : Array Slot} {S : List Value} (hd : decode c.code pc = .ok (.lastore, 1)) (hp : pc + 1 = pc')
    (hh : ∀ T' h', Sd p l e R s m args below meth c T' n0 cells slots h' → Wr h0 h' a i w → IA Z h' a .long (vs.set i w) → Rt p e below s k n P (T'.setTop (mkF m pc' Ls S))) : Rt p e below s k n P (T.setTop (mkF m pc Ls (.long x :: .int j :: .ref a :: S))) := by
  subst hp hw
  obtain ⟨locs, X, N, eT⟩ := X
  obtain ⟨cl, A, r, q⟩ := id F
  obtain ⟨T', h', X', e', W', st⟩ := stJ X hx hZ eT A (j := j) (inA r hj hi hv) (g := mkF m pc Ls (.long x :: .int j :: .ref a :: S)) rfl rfl hd
  rw [hi] at W'
  exact Rt.go st (hh T' h' ⟨_, X', Fr.snoc X' N ga, e'⟩ W' (F.set W'))
theorem Rt.bastore (X : Sd p l e R s m args below meth c T n0 cells slots h0) (hx : p.tables.exec = Jvm.exec) {Z : State} (hZ : Z.Warmed39 s.vm) {a : Addr} {vs : List Value} (F : IA Z h0 a .byte vs) {j : Int32} {i : Nat} (hi : j.toNatClampNeg = i) (hj : ¬ j < 0) (hv : i < vs.length) {x : Int32} {w : Value} (hw : .int (nar .byte x) = w) (ga : n0 ≤ a) {pc pc' : Nat} {Ls : Array Slot} {S : List Value} (hd : decode c.code pc = .ok (.bastore, 1)) (hp : pc + 1 = pc')
    (hh : ∀ T' h', Sd p l e R s m args below meth c T' n0 cells slots h' → Wr h0 h' a i w → IA Z h' a .byte (vs.set i w) → Rt p e below s k n P (T'.setTop (mkF m pc' Ls S))) : Rt p e below s k n P (T.setTop (mkF m pc Ls (.int x :: .int j :: .ref a :: S))) := by
  subst hp hw
  obtain ⟨locs, X, N, eT⟩ := X
  obtain ⟨cl, A, r, q⟩ := id F
  obtain ⟨T', h', X', e', W', st⟩ := stB X hx hZ eT A (j := j) (inA r hj hi hv) (g := mkF m pc Ls (.int x :: .int j :: .ref a :: S)) rfl rfl hd
  rw [hi] at W'
  exact Rt.go st (hh T' h' ⟨_, X', Fr.snoc X' N ga, e'⟩ W' (F.set W'))
theorem Rt.zastore (X : Sd p l e R s m args below meth c T n0 cells slots h0) (hx : p.tables.exec = Jvm.exec) {Z : State} (hZ : Z.Warmed39 s.vm) {a : Addr} {vs : List Value} (F : IA Z h0 a .boolean vs) {j : Int32} {i : Nat} (hi : j.toNatClampNeg = i) (hj : ¬ j < 0) (hv : i < vs.length) {x : Int32} {w : Value} (hw : .int (nar .boolean x) = w) (ga : n0 ≤ a) {pc pc' : Nat} {Ls : Array Slot} {S : List Value} (hd : decode c.code pc = .ok (.bastore, 1)) (hp : pc + 1 = pc')
    (hh : ∀ T' h', Sd p l e R s m args below meth c T' n0 cells slots h' → Wr h0 h' a i w → IA Z h' a .boolean (vs.set i w) → Rt p e below s k n P (T'.setTop (mkF m pc' Ls S))) : Rt p e below s k n P (T.setTop (mkF m pc Ls (.int x :: .int j :: .ref a :: S))) := by
  subst hp hw
  obtain ⟨locs, X, N, eT⟩ := X
  obtain ⟨cl, A, r, q⟩ := id F
  obtain ⟨T', h', X', e', W', st⟩ := stZ X hx hZ eT A (j := j) (inA r hj hi hv) (g := mkF m pc Ls (.int x :: .int j :: .ref a :: S)) rfl rfl hd
  rw [hi] at W'
  exact Rt.go st (hh T' h' ⟨_, X', Fr.snoc X' N ga, e'⟩ W' (F.set W'))
theorem Rt.castore (X : Sd p l e R s m args below meth c T n0 cells slots h0) (hx : p.tables.exec = Jvm.exec) {Z : State} (hZ : Z.Warmed39 s.vm) {a : Addr} {vs : List Value} (F : IA Z h0 a .char vs) {j : Int32} {i : Nat} (hi : j.toNatClampNeg = i) (hj : ¬ j < 0) (hv : i < vs.length) {x : Int32} {w : Value} (hw : .int (nar .char x) = w) (ga : n0 ≤ a) {pc pc' : Nat} {Ls : Array Slot} {S : List Value} (hd : decode c.code pc = .ok (.castore, 1)) (hp : pc + 1 = pc')
    (hh : ∀ T' h', Sd p l e R s m args below meth c T' n0 cells slots h' → Wr h0 h' a i w → IA Z h' a .char (vs.set i w) → Rt p e below s k n P (T'.setTop (mkF m pc' Ls S))) : Rt p e below s k n P (T.setTop (mkF m pc Ls (.int x :: .int j :: .ref a :: S))) := by
  subst hp hw
  obtain ⟨locs, X, N, eT⟩ := X
  obtain ⟨cl, A, r, q⟩ := id F
  obtain ⟨T', h', X', e', W', st⟩ := stC X hx hZ eT A (j := j) (inA r hj hi hv) (g := mkF m pc Ls (.int x :: .int j :: .ref a :: S)) rfl rfl hd
  rw [hi] at W'
  exact Rt.go st (hh T' h' ⟨_, X', Fr.snoc X' N ga, e'⟩ W' (F.set W'))
/-- an array of so many elements -/
def IL (Z : State) (h : Heap) (a : Addr) (ty : FieldType) (N : Nat) : Prop := ∃ vs, IA Z h a ty vs ∧ vs.length = N
section Arrays
variable {Z : State} {h h' : Heap} {a b : Addr} {ty : FieldType} {N : Nat}
theorem IL.lt (F : IL Z h a ty N) : a < h.size := by obtain ⟨_, A, -⟩ := F; exact A.lt
theorem IL.ext (F : IL Z h a ty N) (E : Ext h h') : IL Z h' a ty N := by obtain ⟨c, A, r⟩ := F; exact ⟨c, A.ext E, r⟩
theorem IL.other {sl : Nat} {v : Value} (F : IL Z h a ty N) (W : Wr h h' b sl v) (q : a ≠ b) : IL Z h' a ty N := by obtain ⟨c, A, r⟩ := F; exact ⟨c, A.other W q, r⟩
theorem IL.wr {sl : Nat} {v : Value} (F : IL Z h a ty N) (W : Wr h h' b sl v) : IL Z h' a ty N := by
  obtain ⟨vs, A, r⟩ := F
  by_cases q : a = b
  · subst q; exact ⟨_, A.set W, by rw [List.length_set]; exact r⟩
  · exact ⟨vs, A.other W q, r⟩
theorem IL.keep {ws : List Addr} (F : IL Z h a ty N) (K : Keep h h' ws) : IL Z h' a ty N := by
  obtain ⟨vs, ⟨c, ⟨A1, ⟨A2, A3⟩, A4⟩, r1, r2⟩, r⟩ := F
  obtain ⟨c', q, e1, e2, e3⟩ := K.2.2 a c A1
  refine ⟨c'.slots.toList, ⟨c', ⟨q, ⟨?_, ?_⟩, by rw [e2]; exact A4⟩, by simp, ?_⟩, ?_⟩
  · rw [e2]; exact A2
  · rw [e1]; exact A3
  · rw [Array.length_toList, e3, r1]; simpa using r2
  · rw [Array.length_toList, e3, r1]; simpa using r
end Arrays
theorem Rt.arraylengthL (X : Sd p l e R s m args below meth c T n0 cells slots h0) (hx : p.tables.exec = Jvm.exec) {Z : State} (hZ : Z.Warmed39 s.vm) {ty : FieldType} {a : Addr} {N : Nat} (F : IL Z h0 a ty N) {v : Int32} (hv : N.toInt32 = v) {pc pc' : Nat} {Ls : Array Slot} {S : List Value} (hd : decode c.code pc = .ok (.arraylength, 1)) (hp : pc + 1 = pc')
    (h : Rt p e below s k n P (T.setTop (mkF m pc' Ls (.int v :: S)))) : Rt p e below s k n P (T.setTop (mkF m pc Ls (.ref a :: S))) := by
  obtain ⟨vs, F, rfl⟩ := F
  exact Rt.arraylength X hx hZ F hv hd hp h
theorem Rt.iastoreL (X : Sd p l e R s m args below meth c T n0 cells slots h0) (hx : p.tables.exec = Jvm.exec) {Z : State} (hZ : Z.Warmed39 s.vm) {a : Addr} {N : Nat} (F : IL Z h0 a .int N) {j : Int32} {i : Nat} (hi : j.toNatClampNeg = i) (hj : ¬ j < 0) (hv : i < N) {x : Int32} (ga : n0 ≤ a) {pc pc' : Nat} {Ls : Array Slot} {S : List Value} (hd : decode c.code pc = .ok (.iastore, 1)) (hp : pc + 1 = pc')
    (hh : ∀ T' h', Sd p l e R s m args below meth c T' n0 cells slots h' → ∀ w, Wr h0 h' a i w → IL Z h' a .int N → Rt p e below s k n P (T'.setTop (mkF m pc' Ls S))) : Rt p e below s k n P (T.setTop (mkF m pc Ls (.int x :: .int j :: .ref a :: S))) := by
  obtain ⟨vs, F, rfl⟩ := F
  exact Rt.iastore X hx hZ F hi hj hv rfl ga hd hp fun T' h' X' W' F' => hh T' h' X' _ W' ⟨_, F', List.length_set⟩
theorem Rt.lastoreL (X : Sd p l e R s m args below meth c T n0 cells slots h0) (hx : p.tables.exec = Jvm.exec) {Z : State} (hZ : Z.Warmed39 s.vm) {a : Addr} {N : Nat} (F : IL Z h0 a .long N) {j : Int32} {i : Nat} (hi : j.toNatClampNeg = i) (hj : ¬ j < 0) (hv : i < N) {x : Int64} (ga : n0 ≤ a) {pc pc' : Nat} {Ls : Array Slot} {S : List Value} (hd : decode c.code pc = .ok (.lastore, 1)) (hp : pc + 1 = pc')
    (hh : ∀ T' h', Sd p l e R s m args below meth c T' n0 cells slots h' → ∀ w, Wr h0 h' a i w → IL Z h' a .long N → Rt p e below s k n P (T'.setTop (mkF m pc' Ls S))) : Rt p e below s k n P (T.setTop (mkF m pc Ls (.long x :: .int j :: .ref a :: S))) := by
  obtain ⟨vs, F, rfl⟩ := F
  exact Rt.lastore X hx hZ F hi hj hv rfl ga hd hp fun T' h' X' W' F' => hh T' h' X' _ W' ⟨_, F', List.length_set⟩
theorem Rt.bastoreL (X : Sd p l e R s m args below meth c T n0 cells slots h0) (hx : p.tables.exec = Jvm.exec) {Z : State} (hZ : Z.Warmed39 s.vm) {a : Addr} {N : Nat} (F : IL Z h0 a .byte N) {j : Int32} {i : Nat} (hi : j.toNatClampNeg = i) (hj : ¬ j < 0) (hv : i < N) {x : Int32} (ga : n0 ≤ a) {pc pc' : Nat} {Ls : Array Slot} {S : List Value} (hd : decode c.code pc = .ok (.bastore, 1)) (hp : pc + 1 = pc')
    (hh : ∀ T' h', Sd p l e R s m args below meth c T' n0 cells slots h' → ∀ w, Wr h0 h' a i w → IL Z h' a .byte N → Rt p e below s k n P (T'.setTop (mkF m pc' Ls S))) : Rt p e below s k n P (T.setTop (mkF m pc Ls (.int x :: .int j :: .ref a :: S))) := by
  obtain ⟨vs, F, rfl⟩ := F
  exact Rt.bastore X hx hZ F hi hj hv rfl ga hd hp fun T' h' X' W' F' => hh T' h' X' _ W' ⟨_, F', List.length_set⟩
theorem Rt.zastoreL (X : Sd p l e R s m args below meth c T n0 cells slots h0) (hx : p.tables.exec = Jvm.exec) {Z : State} (hZ : Z.Warmed39 s.vm) {a : Addr} {N : Nat} (F : IL Z h0 a .boolean N) {j : Int32} {i : Nat} (hi : j.toNatClampNeg = i) (hj : ¬ j < 0) (hv : i < N) {x : Int32} (ga : n0 ≤ a) {pc pc' : Nat} {Ls : Array Slot} {S : List Value} (hd : decode c.code pc = .ok (.bastore, 1)) (hp : pc + 1 = pc')
    (hh : ∀ T' h', Sd p l e R s m args below meth c T' n0 cells slots h' → ∀ w, Wr h0 h' a i w → IL Z h' a .boolean N → Rt p e below s k n P (T'.setTop (mkF m pc' Ls S))) : Rt p e below s k n P (T.setTop (mkF m pc Ls (.int x :: .int j :: .ref a :: S))) := by
  obtain ⟨vs, F, rfl⟩ := F
  exact Rt.zastore X hx hZ F hi hj hv rfl ga hd hp fun T' h' X' W' F' => hh T' h' X' _ W' ⟨_, F', List.length_set⟩
theorem Rt.castoreL (X : Sd p l e R s m args below meth c T n0 cells slots h0) (hx : p.tables.exec = Jvm.exec) {Z : State} (hZ : Z.Warmed39 s.vm) {a : Addr} {N : Nat} (F : IL Z h0 a .char N) {j : Int32} {i : Nat} (hi : j.toNatClampNeg = i) (hj : ¬ j < 0) (hv : i < N) {x : Int32} (ga : n0 ≤ a) {pc pc' : Nat} {Ls : Array Slot} {S : List Value} (hd : decode c.code pc = .ok (.castore, 1)) (hp : pc + 1 = pc')
    (hh : ∀ T' h', Sd p l e R s m args below meth c T' n0 cells slots h' → ∀ w, Wr h0 h' a i w → IL Z h' a .char N → Rt p e below s k n P (T'.setTop (mkF m pc' Ls S))) : Rt p e below s k n P (T.setTop (mkF m pc Ls (.int x :: .int j :: .ref a :: S))) := by
  obtain ⟨vs, F, rfl⟩ := F
  exact Rt.castore X hx hZ F hi hj hv rfl ga hd hp fun T' h' X' W' F' => hh T' h' X' _ W' ⟨_, F', List.length_set⟩
end Own
abbrev mt1 : MethodName := ⟨"java/lang/Math", "min", "(II)I"⟩
abbrev mt2 : MethodName := ⟨"java/lang/Math", "max", "(II)I"⟩
abbrev mt3 : MethodName := ⟨"com/example/bowerbird/bowerbird/keys/KeyType", "invert", "([BII)V"⟩
abbrev mt4 : MethodName := ⟨"com/example/bowerbird/bowerbird/keys/KeyTypeInvertPinLaw", "check", "([BIIII)Z"⟩
theorem d1_0 : decode jdk_29_method_69_code 0 = .ok (.iload_n 0, 1) := by decide +kernel
theorem d1_1 : decode jdk_29_method_69_code 1 = .ok (.iload_n 1, 1) := by decide +kernel
theorem d1_2 : decode jdk_29_method_69_code 2 = .ok (.if_icmp .gt 7, 3) := by decide +kernel
theorem d1_9 : decode jdk_29_method_69_code 9 = .ok (.iload_n 1, 1) := by decide +kernel
theorem d1_10 : decode jdk_29_method_69_code 10 = .ok (.ireturn, 1) := by decide +kernel
theorem d1_5 : decode jdk_29_method_69_code 5 = .ok (.iload_n 0, 1) := by decide +kernel
theorem d1_6 : decode jdk_29_method_69_code 6 = .ok (.goto 4, 3) := by decide +kernel
def f1 (p1 : Int32) (p2 : Int32) : Int32 := (if p2 < p1 then p2 else p1)
def Q1 (p1 : Int32) (p2 : Int32) (h0 : Heap) (n0 : Nat) (v : Option Value) (h : Heap) (L : List Loc) : Prop := v = some (.int (f1 p1 p2)) ∧ Fr n0 L ∧ h = h0
def rmR1 : Room := { frames := 0, cells := 0, slots := 0, locals := 0 }
theorem ef_1 (m : MethodId) (p1 : Int32) (p2 : Int32) : entryFrame m #[(.int p1), (.int p2)] 2 = mkF m 0 #[.val (.int p1), .val (.int p2)] [] := by first | (simp [entryFrame, mkF, argsToLocals, Value.category]; done) | rfl
set_option maxRecDepth 65536 in
set_option maxHeartbeats 40000000 in
theorem rm1 (l : Launch) (Z : State) (a0 : Array Value) (hw : ∀ d ∈ tables_1, d.before a0 Z = true) (ws : List Jvm.Cond) (p1 : Int32) (p2 : Int32) (h0 : Heap) (n0 : Nat) :
    Mt l Z mt1 (Jvm.Cond.code mt1 jdk_29_method_69_code 2 (some .int) :: ws) rmR1 #[(.int p1), (.int p2)] h0 (Q1 p1 p2 h0 n0) := by
  refine Mt.of n0 (Jvm.Free.JP.mathPlain rfl (by decide +kernel)) ?_
  intro p e s m below meth c T0 X0 hx hZ hby hml hown hret hlk hnm hs0
  have hown : s.vm.findClass "java/lang/Math" = some m.cls := hown
  rw [ef_1]
  show Rt p e below s rmR1.cells rmR1.slots (Q1 p1 p2 h0 n0) (T0.setTop (mkF m 0 #[.val (.int p1), .val (.int p2)] []))
  refine Rt.iloadN (pc' := 1) X0 hx (hb hby d1_0) rfl rfl ?_
  refine Rt.iloadN (pc' := 2) X0 hx (hb hby d1_1) rfl rfl ?_
  by_cases hc2_1 : p2 < p1
  · refine Rt.icmpY (pc' := 9) X0 hx (hb hby d1_2) (tlt hc2_1).2.2.1 (by decide) (by decide) ?_
    refine Rt.iloadN (pc' := 10) X0 hx (hb hby d1_9) rfl rfl ?_
    exact Rt.retI X0 hx hlk hret (hb hby d1_10) (by decide) (by decide) (fun L N => ⟨congrArg some (congrArg Value.int (by rw [f1, if_pos hc2_1])), N, rfl⟩)
  · refine Rt.icmpN (pc' := 5) X0 hx (hb hby d1_2) (flt hc2_1).2.2.1 rfl ?_
    refine Rt.iloadN (pc' := 6) X0 hx (hb hby d1_5) rfl rfl ?_
    refine Rt.goto (pc' := 10) X0 hx (hb hby d1_6) (by decide) (by decide) ?_
    exact Rt.retI X0 hx hlk hret (hb hby d1_10) (by decide) (by decide) (fun L N => ⟨congrArg some (congrArg Value.int (by rw [f1, if_neg hc2_1])), N, rfl⟩)
theorem d2_0 : decode jdk_29_method_65_code 0 = .ok (.iload_n 0, 1) := by decide +kernel
theorem d2_1 : decode jdk_29_method_65_code 1 = .ok (.iload_n 1, 1) := by decide +kernel
theorem d2_2 : decode jdk_29_method_65_code 2 = .ok (.if_icmp .lt 7, 3) := by decide +kernel
theorem d2_9 : decode jdk_29_method_65_code 9 = .ok (.iload_n 1, 1) := by decide +kernel
theorem d2_10 : decode jdk_29_method_65_code 10 = .ok (.ireturn, 1) := by decide +kernel
theorem d2_5 : decode jdk_29_method_65_code 5 = .ok (.iload_n 0, 1) := by decide +kernel
theorem d2_6 : decode jdk_29_method_65_code 6 = .ok (.goto 4, 3) := by decide +kernel
def f2 (p1 : Int32) (p2 : Int32) : Int32 := (if p1 < p2 then p2 else p1)
def Q2 (p1 : Int32) (p2 : Int32) (h0 : Heap) (n0 : Nat) (v : Option Value) (h : Heap) (L : List Loc) : Prop := v = some (.int (f2 p1 p2)) ∧ Fr n0 L ∧ h = h0
def rmR2 : Room := { frames := 0, cells := 0, slots := 0, locals := 0 }
theorem ef_2 (m : MethodId) (p1 : Int32) (p2 : Int32) : entryFrame m #[(.int p1), (.int p2)] 2 = mkF m 0 #[.val (.int p1), .val (.int p2)] [] := by first | (simp [entryFrame, mkF, argsToLocals, Value.category]; done) | rfl
set_option maxRecDepth 65536 in
set_option maxHeartbeats 40000000 in
theorem rm2 (l : Launch) (Z : State) (a0 : Array Value) (hw : ∀ d ∈ tables_1, d.before a0 Z = true) (ws : List Jvm.Cond) (p1 : Int32) (p2 : Int32) (h0 : Heap) (n0 : Nat) :
    Mt l Z mt2 (Jvm.Cond.code mt2 jdk_29_method_65_code 2 (some .int) :: ws) rmR2 #[(.int p1), (.int p2)] h0 (Q2 p1 p2 h0 n0) := by
  refine Mt.of n0 (Jvm.Free.JP.mathPlain rfl (by decide +kernel)) ?_
  intro p e s m below meth c T0 X0 hx hZ hby hml hown hret hlk hnm hs0
  have hown : s.vm.findClass "java/lang/Math" = some m.cls := hown
  rw [ef_2]
  show Rt p e below s rmR2.cells rmR2.slots (Q2 p1 p2 h0 n0) (T0.setTop (mkF m 0 #[.val (.int p1), .val (.int p2)] []))
  refine Rt.iloadN (pc' := 1) X0 hx (hb hby d2_0) rfl rfl ?_
  refine Rt.iloadN (pc' := 2) X0 hx (hb hby d2_1) rfl rfl ?_
  by_cases hc2_1 : p1 < p2
  · refine Rt.icmpY (pc' := 9) X0 hx (hb hby d2_2) (tlt hc2_1).1 (by decide) (by decide) ?_
    refine Rt.iloadN (pc' := 10) X0 hx (hb hby d2_9) rfl rfl ?_
    exact Rt.retI X0 hx hlk hret (hb hby d2_10) (by decide) (by decide) (fun L N => ⟨congrArg some (congrArg Value.int (by rw [f2, if_pos hc2_1])), N, rfl⟩)
  · refine Rt.icmpN (pc' := 5) X0 hx (hb hby d2_2) (flt hc2_1).1 rfl ?_
    refine Rt.iloadN (pc' := 6) X0 hx (hb hby d2_5) rfl rfl ?_
    refine Rt.goto (pc' := 10) X0 hx (hb hby d2_6) (by decide) (by decide) ?_
    exact Rt.retI X0 hx hlk hret (hb hby d2_10) (by decide) (by decide) (fun L N => ⟨congrArg some (congrArg Value.int (by rw [f2, if_neg hc2_1])), N, rfl⟩)
def f3_inv (x : Int32) : Int32 := (nar .byte ((x ^^^ (-1 : Int32)).toInt8.toInt32))
def f3_g (i lo hi v : Int32) : Int32 := if i < lo then v else if i < hi then f3_inv v else v
theorem d3_0 : decode prog_18_method_13_code 0 = .ok (.iload_n 1, 1) := by decide +kernel
theorem d3_1 : decode prog_18_method_13_code 1 = .ok (.istore_n 3, 1) := by decide +kernel
theorem d3_2 : decode prog_18_method_13_code 2 = .ok (.iload_n 3, 1) := by decide +kernel
theorem d3_3 : decode prog_18_method_13_code 3 = .ok (.iload_n 2, 1) := by decide +kernel
theorem d3_4 : decode prog_18_method_13_code 4 = .ok (.if_icmp .ge 18, 3) := by decide +kernel
theorem d3_22 : decode prog_18_method_13_code 22 = .ok (.return_, 1) := by decide +kernel
def Q3_0_0 (Z : State) (a1 : Addr) (v0 : Int32) (v1 : Int32) (v2 : Int32) (v3 : Int32) (h0 : Heap) (n0 : Nat) (v : Option Value) (h : Heap) (L : List Loc) : Prop := v = none ∧ Fr n0 L ∧ Keep h0 h [a1] ∧ IA Z h a1 .byte [(.int v0), (.int v1), (.int v2), (.int v3)]
def rmR3_0_0 : Room := { frames := 0, cells := 0, slots := 0, locals := 0 }
theorem ef_3_0_0 (m : MethodId) (a1 : Addr) : entryFrame m #[(.ref a1), (.int (0 : Int32)), (.int (0 : Int32))] 4 = mkF m 0 #[.val (.ref a1), .val (.int (0 : Int32)), .val (.int (0 : Int32)), .unset] [] := by first | (simp [entryFrame, mkF, argsToLocals, Value.category]; done) | rfl
theorem pn_com_example_bowerbird_bowerbird_keys_KeyType : plainName "com/example/bowerbird/bowerbird/keys/KeyType" = true := by first | (simp [plainName, overriddenIn]; done) | decide +kernel
set_option maxRecDepth 65536 in
set_option maxHeartbeats 40000000 in
theorem rm3_0_0 (l : Launch) (Z : State) (a0 : Array Value) (hw : ∀ d ∈ tables_1, d.before a0 Z = true) (ws : List Jvm.Cond) (a1 : Addr) (v0 : Int32) (v1 : Int32) (v2 : Int32) (v3 : Int32) (h0 : Heap) (n0 : Nat) (Z0 : n0 ≤ h0.size) (F_A_a1 : IA Z h0 a1 .byte [(.int v0), (.int v1), (.int v2), (.int v3)]) (g_a1 : n0 ≤ a1) :
    Mt l Z mt3 (Jvm.Cond.code mt3 prog_18_method_13_code 4 none :: ws) rmR3_0_0 #[(.ref a1), (.int (0 : Int32)), (.int (0 : Int32))] h0 (Q3_0_0 Z a1 v0 v1 v2 v3 h0 n0) := by
  refine Mt.of n0 (plainFor_of_name pn_com_example_bowerbird_bowerbird_keys_KeyType) ?_
  intro p e s m below meth c T0 X0 hx hZ hby hml hown hret hlk hnm hs0
  have hown : s.vm.findClass "com/example/bowerbird/bowerbird/keys/KeyType" = some m.cls := hown
  rw [ef_3_0_0]
  show Rt p e below s rmR3_0_0.cells rmR3_0_0.slots (Q3_0_0 Z a1 v0 v1 v2 v3 h0 n0) (T0.setTop (mkF m 0 #[.val (.ref a1), .val (.int (0 : Int32)), .val (.int (0 : Int32)), .unset] []))
  refine Rt.iloadN (pc' := 1) X0 hx (hb hby d3_0) rfl rfl ?_
  refine Rt.istoreN (pc' := 2) (v := (0 : Int32)) (l' := #[.val (.ref a1), .val (.int (0 : Int32)), .val (.int (0 : Int32)), .val (.int (0 : Int32))]) X0 hx (hb hby d3_1) rfl rfl ?_
  refine Rt.iloadN (pc' := 3) X0 hx (hb hby d3_2) rfl rfl ?_
  refine Rt.iloadN (pc' := 4) X0 hx (hb hby d3_3) rfl rfl ?_
  refine Rt.icmpY (pc' := 22) X0 hx (hb hby d3_4) (flt (by decide : ¬ ((0 : Int32) < (0 : Int32)))).2.1 (by decide) (by decide) ?_
  exact Rt.retV X0 hx hlk hret (hb hby d3_22) (by decide) (by decide) (fun L N => ⟨rfl, N, (Keep.refl h0 [a1]), F_A_a1⟩)
theorem d3_7 : decode prog_18_method_13_code 7 = .ok (.aload_n 0, 1) := by decide +kernel
theorem d3_8 : decode prog_18_method_13_code 8 = .ok (.iload_n 3, 1) := by decide +kernel
theorem d3_9 : decode prog_18_method_13_code 9 = .ok (.aload_n 0, 1) := by decide +kernel
theorem d3_10 : decode prog_18_method_13_code 10 = .ok (.iload_n 3, 1) := by decide +kernel
theorem d3_11 : decode prog_18_method_13_code 11 = .ok (.baload, 1) := by decide +kernel
theorem d3_12 : decode prog_18_method_13_code 12 = .ok (.iconst (-1), 1) := by decide +kernel
theorem d3_13 : decode prog_18_method_13_code 13 = .ok (.ixor, 1) := by decide +kernel
theorem d3_14 : decode prog_18_method_13_code 14 = .ok (.i2b, 1) := by decide +kernel
theorem d3_15 : decode prog_18_method_13_code 15 = .ok (.bastore, 1) := by decide +kernel
theorem d3_16 : decode prog_18_method_13_code 16 = .ok (.iinc 3 1, 3) := by decide +kernel
theorem d3_19 : decode prog_18_method_13_code 19 = .ok (.goto (-17), 3) := by decide +kernel
def Q3_0_1 (Z : State) (a1 : Addr) (v0 : Int32) (v1 : Int32) (v2 : Int32) (v3 : Int32) (h0 : Heap) (n0 : Nat) (v : Option Value) (h : Heap) (L : List Loc) : Prop := v = none ∧ Fr n0 L ∧ Keep h0 h [a1] ∧ IA Z h a1 .byte [(.int (f3_inv v0)), (.int v1), (.int v2), (.int v3)]
def rmR3_0_1 : Room := { frames := 0, cells := 0, slots := 0, locals := 0 }
theorem ef_3_0_1 (m : MethodId) (a1 : Addr) : entryFrame m #[(.ref a1), (.int (0 : Int32)), (.int (1 : Int32))] 4 = mkF m 0 #[.val (.ref a1), .val (.int (0 : Int32)), .val (.int (1 : Int32)), .unset] [] := by first | (simp [entryFrame, mkF, argsToLocals, Value.category]; done) | rfl
set_option maxRecDepth 65536 in
set_option maxHeartbeats 40000000 in
theorem rm3_0_1 (l : Launch) (Z : State) (a0 : Array Value) (hw : ∀ d ∈ tables_1, d.before a0 Z = true) (ws : List Jvm.Cond) (a1 : Addr) (v0 : Int32) (v1 : Int32) (v2 : Int32) (v3 : Int32) (h0 : Heap) (n0 : Nat) (Z0 : n0 ≤ h0.size) (F_A_a1 : IA Z h0 a1 .byte [(.int v0), (.int v1), (.int v2), (.int v3)]) (g_a1 : n0 ≤ a1) :
    Mt l Z mt3 (Jvm.Cond.code mt3 prog_18_method_13_code 4 none :: ws) rmR3_0_1 #[(.ref a1), (.int (0 : Int32)), (.int (1 : Int32))] h0 (Q3_0_1 Z a1 v0 v1 v2 v3 h0 n0) := by
  refine Mt.of n0 (plainFor_of_name pn_com_example_bowerbird_bowerbird_keys_KeyType) ?_
  intro p e s m below meth c T0 X0 hx hZ hby hml hown hret hlk hnm hs0
  have hown : s.vm.findClass "com/example/bowerbird/bowerbird/keys/KeyType" = some m.cls := hown
  rw [ef_3_0_1]
  show Rt p e below s rmR3_0_1.cells rmR3_0_1.slots (Q3_0_1 Z a1 v0 v1 v2 v3 h0 n0) (T0.setTop (mkF m 0 #[.val (.ref a1), .val (.int (0 : Int32)), .val (.int (1 : Int32)), .unset] []))
  refine Rt.iloadN (pc' := 1) X0 hx (hb hby d3_0) rfl rfl ?_
  refine Rt.istoreN (pc' := 2) (v := (0 : Int32)) (l' := #[.val (.ref a1), .val (.int (0 : Int32)), .val (.int (1 : Int32)), .val (.int (0 : Int32))]) X0 hx (hb hby d3_1) rfl rfl ?_
  refine Rt.iloadN (pc' := 3) X0 hx (hb hby d3_2) rfl rfl ?_
  refine Rt.iloadN (pc' := 4) X0 hx (hb hby d3_3) rfl rfl ?_
  refine Rt.icmpN (pc' := 7) X0 hx (hb hby d3_4) (tlt (by decide : (0 : Int32) < (1 : Int32))).2.1 rfl ?_
  refine Rt.aloadN (pc' := 8) X0 hx (hb hby d3_7) rfl rfl rfl ?_
  refine Rt.iloadN (pc' := 9) X0 hx (hb hby d3_8) rfl rfl ?_
  refine Rt.aloadN (pc' := 10) X0 hx (hb hby d3_9) rfl rfl rfl ?_
  refine Rt.iloadN (pc' := 11) X0 hx (hb hby d3_10) rfl rfl ?_
  refine Rt.baload (pc' := 12) X0 hx hZ F_A_a1 (i := 0) (by decide) (by decide) (v := (.int v0)) rfl (hb hby d3_11) rfl ?_
  refine Rt.iconst (pc' := 13) (v := (-1 : Int32)) X0 hx (hb hby d3_12) rfl rfl ?_
  refine Rt.ixor (pc' := 14) (r := (v0 ^^^ (-1 : Int32))) X0 hx (hb hby d3_13) rfl rfl ?_
  refine Rt.i2b (pc' := 15) (r := ((v0 ^^^ (-1 : Int32)).toInt8.toInt32)) X0 hx (hb hby d3_14) rfl rfl ?_
  refine Rt.bastore (pc' := 16) X0 hx hZ F_A_a1 (i := 0) (by decide) (by decide) (Nat.le_of_ble_eq_true rfl) (w := (.int (f3_inv v0))) rfl g_a1 (hb hby d3_15) rfl ?_
  intro T1 h1 X1 W1 F1
  have F1 : IA Z h1 a1 .byte [(.int (f3_inv v0)), (.int v1), (.int v2), (.int v3)] := F1
  have K2 : Keep h0 h1 [a1] := (Keep.refl h0 [a1]).wr W1 (Or.inl (List.mem_of_getElem? (i := 0) rfl))
  have Z3 : n0 ≤ h1.size := Nat.le_trans Z0 (Keep.of_wr W1).1
  refine Rt.iinc (pc' := 19) (r := (1 : Int32)) (l' := #[.val (.ref a1), .val (.int (0 : Int32)), .val (.int (1 : Int32)), .val (.int (1 : Int32))]) X1 hx (hb hby d3_16) rfl (by decide) rfl rfl ?_
  refine Rt.goto (pc' := 2) X1 hx (hb hby d3_19) (by decide) (by decide) ?_
  refine Rt.iloadN (pc' := 3) X1 hx (hb hby d3_2) rfl rfl ?_
  refine Rt.iloadN (pc' := 4) X1 hx (hb hby d3_3) rfl rfl ?_
  refine Rt.icmpY (pc' := 22) X1 hx (hb hby d3_4) (flt (by decide : ¬ ((1 : Int32) < (1 : Int32)))).2.1 (by decide) (by decide) ?_
  exact Rt.retV X1 hx hlk hret (hb hby d3_22) (by decide) (by decide) (fun L N => ⟨rfl, N, K2, F1⟩)
def Q3_0_2 (Z : State) (a1 : Addr) (v0 : Int32) (v1 : Int32) (v2 : Int32) (v3 : Int32) (h0 : Heap) (n0 : Nat) (v : Option Value) (h : Heap) (L : List Loc) : Prop := v = none ∧ Fr n0 L ∧ Keep h0 h [a1] ∧ IA Z h a1 .byte [(.int (f3_inv v0)), (.int (f3_inv v1)), (.int v2), (.int v3)]
def rmR3_0_2 : Room := { frames := 0, cells := 0, slots := 0, locals := 0 }
theorem ef_3_0_2 (m : MethodId) (a1 : Addr) : entryFrame m #[(.ref a1), (.int (0 : Int32)), (.int (2 : Int32))] 4 = mkF m 0 #[.val (.ref a1), .val (.int (0 : Int32)), .val (.int (2 : Int32)), .unset] [] := by first | (simp [entryFrame, mkF, argsToLocals, Value.category]; done) | rfl
set_option maxRecDepth 65536 in
set_option maxHeartbeats 40000000 in
theorem rm3_0_2 (l : Launch) (Z : State) (a0 : Array Value) (hw : ∀ d ∈ tables_1, d.before a0 Z = true) (ws : List Jvm.Cond) (a1 : Addr) (v0 : Int32) (v1 : Int32) (v2 : Int32) (v3 : Int32) (h0 : Heap) (n0 : Nat) (Z0 : n0 ≤ h0.size) (F_A_a1 : IA Z h0 a1 .byte [(.int v0), (.int v1), (.int v2), (.int v3)]) (g_a1 : n0 ≤ a1) :
    Mt l Z mt3 (Jvm.Cond.code mt3 prog_18_method_13_code 4 none :: ws) rmR3_0_2 #[(.ref a1), (.int (0 : Int32)), (.int (2 : Int32))] h0 (Q3_0_2 Z a1 v0 v1 v2 v3 h0 n0) := by
  refine Mt.of n0 (plainFor_of_name pn_com_example_bowerbird_bowerbird_keys_KeyType) ?_
  intro p e s m below meth c T0 X0 hx hZ hby hml hown hret hlk hnm hs0
  have hown : s.vm.findClass "com/example/bowerbird/bowerbird/keys/KeyType" = some m.cls := hown
  rw [ef_3_0_2]
  show Rt p e below s rmR3_0_2.cells rmR3_0_2.slots (Q3_0_2 Z a1 v0 v1 v2 v3 h0 n0) (T0.setTop (mkF m 0 #[.val (.ref a1), .val (.int (0 : Int32)), .val (.int (2 : Int32)), .unset] []))
  refine Rt.iloadN (pc' := 1) X0 hx (hb hby d3_0) rfl rfl ?_
  refine Rt.istoreN (pc' := 2) (v := (0 : Int32)) (l' := #[.val (.ref a1), .val (.int (0 : Int32)), .val (.int (2 : Int32)), .val (.int (0 : Int32))]) X0 hx (hb hby d3_1) rfl rfl ?_
  refine Rt.iloadN (pc' := 3) X0 hx (hb hby d3_2) rfl rfl ?_
  refine Rt.iloadN (pc' := 4) X0 hx (hb hby d3_3) rfl rfl ?_
  refine Rt.icmpN (pc' := 7) X0 hx (hb hby d3_4) (tlt (by decide : (0 : Int32) < (2 : Int32))).2.1 rfl ?_
  refine Rt.aloadN (pc' := 8) X0 hx (hb hby d3_7) rfl rfl rfl ?_
  refine Rt.iloadN (pc' := 9) X0 hx (hb hby d3_8) rfl rfl ?_
  refine Rt.aloadN (pc' := 10) X0 hx (hb hby d3_9) rfl rfl rfl ?_
  refine Rt.iloadN (pc' := 11) X0 hx (hb hby d3_10) rfl rfl ?_
  refine Rt.baload (pc' := 12) X0 hx hZ F_A_a1 (i := 0) (by decide) (by decide) (v := (.int v0)) rfl (hb hby d3_11) rfl ?_
  refine Rt.iconst (pc' := 13) (v := (-1 : Int32)) X0 hx (hb hby d3_12) rfl rfl ?_
  refine Rt.ixor (pc' := 14) (r := (v0 ^^^ (-1 : Int32))) X0 hx (hb hby d3_13) rfl rfl ?_
  refine Rt.i2b (pc' := 15) (r := ((v0 ^^^ (-1 : Int32)).toInt8.toInt32)) X0 hx (hb hby d3_14) rfl rfl ?_
  refine Rt.bastore (pc' := 16) X0 hx hZ F_A_a1 (i := 0) (by decide) (by decide) (Nat.le_of_ble_eq_true rfl) (w := (.int (f3_inv v0))) rfl g_a1 (hb hby d3_15) rfl ?_
  intro T1 h1 X1 W1 F1
  have F1 : IA Z h1 a1 .byte [(.int (f3_inv v0)), (.int v1), (.int v2), (.int v3)] := F1
  have K2 : Keep h0 h1 [a1] := (Keep.refl h0 [a1]).wr W1 (Or.inl (List.mem_of_getElem? (i := 0) rfl))
  have Z3 : n0 ≤ h1.size := Nat.le_trans Z0 (Keep.of_wr W1).1
  refine Rt.iinc (pc' := 19) (r := (1 : Int32)) (l' := #[.val (.ref a1), .val (.int (0 : Int32)), .val (.int (2 : Int32)), .val (.int (1 : Int32))]) X1 hx (hb hby d3_16) rfl (by decide) rfl rfl ?_
  refine Rt.goto (pc' := 2) X1 hx (hb hby d3_19) (by decide) (by decide) ?_
  refine Rt.iloadN (pc' := 3) X1 hx (hb hby d3_2) rfl rfl ?_
  refine Rt.iloadN (pc' := 4) X1 hx (hb hby d3_3) rfl rfl ?_
  refine Rt.icmpN (pc' := 7) X1 hx (hb hby d3_4) (tlt (by decide : (1 : Int32) < (2 : Int32))).2.1 rfl ?_
  refine Rt.aloadN (pc' := 8) X1 hx (hb hby d3_7) rfl rfl rfl ?_
  refine Rt.iloadN (pc' := 9) X1 hx (hb hby d3_8) rfl rfl ?_
  refine Rt.aloadN (pc' := 10) X1 hx (hb hby d3_9) rfl rfl rfl ?_
  refine Rt.iloadN (pc' := 11) X1 hx (hb hby d3_10) rfl rfl ?_
  refine Rt.baload (pc' := 12) X1 hx hZ F1 (i := 1) (by decide) (by decide) (v := (.int v1)) rfl (hb hby d3_11) rfl ?_
  refine Rt.iconst (pc' := 13) (v := (-1 : Int32)) X1 hx (hb hby d3_12) rfl rfl ?_
  refine Rt.ixor (pc' := 14) (r := (v1 ^^^ (-1 : Int32))) X1 hx (hb hby d3_13) rfl rfl ?_
  refine Rt.i2b (pc' := 15) (r := ((v1 ^^^ (-1 : Int32)).toInt8.toInt32)) X1 hx (hb hby d3_14) rfl rfl ?_
  refine Rt.bastore (pc' := 16) X1 hx hZ F1 (i := 1) (by decide) (by decide) (Nat.le_of_ble_eq_true rfl) (w := (.int (f3_inv v1))) rfl g_a1 (hb hby d3_15) rfl ?_
  intro T4 h4 X4 W4 F4
  have F4 : IA Z h4 a1 .byte [(.int (f3_inv v0)), (.int (f3_inv v1)), (.int v2), (.int v3)] := F4
  have K5 : Keep h0 h4 [a1] := K2.wr W4 (Or.inl (List.mem_of_getElem? (i := 0) rfl))
  have Z6 : n0 ≤ h4.size := Nat.le_trans Z3 (Keep.of_wr W4).1
  refine Rt.iinc (pc' := 19) (r := (2 : Int32)) (l' := #[.val (.ref a1), .val (.int (0 : Int32)), .val (.int (2 : Int32)), .val (.int (2 : Int32))]) X4 hx (hb hby d3_16) rfl (by decide) rfl rfl ?_
  refine Rt.goto (pc' := 2) X4 hx (hb hby d3_19) (by decide) (by decide) ?_
  refine Rt.iloadN (pc' := 3) X4 hx (hb hby d3_2) rfl rfl ?_
  refine Rt.iloadN (pc' := 4) X4 hx (hb hby d3_3) rfl rfl ?_
  refine Rt.icmpY (pc' := 22) X4 hx (hb hby d3_4) (flt (by decide : ¬ ((2 : Int32) < (2 : Int32)))).2.1 (by decide) (by decide) ?_
  exact Rt.retV X4 hx hlk hret (hb hby d3_22) (by decide) (by decide) (fun L N => ⟨rfl, N, K5, F4⟩)
def Q3_0_3 (Z : State) (a1 : Addr) (v0 : Int32) (v1 : Int32) (v2 : Int32) (v3 : Int32) (h0 : Heap) (n0 : Nat) (v : Option Value) (h : Heap) (L : List Loc) : Prop := v = none ∧ Fr n0 L ∧ Keep h0 h [a1] ∧ IA Z h a1 .byte [(.int (f3_inv v0)), (.int (f3_inv v1)), (.int (f3_inv v2)), (.int v3)]
def rmR3_0_3 : Room := { frames := 0, cells := 0, slots := 0, locals := 0 }
theorem ef_3_0_3 (m : MethodId) (a1 : Addr) : entryFrame m #[(.ref a1), (.int (0 : Int32)), (.int (3 : Int32))] 4 = mkF m 0 #[.val (.ref a1), .val (.int (0 : Int32)), .val (.int (3 : Int32)), .unset] [] := by first | (simp [entryFrame, mkF, argsToLocals, Value.category]; done) | rfl
set_option maxRecDepth 65536 in
set_option maxHeartbeats 40000000 in
theorem rm3_0_3 (l : Launch) (Z : State) (a0 : Array Value) (hw : ∀ d ∈ tables_1, d.before a0 Z = true) (ws : List Jvm.Cond) (a1 : Addr) (v0 : Int32) (v1 : Int32) (v2 : Int32) (v3 : Int32) (h0 : Heap) (n0 : Nat) (Z0 : n0 ≤ h0.size) (F_A_a1 : IA Z h0 a1 .byte [(.int v0), (.int v1), (.int v2), (.int v3)]) (g_a1 : n0 ≤ a1) :
    Mt l Z mt3 (Jvm.Cond.code mt3 prog_18_method_13_code 4 none :: ws) rmR3_0_3 #[(.ref a1), (.int (0 : Int32)), (.int (3 : Int32))] h0 (Q3_0_3 Z a1 v0 v1 v2 v3 h0 n0) := by
  refine Mt.of n0 (plainFor_of_name pn_com_example_bowerbird_bowerbird_keys_KeyType) ?_
  intro p e s m below meth c T0 X0 hx hZ hby hml hown hret hlk hnm hs0
  have hown : s.vm.findClass "com/example/bowerbird/bowerbird/keys/KeyType" = some m.cls := hown
  rw [ef_3_0_3]
  show Rt p e below s rmR3_0_3.cells rmR3_0_3.slots (Q3_0_3 Z a1 v0 v1 v2 v3 h0 n0) (T0.setTop (mkF m 0 #[.val (.ref a1), .val (.int (0 : Int32)), .val (.int (3 : Int32)), .unset] []))
  refine Rt.iloadN (pc' := 1) X0 hx (hb hby d3_0) rfl rfl ?_
  refine Rt.istoreN (pc' := 2) (v := (0 : Int32)) (l' := #[.val (.ref a1), .val (.int (0 : Int32)), .val (.int (3 : Int32)), .val (.int (0 : Int32))]) X0 hx (hb hby d3_1) rfl rfl ?_
  refine Rt.iloadN (pc' := 3) X0 hx (hb hby d3_2) rfl rfl ?_
  refine Rt.iloadN (pc' := 4) X0 hx (hb hby d3_3) rfl rfl ?_
  refine Rt.icmpN (pc' := 7) X0 hx (hb hby d3_4) (tlt (by decide : (0 : Int32) < (3 : Int32))).2.1 rfl ?_
  refine Rt.aloadN (pc' := 8) X0 hx (hb hby d3_7) rfl rfl rfl ?_
  refine Rt.iloadN (pc' := 9) X0 hx (hb hby d3_8) rfl rfl ?_
  refine Rt.aloadN (pc' := 10) X0 hx (hb hby d3_9) rfl rfl rfl ?_
  refine Rt.iloadN (pc' := 11) X0 hx (hb hby d3_10) rfl rfl ?_
  refine Rt.baload (pc' := 12) X0 hx hZ F_A_a1 (i := 0) (by decide) (by decide) (v := (.int v0)) rfl (hb hby d3_11) rfl ?_
  refine Rt.iconst (pc' := 13) (v := (-1 : Int32)) X0 hx (hb hby d3_12) rfl rfl ?_
  refine Rt.ixor (pc' := 14) (r := (v0 ^^^ (-1 : Int32))) X0 hx (hb hby d3_13) rfl rfl ?_
  refine Rt.i2b (pc' := 15) (r := ((v0 ^^^ (-1 : Int32)).toInt8.toInt32)) X0 hx (hb hby d3_14) rfl rfl ?_
  refine Rt.bastore (pc' := 16) X0 hx hZ F_A_a1 (i := 0) (by decide) (by decide) (Nat.le_of_ble_eq_true rfl) (w := (.int (f3_inv v0))) rfl g_a1 (hb hby d3_15) rfl ?_
  intro T1 h1 X1 W1 F1
  have F1 : IA Z h1 a1 .byte [(.int (f3_inv v0)), (.int v1), (.int v2), (.int v3)] := F1
  have K2 : Keep h0 h1 [a1] := (Keep.refl h0 [a1]).wr W1 (Or.inl (List.mem_of_getElem? (i := 0) rfl))
  have Z3 : n0 ≤ h1.size := Nat.le_trans Z0 (Keep.of_wr W1).1
  refine Rt.iinc (pc' := 19) (r := (1 : Int32)) (l' := #[.val (.ref a1), .val (.int (0 : Int32)), .val (.int (3 : Int32)), .val (.int (1 : Int32))]) X1 hx (hb hby d3_16) rfl (by decide) rfl rfl ?_
  refine Rt.goto (pc' := 2) X1 hx (hb hby d3_19) (by decide) (by decide) ?_
  refine Rt.iloadN (pc' := 3) X1 hx (hb hby d3_2) rfl rfl ?_
  refine Rt.iloadN (pc' := 4) X1 hx (hb hby d3_3) rfl rfl ?_
  refine Rt.icmpN (pc' := 7) X1 hx (hb hby d3_4) (tlt (by decide : (1 : Int32) < (3 : Int32))).2.1 rfl ?_
  refine Rt.aloadN (pc' := 8) X1 hx (hb hby d3_7) rfl rfl rfl ?_
  refine Rt.iloadN (pc' := 9) X1 hx (hb hby d3_8) rfl rfl ?_
  refine Rt.aloadN (pc' := 10) X1 hx (hb hby d3_9) rfl rfl rfl ?_
  refine Rt.iloadN (pc' := 11) X1 hx (hb hby d3_10) rfl rfl ?_
  refine Rt.baload (pc' := 12) X1 hx hZ F1 (i := 1) (by decide) (by decide) (v := (.int v1)) rfl (hb hby d3_11) rfl ?_
  refine Rt.iconst (pc' := 13) (v := (-1 : Int32)) X1 hx (hb hby d3_12) rfl rfl ?_
  refine Rt.ixor (pc' := 14) (r := (v1 ^^^ (-1 : Int32))) X1 hx (hb hby d3_13) rfl rfl ?_
  refine Rt.i2b (pc' := 15) (r := ((v1 ^^^ (-1 : Int32)).toInt8.toInt32)) X1 hx (hb hby d3_14) rfl rfl ?_
  refine Rt.bastore (pc' := 16) X1 hx hZ F1 (i := 1) (by decide) (by decide) (Nat.le_of_ble_eq_true rfl) (w := (.int (f3_inv v1))) rfl g_a1 (hb hby d3_15) rfl ?_
  intro T4 h4 X4 W4 F4
  have F4 : IA Z h4 a1 .byte [(.int (f3_inv v0)), (.int (f3_inv v1)), (.int v2), (.int v3)] := F4
  have K5 : Keep h0 h4 [a1] := K2.wr W4 (Or.inl (List.mem_of_getElem? (i := 0) rfl))
  have Z6 : n0 ≤ h4.size := Nat.le_trans Z3 (Keep.of_wr W4).1
  refine Rt.iinc (pc' := 19) (r := (2 : Int32)) (l' := #[.val (.ref a1), .val (.int (0 : Int32)), .val (.int (3 : Int32)), .val (.int (2 : Int32))]) X4 hx (hb hby d3_16) rfl (by decide) rfl rfl ?_
  refine Rt.goto (pc' := 2) X4 hx (hb hby d3_19) (by decide) (by decide) ?_
  refine Rt.iloadN (pc' := 3) X4 hx (hb hby d3_2) rfl rfl ?_
  refine Rt.iloadN (pc' := 4) X4 hx (hb hby d3_3) rfl rfl ?_
  refine Rt.icmpN (pc' := 7) X4 hx (hb hby d3_4) (tlt (by decide : (2 : Int32) < (3 : Int32))).2.1 rfl ?_
  refine Rt.aloadN (pc' := 8) X4 hx (hb hby d3_7) rfl rfl rfl ?_
  refine Rt.iloadN (pc' := 9) X4 hx (hb hby d3_8) rfl rfl ?_
  refine Rt.aloadN (pc' := 10) X4 hx (hb hby d3_9) rfl rfl rfl ?_
  refine Rt.iloadN (pc' := 11) X4 hx (hb hby d3_10) rfl rfl ?_
  refine Rt.baload (pc' := 12) X4 hx hZ F4 (i := 2) (by decide) (by decide) (v := (.int v2)) rfl (hb hby d3_11) rfl ?_
  refine Rt.iconst (pc' := 13) (v := (-1 : Int32)) X4 hx (hb hby d3_12) rfl rfl ?_
  refine Rt.ixor (pc' := 14) (r := (v2 ^^^ (-1 : Int32))) X4 hx (hb hby d3_13) rfl rfl ?_
  refine Rt.i2b (pc' := 15) (r := ((v2 ^^^ (-1 : Int32)).toInt8.toInt32)) X4 hx (hb hby d3_14) rfl rfl ?_
  refine Rt.bastore (pc' := 16) X4 hx hZ F4 (i := 2) (by decide) (by decide) (Nat.le_of_ble_eq_true rfl) (w := (.int (f3_inv v2))) rfl g_a1 (hb hby d3_15) rfl ?_
  intro T7 h7 X7 W7 F7
  have F7 : IA Z h7 a1 .byte [(.int (f3_inv v0)), (.int (f3_inv v1)), (.int (f3_inv v2)), (.int v3)] := F7
  have K8 : Keep h0 h7 [a1] := K5.wr W7 (Or.inl (List.mem_of_getElem? (i := 0) rfl))
  have Z9 : n0 ≤ h7.size := Nat.le_trans Z6 (Keep.of_wr W7).1
  refine Rt.iinc (pc' := 19) (r := (3 : Int32)) (l' := #[.val (.ref a1), .val (.int (0 : Int32)), .val (.int (3 : Int32)), .val (.int (3 : Int32))]) X7 hx (hb hby d3_16) rfl (by decide) rfl rfl ?_
  refine Rt.goto (pc' := 2) X7 hx (hb hby d3_19) (by decide) (by decide) ?_
  refine Rt.iloadN (pc' := 3) X7 hx (hb hby d3_2) rfl rfl ?_
  refine Rt.iloadN (pc' := 4) X7 hx (hb hby d3_3) rfl rfl ?_
  refine Rt.icmpY (pc' := 22) X7 hx (hb hby d3_4) (flt (by decide : ¬ ((3 : Int32) < (3 : Int32)))).2.1 (by decide) (by decide) ?_
  exact Rt.retV X7 hx hlk hret (hb hby d3_22) (by decide) (by decide) (fun L N => ⟨rfl, N, K8, F7⟩)
def Q3_0_4 (Z : State) (a1 : Addr) (v0 : Int32) (v1 : Int32) (v2 : Int32) (v3 : Int32) (h0 : Heap) (n0 : Nat) (v : Option Value) (h : Heap) (L : List Loc) : Prop := v = none ∧ Fr n0 L ∧ Keep h0 h [a1] ∧ IA Z h a1 .byte [(.int (f3_inv v0)), (.int (f3_inv v1)), (.int (f3_inv v2)), (.int (f3_inv v3))]
def rmR3_0_4 : Room := { frames := 0, cells := 0, slots := 0, locals := 0 }
theorem ef_3_0_4 (m : MethodId) (a1 : Addr) : entryFrame m #[(.ref a1), (.int (0 : Int32)), (.int (4 : Int32))] 4 = mkF m 0 #[.val (.ref a1), .val (.int (0 : Int32)), .val (.int (4 : Int32)), .unset] [] := by first | (simp [entryFrame, mkF, argsToLocals, Value.category]; done) | rfl
set_option maxRecDepth 65536 in
set_option maxHeartbeats 40000000 in
theorem rm3_0_4 (l : Launch) (Z : State) (a0 : Array Value) (hw : ∀ d ∈ tables_1, d.before a0 Z = true) (ws : List Jvm.Cond) (a1 : Addr) (v0 : Int32) (v1 : Int32) (v2 : Int32) (v3 : Int32) (h0 : Heap) (n0 : Nat) (Z0 : n0 ≤ h0.size) (F_A_a1 : IA Z h0 a1 .byte [(.int v0), (.int v1), (.int v2), (.int v3)]) (g_a1 : n0 ≤ a1) :
    Mt l Z mt3 (Jvm.Cond.code mt3 prog_18_method_13_code 4 none :: ws) rmR3_0_4 #[(.ref a1), (.int (0 : Int32)), (.int (4 : Int32))] h0 (Q3_0_4 Z a1 v0 v1 v2 v3 h0 n0) := by
  refine Mt.of n0 (plainFor_of_name pn_com_example_bowerbird_bowerbird_keys_KeyType) ?_
  intro p e s m below meth c T0 X0 hx hZ hby hml hown hret hlk hnm hs0
  have hown : s.vm.findClass "com/example/bowerbird/bowerbird/keys/KeyType" = some m.cls := hown
  rw [ef_3_0_4]
  show Rt p e below s rmR3_0_4.cells rmR3_0_4.slots (Q3_0_4 Z a1 v0 v1 v2 v3 h0 n0) (T0.setTop (mkF m 0 #[.val (.ref a1), .val (.int (0 : Int32)), .val (.int (4 : Int32)), .unset] []))
  refine Rt.iloadN (pc' := 1) X0 hx (hb hby d3_0) rfl rfl ?_
  refine Rt.istoreN (pc' := 2) (v := (0 : Int32)) (l' := #[.val (.ref a1), .val (.int (0 : Int32)), .val (.int (4 : Int32)), .val (.int (0 : Int32))]) X0 hx (hb hby d3_1) rfl rfl ?_
  refine Rt.iloadN (pc' := 3) X0 hx (hb hby d3_2) rfl rfl ?_
  refine Rt.iloadN (pc' := 4) X0 hx (hb hby d3_3) rfl rfl ?_
  refine Rt.icmpN (pc' := 7) X0 hx (hb hby d3_4) (tlt (by decide : (0 : Int32) < (4 : Int32))).2.1 rfl ?_
  refine Rt.aloadN (pc' := 8) X0 hx (hb hby d3_7) rfl rfl rfl ?_
  refine Rt.iloadN (pc' := 9) X0 hx (hb hby d3_8) rfl rfl ?_
  refine Rt.aloadN (pc' := 10) X0 hx (hb hby d3_9) rfl rfl rfl ?_
  refine Rt.iloadN (pc' := 11) X0 hx (hb hby d3_10) rfl rfl ?_
  refine Rt.baload (pc' := 12) X0 hx hZ F_A_a1 (i := 0) (by decide) (by decide) (v := (.int v0)) rfl (hb hby d3_11) rfl ?_
  refine Rt.iconst (pc' := 13) (v := (-1 : Int32)) X0 hx (hb hby d3_12) rfl rfl ?_
  refine Rt.ixor (pc' := 14) (r := (v0 ^^^ (-1 : Int32))) X0 hx (hb hby d3_13) rfl rfl ?_
  refine Rt.i2b (pc' := 15) (r := ((v0 ^^^ (-1 : Int32)).toInt8.toInt32)) X0 hx (hb hby d3_14) rfl rfl ?_
  refine Rt.bastore (pc' := 16) X0 hx hZ F_A_a1 (i := 0) (by decide) (by decide) (Nat.le_of_ble_eq_true rfl) (w := (.int (f3_inv v0))) rfl g_a1 (hb hby d3_15) rfl ?_
  intro T1 h1 X1 W1 F1
  have F1 : IA Z h1 a1 .byte [(.int (f3_inv v0)), (.int v1), (.int v2), (.int v3)] := F1
  have K2 : Keep h0 h1 [a1] := (Keep.refl h0 [a1]).wr W1 (Or.inl (List.mem_of_getElem? (i := 0) rfl))
  have Z3 : n0 ≤ h1.size := Nat.le_trans Z0 (Keep.of_wr W1).1
  refine Rt.iinc (pc' := 19) (r := (1 : Int32)) (l' := #[.val (.ref a1), .val (.int (0 : Int32)), .val (.int (4 : Int32)), .val (.int (1 : Int32))]) X1 hx (hb hby d3_16) rfl (by decide) rfl rfl ?_
  refine Rt.goto (pc' := 2) X1 hx (hb hby d3_19) (by decide) (by decide) ?_
  refine Rt.iloadN (pc' := 3) X1 hx (hb hby d3_2) rfl rfl ?_
  refine Rt.iloadN (pc' := 4) X1 hx (hb hby d3_3) rfl rfl ?_
  refine Rt.icmpN (pc' := 7) X1 hx (hb hby d3_4) (tlt (by decide : (1 : Int32) < (4 : Int32))).2.1 rfl ?_
  refine Rt.aloadN (pc' := 8) X1 hx (hb hby d3_7) rfl rfl rfl ?_
  refine Rt.iloadN (pc' := 9) X1 hx (hb hby d3_8) rfl rfl ?_
  refine Rt.aloadN (pc' := 10) X1 hx (hb hby d3_9) rfl rfl rfl ?_
  refine Rt.iloadN (pc' := 11) X1 hx (hb hby d3_10) rfl rfl ?_
  refine Rt.baload (pc' := 12) X1 hx hZ F1 (i := 1) (by decide) (by decide) (v := (.int v1)) rfl (hb hby d3_11) rfl ?_
  refine Rt.iconst (pc' := 13) (v := (-1 : Int32)) X1 hx (hb hby d3_12) rfl rfl ?_
  refine Rt.ixor (pc' := 14) (r := (v1 ^^^ (-1 : Int32))) X1 hx (hb hby d3_13) rfl rfl ?_
  refine Rt.i2b (pc' := 15) (r := ((v1 ^^^ (-1 : Int32)).toInt8.toInt32)) X1 hx (hb hby d3_14) rfl rfl ?_
  refine Rt.bastore (pc' := 16) X1 hx hZ F1 (i := 1) (by decide) (by decide) (Nat.le_of_ble_eq_true rfl) (w := (.int (f3_inv v1))) rfl g_a1 (hb hby d3_15) rfl ?_
  intro T4 h4 X4 W4 F4
  have F4 : IA Z h4 a1 .byte [(.int (f3_inv v0)), (.int (f3_inv v1)), (.int v2), (.int v3)] := F4
  have K5 : Keep h0 h4 [a1] := K2.wr W4 (Or.inl (List.mem_of_getElem? (i := 0) rfl))
  have Z6 : n0 ≤ h4.size := Nat.le_trans Z3 (Keep.of_wr W4).1
  refine Rt.iinc (pc' := 19) (r := (2 : Int32)) (l' := #[.val (.ref a1), .val (.int (0 : Int32)), .val (.int (4 : Int32)), .val (.int (2 : Int32))]) X4 hx (hb hby d3_16) rfl (by decide) rfl rfl ?_
  refine Rt.goto (pc' := 2) X4 hx (hb hby d3_19) (by decide) (by decide) ?_
  refine Rt.iloadN (pc' := 3) X4 hx (hb hby d3_2) rfl rfl ?_
  refine Rt.iloadN (pc' := 4) X4 hx (hb hby d3_3) rfl rfl ?_
  refine Rt.icmpN (pc' := 7) X4 hx (hb hby d3_4) (tlt (by decide : (2 : Int32) < (4 : Int32))).2.1 rfl ?_
  refine Rt.aloadN (pc' := 8) X4 hx (hb hby d3_7) rfl rfl rfl ?_
  refine Rt.iloadN (pc' := 9) X4 hx (hb hby d3_8) rfl rfl ?_
  refine Rt.aloadN (pc' := 10) X4 hx (hb hby d3_9) rfl rfl rfl ?_
  refine Rt.iloadN (pc' := 11) X4 hx (hb hby d3_10) rfl rfl ?_
  refine Rt.baload (pc' := 12) X4 hx hZ F4 (i := 2) (by decide) (by decide) (v := (.int v2)) rfl (hb hby d3_11) rfl ?_
  refine Rt.iconst (pc' := 13) (v := (-1 : Int32)) X4 hx (hb hby d3_12) rfl rfl ?_
  refine Rt.ixor (pc' := 14) (r := (v2 ^^^ (-1 : Int32))) X4 hx (hb hby d3_13) rfl rfl ?_
  refine Rt.i2b (pc' := 15) (r := ((v2 ^^^ (-1 : Int32)).toInt8.toInt32)) X4 hx (hb hby d3_14) rfl rfl ?_
  refine Rt.bastore (pc' := 16) X4 hx hZ F4 (i := 2) (by decide) (by decide) (Nat.le_of_ble_eq_true rfl) (w := (.int (f3_inv v2))) rfl g_a1 (hb hby d3_15) rfl ?_
  intro T7 h7 X7 W7 F7
  have F7 : IA Z h7 a1 .byte [(.int (f3_inv v0)), (.int (f3_inv v1)), (.int (f3_inv v2)), (.int v3)] := F7
  have K8 : Keep h0 h7 [a1] := K5.wr W7 (Or.inl (List.mem_of_getElem? (i := 0) rfl))
  have Z9 : n0 ≤ h7.size := Nat.le_trans Z6 (Keep.of_wr W7).1
  refine Rt.iinc (pc' := 19) (r := (3 : Int32)) (l' := #[.val (.ref a1), .val (.int (0 : Int32)), .val (.int (4 : Int32)), .val (.int (3 : Int32))]) X7 hx (hb hby d3_16) rfl (by decide) rfl rfl ?_
  refine Rt.goto (pc' := 2) X7 hx (hb hby d3_19) (by decide) (by decide) ?_
  refine Rt.iloadN (pc' := 3) X7 hx (hb hby d3_2) rfl rfl ?_
  refine Rt.iloadN (pc' := 4) X7 hx (hb hby d3_3) rfl rfl ?_
  refine Rt.icmpN (pc' := 7) X7 hx (hb hby d3_4) (tlt (by decide : (3 : Int32) < (4 : Int32))).2.1 rfl ?_
  refine Rt.aloadN (pc' := 8) X7 hx (hb hby d3_7) rfl rfl rfl ?_
  refine Rt.iloadN (pc' := 9) X7 hx (hb hby d3_8) rfl rfl ?_
  refine Rt.aloadN (pc' := 10) X7 hx (hb hby d3_9) rfl rfl rfl ?_
  refine Rt.iloadN (pc' := 11) X7 hx (hb hby d3_10) rfl rfl ?_
  refine Rt.baload (pc' := 12) X7 hx hZ F7 (i := 3) (by decide) (by decide) (v := (.int v3)) rfl (hb hby d3_11) rfl ?_
  refine Rt.iconst (pc' := 13) (v := (-1 : Int32)) X7 hx (hb hby d3_12) rfl rfl ?_
  refine Rt.ixor (pc' := 14) (r := (v3 ^^^ (-1 : Int32))) X7 hx (hb hby d3_13) rfl rfl ?_
  refine Rt.i2b (pc' := 15) (r := ((v3 ^^^ (-1 : Int32)).toInt8.toInt32)) X7 hx (hb hby d3_14) rfl rfl ?_
  refine Rt.bastore (pc' := 16) X7 hx hZ F7 (i := 3) (by decide) (by decide) (Nat.le_of_ble_eq_true rfl) (w := (.int (f3_inv v3))) rfl g_a1 (hb hby d3_15) rfl ?_
  intro T10 h10 X10 W10 F10
  have F10 : IA Z h10 a1 .byte [(.int (f3_inv v0)), (.int (f3_inv v1)), (.int (f3_inv v2)), (.int (f3_inv v3))] := F10
  have K11 : Keep h0 h10 [a1] := K8.wr W10 (Or.inl (List.mem_of_getElem? (i := 0) rfl))
  have Z12 : n0 ≤ h10.size := Nat.le_trans Z9 (Keep.of_wr W10).1
  refine Rt.iinc (pc' := 19) (r := (4 : Int32)) (l' := #[.val (.ref a1), .val (.int (0 : Int32)), .val (.int (4 : Int32)), .val (.int (4 : Int32))]) X10 hx (hb hby d3_16) rfl (by decide) rfl rfl ?_
  refine Rt.goto (pc' := 2) X10 hx (hb hby d3_19) (by decide) (by decide) ?_
  refine Rt.iloadN (pc' := 3) X10 hx (hb hby d3_2) rfl rfl ?_
  refine Rt.iloadN (pc' := 4) X10 hx (hb hby d3_3) rfl rfl ?_
  refine Rt.icmpY (pc' := 22) X10 hx (hb hby d3_4) (flt (by decide : ¬ ((4 : Int32) < (4 : Int32)))).2.1 (by decide) (by decide) ?_
  exact Rt.retV X10 hx hlk hret (hb hby d3_22) (by decide) (by decide) (fun L N => ⟨rfl, N, K11, F10⟩)
def Q3_1_1 (Z : State) (a1 : Addr) (v0 : Int32) (v1 : Int32) (v2 : Int32) (v3 : Int32) (h0 : Heap) (n0 : Nat) (v : Option Value) (h : Heap) (L : List Loc) : Prop := v = none ∧ Fr n0 L ∧ Keep h0 h [a1] ∧ IA Z h a1 .byte [(.int v0), (.int v1), (.int v2), (.int v3)]
def rmR3_1_1 : Room := { frames := 0, cells := 0, slots := 0, locals := 0 }
theorem ef_3_1_1 (m : MethodId) (a1 : Addr) : entryFrame m #[(.ref a1), (.int (1 : Int32)), (.int (1 : Int32))] 4 = mkF m 0 #[.val (.ref a1), .val (.int (1 : Int32)), .val (.int (1 : Int32)), .unset] [] := by first | (simp [entryFrame, mkF, argsToLocals, Value.category]; done) | rfl
set_option maxRecDepth 65536 in
set_option maxHeartbeats 40000000 in
theorem rm3_1_1 (l : Launch) (Z : State) (a0 : Array Value) (hw : ∀ d ∈ tables_1, d.before a0 Z = true) (ws : List Jvm.Cond) (a1 : Addr) (v0 : Int32) (v1 : Int32) (v2 : Int32) (v3 : Int32) (h0 : Heap) (n0 : Nat) (Z0 : n0 ≤ h0.size) (F_A_a1 : IA Z h0 a1 .byte [(.int v0), (.int v1), (.int v2), (.int v3)]) (g_a1 : n0 ≤ a1) :
    Mt l Z mt3 (Jvm.Cond.code mt3 prog_18_method_13_code 4 none :: ws) rmR3_1_1 #[(.ref a1), (.int (1 : Int32)), (.int (1 : Int32))] h0 (Q3_1_1 Z a1 v0 v1 v2 v3 h0 n0) := by
  refine Mt.of n0 (plainFor_of_name pn_com_example_bowerbird_bowerbird_keys_KeyType) ?_
  intro p e s m below meth c T0 X0 hx hZ hby hml hown hret hlk hnm hs0
  have hown : s.vm.findClass "com/example/bowerbird/bowerbird/keys/KeyType" = some m.cls := hown
  rw [ef_3_1_1]
  show Rt p e below s rmR3_1_1.cells rmR3_1_1.slots (Q3_1_1 Z a1 v0 v1 v2 v3 h0 n0) (T0.setTop (mkF m 0 #[.val (.ref a1), .val (.int (1 : Int32)), .val (.int (1 : Int32)), .unset] []))
  refine Rt.iloadN (pc' := 1) X0 hx (hb hby d3_0) rfl rfl ?_
  refine Rt.istoreN (pc' := 2) (v := (1 : Int32)) (l' := #[.val (.ref a1), .val (.int (1 : Int32)), .val (.int (1 : Int32)), .val (.int (1 : Int32))]) X0 hx (hb hby d3_1) rfl rfl ?_
  refine Rt.iloadN (pc' := 3) X0 hx (hb hby d3_2) rfl rfl ?_
  refine Rt.iloadN (pc' := 4) X0 hx (hb hby d3_3) rfl rfl ?_
  refine Rt.icmpY (pc' := 22) X0 hx (hb hby d3_4) (flt (by decide : ¬ ((1 : Int32) < (1 : Int32)))).2.1 (by decide) (by decide) ?_
  exact Rt.retV X0 hx hlk hret (hb hby d3_22) (by decide) (by decide) (fun L N => ⟨rfl, N, (Keep.refl h0 [a1]), F_A_a1⟩)
def Q3_1_2 (Z : State) (a1 : Addr) (v0 : Int32) (v1 : Int32) (v2 : Int32) (v3 : Int32) (h0 : Heap) (n0 : Nat) (v : Option Value) (h : Heap) (L : List Loc) : Prop := v = none ∧ Fr n0 L ∧ Keep h0 h [a1] ∧ IA Z h a1 .byte [(.int v0), (.int (f3_inv v1)), (.int v2), (.int v3)]
def rmR3_1_2 : Room := { frames := 0, cells := 0, slots := 0, locals := 0 }
theorem ef_3_1_2 (m : MethodId) (a1 : Addr) : entryFrame m #[(.ref a1), (.int (1 : Int32)), (.int (2 : Int32))] 4 = mkF m 0 #[.val (.ref a1), .val (.int (1 : Int32)), .val (.int (2 : Int32)), .unset] [] := by first | (simp [entryFrame, mkF, argsToLocals, Value.category]; done) | rfl
set_option maxRecDepth 65536 in
set_option maxHeartbeats 40000000 in
theorem rm3_1_2 (l : Launch) (Z : State) (a0 : Array Value) (hw : ∀ d ∈ tables_1, d.before a0 Z = true) (ws : List Jvm.Cond) (a1 : Addr) (v0 : Int32) (v1 : Int32) (v2 : Int32) (v3 : Int32) (h0 : Heap) (n0 : Nat) (Z0 : n0 ≤ h0.size) (F_A_a1 : IA Z h0 a1 .byte [(.int v0), (.int v1), (.int v2), (.int v3)]) (g_a1 : n0 ≤ a1) :
    Mt l Z mt3 (Jvm.Cond.code mt3 prog_18_method_13_code 4 none :: ws) rmR3_1_2 #[(.ref a1), (.int (1 : Int32)), (.int (2 : Int32))] h0 (Q3_1_2 Z a1 v0 v1 v2 v3 h0 n0) := by
  refine Mt.of n0 (plainFor_of_name pn_com_example_bowerbird_bowerbird_keys_KeyType) ?_
  intro p e s m below meth c T0 X0 hx hZ hby hml hown hret hlk hnm hs0
  have hown : s.vm.findClass "com/example/bowerbird/bowerbird/keys/KeyType" = some m.cls := hown
  rw [ef_3_1_2]
  show Rt p e below s rmR3_1_2.cells rmR3_1_2.slots (Q3_1_2 Z a1 v0 v1 v2 v3 h0 n0) (T0.setTop (mkF m 0 #[.val (.ref a1), .val (.int (1 : Int32)), .val (.int (2 : Int32)), .unset] []))
  refine Rt.iloadN (pc' := 1) X0 hx (hb hby d3_0) rfl rfl ?_
  refine Rt.istoreN (pc' := 2) (v := (1 : Int32)) (l' := #[.val (.ref a1), .val (.int (1 : Int32)), .val (.int (2 : Int32)), .val (.int (1 : Int32))]) X0 hx (hb hby d3_1) rfl rfl ?_
  refine Rt.iloadN (pc' := 3) X0 hx (hb hby d3_2) rfl rfl ?_
  refine Rt.iloadN (pc' := 4) X0 hx (hb hby d3_3) rfl rfl ?_
  refine Rt.icmpN (pc' := 7) X0 hx (hb hby d3_4) (tlt (by decide : (1 : Int32) < (2 : Int32))).2.1 rfl ?_
  refine Rt.aloadN (pc' := 8) X0 hx (hb hby d3_7) rfl rfl rfl ?_
  refine Rt.iloadN (pc' := 9) X0 hx (hb hby d3_8) rfl rfl ?_
  refine Rt.aloadN (pc' := 10) X0 hx (hb hby d3_9) rfl rfl rfl ?_
  refine Rt.iloadN (pc' := 11) X0 hx (hb hby d3_10) rfl rfl ?_
  refine Rt.baload (pc' := 12) X0 hx hZ F_A_a1 (i := 1) (by decide) (by decide) (v := (.int v1)) rfl (hb hby d3_11) rfl ?_
  refine Rt.iconst (pc' := 13) (v := (-1 : Int32)) X0 hx (hb hby d3_12) rfl rfl ?_
  refine Rt.ixor (pc' := 14) (r := (v1 ^^^ (-1 : Int32))) X0 hx (hb hby d3_13) rfl rfl ?_
  refine Rt.i2b (pc' := 15) (r := ((v1 ^^^ (-1 : Int32)).toInt8.toInt32)) X0 hx (hb hby d3_14) rfl rfl ?_
  refine Rt.bastore (pc' := 16) X0 hx hZ F_A_a1 (i := 1) (by decide) (by decide) (Nat.le_of_ble_eq_true rfl) (w := (.int (f3_inv v1))) rfl g_a1 (hb hby d3_15) rfl ?_
  intro T1 h1 X1 W1 F1
  have F1 : IA Z h1 a1 .byte [(.int v0), (.int (f3_inv v1)), (.int v2), (.int v3)] := F1
  have K2 : Keep h0 h1 [a1] := (Keep.refl h0 [a1]).wr W1 (Or.inl (List.mem_of_getElem? (i := 0) rfl))
  have Z3 : n0 ≤ h1.size := Nat.le_trans Z0 (Keep.of_wr W1).1
  refine Rt.iinc (pc' := 19) (r := (2 : Int32)) (l' := #[.val (.ref a1), .val (.int (1 : Int32)), .val (.int (2 : Int32)), .val (.int (2 : Int32))]) X1 hx (hb hby d3_16) rfl (by decide) rfl rfl ?_
  refine Rt.goto (pc' := 2) X1 hx (hb hby d3_19) (by decide) (by decide) ?_
  refine Rt.iloadN (pc' := 3) X1 hx (hb hby d3_2) rfl rfl ?_
  refine Rt.iloadN (pc' := 4) X1 hx (hb hby d3_3) rfl rfl ?_
  refine Rt.icmpY (pc' := 22) X1 hx (hb hby d3_4) (flt (by decide : ¬ ((2 : Int32) < (2 : Int32)))).2.1 (by decide) (by decide) ?_
  exact Rt.retV X1 hx hlk hret (hb hby d3_22) (by decide) (by decide) (fun L N => ⟨rfl, N, K2, F1⟩)
def Q3_1_3 (Z : State) (a1 : Addr) (v0 : Int32) (v1 : Int32) (v2 : Int32) (v3 : Int32) (h0 : Heap) (n0 : Nat) (v : Option Value) (h : Heap) (L : List Loc) : Prop := v = none ∧ Fr n0 L ∧ Keep h0 h [a1] ∧ IA Z h a1 .byte [(.int v0), (.int (f3_inv v1)), (.int (f3_inv v2)), (.int v3)]
def rmR3_1_3 : Room := { frames := 0, cells := 0, slots := 0, locals := 0 }
theorem ef_3_1_3 (m : MethodId) (a1 : Addr) : entryFrame m #[(.ref a1), (.int (1 : Int32)), (.int (3 : Int32))] 4 = mkF m 0 #[.val (.ref a1), .val (.int (1 : Int32)), .val (.int (3 : Int32)), .unset] [] := by first | (simp [entryFrame, mkF, argsToLocals, Value.category]; done) | rfl
set_option maxRecDepth 65536 in
set_option maxHeartbeats 40000000 in
theorem rm3_1_3 (l : Launch) (Z : State) (a0 : Array Value) (hw : ∀ d ∈ tables_1, d.before a0 Z = true) (ws : List Jvm.Cond) (a1 : Addr) (v0 : Int32) (v1 : Int32) (v2 : Int32) (v3 : Int32) (h0 : Heap) (n0 : Nat) (Z0 : n0 ≤ h0.size) (F_A_a1 : IA Z h0 a1 .byte [(.int v0), (.int v1), (.int v2), (.int v3)]) (g_a1 : n0 ≤ a1) :
    Mt l Z mt3 (Jvm.Cond.code mt3 prog_18_method_13_code 4 none :: ws) rmR3_1_3 #[(.ref a1), (.int (1 : Int32)), (.int (3 : Int32))] h0 (Q3_1_3 Z a1 v0 v1 v2 v3 h0 n0) := by
  refine Mt.of n0 (plainFor_of_name pn_com_example_bowerbird_bowerbird_keys_KeyType) ?_
  intro p e s m below meth c T0 X0 hx hZ hby hml hown hret hlk hnm hs0
  have hown : s.vm.findClass "com/example/bowerbird/bowerbird/keys/KeyType" = some m.cls := hown
  rw [ef_3_1_3]
  show Rt p e below s rmR3_1_3.cells rmR3_1_3.slots (Q3_1_3 Z a1 v0 v1 v2 v3 h0 n0) (T0.setTop (mkF m 0 #[.val (.ref a1), .val (.int (1 : Int32)), .val (.int (3 : Int32)), .unset] []))
  refine Rt.iloadN (pc' := 1) X0 hx (hb hby d3_0) rfl rfl ?_
  refine Rt.istoreN (pc' := 2) (v := (1 : Int32)) (l' := #[.val (.ref a1), .val (.int (1 : Int32)), .val (.int (3 : Int32)), .val (.int (1 : Int32))]) X0 hx (hb hby d3_1) rfl rfl ?_
  refine Rt.iloadN (pc' := 3) X0 hx (hb hby d3_2) rfl rfl ?_
  refine Rt.iloadN (pc' := 4) X0 hx (hb hby d3_3) rfl rfl ?_
  refine Rt.icmpN (pc' := 7) X0 hx (hb hby d3_4) (tlt (by decide : (1 : Int32) < (3 : Int32))).2.1 rfl ?_
  refine Rt.aloadN (pc' := 8) X0 hx (hb hby d3_7) rfl rfl rfl ?_
  refine Rt.iloadN (pc' := 9) X0 hx (hb hby d3_8) rfl rfl ?_
  refine Rt.aloadN (pc' := 10) X0 hx (hb hby d3_9) rfl rfl rfl ?_
  refine Rt.iloadN (pc' := 11) X0 hx (hb hby d3_10) rfl rfl ?_
  refine Rt.baload (pc' := 12) X0 hx hZ F_A_a1 (i := 1) (by decide) (by decide) (v := (.int v1)) rfl (hb hby d3_11) rfl ?_
  refine Rt.iconst (pc' := 13) (v := (-1 : Int32)) X0 hx (hb hby d3_12) rfl rfl ?_
  refine Rt.ixor (pc' := 14) (r := (v1 ^^^ (-1 : Int32))) X0 hx (hb hby d3_13) rfl rfl ?_
  refine Rt.i2b (pc' := 15) (r := ((v1 ^^^ (-1 : Int32)).toInt8.toInt32)) X0 hx (hb hby d3_14) rfl rfl ?_
  refine Rt.bastore (pc' := 16) X0 hx hZ F_A_a1 (i := 1) (by decide) (by decide) (Nat.le_of_ble_eq_true rfl) (w := (.int (f3_inv v1))) rfl g_a1 (hb hby d3_15) rfl ?_
  intro T1 h1 X1 W1 F1
  have F1 : IA Z h1 a1 .byte [(.int v0), (.int (f3_inv v1)), (.int v2), (.int v3)] := F1
  have K2 : Keep h0 h1 [a1] := (Keep.refl h0 [a1]).wr W1 (Or.inl (List.mem_of_getElem? (i := 0) rfl))
  have Z3 : n0 ≤ h1.size := Nat.le_trans Z0 (Keep.of_wr W1).1
  refine Rt.iinc (pc' := 19) (r := (2 : Int32)) (l' := #[.val (.ref a1), .val (.int (1 : Int32)), .val (.int (3 : Int32)), .val (.int (2 : Int32))]) X1 hx (hb hby d3_16) rfl (by decide) rfl rfl ?_
  refine Rt.goto (pc' := 2) X1 hx (hb hby d3_19) (by decide) (by decide) ?_
  refine Rt.iloadN (pc' := 3) X1 hx (hb hby d3_2) rfl rfl ?_
  refine Rt.iloadN (pc' := 4) X1 hx (hb hby d3_3) rfl rfl ?_
  refine Rt.icmpN (pc' := 7) X1 hx (hb hby d3_4) (tlt (by decide : (2 : Int32) < (3 : Int32))).2.1 rfl ?_
  refine Rt.aloadN (pc' := 8) X1 hx (hb hby d3_7) rfl rfl rfl ?_
  refine Rt.iloadN (pc' := 9) X1 hx (hb hby d3_8) rfl rfl ?_
  refine Rt.aloadN (pc' := 10) X1 hx (hb hby d3_9) rfl rfl rfl ?_
  refine Rt.iloadN (pc' := 11) X1 hx (hb hby d3_10) rfl rfl ?_
  refine Rt.baload (pc' := 12) X1 hx hZ F1 (i := 2) (by decide) (by decide) (v := (.int v2)) rfl (hb hby d3_11) rfl ?_
  refine Rt.iconst (pc' := 13) (v := (-1 : Int32)) X1 hx (hb hby d3_12) rfl rfl ?_
  refine Rt.ixor (pc' := 14) (r := (v2 ^^^ (-1 : Int32))) X1 hx (hb hby d3_13) rfl rfl ?_
  refine Rt.i2b (pc' := 15) (r := ((v2 ^^^ (-1 : Int32)).toInt8.toInt32)) X1 hx (hb hby d3_14) rfl rfl ?_
  refine Rt.bastore (pc' := 16) X1 hx hZ F1 (i := 2) (by decide) (by decide) (Nat.le_of_ble_eq_true rfl) (w := (.int (f3_inv v2))) rfl g_a1 (hb hby d3_15) rfl ?_
  intro T4 h4 X4 W4 F4
  have F4 : IA Z h4 a1 .byte [(.int v0), (.int (f3_inv v1)), (.int (f3_inv v2)), (.int v3)] := F4
  have K5 : Keep h0 h4 [a1] := K2.wr W4 (Or.inl (List.mem_of_getElem? (i := 0) rfl))
  have Z6 : n0 ≤ h4.size := Nat.le_trans Z3 (Keep.of_wr W4).1
  refine Rt.iinc (pc' := 19) (r := (3 : Int32)) (l' := #[.val (.ref a1), .val (.int (1 : Int32)), .val (.int (3 : Int32)), .val (.int (3 : Int32))]) X4 hx (hb hby d3_16) rfl (by decide) rfl rfl ?_
  refine Rt.goto (pc' := 2) X4 hx (hb hby d3_19) (by decide) (by decide) ?_
  refine Rt.iloadN (pc' := 3) X4 hx (hb hby d3_2) rfl rfl ?_
  refine Rt.iloadN (pc' := 4) X4 hx (hb hby d3_3) rfl rfl ?_
  refine Rt.icmpY (pc' := 22) X4 hx (hb hby d3_4) (flt (by decide : ¬ ((3 : Int32) < (3 : Int32)))).2.1 (by decide) (by decide) ?_
  exact Rt.retV X4 hx hlk hret (hb hby d3_22) (by decide) (by decide) (fun L N => ⟨rfl, N, K5, F4⟩)
def Q3_1_4 (Z : State) (a1 : Addr) (v0 : Int32) (v1 : Int32) (v2 : Int32) (v3 : Int32) (h0 : Heap) (n0 : Nat) (v : Option Value) (h : Heap) (L : List Loc) : Prop := v = none ∧ Fr n0 L ∧ Keep h0 h [a1] ∧ IA Z h a1 .byte [(.int v0), (.int (f3_inv v1)), (.int (f3_inv v2)), (.int (f3_inv v3))]
def rmR3_1_4 : Room := { frames := 0, cells := 0, slots := 0, locals := 0 }
theorem ef_3_1_4 (m : MethodId) (a1 : Addr) : entryFrame m #[(.ref a1), (.int (1 : Int32)), (.int (4 : Int32))] 4 = mkF m 0 #[.val (.ref a1), .val (.int (1 : Int32)), .val (.int (4 : Int32)), .unset] [] := by first | (simp [entryFrame, mkF, argsToLocals, Value.category]; done) | rfl
set_option maxRecDepth 65536 in
set_option maxHeartbeats 40000000 in
theorem rm3_1_4 (l : Launch) (Z : State) (a0 : Array Value) (hw : ∀ d ∈ tables_1, d.before a0 Z = true) (ws : List Jvm.Cond) (a1 : Addr) (v0 : Int32) (v1 : Int32) (v2 : Int32) (v3 : Int32) (h0 : Heap) (n0 : Nat) (Z0 : n0 ≤ h0.size) (F_A_a1 : IA Z h0 a1 .byte [(.int v0), (.int v1), (.int v2), (.int v3)]) (g_a1 : n0 ≤ a1) :
    Mt l Z mt3 (Jvm.Cond.code mt3 prog_18_method_13_code 4 none :: ws) rmR3_1_4 #[(.ref a1), (.int (1 : Int32)), (.int (4 : Int32))] h0 (Q3_1_4 Z a1 v0 v1 v2 v3 h0 n0) := by
  refine Mt.of n0 (plainFor_of_name pn_com_example_bowerbird_bowerbird_keys_KeyType) ?_
  intro p e s m below meth c T0 X0 hx hZ hby hml hown hret hlk hnm hs0
  have hown : s.vm.findClass "com/example/bowerbird/bowerbird/keys/KeyType" = some m.cls := hown
  rw [ef_3_1_4]
  show Rt p e below s rmR3_1_4.cells rmR3_1_4.slots (Q3_1_4 Z a1 v0 v1 v2 v3 h0 n0) (T0.setTop (mkF m 0 #[.val (.ref a1), .val (.int (1 : Int32)), .val (.int (4 : Int32)), .unset] []))
  refine Rt.iloadN (pc' := 1) X0 hx (hb hby d3_0) rfl rfl ?_
  refine Rt.istoreN (pc' := 2) (v := (1 : Int32)) (l' := #[.val (.ref a1), .val (.int (1 : Int32)), .val (.int (4 : Int32)), .val (.int (1 : Int32))]) X0 hx (hb hby d3_1) rfl rfl ?_
  refine Rt.iloadN (pc' := 3) X0 hx (hb hby d3_2) rfl rfl ?_
  refine Rt.iloadN (pc' := 4) X0 hx (hb hby d3_3) rfl rfl ?_
  refine Rt.icmpN (pc' := 7) X0 hx (hb hby d3_4) (tlt (by decide : (1 : Int32) < (4 : Int32))).2.1 rfl ?_
  refine Rt.aloadN (pc' := 8) X0 hx (hb hby d3_7) rfl rfl rfl ?_
  refine Rt.iloadN (pc' := 9) X0 hx (hb hby d3_8) rfl rfl ?_
  refine Rt.aloadN (pc' := 10) X0 hx (hb hby d3_9) rfl rfl rfl ?_
  refine Rt.iloadN (pc' := 11) X0 hx (hb hby d3_10) rfl rfl ?_
  refine Rt.baload (pc' := 12) X0 hx hZ F_A_a1 (i := 1) (by decide) (by decide) (v := (.int v1)) rfl (hb hby d3_11) rfl ?_
  refine Rt.iconst (pc' := 13) (v := (-1 : Int32)) X0 hx (hb hby d3_12) rfl rfl ?_
  refine Rt.ixor (pc' := 14) (r := (v1 ^^^ (-1 : Int32))) X0 hx (hb hby d3_13) rfl rfl ?_
  refine Rt.i2b (pc' := 15) (r := ((v1 ^^^ (-1 : Int32)).toInt8.toInt32)) X0 hx (hb hby d3_14) rfl rfl ?_
  refine Rt.bastore (pc' := 16) X0 hx hZ F_A_a1 (i := 1) (by decide) (by decide) (Nat.le_of_ble_eq_true rfl) (w := (.int (f3_inv v1))) rfl g_a1 (hb hby d3_15) rfl ?_
  intro T1 h1 X1 W1 F1
  have F1 : IA Z h1 a1 .byte [(.int v0), (.int (f3_inv v1)), (.int v2), (.int v3)] := F1
  have K2 : Keep h0 h1 [a1] := (Keep.refl h0 [a1]).wr W1 (Or.inl (List.mem_of_getElem? (i := 0) rfl))
  have Z3 : n0 ≤ h1.size := Nat.le_trans Z0 (Keep.of_wr W1).1
  refine Rt.iinc (pc' := 19) (r := (2 : Int32)) (l' := #[.val (.ref a1), .val (.int (1 : Int32)), .val (.int (4 : Int32)), .val (.int (2 : Int32))]) X1 hx (hb hby d3_16) rfl (by decide) rfl rfl ?_
  refine Rt.goto (pc' := 2) X1 hx (hb hby d3_19) (by decide) (by decide) ?_
  refine Rt.iloadN (pc' := 3) X1 hx (hb hby d3_2) rfl rfl ?_
  refine Rt.iloadN (pc' := 4) X1 hx (hb hby d3_3) rfl rfl ?_
  refine Rt.icmpN (pc' := 7) X1 hx (hb hby d3_4) (tlt (by decide : (2 : Int32) < (4 : Int32))).2.1 rfl ?_
  refine Rt.aloadN (pc' := 8) X1 hx (hb hby d3_7) rfl rfl rfl ?_
  refine Rt.iloadN (pc' := 9) X1 hx (hb hby d3_8) rfl rfl ?_
  refine Rt.aloadN (pc' := 10) X1 hx (hb hby d3_9) rfl rfl rfl ?_
  refine Rt.iloadN (pc' := 11) X1 hx (hb hby d3_10) rfl rfl ?_
  refine Rt.baload (pc' := 12) X1 hx hZ F1 (i := 2) (by decide) (by decide) (v := (.int v2)) rfl (hb hby d3_11) rfl ?_
  refine Rt.iconst (pc' := 13) (v := (-1 : Int32)) X1 hx (hb hby d3_12) rfl rfl ?_
  refine Rt.ixor (pc' := 14) (r := (v2 ^^^ (-1 : Int32))) X1 hx (hb hby d3_13) rfl rfl ?_
  refine Rt.i2b (pc' := 15) (r := ((v2 ^^^ (-1 : Int32)).toInt8.toInt32)) X1 hx (hb hby d3_14) rfl rfl ?_
  refine Rt.bastore (pc' := 16) X1 hx hZ F1 (i := 2) (by decide) (by decide) (Nat.le_of_ble_eq_true rfl) (w := (.int (f3_inv v2))) rfl g_a1 (hb hby d3_15) rfl ?_
  intro T4 h4 X4 W4 F4
  have F4 : IA Z h4 a1 .byte [(.int v0), (.int (f3_inv v1)), (.int (f3_inv v2)), (.int v3)] := F4
  have K5 : Keep h0 h4 [a1] := K2.wr W4 (Or.inl (List.mem_of_getElem? (i := 0) rfl))
  have Z6 : n0 ≤ h4.size := Nat.le_trans Z3 (Keep.of_wr W4).1
  refine Rt.iinc (pc' := 19) (r := (3 : Int32)) (l' := #[.val (.ref a1), .val (.int (1 : Int32)), .val (.int (4 : Int32)), .val (.int (3 : Int32))]) X4 hx (hb hby d3_16) rfl (by decide) rfl rfl ?_
  refine Rt.goto (pc' := 2) X4 hx (hb hby d3_19) (by decide) (by decide) ?_
  refine Rt.iloadN (pc' := 3) X4 hx (hb hby d3_2) rfl rfl ?_
  refine Rt.iloadN (pc' := 4) X4 hx (hb hby d3_3) rfl rfl ?_
  refine Rt.icmpN (pc' := 7) X4 hx (hb hby d3_4) (tlt (by decide : (3 : Int32) < (4 : Int32))).2.1 rfl ?_
  refine Rt.aloadN (pc' := 8) X4 hx (hb hby d3_7) rfl rfl rfl ?_
  refine Rt.iloadN (pc' := 9) X4 hx (hb hby d3_8) rfl rfl ?_
  refine Rt.aloadN (pc' := 10) X4 hx (hb hby d3_9) rfl rfl rfl ?_
  refine Rt.iloadN (pc' := 11) X4 hx (hb hby d3_10) rfl rfl ?_
  refine Rt.baload (pc' := 12) X4 hx hZ F4 (i := 3) (by decide) (by decide) (v := (.int v3)) rfl (hb hby d3_11) rfl ?_
  refine Rt.iconst (pc' := 13) (v := (-1 : Int32)) X4 hx (hb hby d3_12) rfl rfl ?_
  refine Rt.ixor (pc' := 14) (r := (v3 ^^^ (-1 : Int32))) X4 hx (hb hby d3_13) rfl rfl ?_
  refine Rt.i2b (pc' := 15) (r := ((v3 ^^^ (-1 : Int32)).toInt8.toInt32)) X4 hx (hb hby d3_14) rfl rfl ?_
  refine Rt.bastore (pc' := 16) X4 hx hZ F4 (i := 3) (by decide) (by decide) (Nat.le_of_ble_eq_true rfl) (w := (.int (f3_inv v3))) rfl g_a1 (hb hby d3_15) rfl ?_
  intro T7 h7 X7 W7 F7
  have F7 : IA Z h7 a1 .byte [(.int v0), (.int (f3_inv v1)), (.int (f3_inv v2)), (.int (f3_inv v3))] := F7
  have K8 : Keep h0 h7 [a1] := K5.wr W7 (Or.inl (List.mem_of_getElem? (i := 0) rfl))
  have Z9 : n0 ≤ h7.size := Nat.le_trans Z6 (Keep.of_wr W7).1
  refine Rt.iinc (pc' := 19) (r := (4 : Int32)) (l' := #[.val (.ref a1), .val (.int (1 : Int32)), .val (.int (4 : Int32)), .val (.int (4 : Int32))]) X7 hx (hb hby d3_16) rfl (by decide) rfl rfl ?_
  refine Rt.goto (pc' := 2) X7 hx (hb hby d3_19) (by decide) (by decide) ?_
  refine Rt.iloadN (pc' := 3) X7 hx (hb hby d3_2) rfl rfl ?_
  refine Rt.iloadN (pc' := 4) X7 hx (hb hby d3_3) rfl rfl ?_
  refine Rt.icmpY (pc' := 22) X7 hx (hb hby d3_4) (flt (by decide : ¬ ((4 : Int32) < (4 : Int32)))).2.1 (by decide) (by decide) ?_
  exact Rt.retV X7 hx hlk hret (hb hby d3_22) (by decide) (by decide) (fun L N => ⟨rfl, N, K8, F7⟩)
def Q3_2_2 (Z : State) (a1 : Addr) (v0 : Int32) (v1 : Int32) (v2 : Int32) (v3 : Int32) (h0 : Heap) (n0 : Nat) (v : Option Value) (h : Heap) (L : List Loc) : Prop := v = none ∧ Fr n0 L ∧ Keep h0 h [a1] ∧ IA Z h a1 .byte [(.int v0), (.int v1), (.int v2), (.int v3)]
def rmR3_2_2 : Room := { frames := 0, cells := 0, slots := 0, locals := 0 }
theorem ef_3_2_2 (m : MethodId) (a1 : Addr) : entryFrame m #[(.ref a1), (.int (2 : Int32)), (.int (2 : Int32))] 4 = mkF m 0 #[.val (.ref a1), .val (.int (2 : Int32)), .val (.int (2 : Int32)), .unset] [] := by first | (simp [entryFrame, mkF, argsToLocals, Value.category]; done) | rfl
set_option maxRecDepth 65536 in
set_option maxHeartbeats 40000000 in
theorem rm3_2_2 (l : Launch) (Z : State) (a0 : Array Value) (hw : ∀ d ∈ tables_1, d.before a0 Z = true) (ws : List Jvm.Cond) (a1 : Addr) (v0 : Int32) (v1 : Int32) (v2 : Int32) (v3 : Int32) (h0 : Heap) (n0 : Nat) (Z0 : n0 ≤ h0.size) (F_A_a1 : IA Z h0 a1 .byte [(.int v0), (.int v1), (.int v2), (.int v3)]) (g_a1 : n0 ≤ a1) :
    Mt l Z mt3 (Jvm.Cond.code mt3 prog_18_method_13_code 4 none :: ws) rmR3_2_2 #[(.ref a1), (.int (2 : Int32)), (.int (2 : Int32))] h0 (Q3_2_2 Z a1 v0 v1 v2 v3 h0 n0) := by
  refine Mt.of n0 (plainFor_of_name pn_com_example_bowerbird_bowerbird_keys_KeyType) ?_
  intro p e s m below meth c T0 X0 hx hZ hby hml hown hret hlk hnm hs0
  have hown : s.vm.findClass "com/example/bowerbird/bowerbird/keys/KeyType" = some m.cls := hown
  rw [ef_3_2_2]
  show Rt p e below s rmR3_2_2.cells rmR3_2_2.slots (Q3_2_2 Z a1 v0 v1 v2 v3 h0 n0) (T0.setTop (mkF m 0 #[.val (.ref a1), .val (.int (2 : Int32)), .val (.int (2 : Int32)), .unset] []))
  refine Rt.iloadN (pc' := 1) X0 hx (hb hby d3_0) rfl rfl ?_
  refine Rt.istoreN (pc' := 2) (v := (2 : Int32)) (l' := #[.val (.ref a1), .val (.int (2 : Int32)), .val (.int (2 : Int32)), .val (.int (2 : Int32))]) X0 hx (hb hby d3_1) rfl rfl ?_
  refine Rt.iloadN (pc' := 3) X0 hx (hb hby d3_2) rfl rfl ?_
  refine Rt.iloadN (pc' := 4) X0 hx (hb hby d3_3) rfl rfl ?_
  refine Rt.icmpY (pc' := 22) X0 hx (hb hby d3_4) (flt (by decide : ¬ ((2 : Int32) < (2 : Int32)))).2.1 (by decide) (by decide) ?_
  exact Rt.retV X0 hx hlk hret (hb hby d3_22) (by decide) (by decide) (fun L N => ⟨rfl, N, (Keep.refl h0 [a1]), F_A_a1⟩)
def Q3_2_3 (Z : State) (a1 : Addr) (v0 : Int32) (v1 : Int32) (v2 : Int32) (v3 : Int32) (h0 : Heap) (n0 : Nat) (v : Option Value) (h : Heap) (L : List Loc) : Prop := v = none ∧ Fr n0 L ∧ Keep h0 h [a1] ∧ IA Z h a1 .byte [(.int v0), (.int v1), (.int (f3_inv v2)), (.int v3)]
def rmR3_2_3 : Room := { frames := 0, cells := 0, slots := 0, locals := 0 }
theorem ef_3_2_3 (m : MethodId) (a1 : Addr) : entryFrame m #[(.ref a1), (.int (2 : Int32)), (.int (3 : Int32))] 4 = mkF m 0 #[.val (.ref a1), .val (.int (2 : Int32)), .val (.int (3 : Int32)), .unset] [] := by first | (simp [entryFrame, mkF, argsToLocals, Value.category]; done) | rfl
set_option maxRecDepth 65536 in
set_option maxHeartbeats 40000000 in
theorem rm3_2_3 (l : Launch) (Z : State) (a0 : Array Value) (hw : ∀ d ∈ tables_1, d.before a0 Z = true) (ws : List Jvm.Cond) (a1 : Addr) (v0 : Int32) (v1 : Int32) (v2 : Int32) (v3 : Int32) (h0 : Heap) (n0 : Nat) (Z0 : n0 ≤ h0.size) (F_A_a1 : IA Z h0 a1 .byte [(.int v0), (.int v1), (.int v2), (.int v3)]) (g_a1 : n0 ≤ a1) :
    Mt l Z mt3 (Jvm.Cond.code mt3 prog_18_method_13_code 4 none :: ws) rmR3_2_3 #[(.ref a1), (.int (2 : Int32)), (.int (3 : Int32))] h0 (Q3_2_3 Z a1 v0 v1 v2 v3 h0 n0) := by
  refine Mt.of n0 (plainFor_of_name pn_com_example_bowerbird_bowerbird_keys_KeyType) ?_
  intro p e s m below meth c T0 X0 hx hZ hby hml hown hret hlk hnm hs0
  have hown : s.vm.findClass "com/example/bowerbird/bowerbird/keys/KeyType" = some m.cls := hown
  rw [ef_3_2_3]
  show Rt p e below s rmR3_2_3.cells rmR3_2_3.slots (Q3_2_3 Z a1 v0 v1 v2 v3 h0 n0) (T0.setTop (mkF m 0 #[.val (.ref a1), .val (.int (2 : Int32)), .val (.int (3 : Int32)), .unset] []))
  refine Rt.iloadN (pc' := 1) X0 hx (hb hby d3_0) rfl rfl ?_
  refine Rt.istoreN (pc' := 2) (v := (2 : Int32)) (l' := #[.val (.ref a1), .val (.int (2 : Int32)), .val (.int (3 : Int32)), .val (.int (2 : Int32))]) X0 hx (hb hby d3_1) rfl rfl ?_
  refine Rt.iloadN (pc' := 3) X0 hx (hb hby d3_2) rfl rfl ?_
  refine Rt.iloadN (pc' := 4) X0 hx (hb hby d3_3) rfl rfl ?_
  refine Rt.icmpN (pc' := 7) X0 hx (hb hby d3_4) (tlt (by decide : (2 : Int32) < (3 : Int32))).2.1 rfl ?_
  refine Rt.aloadN (pc' := 8) X0 hx (hb hby d3_7) rfl rfl rfl ?_
  refine Rt.iloadN (pc' := 9) X0 hx (hb hby d3_8) rfl rfl ?_
  refine Rt.aloadN (pc' := 10) X0 hx (hb hby d3_9) rfl rfl rfl ?_
  refine Rt.iloadN (pc' := 11) X0 hx (hb hby d3_10) rfl rfl ?_
  refine Rt.baload (pc' := 12) X0 hx hZ F_A_a1 (i := 2) (by decide) (by decide) (v := (.int v2)) rfl (hb hby d3_11) rfl ?_
  refine Rt.iconst (pc' := 13) (v := (-1 : Int32)) X0 hx (hb hby d3_12) rfl rfl ?_
  refine Rt.ixor (pc' := 14) (r := (v2 ^^^ (-1 : Int32))) X0 hx (hb hby d3_13) rfl rfl ?_
  refine Rt.i2b (pc' := 15) (r := ((v2 ^^^ (-1 : Int32)).toInt8.toInt32)) X0 hx (hb hby d3_14) rfl rfl ?_
  refine Rt.bastore (pc' := 16) X0 hx hZ F_A_a1 (i := 2) (by decide) (by decide) (Nat.le_of_ble_eq_true rfl) (w := (.int (f3_inv v2))) rfl g_a1 (hb hby d3_15) rfl ?_
  intro T1 h1 X1 W1 F1
  have F1 : IA Z h1 a1 .byte [(.int v0), (.int v1), (.int (f3_inv v2)), (.int v3)] := F1
  have K2 : Keep h0 h1 [a1] := (Keep.refl h0 [a1]).wr W1 (Or.inl (List.mem_of_getElem? (i := 0) rfl))
  have Z3 : n0 ≤ h1.size := Nat.le_trans Z0 (Keep.of_wr W1).1
  refine Rt.iinc (pc' := 19) (r := (3 : Int32)) (l' := #[.val (.ref a1), .val (.int (2 : Int32)), .val (.int (3 : Int32)), .val (.int (3 : Int32))]) X1 hx (hb hby d3_16) rfl (by decide) rfl rfl ?_
  refine Rt.goto (pc' := 2) X1 hx (hb hby d3_19) (by decide) (by decide) ?_
  refine Rt.iloadN (pc' := 3) X1 hx (hb hby d3_2) rfl rfl ?_
  refine Rt.iloadN (pc' := 4) X1 hx (hb hby d3_3) rfl rfl ?_
  refine Rt.icmpY (pc' := 22) X1 hx (hb hby d3_4) (flt (by decide : ¬ ((3 : Int32) < (3 : Int32)))).2.1 (by decide) (by decide) ?_
  exact Rt.retV X1 hx hlk hret (hb hby d3_22) (by decide) (by decide) (fun L N => ⟨rfl, N, K2, F1⟩)
def Q3_2_4 (Z : State) (a1 : Addr) (v0 : Int32) (v1 : Int32) (v2 : Int32) (v3 : Int32) (h0 : Heap) (n0 : Nat) (v : Option Value) (h : Heap) (L : List Loc) : Prop := v = none ∧ Fr n0 L ∧ Keep h0 h [a1] ∧ IA Z h a1 .byte [(.int v0), (.int v1), (.int (f3_inv v2)), (.int (f3_inv v3))]
def rmR3_2_4 : Room := { frames := 0, cells := 0, slots := 0, locals := 0 }
theorem ef_3_2_4 (m : MethodId) (a1 : Addr) : entryFrame m #[(.ref a1), (.int (2 : Int32)), (.int (4 : Int32))] 4 = mkF m 0 #[.val (.ref a1), .val (.int (2 : Int32)), .val (.int (4 : Int32)), .unset] [] := by first | (simp [entryFrame, mkF, argsToLocals, Value.category]; done) | rfl
set_option maxRecDepth 65536 in
set_option maxHeartbeats 40000000 in
theorem rm3_2_4 (l : Launch) (Z : State) (a0 : Array Value) (hw : ∀ d ∈ tables_1, d.before a0 Z = true) (ws : List Jvm.Cond) (a1 : Addr) (v0 : Int32) (v1 : Int32) (v2 : Int32) (v3 : Int32) (h0 : Heap) (n0 : Nat) (Z0 : n0 ≤ h0.size) (F_A_a1 : IA Z h0 a1 .byte [(.int v0), (.int v1), (.int v2), (.int v3)]) (g_a1 : n0 ≤ a1) :
    Mt l Z mt3 (Jvm.Cond.code mt3 prog_18_method_13_code 4 none :: ws) rmR3_2_4 #[(.ref a1), (.int (2 : Int32)), (.int (4 : Int32))] h0 (Q3_2_4 Z a1 v0 v1 v2 v3 h0 n0) := by
  refine Mt.of n0 (plainFor_of_name pn_com_example_bowerbird_bowerbird_keys_KeyType) ?_
  intro p e s m below meth c T0 X0 hx hZ hby hml hown hret hlk hnm hs0
  have hown : s.vm.findClass "com/example/bowerbird/bowerbird/keys/KeyType" = some m.cls := hown
  rw [ef_3_2_4]
  show Rt p e below s rmR3_2_4.cells rmR3_2_4.slots (Q3_2_4 Z a1 v0 v1 v2 v3 h0 n0) (T0.setTop (mkF m 0 #[.val (.ref a1), .val (.int (2 : Int32)), .val (.int (4 : Int32)), .unset] []))
  refine Rt.iloadN (pc' := 1) X0 hx (hb hby d3_0) rfl rfl ?_
  refine Rt.istoreN (pc' := 2) (v := (2 : Int32)) (l' := #[.val (.ref a1), .val (.int (2 : Int32)), .val (.int (4 : Int32)), .val (.int (2 : Int32))]) X0 hx (hb hby d3_1) rfl rfl ?_
  refine Rt.iloadN (pc' := 3) X0 hx (hb hby d3_2) rfl rfl ?_
  refine Rt.iloadN (pc' := 4) X0 hx (hb hby d3_3) rfl rfl ?_
  refine Rt.icmpN (pc' := 7) X0 hx (hb hby d3_4) (tlt (by decide : (2 : Int32) < (4 : Int32))).2.1 rfl ?_
  refine Rt.aloadN (pc' := 8) X0 hx (hb hby d3_7) rfl rfl rfl ?_
  refine Rt.iloadN (pc' := 9) X0 hx (hb hby d3_8) rfl rfl ?_
  refine Rt.aloadN (pc' := 10) X0 hx (hb hby d3_9) rfl rfl rfl ?_
  refine Rt.iloadN (pc' := 11) X0 hx (hb hby d3_10) rfl rfl ?_
  refine Rt.baload (pc' := 12) X0 hx hZ F_A_a1 (i := 2) (by decide) (by decide) (v := (.int v2)) rfl (hb hby d3_11) rfl ?_
  refine Rt.iconst (pc' := 13) (v := (-1 : Int32)) X0 hx (hb hby d3_12) rfl rfl ?_
  refine Rt.ixor (pc' := 14) (r := (v2 ^^^ (-1 : Int32))) X0 hx (hb hby d3_13) rfl rfl ?_
  refine Rt.i2b (pc' := 15) (r := ((v2 ^^^ (-1 : Int32)).toInt8.toInt32)) X0 hx (hb hby d3_14) rfl rfl ?_
  refine Rt.bastore (pc' := 16) X0 hx hZ F_A_a1 (i := 2) (by decide) (by decide) (Nat.le_of_ble_eq_true rfl) (w := (.int (f3_inv v2))) rfl g_a1 (hb hby d3_15) rfl ?_
  intro T1 h1 X1 W1 F1
  have F1 : IA Z h1 a1 .byte [(.int v0), (.int v1), (.int (f3_inv v2)), (.int v3)] := F1
  have K2 : Keep h0 h1 [a1] := (Keep.refl h0 [a1]).wr W1 (Or.inl (List.mem_of_getElem? (i := 0) rfl))
  have Z3 : n0 ≤ h1.size := Nat.le_trans Z0 (Keep.of_wr W1).1
  refine Rt.iinc (pc' := 19) (r := (3 : Int32)) (l' := #[.val (.ref a1), .val (.int (2 : Int32)), .val (.int (4 : Int32)), .val (.int (3 : Int32))]) X1 hx (hb hby d3_16) rfl (by decide) rfl rfl ?_
  refine Rt.goto (pc' := 2) X1 hx (hb hby d3_19) (by decide) (by decide) ?_
  refine Rt.iloadN (pc' := 3) X1 hx (hb hby d3_2) rfl rfl ?_
  refine Rt.iloadN (pc' := 4) X1 hx (hb hby d3_3) rfl rfl ?_
  refine Rt.icmpN (pc' := 7) X1 hx (hb hby d3_4) (tlt (by decide : (3 : Int32) < (4 : Int32))).2.1 rfl ?_
  refine Rt.aloadN (pc' := 8) X1 hx (hb hby d3_7) rfl rfl rfl ?_
  refine Rt.iloadN (pc' := 9) X1 hx (hb hby d3_8) rfl rfl ?_
  refine Rt.aloadN (pc' := 10) X1 hx (hb hby d3_9) rfl rfl rfl ?_
  refine Rt.iloadN (pc' := 11) X1 hx (hb hby d3_10) rfl rfl ?_
  refine Rt.baload (pc' := 12) X1 hx hZ F1 (i := 3) (by decide) (by decide) (v := (.int v3)) rfl (hb hby d3_11) rfl ?_
  refine Rt.iconst (pc' := 13) (v := (-1 : Int32)) X1 hx (hb hby d3_12) rfl rfl ?_
  refine Rt.ixor (pc' := 14) (r := (v3 ^^^ (-1 : Int32))) X1 hx (hb hby d3_13) rfl rfl ?_
  refine Rt.i2b (pc' := 15) (r := ((v3 ^^^ (-1 : Int32)).toInt8.toInt32)) X1 hx (hb hby d3_14) rfl rfl ?_
  refine Rt.bastore (pc' := 16) X1 hx hZ F1 (i := 3) (by decide) (by decide) (Nat.le_of_ble_eq_true rfl) (w := (.int (f3_inv v3))) rfl g_a1 (hb hby d3_15) rfl ?_
  intro T4 h4 X4 W4 F4
  have F4 : IA Z h4 a1 .byte [(.int v0), (.int v1), (.int (f3_inv v2)), (.int (f3_inv v3))] := F4
  have K5 : Keep h0 h4 [a1] := K2.wr W4 (Or.inl (List.mem_of_getElem? (i := 0) rfl))
  have Z6 : n0 ≤ h4.size := Nat.le_trans Z3 (Keep.of_wr W4).1
  refine Rt.iinc (pc' := 19) (r := (4 : Int32)) (l' := #[.val (.ref a1), .val (.int (2 : Int32)), .val (.int (4 : Int32)), .val (.int (4 : Int32))]) X4 hx (hb hby d3_16) rfl (by decide) rfl rfl ?_
  refine Rt.goto (pc' := 2) X4 hx (hb hby d3_19) (by decide) (by decide) ?_
  refine Rt.iloadN (pc' := 3) X4 hx (hb hby d3_2) rfl rfl ?_
  refine Rt.iloadN (pc' := 4) X4 hx (hb hby d3_3) rfl rfl ?_
  refine Rt.icmpY (pc' := 22) X4 hx (hb hby d3_4) (flt (by decide : ¬ ((4 : Int32) < (4 : Int32)))).2.1 (by decide) (by decide) ?_
  exact Rt.retV X4 hx hlk hret (hb hby d3_22) (by decide) (by decide) (fun L N => ⟨rfl, N, K5, F4⟩)
def Q3_3_3 (Z : State) (a1 : Addr) (v0 : Int32) (v1 : Int32) (v2 : Int32) (v3 : Int32) (h0 : Heap) (n0 : Nat) (v : Option Value) (h : Heap) (L : List Loc) : Prop := v = none ∧ Fr n0 L ∧ Keep h0 h [a1] ∧ IA Z h a1 .byte [(.int v0), (.int v1), (.int v2), (.int v3)]
def rmR3_3_3 : Room := { frames := 0, cells := 0, slots := 0, locals := 0 }
theorem ef_3_3_3 (m : MethodId) (a1 : Addr) : entryFrame m #[(.ref a1), (.int (3 : Int32)), (.int (3 : Int32))] 4 = mkF m 0 #[.val (.ref a1), .val (.int (3 : Int32)), .val (.int (3 : Int32)), .unset] [] := by first | (simp [entryFrame, mkF, argsToLocals, Value.category]; done) | rfl
set_option maxRecDepth 65536 in
set_option maxHeartbeats 40000000 in
theorem rm3_3_3 (l : Launch) (Z : State) (a0 : Array Value) (hw : ∀ d ∈ tables_1, d.before a0 Z = true) (ws : List Jvm.Cond) (a1 : Addr) (v0 : Int32) (v1 : Int32) (v2 : Int32) (v3 : Int32) (h0 : Heap) (n0 : Nat) (Z0 : n0 ≤ h0.size) (F_A_a1 : IA Z h0 a1 .byte [(.int v0), (.int v1), (.int v2), (.int v3)]) (g_a1 : n0 ≤ a1) :
    Mt l Z mt3 (Jvm.Cond.code mt3 prog_18_method_13_code 4 none :: ws) rmR3_3_3 #[(.ref a1), (.int (3 : Int32)), (.int (3 : Int32))] h0 (Q3_3_3 Z a1 v0 v1 v2 v3 h0 n0) := by
  refine Mt.of n0 (plainFor_of_name pn_com_example_bowerbird_bowerbird_keys_KeyType) ?_
  intro p e s m below meth c T0 X0 hx hZ hby hml hown hret hlk hnm hs0
  have hown : s.vm.findClass "com/example/bowerbird/bowerbird/keys/KeyType" = some m.cls := hown
  rw [ef_3_3_3]
  show Rt p e below s rmR3_3_3.cells rmR3_3_3.slots (Q3_3_3 Z a1 v0 v1 v2 v3 h0 n0) (T0.setTop (mkF m 0 #[.val (.ref a1), .val (.int (3 : Int32)), .val (.int (3 : Int32)), .unset] []))
  refine Rt.iloadN (pc' := 1) X0 hx (hb hby d3_0) rfl rfl ?_
  refine Rt.istoreN (pc' := 2) (v := (3 : Int32)) (l' := #[.val (.ref a1), .val (.int (3 : Int32)), .val (.int (3 : Int32)), .val (.int (3 : Int32))]) X0 hx (hb hby d3_1) rfl rfl ?_
  refine Rt.iloadN (pc' := 3) X0 hx (hb hby d3_2) rfl rfl ?_
  refine Rt.iloadN (pc' := 4) X0 hx (hb hby d3_3) rfl rfl ?_
  refine Rt.icmpY (pc' := 22) X0 hx (hb hby d3_4) (flt (by decide : ¬ ((3 : Int32) < (3 : Int32)))).2.1 (by decide) (by decide) ?_
  exact Rt.retV X0 hx hlk hret (hb hby d3_22) (by decide) (by decide) (fun L N => ⟨rfl, N, (Keep.refl h0 [a1]), F_A_a1⟩)
def Q3_3_4 (Z : State) (a1 : Addr) (v0 : Int32) (v1 : Int32) (v2 : Int32) (v3 : Int32) (h0 : Heap) (n0 : Nat) (v : Option Value) (h : Heap) (L : List Loc) : Prop := v = none ∧ Fr n0 L ∧ Keep h0 h [a1] ∧ IA Z h a1 .byte [(.int v0), (.int v1), (.int v2), (.int (f3_inv v3))]
def rmR3_3_4 : Room := { frames := 0, cells := 0, slots := 0, locals := 0 }
theorem ef_3_3_4 (m : MethodId) (a1 : Addr) : entryFrame m #[(.ref a1), (.int (3 : Int32)), (.int (4 : Int32))] 4 = mkF m 0 #[.val (.ref a1), .val (.int (3 : Int32)), .val (.int (4 : Int32)), .unset] [] := by first | (simp [entryFrame, mkF, argsToLocals, Value.category]; done) | rfl
set_option maxRecDepth 65536 in
set_option maxHeartbeats 40000000 in
theorem rm3_3_4 (l : Launch) (Z : State) (a0 : Array Value) (hw : ∀ d ∈ tables_1, d.before a0 Z = true) (ws : List Jvm.Cond) (a1 : Addr) (v0 : Int32) (v1 : Int32) (v2 : Int32) (v3 : Int32) (h0 : Heap) (n0 : Nat) (Z0 : n0 ≤ h0.size) (F_A_a1 : IA Z h0 a1 .byte [(.int v0), (.int v1), (.int v2), (.int v3)]) (g_a1 : n0 ≤ a1) :
    Mt l Z mt3 (Jvm.Cond.code mt3 prog_18_method_13_code 4 none :: ws) rmR3_3_4 #[(.ref a1), (.int (3 : Int32)), (.int (4 : Int32))] h0 (Q3_3_4 Z a1 v0 v1 v2 v3 h0 n0) := by
  refine Mt.of n0 (plainFor_of_name pn_com_example_bowerbird_bowerbird_keys_KeyType) ?_
  intro p e s m below meth c T0 X0 hx hZ hby hml hown hret hlk hnm hs0
  have hown : s.vm.findClass "com/example/bowerbird/bowerbird/keys/KeyType" = some m.cls := hown
  rw [ef_3_3_4]
  show Rt p e below s rmR3_3_4.cells rmR3_3_4.slots (Q3_3_4 Z a1 v0 v1 v2 v3 h0 n0) (T0.setTop (mkF m 0 #[.val (.ref a1), .val (.int (3 : Int32)), .val (.int (4 : Int32)), .unset] []))
  refine Rt.iloadN (pc' := 1) X0 hx (hb hby d3_0) rfl rfl ?_
  refine Rt.istoreN (pc' := 2) (v := (3 : Int32)) (l' := #[.val (.ref a1), .val (.int (3 : Int32)), .val (.int (4 : Int32)), .val (.int (3 : Int32))]) X0 hx (hb hby d3_1) rfl rfl ?_
  refine Rt.iloadN (pc' := 3) X0 hx (hb hby d3_2) rfl rfl ?_
  refine Rt.iloadN (pc' := 4) X0 hx (hb hby d3_3) rfl rfl ?_
  refine Rt.icmpN (pc' := 7) X0 hx (hb hby d3_4) (tlt (by decide : (3 : Int32) < (4 : Int32))).2.1 rfl ?_
  refine Rt.aloadN (pc' := 8) X0 hx (hb hby d3_7) rfl rfl rfl ?_
  refine Rt.iloadN (pc' := 9) X0 hx (hb hby d3_8) rfl rfl ?_
  refine Rt.aloadN (pc' := 10) X0 hx (hb hby d3_9) rfl rfl rfl ?_
  refine Rt.iloadN (pc' := 11) X0 hx (hb hby d3_10) rfl rfl ?_
  refine Rt.baload (pc' := 12) X0 hx hZ F_A_a1 (i := 3) (by decide) (by decide) (v := (.int v3)) rfl (hb hby d3_11) rfl ?_
  refine Rt.iconst (pc' := 13) (v := (-1 : Int32)) X0 hx (hb hby d3_12) rfl rfl ?_
  refine Rt.ixor (pc' := 14) (r := (v3 ^^^ (-1 : Int32))) X0 hx (hb hby d3_13) rfl rfl ?_
  refine Rt.i2b (pc' := 15) (r := ((v3 ^^^ (-1 : Int32)).toInt8.toInt32)) X0 hx (hb hby d3_14) rfl rfl ?_
  refine Rt.bastore (pc' := 16) X0 hx hZ F_A_a1 (i := 3) (by decide) (by decide) (Nat.le_of_ble_eq_true rfl) (w := (.int (f3_inv v3))) rfl g_a1 (hb hby d3_15) rfl ?_
  intro T1 h1 X1 W1 F1
  have F1 : IA Z h1 a1 .byte [(.int v0), (.int v1), (.int v2), (.int (f3_inv v3))] := F1
  have K2 : Keep h0 h1 [a1] := (Keep.refl h0 [a1]).wr W1 (Or.inl (List.mem_of_getElem? (i := 0) rfl))
  have Z3 : n0 ≤ h1.size := Nat.le_trans Z0 (Keep.of_wr W1).1
  refine Rt.iinc (pc' := 19) (r := (4 : Int32)) (l' := #[.val (.ref a1), .val (.int (3 : Int32)), .val (.int (4 : Int32)), .val (.int (4 : Int32))]) X1 hx (hb hby d3_16) rfl (by decide) rfl rfl ?_
  refine Rt.goto (pc' := 2) X1 hx (hb hby d3_19) (by decide) (by decide) ?_
  refine Rt.iloadN (pc' := 3) X1 hx (hb hby d3_2) rfl rfl ?_
  refine Rt.iloadN (pc' := 4) X1 hx (hb hby d3_3) rfl rfl ?_
  refine Rt.icmpY (pc' := 22) X1 hx (hb hby d3_4) (flt (by decide : ¬ ((4 : Int32) < (4 : Int32)))).2.1 (by decide) (by decide) ?_
  exact Rt.retV X1 hx hlk hret (hb hby d3_22) (by decide) (by decide) (fun L N => ⟨rfl, N, K2, F1⟩)
def Q3_4_4 (Z : State) (a1 : Addr) (v0 : Int32) (v1 : Int32) (v2 : Int32) (v3 : Int32) (h0 : Heap) (n0 : Nat) (v : Option Value) (h : Heap) (L : List Loc) : Prop := v = none ∧ Fr n0 L ∧ Keep h0 h [a1] ∧ IA Z h a1 .byte [(.int v0), (.int v1), (.int v2), (.int v3)]
def rmR3_4_4 : Room := { frames := 0, cells := 0, slots := 0, locals := 0 }
theorem ef_3_4_4 (m : MethodId) (a1 : Addr) : entryFrame m #[(.ref a1), (.int (4 : Int32)), (.int (4 : Int32))] 4 = mkF m 0 #[.val (.ref a1), .val (.int (4 : Int32)), .val (.int (4 : Int32)), .unset] [] := by first | (simp [entryFrame, mkF, argsToLocals, Value.category]; done) | rfl
set_option maxRecDepth 65536 in
set_option maxHeartbeats 40000000 in
theorem rm3_4_4 (l : Launch) (Z : State) (a0 : Array Value) (hw : ∀ d ∈ tables_1, d.before a0 Z = true) (ws : List Jvm.Cond) (a1 : Addr) (v0 : Int32) (v1 : Int32) (v2 : Int32) (v3 : Int32) (h0 : Heap) (n0 : Nat) (Z0 : n0 ≤ h0.size) (F_A_a1 : IA Z h0 a1 .byte [(.int v0), (.int v1), (.int v2), (.int v3)]) (g_a1 : n0 ≤ a1) :
    Mt l Z mt3 (Jvm.Cond.code mt3 prog_18_method_13_code 4 none :: ws) rmR3_4_4 #[(.ref a1), (.int (4 : Int32)), (.int (4 : Int32))] h0 (Q3_4_4 Z a1 v0 v1 v2 v3 h0 n0) := by
  refine Mt.of n0 (plainFor_of_name pn_com_example_bowerbird_bowerbird_keys_KeyType) ?_
  intro p e s m below meth c T0 X0 hx hZ hby hml hown hret hlk hnm hs0
  have hown : s.vm.findClass "com/example/bowerbird/bowerbird/keys/KeyType" = some m.cls := hown
  rw [ef_3_4_4]
  show Rt p e below s rmR3_4_4.cells rmR3_4_4.slots (Q3_4_4 Z a1 v0 v1 v2 v3 h0 n0) (T0.setTop (mkF m 0 #[.val (.ref a1), .val (.int (4 : Int32)), .val (.int (4 : Int32)), .unset] []))
  refine Rt.iloadN (pc' := 1) X0 hx (hb hby d3_0) rfl rfl ?_
  refine Rt.istoreN (pc' := 2) (v := (4 : Int32)) (l' := #[.val (.ref a1), .val (.int (4 : Int32)), .val (.int (4 : Int32)), .val (.int (4 : Int32))]) X0 hx (hb hby d3_1) rfl rfl ?_
  refine Rt.iloadN (pc' := 3) X0 hx (hb hby d3_2) rfl rfl ?_
  refine Rt.iloadN (pc' := 4) X0 hx (hb hby d3_3) rfl rfl ?_
  refine Rt.icmpY (pc' := 22) X0 hx (hb hby d3_4) (flt (by decide : ¬ ((4 : Int32) < (4 : Int32)))).2.1 (by decide) (by decide) ?_
  exact Rt.retV X0 hx hlk hret (hb hby d3_22) (by decide) (by decide) (fun L N => ⟨rfl, N, (Keep.refl h0 [a1]), F_A_a1⟩)
def own_rng (lo hi : Int32) : Prop := (lo = 0 ∧ hi = 0) ∨ (lo = 0 ∧ hi = 1) ∨ (lo = 0 ∧ hi = 2) ∨ (lo = 0 ∧ hi = 3) ∨ (lo = 0 ∧ hi = 4) ∨ (lo = 1 ∧ hi = 1) ∨ (lo = 1 ∧ hi = 2) ∨ (lo = 1 ∧ hi = 3) ∨ (lo = 1 ∧ hi = 4) ∨ (lo = 2 ∧ hi = 2) ∨ (lo = 2 ∧ hi = 3) ∨ (lo = 2 ∧ hi = 4) ∨ (lo = 3 ∧ hi = 3) ∨ (lo = 3 ∧ hi = 4) ∨ (lo = 4 ∧ hi = 4)
def Q3 (Z : State) (a1 : Addr) (p2 p3 v0 v1 v2 v3 : Int32) (h0 : Heap) (n0 : Nat) (v : Option Value) (h : Heap) (L : List Loc) : Prop := v = none ∧ Fr n0 L ∧ Keep h0 h [a1] ∧ IA Z h a1 .byte [(.int (f3_g (0 : Int32) p2 p3 v0)), (.int (f3_g (1 : Int32) p2 p3 v1)), (.int (f3_g (2 : Int32) p2 p3 v2)), (.int (f3_g (3 : Int32) p2 p3 v3))]
set_option maxRecDepth 65536 in
set_option maxHeartbeats 40000000 in
theorem rm3 (l : Launch) (Z : State) (a0 : Array Value) (hw : ∀ d ∈ tables_1, d.before a0 Z = true) (ws : List Jvm.Cond) (a1 : Addr) (p2 p3 v0 v1 v2 v3 : Int32) (h0 : Heap) (n0 : Nat) (Z0 : n0 ≤ h0.size) (F : IA Z h0 a1 .byte [(.int v0), (.int v1), (.int v2), (.int v3)]) (g_a1 : n0 ≤ a1) (hr : own_rng p2 p3) :
    Mt l Z mt3 (Jvm.Cond.code mt3 prog_18_method_13_code 4 none :: ws) rmR3_0_0 #[(.ref a1), (.int p2), (.int p3)] h0 (Q3 Z a1 p2 p3 v0 v1 v2 v3 h0 n0) := by
  rcases hr with ⟨rfl, rfl⟩ | ⟨rfl, rfl⟩ | ⟨rfl, rfl⟩ | ⟨rfl, rfl⟩ | ⟨rfl, rfl⟩ | ⟨rfl, rfl⟩ | ⟨rfl, rfl⟩ | ⟨rfl, rfl⟩ | ⟨rfl, rfl⟩ | ⟨rfl, rfl⟩ | ⟨rfl, rfl⟩ | ⟨rfl, rfl⟩ | ⟨rfl, rfl⟩ | ⟨rfl, rfl⟩ | ⟨rfl, rfl⟩
  · exact rm3_0_0 l Z a0 hw ws a1 v0 v1 v2 v3 h0 n0 Z0 F g_a1
  · exact rm3_0_1 l Z a0 hw ws a1 v0 v1 v2 v3 h0 n0 Z0 F g_a1
  · exact rm3_0_2 l Z a0 hw ws a1 v0 v1 v2 v3 h0 n0 Z0 F g_a1
  · exact rm3_0_3 l Z a0 hw ws a1 v0 v1 v2 v3 h0 n0 Z0 F g_a1
  · exact rm3_0_4 l Z a0 hw ws a1 v0 v1 v2 v3 h0 n0 Z0 F g_a1
  · exact rm3_1_1 l Z a0 hw ws a1 v0 v1 v2 v3 h0 n0 Z0 F g_a1
  · exact rm3_1_2 l Z a0 hw ws a1 v0 v1 v2 v3 h0 n0 Z0 F g_a1
  · exact rm3_1_3 l Z a0 hw ws a1 v0 v1 v2 v3 h0 n0 Z0 F g_a1
  · exact rm3_1_4 l Z a0 hw ws a1 v0 v1 v2 v3 h0 n0 Z0 F g_a1
  · exact rm3_2_2 l Z a0 hw ws a1 v0 v1 v2 v3 h0 n0 Z0 F g_a1
  · exact rm3_2_3 l Z a0 hw ws a1 v0 v1 v2 v3 h0 n0 Z0 F g_a1
  · exact rm3_2_4 l Z a0 hw ws a1 v0 v1 v2 v3 h0 n0 Z0 F g_a1
  · exact rm3_3_3 l Z a0 hw ws a1 v0 v1 v2 v3 h0 n0 Z0 F g_a1
  · exact rm3_3_4 l Z a0 hw ws a1 v0 v1 v2 v3 h0 n0 Z0 F g_a1
  · exact rm3_4_4 l Z a0 hw ws a1 v0 v1 v2 v3 h0 n0 Z0 F g_a1
theorem d4_0 : decode method_3_code 0 = .ok (.iload_n 1, 1) := by decide +kernel
theorem d4_1 : decode method_3_code 1 = .ok (.bipush 8, 2) := by decide +kernel
theorem d4_3 : decode method_3_code 3 = .ok (.iload_n 2, 1) := by decide +kernel
theorem d4_4 : decode method_3_code 4 = .ok (.imul, 1) := by decide +kernel
theorem d4_5 : decode method_3_code 5 = .ok (.iushr, 1) := by decide +kernel
theorem d4_6 : decode method_3_code 6 = .ok (.sipush 255, 3) := by decide +kernel
theorem d4_9 : decode method_3_code 9 = .ok (.iand, 1) := by decide +kernel
theorem d4_10 : decode method_3_code 10 = .ok (.istore 5, 2) := by decide +kernel
theorem d4_12 : decode method_3_code 12 = .ok (.iload_n 2, 1) := by decide +kernel
theorem d4_13 : decode method_3_code 13 = .ok (.iload_n 3, 1) := by decide +kernel
theorem d4_38 : decode method_3_code 38 = .ok (.aload_n 0, 1) := by decide +kernel
theorem d4_39 : decode method_3_code 39 = .ok (.iload_n 2, 1) := by decide +kernel
theorem d4_40 : decode method_3_code 40 = .ok (.baload, 1) := by decide +kernel
theorem d4_41 : decode method_3_code 41 = .ok (.sipush 255, 3) := by decide +kernel
theorem d4_44 : decode method_3_code 44 = .ok (.iand, 1) := by decide +kernel
theorem d4_45 : decode method_3_code 45 = .ok (.iload 6, 2) := by decide +kernel
theorem d4_47 : decode method_3_code 47 = .ok (.if_icmp .ne 7, 3) := by decide +kernel
theorem d4_50 : decode method_3_code 50 = .ok (.iconst 1, 1) := by decide +kernel
theorem d4_51 : decode method_3_code 51 = .ok (.goto 4, 3) := by decide +kernel
theorem d4_55 : decode method_3_code 55 = .ok (.ireturn, 1) := by decide +kernel
theorem d4_54 : decode method_3_code 54 = .ok (.iconst 0, 1) := by decide +kernel
theorem d4_14 : decode method_3_code 14 = .ok (.if_icmp .lt 20, 3) := by decide +kernel
theorem d4_34 : decode method_3_code 34 = .ok (.iload 5, 2) := by decide +kernel
theorem d4_36 : decode method_3_code 36 = .ok (.istore 6, 2) := by decide +kernel
theorem d4_17 : decode method_3_code 17 = .ok (.iload_n 2, 1) := by decide +kernel
theorem d4_18 : decode method_3_code 18 = .ok (.iload 4, 2) := by decide +kernel
theorem d4_20 : decode method_3_code 20 = .ok (.if_icmp .ge 14, 3) := by decide +kernel
theorem d4_23 : decode method_3_code 23 = .ok (.sipush 255, 3) := by decide +kernel
theorem d4_26 : decode method_3_code 26 = .ok (.iload 5, 2) := by decide +kernel
theorem d4_28 : decode method_3_code 28 = .ok (.isub, 1) := by decide +kernel
theorem d4_29 : decode method_3_code 29 = .ok (.istore 6, 2) := by decide +kernel
theorem d4_31 : decode method_3_code 31 = .ok (.goto 7, 3) := by decide +kernel
def f4_0_v10 (p2 : Int32) : Int32 := (((p2.toUInt32 >>> ((0 : Int32) &&& 31).toUInt32).toInt32) &&& (255 : Int32))
def f4_0_v29 (p2 : Int32) : Int32 := ((255 : Int32) - (f4_0_v10 p2))
def f4_0_j38_l6 (p2 : Int32) (p4 : Int32) (p5 : Int32) : Int32 := (if (0 : Int32) < p4 then (f4_0_v10 p2) else (if (0 : Int32) < p5 then (f4_0_v29 p2) else (f4_0_v10 p2)))
def f4_0 (p2 : Int32) (p4 : Int32) (p5 : Int32) (v0 : Int32) : Int32 := (if (v0 &&& (255 : Int32)) = (f4_0_j38_l6 p2 p4 p5) then (1 : Int32) else (0 : Int32))
def Q4_0 (a1 : Addr) (p2 : Int32) (p4 : Int32) (p5 : Int32) (v0 : Int32) (v1 : Int32) (v2 : Int32) (v3 : Int32) (h0 : Heap) (n0 : Nat) (v : Option Value) (h : Heap) (L : List Loc) : Prop := v = some (.int (f4_0 p2 p4 p5 v0)) ∧ Fr n0 L ∧ h = h0
def rmR4_0 : Room := { frames := 0, cells := 0, slots := 0, locals := 0 }
theorem ef_4_0 (m : MethodId) (a1 : Addr) (p2 : Int32) (p4 : Int32) (p5 : Int32) : entryFrame m #[(.ref a1), (.int p2), (.int (0 : Int32)), (.int p4), (.int p5)] 7 = mkF m 0 #[.val (.ref a1), .val (.int p2), .val (.int (0 : Int32)), .val (.int p4), .val (.int p5), .unset, .unset] [] := by first | (simp [entryFrame, mkF, argsToLocals, Value.category]; done) | rfl
theorem pn_com_example_bowerbird_bowerbird_keys_KeyTypeInvertPinLaw : plainName "com/example/bowerbird/bowerbird/keys/KeyTypeInvertPinLaw" = true := by first | (simp [plainName, overriddenIn]; done) | decide +kernel
set_option maxRecDepth 65536 in
set_option maxHeartbeats 40000000 in
theorem rm4_0 (l : Launch) (Z : State) (a0 : Array Value) (hw : ∀ d ∈ tables_1, d.before a0 Z = true) (ws : List Jvm.Cond) (a1 : Addr) (p2 : Int32) (p4 : Int32) (p5 : Int32) (v0 : Int32) (v1 : Int32) (v2 : Int32) (v3 : Int32) (h0 : Heap) (n0 : Nat) (F_A_a1 : IA Z h0 a1 .byte [(.int v0), (.int v1), (.int v2), (.int v3)]) :
    Mt l Z mt4 (Jvm.Cond.code mt4 method_3_code 7 (some .boolean) :: ws) rmR4_0 #[(.ref a1), (.int p2), (.int (0 : Int32)), (.int p4), (.int p5)] h0 (Q4_0 a1 p2 p4 p5 v0 v1 v2 v3 h0 n0) := by
  refine Mt.of n0 (plainFor_of_name pn_com_example_bowerbird_bowerbird_keys_KeyTypeInvertPinLaw) ?_
  intro p e s m below meth c T0 X0 hx hZ hby hml hown hret hlk hnm hs0
  have hown : s.vm.findClass "com/example/bowerbird/bowerbird/keys/KeyTypeInvertPinLaw" = some m.cls := hown
  rw [ef_4_0]
  show Rt p e below s rmR4_0.cells rmR4_0.slots (Q4_0 a1 p2 p4 p5 v0 v1 v2 v3 h0 n0) (T0.setTop (mkF m 0 #[.val (.ref a1), .val (.int p2), .val (.int (0 : Int32)), .val (.int p4), .val (.int p5), .unset, .unset] []))
  refine Rt.iloadN (pc' := 1) X0 hx (hb hby d4_0) rfl rfl ?_
  refine Rt.bipush (pc' := 3) (v := (8 : Int32)) X0 hx (hb hby d4_1) rfl rfl ?_
  refine Rt.iloadN (pc' := 4) X0 hx (hb hby d4_3) rfl rfl ?_
  refine Rt.imul (pc' := 5) (r := (0 : Int32)) X0 hx (hb hby d4_4) (by decide) rfl ?_
  refine Rt.iushr (pc' := 6) (r := ((p2.toUInt32 >>> ((0 : Int32) &&& 31).toUInt32).toInt32)) X0 hx (hb hby d4_5) rfl rfl ?_
  refine Rt.sipush (pc' := 9) (v := (255 : Int32)) X0 hx (hb hby d4_6) rfl rfl ?_
  refine Rt.iand (pc' := 10) (r := (((p2.toUInt32 >>> ((0 : Int32) &&& 31).toUInt32).toInt32) &&& (255 : Int32))) X0 hx (hb hby d4_9) rfl rfl ?_
  refine Rt.istore (pc' := 12) (v := (f4_0_v10 p2)) (l' := #[.val (.ref a1), .val (.int p2), .val (.int (0 : Int32)), .val (.int p4), .val (.int p5), .val (.int (f4_0_v10 p2)), .unset]) X0 hx (hb hby d4_10) rfl rfl ?_
  refine Rt.iloadN (pc' := 13) X0 hx (hb hby d4_12) rfl rfl ?_
  refine Rt.iloadN (pc' := 14) X0 hx (hb hby d4_13) rfl rfl ?_
  have J14_1 : ∀ T1  , Sd p l e rmR4_0 s m #[(.ref a1), (.int p2), (.int (0 : Int32)), (.int p4), (.int p5)] below meth c T1 n0 0 0 h0 → Rt p e below s rmR4_0.cells rmR4_0.slots (Q4_0 a1 p2 p4 p5 v0 v1 v2 v3 h0 n0) (T1.setTop (mkF m 38 #[.val (.ref a1), .val (.int p2), .val (.int (0 : Int32)), .val (.int p4), .val (.int p5), .val (.int (f4_0_v10 p2)), .val (.int (f4_0_j38_l6 p2 p4 p5))] [])) := by
    intro T1   X1 
    refine Rt.aloadN (pc' := 39) X1 hx (hb hby d4_38) rfl rfl rfl ?_
    refine Rt.iloadN (pc' := 40) X1 hx (hb hby d4_39) rfl rfl ?_
    refine Rt.baload (pc' := 41) X1 hx hZ F_A_a1 (i := 0) (by decide) (by decide) (v := (.int v0)) rfl (hb hby d4_40) rfl ?_
    refine Rt.sipush (pc' := 44) (v := (255 : Int32)) X1 hx (hb hby d4_41) rfl rfl ?_
    refine Rt.iand (pc' := 45) (r := (v0 &&& (255 : Int32))) X1 hx (hb hby d4_44) rfl rfl ?_
    refine Rt.iload (pc' := 47) X1 hx (hb hby d4_45) rfl rfl ?_
    by_cases hc47_2 : (v0 &&& (255 : Int32)) = (f4_0_j38_l6 p2 p4 p5)
    · refine Rt.icmpN (pc' := 50) X1 hx (hb hby d4_47) (teq hc47_2).2 rfl ?_
      refine Rt.iconst (pc' := 51) (v := (1 : Int32)) X1 hx (hb hby d4_50) rfl rfl ?_
      refine Rt.goto (pc' := 55) X1 hx (hb hby d4_51) (by decide) (by decide) ?_
      exact Rt.retZ (w := (1 : Int32)) X1 hx hlk hret (by simp) (hb hby d4_55) (by decide) (by decide) (by decide) (fun L N => ⟨congrArg some (congrArg Value.int (by rw [f4_0, if_pos hc47_2])), N, rfl⟩)
    · refine Rt.icmpY (pc' := 54) X1 hx (hb hby d4_47) (feq hc47_2).2 (by decide) (by decide) ?_
      refine Rt.iconst (pc' := 55) (v := (0 : Int32)) X1 hx (hb hby d4_54) rfl rfl ?_
      exact Rt.retZ (w := (0 : Int32)) X1 hx hlk hret (by simp) (hb hby d4_55) (by decide) (by decide) (by decide) (fun L N => ⟨congrArg some (congrArg Value.int (by rw [f4_0, if_neg hc47_2])), N, rfl⟩)
  by_cases hc14_3 : (0 : Int32) < p4
  · refine Rt.icmpY (pc' := 34) X0 hx (hb hby d4_14) (tlt hc14_3).1 (by decide) (by decide) ?_
    refine Rt.iload (pc' := 36) X0 hx (hb hby d4_34) rfl rfl ?_
    refine Rt.istore (pc' := 38) (v := (f4_0_v10 p2)) (l' := #[.val (.ref a1), .val (.int p2), .val (.int (0 : Int32)), .val (.int p4), .val (.int p5), .val (.int (f4_0_v10 p2)), .val (.int (f4_0_v10 p2))]) X0 hx (hb hby d4_36) rfl rfl ?_
    have q := J14_1 T0   X0
    rw [show (f4_0_j38_l6 p2 p4 p5) = (f4_0_v10 p2) from by rw [f4_0_j38_l6, if_pos hc14_3]] at q
    exact q
  · refine Rt.icmpN (pc' := 17) X0 hx (hb hby d4_14) (flt hc14_3).1 rfl ?_
    refine Rt.iloadN (pc' := 18) X0 hx (hb hby d4_17) rfl rfl ?_
    refine Rt.iload (pc' := 20) X0 hx (hb hby d4_18) rfl rfl ?_
    by_cases hc20_4 : (0 : Int32) < p5
    · refine Rt.icmpN (pc' := 23) X0 hx (hb hby d4_20) (tlt hc20_4).2.1 rfl ?_
      refine Rt.sipush (pc' := 26) (v := (255 : Int32)) X0 hx (hb hby d4_23) rfl rfl ?_
      refine Rt.iload (pc' := 28) X0 hx (hb hby d4_26) rfl rfl ?_
      refine Rt.isub (pc' := 29) (r := ((255 : Int32) - (f4_0_v10 p2))) X0 hx (hb hby d4_28) rfl rfl ?_
      refine Rt.istore (pc' := 31) (v := (f4_0_v29 p2)) (l' := #[.val (.ref a1), .val (.int p2), .val (.int (0 : Int32)), .val (.int p4), .val (.int p5), .val (.int (f4_0_v10 p2)), .val (.int (f4_0_v29 p2))]) X0 hx (hb hby d4_29) rfl rfl ?_
      refine Rt.goto (pc' := 38) X0 hx (hb hby d4_31) (by decide) (by decide) ?_
      have q := J14_1 T0   X0
      rw [show (f4_0_j38_l6 p2 p4 p5) = (f4_0_v29 p2) from by rw [f4_0_j38_l6, if_neg hc14_3, if_pos hc20_4]] at q
      exact q
    · refine Rt.icmpY (pc' := 34) X0 hx (hb hby d4_20) (flt hc20_4).2.1 (by decide) (by decide) ?_
      refine Rt.iload (pc' := 36) X0 hx (hb hby d4_34) rfl rfl ?_
      refine Rt.istore (pc' := 38) (v := (f4_0_v10 p2)) (l' := #[.val (.ref a1), .val (.int p2), .val (.int (0 : Int32)), .val (.int p4), .val (.int p5), .val (.int (f4_0_v10 p2)), .val (.int (f4_0_v10 p2))]) X0 hx (hb hby d4_36) rfl rfl ?_
      have q := J14_1 T0   X0
      rw [show (f4_0_j38_l6 p2 p4 p5) = (f4_0_v10 p2) from by rw [f4_0_j38_l6, if_neg hc14_3, if_neg hc20_4]] at q
      exact q
def f4_1_v10 (p2 : Int32) : Int32 := (((p2.toUInt32 >>> ((8 : Int32) &&& 31).toUInt32).toInt32) &&& (255 : Int32))
def f4_1_v29 (p2 : Int32) : Int32 := ((255 : Int32) - (f4_1_v10 p2))
def f4_1_j38_l6 (p2 : Int32) (p4 : Int32) (p5 : Int32) : Int32 := (if (1 : Int32) < p4 then (f4_1_v10 p2) else (if (1 : Int32) < p5 then (f4_1_v29 p2) else (f4_1_v10 p2)))
def f4_1 (p2 : Int32) (p4 : Int32) (p5 : Int32) (v1 : Int32) : Int32 := (if (v1 &&& (255 : Int32)) = (f4_1_j38_l6 p2 p4 p5) then (1 : Int32) else (0 : Int32))
def Q4_1 (a1 : Addr) (p2 : Int32) (p4 : Int32) (p5 : Int32) (v0 : Int32) (v1 : Int32) (v2 : Int32) (v3 : Int32) (h0 : Heap) (n0 : Nat) (v : Option Value) (h : Heap) (L : List Loc) : Prop := v = some (.int (f4_1 p2 p4 p5 v1)) ∧ Fr n0 L ∧ h = h0
def rmR4_1 : Room := { frames := 0, cells := 0, slots := 0, locals := 0 }
theorem ef_4_1 (m : MethodId) (a1 : Addr) (p2 : Int32) (p4 : Int32) (p5 : Int32) : entryFrame m #[(.ref a1), (.int p2), (.int (1 : Int32)), (.int p4), (.int p5)] 7 = mkF m 0 #[.val (.ref a1), .val (.int p2), .val (.int (1 : Int32)), .val (.int p4), .val (.int p5), .unset, .unset] [] := by first | (simp [entryFrame, mkF, argsToLocals, Value.category]; done) | rfl
set_option maxRecDepth 65536 in
set_option maxHeartbeats 40000000 in
theorem rm4_1 (l : Launch) (Z : State) (a0 : Array Value) (hw : ∀ d ∈ tables_1, d.before a0 Z = true) (ws : List Jvm.Cond) (a1 : Addr) (p2 : Int32) (p4 : Int32) (p5 : Int32) (v0 : Int32) (v1 : Int32) (v2 : Int32) (v3 : Int32) (h0 : Heap) (n0 : Nat) (F_A_a1 : IA Z h0 a1 .byte [(.int v0), (.int v1), (.int v2), (.int v3)]) :
    Mt l Z mt4 (Jvm.Cond.code mt4 method_3_code 7 (some .boolean) :: ws) rmR4_1 #[(.ref a1), (.int p2), (.int (1 : Int32)), (.int p4), (.int p5)] h0 (Q4_1 a1 p2 p4 p5 v0 v1 v2 v3 h0 n0) := by
  refine Mt.of n0 (plainFor_of_name pn_com_example_bowerbird_bowerbird_keys_KeyTypeInvertPinLaw) ?_
  intro p e s m below meth c T0 X0 hx hZ hby hml hown hret hlk hnm hs0
  have hown : s.vm.findClass "com/example/bowerbird/bowerbird/keys/KeyTypeInvertPinLaw" = some m.cls := hown
  rw [ef_4_1]
  show Rt p e below s rmR4_1.cells rmR4_1.slots (Q4_1 a1 p2 p4 p5 v0 v1 v2 v3 h0 n0) (T0.setTop (mkF m 0 #[.val (.ref a1), .val (.int p2), .val (.int (1 : Int32)), .val (.int p4), .val (.int p5), .unset, .unset] []))
  refine Rt.iloadN (pc' := 1) X0 hx (hb hby d4_0) rfl rfl ?_
  refine Rt.bipush (pc' := 3) (v := (8 : Int32)) X0 hx (hb hby d4_1) rfl rfl ?_
  refine Rt.iloadN (pc' := 4) X0 hx (hb hby d4_3) rfl rfl ?_
  refine Rt.imul (pc' := 5) (r := (8 : Int32)) X0 hx (hb hby d4_4) (by decide) rfl ?_
  refine Rt.iushr (pc' := 6) (r := ((p2.toUInt32 >>> ((8 : Int32) &&& 31).toUInt32).toInt32)) X0 hx (hb hby d4_5) rfl rfl ?_
  refine Rt.sipush (pc' := 9) (v := (255 : Int32)) X0 hx (hb hby d4_6) rfl rfl ?_
  refine Rt.iand (pc' := 10) (r := (((p2.toUInt32 >>> ((8 : Int32) &&& 31).toUInt32).toInt32) &&& (255 : Int32))) X0 hx (hb hby d4_9) rfl rfl ?_
  refine Rt.istore (pc' := 12) (v := (f4_1_v10 p2)) (l' := #[.val (.ref a1), .val (.int p2), .val (.int (1 : Int32)), .val (.int p4), .val (.int p5), .val (.int (f4_1_v10 p2)), .unset]) X0 hx (hb hby d4_10) rfl rfl ?_
  refine Rt.iloadN (pc' := 13) X0 hx (hb hby d4_12) rfl rfl ?_
  refine Rt.iloadN (pc' := 14) X0 hx (hb hby d4_13) rfl rfl ?_
  have J14_1 : ∀ T1  , Sd p l e rmR4_1 s m #[(.ref a1), (.int p2), (.int (1 : Int32)), (.int p4), (.int p5)] below meth c T1 n0 0 0 h0 → Rt p e below s rmR4_1.cells rmR4_1.slots (Q4_1 a1 p2 p4 p5 v0 v1 v2 v3 h0 n0) (T1.setTop (mkF m 38 #[.val (.ref a1), .val (.int p2), .val (.int (1 : Int32)), .val (.int p4), .val (.int p5), .val (.int (f4_1_v10 p2)), .val (.int (f4_1_j38_l6 p2 p4 p5))] [])) := by
    intro T1   X1 
    refine Rt.aloadN (pc' := 39) X1 hx (hb hby d4_38) rfl rfl rfl ?_
    refine Rt.iloadN (pc' := 40) X1 hx (hb hby d4_39) rfl rfl ?_
    refine Rt.baload (pc' := 41) X1 hx hZ F_A_a1 (i := 1) (by decide) (by decide) (v := (.int v1)) rfl (hb hby d4_40) rfl ?_
    refine Rt.sipush (pc' := 44) (v := (255 : Int32)) X1 hx (hb hby d4_41) rfl rfl ?_
    refine Rt.iand (pc' := 45) (r := (v1 &&& (255 : Int32))) X1 hx (hb hby d4_44) rfl rfl ?_
    refine Rt.iload (pc' := 47) X1 hx (hb hby d4_45) rfl rfl ?_
    by_cases hc47_2 : (v1 &&& (255 : Int32)) = (f4_1_j38_l6 p2 p4 p5)
    · refine Rt.icmpN (pc' := 50) X1 hx (hb hby d4_47) (teq hc47_2).2 rfl ?_
      refine Rt.iconst (pc' := 51) (v := (1 : Int32)) X1 hx (hb hby d4_50) rfl rfl ?_
      refine Rt.goto (pc' := 55) X1 hx (hb hby d4_51) (by decide) (by decide) ?_
      exact Rt.retZ (w := (1 : Int32)) X1 hx hlk hret (by simp) (hb hby d4_55) (by decide) (by decide) (by decide) (fun L N => ⟨congrArg some (congrArg Value.int (by rw [f4_1, if_pos hc47_2])), N, rfl⟩)
    · refine Rt.icmpY (pc' := 54) X1 hx (hb hby d4_47) (feq hc47_2).2 (by decide) (by decide) ?_
      refine Rt.iconst (pc' := 55) (v := (0 : Int32)) X1 hx (hb hby d4_54) rfl rfl ?_
      exact Rt.retZ (w := (0 : Int32)) X1 hx hlk hret (by simp) (hb hby d4_55) (by decide) (by decide) (by decide) (fun L N => ⟨congrArg some (congrArg Value.int (by rw [f4_1, if_neg hc47_2])), N, rfl⟩)
  by_cases hc14_3 : (1 : Int32) < p4
  · refine Rt.icmpY (pc' := 34) X0 hx (hb hby d4_14) (tlt hc14_3).1 (by decide) (by decide) ?_
    refine Rt.iload (pc' := 36) X0 hx (hb hby d4_34) rfl rfl ?_
    refine Rt.istore (pc' := 38) (v := (f4_1_v10 p2)) (l' := #[.val (.ref a1), .val (.int p2), .val (.int (1 : Int32)), .val (.int p4), .val (.int p5), .val (.int (f4_1_v10 p2)), .val (.int (f4_1_v10 p2))]) X0 hx (hb hby d4_36) rfl rfl ?_
    have q := J14_1 T0   X0
    rw [show (f4_1_j38_l6 p2 p4 p5) = (f4_1_v10 p2) from by rw [f4_1_j38_l6, if_pos hc14_3]] at q
    exact q
  · refine Rt.icmpN (pc' := 17) X0 hx (hb hby d4_14) (flt hc14_3).1 rfl ?_
    refine Rt.iloadN (pc' := 18) X0 hx (hb hby d4_17) rfl rfl ?_
    refine Rt.iload (pc' := 20) X0 hx (hb hby d4_18) rfl rfl ?_
    by_cases hc20_4 : (1 : Int32) < p5
    · refine Rt.icmpN (pc' := 23) X0 hx (hb hby d4_20) (tlt hc20_4).2.1 rfl ?_
      refine Rt.sipush (pc' := 26) (v := (255 : Int32)) X0 hx (hb hby d4_23) rfl rfl ?_
      refine Rt.iload (pc' := 28) X0 hx (hb hby d4_26) rfl rfl ?_
      refine Rt.isub (pc' := 29) (r := ((255 : Int32) - (f4_1_v10 p2))) X0 hx (hb hby d4_28) rfl rfl ?_
      refine Rt.istore (pc' := 31) (v := (f4_1_v29 p2)) (l' := #[.val (.ref a1), .val (.int p2), .val (.int (1 : Int32)), .val (.int p4), .val (.int p5), .val (.int (f4_1_v10 p2)), .val (.int (f4_1_v29 p2))]) X0 hx (hb hby d4_29) rfl rfl ?_
      refine Rt.goto (pc' := 38) X0 hx (hb hby d4_31) (by decide) (by decide) ?_
      have q := J14_1 T0   X0
      rw [show (f4_1_j38_l6 p2 p4 p5) = (f4_1_v29 p2) from by rw [f4_1_j38_l6, if_neg hc14_3, if_pos hc20_4]] at q
      exact q
    · refine Rt.icmpY (pc' := 34) X0 hx (hb hby d4_20) (flt hc20_4).2.1 (by decide) (by decide) ?_
      refine Rt.iload (pc' := 36) X0 hx (hb hby d4_34) rfl rfl ?_
      refine Rt.istore (pc' := 38) (v := (f4_1_v10 p2)) (l' := #[.val (.ref a1), .val (.int p2), .val (.int (1 : Int32)), .val (.int p4), .val (.int p5), .val (.int (f4_1_v10 p2)), .val (.int (f4_1_v10 p2))]) X0 hx (hb hby d4_36) rfl rfl ?_
      have q := J14_1 T0   X0
      rw [show (f4_1_j38_l6 p2 p4 p5) = (f4_1_v10 p2) from by rw [f4_1_j38_l6, if_neg hc14_3, if_neg hc20_4]] at q
      exact q
def f4_2_v10 (p2 : Int32) : Int32 := (((p2.toUInt32 >>> ((16 : Int32) &&& 31).toUInt32).toInt32) &&& (255 : Int32))
def f4_2_v29 (p2 : Int32) : Int32 := ((255 : Int32) - (f4_2_v10 p2))
def f4_2_j38_l6 (p2 : Int32) (p4 : Int32) (p5 : Int32) : Int32 := (if (2 : Int32) < p4 then (f4_2_v10 p2) else (if (2 : Int32) < p5 then (f4_2_v29 p2) else (f4_2_v10 p2)))
def f4_2 (p2 : Int32) (p4 : Int32) (p5 : Int32) (v2 : Int32) : Int32 := (if (v2 &&& (255 : Int32)) = (f4_2_j38_l6 p2 p4 p5) then (1 : Int32) else (0 : Int32))
def Q4_2 (a1 : Addr) (p2 : Int32) (p4 : Int32) (p5 : Int32) (v0 : Int32) (v1 : Int32) (v2 : Int32) (v3 : Int32) (h0 : Heap) (n0 : Nat) (v : Option Value) (h : Heap) (L : List Loc) : Prop := v = some (.int (f4_2 p2 p4 p5 v2)) ∧ Fr n0 L ∧ h = h0
def rmR4_2 : Room := { frames := 0, cells := 0, slots := 0, locals := 0 }
theorem ef_4_2 (m : MethodId) (a1 : Addr) (p2 : Int32) (p4 : Int32) (p5 : Int32) : entryFrame m #[(.ref a1), (.int p2), (.int (2 : Int32)), (.int p4), (.int p5)] 7 = mkF m 0 #[.val (.ref a1), .val (.int p2), .val (.int (2 : Int32)), .val (.int p4), .val (.int p5), .unset, .unset] [] := by first | (simp [entryFrame, mkF, argsToLocals, Value.category]; done) | rfl
set_option maxRecDepth 65536 in
set_option maxHeartbeats 40000000 in
theorem rm4_2 (l : Launch) (Z : State) (a0 : Array Value) (hw : ∀ d ∈ tables_1, d.before a0 Z = true) (ws : List Jvm.Cond) (a1 : Addr) (p2 : Int32) (p4 : Int32) (p5 : Int32) (v0 : Int32) (v1 : Int32) (v2 : Int32) (v3 : Int32) (h0 : Heap) (n0 : Nat) (F_A_a1 : IA Z h0 a1 .byte [(.int v0), (.int v1), (.int v2), (.int v3)]) :
    Mt l Z mt4 (Jvm.Cond.code mt4 method_3_code 7 (some .boolean) :: ws) rmR4_2 #[(.ref a1), (.int p2), (.int (2 : Int32)), (.int p4), (.int p5)] h0 (Q4_2 a1 p2 p4 p5 v0 v1 v2 v3 h0 n0) := by
  refine Mt.of n0 (plainFor_of_name pn_com_example_bowerbird_bowerbird_keys_KeyTypeInvertPinLaw) ?_
  intro p e s m below meth c T0 X0 hx hZ hby hml hown hret hlk hnm hs0
  have hown : s.vm.findClass "com/example/bowerbird/bowerbird/keys/KeyTypeInvertPinLaw" = some m.cls := hown
  rw [ef_4_2]
  show Rt p e below s rmR4_2.cells rmR4_2.slots (Q4_2 a1 p2 p4 p5 v0 v1 v2 v3 h0 n0) (T0.setTop (mkF m 0 #[.val (.ref a1), .val (.int p2), .val (.int (2 : Int32)), .val (.int p4), .val (.int p5), .unset, .unset] []))
  refine Rt.iloadN (pc' := 1) X0 hx (hb hby d4_0) rfl rfl ?_
  refine Rt.bipush (pc' := 3) (v := (8 : Int32)) X0 hx (hb hby d4_1) rfl rfl ?_
  refine Rt.iloadN (pc' := 4) X0 hx (hb hby d4_3) rfl rfl ?_
  refine Rt.imul (pc' := 5) (r := (16 : Int32)) X0 hx (hb hby d4_4) (by decide) rfl ?_
  refine Rt.iushr (pc' := 6) (r := ((p2.toUInt32 >>> ((16 : Int32) &&& 31).toUInt32).toInt32)) X0 hx (hb hby d4_5) rfl rfl ?_
  refine Rt.sipush (pc' := 9) (v := (255 : Int32)) X0 hx (hb hby d4_6) rfl rfl ?_
  refine Rt.iand (pc' := 10) (r := (((p2.toUInt32 >>> ((16 : Int32) &&& 31).toUInt32).toInt32) &&& (255 : Int32))) X0 hx (hb hby d4_9) rfl rfl ?_
  refine Rt.istore (pc' := 12) (v := (f4_2_v10 p2)) (l' := #[.val (.ref a1), .val (.int p2), .val (.int (2 : Int32)), .val (.int p4), .val (.int p5), .val (.int (f4_2_v10 p2)), .unset]) X0 hx (hb hby d4_10) rfl rfl ?_
  refine Rt.iloadN (pc' := 13) X0 hx (hb hby d4_12) rfl rfl ?_
  refine Rt.iloadN (pc' := 14) X0 hx (hb hby d4_13) rfl rfl ?_
  have J14_1 : ∀ T1  , Sd p l e rmR4_2 s m #[(.ref a1), (.int p2), (.int (2 : Int32)), (.int p4), (.int p5)] below meth c T1 n0 0 0 h0 → Rt p e below s rmR4_2.cells rmR4_2.slots (Q4_2 a1 p2 p4 p5 v0 v1 v2 v3 h0 n0) (T1.setTop (mkF m 38 #[.val (.ref a1), .val (.int p2), .val (.int (2 : Int32)), .val (.int p4), .val (.int p5), .val (.int (f4_2_v10 p2)), .val (.int (f4_2_j38_l6 p2 p4 p5))] [])) := by
    intro T1   X1 
    refine Rt.aloadN (pc' := 39) X1 hx (hb hby d4_38) rfl rfl rfl ?_
    refine Rt.iloadN (pc' := 40) X1 hx (hb hby d4_39) rfl rfl ?_
    refine Rt.baload (pc' := 41) X1 hx hZ F_A_a1 (i := 2) (by decide) (by decide) (v := (.int v2)) rfl (hb hby d4_40) rfl ?_
    refine Rt.sipush (pc' := 44) (v := (255 : Int32)) X1 hx (hb hby d4_41) rfl rfl ?_
    refine Rt.iand (pc' := 45) (r := (v2 &&& (255 : Int32))) X1 hx (hb hby d4_44) rfl rfl ?_
    refine Rt.iload (pc' := 47) X1 hx (hb hby d4_45) rfl rfl ?_
    by_cases hc47_2 : (v2 &&& (255 : Int32)) = (f4_2_j38_l6 p2 p4 p5)
    · refine Rt.icmpN (pc' := 50) X1 hx (hb hby d4_47) (teq hc47_2).2 rfl ?_
      refine Rt.iconst (pc' := 51) (v := (1 : Int32)) X1 hx (hb hby d4_50) rfl rfl ?_
      refine Rt.goto (pc' := 55) X1 hx (hb hby d4_51) (by decide) (by decide) ?_
      exact Rt.retZ (w := (1 : Int32)) X1 hx hlk hret (by simp) (hb hby d4_55) (by decide) (by decide) (by decide) (fun L N => ⟨congrArg some (congrArg Value.int (by rw [f4_2, if_pos hc47_2])), N, rfl⟩)
    · refine Rt.icmpY (pc' := 54) X1 hx (hb hby d4_47) (feq hc47_2).2 (by decide) (by decide) ?_
      refine Rt.iconst (pc' := 55) (v := (0 : Int32)) X1 hx (hb hby d4_54) rfl rfl ?_
      exact Rt.retZ (w := (0 : Int32)) X1 hx hlk hret (by simp) (hb hby d4_55) (by decide) (by decide) (by decide) (fun L N => ⟨congrArg some (congrArg Value.int (by rw [f4_2, if_neg hc47_2])), N, rfl⟩)
  by_cases hc14_3 : (2 : Int32) < p4
  · refine Rt.icmpY (pc' := 34) X0 hx (hb hby d4_14) (tlt hc14_3).1 (by decide) (by decide) ?_
    refine Rt.iload (pc' := 36) X0 hx (hb hby d4_34) rfl rfl ?_
    refine Rt.istore (pc' := 38) (v := (f4_2_v10 p2)) (l' := #[.val (.ref a1), .val (.int p2), .val (.int (2 : Int32)), .val (.int p4), .val (.int p5), .val (.int (f4_2_v10 p2)), .val (.int (f4_2_v10 p2))]) X0 hx (hb hby d4_36) rfl rfl ?_
    have q := J14_1 T0   X0
    rw [show (f4_2_j38_l6 p2 p4 p5) = (f4_2_v10 p2) from by rw [f4_2_j38_l6, if_pos hc14_3]] at q
    exact q
  · refine Rt.icmpN (pc' := 17) X0 hx (hb hby d4_14) (flt hc14_3).1 rfl ?_
    refine Rt.iloadN (pc' := 18) X0 hx (hb hby d4_17) rfl rfl ?_
    refine Rt.iload (pc' := 20) X0 hx (hb hby d4_18) rfl rfl ?_
    by_cases hc20_4 : (2 : Int32) < p5
    · refine Rt.icmpN (pc' := 23) X0 hx (hb hby d4_20) (tlt hc20_4).2.1 rfl ?_
      refine Rt.sipush (pc' := 26) (v := (255 : Int32)) X0 hx (hb hby d4_23) rfl rfl ?_
      refine Rt.iload (pc' := 28) X0 hx (hb hby d4_26) rfl rfl ?_
      refine Rt.isub (pc' := 29) (r := ((255 : Int32) - (f4_2_v10 p2))) X0 hx (hb hby d4_28) rfl rfl ?_
      refine Rt.istore (pc' := 31) (v := (f4_2_v29 p2)) (l' := #[.val (.ref a1), .val (.int p2), .val (.int (2 : Int32)), .val (.int p4), .val (.int p5), .val (.int (f4_2_v10 p2)), .val (.int (f4_2_v29 p2))]) X0 hx (hb hby d4_29) rfl rfl ?_
      refine Rt.goto (pc' := 38) X0 hx (hb hby d4_31) (by decide) (by decide) ?_
      have q := J14_1 T0   X0
      rw [show (f4_2_j38_l6 p2 p4 p5) = (f4_2_v29 p2) from by rw [f4_2_j38_l6, if_neg hc14_3, if_pos hc20_4]] at q
      exact q
    · refine Rt.icmpY (pc' := 34) X0 hx (hb hby d4_20) (flt hc20_4).2.1 (by decide) (by decide) ?_
      refine Rt.iload (pc' := 36) X0 hx (hb hby d4_34) rfl rfl ?_
      refine Rt.istore (pc' := 38) (v := (f4_2_v10 p2)) (l' := #[.val (.ref a1), .val (.int p2), .val (.int (2 : Int32)), .val (.int p4), .val (.int p5), .val (.int (f4_2_v10 p2)), .val (.int (f4_2_v10 p2))]) X0 hx (hb hby d4_36) rfl rfl ?_
      have q := J14_1 T0   X0
      rw [show (f4_2_j38_l6 p2 p4 p5) = (f4_2_v10 p2) from by rw [f4_2_j38_l6, if_neg hc14_3, if_neg hc20_4]] at q
      exact q
def f4_3_v10 (p2 : Int32) : Int32 := (((p2.toUInt32 >>> ((24 : Int32) &&& 31).toUInt32).toInt32) &&& (255 : Int32))
def f4_3_v29 (p2 : Int32) : Int32 := ((255 : Int32) - (f4_3_v10 p2))
def f4_3_j38_l6 (p2 : Int32) (p4 : Int32) (p5 : Int32) : Int32 := (if (3 : Int32) < p4 then (f4_3_v10 p2) else (if (3 : Int32) < p5 then (f4_3_v29 p2) else (f4_3_v10 p2)))
def f4_3 (p2 : Int32) (p4 : Int32) (p5 : Int32) (v3 : Int32) : Int32 := (if (v3 &&& (255 : Int32)) = (f4_3_j38_l6 p2 p4 p5) then (1 : Int32) else (0 : Int32))
def Q4_3 (a1 : Addr) (p2 : Int32) (p4 : Int32) (p5 : Int32) (v0 : Int32) (v1 : Int32) (v2 : Int32) (v3 : Int32) (h0 : Heap) (n0 : Nat) (v : Option Value) (h : Heap) (L : List Loc) : Prop := v = some (.int (f4_3 p2 p4 p5 v3)) ∧ Fr n0 L ∧ h = h0
def rmR4_3 : Room := { frames := 0, cells := 0, slots := 0, locals := 0 }
theorem ef_4_3 (m : MethodId) (a1 : Addr) (p2 : Int32) (p4 : Int32) (p5 : Int32) : entryFrame m #[(.ref a1), (.int p2), (.int (3 : Int32)), (.int p4), (.int p5)] 7 = mkF m 0 #[.val (.ref a1), .val (.int p2), .val (.int (3 : Int32)), .val (.int p4), .val (.int p5), .unset, .unset] [] := by first | (simp [entryFrame, mkF, argsToLocals, Value.category]; done) | rfl
set_option maxRecDepth 65536 in
set_option maxHeartbeats 40000000 in
theorem rm4_3 (l : Launch) (Z : State) (a0 : Array Value) (hw : ∀ d ∈ tables_1, d.before a0 Z = true) (ws : List Jvm.Cond) (a1 : Addr) (p2 : Int32) (p4 : Int32) (p5 : Int32) (v0 : Int32) (v1 : Int32) (v2 : Int32) (v3 : Int32) (h0 : Heap) (n0 : Nat) (F_A_a1 : IA Z h0 a1 .byte [(.int v0), (.int v1), (.int v2), (.int v3)]) :
    Mt l Z mt4 (Jvm.Cond.code mt4 method_3_code 7 (some .boolean) :: ws) rmR4_3 #[(.ref a1), (.int p2), (.int (3 : Int32)), (.int p4), (.int p5)] h0 (Q4_3 a1 p2 p4 p5 v0 v1 v2 v3 h0 n0) := by
  refine Mt.of n0 (plainFor_of_name pn_com_example_bowerbird_bowerbird_keys_KeyTypeInvertPinLaw) ?_
  intro p e s m below meth c T0 X0 hx hZ hby hml hown hret hlk hnm hs0
  have hown : s.vm.findClass "com/example/bowerbird/bowerbird/keys/KeyTypeInvertPinLaw" = some m.cls := hown
  rw [ef_4_3]
  show Rt p e below s rmR4_3.cells rmR4_3.slots (Q4_3 a1 p2 p4 p5 v0 v1 v2 v3 h0 n0) (T0.setTop (mkF m 0 #[.val (.ref a1), .val (.int p2), .val (.int (3 : Int32)), .val (.int p4), .val (.int p5), .unset, .unset] []))
  refine Rt.iloadN (pc' := 1) X0 hx (hb hby d4_0) rfl rfl ?_
  refine Rt.bipush (pc' := 3) (v := (8 : Int32)) X0 hx (hb hby d4_1) rfl rfl ?_
  refine Rt.iloadN (pc' := 4) X0 hx (hb hby d4_3) rfl rfl ?_
  refine Rt.imul (pc' := 5) (r := (24 : Int32)) X0 hx (hb hby d4_4) (by decide) rfl ?_
  refine Rt.iushr (pc' := 6) (r := ((p2.toUInt32 >>> ((24 : Int32) &&& 31).toUInt32).toInt32)) X0 hx (hb hby d4_5) rfl rfl ?_
  refine Rt.sipush (pc' := 9) (v := (255 : Int32)) X0 hx (hb hby d4_6) rfl rfl ?_
  refine Rt.iand (pc' := 10) (r := (((p2.toUInt32 >>> ((24 : Int32) &&& 31).toUInt32).toInt32) &&& (255 : Int32))) X0 hx (hb hby d4_9) rfl rfl ?_
  refine Rt.istore (pc' := 12) (v := (f4_3_v10 p2)) (l' := #[.val (.ref a1), .val (.int p2), .val (.int (3 : Int32)), .val (.int p4), .val (.int p5), .val (.int (f4_3_v10 p2)), .unset]) X0 hx (hb hby d4_10) rfl rfl ?_
  refine Rt.iloadN (pc' := 13) X0 hx (hb hby d4_12) rfl rfl ?_
  refine Rt.iloadN (pc' := 14) X0 hx (hb hby d4_13) rfl rfl ?_
  have J14_1 : ∀ T1  , Sd p l e rmR4_3 s m #[(.ref a1), (.int p2), (.int (3 : Int32)), (.int p4), (.int p5)] below meth c T1 n0 0 0 h0 → Rt p e below s rmR4_3.cells rmR4_3.slots (Q4_3 a1 p2 p4 p5 v0 v1 v2 v3 h0 n0) (T1.setTop (mkF m 38 #[.val (.ref a1), .val (.int p2), .val (.int (3 : Int32)), .val (.int p4), .val (.int p5), .val (.int (f4_3_v10 p2)), .val (.int (f4_3_j38_l6 p2 p4 p5))] [])) := by
    intro T1   X1 
    refine Rt.aloadN (pc' := 39) X1 hx (hb hby d4_38) rfl rfl rfl ?_
    refine Rt.iloadN (pc' := 40) X1 hx (hb hby d4_39) rfl rfl ?_
    refine Rt.baload (pc' := 41) X1 hx hZ F_A_a1 (i := 3) (by decide) (by decide) (v := (.int v3)) rfl (hb hby d4_40) rfl ?_
    refine Rt.sipush (pc' := 44) (v := (255 : Int32)) X1 hx (hb hby d4_41) rfl rfl ?_
    refine Rt.iand (pc' := 45) (r := (v3 &&& (255 : Int32))) X1 hx (hb hby d4_44) rfl rfl ?_
    refine Rt.iload (pc' := 47) X1 hx (hb hby d4_45) rfl rfl ?_
    by_cases hc47_2 : (v3 &&& (255 : Int32)) = (f4_3_j38_l6 p2 p4 p5)
    · refine Rt.icmpN (pc' := 50) X1 hx (hb hby d4_47) (teq hc47_2).2 rfl ?_
      refine Rt.iconst (pc' := 51) (v := (1 : Int32)) X1 hx (hb hby d4_50) rfl rfl ?_
      refine Rt.goto (pc' := 55) X1 hx (hb hby d4_51) (by decide) (by decide) ?_
      exact Rt.retZ (w := (1 : Int32)) X1 hx hlk hret (by simp) (hb hby d4_55) (by decide) (by decide) (by decide) (fun L N => ⟨congrArg some (congrArg Value.int (by rw [f4_3, if_pos hc47_2])), N, rfl⟩)
    · refine Rt.icmpY (pc' := 54) X1 hx (hb hby d4_47) (feq hc47_2).2 (by decide) (by decide) ?_
      refine Rt.iconst (pc' := 55) (v := (0 : Int32)) X1 hx (hb hby d4_54) rfl rfl ?_
      exact Rt.retZ (w := (0 : Int32)) X1 hx hlk hret (by simp) (hb hby d4_55) (by decide) (by decide) (by decide) (fun L N => ⟨congrArg some (congrArg Value.int (by rw [f4_3, if_neg hc47_2])), N, rfl⟩)
  by_cases hc14_3 : (3 : Int32) < p4
  · refine Rt.icmpY (pc' := 34) X0 hx (hb hby d4_14) (tlt hc14_3).1 (by decide) (by decide) ?_
    refine Rt.iload (pc' := 36) X0 hx (hb hby d4_34) rfl rfl ?_
    refine Rt.istore (pc' := 38) (v := (f4_3_v10 p2)) (l' := #[.val (.ref a1), .val (.int p2), .val (.int (3 : Int32)), .val (.int p4), .val (.int p5), .val (.int (f4_3_v10 p2)), .val (.int (f4_3_v10 p2))]) X0 hx (hb hby d4_36) rfl rfl ?_
    have q := J14_1 T0   X0
    rw [show (f4_3_j38_l6 p2 p4 p5) = (f4_3_v10 p2) from by rw [f4_3_j38_l6, if_pos hc14_3]] at q
    exact q
  · refine Rt.icmpN (pc' := 17) X0 hx (hb hby d4_14) (flt hc14_3).1 rfl ?_
    refine Rt.iloadN (pc' := 18) X0 hx (hb hby d4_17) rfl rfl ?_
    refine Rt.iload (pc' := 20) X0 hx (hb hby d4_18) rfl rfl ?_
    by_cases hc20_4 : (3 : Int32) < p5
    · refine Rt.icmpN (pc' := 23) X0 hx (hb hby d4_20) (tlt hc20_4).2.1 rfl ?_
      refine Rt.sipush (pc' := 26) (v := (255 : Int32)) X0 hx (hb hby d4_23) rfl rfl ?_
      refine Rt.iload (pc' := 28) X0 hx (hb hby d4_26) rfl rfl ?_
      refine Rt.isub (pc' := 29) (r := ((255 : Int32) - (f4_3_v10 p2))) X0 hx (hb hby d4_28) rfl rfl ?_
      refine Rt.istore (pc' := 31) (v := (f4_3_v29 p2)) (l' := #[.val (.ref a1), .val (.int p2), .val (.int (3 : Int32)), .val (.int p4), .val (.int p5), .val (.int (f4_3_v10 p2)), .val (.int (f4_3_v29 p2))]) X0 hx (hb hby d4_29) rfl rfl ?_
      refine Rt.goto (pc' := 38) X0 hx (hb hby d4_31) (by decide) (by decide) ?_
      have q := J14_1 T0   X0
      rw [show (f4_3_j38_l6 p2 p4 p5) = (f4_3_v29 p2) from by rw [f4_3_j38_l6, if_neg hc14_3, if_pos hc20_4]] at q
      exact q
    · refine Rt.icmpY (pc' := 34) X0 hx (hb hby d4_20) (flt hc20_4).2.1 (by decide) (by decide) ?_
      refine Rt.iload (pc' := 36) X0 hx (hb hby d4_34) rfl rfl ?_
      refine Rt.istore (pc' := 38) (v := (f4_3_v10 p2)) (l' := #[.val (.ref a1), .val (.int p2), .val (.int (3 : Int32)), .val (.int p4), .val (.int p5), .val (.int (f4_3_v10 p2)), .val (.int (f4_3_v10 p2))]) X0 hx (hb hby d4_36) rfl rfl ?_
      have q := J14_1 T0   X0
      rw [show (f4_3_j38_l6 p2 p4 p5) = (f4_3_v10 p2) from by rw [f4_3_j38_l6, if_neg hc14_3, if_neg hc20_4]] at q
      exact q
theorem pd_0 : parseMethodDescriptor "(II)I" = some ⟨[.int, .int], some .int⟩ := by decide +kernel
theorem pd_1 : parseMethodDescriptor "([BII)V" = some ⟨[(.array .byte), .int, .int], none⟩ := by decide +kernel
theorem pd_2 : parseMethodDescriptor "([BIIII)Z" = some ⟨[(.array .byte), .int, .int, .int, .int], some .boolean⟩ := by decide +kernel
def f0_v6 (p2 : Int32) : Int32 := ((p2 &&& (2147483647 : Int32)) % (5 : Int32))
def f0_v13 (p3 : Int32) : Int32 := ((p3 &&& (2147483647 : Int32)) % (5 : Int32))
def f0_v21 (p2 : Int32) (p3 : Int32) : Int32 := (f1 (f0_v6 p2) (f0_v13 p3))
def f0_v29 (p2 : Int32) (p3 : Int32) : Int32 := (f2 (f0_v6 p2) (f0_v13 p3))
def f0_w41 (p1 : Int32) : Int32 := (nar .byte (p1.toInt8.toInt32))
def f0_w50 (p1 : Int32) : Int32 := (nar .byte (((p1.toUInt32 >>> ((8 : Int32) &&& 31).toUInt32).toInt32).toInt8.toInt32))
def f0_w59 (p1 : Int32) : Int32 := (nar .byte (((p1.toUInt32 >>> ((16 : Int32) &&& 31).toUInt32).toInt32).toInt8.toInt32))
def f0_w68 (p1 : Int32) : Int32 := (nar .byte (((p1.toUInt32 >>> ((24 : Int32) &&& 31).toUInt32).toInt32).toInt8.toInt32))
def f0_c75_b320 (p1 : Int32) (p2 : Int32) (p3 : Int32) : Int32 := (f3_g (0 : Int32) (f0_v21 p2 p3) (f0_v29 p2 p3) (f0_w41 p1))
def f0_c75_b321 (p1 : Int32) (p2 : Int32) (p3 : Int32) : Int32 := (f3_g (1 : Int32) (f0_v21 p2 p3) (f0_v29 p2 p3) (f0_w50 p1))
def f0_c75_b322 (p1 : Int32) (p2 : Int32) (p3 : Int32) : Int32 := (f3_g (2 : Int32) (f0_v21 p2 p3) (f0_v29 p2 p3) (f0_w59 p1))
def f0_c75_b323 (p1 : Int32) (p2 : Int32) (p3 : Int32) : Int32 := (f3_g (3 : Int32) (f0_v21 p2 p3) (f0_v29 p2 p3) (f0_w68 p1))
def f0 (p1 : Int32) (p2 : Int32) (p3 : Int32) : Int32 := (if (f4_0 p1 (f0_v21 p2 p3) (f0_v29 p2 p3) (f0_c75_b320 p1 p2 p3)) = (0 : Int32) then (0 : Int32) else (if (f4_1 p1 (f0_v21 p2 p3) (f0_v29 p2 p3) (f0_c75_b321 p1 p2 p3)) = (0 : Int32) then (0 : Int32) else (if (f4_2 p1 (f0_v21 p2 p3) (f0_v29 p2 p3) (f0_c75_b322 p1 p2 p3)) = (0 : Int32) then (0 : Int32) else (if (f4_3 p1 (f0_v21 p2 p3) (f0_v29 p2 p3) (f0_c75_b323 p1 p2 p3)) = (0 : Int32) then (0 : Int32) else (1 : Int32)))))
theorem own_five (x : Int32) (h0 : 0 ≤ x.toInt) (h1 : x.toInt < 5) : x = 0 ∨ x = 1 ∨ x = 2 ∨ x = 3 ∨ x = 4 := by
  simp only [← Int32.toInt_inj]
  have : x.toInt = 0 ∨ x.toInt = 1 ∨ x.toInt = 2 ∨ x.toInt = 3 ∨ x.toInt = 4 := by omega
  exact this
theorem own_rng_i (lo hi : Int32) (h0 : 0 ≤ lo.toInt) (h1 : lo.toInt ≤ hi.toInt) (h2 : hi.toInt < 5) : own_rng lo hi := by
  rcases own_five lo h0 (by omega) with rfl | rfl | rfl | rfl | rfl <;> rcases own_five hi (by omega) h2 with rfl | rfl | rfl | rfl | rfl <;> first | (unfold own_rng; decide) | exact absurd h1 (by decide)
theorem own_rng_of (f t : Int32) : own_rng (f0_v21 f t) (f0_v29 f t) := by
  have g1 := c_mask f 2147483647 31 (by decide) (by decide)
  have g2 := c_irem (f &&& 2147483647) 5 5 (by decide)
  have g3 := c_mask t 2147483647 31 (by decide) (by decide)
  have g4 := c_irem (t &&& 2147483647) 5 5 (by decide)
  have h1 : 0 ≤ (f0_v6 f).toInt ∧ (f0_v6 f).toInt < 5 := by unfold f0_v6; omega
  have h2 : 0 ≤ (f0_v13 t).toInt ∧ (f0_v13 t).toInt < 5 := by unfold f0_v13; omega
  unfold f0_v21 f0_v29 f1 f2
  generalize f0_v6 f = x at h1
  generalize f0_v13 t = y at h2
  by_cases q1 : y < x <;> by_cases q2 : x < y <;> simp only [q1, q2, if_true, if_false] <;> rw [Int32.lt_iff_toInt_lt] at q1 q2 <;> exact own_rng_i _ _ (by omega) (by omega) (by omega)
def Q0 (Z : State) (p1 : Int32) (p2 : Int32) (p3 : Int32) (h0 : Heap) (n0 : Nat) (v : Option Value) (h : Heap) (L : List Loc) : Prop := v = some (.int (f0 p1 p2 p3)) ∧ Fr n0 L ∧ Keep h0 h []
theorem ef_0 (m : MethodId) (p1 : Int32) (p2 : Int32) (p3 : Int32) : entryFrame m #[(.int p1), (.int p2), (.int p3)] maxLocals = mkF m 0 #[.val (.int p1), .val (.int p2), .val (.int p3), .unset, .unset, .unset, .unset, .unset] [] := by first | (simp [entryFrame, mkF, argsToLocals, Value.category, maxLocals]; done) | rfl
set_option maxRecDepth 65536 in
set_option maxHeartbeats 40000000 in
theorem rm0 (l : Launch) (Z : State) (a0 : Array Value) (hw : ∀ d ∈ tables_1, d.before a0 Z = true) (ws : List Jvm.Cond) (p1 : Int32) (p2 : Int32) (p3 : Int32) (h0 : Heap) (n0 : Nat) (Z0 : n0 ≤ h0.size) :
    Mt l Z x (Jvm.Cond.code x code maxLocals ret :: ws) room_1 #[(.int p1), (.int p2), (.int p3)] h0 (Q0 Z p1 p2 p3 h0 n0) := by
  refine Mt.of n0 (plainFor_of_name pn_com_example_bowerbird_bowerbird_keys_KeyTypeInvertPinLaw) ?_
  intro p e s m below meth c T0 X0 hx hZ hby hml hown hret hlk hnm hs0
  have hml : c.maxLocals = 8 := hml
  have hret : meth.sig.returnType = some .boolean := hret
  have hown : s.vm.findClass "com/example/bowerbird/bowerbird/keys/KeyTypeInvertPinLaw" = some m.cls := hown
  rw [ef_0]
  show Rt p e below s room_1.cells room_1.slots (Q0 Z p1 p2 p3 h0 n0) (T0.setTop (mkF m 0 #[.val (.int p1), .val (.int p2), .val (.int p3), .unset, .unset, .unset, .unset, .unset] []))
  refine Rt.iloadN (pc' := 1) X0 hx (hb hby at_0) rfl rfl ?_
  refine Rt.ldcInt (pc' := 3) X0 hx hZ hown (hw _ (List.mem_of_getElem? (i := 0) rfl)) (hb hby at_1) rfl ?_
  refine Rt.iand (pc' := 4) (r := (p2 &&& (2147483647 : Int32))) X0 hx (hb hby at_3) rfl rfl ?_
  refine Rt.iconst (pc' := 5) (v := (5 : Int32)) X0 hx (hb hby at_4) rfl rfl ?_
  refine Rt.irem (pc' := 6) X0 hx (hb hby at_5) (by decide) rfl rfl ?_
  refine Rt.istoreN (pc' := 7) (v := (f0_v6 p2)) (l' := #[.val (.int p1), .val (.int p2), .val (.int p3), .val (.int (f0_v6 p2)), .unset, .unset, .unset, .unset]) X0 hx (hb hby at_6) rfl rfl ?_
  refine Rt.iloadN (pc' := 8) X0 hx (hb hby at_7) rfl rfl ?_
  refine Rt.ldcInt (pc' := 10) X0 hx hZ hown (hw _ (List.mem_of_getElem? (i := 0) rfl)) (hb hby at_8) rfl ?_
  refine Rt.iand (pc' := 11) (r := (p3 &&& (2147483647 : Int32))) X0 hx (hb hby at_10) rfl rfl ?_
  refine Rt.iconst (pc' := 12) (v := (5 : Int32)) X0 hx (hb hby at_11) rfl rfl ?_
  refine Rt.irem (pc' := 13) X0 hx (hb hby at_12) (by decide) rfl rfl ?_
  refine Rt.istore (pc' := 15) (v := (f0_v13 p3)) (l' := #[.val (.int p1), .val (.int p2), .val (.int p3), .val (.int (f0_v6 p2)), .val (.int (f0_v13 p3)), .unset, .unset, .unset]) X0 hx (hb hby at_13) rfl rfl ?_
  refine Rt.iloadN (pc' := 16) X0 hx (hb hby at_15) rfl rfl ?_
  refine Rt.iload (pc' := 18) X0 hx (hb hby at_16) rfl rfl ?_
  refine Rt.callP (pc' := 21) (r := (.int (f1 (f0_v6 p2) (f0_v13 p3)))) X0 hx hZ (y := mt1) hown (hw _ (List.mem_of_getElem? (i := 1) rfl)) (hw _ (List.mem_of_getElem? (i := 2) rfl)) (hw _ (List.mem_of_getElem? (i := 3) rfl)) (hw _ (List.mem_of_getElem? (i := 4) rfl)) (by decide) (rm1 l Z a0 hw [] (f0_v6 p2) (f0_v13 p3) h0 n0) (W := 0) (by decide) (by decide) (by decide) (by decide) rfl rfl (argsL := [(.int (f0_v6 p2)), (.int (f0_v13 p3))]) (rest := []) (by rw [hml]; rfl) (lenOf pd_0 rfl) rfl rfl (Nat.le_of_eq rfl) (hb hby at_18) rfl ?_
  intro T1 X1
  refine Rt.istore (pc' := 23) (v := (f0_v21 p2 p3)) (l' := #[.val (.int p1), .val (.int p2), .val (.int p3), .val (.int (f0_v6 p2)), .val (.int (f0_v13 p3)), .val (.int (f0_v21 p2 p3)), .unset, .unset]) X1 hx (hb hby at_21) rfl rfl ?_
  refine Rt.iloadN (pc' := 24) X1 hx (hb hby at_23) rfl rfl ?_
  refine Rt.iload (pc' := 26) X1 hx (hb hby at_24) rfl rfl ?_
  refine Rt.callP (pc' := 29) (r := (.int (f2 (f0_v6 p2) (f0_v13 p3)))) X1 hx hZ (y := mt2) hown (hw _ (List.mem_of_getElem? (i := 5) rfl)) (hw _ (List.mem_of_getElem? (i := 6) rfl)) (hw _ (List.mem_of_getElem? (i := 3) rfl)) (hw _ (List.mem_of_getElem? (i := 7) rfl)) (by decide) (rm2 l Z a0 hw [] (f0_v6 p2) (f0_v13 p3) h0 n0) (W := 0) (by decide) (by decide) (by decide) (by decide) rfl rfl (argsL := [(.int (f0_v6 p2)), (.int (f0_v13 p3))]) (rest := []) (by rw [hml]; rfl) (lenOf pd_0 rfl) rfl rfl (Nat.le_of_eq rfl) (hb hby at_26) rfl ?_
  intro T2 X2
  refine Rt.istore (pc' := 31) (v := (f0_v29 p2 p3)) (l' := #[.val (.int p1), .val (.int p2), .val (.int p3), .val (.int (f0_v6 p2)), .val (.int (f0_v13 p3)), .val (.int (f0_v21 p2 p3)), .val (.int (f0_v29 p2 p3)), .unset]) X2 hx (hb hby at_29) rfl rfl ?_
  refine Rt.iconst (pc' := 32) (v := (4 : Int32)) X2 hx (hb hby at_31) rfl rfl ?_
  refine Rt.newP (pc' := 34) X2 hx hZ (ty := .byte) rfl (hw _ (List.mem_of_getElem? (i := 8) rfl)) (z := (4 : Int32)) (i := 4) (by decide) (by decide) (cap := 4) (by decide) (by decide) (hb hby at_32) (by decide) (by decide) rfl ?_
  intro T3 h3 b32 ha3 X3 E3 A3
  have g4 : n0 ≤ b32 := by rw [ha3]; exact Z0
  have s5 : h0.size ≤ b32 := by rw [ha3]; exact (Keep.refl h0 []).1
  have K6 : Keep h0 h3 [] := (Keep.refl h0 []).ext E3
  have Z7 : n0 ≤ h3.size := Nat.le_trans Z0 E3.1
  have A3 : IA Z h3 b32 .byte [(.int (0 : Int32)), (.int (0 : Int32)), (.int (0 : Int32)), (.int (0 : Int32))] := A3
  refine Rt.astore (pc' := 36) (v := (.ref b32)) (l' := #[.val (.int p1), .val (.int p2), .val (.int p3), .val (.int (f0_v6 p2)), .val (.int (f0_v13 p3)), .val (.int (f0_v21 p2 p3)), .val (.int (f0_v29 p2 p3)), .val (.ref b32)]) X3 hx (hb hby at_34) rfl rfl rfl ?_
  refine Rt.aload (pc' := 38) X3 hx (hb hby at_36) rfl rfl rfl ?_
  refine Rt.iconst (pc' := 39) (v := (0 : Int32)) X3 hx (hb hby at_38) rfl rfl ?_
  refine Rt.iloadN (pc' := 40) X3 hx (hb hby at_39) rfl rfl ?_
  refine Rt.i2b (pc' := 41) (r := (p1.toInt8.toInt32)) X3 hx (hb hby at_40) rfl rfl ?_
  refine Rt.bastore (pc' := 42) X3 hx hZ A3 (i := 0) (by decide) (by decide) (Nat.le_of_ble_eq_true rfl) (w := (.int (f0_w41 p1))) rfl g4 (hb hby at_41) rfl ?_
  intro T8 h8 X8 W8 F8
  have F8 : IA Z h8 b32 .byte [(.int (f0_w41 p1)), (.int (0 : Int32)), (.int (0 : Int32)), (.int (0 : Int32))] := F8
  have K9 : Keep h0 h8 [] := K6.wr W8 (Or.inr s5)
  have Z10 : n0 ≤ h8.size := Nat.le_trans Z7 (Keep.of_wr W8).1
  refine Rt.aload (pc' := 44) X8 hx (hb hby at_42) rfl rfl rfl ?_
  refine Rt.iconst (pc' := 45) (v := (1 : Int32)) X8 hx (hb hby at_44) rfl rfl ?_
  refine Rt.iloadN (pc' := 46) X8 hx (hb hby at_45) rfl rfl ?_
  refine Rt.bipush (pc' := 48) (v := (8 : Int32)) X8 hx (hb hby at_46) rfl rfl ?_
  refine Rt.iushr (pc' := 49) (r := ((p1.toUInt32 >>> ((8 : Int32) &&& 31).toUInt32).toInt32)) X8 hx (hb hby at_48) rfl rfl ?_
  refine Rt.i2b (pc' := 50) (r := (((p1.toUInt32 >>> ((8 : Int32) &&& 31).toUInt32).toInt32).toInt8.toInt32)) X8 hx (hb hby at_49) rfl rfl ?_
  refine Rt.bastore (pc' := 51) X8 hx hZ F8 (i := 1) (by decide) (by decide) (Nat.le_of_ble_eq_true rfl) (w := (.int (f0_w50 p1))) rfl g4 (hb hby at_50) rfl ?_
  intro T11 h11 X11 W11 F11
  have F11 : IA Z h11 b32 .byte [(.int (f0_w41 p1)), (.int (f0_w50 p1)), (.int (0 : Int32)), (.int (0 : Int32))] := F11
  have K12 : Keep h0 h11 [] := K9.wr W11 (Or.inr s5)
  have Z13 : n0 ≤ h11.size := Nat.le_trans Z10 (Keep.of_wr W11).1
  refine Rt.aload (pc' := 53) X11 hx (hb hby at_51) rfl rfl rfl ?_
  refine Rt.iconst (pc' := 54) (v := (2 : Int32)) X11 hx (hb hby at_53) rfl rfl ?_
  refine Rt.iloadN (pc' := 55) X11 hx (hb hby at_54) rfl rfl ?_
  refine Rt.bipush (pc' := 57) (v := (16 : Int32)) X11 hx (hb hby at_55) rfl rfl ?_
  refine Rt.iushr (pc' := 58) (r := ((p1.toUInt32 >>> ((16 : Int32) &&& 31).toUInt32).toInt32)) X11 hx (hb hby at_57) rfl rfl ?_
  refine Rt.i2b (pc' := 59) (r := (((p1.toUInt32 >>> ((16 : Int32) &&& 31).toUInt32).toInt32).toInt8.toInt32)) X11 hx (hb hby at_58) rfl rfl ?_
  refine Rt.bastore (pc' := 60) X11 hx hZ F11 (i := 2) (by decide) (by decide) (Nat.le_of_ble_eq_true rfl) (w := (.int (f0_w59 p1))) rfl g4 (hb hby at_59) rfl ?_
  intro T14 h14 X14 W14 F14
  have F14 : IA Z h14 b32 .byte [(.int (f0_w41 p1)), (.int (f0_w50 p1)), (.int (f0_w59 p1)), (.int (0 : Int32))] := F14
  have K15 : Keep h0 h14 [] := K12.wr W14 (Or.inr s5)
  have Z16 : n0 ≤ h14.size := Nat.le_trans Z13 (Keep.of_wr W14).1
  refine Rt.aload (pc' := 62) X14 hx (hb hby at_60) rfl rfl rfl ?_
  refine Rt.iconst (pc' := 63) (v := (3 : Int32)) X14 hx (hb hby at_62) rfl rfl ?_
  refine Rt.iloadN (pc' := 64) X14 hx (hb hby at_63) rfl rfl ?_
  refine Rt.bipush (pc' := 66) (v := (24 : Int32)) X14 hx (hb hby at_64) rfl rfl ?_
  refine Rt.iushr (pc' := 67) (r := ((p1.toUInt32 >>> ((24 : Int32) &&& 31).toUInt32).toInt32)) X14 hx (hb hby at_66) rfl rfl ?_
  refine Rt.i2b (pc' := 68) (r := (((p1.toUInt32 >>> ((24 : Int32) &&& 31).toUInt32).toInt32).toInt8.toInt32)) X14 hx (hb hby at_67) rfl rfl ?_
  refine Rt.bastore (pc' := 69) X14 hx hZ F14 (i := 3) (by decide) (by decide) (Nat.le_of_ble_eq_true rfl) (w := (.int (f0_w68 p1))) rfl g4 (hb hby at_68) rfl ?_
  intro T17 h17 X17 W17 F17
  have F17 : IA Z h17 b32 .byte [(.int (f0_w41 p1)), (.int (f0_w50 p1)), (.int (f0_w59 p1)), (.int (f0_w68 p1))] := F17
  have K18 : Keep h0 h17 [] := K15.wr W17 (Or.inr s5)
  have Z19 : n0 ≤ h17.size := Nat.le_trans Z16 (Keep.of_wr W17).1
  refine Rt.aload (pc' := 71) X17 hx (hb hby at_69) rfl rfl rfl ?_
  refine Rt.iload (pc' := 73) X17 hx (hb hby at_71) rfl rfl ?_
  refine Rt.iload (pc' := 75) X17 hx (hb hby at_73) rfl rfl ?_
  refine Rt.callS (pc' := 78) X17 hx hZ (y := mt3) hown (hw _ (List.mem_of_getElem? (i := 9) rfl)) (hw _ (List.mem_of_getElem? (i := 10) rfl)) (hw _ (List.mem_of_getElem? (i := 11) rfl)) (hw _ (List.mem_of_getElem? (i := 12) rfl)) (by decide) (rm3 l Z a0 hw [] b32 (f0_v21 p2 p3) (f0_v29 p2 p3) (f0_w41 p1) (f0_w50 p1) (f0_w59 p1) (f0_w68 p1) h17 n0 Z19 F17 g4 (own_rng_of _ _)) (fun _ _ _ q => q.2.1) (W := 0) (by decide) (by decide) (by decide) (by decide) (argsL := [(.ref b32), (.int (f0_v21 p2 p3)), (.int (f0_v29 p2 p3))]) (rest := []) (by rw [hml]; rfl) (lenOf pd_1 rfl) rfl rfl (Nat.le_of_eq rfl) (hb hby at_75) rfl ?_
  rintro _ T20 h20 L20 X20 ⟨rfl, N20, K20, F21⟩
  have K22 : Keep h0 h20 [] := K18.trans K20 (allS (Or.inr s5) all0)
  have Z23 : n0 ≤ h20.size := Nat.le_trans Z19 K20.1
  have F24 : IA Z h20 b32 .byte [(.int (f0_c75_b320 p1 p2 p3)), (.int (f0_c75_b321 p1 p2 p3)), (.int (f0_c75_b322 p1 p2 p3)), (.int (f0_c75_b323 p1 p2 p3))] := F21
  show Rt _ _ _ _ _ _ _ (T20.setTop (mkF m 78 #[.val (.int p1), .val (.int p2), .val (.int p3), .val (.int (f0_v6 p2)), .val (.int (f0_v13 p3)), .val (.int (f0_v21 p2 p3)), .val (.int (f0_v29 p2 p3)), .val (.ref b32)] []))
  refine Rt.aload (pc' := 80) X20 hx (hb hby at_78) rfl rfl rfl ?_
  refine Rt.iloadN (pc' := 81) X20 hx (hb hby at_80) rfl rfl ?_
  refine Rt.iconst (pc' := 82) (v := (0 : Int32)) X20 hx (hb hby at_81) rfl rfl ?_
  refine Rt.iload (pc' := 84) X20 hx (hb hby at_82) rfl rfl ?_
  refine Rt.iload (pc' := 86) X20 hx (hb hby at_84) rfl rfl ?_
  refine Rt.callP (pc' := 89) (r := (.int (f4_0 p1 (f0_v21 p2 p3) (f0_v29 p2 p3) (f0_c75_b320 p1 p2 p3)))) X20 hx hZ (y := mt4) hown (hw _ (List.mem_of_getElem? (i := 13) rfl)) (hw _ (List.mem_of_getElem? (i := 14) rfl)) (hw _ (List.mem_of_getElem? (i := 15) rfl)) (hw _ (List.mem_of_getElem? (i := 16) rfl)) (by decide) (rm4_0 l Z a0 hw [] b32 p1 (f0_v21 p2 p3) (f0_v29 p2 p3) (f0_c75_b320 p1 p2 p3) (f0_c75_b321 p1 p2 p3) (f0_c75_b322 p1 p2 p3) (f0_c75_b323 p1 p2 p3) h20 n0 F24) (W := 0) (by decide) (by decide) (by decide) (by decide) rfl rfl (argsL := [(.ref b32), (.int p1), (.int (0 : Int32)), (.int (f0_v21 p2 p3)), (.int (f0_v29 p2 p3))]) (rest := []) (by rw [hml]; rfl) (lenOf pd_2 rfl) rfl rfl (Nat.le_of_eq rfl) (hb hby at_86) rfl ?_
  intro T25 X25
  by_cases hc89_26 : (f4_0 p1 (f0_v21 p2 p3) (f0_v29 p2 p3) (f0_c75_b320 p1 p2 p3)) = (0 : Int32)
  · refine Rt.ifY (pc' := 138) X25 hx (hb hby at_89) ((if0 _ _).trans (teq hc89_26).1) (by decide) (by decide) ?_
    refine Rt.iconst (pc' := 139) (v := (0 : Int32)) X25 hx (hb hby at_138) rfl rfl ?_
    exact Rt.retZ (w := (0 : Int32)) X25 hx hlk hret (by simp) (hb hby at_139) (by decide) (by decide) (by decide) (fun L N => ⟨congrArg some (congrArg Value.int (by rw [f0, if_pos hc89_26])), N, K22⟩)
  · refine Rt.ifN (pc' := 92) X25 hx (hb hby at_89) ((if0 _ _).trans (feq hc89_26).1) rfl ?_
    refine Rt.aload (pc' := 94) X25 hx (hb hby at_92) rfl rfl rfl ?_
    refine Rt.iloadN (pc' := 95) X25 hx (hb hby at_94) rfl rfl ?_
    refine Rt.iconst (pc' := 96) (v := (1 : Int32)) X25 hx (hb hby at_95) rfl rfl ?_
    refine Rt.iload (pc' := 98) X25 hx (hb hby at_96) rfl rfl ?_
    refine Rt.iload (pc' := 100) X25 hx (hb hby at_98) rfl rfl ?_
    refine Rt.callP (pc' := 103) (r := (.int (f4_1 p1 (f0_v21 p2 p3) (f0_v29 p2 p3) (f0_c75_b321 p1 p2 p3)))) X25 hx hZ (y := mt4) hown (hw _ (List.mem_of_getElem? (i := 13) rfl)) (hw _ (List.mem_of_getElem? (i := 14) rfl)) (hw _ (List.mem_of_getElem? (i := 15) rfl)) (hw _ (List.mem_of_getElem? (i := 16) rfl)) (by decide) (rm4_1 l Z a0 hw [] b32 p1 (f0_v21 p2 p3) (f0_v29 p2 p3) (f0_c75_b320 p1 p2 p3) (f0_c75_b321 p1 p2 p3) (f0_c75_b322 p1 p2 p3) (f0_c75_b323 p1 p2 p3) h20 n0 F24) (W := 0) (by decide) (by decide) (by decide) (by decide) rfl rfl (argsL := [(.ref b32), (.int p1), (.int (1 : Int32)), (.int (f0_v21 p2 p3)), (.int (f0_v29 p2 p3))]) (rest := []) (by rw [hml]; rfl) (lenOf pd_2 rfl) rfl rfl (Nat.le_of_eq rfl) (hb hby at_100) rfl ?_
    intro T27 X27
    by_cases hc103_28 : (f4_1 p1 (f0_v21 p2 p3) (f0_v29 p2 p3) (f0_c75_b321 p1 p2 p3)) = (0 : Int32)
    · refine Rt.ifY (pc' := 138) X27 hx (hb hby at_103) ((if0 _ _).trans (teq hc103_28).1) (by decide) (by decide) ?_
      refine Rt.iconst (pc' := 139) (v := (0 : Int32)) X27 hx (hb hby at_138) rfl rfl ?_
      exact Rt.retZ (w := (0 : Int32)) X27 hx hlk hret (by simp) (hb hby at_139) (by decide) (by decide) (by decide) (fun L N => ⟨congrArg some (congrArg Value.int (by rw [f0, if_neg hc89_26, if_pos hc103_28])), N, K22⟩)
    · refine Rt.ifN (pc' := 106) X27 hx (hb hby at_103) ((if0 _ _).trans (feq hc103_28).1) rfl ?_
      refine Rt.aload (pc' := 108) X27 hx (hb hby at_106) rfl rfl rfl ?_
      refine Rt.iloadN (pc' := 109) X27 hx (hb hby at_108) rfl rfl ?_
      refine Rt.iconst (pc' := 110) (v := (2 : Int32)) X27 hx (hb hby at_109) rfl rfl ?_
      refine Rt.iload (pc' := 112) X27 hx (hb hby at_110) rfl rfl ?_
      refine Rt.iload (pc' := 114) X27 hx (hb hby at_112) rfl rfl ?_
      refine Rt.callP (pc' := 117) (r := (.int (f4_2 p1 (f0_v21 p2 p3) (f0_v29 p2 p3) (f0_c75_b322 p1 p2 p3)))) X27 hx hZ (y := mt4) hown (hw _ (List.mem_of_getElem? (i := 13) rfl)) (hw _ (List.mem_of_getElem? (i := 14) rfl)) (hw _ (List.mem_of_getElem? (i := 15) rfl)) (hw _ (List.mem_of_getElem? (i := 16) rfl)) (by decide) (rm4_2 l Z a0 hw [] b32 p1 (f0_v21 p2 p3) (f0_v29 p2 p3) (f0_c75_b320 p1 p2 p3) (f0_c75_b321 p1 p2 p3) (f0_c75_b322 p1 p2 p3) (f0_c75_b323 p1 p2 p3) h20 n0 F24) (W := 0) (by decide) (by decide) (by decide) (by decide) rfl rfl (argsL := [(.ref b32), (.int p1), (.int (2 : Int32)), (.int (f0_v21 p2 p3)), (.int (f0_v29 p2 p3))]) (rest := []) (by rw [hml]; rfl) (lenOf pd_2 rfl) rfl rfl (Nat.le_of_eq rfl) (hb hby at_114) rfl ?_
      intro T29 X29
      by_cases hc117_30 : (f4_2 p1 (f0_v21 p2 p3) (f0_v29 p2 p3) (f0_c75_b322 p1 p2 p3)) = (0 : Int32)
      · refine Rt.ifY (pc' := 138) X29 hx (hb hby at_117) ((if0 _ _).trans (teq hc117_30).1) (by decide) (by decide) ?_
        refine Rt.iconst (pc' := 139) (v := (0 : Int32)) X29 hx (hb hby at_138) rfl rfl ?_
        exact Rt.retZ (w := (0 : Int32)) X29 hx hlk hret (by simp) (hb hby at_139) (by decide) (by decide) (by decide) (fun L N => ⟨congrArg some (congrArg Value.int (by rw [f0, if_neg hc89_26, if_neg hc103_28, if_pos hc117_30])), N, K22⟩)
      · refine Rt.ifN (pc' := 120) X29 hx (hb hby at_117) ((if0 _ _).trans (feq hc117_30).1) rfl ?_
        refine Rt.aload (pc' := 122) X29 hx (hb hby at_120) rfl rfl rfl ?_
        refine Rt.iloadN (pc' := 123) X29 hx (hb hby at_122) rfl rfl ?_
        refine Rt.iconst (pc' := 124) (v := (3 : Int32)) X29 hx (hb hby at_123) rfl rfl ?_
        refine Rt.iload (pc' := 126) X29 hx (hb hby at_124) rfl rfl ?_
        refine Rt.iload (pc' := 128) X29 hx (hb hby at_126) rfl rfl ?_
        refine Rt.callP (pc' := 131) (r := (.int (f4_3 p1 (f0_v21 p2 p3) (f0_v29 p2 p3) (f0_c75_b323 p1 p2 p3)))) X29 hx hZ (y := mt4) hown (hw _ (List.mem_of_getElem? (i := 13) rfl)) (hw _ (List.mem_of_getElem? (i := 14) rfl)) (hw _ (List.mem_of_getElem? (i := 15) rfl)) (hw _ (List.mem_of_getElem? (i := 16) rfl)) (by decide) (rm4_3 l Z a0 hw [] b32 p1 (f0_v21 p2 p3) (f0_v29 p2 p3) (f0_c75_b320 p1 p2 p3) (f0_c75_b321 p1 p2 p3) (f0_c75_b322 p1 p2 p3) (f0_c75_b323 p1 p2 p3) h20 n0 F24) (W := 0) (by decide) (by decide) (by decide) (by decide) rfl rfl (argsL := [(.ref b32), (.int p1), (.int (3 : Int32)), (.int (f0_v21 p2 p3)), (.int (f0_v29 p2 p3))]) (rest := []) (by rw [hml]; rfl) (lenOf pd_2 rfl) rfl rfl (Nat.le_of_eq rfl) (hb hby at_128) rfl ?_
        intro T31 X31
        by_cases hc131_32 : (f4_3 p1 (f0_v21 p2 p3) (f0_v29 p2 p3) (f0_c75_b323 p1 p2 p3)) = (0 : Int32)
        · refine Rt.ifY (pc' := 138) X31 hx (hb hby at_131) ((if0 _ _).trans (teq hc131_32).1) (by decide) (by decide) ?_
          refine Rt.iconst (pc' := 139) (v := (0 : Int32)) X31 hx (hb hby at_138) rfl rfl ?_
          exact Rt.retZ (w := (0 : Int32)) X31 hx hlk hret (by simp) (hb hby at_139) (by decide) (by decide) (by decide) (fun L N => ⟨congrArg some (congrArg Value.int (by rw [f0, if_neg hc89_26, if_neg hc103_28, if_neg hc117_30, if_pos hc131_32])), N, K22⟩)
        · refine Rt.ifN (pc' := 134) X31 hx (hb hby at_131) ((if0 _ _).trans (feq hc131_32).1) rfl ?_
          refine Rt.iconst (pc' := 135) (v := (1 : Int32)) X31 hx (hb hby at_134) rfl rfl ?_
          refine Rt.goto (pc' := 139) X31 hx (hb hby at_135) (by decide) (by decide) ?_
          exact Rt.retZ (w := (1 : Int32)) X31 hx hlk hret (by simp) (hb hby at_139) (by decide) (by decide) (by decide) (fun L N => ⟨congrArg some (congrArg Value.int (by rw [f0, if_neg hc89_26, if_neg hc103_28, if_neg hc117_30, if_neg hc131_32])), N, K22⟩)
theorem own_byte (u : Int32) : ((nar .byte (u.toInt8.toInt32)) &&& 255).toInt = u.toInt % 256 := by
  show ((u.toInt8.toInt32).toInt8.toInt32 &&& 255).toInt = _
  have g1 := c_i2b u
  have g2 := c_i2b u.toInt8.toInt32
  have g3 := c_mask ((u.toInt8.toInt32).toInt8.toInt32) 255 8 (by decide) (by decide)
  omega
theorem own_inv (u : Int32) : ((f3_inv (nar .byte (u.toInt8.toInt32))) &&& 255).toInt = 255 - u.toInt % 256 := by
  have g0 : (nar .byte (u.toInt8.toInt32)).toInt = ((u.toInt8.toInt32).toInt8.toInt32).toInt := rfl
  have g1 := c_i2b u
  have g2 := c_i2b u.toInt8.toInt32
  generalize nar .byte (u.toInt8.toInt32) = w at g0
  have g3 : (w ^^^ -1) = -w - 1 := by rw [Int32.xor_neg_one, Int32.not_eq_neg_add]
  have l1 : (1 : Int32).toInt = 1 := by decide
  have g4 := c_ineg w
  have g5 := c_isub (-w) 1
  unfold f3_inv
  rw [g3]
  have g6 := own_byte (-w - 1)
  rw [g6]
  omega
theorem own_case (i lo hi u o : Int32) (ho : o.toInt = u.toInt % 256) : ((f3_g i lo hi (nar .byte (u.toInt8.toInt32))) &&& 255) = (if i < lo then o else if i < hi then 255 - o else o) := by
  have b := own_byte u
  have c := own_inv u
  have l : (255 : Int32).toInt = 255 := by decide
  have g := c_isub 255 o
  have b1 := (255 - o).le_toInt
  have b2 := (255 - o).toInt_lt
  unfold f3_g
  split
  · exact Int32.toInt_inj.mp (by omega)
  · split
    · exact Int32.toInt_inj.mp (by omega)
    · exact Int32.toInt_inj.mp (by omega)
theorem own_law (a f t : Int32) : f0 a f t = 1 := by
  have m0 := c_mask ((a.toUInt32 >>> ((0 : Int32) &&& 31).toUInt32).toInt32) 255 8 (by decide) (by decide)
  have z0 : ((a.toUInt32 >>> ((0 : Int32) &&& 31).toUInt32).toInt32) = a := by
    show (a.toUInt32 >>> (0 : UInt32)).toInt32 = a
    simp
  have m1 := c_mask ((a.toUInt32 >>> ((8 : Int32) &&& 31).toUInt32).toInt32) 255 8 (by decide) (by decide)
  have m2 := c_mask ((a.toUInt32 >>> ((16 : Int32) &&& 31).toUInt32).toInt32) 255 8 (by decide) (by decide)
  have m3 := c_mask ((a.toUInt32 >>> ((24 : Int32) &&& 31).toUInt32).toInt32) 255 8 (by decide) (by decide)
  rw [z0] at m0
  unfold f0
  have q0 : ∀ lo hi, f4_0 a lo hi (f3_g 0 lo hi (f0_w41 a)) = 1 := fun lo hi => by
    unfold f4_0 f4_0_j38_l6 f4_0_v29 f4_0_v10 f0_w41; rw [z0]
    exact if_pos (own_case 0 lo hi a (a &&& 255) (by omega))
  have q1 : ∀ lo hi, f4_1 a lo hi (f3_g 1 lo hi (f0_w50 a)) = 1 := fun lo hi => by
    unfold f4_1 f4_1_j38_l6 f4_1_v29 f4_1_v10 f0_w50
    exact if_pos (own_case 1 lo hi _ _ (by omega))
  have q2 : ∀ lo hi, f4_2 a lo hi (f3_g 2 lo hi (f0_w59 a)) = 1 := fun lo hi => by
    unfold f4_2 f4_2_j38_l6 f4_2_v29 f4_2_v10 f0_w59
    exact if_pos (own_case 2 lo hi _ _ (by omega))
  have q3 : ∀ lo hi, f4_3 a lo hi (f3_g 3 lo hi (f0_w68 a)) = 1 := fun lo hi => by
    unfold f4_3 f4_3_j38_l6 f4_3_v29 f4_3_v10 f0_w68
    exact if_pos (own_case 3 lo hi _ _ (by omega))
  unfold f0_c75_b320 f0_c75_b321 f0_c75_b322 f0_c75_b323
  rw [q0, q1, q2, q3]
  decide
set_option maxRecDepth 65536 in
set_option maxHeartbeats 40000000 in
theorem comes_1 {Post : Tables → Env → Array Value → State → Outcome → State → Prop} (hpost : ∀ tb e args s v u, (limb_1_1.after args s (.returned v) u = true ∧ limb_1_2.after args s (.returned v) u = true ∧ True) → FrameEnd s (.returned v) u (Jvm.fieldLocs frame_1_writes args s ++ Jvm.arrayLocs frame_1_arrays args s ++ Jvm.staticLocs frame_1_statics s) 16 128 → Post tb e args s (.returned v) u) :
    ArmFor flags0 classFile x code maxLocals ret World_1 tables_1 room_1 Calls_1 rest_1 Pre_1 Post := by
  intro l hfl _ _ p e ha hc hk s m args below hf hA hF happ hP
  obtain ⟨hcalls, hrest, hpre⟩ := hP
  obtain ⟨-, -, -, hnamed, -, -, -, hat⟩ := (Spec.applies_iff hf).mp happ
  obtain ⟨hg, hn⟩ := and_e (Cond.before_iff.mp (show (Jvm.Cond.and given_1 narrow_1).before args s = true from hpre))
  obtain ⟨g1, g2⟩ := and_e hg
  obtain ⟨g3, g4⟩ := and_e g2
  obtain ⟨g5, g6⟩ := and_e g4
  obtain ⟨w0, w1, w2, rfl⟩ : ∃ w0 w1 w2 : Value, args = #[w0, w1, w2] := by
    have hs : args.size = 3 := by simpa [Cond.value, given_1] using g1
    obtain ⟨L⟩ := args
    match L, hs with
    | [w0, w1, w2], _ => exact ⟨w0, w1, w2, rfl⟩
  have hw := fun d (hd : d ∈ tables_1) => atoms_spec (ws := Jvm.Cond.code x code maxLocals ret :: tables_1) hat d (List.mem_cons_of_mem _ hd)
  have hfit : Fit s := fun {y c} hc i hi => by
    obtain ⟨ha, rfl⟩ := Array.getElem?_eq_some_iff.mp hc
    have q := List.all_eq_true.mp ((Array.all_eq_true_iff_forall_mem.mp hF) _ (Array.getElem_mem ha)) i (List.mem_range.mpr hi)
    simpa [Array.getElem?_eq_getElem hi] using q
  obtain ⟨i0, ei0⟩ := is_v g3
  obtain rfl : w0 = (.int i0) := Option.some.inj ei0
  obtain ⟨i1, ei1⟩ := is_v g5
  obtain rfl : w1 = (.int i1) := Option.some.inj ei1
  obtain ⟨i2, ei2⟩ := is_v g6
  obtain rfl : w2 = (.int i2) := Option.some.inj ei2
  obtain ⟨n, o, h1, h2, h3, _, L, rfl, ⟨rfl, N, -⟩, hq⟩ := rm0 l s _ hw tables_1 i0 i1 i2 s.heap s.heap.size (Nat.le_refl _) p e ha hc hk s m _ below hf ((Spec.applies_iff_loose hf).mp happ).1 ⟨rfl, State.Warmed39.refl s, rfl⟩ trivial
  rw [own_law i0 i1 i2] at *
  refine ⟨n, _, h1, h2, h3, hpost _ _ _ _ _ _ ⟨Cond.after_iff.mpr rfl, Cond.after_iff.mpr (eq_i res_at (Term.int_eval (1)) rfl), trivial⟩ ⟨hq.1, hq.2.1, (hq.2.2.sift fun y hy => Or.inr (N y hy)).mono (by decide) (by decide)⟩⟩
theorem main_1_1 : Claimed_1_1 := comes_1 fun _ _ _ _ _ _ h hF => ⟨h.1, hF⟩
theorem main_1_2 : Claimed_1_2 := comes_1 fun _ _ _ _ _ _ h hF => ⟨h.2.1, hF⟩
end Jvm.Pilot.@@N@@
namespace Jvm.Pilot.@@N@@
open Jvm Jvm.ClassFile Sem Op Lib Jvm.Free Jvm.Stand Jvm.Pilot.@@N@@.Jvm.D
/-! MADE BY PROGRAM (witnessworld.py) out of the Statement's table words and the real class files: 10 classes; the members and pool entries that the words name. The judged class is class 1, her method 1. -/
namespace start1
open Jvm.ClassFile
def u (s : String) : CpInfo := .utf8 (stringToUtf16 s)
/-- a pool by its gaps: so many unusable entries, then the entry; so many at the end -/
def gap : Nat → List CpInfo → List CpInfo
  | 0, r => r
  | n + 1, r => .unusable :: gap n r
def poolList (es : List (Nat × CpInfo)) (last : Nat) : List CpInfo := es.foldr (fun e r => gap e.1 (e.2 :: r)) (gap last [])
def pool (es : List (Nat × CpInfo)) (last : Nat) : Array CpInfo := ⟨poolList es last⟩
def fileOf (pool : Array CpInfo) (this : Nat) (attrs : Array Attribute := #[]) (ms : Array MethodInfo := #[]) (fl : Nat := 33) (sup : Nat := 0) (ifs : Array Nat := #[]) (fds : Array FieldInfo := #[]) : ClassFile where
  minorVersion := 0
  majorVersion := 65
  constantPool := pool
  accessFlags := fl
  thisClass := this
  superClass := sup
  interfaces := ifs
  fields := fds
  methods := ms
  attributes := attrs
def plain (name : String) (sup : Option ClassId) : Class where
  name := name
  kind := .ordinary
  loader := none
  accessFlags := 33
  super := sup
  interfaces := #[]
  cf := none
  fields := #[]
  methods := #[]
  instanceTypes := #[]
  staticTypes := #[]
  resolved := #[]
  callSites := []
  init := .initialized
  statics := none
  mirror := none

def pool0 : Array CpInfo := pool [(5, u "<init>"), (0, u "()V"), (1, .class_ 10), (1, u "java/lang/Object")] 113

def k0m0 : Method := { name := "<init>", desc := "()V", sig := { parameters := [], returnType := none }, accessFlags := 1, code := none }
/-- java/lang/Object -/
def k0 : Class := { plain "java/lang/Object" none with
  accessFlags := 33
  interfaces := #[]
  cf := some (fileOf pool0 8 #[] #[{ accessFlags := 1, nameIndex := 5, descriptorIndex := 6, attributes := #[] }] 33 0 #[] #[])
  fields := #[]
  methods := #[k0m0]
  instanceTypes := #[]
  staticTypes := #[]
  resolved := Array.replicate 124 none
  statics := none }

def pool1 : Array CpInfo := pool [(2, .class_ 4), (1, u "java/lang/Object"), (0, u "<init>"), (0, u "()V"), (0, .integer 2147483647), (0, .methodref 9 10), (0, .class_ 11), (0, .nameAndType 12 13), (0, u "java/lang/Math"), (0, u "min"), (0, u "(II)I"), (0, .methodref 9 15), (0, .nameAndType 16 13), (0, u "max"), (0, .methodref 18 19), (0, .class_ 20), (0, .nameAndType 21 22), (0, u "com/example/bowerbird/bowerbird/keys/KeyType"), (0, u "invert"), (0, u "([BII)V"), (0, .methodref 24 25), (0, .class_ 26), (0, .nameAndType 27 28), (0, u "com/example/bowerbird/bowerbird/keys/KeyTypeInvertPinLaw"), (0, u "check"), (0, u "([BIIII)Z"), (2, u "law"), (0, u "(III)Z")] 5

def k1m0 : Method := { name := "<init>", desc := "()V", sig := { parameters := [], returnType := none }, accessFlags := 2, code := none }
def k1c1 : Code := { maxStack := 5, maxLocals := 8, code := code, exceptionTable := #[], attributes := #[] }
def k1m1 : Method := { name := "law", desc := "(III)Z", sig := { parameters := [.int, .int, .int], returnType := some .boolean }, accessFlags := 9, code := some k1c1 }
def k1c2 : Code := { maxStack := 3, maxLocals := 7, code := method_3_code, exceptionTable := #[], attributes := #[] }
def k1m2 : Method := { name := "check", desc := "([BIIII)Z", sig := { parameters := [(.array .byte), .int, .int, .int, .int], returnType := some .boolean }, accessFlags := 10, code := some k1c2 }
/-- com/example/bowerbird/bowerbird/keys/KeyTypeInvertPinLaw -/
def k1 : Class := { plain "com/example/bowerbird/bowerbird/keys/KeyTypeInvertPinLaw" (some 0) with
  accessFlags := 49
  interfaces := #[]
  cf := some (fileOf pool1 24 #[] #[{ accessFlags := 2, nameIndex := 5, descriptorIndex := 6, attributes := #[] }, { accessFlags := 9, nameIndex := 31, descriptorIndex := 32, attributes := #[] }, { accessFlags := 10, nameIndex := 27, descriptorIndex := 28, attributes := #[] }] 49 2 #[] #[])
  fields := #[]
  methods := #[k1m0, k1m1, k1m2]
  instanceTypes := #[]
  staticTypes := #[]
  resolved := Array.replicate 38 none
  statics := none }

def pool2 : Array CpInfo := pool [(1, .class_ 2), (0, u "java/lang/Math"), (1, .class_ 6), (1, u "java/lang/Object"), (0, u "<init>"), (0, u "()V"), (89, .class_ 100), (1, u "java/lang/Math$RandomNumberGeneratorHolder"), (71, u "negativeZeroFloatBits"), (0, u "J"), (2, u "negativeZeroDoubleBits"), (21, u "max"), (2, u "min"), (43, u "$assertionsDisabled"), (0, u "Z"), (88, u "(II)I"), (2, u "twoToTheDoubleScaleDown"), (0, u "D"), (4, u "twoToTheDoubleScaleUp"), (9, u "E"), (3, u "PI"), (2, u "TAU"), (2, u "DEGREES_TO_RADIANS"), (0, u "RADIANS_TO_DEGREES")] 94

def k2m0 : Method := { name := "<init>", desc := "()V", sig := { parameters := [], returnType := none }, accessFlags := 2, code := none }
def k2c1 : Code := { maxStack := 2, maxLocals := 2, code := jdk_29_method_65_code, exceptionTable := #[], attributes := #[] }
def k2m1 : Method := { name := "max", desc := "(II)I", sig := { parameters := [.int, .int], returnType := some .int }, accessFlags := 9, code := some k2c1 }
def k2c2 : Code := { maxStack := 2, maxLocals := 2, code := jdk_29_method_69_code, exceptionTable := #[], attributes := #[] }
def k2m2 : Method := { name := "min", desc := "(II)I", sig := { parameters := [.int, .int], returnType := some .int }, accessFlags := 9, code := some k2c2 }
/-- java/lang/Math -/
def k2 : Class := { plain "java/lang/Math" (some 0) with
  accessFlags := 49
  interfaces := #[]
  cf := some (fileOf pool2 1 #[.nestMembers #[98]] #[{ accessFlags := 2, nameIndex := 7, descriptorIndex := 8, attributes := #[] }, { accessFlags := 9, nameIndex := 198, descriptorIndex := 335, attributes := #[] }, { accessFlags := 9, nameIndex := 201, descriptorIndex := 335, attributes := #[] }] 49 4 #[] #[{ accessFlags := 25, nameIndex := 354, descriptorIndex := 339, attributes := #[] }, { accessFlags := 25, nameIndex := 358, descriptorIndex := 339, attributes := #[] }, { accessFlags := 25, nameIndex := 361, descriptorIndex := 339, attributes := #[] }, { accessFlags := 26, nameIndex := 364, descriptorIndex := 339, attributes := #[] }, { accessFlags := 26, nameIndex := 365, descriptorIndex := 339, attributes := #[] }, { accessFlags := 26, nameIndex := 172, descriptorIndex := 173, attributes := #[] }, { accessFlags := 26, nameIndex := 176, descriptorIndex := 173, attributes := #[] }, { accessFlags := 8, nameIndex := 344, descriptorIndex := 339, attributes := #[] }, { accessFlags := 8, nameIndex := 338, descriptorIndex := 339, attributes := #[] }, { accessFlags := 4120, nameIndex := 245, descriptorIndex := 246, attributes := #[] }])
  fields := #[{ name := "E", type := .double, accessFlags := 25, slot := 0, constantValue := 0 }, { name := "PI", type := .double, accessFlags := 25, slot := 1, constantValue := 0 }, { name := "TAU", type := .double, accessFlags := 25, slot := 2, constantValue := 0 }, { name := "DEGREES_TO_RADIANS", type := .double, accessFlags := 26, slot := 3, constantValue := 0 }, { name := "RADIANS_TO_DEGREES", type := .double, accessFlags := 26, slot := 4, constantValue := 0 }, { name := "negativeZeroFloatBits", type := .long, accessFlags := 26, slot := 5, constantValue := 0 }, { name := "negativeZeroDoubleBits", type := .long, accessFlags := 26, slot := 6, constantValue := 0 }, { name := "twoToTheDoubleScaleUp", type := .double, accessFlags := 8, slot := 7, constantValue := 0 }, { name := "twoToTheDoubleScaleDown", type := .double, accessFlags := 8, slot := 8, constantValue := 0 }, { name := "$assertionsDisabled", type := .boolean, accessFlags := 4120, slot := 9, constantValue := 0 }]
  methods := #[k2m0, k2m1, k2m2]
  instanceTypes := #[]
  staticTypes := #[.double, .double, .double, .double, .double, .long, .long, .double, .double, .boolean]
  resolved := Array.replicate 460 none
  statics := none }

def pool3 : Array CpInfo := pool [(2, .class_ 4), (1, u "java/lang/Object"), (0, u "<init>"), (0, u "()V"), (42, .class_ 50), (0, u "com/example/bowerbird/bowerbird/keys/KeyType"), (29, u "invert"), (0, u "([BII)V")] 4

def k3m0 : Method := { name := "<init>", desc := "()V", sig := { parameters := [], returnType := none }, accessFlags := 0, code := none }
def k3c1 : Code := { maxStack := 4, maxLocals := 4, code := prog_18_method_13_code, exceptionTable := #[], attributes := #[] }
def k3m1 : Method := { name := "invert", desc := "([BII)V", sig := { parameters := [(.array .byte), .int, .int], returnType := none }, accessFlags := 8, code := some k3c1 }
/-- com/example/bowerbird/bowerbird/keys/KeyType -/
def k3 : Class := { plain "com/example/bowerbird/bowerbird/keys/KeyType" (some 0) with
  accessFlags := 1057
  interfaces := #[]
  cf := some (fileOf pool3 49 #[] #[{ accessFlags := 0, nameIndex := 5, descriptorIndex := 6, attributes := #[] }, { accessFlags := 8, nameIndex := 80, descriptorIndex := 81, attributes := #[] }] 1057 2 #[] #[])
  fields := #[]
  methods := #[k3m0, k3m1]
  instanceTypes := #[]
  staticTypes := #[]
  resolved := Array.replicate 86 none
  statics := none }

def pool4 : Array CpInfo := pool [(1, u "java/lang/Cloneable"), (0, .class_ 1), (0, u "java/lang/Object"), (0, .class_ 3)] 3

/-- java/lang/Cloneable -/
def k4 : Class := { plain "java/lang/Cloneable" (some 0) with
  accessFlags := 1537
  interfaces := #[]
  cf := some (fileOf pool4 2 #[] #[] 1537 4 #[] #[])
  fields := #[]
  methods := #[]
  instanceTypes := #[]
  staticTypes := #[]
  resolved := Array.replicate 8 none
  statics := none }

def pool5 : Array CpInfo := pool [(1, u "java/io/Serializable"), (0, .class_ 1), (0, u "java/lang/Object"), (0, .class_ 3)] 3

/-- java/io/Serializable -/
def k5 : Class := { plain "java/io/Serializable" (some 0) with
  accessFlags := 1537
  interfaces := #[]
  cf := some (fileOf pool5 2 #[] #[] 1537 4 #[] #[])
  fields := #[]
  methods := #[]
  instanceTypes := #[]
  staticTypes := #[]
  resolved := Array.replicate 8 none
  statics := none }

/-- the primitive byte -/
def k6 : Class := { plain "byte" none with kind := .primitive 'B', accessFlags := 0x411 }
/-- [B -/
def k7 : Class := { plain "[B" (some 0) with kind := .array 6 .byte, interfaces := #[4, 5], accessFlags := 1041 }

/-- the primitive int -/
def k8 : Class := { plain "int" none with kind := .primitive 'I', accessFlags := 0x411 }
/-- [I -/
def k9 : Class := { plain "[I" (some 0) with kind := .array 8 .int, interfaces := #[4, 5], accessFlags := 1041 }

def heap : Heap := #[]
def classes : Array Class := #[k0, k1, k2, k3, k4, k5, k6, k7, k8, k9]
def interned : List (Array UInt16 × Addr) := []
def slotsUsed : Nat := 0
def theMethod : MethodId := ⟨1, 1⟩
def args0 : Array Value := #[.int 5, .int 7, .int 3]
def aboutOver (below : List Frame) : State where
  vm := { classes := classes, interned := interned.toArray }
  heap := heap
  slotsUsed := slotsUsed
  threads := #[{ frames := .invoking theMethod args0 :: below }]
def below0 : List Frame := [.native { method := ⟨0, 0⟩, args := #[] }]
def about1 : State := aboutOver below0
def p0 : Program := .bare "" "" ""
def e0 : Env := launch0.env 0 0 0
theorem w_frames : about1.frames = Frame.invoking theMethod args0 :: below0 := rfl
set_option maxRecDepth 65536 in
theorem w_args : argsFit about1.vm theMethod args0 = true := by decide +kernel
set_option maxRecDepth 65536 in
theorem w_heap : heapFits about1 = true := by decide +kernel
set_option maxRecDepth 65536 in
theorem w_runnable : about1.curStatus? = some .runnable := by decide +kernel
set_option maxRecDepth 65536 in
theorem w_alone : about1.alone = true := by decide +kernel
set_option maxRecDepth 65536 in
theorem w_named : about1.methodNamed? x = some theMethod := by decide +kernel
set_option maxRecDepth 65536 in
theorem w_hears : about1.hears theMethod below0 = true := by decide +kernel
set_option maxRecDepth 65536 in
theorem w_ripe : about1.ripe theMethod args0 below0 = true := by decide +kernel
theorem w_running : about1.status = .running := rfl
set_option maxRecDepth 65536 in
theorem w_room : about1.hasRoom e0.platform room_1 = true :=
  launch0.hasRoom_least _ room_1 (by decide +kernel) (by decide +kernel) (by decide +kernel) (by decide +kernel) (by decide +kernel) (by decide +kernel)
theorem allAtoms_all (ts : List Jvm.Cond) (a : Array Jvm.Value) (st : Jvm.State) : (allAtoms ts).before a st = ts.all (fun c => c.before a st) := by
  induction ts with
  | nil => rfl
  | cons c t ih =>
    show (Jvm.Cond.and c (allAtoms t)).before a st = _
    rw [Jvm.Cond.before_and, ih, List.all_cons]
def words1 : List Jvm.Cond := Jvm.Cond.code x code maxLocals ret :: tables_1
/-- a 'code' word, met by the world's own term for the bytes: nothing is compared byte by byte -/
theorem code_word {y : MethodName} {bytes : ByteArray} {mx : Nat} {rt : Option FieldType} {a : Array Value} {s : State} {m : MethodId} {meth : Method} {c : Code} (h1 : s.methodNamed? y = some m) (h2 : s.vm.method? m = some meth) (h3 : meth.code = some c) (h4 : c.code = bytes)
    (h5 : (c.maxLocals == mx && c.exceptionTable.isEmpty && decide (c.maxStack ≤ mostOperands) && decide (meth.sig.returnType = rt) && !meth.locks && decide (parseMethodDescriptor y.desc = some meth.sig)) = true) : (Jvm.Cond.code y bytes mx rt).before a s = true := by
  simp only [Bool.and_eq_true, beq_iff_eq, Bool.not_eq_true', decide_eq_true_eq] at h5
  obtain ⟨⟨⟨⟨⟨g1, g2⟩, g3⟩, g4⟩, g5⟩, g6⟩ := h5
  simp [Cond.before, Cond.holds, Cond.value, h1, h2, h3, h4, g1, g2, g3, g4, g5, g6]
def isCode : Jvm.Cond → Bool
  | .code _ _ _ _ => true
  | _ => false
theorem all_split {L : List Jvm.Cond} {P : Jvm.Cond → Bool} (h1 : L.all (fun c => isCode c || P c) = true) (h2 : ∀ c ∈ L.filter isCode, P c = true) : L.all P = true := by
  refine List.all_eq_true.mpr fun c hc => ?_
  have h := List.all_eq_true.mp h1 c hc
  rcases Bool.eq_false_or_eq_true (isCode c) with hi | hi
  · exact h2 c (List.mem_filter.mpr ⟨hc, hi⟩)
  · simpa [hi] using h
set_option maxRecDepth 65536 in
theorem w_c0 : (Jvm.Cond.code x code maxLocals ret).before args0 about1 = true := code_word (m := ⟨1, 1⟩) (meth := k1m1) (c := k1c1) (by decide +kernel) rfl rfl rfl (by decide +kernel)
set_option maxRecDepth 65536 in
theorem w_c1 : (Jvm.Cond.code ({ cls := "java/lang/Math", name := "min", desc := "(II)I" } : Jvm.MethodName) jdk_29_method_69_code (2 : Nat) (Option.some Jvm.ClassFile.FieldType.int)).before args0 about1 = true := code_word (m := ⟨2, 2⟩) (meth := k2m2) (c := k2c2) (by decide +kernel) rfl rfl rfl (by decide +kernel)
set_option maxRecDepth 65536 in
theorem w_c2 : (Jvm.Cond.code ({ cls := "java/lang/Math", name := "max", desc := "(II)I" } : Jvm.MethodName) jdk_29_method_65_code (2 : Nat) (Option.some Jvm.ClassFile.FieldType.int)).before args0 about1 = true := code_word (m := ⟨2, 1⟩) (meth := k2m1) (c := k2c1) (by decide +kernel) rfl rfl rfl (by decide +kernel)
set_option maxRecDepth 65536 in
theorem w_c3 : (Jvm.Cond.code ({ cls := "com/example/bowerbird/bowerbird/keys/KeyType", name := "invert", desc := "([BII)V" } : Jvm.MethodName) prog_18_method_13_code (4 : Nat) (Option.none : Option Jvm.ClassFile.FieldType)).before args0 about1 = true := code_word (m := ⟨3, 1⟩) (meth := k3m1) (c := k3c1) (by decide +kernel) rfl rfl rfl (by decide +kernel)
set_option maxRecDepth 65536 in
theorem w_c4 : (Jvm.Cond.code ({ cls := "com/example/bowerbird/bowerbird/keys/KeyTypeInvertPinLaw", name := "check", desc := "([BIIII)Z" } : Jvm.MethodName) method_3_code (7 : Nat) (Option.some Jvm.ClassFile.FieldType.boolean)).before args0 about1 = true := code_word (m := ⟨1, 2⟩) (meth := k1m2) (c := k1c2) (by decide +kernel) rfl rfl rfl (by decide +kernel)
def codes1 : List Jvm.Cond := [Jvm.Cond.code x code maxLocals ret, Jvm.Cond.code ({ cls := "java/lang/Math", name := "min", desc := "(II)I" } : Jvm.MethodName) jdk_29_method_69_code (2 : Nat) (Option.some Jvm.ClassFile.FieldType.int), Jvm.Cond.code ({ cls := "java/lang/Math", name := "max", desc := "(II)I" } : Jvm.MethodName) jdk_29_method_65_code (2 : Nat) (Option.some Jvm.ClassFile.FieldType.int), Jvm.Cond.code ({ cls := "com/example/bowerbird/bowerbird/keys/KeyType", name := "invert", desc := "([BII)V" } : Jvm.MethodName) prog_18_method_13_code (4 : Nat) (Option.none : Option Jvm.ClassFile.FieldType), Jvm.Cond.code ({ cls := "com/example/bowerbird/bowerbird/keys/KeyTypeInvertPinLaw", name := "check", desc := "([BIIII)Z" } : Jvm.MethodName) method_3_code (7 : Nat) (Option.some Jvm.ClassFile.FieldType.boolean)]
set_option maxRecDepth 65536 in
theorem codes_eq : words1.filter isCode = codes1 := rfl
theorem w_codes : ∀ c ∈ words1.filter isCode, c.before args0 about1 = true := by
  rw [codes_eq]
  intro c hc
  simp only [codes1, List.mem_cons, List.not_mem_nil, or_false] at hc
  rcases hc with rfl | rfl | rfl | rfl | rfl
  · exact w_c0
  · exact w_c1
  · exact w_c2
  · exact w_c3
  · exact w_c4
set_option maxRecDepth 65536 in
theorem w_t1 : words1.all (fun c => isCode c || c.before args0 about1) = true := by decide +kernel
theorem w_tables : (allAtoms (Jvm.Cond.code x code maxLocals ret :: tables_1)).before args0 about1 = true := by
  rw [allAtoms_all]
  show words1.all (fun c => c.before args0 about1) = true
  refine all_split ?_ w_codes
  rw [w_t1]
set_option maxRecDepth 65536 in
theorem w_case : (Jvm.Cond.and given_1 narrow_1).before args0 about1 = true := by decide +kernel
theorem w_applies : (headSpec (Jvm.Cond.code x code maxLocals ret :: tables_1) room_1).applies x e0.platform about1 = true :=
  (Spec.applies_iff w_frames).mpr ⟨w_running, w_runnable, w_alone, w_named, w_hears, w_ripe, w_room, w_tables⟩
theorem atStart : AtStart classFile x code maxLocals ret World_1 tables_1 room_1 Calls_1 rest_1 Pre_1 launch0 p0 e0 about1 theMethod args0 below0 :=
  ⟨lists_1, trivial, launch0.admits_env _ _ _, launch0.least_env, fairChoices_fair.cas, fairChoices_fair.clock, w_frames, w_args, w_heap, w_applies, trivial, trivial, w_case⟩
end start1
theorem witness_1 : WitnessClaimed_1 := ⟨start1.p0, start1.e0, start1.about1, start1.theMethod, start1.args0, start1.below0, start1.atStart⟩
end Jvm.Pilot.@@N@@
