import JvmDerived
import JvmDerived.Pilot.@@N@@Statement
import JvmDerived.Pilot.@@N@@Code
set_option linter.unusedVariables false
set_option linter.unusedSimpArgs false
namespace Jvm.RoadKit
open Sem ClassFile Op Lib Jvm.Stand Jvm.Free Jvm.LawKit
section New
variable {p : Program} {l : Launch} {e : Env} {R : Room} {s : State} {m : MethodId} {args : Array Value} {below : List Frame} {meth : Method} {c : Code} {T : State} {locs : List Loc} {cells slots : Nat}
theorem retI (X : Stand p l e R s m args below meth c T locs cells slots) (hx : p.tables.exec = Jvm.exec) {pc : Nat} {Ls : Array Slot} {z : Int32} {rest : List Value} (hret : meth.sig.returnType = some .int) (hd : decode c.code pc = .ok (.ireturn, 1)) {fs : List Frame}
    (hl : ∀ (f : JFrame) (acts : List Action), f.method = m → f.locked = none → f.entered = [] → (doReturn e (T.setTop f) acts (some (.int z))).1 = T.setFrames fs) : Steps p.tables e below (T.setTop (mkF m pc Ls (.int z :: rest))) (T.setFrames fs) := by
  have hm' : T.vm.method? m = some meth := X.method'
  have hn : narrow .int (.int z) = .int z := rfl
  show Steps p.tables e below (T.setTop { method := m, pc := pc, locals := Ls, stack := _ :: rest, locked := none }) _
  jvm_step X.here [X.here.top, hx, hd, hm', hret, hn]
  first | (intro acts; rw [hl _ acts rfl rfl rfl]) | rw [hl _ _ rfl rfl rfl]
  exact Steps.refl _
theorem retA (X : Stand p l e R s m args below meth c T locs cells slots) (hx : p.tables.exec = Jvm.exec) {pc : Nat} {Ls : Array Slot} {v : Value} {t : FieldType} (ht : t.isReference = true) (hv : v.isRef = true) (hret : meth.sig.returnType = some t) (hd : decode c.code pc = .ok (.areturn, 1)) {fs : List Frame}
    (hl : ∀ (f : JFrame) (acts : List Action), f.method = m → f.locked = none → f.entered = [] → (doReturn e (T.setTop f) acts (some v)).1 = T.setFrames fs) : Steps p.tables e below (T.setTop (mkF m pc Ls [v])) (T.setFrames fs) := by
  have hm' : T.vm.method? m = some meth := X.method'
  show Steps p.tables e below (T.setTop { method := m, pc := pc, locals := Ls, stack := [v], locked := none }) _
  jvm_step X.here [X.here.top, hx, hd, hm', hret, hv, ht]
  first | (intro acts; rw [hl _ acts rfl rfl rfl]) | rw [hl _ _ rfl rfl rfl]
  exact Steps.refl _
end New
end Jvm.RoadKit
namespace Jvm.Pilot.@@N@@
open Jvm Jvm.ClassFile Sem Op Lib Jvm.Free Jvm.Stand Jvm.LawKit Jvm.RoadKit Bundle Jvm.Pilot.@@N@@.Jvm.D
/-- from A the invocation comes to its end: it returns some v, P holds of v, of the heap and of the places written, and the frame is kept -/
def Rt (p : Program) (e : Env) (below : List Frame) (s : State) (k n : Nat) (P : Option Value → Heap → List Loc → Prop) (A : State) : Prop :=
  ∃ s₂ o, Steps p.tables e below A s₂ ∧ s₂.status = .running ∧ Ended s₂ below o ∧ ∃ v L, o = .returned v ∧ P v s₂.heap L ∧ FrameEnd s o s₂ L k n
/-- where the walk stands: its heap, and that all it wrote lies at n0 or above -/
def Sd (p : Program) (l : Launch) (e : Env) (R : Room) (s : State) (m : MethodId) (args : Array Value) (below : List Frame) (meth : Method) (c : Code) (T : State) (n0 cells slots : Nat) (h : Heap) : Prop :=
  ∃ locs, Stand p l e R s m args below meth c T locs cells slots ∧ Fr n0 locs ∧ T.heap = h
def lcv (j : Fin 2) : Int64 := Int64.ofNat j.val
section Own
variable {p : Program} {l : Launch} {e : Env} {R : Room} {s : State} {m : MethodId} {args : Array Value} {below : List Frame} {meth : Method} {c : Code} {T : State} {n0 cells slots : Nat} {h0 : Heap} {k n : Nat} {P : Option Value → Heap → List Loc → Prop}
theorem Rt.go {A B : State} (f : ∀ t, Steps p.tables e below B t → Steps p.tables e below A t) (h : Rt p e below s k n P B) : Rt p e below s k n P A := by
  obtain ⟨s₂, o, h1, h2⟩ := h
  exact ⟨s₂, o, f _ h1, h2⟩
theorem Rt.mono {Q : Option Value → Heap → List Loc → Prop} {A : State} (h : Rt p e below s k n Q A) (q : ∀ v h L, Q v h L → P v h L) : Rt p e below s k n P A := by
  obtain ⟨s₂, o, h1, h2, h3, v, L, h4, h5, h6⟩ := h
  exact ⟨s₂, o, h1, h2, h3, v, L, h4, q _ _ _ h5, h6⟩
theorem Rt.iloadN (X : Sd p l e R s m args below meth c T n0 cells slots h0) (hx : p.tables.exec = Jvm.exec) {pc pc' : Nat} {Ls : Array Slot} {S : List Value} {j : Fin 4} {v : Int32} (hd : decode c.code pc = .ok (.iload_n j, 1)) (hl : Ls[j.val]? = some (.val (.int v))) (hp : pc + 1 = pc')
    (h : Rt p e below s k n P (T.setTop (mkF m pc' Ls (.int v :: S)))) : Rt p e below s k n P (T.setTop (mkF m pc Ls (S))) := by
  subst hp; obtain ⟨_, X, _, _⟩ := X; exact Rt.go (fun _ => XS.iloadN X.here hx rfl hd hl) h
theorem Rt.iload (X : Sd p l e R s m args below meth c T n0 cells slots h0) (hx : p.tables.exec = Jvm.exec) {pc pc' : Nat} {Ls : Array Slot} {S : List Value} {j : Nat} {v : Int32} (hd : decode c.code pc = .ok (.iload j, 2)) (hl : Ls[j]? = some (.val (.int v))) (hp : pc + 2 = pc')
    (h : Rt p e below s k n P (T.setTop (mkF m pc' Ls (.int v :: S)))) : Rt p e below s k n P (T.setTop (mkF m pc Ls (S))) := by
  subst hp; obtain ⟨_, X, _, _⟩ := X; exact Rt.go (fun _ => XS.iload X.here hx rfl hd hl) h
theorem Rt.istoreN (X : Sd p l e R s m args below meth c T n0 cells slots h0) (hx : p.tables.exec = Jvm.exec) {pc pc' : Nat} {Ls : Array Slot} {S : List Value} {j : Fin 4} {v : Int32} {l' : Array Slot} (hd : decode c.code pc = .ok (.istore_n j, 1)) (hl : storeLocals Ls j.val (.int v) = some l') (hp : pc + 1 = pc')
    (h : Rt p e below s k n P (T.setTop (mkF m pc' l' (S)))) : Rt p e below s k n P (T.setTop (mkF m pc Ls (.int v :: S))) := by
  subst hp; obtain ⟨_, X, _, _⟩ := X; exact Rt.go (fun _ => XS.istoreN X.here hx rfl hd rfl hl) h
theorem Rt.istore (X : Sd p l e R s m args below meth c T n0 cells slots h0) (hx : p.tables.exec = Jvm.exec) {pc pc' : Nat} {Ls : Array Slot} {S : List Value} {j : Nat} {v : Int32} {l' : Array Slot} (hd : decode c.code pc = .ok (.istore j, 2)) (hl : storeLocals Ls j (.int v) = some l') (hp : pc + 2 = pc')
    (h : Rt p e below s k n P (T.setTop (mkF m pc' l' (S)))) : Rt p e below s k n P (T.setTop (mkF m pc Ls (.int v :: S))) := by
  subst hp; obtain ⟨_, X, _, _⟩ := X; exact Rt.go (fun _ => XS.istore X.here hx rfl hd rfl hl) h
theorem Rt.lloadN (X : Sd p l e R s m args below meth c T n0 cells slots h0) (hx : p.tables.exec = Jvm.exec) {pc pc' : Nat} {Ls : Array Slot} {S : List Value} {j : Fin 4} {v : Int64} (hd : decode c.code pc = .ok (.lload_n j, 1)) (hl : Ls[j.val]? = some (.val (.long v))) (hp : pc + 1 = pc')
    (h : Rt p e below s k n P (T.setTop (mkF m pc' Ls (.long v :: S)))) : Rt p e below s k n P (T.setTop (mkF m pc Ls (S))) := by
  subst hp; obtain ⟨_, X, _, _⟩ := X; exact Rt.go (fun _ => XS.lloadN X.here hx rfl hd hl) h
theorem Rt.lload (X : Sd p l e R s m args below meth c T n0 cells slots h0) (hx : p.tables.exec = Jvm.exec) {pc pc' : Nat} {Ls : Array Slot} {S : List Value} {j : Nat} {v : Int64} (hd : decode c.code pc = .ok (.lload j, 2)) (hl : Ls[j]? = some (.val (.long v))) (hp : pc + 2 = pc')
    (h : Rt p e below s k n P (T.setTop (mkF m pc' Ls (.long v :: S)))) : Rt p e below s k n P (T.setTop (mkF m pc Ls (S))) := by
  subst hp; obtain ⟨_, X, _, _⟩ := X; exact Rt.go (fun _ => XS.lload X.here hx rfl hd hl) h
theorem Rt.lstoreN (X : Sd p l e R s m args below meth c T n0 cells slots h0) (hx : p.tables.exec = Jvm.exec) {pc pc' : Nat} {Ls : Array Slot} {S : List Value} {j : Fin 4} {v : Int64} {l' : Array Slot} (hd : decode c.code pc = .ok (.lstore_n j, 1)) (hl : storeLocals Ls j.val (.long v) = some l') (hp : pc + 1 = pc')
    (h : Rt p e below s k n P (T.setTop (mkF m pc' l' (S)))) : Rt p e below s k n P (T.setTop (mkF m pc Ls (.long v :: S))) := by
  subst hp; obtain ⟨_, X, _, _⟩ := X; exact Rt.go (fun _ => XS.lstoreN X.here hx rfl hd rfl hl) h
theorem Rt.lstore (X : Sd p l e R s m args below meth c T n0 cells slots h0) (hx : p.tables.exec = Jvm.exec) {pc pc' : Nat} {Ls : Array Slot} {S : List Value} {j : Nat} {v : Int64} {l' : Array Slot} (hd : decode c.code pc = .ok (.lstore j, 2)) (hl : storeLocals Ls j (.long v) = some l') (hp : pc + 2 = pc')
    (h : Rt p e below s k n P (T.setTop (mkF m pc' l' (S)))) : Rt p e below s k n P (T.setTop (mkF m pc Ls (.long v :: S))) := by
  subst hp; obtain ⟨_, X, _, _⟩ := X; exact Rt.go (fun _ => XS.lstore X.here hx rfl hd rfl hl) h
theorem Rt.aloadN (X : Sd p l e R s m args below meth c T n0 cells slots h0) (hx : p.tables.exec = Jvm.exec) {pc pc' : Nat} {Ls : Array Slot} {S : List Value} {j : Fin 4} {v : Value} (hd : decode c.code pc = .ok (.aload_n j, 1)) (hl : Ls[j.val]? = some (.val v)) (hv : v.isRef = true) (hp : pc + 1 = pc')
    (h : Rt p e below s k n P (T.setTop (mkF m pc' Ls (v :: S)))) : Rt p e below s k n P (T.setTop (mkF m pc Ls (S))) := by
  subst hp; obtain ⟨_, X, _, _⟩ := X; exact Rt.go (fun _ => XS.aloadN X.here hx rfl hd hl hv) h
theorem Rt.aload (X : Sd p l e R s m args below meth c T n0 cells slots h0) (hx : p.tables.exec = Jvm.exec) {pc pc' : Nat} {Ls : Array Slot} {S : List Value} {j : Nat} {v : Value} (hd : decode c.code pc = .ok (.aload j, 2)) (hl : Ls[j]? = some (.val v)) (hv : v.isRef = true) (hp : pc + 2 = pc')
    (h : Rt p e below s k n P (T.setTop (mkF m pc' Ls (v :: S)))) : Rt p e below s k n P (T.setTop (mkF m pc Ls (S))) := by
  subst hp; obtain ⟨_, X, _, _⟩ := X; exact Rt.go (fun _ => XS.aload X.here hx rfl hd hl hv) h
theorem Rt.astoreN (X : Sd p l e R s m args below meth c T n0 cells slots h0) (hx : p.tables.exec = Jvm.exec) {pc pc' : Nat} {Ls : Array Slot} {S : List Value} {j : Fin 4} {v : Value} {l' : Array Slot} (hd : decode c.code pc = .ok (.astore_n j, 1)) (hv : v.isRef = true) (hl : storeLocals Ls j.val v = some l') (hp : pc + 1 = pc')
    (h : Rt p e below s k n P (T.setTop (mkF m pc' l' (S)))) : Rt p e below s k n P (T.setTop (mkF m pc Ls (v :: S))) := by
  subst hp; obtain ⟨_, X, _, _⟩ := X; exact Rt.go (fun _ => XS.astoreN X.here hx rfl hd rfl hv hl) h
theorem Rt.astore (X : Sd p l e R s m args below meth c T n0 cells slots h0) (hx : p.tables.exec = Jvm.exec) {pc pc' : Nat} {Ls : Array Slot} {S : List Value} {j : Nat} {v : Value} {l' : Array Slot} (hd : decode c.code pc = .ok (.astore j, 2)) (hv : v.isRef = true) (hl : storeLocals Ls j v = some l') (hp : pc + 2 = pc')
    (h : Rt p e below s k n P (T.setTop (mkF m pc' l' (S)))) : Rt p e below s k n P (T.setTop (mkF m pc Ls (v :: S))) := by
  subst hp; obtain ⟨_, X, _, _⟩ := X; exact Rt.go (fun _ => XS.astore X.here hx rfl hd rfl hv hl) h
theorem Rt.iconst (X : Sd p l e R s m args below meth c T n0 cells slots h0) (hx : p.tables.exec = Jvm.exec) {pc pc' : Nat} {Ls : Array Slot} {S : List Value} {i : Int} {v : Int32} (hd : decode c.code pc = .ok (.iconst i, 1)) (hv : Int32.ofInt i = v) (hp : pc + 1 = pc')
    (h : Rt p e below s k n P (T.setTop (mkF m pc' Ls (.int v :: S)))) : Rt p e below s k n P (T.setTop (mkF m pc Ls S)) := by
  subst hp hv; obtain ⟨_, X, _, _⟩ := X; exact Rt.go (fun _ => XS.iconst X.here hx rfl hd) h
theorem Rt.bipush (X : Sd p l e R s m args below meth c T n0 cells slots h0) (hx : p.tables.exec = Jvm.exec) {pc pc' : Nat} {Ls : Array Slot} {S : List Value} {i : Int} {v : Int32} (hd : decode c.code pc = .ok (.bipush i, 2)) (hv : (Int8.ofInt i).toInt32 = v) (hp : pc + 2 = pc')
    (h : Rt p e below s k n P (T.setTop (mkF m pc' Ls (.int v :: S)))) : Rt p e below s k n P (T.setTop (mkF m pc Ls S)) := by
  subst hp hv; obtain ⟨_, X, _, _⟩ := X; exact Rt.go (fun _ => XS.bipush X.here hx rfl hd) h
theorem Rt.sipush (X : Sd p l e R s m args below meth c T n0 cells slots h0) (hx : p.tables.exec = Jvm.exec) {pc pc' : Nat} {Ls : Array Slot} {S : List Value} {i : Int} {v : Int32} (hd : decode c.code pc = .ok (.sipush i, 3)) (hv : (Int16.ofInt i).toInt32 = v) (hp : pc + 3 = pc')
    (h : Rt p e below s k n P (T.setTop (mkF m pc' Ls (.int v :: S)))) : Rt p e below s k n P (T.setTop (mkF m pc Ls S)) := by
  subst hp hv; obtain ⟨_, X, _, _⟩ := X; exact Rt.go (fun _ => XS.sipush X.here hx rfl hd) h
theorem Rt.lconst (X : Sd p l e R s m args below meth c T n0 cells slots h0) (hx : p.tables.exec = Jvm.exec) {pc pc' : Nat} {Ls : Array Slot} {S : List Value} {i : Fin 2} {v : Int64} (hd : decode c.code pc = .ok (.lconst i, 1)) (hv : lcv i = v) (hp : pc + 1 = pc')
    (h : Rt p e below s k n P (T.setTop (mkF m pc' Ls (.long v :: S)))) : Rt p e below s k n P (T.setTop (mkF m pc Ls S)) := by
  subst hp hv; obtain ⟨_, X, _, _⟩ := X; exact Rt.go (fun _ => XS.lconst X.here hx rfl hd) h
theorem Rt.aconstNull (X : Sd p l e R s m args below meth c T n0 cells slots h0) (hx : p.tables.exec = Jvm.exec) {pc pc' : Nat} {Ls : Array Slot} {S : List Value}  (hd : decode c.code pc = .ok (.aconst_null, 1)) (hp : pc + 1 = pc')
    (h : Rt p e below s k n P (T.setTop (mkF m pc' Ls (.null :: S)))) : Rt p e below s k n P (T.setTop (mkF m pc Ls (S))) := by
  subst hp; obtain ⟨_, X, _, _⟩ := X; exact Rt.go (fun _ => XS.aconstNull X.here hx rfl hd ) h
theorem Rt.iadd (X : Sd p l e R s m args below meth c T n0 cells slots h0) (hx : p.tables.exec = Jvm.exec) {pc pc' : Nat} {Ls : Array Slot} {S : List Value} {x y r : Int32} (hd : decode c.code pc = .ok (.iadd, 1)) (hr : x + y = r) (hp : pc + 1 = pc')
    (h : Rt p e below s k n P (T.setTop (mkF m pc' Ls (.int r :: S)))) : Rt p e below s k n P (T.setTop (mkF m pc Ls (.int y :: .int x :: S))) := by
  subst hp hr; obtain ⟨_, X, _, _⟩ := X; exact Rt.go (fun _ => XS.iadd X.here hx rfl hd rfl) h
theorem Rt.isub (X : Sd p l e R s m args below meth c T n0 cells slots h0) (hx : p.tables.exec = Jvm.exec) {pc pc' : Nat} {Ls : Array Slot} {S : List Value} {x y r : Int32} (hd : decode c.code pc = .ok (.isub, 1)) (hr : x - y = r) (hp : pc + 1 = pc')
    (h : Rt p e below s k n P (T.setTop (mkF m pc' Ls (.int r :: S)))) : Rt p e below s k n P (T.setTop (mkF m pc Ls (.int y :: .int x :: S))) := by
  subst hp hr; obtain ⟨_, X, _, _⟩ := X; exact Rt.go (fun _ => XS.isub X.here hx rfl hd rfl) h
theorem Rt.imul (X : Sd p l e R s m args below meth c T n0 cells slots h0) (hx : p.tables.exec = Jvm.exec) {pc pc' : Nat} {Ls : Array Slot} {S : List Value} {x y r : Int32} (hd : decode c.code pc = .ok (.imul, 1)) (hr : x * y = r) (hp : pc + 1 = pc')
    (h : Rt p e below s k n P (T.setTop (mkF m pc' Ls (.int r :: S)))) : Rt p e below s k n P (T.setTop (mkF m pc Ls (.int y :: .int x :: S))) := by
  subst hp hr; obtain ⟨_, X, _, _⟩ := X; exact Rt.go (fun _ => XS.imul X.here hx rfl hd rfl) h
theorem Rt.iand (X : Sd p l e R s m args below meth c T n0 cells slots h0) (hx : p.tables.exec = Jvm.exec) {pc pc' : Nat} {Ls : Array Slot} {S : List Value} {x y r : Int32} (hd : decode c.code pc = .ok (.iand, 1)) (hr : x &&& y = r) (hp : pc + 1 = pc')
    (h : Rt p e below s k n P (T.setTop (mkF m pc' Ls (.int r :: S)))) : Rt p e below s k n P (T.setTop (mkF m pc Ls (.int y :: .int x :: S))) := by
  subst hp hr; obtain ⟨_, X, _, _⟩ := X; exact Rt.go (fun _ => XS.iand X.here hx rfl hd rfl) h
theorem Rt.ior (X : Sd p l e R s m args below meth c T n0 cells slots h0) (hx : p.tables.exec = Jvm.exec) {pc pc' : Nat} {Ls : Array Slot} {S : List Value} {x y r : Int32} (hd : decode c.code pc = .ok (.ior, 1)) (hr : x ||| y = r) (hp : pc + 1 = pc')
    (h : Rt p e below s k n P (T.setTop (mkF m pc' Ls (.int r :: S)))) : Rt p e below s k n P (T.setTop (mkF m pc Ls (.int y :: .int x :: S))) := by
  subst hp hr; obtain ⟨_, X, _, _⟩ := X; exact Rt.go (fun _ => XS.ior X.here hx rfl hd rfl) h
theorem Rt.ixor (X : Sd p l e R s m args below meth c T n0 cells slots h0) (hx : p.tables.exec = Jvm.exec) {pc pc' : Nat} {Ls : Array Slot} {S : List Value} {x y r : Int32} (hd : decode c.code pc = .ok (.ixor, 1)) (hr : x ^^^ y = r) (hp : pc + 1 = pc')
    (h : Rt p e below s k n P (T.setTop (mkF m pc' Ls (.int r :: S)))) : Rt p e below s k n P (T.setTop (mkF m pc Ls (.int y :: .int x :: S))) := by
  subst hp hr; obtain ⟨_, X, _, _⟩ := X; exact Rt.go (fun _ => XS.ixor X.here hx rfl hd rfl) h
theorem Rt.ishl (X : Sd p l e R s m args below meth c T n0 cells slots h0) (hx : p.tables.exec = Jvm.exec) {pc pc' : Nat} {Ls : Array Slot} {S : List Value} {x y r : Int32} (hd : decode c.code pc = .ok (.ishl, 1)) (hr : x <<< (y &&& 31) = r) (hp : pc + 1 = pc')
    (h : Rt p e below s k n P (T.setTop (mkF m pc' Ls (.int r :: S)))) : Rt p e below s k n P (T.setTop (mkF m pc Ls (.int y :: .int x :: S))) := by
  subst hp hr; obtain ⟨_, X, _, _⟩ := X; exact Rt.go (fun _ => XS.ishl X.here hx rfl hd rfl) h
theorem Rt.ishr (X : Sd p l e R s m args below meth c T n0 cells slots h0) (hx : p.tables.exec = Jvm.exec) {pc pc' : Nat} {Ls : Array Slot} {S : List Value} {x y r : Int32} (hd : decode c.code pc = .ok (.ishr, 1)) (hr : x >>> (y &&& 31) = r) (hp : pc + 1 = pc')
    (h : Rt p e below s k n P (T.setTop (mkF m pc' Ls (.int r :: S)))) : Rt p e below s k n P (T.setTop (mkF m pc Ls (.int y :: .int x :: S))) := by
  subst hp hr; obtain ⟨_, X, _, _⟩ := X; exact Rt.go (fun _ => XS.ishr X.here hx rfl hd rfl) h
theorem Rt.iushr (X : Sd p l e R s m args below meth c T n0 cells slots h0) (hx : p.tables.exec = Jvm.exec) {pc pc' : Nat} {Ls : Array Slot} {S : List Value} {x y r : Int32} (hd : decode c.code pc = .ok (.iushr, 1)) (hr : (x.toUInt32 >>> (y &&& 31).toUInt32).toInt32 = r) (hp : pc + 1 = pc')
    (h : Rt p e below s k n P (T.setTop (mkF m pc' Ls (.int r :: S)))) : Rt p e below s k n P (T.setTop (mkF m pc Ls (.int y :: .int x :: S))) := by
  subst hp hr; obtain ⟨_, X, _, _⟩ := X; exact Rt.go (fun _ => XS.iushr X.here hx rfl hd rfl) h
theorem Rt.ladd (X : Sd p l e R s m args below meth c T n0 cells slots h0) (hx : p.tables.exec = Jvm.exec) {pc pc' : Nat} {Ls : Array Slot} {S : List Value} {x y r : Int64} (hd : decode c.code pc = .ok (.ladd, 1)) (hr : x + y = r) (hp : pc + 1 = pc')
    (h : Rt p e below s k n P (T.setTop (mkF m pc' Ls (.long r :: S)))) : Rt p e below s k n P (T.setTop (mkF m pc Ls (.long y :: .long x :: S))) := by
  subst hp hr; obtain ⟨_, X, _, _⟩ := X; exact Rt.go (fun _ => XS.ladd X.here hx rfl hd rfl) h
theorem Rt.lsub (X : Sd p l e R s m args below meth c T n0 cells slots h0) (hx : p.tables.exec = Jvm.exec) {pc pc' : Nat} {Ls : Array Slot} {S : List Value} {x y r : Int64} (hd : decode c.code pc = .ok (.lsub, 1)) (hr : x - y = r) (hp : pc + 1 = pc')
    (h : Rt p e below s k n P (T.setTop (mkF m pc' Ls (.long r :: S)))) : Rt p e below s k n P (T.setTop (mkF m pc Ls (.long y :: .long x :: S))) := by
  subst hp hr; obtain ⟨_, X, _, _⟩ := X; exact Rt.go (fun _ => XS.lsub X.here hx rfl hd rfl) h
theorem Rt.lmul (X : Sd p l e R s m args below meth c T n0 cells slots h0) (hx : p.tables.exec = Jvm.exec) {pc pc' : Nat} {Ls : Array Slot} {S : List Value} {x y r : Int64} (hd : decode c.code pc = .ok (.lmul, 1)) (hr : x * y = r) (hp : pc + 1 = pc')
    (h : Rt p e below s k n P (T.setTop (mkF m pc' Ls (.long r :: S)))) : Rt p e below s k n P (T.setTop (mkF m pc Ls (.long y :: .long x :: S))) := by
  subst hp hr; obtain ⟨_, X, _, _⟩ := X; exact Rt.go (fun _ => XS.lmul X.here hx rfl hd rfl) h
theorem Rt.land (X : Sd p l e R s m args below meth c T n0 cells slots h0) (hx : p.tables.exec = Jvm.exec) {pc pc' : Nat} {Ls : Array Slot} {S : List Value} {x y r : Int64} (hd : decode c.code pc = .ok (.land, 1)) (hr : x &&& y = r) (hp : pc + 1 = pc')
    (h : Rt p e below s k n P (T.setTop (mkF m pc' Ls (.long r :: S)))) : Rt p e below s k n P (T.setTop (mkF m pc Ls (.long y :: .long x :: S))) := by
  subst hp hr; obtain ⟨_, X, _, _⟩ := X; exact Rt.go (fun _ => XS.land X.here hx rfl hd rfl) h
theorem Rt.lor (X : Sd p l e R s m args below meth c T n0 cells slots h0) (hx : p.tables.exec = Jvm.exec) {pc pc' : Nat} {Ls : Array Slot} {S : List Value} {x y r : Int64} (hd : decode c.code pc = .ok (.lor, 1)) (hr : x ||| y = r) (hp : pc + 1 = pc')
    (h : Rt p e below s k n P (T.setTop (mkF m pc' Ls (.long r :: S)))) : Rt p e below s k n P (T.setTop (mkF m pc Ls (.long y :: .long x :: S))) := by
  subst hp hr; obtain ⟨_, X, _, _⟩ := X; exact Rt.go (fun _ => XS.lor X.here hx rfl hd rfl) h
theorem Rt.lxor (X : Sd p l e R s m args below meth c T n0 cells slots h0) (hx : p.tables.exec = Jvm.exec) {pc pc' : Nat} {Ls : Array Slot} {S : List Value} {x y r : Int64} (hd : decode c.code pc = .ok (.lxor, 1)) (hr : x ^^^ y = r) (hp : pc + 1 = pc')
    (h : Rt p e below s k n P (T.setTop (mkF m pc' Ls (.long r :: S)))) : Rt p e below s k n P (T.setTop (mkF m pc Ls (.long y :: .long x :: S))) := by
  subst hp hr; obtain ⟨_, X, _, _⟩ := X; exact Rt.go (fun _ => XS.lxor X.here hx rfl hd rfl) h
theorem Rt.lshl (X : Sd p l e R s m args below meth c T n0 cells slots h0) (hx : p.tables.exec = Jvm.exec) {pc pc' : Nat} {Ls : Array Slot} {S : List Value} {x r : Int64} {y : Int32} (hd : decode c.code pc = .ok (.lshl, 1)) (hr : x <<< (y &&& 0x3f).toInt64 = r) (hp : pc + 1 = pc')
    (h : Rt p e below s k n P (T.setTop (mkF m pc' Ls (.long r :: S)))) : Rt p e below s k n P (T.setTop (mkF m pc Ls (.int y :: .long x :: S))) := by
  subst hp hr; obtain ⟨_, X, _, _⟩ := X; exact Rt.go (fun _ => XS.lshl X.here hx rfl hd rfl) h
theorem Rt.lshr (X : Sd p l e R s m args below meth c T n0 cells slots h0) (hx : p.tables.exec = Jvm.exec) {pc pc' : Nat} {Ls : Array Slot} {S : List Value} {x r : Int64} {y : Int32} (hd : decode c.code pc = .ok (.lshr, 1)) (hr : x >>> (y &&& 0x3f).toInt64 = r) (hp : pc + 1 = pc')
    (h : Rt p e below s k n P (T.setTop (mkF m pc' Ls (.long r :: S)))) : Rt p e below s k n P (T.setTop (mkF m pc Ls (.int y :: .long x :: S))) := by
  subst hp hr; obtain ⟨_, X, _, _⟩ := X; exact Rt.go (fun _ => XS.lshr X.here hx rfl hd rfl) h
theorem Rt.lushr (X : Sd p l e R s m args below meth c T n0 cells slots h0) (hx : p.tables.exec = Jvm.exec) {pc pc' : Nat} {Ls : Array Slot} {S : List Value} {x r : Int64} {y : Int32} (hd : decode c.code pc = .ok (.lushr, 1)) (hr : (x.toUInt64 >>> (y &&& 0x3f).toInt64.toUInt64).toInt64 = r) (hp : pc + 1 = pc')
    (h : Rt p e below s k n P (T.setTop (mkF m pc' Ls (.long r :: S)))) : Rt p e below s k n P (T.setTop (mkF m pc Ls (.int y :: .long x :: S))) := by
  subst hp hr; obtain ⟨_, X, _, _⟩ := X; exact Rt.go (fun _ => XS.lushr X.here hx rfl hd rfl) h
theorem Rt.idiv (X : Sd p l e R s m args below meth c T n0 cells slots h0) (hx : p.tables.exec = Jvm.exec) {pc pc' : Nat} {Ls : Array Slot} {S : List Value} {x y r : Int32} (hd : decode c.code pc = .ok (.idiv, 1)) (hy : y ≠ 0) (hr : x / y = r) (hp : pc + 1 = pc')
    (h : Rt p e below s k n P (T.setTop (mkF m pc' Ls (.int r :: S)))) : Rt p e below s k n P (T.setTop (mkF m pc Ls (.int y :: .int x :: S))) := by
  subst hp hr; obtain ⟨_, X, _, _⟩ := X; exact Rt.go (fun _ => XS.idiv X.here hx rfl hd rfl hy) h
theorem Rt.irem (X : Sd p l e R s m args below meth c T n0 cells slots h0) (hx : p.tables.exec = Jvm.exec) {pc pc' : Nat} {Ls : Array Slot} {S : List Value} {x y r : Int32} (hd : decode c.code pc = .ok (.irem, 1)) (hy : y ≠ 0) (hr : x % y = r) (hp : pc + 1 = pc')
    (h : Rt p e below s k n P (T.setTop (mkF m pc' Ls (.int r :: S)))) : Rt p e below s k n P (T.setTop (mkF m pc Ls (.int y :: .int x :: S))) := by
  subst hp hr; obtain ⟨_, X, _, _⟩ := X; exact Rt.go (fun _ => iremM X hx rfl hd rfl hy) h
theorem Rt.ldiv (X : Sd p l e R s m args below meth c T n0 cells slots h0) (hx : p.tables.exec = Jvm.exec) {pc pc' : Nat} {Ls : Array Slot} {S : List Value} {x y r : Int64} (hd : decode c.code pc = .ok (.ldiv, 1)) (hy : y ≠ 0) (hr : x / y = r) (hp : pc + 1 = pc')
    (h : Rt p e below s k n P (T.setTop (mkF m pc' Ls (.long r :: S)))) : Rt p e below s k n P (T.setTop (mkF m pc Ls (.long y :: .long x :: S))) := by
  subst hp hr; obtain ⟨_, X, _, _⟩ := X; exact Rt.go (fun _ => XS.ldiv X.here hx rfl hd rfl hy) h
theorem Rt.lrem (X : Sd p l e R s m args below meth c T n0 cells slots h0) (hx : p.tables.exec = Jvm.exec) {pc pc' : Nat} {Ls : Array Slot} {S : List Value} {x y r : Int64} (hd : decode c.code pc = .ok (.lrem, 1)) (hy : y ≠ 0) (hr : x - (x / y) * y = r) (hp : pc + 1 = pc')
    (h : Rt p e below s k n P (T.setTop (mkF m pc' Ls (.long r :: S)))) : Rt p e below s k n P (T.setTop (mkF m pc Ls (.long y :: .long x :: S))) := by
  subst hp hr; obtain ⟨_, X, _, _⟩ := X; exact Rt.go (fun _ => XS.lrem X.here hx rfl hd rfl hy) h
theorem Rt.ineg (X : Sd p l e R s m args below meth c T n0 cells slots h0) (hx : p.tables.exec = Jvm.exec) {pc pc' : Nat} {Ls : Array Slot} {S : List Value} {v : Int32} {r : Int32} (hd : decode c.code pc = .ok (.ineg, 1)) (hr : -v = r) (hp : pc + 1 = pc')
    (h : Rt p e below s k n P (T.setTop (mkF m pc' Ls (.int r :: S)))) : Rt p e below s k n P (T.setTop (mkF m pc Ls (.int v :: S))) := by
  subst hp hr; obtain ⟨_, X, _, _⟩ := X; exact Rt.go (fun _ => XS.ineg X.here hx rfl hd rfl) h
theorem Rt.lneg (X : Sd p l e R s m args below meth c T n0 cells slots h0) (hx : p.tables.exec = Jvm.exec) {pc pc' : Nat} {Ls : Array Slot} {S : List Value} {v : Int64} {r : Int64} (hd : decode c.code pc = .ok (.lneg, 1)) (hr : -v = r) (hp : pc + 1 = pc')
    (h : Rt p e below s k n P (T.setTop (mkF m pc' Ls (.long r :: S)))) : Rt p e below s k n P (T.setTop (mkF m pc Ls (.long v :: S))) := by
  subst hp hr; obtain ⟨_, X, _, _⟩ := X; exact Rt.go (fun _ => XS.lneg X.here hx rfl hd rfl) h
theorem Rt.i2l (X : Sd p l e R s m args below meth c T n0 cells slots h0) (hx : p.tables.exec = Jvm.exec) {pc pc' : Nat} {Ls : Array Slot} {S : List Value} {v : Int32} {r : Int64} (hd : decode c.code pc = .ok (.i2l, 1)) (hr : v.toInt64 = r) (hp : pc + 1 = pc')
    (h : Rt p e below s k n P (T.setTop (mkF m pc' Ls (.long r :: S)))) : Rt p e below s k n P (T.setTop (mkF m pc Ls (.int v :: S))) := by
  subst hp hr; obtain ⟨_, X, _, _⟩ := X; exact Rt.go (fun _ => XS.i2l X.here hx rfl hd rfl) h
theorem Rt.l2i (X : Sd p l e R s m args below meth c T n0 cells slots h0) (hx : p.tables.exec = Jvm.exec) {pc pc' : Nat} {Ls : Array Slot} {S : List Value} {v : Int64} {r : Int32} (hd : decode c.code pc = .ok (.l2i, 1)) (hr : v.toInt32 = r) (hp : pc + 1 = pc')
    (h : Rt p e below s k n P (T.setTop (mkF m pc' Ls (.int r :: S)))) : Rt p e below s k n P (T.setTop (mkF m pc Ls (.long v :: S))) := by
  subst hp hr; obtain ⟨_, X, _, _⟩ := X; exact Rt.go (fun _ => XS.l2i X.here hx rfl hd rfl) h
theorem Rt.i2b (X : Sd p l e R s m args below meth c T n0 cells slots h0) (hx : p.tables.exec = Jvm.exec) {pc pc' : Nat} {Ls : Array Slot} {S : List Value} {v : Int32} {r : Int32} (hd : decode c.code pc = .ok (.i2b, 1)) (hr : v.toInt8.toInt32 = r) (hp : pc + 1 = pc')
    (h : Rt p e below s k n P (T.setTop (mkF m pc' Ls (.int r :: S)))) : Rt p e below s k n P (T.setTop (mkF m pc Ls (.int v :: S))) := by
  subst hp hr; obtain ⟨_, X, _, _⟩ := X; exact Rt.go (fun _ => XS.i2b X.here hx rfl hd rfl) h
theorem Rt.i2s (X : Sd p l e R s m args below meth c T n0 cells slots h0) (hx : p.tables.exec = Jvm.exec) {pc pc' : Nat} {Ls : Array Slot} {S : List Value} {v : Int32} {r : Int32} (hd : decode c.code pc = .ok (.i2s, 1)) (hr : v.toInt16.toInt32 = r) (hp : pc + 1 = pc')
    (h : Rt p e below s k n P (T.setTop (mkF m pc' Ls (.int r :: S)))) : Rt p e below s k n P (T.setTop (mkF m pc Ls (.int v :: S))) := by
  subst hp hr; obtain ⟨_, X, _, _⟩ := X; exact Rt.go (fun _ => XS.i2s X.here hx rfl hd rfl) h
theorem Rt.i2c (X : Sd p l e R s m args below meth c T n0 cells slots h0) (hx : p.tables.exec = Jvm.exec) {pc pc' : Nat} {Ls : Array Slot} {S : List Value} {v : Int32} {r : Int32} (hd : decode c.code pc = .ok (.i2c, 1)) (hr : v.toUInt32.toUInt16.toUInt32.toInt32 = r) (hp : pc + 1 = pc')
    (h : Rt p e below s k n P (T.setTop (mkF m pc' Ls (.int r :: S)))) : Rt p e below s k n P (T.setTop (mkF m pc Ls (.int v :: S))) := by
  subst hp hr; obtain ⟨_, X, _, _⟩ := X; exact Rt.go (fun _ => XS.i2c X.here hx rfl hd rfl) h
theorem Rt.lcmp (X : Sd p l e R s m args below meth c T n0 cells slots h0) (hx : p.tables.exec = Jvm.exec) {pc pc' : Nat} {Ls : Array Slot} {S : List Value} {x y : Int64} (hd : decode c.code pc = .ok (.lcmp, 1)) (hp : pc + 1 = pc')
    (h : Rt p e below s k n P (T.setTop (mkF m pc' Ls (.int (lcmpW x y) :: S)))) : Rt p e below s k n P (T.setTop (mkF m pc Ls (.long y :: .long x :: S))) := by
  subst hp; obtain ⟨_, X, _, _⟩ := X; exact Rt.go (fun _ => XS.lcmp X.here hx rfl hd rfl) h
theorem Rt.iinc (X : Sd p l e R s m args below meth c T n0 cells slots h0) (hx : p.tables.exec = Jvm.exec) {pc pc' : Nat} {Ls : Array Slot} {S : List Value} {j : Nat} {cst : Int} {x r : Int32} {l' : Array Slot} (hd : decode c.code pc = .ok (.iinc j cst, 3)) (hl : Ls[j]? = some (.val (.int x))) (hr : x + Int32.ofInt cst = r) (hl' : storeLocals Ls j (.int r) = some l') (hp : pc + 3 = pc')
    (h : Rt p e below s k n P (T.setTop (mkF m pc' l' S))) : Rt p e below s k n P (T.setTop (mkF m pc Ls S)) := by
  subst hp hr; obtain ⟨_, X, _, _⟩ := X; exact Rt.go (fun _ => XS.iinc X.here hx rfl hd hl hl') h
theorem Rt.dup (X : Sd p l e R s m args below meth c T n0 cells slots h0) (hx : p.tables.exec = Jvm.exec) {pc pc' : Nat} {Ls : Array Slot} {S : List Value} {x : Value} (hd : decode c.code pc = .ok (.dup, 1)) (hc : x.category = 1) (hp : pc + 1 = pc')
    (h : Rt p e below s k n P (T.setTop (mkF m pc' Ls (x :: x :: S)))) : Rt p e below s k n P (T.setTop (mkF m pc Ls (x :: S))) := by
  subst hp; obtain ⟨_, X, _, _⟩ := X; exact Rt.go (fun _ => XS.dup X.here hx rfl hd rfl hc) h
theorem Rt.pop (X : Sd p l e R s m args below meth c T n0 cells slots h0) (hx : p.tables.exec = Jvm.exec) {pc pc' : Nat} {Ls : Array Slot} {S : List Value} {x : Value} (hd : decode c.code pc = .ok (.pop, 1)) (hc : x.category = 1) (hp : pc + 1 = pc')
    (h : Rt p e below s k n P (T.setTop (mkF m pc' Ls (S)))) : Rt p e below s k n P (T.setTop (mkF m pc Ls (x :: S))) := by
  subst hp; obtain ⟨_, X, _, _⟩ := X; exact Rt.go (fun _ => XS.pop X.here hx rfl hd rfl hc) h
theorem Rt.dup2 (X : Sd p l e R s m args below meth c T n0 cells slots h0) (hx : p.tables.exec = Jvm.exec) {pc pc' : Nat} {Ls : Array Slot} {S : List Value} {x y : Value} (hd : decode c.code pc = .ok (.dup2, 1)) (hc : x.category = 1) (hc2 : y.category = 1) (hp : pc + 1 = pc')
    (h : Rt p e below s k n P (T.setTop (mkF m pc' Ls (x :: y :: x :: y :: S)))) : Rt p e below s k n P (T.setTop (mkF m pc Ls (x :: y :: S))) := by
  subst hp; obtain ⟨_, X, _, _⟩ := X; exact Rt.go (fun _ => XT.dup2 X.here hx rfl hd rfl hc hc2) h
theorem Rt.dupX1 (X : Sd p l e R s m args below meth c T n0 cells slots h0) (hx : p.tables.exec = Jvm.exec) {pc pc' : Nat} {Ls : Array Slot} {S : List Value} {x y : Value} (hd : decode c.code pc = .ok (.dup_x1, 1)) (hc : x.category = 1) (hc2 : y.category = 1) (hp : pc + 1 = pc')
    (h : Rt p e below s k n P (T.setTop (mkF m pc' Ls (x :: y :: x :: S)))) : Rt p e below s k n P (T.setTop (mkF m pc Ls (x :: y :: S))) := by
  subst hp; obtain ⟨_, X, _, _⟩ := X; exact Rt.go (fun _ => XS.dupX1 X.here hx rfl hd rfl hc hc2) h
theorem Rt.goto (X : Sd p l e R s m args below meth c T n0 cells slots h0) (hx : p.tables.exec = Jvm.exec) {pc pc' : Nat} {Ls : Array Slot} {S : List Value} {o : Int} (hd : decode c.code pc = .ok (.goto o, 3)) (ho : 0 ≤ (pc : Int) + o) (hp : ((pc : Int) + o).toNat = pc')
    (h : Rt p e below s k n P (T.setTop (mkF m pc' Ls S))) : Rt p e below s k n P (T.setTop (mkF m pc Ls S)) := by
  obtain ⟨_, X, _, _⟩ := X; exact Rt.go (fun _ => XS.goto X.here hx rfl (pc0 := pc) rfl hd ho hp) h
theorem Rt.ifY (X : Sd p l e R s m args below meth c T n0 cells slots h0) (hx : p.tables.exec = Jvm.exec) {pc pc' : Nat} {Ls : Array Slot} {S : List Value} {o : Int} {cd : ClassFile.Cond} {x : Int32} (hd : decode c.code pc = .ok (.ifCond cd o, 3)) (hc : ifCond.holds cd x = true) (ho : 0 ≤ (pc : Int) + o) (hp : ((pc : Int) + o).toNat = pc')
    (h : Rt p e below s k n P (T.setTop (mkF m pc' Ls S))) : Rt p e below s k n P (T.setTop (mkF m pc Ls (.int x :: S))) := by
  obtain ⟨_, X, _, _⟩ := X; exact Rt.go (fun _ => XS.ifYes X.here hx rfl (pc0 := pc) rfl hd rfl hc ho hp) h
theorem Rt.ifN (X : Sd p l e R s m args below meth c T n0 cells slots h0) (hx : p.tables.exec = Jvm.exec) {pc pc' : Nat} {Ls : Array Slot} {S : List Value} {o : Int} {cd : ClassFile.Cond} {x : Int32} (hd : decode c.code pc = .ok (.ifCond cd o, 3)) (hc : ifCond.holds cd x = false) (hp : pc + 3 = pc')
    (h : Rt p e below s k n P (T.setTop (mkF m pc' Ls S))) : Rt p e below s k n P (T.setTop (mkF m pc Ls (.int x :: S))) := by
  subst hp; obtain ⟨_, X, _, _⟩ := X; exact Rt.go (fun _ => XS.ifNo X.here hx rfl hd rfl hc) h
theorem Rt.icmpY (X : Sd p l e R s m args below meth c T n0 cells slots h0) (hx : p.tables.exec = Jvm.exec) {pc pc' : Nat} {Ls : Array Slot} {S : List Value} {o : Int} {cd : ClassFile.Cond} {x y : Int32} (hd : decode c.code pc = .ok (.if_icmp cd o, 3)) (hc : if_icmp.holds cd x y = true) (ho : 0 ≤ (pc : Int) + o) (hp : ((pc : Int) + o).toNat = pc')
    (h : Rt p e below s k n P (T.setTop (mkF m pc' Ls S))) : Rt p e below s k n P (T.setTop (mkF m pc Ls (.int y :: .int x :: S))) := by
  obtain ⟨_, X, _, _⟩ := X; exact Rt.go (fun _ => XS.icmpYes X.here hx rfl (pc0 := pc) rfl hd rfl hc ho hp) h
theorem Rt.icmpN (X : Sd p l e R s m args below meth c T n0 cells slots h0) (hx : p.tables.exec = Jvm.exec) {pc pc' : Nat} {Ls : Array Slot} {S : List Value} {o : Int} {cd : ClassFile.Cond} {x y : Int32} (hd : decode c.code pc = .ok (.if_icmp cd o, 3)) (hc : if_icmp.holds cd x y = false) (hp : pc + 3 = pc')
    (h : Rt p e below s k n P (T.setTop (mkF m pc' Ls S))) : Rt p e below s k n P (T.setTop (mkF m pc Ls (.int y :: .int x :: S))) := by
  subst hp; obtain ⟨_, X, _, _⟩ := X; exact Rt.go (fun _ => XS.icmpNo X.here hx rfl hd rfl hc) h
theorem Rt.ifnullY (X : Sd p l e R s m args below meth c T n0 cells slots h0) (hx : p.tables.exec = Jvm.exec) {pc pc' : Nat} {Ls : Array Slot} {S : List Value} {o : Int} (hd : decode c.code pc = .ok (.ifnull o, 3)) (ho : 0 ≤ (pc : Int) + o) (hp : ((pc : Int) + o).toNat = pc')
    (h : Rt p e below s k n P (T.setTop (mkF m pc' Ls S))) : Rt p e below s k n P (T.setTop (mkF m pc Ls (.null :: S))) := by
  obtain ⟨_, X, _, _⟩ := X; exact Rt.go (fun _ => XS.ifnullYes X.here hx rfl (pc0 := pc) rfl hd rfl ho hp) h
theorem Rt.ifnullN (X : Sd p l e R s m args below meth c T n0 cells slots h0) (hx : p.tables.exec = Jvm.exec) {pc pc' : Nat} {Ls : Array Slot} {S : List Value} {o : Int} {b : Addr} (hd : decode c.code pc = .ok (.ifnull o, 3)) (hp : pc + 3 = pc')
    (h : Rt p e below s k n P (T.setTop (mkF m pc' Ls S))) : Rt p e below s k n P (T.setTop (mkF m pc Ls (.ref b :: S))) := by
  subst hp; obtain ⟨_, X, _, _⟩ := X; exact Rt.go (fun _ => XS.ifnullNo X.here hx rfl hd rfl) h
theorem Rt.ifnonnullY (X : Sd p l e R s m args below meth c T n0 cells slots h0) (hx : p.tables.exec = Jvm.exec) {pc pc' : Nat} {Ls : Array Slot} {S : List Value} {o : Int} {b : Addr} (hd : decode c.code pc = .ok (.ifnonnull o, 3)) (ho : 0 ≤ (pc : Int) + o) (hp : ((pc : Int) + o).toNat = pc')
    (h : Rt p e below s k n P (T.setTop (mkF m pc' Ls S))) : Rt p e below s k n P (T.setTop (mkF m pc Ls (.ref b :: S))) := by
  obtain ⟨_, X, _, _⟩ := X; exact Rt.go (fun _ => XS.ifnonnullYes X.here hx rfl (pc0 := pc) rfl hd rfl ho hp) h
theorem Rt.ifnonnullN (X : Sd p l e R s m args below meth c T n0 cells slots h0) (hx : p.tables.exec = Jvm.exec) {pc pc' : Nat} {Ls : Array Slot} {S : List Value} {o : Int} (hd : decode c.code pc = .ok (.ifnonnull o, 3)) (hp : pc + 3 = pc')
    (h : Rt p e below s k n P (T.setTop (mkF m pc' Ls S))) : Rt p e below s k n P (T.setTop (mkF m pc Ls (.null :: S))) := by
  subst hp; obtain ⟨_, X, _, _⟩ := X; exact Rt.go (fun _ => XS.ifnonnullNo X.here hx rfl hd rfl) h
theorem Rt.acmp (X : Sd p l e R s m args below meth c T n0 cells slots h0) (hx : p.tables.exec = Jvm.exec) {pc pc' : Nat} {Ls : Array Slot} {S : List Value} {o : Int} {cd : ACond} {x y : Value} {same : Bool} (h1 : x.isRef = true) (h2 : y.isRef = true) (hd : decode c.code pc = .ok (.if_acmp cd o, 3)) (hq : decide (x = y) = same) (ho : 0 ≤ (pc : Int) + o) (hp : pc' = if acV cd same = true then ((pc : Int) + o).toNat else pc + 3)
    (h : Rt p e below s k n P (T.setTop (mkF m pc' Ls S))) : Rt p e below s k n P (T.setTop (mkF m pc Ls (y :: x :: S))) := by
  obtain ⟨_, X, _, _⟩ := X; exact Rt.go (fun _ => Jvm.RoadKit.acmp X hx rfl h1 h2 (pc0 := pc) rfl hd rfl hq ho hp) h
theorem Rt.retZ (X : Sd p l e R s m args below meth c T n0 cells slots h0) (hx : p.tables.exec = Jvm.exec) (hlk : meth.locks = false) {t : FieldType} (hret : meth.sig.returnType = some t) (ht : t = .boolean ∨ t = .byte ∨ t = .char ∨ t = .short) {pc : Nat} {Ls : Array Slot} {S : List Value} {z w : Int32} (hd : decode c.code pc = .ok (.ireturn, 1)) (hw : nar t z = w) (hk : cells ≤ k) (hn : slots ≤ n)
    (hP : ∀ L, Fr n0 L → P (some (.int w)) h0 L) : Rt p e below s k n P (T.setTop (mkF m pc Ls (.int z :: S))) := by
  subst hw; obtain ⟨locs, X, N, eh⟩ := X
  obtain ⟨fs, hr, hrun, hended, hW, hsame⟩ := X.leave (v := some (.int (nar t z))) (fun h => by rw [hret] at h; cases h) hlk
  exact ⟨_, _, retN X hx hret ht hd hr, hrun, hended, _, _, rfl, by show P _ T.heap _; rw [eh]; exact hP _ N, ⟨_, rfl⟩, hW, hsame.mono hk hn⟩
theorem Rt.retI (X : Sd p l e R s m args below meth c T n0 cells slots h0) (hx : p.tables.exec = Jvm.exec) (hlk : meth.locks = false) (hret : meth.sig.returnType = some .int) {pc : Nat} {Ls : Array Slot} {S : List Value} {z : Int32} (hd : decode c.code pc = .ok (.ireturn, 1)) (hk : cells ≤ k) (hn : slots ≤ n)
    (hP : ∀ L, Fr n0 L → P (some (.int z)) h0 L) : Rt p e below s k n P (T.setTop (mkF m pc Ls (.int z :: S))) := by
  obtain ⟨locs, X, N, eh⟩ := X
  obtain ⟨fs, hr, hrun, hended, hW, hsame⟩ := X.leave (v := some (.int z)) (fun h => by rw [hret] at h; cases h) hlk
  exact ⟨_, _, Jvm.RoadKit.retI X hx hret hd hr, hrun, hended, _, _, rfl, by show P _ T.heap _; rw [eh]; exact hP _ N, ⟨_, rfl⟩, hW, hsame.mono hk hn⟩
theorem Rt.retJ (X : Sd p l e R s m args below meth c T n0 cells slots h0) (hx : p.tables.exec = Jvm.exec) (hlk : meth.locks = false) (hret : meth.sig.returnType = some .long) {pc : Nat} {Ls : Array Slot} {z : Int64} (hd : decode c.code pc = .ok (.lreturn, 1)) (hk : cells ≤ k) (hn : slots ≤ n)
    (hP : ∀ L, Fr n0 L → P (some (.long z)) h0 L) : Rt p e below s k n P (T.setTop (mkF m pc Ls [.long z])) := by
  obtain ⟨locs, X, N, eh⟩ := X
  obtain ⟨fs, hr, hrun, hended, hW, hsame⟩ := X.leave (v := some (.long z)) (fun h => by rw [hret] at h; cases h) hlk
  exact ⟨_, _, X.lreturnOut hx hret hd hr, hrun, hended, _, _, rfl, by show P _ T.heap _; rw [eh]; exact hP _ N, ⟨_, rfl⟩, hW, hsame.mono hk hn⟩
theorem Rt.retA (X : Sd p l e R s m args below meth c T n0 cells slots h0) (hx : p.tables.exec = Jvm.exec) (hlk : meth.locks = false) {t : FieldType} (ht : t.isReference = true) (hret : meth.sig.returnType = some t) {pc : Nat} {Ls : Array Slot} {v : Value} (hv : v.isRef = true) (hd : decode c.code pc = .ok (.areturn, 1)) (hk : cells ≤ k) (hn : slots ≤ n)
    (hP : ∀ L, Fr n0 L → P (some v) h0 L) : Rt p e below s k n P (T.setTop (mkF m pc Ls [v])) := by
  obtain ⟨locs, X, N, eh⟩ := X
  obtain ⟨fs, hr, hrun, hended, hW, hsame⟩ := X.leave (v := some v) (fun h => by rw [hret] at h; cases h) hlk
  exact ⟨_, _, Jvm.RoadKit.retA X hx ht hv hret hd hr, hrun, hended, _, _, rfl, by show P _ T.heap _; rw [eh]; exact hP _ N, ⟨_, rfl⟩, hW, hsame.mono hk hn⟩
theorem Rt.retV (X : Sd p l e R s m args below meth c T n0 cells slots h0) (hx : p.tables.exec = Jvm.exec) (hlk : meth.locks = false) (hret : meth.sig.returnType = none) {pc : Nat} {Ls : Array Slot}  (hd : decode c.code pc = .ok (.return_, 1)) (hk : cells ≤ k) (hn : slots ≤ n)
    (hP : ∀ L, Fr n0 L → P none h0 L) : Rt p e below s k n P (T.setTop (mkF m pc Ls [])) := by
  obtain ⟨locs, X, N, eh⟩ := X
  obtain ⟨fs, hr, hrun, hended, hW, hsame⟩ := X.leave (v := none) (fun _ => rfl) hlk
  exact ⟨_, _, X.returnOut hx hret hd hr, hrun, hended, _, _, rfl, by show P _ T.heap _; rw [eh]; exact hP _ N, ⟨_, rfl⟩, hW, hsame.mono hk hn⟩
theorem Rt.ldcInt (X : Sd p l e R s m args below meth c T n0 cells slots h0) (hx : p.tables.exec = Jvm.exec) {Z : State} {a0 : Array Value} (hZ : Z.Warmed39 s.vm) {own : String} {index : Nat} {v : Int32} (hown : s.vm.findClass own = some m.cls) (w : (Cond.constant own index v).before a0 Z = true) {pc pc' : Nat} {Ls : Array Slot} {S : List Value} (hd : decode c.code pc = .ok (.ldc index, 2)) (hp : pc + 2 = pc')
    (h : Rt p e below s k n P (T.setTop (mkF m pc' Ls (.int v :: S)))) : Rt p e below s k n P (T.setTop (mkF m pc Ls S)) := by
  subst hp; obtain ⟨_, X, _, _⟩ := X; exact Rt.go (X.ldcInt hx hown (mvT hZ w) (g := mkF m pc Ls S) rfl hd) h
theorem Rt.ldcwInt (X : Sd p l e R s m args below meth c T n0 cells slots h0) (hx : p.tables.exec = Jvm.exec) {Z : State} {a0 : Array Value} (hZ : Z.Warmed39 s.vm) {own : String} {index : Nat} {v : Int32} (hown : s.vm.findClass own = some m.cls) (w : (Cond.constant own index v).before a0 Z = true) {pc pc' : Nat} {Ls : Array Slot} {S : List Value} (hd : decode c.code pc = .ok (.ldc_w index, 3)) (hp : pc + 3 = pc')
    (h : Rt p e below s k n P (T.setTop (mkF m pc' Ls (.int v :: S)))) : Rt p e below s k n P (T.setTop (mkF m pc Ls S)) := by
  subst hp; obtain ⟨_, X, _, _⟩ := X; exact Rt.go (X.ldcwInt hx hown (mvT hZ w) (g := mkF m pc Ls S) rfl hd) h
theorem Rt.ldc2Long (X : Sd p l e R s m args below meth c T n0 cells slots h0) (hx : p.tables.exec = Jvm.exec) {Z : State} {a0 : Array Value} (hZ : Z.Warmed39 s.vm) {own : String} {index : Nat} {v : Int64} (hown : s.vm.findClass own = some m.cls) (w : (Cond.constantLong own index v).before a0 Z = true) {pc pc' : Nat} {Ls : Array Slot} {S : List Value} (hd : decode c.code pc = .ok (.ldc2_w index, 3)) (hp : pc + 3 = pc')
    (h : Rt p e below s k n P (T.setTop (mkF m pc' Ls (.long v :: S)))) : Rt p e below s k n P (T.setTop (mkF m pc Ls S)) := by
  subst hp; obtain ⟨_, X, _, _⟩ := X; exact Rt.go (X.ldc2Long hx hown (mvT hZ w) (g := mkF m pc Ls S) rfl hd) h
theorem ltl {x y : Int64} (h : x < y) : ifCond.holds .lt (lcmpW x y) = true ∧ ifCond.holds .ge (lcmpW x y) = false := ⟨(if0 _ _).trans (tlt ((lw_lt x y).mpr h)).1, (if0 _ _).trans (tlt ((lw_lt x y).mpr h)).2.1⟩
theorem lfl {x y : Int64} (h : ¬ x < y) : ifCond.holds .lt (lcmpW x y) = false ∧ ifCond.holds .ge (lcmpW x y) = true := ⟨(if0 _ _).trans (flt (fun q => h ((lw_lt x y).mp q))).1, (if0 _ _).trans (flt (fun q => h ((lw_lt x y).mp q))).2.1⟩
theorem gtl {x y : Int64} (h : y < x) : ifCond.holds .gt (lcmpW x y) = true ∧ ifCond.holds .le (lcmpW x y) = false := ⟨(if0 _ _).trans (tlt ((lw_gt x y).mpr h)).2.2.1, (if0 _ _).trans (tlt ((lw_gt x y).mpr h)).2.2.2⟩
theorem gfl {x y : Int64} (h : ¬ y < x) : ifCond.holds .gt (lcmpW x y) = false ∧ ifCond.holds .le (lcmpW x y) = true := ⟨(if0 _ _).trans (flt (fun q => h ((lw_gt x y).mp q))).2.2.1, (if0 _ _).trans (flt (fun q => h ((lw_gt x y).mp q))).2.2.2⟩
theorem etl {x y : Int64} (h : x = y) : ifCond.holds .eq (lcmpW x y) = true ∧ ifCond.holds .ne (lcmpW x y) = false := ⟨(if0 _ _).trans (teq ((lw_eq x y).mpr h)).1, (if0 _ _).trans (teq ((lw_eq x y).mpr h)).2⟩
theorem efl {x y : Int64} (h : ¬ x = y) : ifCond.holds .eq (lcmpW x y) = false ∧ ifCond.holds .ne (lcmpW x y) = true := ⟨(if0 _ _).trans (feq (fun q => h ((lw_eq x y).mp q))).1, (if0 _ _).trans (feq (fun q => h ((lw_eq x y).mp q))).2⟩
/-- what a method leaves: its contract's form -/
abbrev Mt (l : Launch) (Z : State) (y : MethodName) (ws : List Jvm.Cond) (rm : Room) (as' : Array Value) (h : Heap) (Q : Option Value → Heap → List Loc → Prop) : Prop :=
  MetFree l y (head1 ws rm) (fun a U => a = as' ∧ Z.Warmed39 U.vm ∧ U.heap = h) (fun _ _ _ _ _ => True) (fun _ U o U' => ∃ v L, o = .returned v ∧ Q v U'.heap L ∧ FrameEnd U o U' L rm.cells rm.slots)
/-- from a body's walk to its contract -/
theorem Mt.of {Z : State} {y : MethodName} {bytes : ByteArray} {maxL : Nat} {ret : Option FieldType} {ws : List Jvm.Cond} {rm : Room} {as' : Array Value} {h : Heap} {Q : Option Value → Heap → List Loc → Prop} (n0 : Nat) (hpl : plainFor y = true)
    (body : ∀ (p : Program) (e : Env) (s : State) (m : MethodId) (below : List Frame) (meth : Method) (c : Code) (T : State), Sd p l e rm s m as' below meth c T n0 0 0 h → p.tables.exec = Jvm.exec → Z.Warmed39 s.vm → c.code = bytes → c.maxLocals = maxL → s.vm.findClass y.cls = some m.cls → meth.sig.returnType = ret → meth.locks = false → meth.name = y.name → s.heap = h →
      Rt p e below s rm.cells rm.slots Q (T.setTop (entryFrame m as' maxL))) : Mt l Z y (Jvm.Cond.code y bytes maxL ret :: ws) rm as' h Q := by
  refine MetFree.of_bodySF hpl hisR ?_
  intro p e s m args below meth c s₁ Bd hml0 hP hK
  obtain ⟨rfl, hZ, hh⟩ := hP
  have e0 : s₁.heap = h := by rw [← hh, Bd.state]; rfl
  obtain ⟨s₂, o, h1, h2, h3, v, L, h4, h5, h6⟩ := body p e s m below meth c s₁ ⟨[], Stand.of_body Bd, Fr.nil n0, e0⟩ Bd.exec hZ Bd.bytes hml0 (findClass_of_methodNamed Bd.named) Bd.returns (BodyLoose.notSynchronized Bd) (name_of_methodNamed Bd.named Bd.method).1 hh
  exact ⟨s₂, o, h1, h2, h3, v, L, h4, h5, h6⟩
theorem Rt.callS (X : Sd p l e R s m args below meth c T n0 cells slots h0) (hx : p.tables.exec = Jvm.exec) {Z : State} {a0 : Array Value} (hZ : Z.Warmed39 s.vm) {own : String} {index : Nat} {y : MethodName} {bytes : ByteArray} {maxL W : Nat} {ret : Option FieldType} {rm : Room} {as' : Array Value} {Q : Option Value → Heap → List Loc → Prop}
    (hown : s.vm.findClass own = some m.cls) (w1 : (Cond.methodLink own index y).before a0 Z = true) (w2 : (Cond.static y).before a0 Z = true) (w3 : (Cond.initialized y.cls).before a0 Z = true) (w4 : (Cond.code y bytes maxL ret).before a0 Z = true) (hy : y.cls ≠ "java/lang/invoke/MethodHandle" ∧ y.cls ≠ "java/lang/invoke/VarHandle")
    (hM : Mt l Z y [Cond.code y bytes maxL ret] rm as' h0 Q) (hF : ∀ v h L, Q v h L → Fr n0 L) (hf : rm.frames + 1 ≤ R.frames) (hl : W + (maxL + 11) + rm.locals ≤ R.locals) (hc : cells + rm.cells ≤ R.cells) (hs : slots + rm.slots ≤ R.slots)
    {pc pc' : Nat} {Ls : Array Slot} {S argsL rest : List Value} (hsize : Ls.size = c.maxLocals) (hlen : ∀ sig, parseMethodDescriptor y.desc = some sig → argsL.length = sig.parameters.length) (hst : S = argsL.reverse ++ rest) (has : argsL.toArray = as') (hW : (rest.map fun v => v.category).sum ≤ W) (hd : decode c.code pc = .ok (.invokestatic index, 3)) (hp : pc + 3 = pc')
    (hh : ∀ v T' h' L, Sd p l e R s m args below meth c T' n0 (cells + rm.cells) (slots + rm.slots) h' → Q v h' L → Rt p e below s k n P (T'.setTop (mkF m pc' Ls (v.toList ++ rest)))) : Rt p e below s k n P (T.setTop (mkF m pc Ls S)) := by
  subst hp has
  obtain ⟨locs, X, N, eT⟩ := X
  obtain ⟨v, _, ⟨T', L', k', n'⟩, -, X', ⟨Lc, hQ, l', y', z'⟩, st⟩ := Jvm.LawKit.callS X hx (y := y) hown (mvT hZ w1) (mvT hZ w2) (mvT hZ w3) (mvT hZ w4) hy (backOf (W := W) hM hZ w4 w3 hf hl) (g := mkF m pc Ls S) rfl hsize (argsL := argsL) (rest := rest) hlen hst (by show 2 * 0 + _ ≤ _; omega) hd (fun _ _ => ⟨rfl, eT, hc, hs⟩)
  dsimp only [Pt.U, Pt.locs, Pt.cells, Pt.slots] at X' l' y' z' st hQ
  subst l' y' z'
  exact Rt.go st (hh v T' _ Lc ⟨_, X', Fr.app N (hF _ _ _ hQ), rfl⟩ hQ)
/-- a static method that writes nothing -/
theorem Rt.callP (X : Sd p l e R s m args below meth c T n0 cells slots h0) (hx : p.tables.exec = Jvm.exec) {Z : State} {a0 : Array Value} (hZ : Z.Warmed39 s.vm) {own : String} {index : Nat} {y : MethodName} {bytes : ByteArray} {maxL W : Nat} {ret : Option FieldType} {rm : Room} {as' : Array Value} {r : Value}
    (hown : s.vm.findClass own = some m.cls) (w1 : (Cond.methodLink own index y).before a0 Z = true) (w2 : (Cond.static y).before a0 Z = true) (w3 : (Cond.initialized y.cls).before a0 Z = true) (w4 : (Cond.code y bytes maxL ret).before a0 Z = true) (hy : y.cls ≠ "java/lang/invoke/MethodHandle" ∧ y.cls ≠ "java/lang/invoke/VarHandle")
    (hM : Mt l Z y [Cond.code y bytes maxL ret] rm as' h0 (fun v h L => v = some r ∧ Fr n0 L ∧ h = h0)) (hf : rm.frames + 1 ≤ R.frames) (hl : W + (maxL + 11) + rm.locals ≤ R.locals) (hc : cells + rm.cells ≤ R.cells) (hs : slots + rm.slots ≤ R.slots) (hc0 : rm.cells = 0) (hs0 : rm.slots = 0)
    {pc pc' : Nat} {Ls : Array Slot} {S argsL rest : List Value} (hsize : Ls.size = c.maxLocals) (hlen : ∀ sig, parseMethodDescriptor y.desc = some sig → argsL.length = sig.parameters.length) (hst : S = argsL.reverse ++ rest) (has : argsL.toArray = as') (hW : (rest.map fun v => v.category).sum ≤ W) (hd : decode c.code pc = .ok (.invokestatic index, 3)) (hp : pc + 3 = pc')
    (hh : ∀ T', Sd p l e R s m args below meth c T' n0 cells slots h0 → Rt p e below s k n P (T'.setTop (mkF m pc' Ls (r :: rest)))) : Rt p e below s k n P (T.setTop (mkF m pc Ls S)) := by
  refine Rt.callS X hx hZ hown w1 w2 w3 w4 hy hM (fun _ _ _ q => q.2.1) hf hl hc hs hsize hlen hst has hW hd hp ?_
  rintro v T' h' L X' ⟨rfl, _, rfl⟩
  rw [hc0, hs0, Nat.add_zero, Nat.add_zero] at X'
  exact hh T' X'
/-- an instance method, by the contract of the body that the receiver's class selects -/
theorem Rt.callV (X : Sd p l e R s m args below meth c T n0 cells slots h0) (hx : p.tables.exec = Jvm.exec) {Z : State} {a0 : Array Value} (hZ : Z.Warmed39 s.vm) {own : String} {index : Nat} {y : MethodName} {bytes : ByteArray} {maxL W : Nat} {ret : Option FieldType} {rm : Room} {as' : Array Value} {Q : Option Value → Heap → List Loc → Prop} {K : String} {yz : MethodName}
    (hown : s.vm.findClass own = some m.cls) (w1 : (Cond.methodLink own index y).before a0 Z = true) (w2 : (Cond.declares y).before a0 Z = true) (hnf : NotFace s y) (w5 : (Cond.selects K y yz).before a0 Z = true) (w6 : (Cond.instanceMethod yz).before a0 Z = true) (w3 : (Cond.initialized yz.cls).before a0 Z = true) (w4 : (Cond.code yz bytes maxL ret).before a0 Z = true) (hy : y.cls ≠ "java/lang/invoke/MethodHandle" ∧ y.cls ≠ "java/lang/invoke/VarHandle")
    {a : Addr} (E : Exa Z h0 a K) (hM : Mt l Z yz [Cond.code yz bytes maxL ret] rm as' h0 Q) (hF : ∀ v h L, Q v h L → Fr n0 L) (hf : rm.frames + 1 ≤ R.frames) (hl : W + (maxL + 11) + rm.locals ≤ R.locals) (hc : cells + rm.cells ≤ R.cells) (hs : slots + rm.slots ≤ R.slots)
    {pc pc' : Nat} {Ls : Array Slot} {S argsL rest : List Value} (hsize : Ls.size = c.maxLocals) (hlen : ∀ sig, parseMethodDescriptor y.desc = some sig → argsL.length = sig.parameters.length) (hst : S = argsL.reverse ++ .ref a :: rest) (has : (.ref a :: argsL).toArray = as') (hW : (rest.map fun v => v.category).sum ≤ W) (hd : decode c.code pc = .ok (.invokevirtual index, 3)) (hp : pc + 3 = pc')
    (hh : ∀ v T' h' L, Sd p l e R s m args below meth c T' n0 (cells + rm.cells) (slots + rm.slots) h' → Q v h' L → Rt p e below s k n P (T'.setTop (mkF m pc' Ls (v.toList ++ rest)))) : Rt p e below s k n P (T.setTop (mkF m pc Ls S)) := by
  subst hp has
  obtain ⟨locs, X, N, eT⟩ := X
  obtain ⟨cq, kq, qa, qb, qc⟩ := isOf hZ eT E
  obtain ⟨v, _, ⟨T', L', k', n'⟩, -, X', ⟨Lc, hQ, l', y', z'⟩, st⟩ := X.virtualBack hx (y := y) (z := yz) hown (mvT hZ w1) (mvT hZ w2) hnf (mvT hZ w5) (mvT hZ w6) hy (backOf (W := W) hM hZ w4 w3 hf hl) qa qc (g := mkF m pc Ls S) rfl hsize (Steps.refl _) (argsL := argsL) (rest := rest) hlen hst (by show 2 * 0 + _ ≤ _; omega) hd (fun _ _ => ⟨rfl, eT, hc, hs⟩)
  dsimp only [Pt.U, Pt.locs, Pt.cells, Pt.slots] at X' l' y' z' st hQ
  subst l' y' z'
  exact Rt.go (fun _ q => st.trans q) (hh v T' _ Lc ⟨_, X', Fr.app N (hF _ _ _ hQ), rfl⟩ hQ)
/-- a constructor by its contract -/
theorem Rt.callI (X : Sd p l e R s m args below meth c T n0 cells slots h0) (hx : p.tables.exec = Jvm.exec) {Z : State} {a0 : Array Value} (hZ : Z.Warmed39 s.vm) {own : String} {index : Nat} {y : MethodName} {bytes : ByteArray} {maxL W : Nat} {rm : Room} {as' : Array Value} {Q : Option Value → Heap → List Loc → Prop} (hy1 : y.name = "<init>")
    (hown : s.vm.findClass own = some m.cls) (w1 : (Cond.methodLink own index y).before a0 Z = true) (w2 : (Cond.instanceMethod y).before a0 Z = true) (w3 : (Cond.initialized y.cls).before a0 Z = true) (w4 : (Cond.code y bytes maxL none).before a0 Z = true) (hy : y.cls ≠ "java/lang/invoke/MethodHandle" ∧ y.cls ≠ "java/lang/invoke/VarHandle")
    {a : Addr} (hM : Mt l Z y [Cond.code y bytes maxL none] rm as' h0 Q) (hF : ∀ v h L, Q v h L → Fr n0 L) (hf : rm.frames + 1 ≤ R.frames) (hl : W + (maxL + 11) + rm.locals ≤ R.locals) (hc : cells + rm.cells ≤ R.cells) (hs : slots + rm.slots ≤ R.slots)
    {pc pc' : Nat} {Ls : Array Slot} {S argsL rest : List Value} (hsize : Ls.size = c.maxLocals) (hlen : ∀ sig, parseMethodDescriptor y.desc = some sig → argsL.length = sig.parameters.length) (hst : S = argsL.reverse ++ .ref a :: rest) (has : (.ref a :: argsL).toArray = as') (hW : (rest.map fun v => v.category).sum ≤ W) (hd : decode c.code pc = .ok (.invokespecial index, 3)) (hp : pc + 3 = pc')
    (hh : ∀ v T' h' L, Sd p l e R s m args below meth c T' n0 (cells + rm.cells) (slots + rm.slots) h' → Q v h' L → Rt p e below s k n P (T'.setTop (mkF m pc' Ls (v.toList ++ rest)))) : Rt p e below s k n P (T.setTop (mkF m pc Ls S)) := by
  subst hp has
  obtain ⟨locs, X, N, eT⟩ := X
  obtain ⟨v, _, ⟨T', L', k', n'⟩, -, X', ⟨Lc, hQ, l', y', z'⟩, st⟩ := X.specialBack hx (y := y) hy1 hown (mvT hZ w1) (mvT hZ w2) (mvT hZ w4) hy (backOf (W := W) hM hZ w4 w3 hf hl) (g := mkF m pc Ls S) rfl hsize (Steps.refl _) (a := a) (argsL := argsL) (rest := rest) hlen hst (by show 2 * 0 + _ ≤ _; omega) hd (fun _ _ => ⟨rfl, eT, hc, hs⟩)
  dsimp only [Pt.U, Pt.locs, Pt.cells, Pt.slots] at X' l' y' z' st hQ
  subst l' y' z'
  exact Rt.go (fun _ q => st.trans q) (hh v T' _ Lc ⟨_, X', Fr.app N (hF _ _ _ hQ), rfl⟩ hQ)
/-- a private instance method by its contract -/
theorem Rt.callPr (X : Sd p l e R s m args below meth c T n0 cells slots h0) (hx : p.tables.exec = Jvm.exec) {Z : State} {a0 : Array Value} (hZ : Z.Warmed39 s.vm) {own : String} {index : Nat} {y : MethodName} {bytes : ByteArray} {maxL W : Nat} {ret : Option FieldType} {rm : Room} {as' : Array Value} {Q : Option Value → Heap → List Loc → Prop} {K : String} {nf : Nat}
    (hown : s.vm.findClass own = some m.cls) (w1 : (Cond.methodLink own index y).before a0 Z = true) (w2 : (Cond.instanceMethod y).before a0 Z = true) (w5 : (Cond.privateMethod y).before a0 Z = true) (wi : (Cond.instantiable y.cls nf).before a0 Z = true) (w3 : (Cond.initialized y.cls).before a0 Z = true) (w4 : (Cond.code y bytes maxL ret).before a0 Z = true) (hy : y.cls ≠ "java/lang/invoke/MethodHandle" ∧ y.cls ≠ "java/lang/invoke/VarHandle")
    {a : Addr} (E : Exa Z h0 a K) (hM : Mt l Z y [Cond.code y bytes maxL ret] rm as' h0 Q) (hF : ∀ v h L, Q v h L → Fr n0 L) (hf : rm.frames + 1 ≤ R.frames) (hl : W + (maxL + 11) + rm.locals ≤ R.locals) (hc : cells + rm.cells ≤ R.cells) (hs : slots + rm.slots ≤ R.slots)
    {pc pc' : Nat} {Ls : Array Slot} {S argsL rest : List Value} (hsize : Ls.size = c.maxLocals) (hlen : ∀ sig, parseMethodDescriptor y.desc = some sig → argsL.length = sig.parameters.length) (hst : S = argsL.reverse ++ .ref a :: rest) (has : (.ref a :: argsL).toArray = as') (hW : (rest.map fun v => v.category).sum ≤ W) (hd : decode c.code pc = .ok (.invokevirtual index, 3)) (hp : pc + 3 = pc')
    (hh : ∀ v T' h' L, Sd p l e R s m args below meth c T' n0 (cells + rm.cells) (slots + rm.slots) h' → Q v h' L → Rt p e below s k n P (T'.setTop (mkF m pc' Ls (v.toList ++ rest)))) : Rt p e below s k n P (T.setTop (mkF m pc Ls S)) := by
  subst hp has
  obtain ⟨locs, X, N, eT⟩ := X
  obtain ⟨ce, q1, q2⟩ := E.cell
  obtain ⟨cc, kc, i1, i2, -, i4, -⟩ := Cond.instantiable_spec (mvT hZ wi (args := args))
  have hpv := Cond.privateMethod_at (mvP hZ w5 (args := #[]))
  have hni : kc.isInterface = false := by simp only [Bool.or_eq_false_iff] at i4; exact i4.1
  obtain ⟨v, _, ⟨T', L', k', n'⟩, -, X', ⟨Lc, hQ, l', y', z'⟩, st⟩ := X.privateBack hx (y := y) hown (mvT hZ w1) (mvT hZ w2) (selects_self_of_private i1 i2 hni hpv (mvT hZ w2) hy) hpv (mvT hZ w4) hy (backOf (W := W) hM hZ w4 w3 hf hl) (g := mkF m pc Ls S) rfl hsize (Steps.refl _) (a := a) (by rw [eT]; exact q1) q2 (argsL := argsL) (rest := rest) hlen hst (by show 2 * 0 + _ ≤ _; omega) hd (fun _ _ => ⟨rfl, eT, hc, hs⟩)
  dsimp only [Pt.U, Pt.locs, Pt.cells, Pt.slots] at X' l' y' z' st hQ
  subst l' y' z'
  exact Rt.go (fun _ q => st.trans q) (hh v T' _ Lc ⟨_, X', Fr.app N (hF _ _ _ hQ), rfl⟩ hQ)
theorem Rt.initO (X : Sd p l e R s m args below meth c T n0 cells slots h0) (hx : p.tables.exec = Jvm.exec) {Z : State} {a0 : Array Value} (hZ : Z.Warmed39 s.vm) {own : String} {index : Nat} (hown : s.vm.findClass own = some m.cls) (w1 : (Cond.methodLink own index Lib.objectInit).before a0 Z = true) (w2 : (Cond.instanceMethod Lib.objectInit).before a0 Z = true) (w3 : (Cond.code Lib.objectInit ⟨#[0xb1]⟩ 1 none).before a0 Z = true)
    {pc pc' W : Nat} {Ls : Array Slot} {rest : List Value} {a : Addr} (hsize : Ls.size = c.maxLocals) (hd : decode c.code pc = .ok (.invokespecial index, 3)) (hf : 1 ≤ R.frames) (hW : (rest.map fun v => v.category).sum ≤ W) (hl : W + 12 ≤ R.locals) (hp : pc + 3 = pc')
    (hh : ∀ T', Sd p l e R s m args below meth c T' n0 cells slots h0 → Rt p e below s k n P (T'.setTop (mkF m pc' Ls rest))) : Rt p e below s k n P (T.setTop (mkF m pc Ls (.ref a :: rest))) := by
  subst hp
  obtain ⟨locs, X, N, eT⟩ := X
  obtain ⟨T', X', e', st⟩ := Jvm.RoadKit.initO X hx hZ hown w1 w2 w3 eT (g := mkF m pc Ls (.ref a :: rest)) rfl hsize rfl hd hf (W := W) (by show 2 * 0 + _ ≤ _; omega) hl
  exact Rt.go st (hh T' ⟨_, X', N, e'⟩)
theorem Rt.getS (X : Sd p l e R s m args below meth c T n0 cells slots h0) (hx : p.tables.exec = Jvm.exec) {Z : State} {a0 : Array Value} (hZ : Z.Warmed39 s.vm) {own K f d host : String} {index : Nat} (hown : s.vm.findClass own = some m.cls) (w : (Cond.fieldLink own index K f d).before a0 Z = true ∨ (Cond.fieldLinkNest own index K f d host).before a0 Z = true) {v : Value} (F : Sta Z h0 K f d v) {pc pc' : Nat} {Ls : Array Slot} {S : List Value} (hd : decode c.code pc = .ok (.getstatic index, 3)) (hp : pc + 3 = pc')
    (hh : ∀ T', Sd p l e R s m args below meth c T' n0 cells slots h0 → Rt p e below s k n P (T'.setTop (mkF m pc' Ls (v :: S)))) : Rt p e below s k n P (T.setTop (mkF m pc Ls S)) := by
  subst hp
  obtain ⟨locs, X, N, eT⟩ := X
  obtain ⟨T', X', e', st⟩ := getS2 X hx hZ hown (host := host) w Via.refl eT F (g := mkF m pc Ls S) rfl hd
  exact Rt.go st (hh T' ⟨_, X', N, e'⟩)
theorem Rt.getF (X : Sd p l e R s m args below meth c T n0 cells slots h0) (hx : p.tables.exec = Jvm.exec) {Z : State} {a0 : Array Value} (hZ : Z.Warmed39 s.vm) {own K f d host : String} {index : Nat} (hown : s.vm.findClass own = some m.cls) (w : (Cond.fieldLink own index K f d).before a0 Z = true ∨ (Cond.fieldLinkNest own index K f d host).before a0 Z = true) {v : Value} {a : Addr} (F : Fld Z h0 a K f d v) {pc pc' : Nat} {Ls : Array Slot} {S : List Value} (hd : decode c.code pc = .ok (.getfield index, 3)) (hp : pc + 3 = pc')
    (hh : ∀ T', Sd p l e R s m args below meth c T' n0 cells slots h0 → Rt p e below s k n P (T'.setTop (mkF m pc' Ls (v :: S)))) : Rt p e below s k n P (T.setTop (mkF m pc Ls (.ref a :: S))) := by
  subst hp
  obtain ⟨locs, X, N, eT⟩ := X
  obtain ⟨T', X', e', st⟩ := Jvm.RoadKit.getF X hx hZ hown (host := host) w Via.refl eT F (g := mkF m pc Ls (.ref a :: S)) rfl rfl hd
  exact Rt.go st (hh T' ⟨_, X', N, e'⟩)
theorem Rt.putF (X : Sd p l e R s m args below meth c T n0 cells slots h0) (hx : p.tables.exec = Jvm.exec) {Z : State} {a0 : Array Value} (hZ : Z.Warmed39 s.vm) {own K f d C' host : String} {index kk : Nat} {ty : FieldType} (hown : s.vm.findClass own = some m.cls) (w : (Cond.fieldLink own index K f d).before a0 Z = true ∨ (Cond.fieldLinkNest own index K f d host).before a0 Z = true) {v old : Value} {a : Addr} (F : Fld Z h0 a K f d old) (E : Exa Z h0 a C') (L : (Cond.lays C' K f d).before a0 Z = true ∨ ((Cond.laysFinal C' K f d).before a0 Z = true ∧ own = K ∧ meth.name = "<init>")) (wi : (Cond.instantiable C' kk).before a0 Z = true) (hty : parseFieldDescriptor d = some ty) (hn : narrow ty v = v) (hf : fits ty v = true) (ga : n0 ≤ a) {pc pc' : Nat} {Ls : Array Slot} {S : List Value} (hd : decode c.code pc = .ok (.putfield index, 3)) (hp : pc + 3 = pc')
    (hh : ∀ T' h', Sd p l e R s m args below meth c T' n0 cells slots h' → Wr h0 h' a (Jvm.RoadKit.slotOf Z K f d) v → Fld Z h' a K f d v → Rt p e below s k n P (T'.setTop (mkF m pc' Ls S))) : Rt p e below s k n P (T.setTop (mkF m pc Ls (v :: .ref a :: S))) := by
  subst hp
  obtain ⟨locs, X, N, eT⟩ := X
  obtain ⟨T', h', X', e', W', st⟩ := Jvm.RoadKit.putF X hx hZ hown (host := host) w Via.refl eT F E L wi hty hn hf (g := mkF m pc Ls (v :: .ref a :: S)) rfl rfl hd
  exact Rt.go st (hh T' h' ⟨_, X', Fr.snoc X' N ga, e'⟩ W' (F.same W'))
theorem Rt.newO (X : Sd p l e R s m args below meth c T n0 cells slots h0) (hx : p.tables.exec = Jvm.exec) {Z : State} {a0 : Array Value} (hZ : Z.Warmed39 s.vm) {own K : String} {index nf : Nat} (hown : s.vm.findClass own = some m.cls) (w : (Cond.classLink own index K).before a0 Z = true) (wi : (Cond.instantiable K nf).before a0 Z = true) (wz : (Cond.initialized K).before a0 Z = true) {pc pc' : Nat} {Ls : Array Slot} {S : List Value} (hd : decode c.code pc = .ok (.new index, 3)) (hc : cells + 1 ≤ R.cells) (hl : slots + nf ≤ R.slots) (hp : pc + 3 = pc')
    (hh : ∀ T' h' a, a = h0.size → Sd p l e R s m args below meth c T' n0 (cells + 1) (slots + nf) h' → Ext h0 h' → Exa Z h' a K → (∀ {O nm d : String} {ty : FieldType}, Laid Z a0 K O nm d → parseFieldDescriptor d = some ty → Fld Z h' a O nm d (defaultValue ty)) → Rt p e below s k n P (T'.setTop (mkF m pc' Ls (.ref a :: S)))) : Rt p e below s k n P (T.setTop (mkF m pc Ls S)) := by
  subst hp
  obtain ⟨locs, X, N, eT⟩ := X
  obtain ⟨T', h', X', e', E', A', D', -, st⟩ := Jvm.RoadKit.newO X hx hZ hown w wi wz eT (g := mkF m pc Ls S) rfl hd hc hl
  exact Rt.go st (hh T' h' _ rfl ⟨_, X', N, e'⟩ E' A' D')
theorem Rt.castY (X : Sd p l e R s m args below meth c T n0 cells slots h0) (hx : p.tables.exec = Jvm.exec) {Z : State} {a0 : Array Value} (hZ : Z.Warmed39 s.vm) {own K : String} {index : Nat} (hown : s.vm.findClass own = some m.cls) (w : (Cond.classLink own index K).before a0 Z = true) {a : Addr} (F : Ins Z h0 a K true) {pc pc' : Nat} {Ls : Array Slot} {S : List Value} (hd : decode c.code pc = .ok (.checkcast index, 3)) (hp : pc + 3 = pc')
    (hh : ∀ T', Sd p l e R s m args below meth c T' n0 cells slots h0 → Rt p e below s k n P (T'.setTop (mkF m pc' Ls (.ref a :: S)))) : Rt p e below s k n P (T.setTop (mkF m pc Ls (.ref a :: S))) := by
  subst hp
  obtain ⟨locs, X, N, eT⟩ := X
  obtain ⟨T', X', e', st⟩ := Jvm.RoadKit.castY X hx hZ hown w eT F (g := mkF m pc Ls (.ref a :: S)) rfl rfl hd
  exact Rt.go st (hh T' ⟨_, X', N, e'⟩)
theorem Rt.instY (X : Sd p l e R s m args below meth c T n0 cells slots h0) (hx : p.tables.exec = Jvm.exec) {Z : State} {a0 : Array Value} (hZ : Z.Warmed39 s.vm) {own K : String} {index : Nat} (hown : s.vm.findClass own = some m.cls) (w : (Cond.classLink own index K).before a0 Z = true) {a : Addr} (F : Ins Z h0 a K true) {pc pc' : Nat} {Ls : Array Slot} {S : List Value} (hd : decode c.code pc = .ok (.instanceof index, 3)) (hp : pc + 3 = pc')
    (hh : ∀ T', Sd p l e R s m args below meth c T' n0 cells slots h0 → Rt p e below s k n P (T'.setTop (mkF m pc' Ls (.int 1 :: S)))) : Rt p e below s k n P (T.setTop (mkF m pc Ls (.ref a :: S))) := by
  subst hp
  obtain ⟨locs, X, N, eT⟩ := X
  obtain ⟨T', X', e', st⟩ := Jvm.RoadKit.instY X hx hZ hown w eT F (g := mkF m pc Ls (.ref a :: S)) rfl rfl hd
  exact Rt.go st (hh T' ⟨_, X', N, e'⟩)
theorem Rt.instNo (X : Sd p l e R s m args below meth c T n0 cells slots h0) (hx : p.tables.exec = Jvm.exec) {Z : State} {a0 : Array Value} (hZ : Z.Warmed39 s.vm) {own K C' : String} {index : Nat} (hown : s.vm.findClass own = some m.cls) (w : (Cond.classLink own index K).before a0 Z = true) (hs0 : s.heap = h0) {a : Addr} (F : Ins Z h0 a K false) (E : Exa Z h0 a C') {pc pc' : Nat} {Ls : Array Slot} {S : List Value} (hd : decode c.code pc = .ok (.instanceof index, 3)) (hp : pc + 3 = pc')
    (hh : ∀ T', Sd p l e R s m args below meth c T' n0 cells slots h0 → Rt p e below s k n P (T'.setTop (mkF m pc' Ls (.int 0 :: S)))) : Rt p e below s k n P (T.setTop (mkF m pc Ls (.ref a :: S))) := by
  subst hp hs0
  obtain ⟨locs, X, N, eT⟩ := X
  obtain ⟨T', X', e', st⟩ := Jvm.RoadKit.instN X hx hZ hown w eT F E (g := mkF m pc Ls (.ref a :: S)) rfl rfl hd
  exact Rt.go st (hh T' ⟨_, X', N, e'⟩)
theorem Rt.instNull (X : Sd p l e R s m args below meth c T n0 cells slots h0) (hx : p.tables.exec = Jvm.exec) {index : Nat} {pc pc' : Nat} {Ls : Array Slot} {S : List Value} (hd : decode c.code pc = .ok (.instanceof index, 3)) (hp : pc + 3 = pc')
    (h : Rt p e below s k n P (T.setTop (mkF m pc' Ls (.int 0 :: S)))) : Rt p e below s k n P (T.setTop (mkF m pc Ls (.null :: S))) := by
  subst hp
  obtain ⟨locs, X, N, eT⟩ := X
  exact Rt.go (X.instanceofNull hx (g := mkF m pc Ls (.null :: S)) rfl rfl hd) h
theorem staK {Z : State} {h h' : Heap} {K f d : String} {v : Value} (F : Sta Z h K f d v) (Kp : Keep h h' []) : Sta Z h' K f d v := by
  obtain ⟨cf, i, k, f, st, cell, h1, h2, h3, h4, h5, r⟩ := F; exact ⟨cf, i, k, f, st, cell, h1, h2, h3, h4, Kp.2.1 _ _ h5 nin0, r⟩
/-- an array of values -/
def IA (Z : State) (h : Heap) (a : Addr) (ty : FieldType) (vs : List Value) : Prop := ∃ cl : Cell, Arr Z h a cl ty ∧ cl.slots = vs.toArray ∧ vs.length < 2 ^ 31
section Arrays
variable {Z : State} {h h' : Heap} {a b : Addr} {ty : FieldType} {vs : List Value}
theorem IA.lt (F : IA Z h a ty vs) : a < h.size := by obtain ⟨_, A, -⟩ := F; exact A.lt
theorem IA.ext (F : IA Z h a ty vs) (E : Ext h h') : IA Z h' a ty vs := by obtain ⟨c, A, r⟩ := F; exact ⟨c, A.ext E, r⟩
theorem IA.other {sl : Nat} {v : Value} (F : IA Z h a ty vs) (W : Wr h h' b sl v) (q : a ≠ b) : IA Z h' a ty vs := by obtain ⟨c, A, r⟩ := F; exact ⟨c, A.other W q, r⟩
theorem IA.keep {ws : List Addr} (F : IA Z h a ty vs) (K : Keep h h' ws) (q : a ∉ ws) : IA Z h' a ty vs := by obtain ⟨c, A, r⟩ := F; exact ⟨c, ⟨K.2.1 a c A.1 q, A.2⟩, r⟩
theorem IA.set {i : Nat} {v : Value} (F : IA Z h a ty vs) (W : Wr h h' a i v) : IA Z h' a ty (vs.set i v) := by
  obtain ⟨c, A, r, q⟩ := F
  refine ⟨_, A.same W, ?_, by rw [List.length_set]; exact q⟩
  show (c.slots.setIfInBounds i v) = _
  rw [r]; simp
theorem IA.new {k : ClassId} {z : Int32} {i : Nat} (A : Arr Z h a (newA k ty z) ty) (hz : z.toNatClampNeg = i) : IA Z h a ty (List.replicate i (defaultValue ty)) := by
  refine ⟨_, A, ?_, ?_⟩
  · show Array.replicate _ _ = _
    rw [hz]; simp
  · rw [List.length_replicate, ← hz]
    have := z.toInt_lt
    simp only [Int32.toNatClampNeg]; omega
theorem inA {cl : Cell} {j : Int32} {i : Nat} (r : cl.slots = vs.toArray) (hj : ¬ j < 0) (hi : j.toNatClampNeg = i) (hv : i < vs.length) : ¬ (j < 0 ∨ cl.slots.size ≤ j.toNatClampNeg) := by
  rintro (q | q)
  · exact hj q
  · rw [r, hi] at q; simp at q; omega
end Arrays
theorem Rt.newP (X : Sd p l e R s m args below meth c T n0 cells slots h0) (hx : p.tables.exec = Jvm.exec) {Z : State} {a0 : Array Value} (hZ : Z.Warmed39 s.vm) {aty : ArrayType} {ty : FieldType} (hty : newarray.typeOf aty = ty) (w : (Cond.arrayClass ty).before a0 Z = true) {z : Int32} {i : Nat} (hz : z.toNatClampNeg = i) (hn : ¬ z < 0) {cap : Nat} (hcap : i ≤ cap) (hb : cap * 8 ≤ 536870912) {pc pc' : Nat} {Ls : Array Slot} {S : List Value} (hd : decode c.code pc = .ok (.newarray aty, 2)) (hc : cells + 1 ≤ R.cells) (hl : slots + cap ≤ R.slots) (hp : pc + 2 = pc')
    (hh : ∀ T' h' a, a = h0.size → Sd p l e R s m args below meth c T' n0 (cells + 1) (slots + cap) h' → Ext h0 h' → IA Z h' a ty (List.replicate i (defaultValue ty)) → Rt p e below s k n P (T'.setTop (mkF m pc' Ls (.ref a :: S)))) : Rt p e below s k n P (T.setTop (mkF m pc Ls (.int z :: S))) := by
  subst hp hty
  obtain ⟨locs, X, N, eT⟩ := X
  obtain ⟨T', h', cA, X', e', E', A', st⟩ := Jvm.RoadKit.newP X hx hZ w eT (g := mkF m pc Ls (.int z :: S)) rfl hd rfl hn (cap := cap) (by rw [hz]; exact hcap) hb hc hl
  exact Rt.go st (hh T' h' _ rfl ⟨_, X', N, e'⟩ E' (IA.new A' hz))
theorem Rt.arraylength (X : Sd p l e R s m args below meth c T n0 cells slots h0) (hx : p.tables.exec = Jvm.exec) {Z : State} (hZ : Z.Warmed39 s.vm) {ty : FieldType} {a : Addr} {vs : List Value} (F : IA Z h0 a ty vs) {v : Int32} (hv : vs.length.toInt32 = v) {pc pc' : Nat} {Ls : Array Slot} {S : List Value} (hd : decode c.code pc = .ok (.arraylength, 1)) (hp : pc + 1 = pc')
    (h : Rt p e below s k n P (T.setTop (mkF m pc' Ls (.int v :: S)))) : Rt p e below s k n P (T.setTop (mkF m pc Ls (.ref a :: S))) := by
  subst hp hv
  obtain ⟨locs, X, N, eT⟩ := X
  obtain ⟨cl, A, r, q⟩ := F
  have e1 : vs.length = cl.slots.size := by rw [r]; simp
  rw [e1] at h
  exact Rt.go (X.arraylength hx (by rw [eT]; exact A.1) (State.isArrayOf_alike hZ.alike A.2.1) (g := mkF m pc Ls (.ref a :: S)) rfl rfl hd) h

theorem Rt.iaload (X : Sd p l e R s m args below meth c T n0 cells slots h0) (hx : p.tables.exec = Jvm.exec) {Z : State} (hZ : Z.Warmed39 s.vm) {a : Addr} {vs : List Value} (F : IA Z h0 a .int vs) {j : Int32} {i : Nat} (hi : j.toNatClampNeg = i) (hj : ¬ j < 0) {v : Value} (hv : vs[i]? = some v) {pc pc' : Nat} {Ls : Array Slot} {S : List Value} (hd : decode c.code pc = .ok (.iaload, 1)) (hp : pc + 1 = pc')
    (h : Rt p e below s k n P (T.setTop (mkF m pc' Ls (v :: S)))) : Rt p e below s k n P (T.setTop (mkF m pc Ls (.int j :: .ref a :: S))) := by
  subst hp
  obtain ⟨locs, X, N, eT⟩ := X
  obtain ⟨cl, A, r, q⟩ := F
  exact Rt.go (X.iaload hx (j := j) (v := v) (by rw [eT]; exact A.1) (State.isArrayOf_alike hZ.alike A.2.1) A.2.2 (inA r hj hi (List.getElem?_eq_some_iff.mp hv).1) (by rw [r, hi]; simpa using hv) (g := mkF m pc Ls (.int j :: .ref a :: S)) rfl rfl hd) h
theorem Rt.laload (X : Sd p l e R s m args below meth c T n0 cells slots h0) (hx : p.tables.exec = Jvm.exec) {Z : State} (hZ : Z.Warmed39 s.vm) {a : Addr} {vs : List Value} (F : IA Z h0 a .long vs) {j : Int32} {i : Nat} (hi : j.toNatClampNeg = i) (hj : ¬ j < 0) {v : Value} (hv : vs[i]? = some v) {pc pc' : Nat} {Ls : Array Slot} {S : List Value} (hd : decode c.code pc = .ok (.laload, 1)) (hp : pc + 1 = pc')
    (h : Rt p e below s k n P (T.setTop (mkF m pc' Ls (v :: S)))) : Rt p e below s k n P (T.setTop (mkF m pc Ls (.int j :: .ref a :: S))) := by
  subst hp
  obtain ⟨locs, X, N, eT⟩ := X
  obtain ⟨cl, A, r, q⟩ := F
  exact Rt.go (X.laload hx (j := j) (v := v) (by rw [eT]; exact A.1) (State.isArrayOf_alike hZ.alike A.2.1) A.2.2 (inA r hj hi (List.getElem?_eq_some_iff.mp hv).1) (by rw [r, hi]; simpa using hv) (g := mkF m pc Ls (.int j :: .ref a :: S)) rfl rfl hd) h
theorem Rt.baload (X : Sd p l e R s m args below meth c T n0 cells slots h0) (hx : p.tables.exec = Jvm.exec) {Z : State} (hZ : Z.Warmed39 s.vm) {a : Addr} {vs : List Value} (F : IA Z h0 a .byte vs) {j : Int32} {i : Nat} (hi : j.toNatClampNeg = i) (hj : ¬ j < 0) {v : Value} (hv : vs[i]? = some v) {pc pc' : Nat} {Ls : Array Slot} {S : List Value} (hd : decode c.code pc = .ok (.baload, 1)) (hp : pc + 1 = pc')
    (h : Rt p e below s k n P (T.setTop (mkF m pc' Ls (v :: S)))) : Rt p e below s k n P (T.setTop (mkF m pc Ls (.int j :: .ref a :: S))) := by
  subst hp
  obtain ⟨locs, X, N, eT⟩ := X
  obtain ⟨cl, A, r, q⟩ := F
  exact Rt.go (X.baloadBytes hx (j := j) (v := v) (by rw [eT]; exact A.1) (State.isArrayOf_alike hZ.alike A.2.1) A.2.2 (inA r hj hi (List.getElem?_eq_some_iff.mp hv).1) (by rw [r, hi]; simpa using hv) (g := mkF m pc Ls (.int j :: .ref a :: S)) rfl rfl hd) h
theorem Rt.zaload (X : Sd p l e R s m args below meth c T n0 cells slots h0) (hx : p.tables.exec = Jvm.exec) {Z : State} (hZ : Z.Warmed39 s.vm) {a : Addr} {vs : List Value} (F : IA Z h0 a .boolean vs) {j : Int32} {i : Nat} (hi : j.toNatClampNeg = i) (hj : ¬ j < 0) {v : Value} (hv : vs[i]? = some v) {pc pc' : Nat} {Ls : Array Slot} {S : List Value} (hd : decode c.code pc = .ok (.baload, 1)) (hp : pc + 1 = pc')
    (h : Rt p e below s k n P (T.setTop (mkF m pc' Ls (v :: S)))) : Rt p e below s k n P (T.setTop (mkF m pc Ls (.int j :: .ref a :: S))) := by
  subst hp
  obtain ⟨locs, X, N, eT⟩ := X
  obtain ⟨cl, A, r, q⟩ := F
  exact Rt.go (X.baloadBooleans hx (j := j) (v := v) (by rw [eT]; exact A.1) (State.isArrayOf_alike hZ.alike A.2.1) A.2.2 (inA r hj hi (List.getElem?_eq_some_iff.mp hv).1) (by rw [r, hi]; simpa using hv) (g := mkF m pc Ls (.int j :: .ref a :: S)) rfl rfl hd) h
theorem Rt.caload (X : Sd p l e R s m args below meth c T n0 cells slots h0) (hx : p.tables.exec = Jvm.exec) {Z : State} (hZ : Z.Warmed39 s.vm) {a : Addr} {vs : List Value} (F : IA Z h0 a .char vs) {j : Int32} {i : Nat} (hi : j.toNatClampNeg = i) (hj : ¬ j < 0) {v : Value} (hv : vs[i]? = some v) {pc pc' : Nat} {Ls : Array Slot} {S : List Value} (hd : decode c.code pc = .ok (.caload, 1)) (hp : pc + 1 = pc')
    (h : Rt p e below s k n P (T.setTop (mkF m pc' Ls (v :: S)))) : Rt p e below s k n P (T.setTop (mkF m pc Ls (.int j :: .ref a :: S))) := by
  subst hp
  obtain ⟨locs, X, N, eT⟩ := X
  obtain ⟨cl, A, r, q⟩ := F
  exact Rt.go (X.caload hx (j := j) (v := v) (by rw [eT]; exact A.1) (State.isArrayOf_alike hZ.alike A.2.1) A.2.2 (inA r hj hi (List.getElem?_eq_some_iff.mp hv).1) (by rw [r, hi]; simpa using hv) (g := mkF m pc Ls (.int j :: .ref a :: S)) rfl rfl hd) h
theorem Rt.aaload (X : Sd p l e R s m args below meth c T n0 cells slots h0) (hx : p.tables.exec = Jvm.exec) {Z : State} (hZ : Z.Warmed39 s.vm) {ty : FieldType} (hty : ty.isReference = true) {a : Addr} {vs : List Value} (F : IA Z h0 a ty vs) {j : Int32} {i : Nat} (hi : j.toNatClampNeg = i) (hj : ¬ j < 0) {v : Value} (hv : vs[i]? = some v) {pc pc' : Nat} {Ls : Array Slot} {S : List Value} (hd : decode c.code pc = .ok (.aaload, 1)) (hp : pc + 1 = pc')
    (h : Rt p e below s k n P (T.setTop (mkF m pc' Ls (v :: S)))) : Rt p e below s k n P (T.setTop (mkF m pc Ls (.int j :: .ref a :: S))) := by
  subst hp
  obtain ⟨locs, X, N, eT⟩ := X
  obtain ⟨cl, A, r, q⟩ := F
  exact Rt.go (X.aaload hx (j := j) (v := v) (by rw [eT]; exact A.1) (State.isArrayOf_alike hZ.alike A.2.1) hty A.2.2 (inA r hj hi (List.getElem?_eq_some_iff.mp hv).1) (by rw [r, hi]; simpa using hv) (g := mkF m pc Ls (.int j :: .ref a :: S)) rfl rfl hd) h
theorem Rt.iastore (X : Sd p l e R s m args below meth c T n0 cells slots h0) (hx : p.tables.exec = Jvm.exec) {Z : State} (hZ : Z.Warmed39 s.vm) {a : Addr} {vs : List Value} (F : IA Z h0 a .int vs) {j : Int32} {i : Nat} (hi : j.toNatClampNeg = i) (hj : ¬ j < 0) (hv : i < vs.length) {x : Int32} {w : Value} (hw : .int x = w) (ga : n0 ≤ a) {pc pc' : Nat} {Ls : Array Slot} {S : List Value} (hd : decode c.code pc = .ok (.iastore, 1)) (hp : pc + 1 = pc')
    (hh : ∀ T' h', Sd p l e R s m args below meth c T' n0 cells slots h' → Wr h0 h' a i w → IA Z h' a .int (vs.set i w) → Rt p e below s k n P (T'.setTop (mkF m pc' Ls S))) : Rt p e below s k n P (T.setTop (mkF m pc Ls (.int x :: .int j :: .ref a :: S))) := by
  subst hp hw
  obtain ⟨locs, X, N, eT⟩ := X
  obtain ⟨cl, A, r, q⟩ := id F
  obtain ⟨T', h', X', e', W', st⟩ := stI X hx hZ eT A (j := j) (inA r hj hi hv) (g := mkF m pc Ls (.int x :: .int j :: .ref a :: S)) rfl rfl hd
  rw [hi] at W'
  exact Rt.go st (hh T' h' ⟨_, X', Fr.snoc X' N ga, e'⟩ W' (F.set W'))
theorem Rt.lastore (X : Sd p l e R s m args below meth c T n0 cells slots h0) (hx : p.tables.exec = Jvm.exec) {Z : State} (hZ : Z.Warmed39 s.vm) {a : Addr} {vs : List Value} (F : IA Z h0 a .long vs) {j : Int32} {i : Nat} (hi : j.toNatClampNeg = i) (hj : ¬ j < 0) (hv : i < vs.length) {x : Int64} {w : Value} (hw : .long x = w) (ga : n0 ≤ a) {pc pc' : Nat} {Ls : Array Slot} {S : List Value} (hd : decode c.code pc = .ok (.lastore, 1)) (hp : pc + 1 = pc')
    (hh : ∀ T' h', Sd p l e R s m args below meth c T' n0 cells slots h' → Wr h0 h' a i w → IA Z h' a .long (vs.set i w) → Rt p e below s k n P (T'.setTop (mkF m pc' Ls S))) : Rt p e below s k n P (T.setTop (mkF m pc Ls (.long x :: .int j :: .ref a :: S))) := by
  subst hp hw
  obtain ⟨locs, X, N, eT⟩ := X
  obtain ⟨cl, A, r, q⟩ := id F
  obtain ⟨T', h', X', e', W', st⟩ := stJ X hx hZ eT A (j := j) (inA r hj hi hv) (g := mkF m pc Ls (.long x :: .int j :: .ref a :: S)) rfl rfl hd
  rw [hi] at W'
  exact Rt.go st (hh T' h' ⟨_, X', Fr.snoc X' N ga, e'⟩ W' (F.set W'))
theorem Rt.bastore (X : Sd p l e R s m args below meth c T n0 cells slots h0) (hx : p.tables.exec = Jvm.exec) {Z : State} (hZ : Z.Warmed39 s.vm) {a : Addr} {vs : List Value} (F : IA Z h0 a .byte vs) {j : Int32} {i : Nat} (hi : j.toNatClampNeg = i) (hj : ¬ j < 0) (hv : i < vs.length) {x : Int32} {w : Value} (hw : .int (nar .byte x) = w) (ga : n0 ≤ a) {pc pc' : Nat} {Ls : Array Slot} {S : List Value} (hd : decode c.code pc = .ok (.bastore, 1)) (hp : pc + 1 = pc')
    (hh : ∀ T' h', Sd p l e R s m args below meth c T' n0 cells slots h' → Wr h0 h' a i w → IA Z h' a .byte (vs.set i w) → Rt p e below s k n P (T'.setTop (mkF m pc' Ls S))) : Rt p e below s k n P (T.setTop (mkF m pc Ls (.int x :: .int j :: .ref a :: S))) := by
  subst hp hw
  obtain ⟨locs, X, N, eT⟩ := X
  obtain ⟨cl, A, r, q⟩ := id F
  obtain ⟨T', h', X', e', W', st⟩ := stB X hx hZ eT A (j := j) (inA r hj hi hv) (g := mkF m pc Ls (.int x :: .int j :: .ref a :: S)) rfl rfl hd
  rw [hi] at W'
  exact Rt.go st (hh T' h' ⟨_, X', Fr.snoc X' N ga, e'⟩ W' (F.set W'))
theorem Rt.zastore (X : Sd p l e R s m args below meth c T n0 cells slots h0) (hx : p.tables.exec = Jvm.exec) {Z : State} (hZ : Z.Warmed39 s.vm) {a : Addr} {vs : List Value} (F : IA Z h0 a .boolean vs) {j : Int32} {i : Nat} (hi : j.toNatClampNeg = i) (hj : ¬ j < 0) (hv : i < vs.length) {x : Int32} {w : Value} (hw : .int (nar .boolean x) = w) (ga : n0 ≤ a) {pc pc' : Nat} {Ls : Array Slot} {S : List Value} (hd : decode c.code pc = .ok (.bastore, 1)) (hp : pc + 1 = pc')
    (hh : ∀ T' h', Sd p l e R s m args below meth c T' n0 cells slots h' → Wr h0 h' a i w → IA Z h' a .boolean (vs.set i w) → Rt p e below s k n P (T'.setTop (mkF m pc' Ls S))) : Rt p e below s k n P (T.setTop (mkF m pc Ls (.int x :: .int j :: .ref a :: S))) := by
  subst hp hw
  obtain ⟨locs, X, N, eT⟩ := X
  obtain ⟨cl, A, r, q⟩ := id F
  obtain ⟨T', h', X', e', W', st⟩ := stZ X hx hZ eT A (j := j) (inA r hj hi hv) (g := mkF m pc Ls (.int x :: .int j :: .ref a :: S)) rfl rfl hd
  rw [hi] at W'
  exact Rt.go st (hh T' h' ⟨_, X', Fr.snoc X' N ga, e'⟩ W' (F.set W'))
theorem Rt.castore (X : Sd p l e R s m args below meth c T n0 cells slots h0) (hx : p.tables.exec = Jvm.exec) {Z : State} (hZ : Z.Warmed39 s.vm) {a : Addr} {vs : List Value} (F : IA Z h0 a .char vs) {j : Int32} {i : Nat} (hi : j.toNatClampNeg = i) (hj : ¬ j < 0) (hv : i < vs.length) {x : Int32} {w : Value} (hw : .int (nar .char x) = w) (ga : n0 ≤ a) {pc pc' : Nat} {Ls : Array Slot} {S : List Value} (hd : decode c.code pc = .ok (.castore, 1)) (hp : pc + 1 = pc')
    (hh : ∀ T' h', Sd p l e R s m args below meth c T' n0 cells slots h' → Wr h0 h' a i w → IA Z h' a .char (vs.set i w) → Rt p e below s k n P (T'.setTop (mkF m pc' Ls S))) : Rt p e below s k n P (T.setTop (mkF m pc Ls (.int x :: .int j :: .ref a :: S))) := by
  subst hp hw
  obtain ⟨locs, X, N, eT⟩ := X
  obtain ⟨cl, A, r, q⟩ := id F
  obtain ⟨T', h', X', e', W', st⟩ := stC X hx hZ eT A (j := j) (inA r hj hi hv) (g := mkF m pc Ls (.int x :: .int j :: .ref a :: S)) rfl rfl hd
  rw [hi] at W'
  exact Rt.go st (hh T' h' ⟨_, X', Fr.snoc X' N ga, e'⟩ W' (F.set W'))
/-- an array of so many elements -/
def IL (Z : State) (h : Heap) (a : Addr) (ty : FieldType) (N : Nat) : Prop := ∃ vs, IA Z h a ty vs ∧ vs.length = N
section Arrays
variable {Z : State} {h h' : Heap} {a b : Addr} {ty : FieldType} {N : Nat}
theorem IL.lt (F : IL Z h a ty N) : a < h.size := by obtain ⟨_, A, -⟩ := F; exact A.lt
theorem IL.ext (F : IL Z h a ty N) (E : Ext h h') : IL Z h' a ty N := by obtain ⟨c, A, r⟩ := F; exact ⟨c, A.ext E, r⟩
theorem IL.other {sl : Nat} {v : Value} (F : IL Z h a ty N) (W : Wr h h' b sl v) (q : a ≠ b) : IL Z h' a ty N := by obtain ⟨c, A, r⟩ := F; exact ⟨c, A.other W q, r⟩
theorem IL.wr {sl : Nat} {v : Value} (F : IL Z h a ty N) (W : Wr h h' b sl v) : IL Z h' a ty N := by
  obtain ⟨vs, A, r⟩ := F
  by_cases q : a = b
  · subst q; exact ⟨_, A.set W, by rw [List.length_set]; exact r⟩
  · exact ⟨vs, A.other W q, r⟩
theorem IL.keep {ws : List Addr} (F : IL Z h a ty N) (K : Keep h h' ws) : IL Z h' a ty N := by
  obtain ⟨vs, ⟨c, ⟨A1, ⟨A2, A3⟩, A4⟩, r1, r2⟩, r⟩ := F
  obtain ⟨c', q, e1, e2, e3⟩ := K.2.2 a c A1
  refine ⟨c'.slots.toList, ⟨c', ⟨q, ⟨?_, ?_⟩, by rw [e2]; exact A4⟩, by simp, ?_⟩, ?_⟩
  · rw [e2]; exact A2
  · rw [e1]; exact A3
  · rw [Array.length_toList, e3, r1]; simpa using r2
  · rw [Array.length_toList, e3, r1]; simpa using r
end Arrays
theorem Rt.arraylengthL (X : Sd p l e R s m args below meth c T n0 cells slots h0) (hx : p.tables.exec = Jvm.exec) {Z : State} (hZ : Z.Warmed39 s.vm) {ty : FieldType} {a : Addr} {N : Nat} (F : IL Z h0 a ty N) {v : Int32} (hv : N.toInt32 = v) {pc pc' : Nat} {Ls : Array Slot} {S : List Value} (hd : decode c.code pc = .ok (.arraylength, 1)) (hp : pc + 1 = pc')
    (h : Rt p e below s k n P (T.setTop (mkF m pc' Ls (.int v :: S)))) : Rt p e below s k n P (T.setTop (mkF m pc Ls (.ref a :: S))) := by
  obtain ⟨vs, F, rfl⟩ := F
  exact Rt.arraylength X hx hZ F hv hd hp h
theorem Rt.iastoreL (X : Sd p l e R s m args below meth c T n0 cells slots h0) (hx : p.tables.exec = Jvm.exec) {Z : State} (hZ : Z.Warmed39 s.vm) {a : Addr} {N : Nat} (F : IL Z h0 a .int N) {j : Int32} {i : Nat} (hi : j.toNatClampNeg = i) (hj : ¬ j < 0) (hv : i < N) {x : Int32} (ga : n0 ≤ a) {pc pc' : Nat} {Ls : Array Slot} {S : List Value} (hd : decode c.code pc = .ok (.iastore, 1)) (hp : pc + 1 = pc')
    (hh : ∀ T' h', Sd p l e R s m args below meth c T' n0 cells slots h' → ∀ w, Wr h0 h' a i w → IL Z h' a .int N → Rt p e below s k n P (T'.setTop (mkF m pc' Ls S))) : Rt p e below s k n P (T.setTop (mkF m pc Ls (.int x :: .int j :: .ref a :: S))) := by
  obtain ⟨vs, F, rfl⟩ := F
  exact Rt.iastore X hx hZ F hi hj hv rfl ga hd hp fun T' h' X' W' F' => hh T' h' X' _ W' ⟨_, F', List.length_set⟩
theorem Rt.lastoreL (X : Sd p l e R s m args below meth c T n0 cells slots h0) (hx : p.tables.exec = Jvm.exec) {Z : State} (hZ : Z.Warmed39 s.vm) {a : Addr} {N : Nat} (F : IL Z h0 a .long N) {j : Int32} {i : Nat} (hi : j.toNatClampNeg = i) (hj : ¬ j < 0) (hv : i < N) {x : Int64} (ga : n0 ≤ a) {pc pc' : Nat} {Ls : Array Slot} {S : List Value} (hd : decode c.code pc = .ok (.lastore, 1)) (hp : pc + 1 = pc')
    (hh : ∀ T' h', Sd p l e R s m args below meth c T' n0 cells slots h' → ∀ w, Wr h0 h' a i w → IL Z h' a .long N → Rt p e below s k n P (T'.setTop (mkF m pc' Ls S))) : Rt p e below s k n P (T.setTop (mkF m pc Ls (.long x :: .int j :: .ref a :: S))) := by
  obtain ⟨vs, F, rfl⟩ := F
  exact Rt.lastore X hx hZ F hi hj hv rfl ga hd hp fun T' h' X' W' F' => hh T' h' X' _ W' ⟨_, F', List.length_set⟩
theorem Rt.bastoreL (X : Sd p l e R s m args below meth c T n0 cells slots h0) (hx : p.tables.exec = Jvm.exec) {Z : State} (hZ : Z.Warmed39 s.vm) {a : Addr} {N : Nat} (F : IL Z h0 a .byte N) {j : Int32} {i : Nat} (hi : j.toNatClampNeg = i) (hj : ¬ j < 0) (hv : i < N) {x : Int32} (ga : n0 ≤ a) {pc pc' : Nat} {Ls : Array Slot} {S : List Value} (hd : decode c.code pc = .ok (.bastore, 1)) (hp : pc + 1 = pc')
    (hh : ∀ T' h', Sd p l e R s m args below meth c T' n0 cells slots h' → ∀ w, Wr h0 h' a i w → IL Z h' a .byte N → Rt p e below s k n P (T'.setTop (mkF m pc' Ls S))) : Rt p e below s k n P (T.setTop (mkF m pc Ls (.int x :: .int j :: .ref a :: S))) := by
  obtain ⟨vs, F, rfl⟩ := F
  exact Rt.bastore X hx hZ F hi hj hv rfl ga hd hp fun T' h' X' W' F' => hh T' h' X' _ W' ⟨_, F', List.length_set⟩
theorem Rt.zastoreL (X : Sd p l e R s m args below meth c T n0 cells slots h0) (hx : p.tables.exec = Jvm.exec) {Z : State} (hZ : Z.Warmed39 s.vm) {a : Addr} {N : Nat} (F : IL Z h0 a .boolean N) {j : Int32} {i : Nat} (hi : j.toNatClampNeg = i) (hj : ¬ j < 0) (hv : i < N) {x : Int32} (ga : n0 ≤ a) {pc pc' : Nat} {Ls : Array Slot} {S : List Value} (hd : decode c.code pc = .ok (.bastore, 1)) (hp : pc + 1 = pc')
    (hh : ∀ T' h', Sd p l e R s m args below meth c T' n0 cells slots h' → ∀ w, Wr h0 h' a i w → IL Z h' a .boolean N → Rt p e below s k n P (T'.setTop (mkF m pc' Ls S))) : Rt p e below s k n P (T.setTop (mkF m pc Ls (.int x :: .int j :: .ref a :: S))) := by
  obtain ⟨vs, F, rfl⟩ := F
  exact Rt.zastore X hx hZ F hi hj hv rfl ga hd hp fun T' h' X' W' F' => hh T' h' X' _ W' ⟨_, F', List.length_set⟩
theorem Rt.castoreL (X : Sd p l e R s m args below meth c T n0 cells slots h0) (hx : p.tables.exec = Jvm.exec) {Z : State} (hZ : Z.Warmed39 s.vm) {a : Addr} {N : Nat} (F : IL Z h0 a .char N) {j : Int32} {i : Nat} (hi : j.toNatClampNeg = i) (hj : ¬ j < 0) (hv : i < N) {x : Int32} (ga : n0 ≤ a) {pc pc' : Nat} {Ls : Array Slot} {S : List Value} (hd : decode c.code pc = .ok (.castore, 1)) (hp : pc + 1 = pc')
    (hh : ∀ T' h', Sd p l e R s m args below meth c T' n0 cells slots h' → ∀ w, Wr h0 h' a i w → IL Z h' a .char N → Rt p e below s k n P (T'.setTop (mkF m pc' Ls S))) : Rt p e below s k n P (T.setTop (mkF m pc Ls (.int x :: .int j :: .ref a :: S))) := by
  obtain ⟨vs, F, rfl⟩ := F
  exact Rt.castore X hx hZ F hi hj hv rfl ga hd hp fun T' h' X' W' F' => hh T' h' X' _ W' ⟨_, F', List.length_set⟩
end Own
abbrev mt1 : MethodName := ⟨"com/example/bowerbird/bowerbird/bench/Entries", "id", "(J)J"⟩
abbrev mt2 : MethodName := ⟨"com/example/bowerbird/bowerbird/bench/EntriesIdPinLaw", "fieldsOk", "(JJ)Z"⟩
theorem d1_0 : decode prog_2_method_2_code 0 = .ok (.ldc2_w 9, 3) := by decide +kernel
theorem d1_3 : decode prog_2_method_2_code 3 = .ok (.lload_n 0, 1) := by decide +kernel
theorem d1_4 : decode prog_2_method_2_code 4 = .ok (.ladd, 1) := by decide +kernel
theorem d1_5 : decode prog_2_method_2_code 5 = .ok (.bipush 22, 2) := by decide +kernel
theorem d1_7 : decode prog_2_method_2_code 7 = .ok (.lshl, 1) := by decide +kernel
theorem d1_8 : decode prog_2_method_2_code 8 = .ok (.ldc2_w 11, 3) := by decide +kernel
theorem d1_11 : decode prog_2_method_2_code 11 = .ok (.lor, 1) := by decide +kernel
theorem d1_12 : decode prog_2_method_2_code 12 = .ok (.lload_n 0, 1) := by decide +kernel
theorem d1_13 : decode prog_2_method_2_code 13 = .ok (.ldc2_w 13, 3) := by decide +kernel
theorem d1_16 : decode prog_2_method_2_code 16 = .ok (.lrem, 1) := by decide +kernel
theorem d1_17 : decode prog_2_method_2_code 17 = .ok (.lor, 1) := by decide +kernel
theorem d1_18 : decode prog_2_method_2_code 18 = .ok (.lreturn, 1) := by decide +kernel
def f1 (q1 : Int64) : Int64 := (((((28283105586 : Int64) + q1) <<< ((22 : Int32) &&& 0x3f).toInt64) ||| (688128 : Int64)) ||| (q1 - (q1 / (16384 : Int64)) * (16384 : Int64)))
def Q1 (q1 : Int64) (h0 : Heap) (n0 : Nat) (v : Option Value) (h : Heap) (L : List Loc) : Prop := v = some (.long (f1 q1)) ∧ Fr n0 L ∧ h = h0
def rmR1 : Room := { frames := 0, cells := 0, slots := 0, locals := 0 }
theorem ef_1 (m : MethodId) (q1 : Int64) : entryFrame m #[(.long q1)] 2 = mkF m 0 #[.val (.long q1), .second] [] := by first | (simp [entryFrame, mkF, argsToLocals, Value.category]; done) | rfl
theorem pn_com_example_bowerbird_bowerbird_bench_Entries : plainName "com/example/bowerbird/bowerbird/bench/Entries" = true := by first | (simp [plainName, overriddenIn]; done) | decide +kernel
set_option maxRecDepth 65536 in
set_option maxHeartbeats 40000000 in
theorem rm1 (l : Launch) (Z : State) (a0 : Array Value) (hw : ∀ d ∈ tables_1, d.before a0 Z = true) (ws : List Jvm.Cond) (q1 : Int64) (h0 : Heap) (n0 : Nat) :
    Mt l Z mt1 (Jvm.Cond.code mt1 prog_2_method_2_code 2 (some .long) :: ws) rmR1 #[(.long q1)] h0 (Q1 q1 h0 n0) := by
  refine Mt.of n0 (plainFor_of_name pn_com_example_bowerbird_bowerbird_bench_Entries) ?_
  intro p e s m below meth c T0 X0 hx hZ hby hml hown hret hlk hnm hs0
  have hown : s.vm.findClass "com/example/bowerbird/bowerbird/bench/Entries" = some m.cls := hown
  rw [ef_1]
  show Rt p e below s rmR1.cells rmR1.slots (Q1 q1 h0 n0) (T0.setTop (mkF m 0 #[.val (.long q1), .second] []))
  refine Rt.ldc2Long (pc' := 3) X0 hx hZ hown (hw _ (List.mem_of_getElem? (i := 6) rfl)) (hb hby d1_0) rfl ?_
  refine Rt.lloadN (pc' := 4) X0 hx (hb hby d1_3) rfl rfl ?_
  refine Rt.ladd (pc' := 5) (r := ((28283105586 : Int64) + q1)) X0 hx (hb hby d1_4) rfl rfl ?_
  refine Rt.bipush (pc' := 7) (v := (22 : Int32)) X0 hx (hb hby d1_5) rfl rfl ?_
  refine Rt.lshl (pc' := 8) (r := (((28283105586 : Int64) + q1) <<< ((22 : Int32) &&& 0x3f).toInt64)) X0 hx (hb hby d1_7) rfl rfl ?_
  refine Rt.ldc2Long (pc' := 11) X0 hx hZ hown (hw _ (List.mem_of_getElem? (i := 7) rfl)) (hb hby d1_8) rfl ?_
  refine Rt.lor (pc' := 12) (r := ((((28283105586 : Int64) + q1) <<< ((22 : Int32) &&& 0x3f).toInt64) ||| (688128 : Int64))) X0 hx (hb hby d1_11) rfl rfl ?_
  refine Rt.lloadN (pc' := 13) X0 hx (hb hby d1_12) rfl rfl ?_
  refine Rt.ldc2Long (pc' := 16) X0 hx hZ hown (hw _ (List.mem_of_getElem? (i := 8) rfl)) (hb hby d1_13) rfl ?_
  refine Rt.lrem (pc' := 17) X0 hx (hb hby d1_16) (by decide) rfl rfl ?_
  refine Rt.lor (pc' := 18) (r := (((((28283105586 : Int64) + q1) <<< ((22 : Int32) &&& 0x3f).toInt64) ||| (688128 : Int64)) ||| (q1 - (q1 / (16384 : Int64)) * (16384 : Int64)))) X0 hx (hb hby d1_17) rfl rfl ?_
  exact Rt.retJ X0 hx hlk hret (hb hby d1_18) (by decide) (by decide) (fun L N => ⟨congrArg some (congrArg Value.long (by rw [f1])), N, rfl⟩)
theorem d2_0 : decode method_2_code 0 = .ok (.lload_n 2, 1) := by decide +kernel
theorem d2_1 : decode method_2_code 1 = .ok (.bipush 22, 2) := by decide +kernel
theorem d2_3 : decode method_2_code 3 = .ok (.lushr, 1) := by decide +kernel
theorem d2_4 : decode method_2_code 4 = .ok (.ldc2_w 7, 3) := by decide +kernel
theorem d2_7 : decode method_2_code 7 = .ok (.lload_n 0, 1) := by decide +kernel
theorem d2_8 : decode method_2_code 8 = .ok (.ladd, 1) := by decide +kernel
theorem d2_9 : decode method_2_code 9 = .ok (.lcmp, 1) := by decide +kernel
theorem d2_18 : decode method_2_code 18 = .ok (.istore 4, 2) := by decide +kernel
theorem d2_20 : decode method_2_code 20 = .ok (.lload_n 2, 1) := by decide +kernel
theorem d2_21 : decode method_2_code 21 = .ok (.bipush 14, 2) := by decide +kernel
theorem d2_23 : decode method_2_code 23 = .ok (.lushr, 1) := by decide +kernel
theorem d2_24 : decode method_2_code 24 = .ok (.ldc2_w 9, 3) := by decide +kernel
theorem d2_27 : decode method_2_code 27 = .ok (.land, 1) := by decide +kernel
theorem d2_28 : decode method_2_code 28 = .ok (.ldc2_w 11, 3) := by decide +kernel
theorem d2_31 : decode method_2_code 31 = .ok (.lcmp, 1) := by decide +kernel
theorem d2_40 : decode method_2_code 40 = .ok (.istore 5, 2) := by decide +kernel
theorem d2_42 : decode method_2_code 42 = .ok (.lload_n 2, 1) := by decide +kernel
theorem d2_43 : decode method_2_code 43 = .ok (.ldc2_w 13, 3) := by decide +kernel
theorem d2_46 : decode method_2_code 46 = .ok (.land, 1) := by decide +kernel
theorem d2_47 : decode method_2_code 47 = .ok (.lload_n 0, 1) := by decide +kernel
theorem d2_48 : decode method_2_code 48 = .ok (.ldc2_w 13, 3) := by decide +kernel
theorem d2_51 : decode method_2_code 51 = .ok (.land, 1) := by decide +kernel
theorem d2_52 : decode method_2_code 52 = .ok (.lcmp, 1) := by decide +kernel
theorem d2_61 : decode method_2_code 61 = .ok (.istore 6, 2) := by decide +kernel
theorem d2_63 : decode method_2_code 63 = .ok (.iload 4, 2) := by decide +kernel
theorem d2_65 : decode method_2_code 65 = .ok (.ifCond .eq 23, 3) := by decide +kernel
theorem d2_88 : decode method_2_code 88 = .ok (.iconst 0, 1) := by decide +kernel
theorem d2_89 : decode method_2_code 89 = .ok (.ireturn, 1) := by decide +kernel
theorem d2_68 : decode method_2_code 68 = .ok (.iload 5, 2) := by decide +kernel
theorem d2_70 : decode method_2_code 70 = .ok (.ifCond .eq 18, 3) := by decide +kernel
theorem d2_73 : decode method_2_code 73 = .ok (.iload 6, 2) := by decide +kernel
theorem d2_75 : decode method_2_code 75 = .ok (.ifCond .eq 13, 3) := by decide +kernel
theorem d2_78 : decode method_2_code 78 = .ok (.lload_n 2, 1) := by decide +kernel
theorem d2_79 : decode method_2_code 79 = .ok (.lconst 0, 1) := by decide +kernel
theorem d2_80 : decode method_2_code 80 = .ok (.lcmp, 1) := by decide +kernel
theorem d2_81 : decode method_2_code 81 = .ok (.ifCond .le 7, 3) := by decide +kernel
theorem d2_84 : decode method_2_code 84 = .ok (.iconst 1, 1) := by decide +kernel
theorem d2_85 : decode method_2_code 85 = .ok (.goto 4, 3) := by decide +kernel
theorem d2_53 : decode method_2_code 53 = .ok (.ifCond .ne 7, 3) := by decide +kernel
theorem d2_56 : decode method_2_code 56 = .ok (.iconst 1, 1) := by decide +kernel
theorem d2_57 : decode method_2_code 57 = .ok (.goto 4, 3) := by decide +kernel
theorem d2_60 : decode method_2_code 60 = .ok (.iconst 0, 1) := by decide +kernel
theorem d2_32 : decode method_2_code 32 = .ok (.ifCond .ne 7, 3) := by decide +kernel
theorem d2_35 : decode method_2_code 35 = .ok (.iconst 1, 1) := by decide +kernel
theorem d2_36 : decode method_2_code 36 = .ok (.goto 4, 3) := by decide +kernel
theorem d2_39 : decode method_2_code 39 = .ok (.iconst 0, 1) := by decide +kernel
theorem d2_10 : decode method_2_code 10 = .ok (.ifCond .ne 7, 3) := by decide +kernel
theorem d2_13 : decode method_2_code 13 = .ok (.iconst 1, 1) := by decide +kernel
theorem d2_14 : decode method_2_code 14 = .ok (.goto 4, 3) := by decide +kernel
theorem d2_17 : decode method_2_code 17 = .ok (.iconst 0, 1) := by decide +kernel
def f2_j18_s0 (q1 : Int64) (q2 : Int64) : Int32 := (if ((q2.toUInt64 >>> ((22 : Int32) &&& 0x3f).toInt64.toUInt64).toInt64) = ((28283105586 : Int64) + q1) then (1 : Int32) else (0 : Int32))
def f2_j40_s0 (q2 : Int64) : Int32 := (if (((q2.toUInt64 >>> ((14 : Int32) &&& 0x3f).toInt64.toUInt64).toInt64) &&& (255 : Int64)) = (42 : Int64) then (1 : Int32) else (0 : Int32))
def f2_j61_s0 (q1 : Int64) (q2 : Int64) : Int32 := (if (q2 &&& (16383 : Int64)) = (q1 &&& (16383 : Int64)) then (1 : Int32) else (0 : Int32))
def f2 (q1 : Int64) (q2 : Int64) : Int32 := (if (f2_j18_s0 q1 q2) = (0 : Int32) then (0 : Int32) else (if (f2_j40_s0 q2) = (0 : Int32) then (0 : Int32) else (if (f2_j61_s0 q1 q2) = (0 : Int32) then (0 : Int32) else (if (0 : Int64) < q2 then (1 : Int32) else (0 : Int32)))))
def Q2 (q1 : Int64) (q2 : Int64) (h0 : Heap) (n0 : Nat) (v : Option Value) (h : Heap) (L : List Loc) : Prop := v = some (.int (f2 q1 q2)) ∧ Fr n0 L ∧ h = h0
def rmR2 : Room := { frames := 0, cells := 0, slots := 0, locals := 0 }
theorem ef_2 (m : MethodId) (q1 : Int64) (q2 : Int64) : entryFrame m #[(.long q1), (.long q2)] 7 = mkF m 0 #[.val (.long q1), .second, .val (.long q2), .second, .unset, .unset, .unset] [] := by first | (simp [entryFrame, mkF, argsToLocals, Value.category]; done) | rfl
theorem pn_com_example_bowerbird_bowerbird_bench_EntriesIdPinLaw : plainName "com/example/bowerbird/bowerbird/bench/EntriesIdPinLaw" = true := by first | (simp [plainName, overriddenIn]; done) | decide +kernel
set_option maxRecDepth 65536 in
set_option maxHeartbeats 40000000 in
theorem rm2 (l : Launch) (Z : State) (a0 : Array Value) (hw : ∀ d ∈ tables_1, d.before a0 Z = true) (ws : List Jvm.Cond) (q1 : Int64) (q2 : Int64) (h0 : Heap) (n0 : Nat) :
    Mt l Z mt2 (Jvm.Cond.code mt2 method_2_code 7 (some .boolean) :: ws) rmR2 #[(.long q1), (.long q2)] h0 (Q2 q1 q2 h0 n0) := by
  refine Mt.of n0 (plainFor_of_name pn_com_example_bowerbird_bowerbird_bench_EntriesIdPinLaw) ?_
  intro p e s m below meth c T0 X0 hx hZ hby hml hown hret hlk hnm hs0
  have hown : s.vm.findClass "com/example/bowerbird/bowerbird/bench/EntriesIdPinLaw" = some m.cls := hown
  rw [ef_2]
  show Rt p e below s rmR2.cells rmR2.slots (Q2 q1 q2 h0 n0) (T0.setTop (mkF m 0 #[.val (.long q1), .second, .val (.long q2), .second, .unset, .unset, .unset] []))
  refine Rt.lloadN (pc' := 1) X0 hx (hb hby d2_0) rfl rfl ?_
  refine Rt.bipush (pc' := 3) (v := (22 : Int32)) X0 hx (hb hby d2_1) rfl rfl ?_
  refine Rt.lushr (pc' := 4) (r := ((q2.toUInt64 >>> ((22 : Int32) &&& 0x3f).toInt64.toUInt64).toInt64)) X0 hx (hb hby d2_3) rfl rfl ?_
  refine Rt.ldc2Long (pc' := 7) X0 hx hZ hown (hw _ (List.mem_of_getElem? (i := 13) rfl)) (hb hby d2_4) rfl ?_
  refine Rt.lloadN (pc' := 8) X0 hx (hb hby d2_7) rfl rfl ?_
  refine Rt.ladd (pc' := 9) (r := ((28283105586 : Int64) + q1)) X0 hx (hb hby d2_8) rfl rfl ?_
  refine Rt.lcmp (pc' := 10) X0 hx (hb hby d2_9) rfl ?_
  have J10_1 : ∀ T1  , Sd p l e rmR2 s m #[(.long q1), (.long q2)] below meth c T1 n0 0 0 h0 → Rt p e below s rmR2.cells rmR2.slots (Q2 q1 q2 h0 n0) (T1.setTop (mkF m 18 #[.val (.long q1), .second, .val (.long q2), .second, .unset, .unset, .unset] [(.int (f2_j18_s0 q1 q2))])) := by
    intro T1   X1 
    refine Rt.istore (pc' := 20) (v := (f2_j18_s0 q1 q2)) (l' := #[.val (.long q1), .second, .val (.long q2), .second, .val (.int (f2_j18_s0 q1 q2)), .unset, .unset]) X1 hx (hb hby d2_18) rfl rfl ?_
    refine Rt.lloadN (pc' := 21) X1 hx (hb hby d2_20) rfl rfl ?_
    refine Rt.bipush (pc' := 23) (v := (14 : Int32)) X1 hx (hb hby d2_21) rfl rfl ?_
    refine Rt.lushr (pc' := 24) (r := ((q2.toUInt64 >>> ((14 : Int32) &&& 0x3f).toInt64.toUInt64).toInt64)) X1 hx (hb hby d2_23) rfl rfl ?_
    refine Rt.ldc2Long (pc' := 27) X1 hx hZ hown (hw _ (List.mem_of_getElem? (i := 14) rfl)) (hb hby d2_24) rfl ?_
    refine Rt.land (pc' := 28) (r := (((q2.toUInt64 >>> ((14 : Int32) &&& 0x3f).toInt64.toUInt64).toInt64) &&& (255 : Int64))) X1 hx (hb hby d2_27) rfl rfl ?_
    refine Rt.ldc2Long (pc' := 31) X1 hx hZ hown (hw _ (List.mem_of_getElem? (i := 15) rfl)) (hb hby d2_28) rfl ?_
    refine Rt.lcmp (pc' := 32) X1 hx (hb hby d2_31) rfl ?_
    have J32_2 : ∀ T2  , Sd p l e rmR2 s m #[(.long q1), (.long q2)] below meth c T2 n0 0 0 h0 → Rt p e below s rmR2.cells rmR2.slots (Q2 q1 q2 h0 n0) (T2.setTop (mkF m 40 #[.val (.long q1), .second, .val (.long q2), .second, .val (.int (f2_j18_s0 q1 q2)), .unset, .unset] [(.int (f2_j40_s0 q2))])) := by
      intro T2   X2 
      refine Rt.istore (pc' := 42) (v := (f2_j40_s0 q2)) (l' := #[.val (.long q1), .second, .val (.long q2), .second, .val (.int (f2_j18_s0 q1 q2)), .val (.int (f2_j40_s0 q2)), .unset]) X2 hx (hb hby d2_40) rfl rfl ?_
      refine Rt.lloadN (pc' := 43) X2 hx (hb hby d2_42) rfl rfl ?_
      refine Rt.ldc2Long (pc' := 46) X2 hx hZ hown (hw _ (List.mem_of_getElem? (i := 16) rfl)) (hb hby d2_43) rfl ?_
      refine Rt.land (pc' := 47) (r := (q2 &&& (16383 : Int64))) X2 hx (hb hby d2_46) rfl rfl ?_
      refine Rt.lloadN (pc' := 48) X2 hx (hb hby d2_47) rfl rfl ?_
      refine Rt.ldc2Long (pc' := 51) X2 hx hZ hown (hw _ (List.mem_of_getElem? (i := 16) rfl)) (hb hby d2_48) rfl ?_
      refine Rt.land (pc' := 52) (r := (q1 &&& (16383 : Int64))) X2 hx (hb hby d2_51) rfl rfl ?_
      refine Rt.lcmp (pc' := 53) X2 hx (hb hby d2_52) rfl ?_
      have J53_3 : ∀ T3  , Sd p l e rmR2 s m #[(.long q1), (.long q2)] below meth c T3 n0 0 0 h0 → Rt p e below s rmR2.cells rmR2.slots (Q2 q1 q2 h0 n0) (T3.setTop (mkF m 61 #[.val (.long q1), .second, .val (.long q2), .second, .val (.int (f2_j18_s0 q1 q2)), .val (.int (f2_j40_s0 q2)), .unset] [(.int (f2_j61_s0 q1 q2))])) := by
        intro T3   X3 
        refine Rt.istore (pc' := 63) (v := (f2_j61_s0 q1 q2)) (l' := #[.val (.long q1), .second, .val (.long q2), .second, .val (.int (f2_j18_s0 q1 q2)), .val (.int (f2_j40_s0 q2)), .val (.int (f2_j61_s0 q1 q2))]) X3 hx (hb hby d2_61) rfl rfl ?_
        refine Rt.iload (pc' := 65) X3 hx (hb hby d2_63) rfl rfl ?_
        by_cases hc65_4 : (f2_j18_s0 q1 q2) = (0 : Int32)
        · refine Rt.ifY (pc' := 88) X3 hx (hb hby d2_65) ((if0 _ _).trans (teq hc65_4).1) (by decide) (by decide) ?_
          refine Rt.iconst (pc' := 89) (v := (0 : Int32)) X3 hx (hb hby d2_88) rfl rfl ?_
          exact Rt.retZ (w := (0 : Int32)) X3 hx hlk hret (by simp) (hb hby d2_89) (by decide) (by decide) (by decide) (fun L N => ⟨congrArg some (congrArg Value.int (by rw [f2, if_pos hc65_4])), N, rfl⟩)
        · refine Rt.ifN (pc' := 68) X3 hx (hb hby d2_65) ((if0 _ _).trans (feq hc65_4).1) rfl ?_
          refine Rt.iload (pc' := 70) X3 hx (hb hby d2_68) rfl rfl ?_
          by_cases hc70_5 : (f2_j40_s0 q2) = (0 : Int32)
          · refine Rt.ifY (pc' := 88) X3 hx (hb hby d2_70) ((if0 _ _).trans (teq hc70_5).1) (by decide) (by decide) ?_
            refine Rt.iconst (pc' := 89) (v := (0 : Int32)) X3 hx (hb hby d2_88) rfl rfl ?_
            exact Rt.retZ (w := (0 : Int32)) X3 hx hlk hret (by simp) (hb hby d2_89) (by decide) (by decide) (by decide) (fun L N => ⟨congrArg some (congrArg Value.int (by rw [f2, if_neg hc65_4, if_pos hc70_5])), N, rfl⟩)
          · refine Rt.ifN (pc' := 73) X3 hx (hb hby d2_70) ((if0 _ _).trans (feq hc70_5).1) rfl ?_
            refine Rt.iload (pc' := 75) X3 hx (hb hby d2_73) rfl rfl ?_
            by_cases hc75_6 : (f2_j61_s0 q1 q2) = (0 : Int32)
            · refine Rt.ifY (pc' := 88) X3 hx (hb hby d2_75) ((if0 _ _).trans (teq hc75_6).1) (by decide) (by decide) ?_
              refine Rt.iconst (pc' := 89) (v := (0 : Int32)) X3 hx (hb hby d2_88) rfl rfl ?_
              exact Rt.retZ (w := (0 : Int32)) X3 hx hlk hret (by simp) (hb hby d2_89) (by decide) (by decide) (by decide) (fun L N => ⟨congrArg some (congrArg Value.int (by rw [f2, if_neg hc65_4, if_neg hc70_5, if_pos hc75_6])), N, rfl⟩)
            · refine Rt.ifN (pc' := 78) X3 hx (hb hby d2_75) ((if0 _ _).trans (feq hc75_6).1) rfl ?_
              refine Rt.lloadN (pc' := 79) X3 hx (hb hby d2_78) rfl rfl ?_
              refine Rt.lconst (pc' := 80) (v := (0 : Int64)) X3 hx (hb hby d2_79) rfl rfl ?_
              refine Rt.lcmp (pc' := 81) X3 hx (hb hby d2_80) rfl ?_
              by_cases hc81_7 : (0 : Int64) < q2
              · refine Rt.ifN (pc' := 84) X3 hx (hb hby d2_81) (gtl hc81_7).2 rfl ?_
                refine Rt.iconst (pc' := 85) (v := (1 : Int32)) X3 hx (hb hby d2_84) rfl rfl ?_
                refine Rt.goto (pc' := 89) X3 hx (hb hby d2_85) (by decide) (by decide) ?_
                exact Rt.retZ (w := (1 : Int32)) X3 hx hlk hret (by simp) (hb hby d2_89) (by decide) (by decide) (by decide) (fun L N => ⟨congrArg some (congrArg Value.int (by rw [f2, if_neg hc65_4, if_neg hc70_5, if_neg hc75_6, if_pos hc81_7])), N, rfl⟩)
              · refine Rt.ifY (pc' := 88) X3 hx (hb hby d2_81) (gfl hc81_7).2 (by decide) (by decide) ?_
                refine Rt.iconst (pc' := 89) (v := (0 : Int32)) X3 hx (hb hby d2_88) rfl rfl ?_
                exact Rt.retZ (w := (0 : Int32)) X3 hx hlk hret (by simp) (hb hby d2_89) (by decide) (by decide) (by decide) (fun L N => ⟨congrArg some (congrArg Value.int (by rw [f2, if_neg hc65_4, if_neg hc70_5, if_neg hc75_6, if_neg hc81_7])), N, rfl⟩)
      by_cases hc53_8 : (q2 &&& (16383 : Int64)) = (q1 &&& (16383 : Int64))
      · refine Rt.ifN (pc' := 56) X2 hx (hb hby d2_53) (etl hc53_8).2 rfl ?_
        refine Rt.iconst (pc' := 57) (v := (1 : Int32)) X2 hx (hb hby d2_56) rfl rfl ?_
        refine Rt.goto (pc' := 61) X2 hx (hb hby d2_57) (by decide) (by decide) ?_
        have q := J53_3 T2   X2
        rw [show (f2_j61_s0 q1 q2) = (1 : Int32) from by rw [f2_j61_s0, if_pos hc53_8]] at q
        exact q
      · refine Rt.ifY (pc' := 60) X2 hx (hb hby d2_53) (efl hc53_8).2 (by decide) (by decide) ?_
        refine Rt.iconst (pc' := 61) (v := (0 : Int32)) X2 hx (hb hby d2_60) rfl rfl ?_
        have q := J53_3 T2   X2
        rw [show (f2_j61_s0 q1 q2) = (0 : Int32) from by rw [f2_j61_s0, if_neg hc53_8]] at q
        exact q
    by_cases hc32_9 : (((q2.toUInt64 >>> ((14 : Int32) &&& 0x3f).toInt64.toUInt64).toInt64) &&& (255 : Int64)) = (42 : Int64)
    · refine Rt.ifN (pc' := 35) X1 hx (hb hby d2_32) (etl hc32_9).2 rfl ?_
      refine Rt.iconst (pc' := 36) (v := (1 : Int32)) X1 hx (hb hby d2_35) rfl rfl ?_
      refine Rt.goto (pc' := 40) X1 hx (hb hby d2_36) (by decide) (by decide) ?_
      have q := J32_2 T1   X1
      rw [show (f2_j40_s0 q2) = (1 : Int32) from by rw [f2_j40_s0, if_pos hc32_9]] at q
      exact q
    · refine Rt.ifY (pc' := 39) X1 hx (hb hby d2_32) (efl hc32_9).2 (by decide) (by decide) ?_
      refine Rt.iconst (pc' := 40) (v := (0 : Int32)) X1 hx (hb hby d2_39) rfl rfl ?_
      have q := J32_2 T1   X1
      rw [show (f2_j40_s0 q2) = (0 : Int32) from by rw [f2_j40_s0, if_neg hc32_9]] at q
      exact q
  by_cases hc10_10 : ((q2.toUInt64 >>> ((22 : Int32) &&& 0x3f).toInt64.toUInt64).toInt64) = ((28283105586 : Int64) + q1)
  · refine Rt.ifN (pc' := 13) X0 hx (hb hby d2_10) (etl hc10_10).2 rfl ?_
    refine Rt.iconst (pc' := 14) (v := (1 : Int32)) X0 hx (hb hby d2_13) rfl rfl ?_
    refine Rt.goto (pc' := 18) X0 hx (hb hby d2_14) (by decide) (by decide) ?_
    have q := J10_1 T0   X0
    rw [show (f2_j18_s0 q1 q2) = (1 : Int32) from by rw [f2_j18_s0, if_pos hc10_10]] at q
    exact q
  · refine Rt.ifY (pc' := 17) X0 hx (hb hby d2_10) (efl hc10_10).2 (by decide) (by decide) ?_
    refine Rt.iconst (pc' := 18) (v := (0 : Int32)) X0 hx (hb hby d2_17) rfl rfl ?_
    have q := J10_1 T0   X0
    rw [show (f2_j18_s0 q1 q2) = (0 : Int32) from by rw [f2_j18_s0, if_neg hc10_10]] at q
    exact q
theorem pd_0 : parseMethodDescriptor "(J)J" = some ⟨[.long], some .long⟩ := by decide +kernel
theorem pd_1 : parseMethodDescriptor "(JJ)Z" = some ⟨[.long, .long], some .boolean⟩ := by decide +kernel
def f0_v9 (p1 : Int32) : Int64 := (((p1 &&& (2147483647 : Int32)).toInt64) - (((p1 &&& (2147483647 : Int32)).toInt64) / (100000000 : Int64)) * (100000000 : Int64))
def f0_v19 (p2 : Int32) : Int64 := (((p2 &&& (2147483647 : Int32)).toInt64) - (((p2 &&& (2147483647 : Int32)).toInt64) / (100000000 : Int64)) * (100000000 : Int64))
def f0_v25 (p1 : Int32) : Int64 := (f1 (f0_v9 p1))
def f0_v32 (p2 : Int32) : Int64 := (f1 (f0_v19 p2))
def f0_j46_s0 (p1 : Int32) (p2 : Int32) : Int32 := (if (f0_v9 p1) < (f0_v19 p2) then (1 : Int32) else (0 : Int32))
def f0_j59_s0 (p1 : Int32) (p2 : Int32) : Int32 := (if (f0_v25 p1) < (f0_v32 p2) then (1 : Int32) else (0 : Int32))
def f0_j74_s0 (p1 : Int32) (p2 : Int32) : Int32 := (if (f0_v9 p1) = (f0_v19 p2) then (1 : Int32) else (0 : Int32))
def f0_j87_s0 (p1 : Int32) (p2 : Int32) : Int32 := (if (f0_v25 p1) = (f0_v32 p2) then (1 : Int32) else (0 : Int32))
def f0_j95_s0 (p1 : Int32) (p2 : Int32) : Int32 := (if (f0_j46_s0 p1 p2) = (f0_j59_s0 p1 p2) then (if (f0_j74_s0 p1 p2) = (f0_j87_s0 p1 p2) then (1 : Int32) else (0 : Int32)) else (0 : Int32))
def f0 (p1 : Int32) (p2 : Int32) : Int32 := (if (f2 (f0_v9 p1) (f0_v25 p1)) = (0 : Int32) then (0 : Int32) else (if (f2 (f0_v19 p2) (f0_v32 p2)) = (0 : Int32) then (0 : Int32) else (if (f0_j95_s0 p1 p2) = (0 : Int32) then (0 : Int32) else (1 : Int32))))
def Q0 (p1 : Int32) (p2 : Int32) (h0 : Heap) (n0 : Nat) (v : Option Value) (h : Heap) (L : List Loc) : Prop := v = some (.int (f0 p1 p2)) ∧ Fr n0 L ∧ h = h0
theorem ef_0 (m : MethodId) (p1 : Int32) (p2 : Int32) : entryFrame m #[(.int p1), (.int p2)] maxLocals = mkF m 0 #[.val (.int p1), .val (.int p2), .unset, .unset, .unset, .unset, .unset, .unset, .unset, .unset, .unset] [] := by first | (simp [entryFrame, mkF, argsToLocals, Value.category, maxLocals]; done) | rfl
set_option maxRecDepth 65536 in
set_option maxHeartbeats 40000000 in
theorem rm0 (l : Launch) (Z : State) (a0 : Array Value) (hw : ∀ d ∈ tables_1, d.before a0 Z = true) (ws : List Jvm.Cond) (p1 : Int32) (p2 : Int32) (h0 : Heap) (n0 : Nat) :
    Mt l Z x (Jvm.Cond.code x code maxLocals ret :: ws) room_1 #[(.int p1), (.int p2)] h0 (Q0 p1 p2 h0 n0) := by
  refine Mt.of n0 (plainFor_of_name pn_com_example_bowerbird_bowerbird_bench_EntriesIdPinLaw) ?_
  intro p e s m below meth c T0 X0 hx hZ hby hml hown hret hlk hnm hs0
  have hml : c.maxLocals = 11 := hml
  have hret : meth.sig.returnType = some .boolean := hret
  have hown : s.vm.findClass "com/example/bowerbird/bowerbird/bench/EntriesIdPinLaw" = some m.cls := hown
  rw [ef_0]
  show Rt p e below s room_1.cells room_1.slots (Q0 p1 p2 h0 n0) (T0.setTop (mkF m 0 #[.val (.int p1), .val (.int p2), .unset, .unset, .unset, .unset, .unset, .unset, .unset, .unset, .unset] []))
  refine Rt.iloadN (pc' := 1) X0 hx (hb hby at_0) rfl rfl ?_
  refine Rt.ldcInt (pc' := 3) X0 hx hZ hown (hw _ (List.mem_of_getElem? (i := 0) rfl)) (hb hby at_1) rfl ?_
  refine Rt.iand (pc' := 4) (r := (p1 &&& (2147483647 : Int32))) X0 hx (hb hby at_3) rfl rfl ?_
  refine Rt.i2l (pc' := 5) (r := ((p1 &&& (2147483647 : Int32)).toInt64)) X0 hx (hb hby at_4) rfl rfl ?_
  refine Rt.ldc2Long (pc' := 8) X0 hx hZ hown (hw _ (List.mem_of_getElem? (i := 1) rfl)) (hb hby at_5) rfl ?_
  refine Rt.lrem (pc' := 9) X0 hx (hb hby at_8) (by decide) rfl rfl ?_
  refine Rt.lstoreN (pc' := 10) (v := (f0_v9 p1)) (l' := #[.val (.int p1), .val (.int p2), .val (.long (f0_v9 p1)), .second, .unset, .unset, .unset, .unset, .unset, .unset, .unset]) X0 hx (hb hby at_9) rfl rfl ?_
  refine Rt.iloadN (pc' := 11) X0 hx (hb hby at_10) rfl rfl ?_
  refine Rt.ldcInt (pc' := 13) X0 hx hZ hown (hw _ (List.mem_of_getElem? (i := 0) rfl)) (hb hby at_11) rfl ?_
  refine Rt.iand (pc' := 14) (r := (p2 &&& (2147483647 : Int32))) X0 hx (hb hby at_13) rfl rfl ?_
  refine Rt.i2l (pc' := 15) (r := ((p2 &&& (2147483647 : Int32)).toInt64)) X0 hx (hb hby at_14) rfl rfl ?_
  refine Rt.ldc2Long (pc' := 18) X0 hx hZ hown (hw _ (List.mem_of_getElem? (i := 1) rfl)) (hb hby at_15) rfl ?_
  refine Rt.lrem (pc' := 19) X0 hx (hb hby at_18) (by decide) rfl rfl ?_
  refine Rt.lstore (pc' := 21) (v := (f0_v19 p2)) (l' := #[.val (.int p1), .val (.int p2), .val (.long (f0_v9 p1)), .second, .val (.long (f0_v19 p2)), .second, .unset, .unset, .unset, .unset, .unset]) X0 hx (hb hby at_19) rfl rfl ?_
  refine Rt.lloadN (pc' := 22) X0 hx (hb hby at_21) rfl rfl ?_
  refine Rt.callP (pc' := 25) (r := (.long (f1 (f0_v9 p1)))) X0 hx hZ (y := mt1) hown (hw _ (List.mem_of_getElem? (i := 2) rfl)) (hw _ (List.mem_of_getElem? (i := 3) rfl)) (hw _ (List.mem_of_getElem? (i := 4) rfl)) (hw _ (List.mem_of_getElem? (i := 5) rfl)) (by decide) (rm1 l Z a0 hw [] (f0_v9 p1) h0 n0) (W := 0) (by decide) (by decide) (by decide) (by decide) rfl rfl (argsL := [(.long (f0_v9 p1))]) (rest := []) (by rw [hml]; rfl) (lenOf pd_0 rfl) rfl rfl (Nat.le_of_eq rfl) (hb hby at_22) rfl ?_
  intro T1 X1
  refine Rt.lstore (pc' := 27) (v := (f0_v25 p1)) (l' := #[.val (.int p1), .val (.int p2), .val (.long (f0_v9 p1)), .second, .val (.long (f0_v19 p2)), .second, .val (.long (f0_v25 p1)), .second, .unset, .unset, .unset]) X1 hx (hb hby at_25) rfl rfl ?_
  refine Rt.lload (pc' := 29) X1 hx (hb hby at_27) rfl rfl ?_
  refine Rt.callP (pc' := 32) (r := (.long (f1 (f0_v19 p2)))) X1 hx hZ (y := mt1) hown (hw _ (List.mem_of_getElem? (i := 2) rfl)) (hw _ (List.mem_of_getElem? (i := 3) rfl)) (hw _ (List.mem_of_getElem? (i := 4) rfl)) (hw _ (List.mem_of_getElem? (i := 5) rfl)) (by decide) (rm1 l Z a0 hw [] (f0_v19 p2) h0 n0) (W := 0) (by decide) (by decide) (by decide) (by decide) rfl rfl (argsL := [(.long (f0_v19 p2))]) (rest := []) (by rw [hml]; rfl) (lenOf pd_0 rfl) rfl rfl (Nat.le_of_eq rfl) (hb hby at_29) rfl ?_
  intro T2 X2
  refine Rt.lstore (pc' := 34) (v := (f0_v32 p2)) (l' := #[.val (.int p1), .val (.int p2), .val (.long (f0_v9 p1)), .second, .val (.long (f0_v19 p2)), .second, .val (.long (f0_v25 p1)), .second, .val (.long (f0_v32 p2)), .second, .unset]) X2 hx (hb hby at_32) rfl rfl ?_
  refine Rt.lloadN (pc' := 35) X2 hx (hb hby at_34) rfl rfl ?_
  refine Rt.lload (pc' := 37) X2 hx (hb hby at_35) rfl rfl ?_
  refine Rt.lcmp (pc' := 38) X2 hx (hb hby at_37) rfl ?_
  have J38_3 : ∀ T3  , Sd p l e room_1 s m #[(.int p1), (.int p2)] below meth c T3 n0 0 0 h0 → Rt p e below s room_1.cells room_1.slots (Q0 p1 p2 h0 n0) (T3.setTop (mkF m 46 #[.val (.int p1), .val (.int p2), .val (.long (f0_v9 p1)), .second, .val (.long (f0_v19 p2)), .second, .val (.long (f0_v25 p1)), .second, .val (.long (f0_v32 p2)), .second, .unset] [(.int (f0_j46_s0 p1 p2))])) := by
    intro T3   X3 
    refine Rt.lload (pc' := 48) X3 hx (hb hby at_46) rfl rfl ?_
    refine Rt.lload (pc' := 50) X3 hx (hb hby at_48) rfl rfl ?_
    refine Rt.lcmp (pc' := 51) X3 hx (hb hby at_50) rfl ?_
    have J51_4 : ∀ T4  , Sd p l e room_1 s m #[(.int p1), (.int p2)] below meth c T4 n0 0 0 h0 → Rt p e below s room_1.cells room_1.slots (Q0 p1 p2 h0 n0) (T4.setTop (mkF m 59 #[.val (.int p1), .val (.int p2), .val (.long (f0_v9 p1)), .second, .val (.long (f0_v19 p2)), .second, .val (.long (f0_v25 p1)), .second, .val (.long (f0_v32 p2)), .second, .unset] [(.int (f0_j59_s0 p1 p2)), (.int (f0_j46_s0 p1 p2))])) := by
      intro T4   X4 
      have J59_5 : ∀ T5  , Sd p l e room_1 s m #[(.int p1), (.int p2)] below meth c T5 n0 0 0 h0 → Rt p e below s room_1.cells room_1.slots (Q0 p1 p2 h0 n0) (T5.setTop (mkF m 95 #[.val (.int p1), .val (.int p2), .val (.long (f0_v9 p1)), .second, .val (.long (f0_v19 p2)), .second, .val (.long (f0_v25 p1)), .second, .val (.long (f0_v32 p2)), .second, .unset] [(.int (f0_j95_s0 p1 p2))])) := by
        intro T5   X5 
        refine Rt.istore (pc' := 97) (v := (f0_j95_s0 p1 p2)) (l' := #[.val (.int p1), .val (.int p2), .val (.long (f0_v9 p1)), .second, .val (.long (f0_v19 p2)), .second, .val (.long (f0_v25 p1)), .second, .val (.long (f0_v32 p2)), .second, .val (.int (f0_j95_s0 p1 p2))]) X5 hx (hb hby at_95) rfl rfl ?_
        refine Rt.lloadN (pc' := 98) X5 hx (hb hby at_97) rfl rfl ?_
        refine Rt.lload (pc' := 100) X5 hx (hb hby at_98) rfl rfl ?_
        refine Rt.callP (pc' := 103) (r := (.int (f2 (f0_v9 p1) (f0_v25 p1)))) X5 hx hZ (y := mt2) hown (hw _ (List.mem_of_getElem? (i := 9) rfl)) (hw _ (List.mem_of_getElem? (i := 10) rfl)) (hw _ (List.mem_of_getElem? (i := 11) rfl)) (hw _ (List.mem_of_getElem? (i := 12) rfl)) (by decide) (rm2 l Z a0 hw [] (f0_v9 p1) (f0_v25 p1) h0 n0) (W := 0) (by decide) (by decide) (by decide) (by decide) rfl rfl (argsL := [(.long (f0_v9 p1)), (.long (f0_v25 p1))]) (rest := []) (by rw [hml]; rfl) (lenOf pd_1 rfl) rfl rfl (Nat.le_of_eq rfl) (hb hby at_100) rfl ?_
        intro T6 X6
        by_cases hc103_7 : (f2 (f0_v9 p1) (f0_v25 p1)) = (0 : Int32)
        · refine Rt.ifY (pc' := 125) X6 hx (hb hby at_103) ((if0 _ _).trans (teq hc103_7).1) (by decide) (by decide) ?_
          refine Rt.iconst (pc' := 126) (v := (0 : Int32)) X6 hx (hb hby at_125) rfl rfl ?_
          exact Rt.retZ (w := (0 : Int32)) X6 hx hlk hret (by simp) (hb hby at_126) (by decide) (by decide) (by decide) (fun L N => ⟨congrArg some (congrArg Value.int (by rw [f0, if_pos hc103_7])), N, rfl⟩)
        · refine Rt.ifN (pc' := 106) X6 hx (hb hby at_103) ((if0 _ _).trans (feq hc103_7).1) rfl ?_
          refine Rt.lload (pc' := 108) X6 hx (hb hby at_106) rfl rfl ?_
          refine Rt.lload (pc' := 110) X6 hx (hb hby at_108) rfl rfl ?_
          refine Rt.callP (pc' := 113) (r := (.int (f2 (f0_v19 p2) (f0_v32 p2)))) X6 hx hZ (y := mt2) hown (hw _ (List.mem_of_getElem? (i := 9) rfl)) (hw _ (List.mem_of_getElem? (i := 10) rfl)) (hw _ (List.mem_of_getElem? (i := 11) rfl)) (hw _ (List.mem_of_getElem? (i := 12) rfl)) (by decide) (rm2 l Z a0 hw [] (f0_v19 p2) (f0_v32 p2) h0 n0) (W := 0) (by decide) (by decide) (by decide) (by decide) rfl rfl (argsL := [(.long (f0_v19 p2)), (.long (f0_v32 p2))]) (rest := []) (by rw [hml]; rfl) (lenOf pd_1 rfl) rfl rfl (Nat.le_of_eq rfl) (hb hby at_110) rfl ?_
          intro T8 X8
          by_cases hc113_9 : (f2 (f0_v19 p2) (f0_v32 p2)) = (0 : Int32)
          · refine Rt.ifY (pc' := 125) X8 hx (hb hby at_113) ((if0 _ _).trans (teq hc113_9).1) (by decide) (by decide) ?_
            refine Rt.iconst (pc' := 126) (v := (0 : Int32)) X8 hx (hb hby at_125) rfl rfl ?_
            exact Rt.retZ (w := (0 : Int32)) X8 hx hlk hret (by simp) (hb hby at_126) (by decide) (by decide) (by decide) (fun L N => ⟨congrArg some (congrArg Value.int (by rw [f0, if_neg hc103_7, if_pos hc113_9])), N, rfl⟩)
          · refine Rt.ifN (pc' := 116) X8 hx (hb hby at_113) ((if0 _ _).trans (feq hc113_9).1) rfl ?_
            refine Rt.iload (pc' := 118) X8 hx (hb hby at_116) rfl rfl ?_
            by_cases hc118_10 : (f0_j95_s0 p1 p2) = (0 : Int32)
            · refine Rt.ifY (pc' := 125) X8 hx (hb hby at_118) ((if0 _ _).trans (teq hc118_10).1) (by decide) (by decide) ?_
              refine Rt.iconst (pc' := 126) (v := (0 : Int32)) X8 hx (hb hby at_125) rfl rfl ?_
              exact Rt.retZ (w := (0 : Int32)) X8 hx hlk hret (by simp) (hb hby at_126) (by decide) (by decide) (by decide) (fun L N => ⟨congrArg some (congrArg Value.int (by rw [f0, if_neg hc103_7, if_neg hc113_9, if_pos hc118_10])), N, rfl⟩)
            · refine Rt.ifN (pc' := 121) X8 hx (hb hby at_118) ((if0 _ _).trans (feq hc118_10).1) rfl ?_
              refine Rt.iconst (pc' := 122) (v := (1 : Int32)) X8 hx (hb hby at_121) rfl rfl ?_
              refine Rt.goto (pc' := 126) X8 hx (hb hby at_122) (by decide) (by decide) ?_
              exact Rt.retZ (w := (1 : Int32)) X8 hx hlk hret (by simp) (hb hby at_126) (by decide) (by decide) (by decide) (fun L N => ⟨congrArg some (congrArg Value.int (by rw [f0, if_neg hc103_7, if_neg hc113_9, if_neg hc118_10])), N, rfl⟩)
      by_cases hc59_11 : (f0_j46_s0 p1 p2) = (f0_j59_s0 p1 p2)
      · refine Rt.icmpN (pc' := 62) X4 hx (hb hby at_59) (teq hc59_11).2 rfl ?_
        refine Rt.lloadN (pc' := 63) X4 hx (hb hby at_62) rfl rfl ?_
        refine Rt.lload (pc' := 65) X4 hx (hb hby at_63) rfl rfl ?_
        refine Rt.lcmp (pc' := 66) X4 hx (hb hby at_65) rfl ?_
        have J66_12 : ∀ T12  , Sd p l e room_1 s m #[(.int p1), (.int p2)] below meth c T12 n0 0 0 h0 → Rt p e below s room_1.cells room_1.slots (Q0 p1 p2 h0 n0) (T12.setTop (mkF m 74 #[.val (.int p1), .val (.int p2), .val (.long (f0_v9 p1)), .second, .val (.long (f0_v19 p2)), .second, .val (.long (f0_v25 p1)), .second, .val (.long (f0_v32 p2)), .second, .unset] [(.int (f0_j74_s0 p1 p2))])) := by
          intro T12   X12 
          refine Rt.lload (pc' := 76) X12 hx (hb hby at_74) rfl rfl ?_
          refine Rt.lload (pc' := 78) X12 hx (hb hby at_76) rfl rfl ?_
          refine Rt.lcmp (pc' := 79) X12 hx (hb hby at_78) rfl ?_
          have J79_13 : ∀ T13  , Sd p l e room_1 s m #[(.int p1), (.int p2)] below meth c T13 n0 0 0 h0 → Rt p e below s room_1.cells room_1.slots (Q0 p1 p2 h0 n0) (T13.setTop (mkF m 87 #[.val (.int p1), .val (.int p2), .val (.long (f0_v9 p1)), .second, .val (.long (f0_v19 p2)), .second, .val (.long (f0_v25 p1)), .second, .val (.long (f0_v32 p2)), .second, .unset] [(.int (f0_j87_s0 p1 p2)), (.int (f0_j74_s0 p1 p2))])) := by
            intro T13   X13 
            by_cases hc87_14 : (f0_j74_s0 p1 p2) = (f0_j87_s0 p1 p2)
            · refine Rt.icmpN (pc' := 90) X13 hx (hb hby at_87) (teq hc87_14).2 rfl ?_
              refine Rt.iconst (pc' := 91) (v := (1 : Int32)) X13 hx (hb hby at_90) rfl rfl ?_
              refine Rt.goto (pc' := 95) X13 hx (hb hby at_91) (by decide) (by decide) ?_
              have q := J59_5 T13   X13
              rw [show (f0_j95_s0 p1 p2) = (1 : Int32) from by rw [f0_j95_s0, if_pos hc59_11, if_pos hc87_14]] at q
              exact q
            · refine Rt.icmpY (pc' := 94) X13 hx (hb hby at_87) (feq hc87_14).2 (by decide) (by decide) ?_
              refine Rt.iconst (pc' := 95) (v := (0 : Int32)) X13 hx (hb hby at_94) rfl rfl ?_
              have q := J59_5 T13   X13
              rw [show (f0_j95_s0 p1 p2) = (0 : Int32) from by rw [f0_j95_s0, if_pos hc59_11, if_neg hc87_14]] at q
              exact q
          by_cases hc79_15 : (f0_v25 p1) = (f0_v32 p2)
          · refine Rt.ifN (pc' := 82) X12 hx (hb hby at_79) (etl hc79_15).2 rfl ?_
            refine Rt.iconst (pc' := 83) (v := (1 : Int32)) X12 hx (hb hby at_82) rfl rfl ?_
            refine Rt.goto (pc' := 87) X12 hx (hb hby at_83) (by decide) (by decide) ?_
            have q := J79_13 T12   X12
            rw [show (f0_j87_s0 p1 p2) = (1 : Int32) from by rw [f0_j87_s0, if_pos hc79_15]] at q
            exact q
          · refine Rt.ifY (pc' := 86) X12 hx (hb hby at_79) (efl hc79_15).2 (by decide) (by decide) ?_
            refine Rt.iconst (pc' := 87) (v := (0 : Int32)) X12 hx (hb hby at_86) rfl rfl ?_
            have q := J79_13 T12   X12
            rw [show (f0_j87_s0 p1 p2) = (0 : Int32) from by rw [f0_j87_s0, if_neg hc79_15]] at q
            exact q
        by_cases hc66_16 : (f0_v9 p1) = (f0_v19 p2)
        · refine Rt.ifN (pc' := 69) X4 hx (hb hby at_66) (etl hc66_16).2 rfl ?_
          refine Rt.iconst (pc' := 70) (v := (1 : Int32)) X4 hx (hb hby at_69) rfl rfl ?_
          refine Rt.goto (pc' := 74) X4 hx (hb hby at_70) (by decide) (by decide) ?_
          have q := J66_12 T4   X4
          rw [show (f0_j74_s0 p1 p2) = (1 : Int32) from by rw [f0_j74_s0, if_pos hc66_16]] at q
          exact q
        · refine Rt.ifY (pc' := 73) X4 hx (hb hby at_66) (efl hc66_16).2 (by decide) (by decide) ?_
          refine Rt.iconst (pc' := 74) (v := (0 : Int32)) X4 hx (hb hby at_73) rfl rfl ?_
          have q := J66_12 T4   X4
          rw [show (f0_j74_s0 p1 p2) = (0 : Int32) from by rw [f0_j74_s0, if_neg hc66_16]] at q
          exact q
      · refine Rt.icmpY (pc' := 94) X4 hx (hb hby at_59) (feq hc59_11).2 (by decide) (by decide) ?_
        refine Rt.iconst (pc' := 95) (v := (0 : Int32)) X4 hx (hb hby at_94) rfl rfl ?_
        have q := J59_5 T4   X4
        rw [show (f0_j95_s0 p1 p2) = (0 : Int32) from by rw [f0_j95_s0, if_neg hc59_11]] at q
        exact q
    by_cases hc51_17 : (f0_v25 p1) < (f0_v32 p2)
    · refine Rt.ifN (pc' := 54) X3 hx (hb hby at_51) (ltl hc51_17).2 rfl ?_
      refine Rt.iconst (pc' := 55) (v := (1 : Int32)) X3 hx (hb hby at_54) rfl rfl ?_
      refine Rt.goto (pc' := 59) X3 hx (hb hby at_55) (by decide) (by decide) ?_
      have q := J51_4 T3   X3
      rw [show (f0_j59_s0 p1 p2) = (1 : Int32) from by rw [f0_j59_s0, if_pos hc51_17]] at q
      exact q
    · refine Rt.ifY (pc' := 58) X3 hx (hb hby at_51) (lfl hc51_17).2 (by decide) (by decide) ?_
      refine Rt.iconst (pc' := 59) (v := (0 : Int32)) X3 hx (hb hby at_58) rfl rfl ?_
      have q := J51_4 T3   X3
      rw [show (f0_j59_s0 p1 p2) = (0 : Int32) from by rw [f0_j59_s0, if_neg hc51_17]] at q
      exact q
  by_cases hc38_18 : (f0_v9 p1) < (f0_v19 p2)
  · refine Rt.ifN (pc' := 41) X2 hx (hb hby at_38) (ltl hc38_18).2 rfl ?_
    refine Rt.iconst (pc' := 42) (v := (1 : Int32)) X2 hx (hb hby at_41) rfl rfl ?_
    refine Rt.goto (pc' := 46) X2 hx (hb hby at_42) (by decide) (by decide) ?_
    have q := J38_3 T2   X2
    rw [show (f0_j46_s0 p1 p2) = (1 : Int32) from by rw [f0_j46_s0, if_pos hc38_18]] at q
    exact q
  · refine Rt.ifY (pc' := 45) X2 hx (hb hby at_38) (lfl hc38_18).2 (by decide) (by decide) ?_
    refine Rt.iconst (pc' := 46) (v := (0 : Int32)) X2 hx (hb hby at_45) rfl rfl ?_
    have q := J38_3 T2   X2
    rw [show (f0_j46_s0 p1 p2) = (0 : Int32) from by rw [f0_j46_s0, if_neg hc38_18]] at q
    exact q
theorem own_rem (p : Int32) : 0 ≤ (f0_v9 p).toInt ∧ (f0_v9 p).toInt < 100000000 := by
  have g1 := c_mask p 2147483647 31 (by decide) (by decide)
  have g2 := c_i2l (p &&& 2147483647)
  have g3 := c_lrem (p &&& 2147483647).toInt64 100000000 100000000 (by decide)
  have b1 := p.le_toInt
  have b2 := p.toInt_lt
  unfold f0_v9
  omega
theorem own_id (i : Int64) (h0 : 0 ≤ i.toInt) (h1 : i.toInt < 100000000) : (f1 i).toInt = (28283105586 + i.toInt) * 4194304 + 688128 + i.toInt % 16384 := by
  have l1 : (28283105586 : Int64).toInt = 28283105586 := by decide
  have l2 : (688128 : Int64).toInt = 688128 := by decide
  have g1 := c_ladd 28283105586 i
  have b1 := ((28283105586 : Int64) + i).le_toInt
  have b2 := ((28283105586 : Int64) + i).toInt_lt
  have e1 : ((28283105586 : Int64) + i).toInt = 28283105586 + i.toInt := by omega
  have g2 := c_lshl ((28283105586 : Int64) + i) 22 22 (by decide)
  have b3 := (((28283105586 : Int64) + i) <<< ((22 : Int32) &&& 0x3f).toInt64).le_toInt
  have b4 := (((28283105586 : Int64) + i) <<< ((22 : Int32) &&& 0x3f).toInt64).toInt_lt
  have e2 : (((28283105586 : Int64) + i) <<< ((22 : Int32) &&& 0x3f).toInt64).toInt = (28283105586 + i.toInt) * 4194304 := by omega
  have g3 := c_orL (((28283105586 : Int64) + i) <<< ((22 : Int32) &&& 0x3f).toInt64) 688128 22 (by decide) 4194304 (by decide) (by omega) (by omega) (by omega)
  have b5 := ((((28283105586 : Int64) + i) <<< ((22 : Int32) &&& 0x3f).toInt64) ||| 688128).le_toInt
  have b6 := ((((28283105586 : Int64) + i) <<< ((22 : Int32) &&& 0x3f).toInt64) ||| 688128).toInt_lt
  have e3 : ((((28283105586 : Int64) + i) <<< ((22 : Int32) &&& 0x3f).toInt64) ||| 688128).toInt = (28283105586 + i.toInt) * 4194304 + 688128 := by omega
  have g4 := (c_lrem i 16384 16384 (by decide)).1 h0
  have g5 := c_orL ((((28283105586 : Int64) + i) <<< ((22 : Int32) &&& 0x3f).toInt64) ||| 688128) (i - i / 16384 * 16384) 14 (by decide) 16384 (by decide) (by omega) (by omega) (by omega)
  have b7 := (((((28283105586 : Int64) + i) <<< ((22 : Int32) &&& 0x3f).toInt64) ||| 688128) ||| (i - i / 16384 * 16384)).le_toInt
  have b8 := (((((28283105586 : Int64) + i) <<< ((22 : Int32) &&& 0x3f).toInt64) ||| 688128) ||| (i - i / 16384 * 16384)).toInt_lt
  unfold f1
  omega
theorem own_dm (K r D : Int) (h0 : 0 ≤ r) (h1 : r < D) : (K * D + r) / D = K ∧ (K * D + r) % D = r := by
  constructor
  · rw [Int.add_comm, Int.add_mul_ediv_right _ _ (by omega), Int.ediv_eq_zero_of_lt h0 h1, Int.zero_add]
  · rw [Int.add_comm, Int.add_mul_emod_self_right, Int.emod_eq_of_lt h0 h1]
theorem own_fields (i : Int64) (h0 : 0 ≤ i.toInt) (h1 : i.toInt < 100000000) : f2 i (f1 i) = 1 := by
  have e := own_id i h0 h1
  generalize f1 i = x at e
  have l0 : (0 : Int64).toInt = 0 := by decide
  have l1 : (28283105586 : Int64).toInt = 28283105586 := by decide
  have l2 : (42 : Int64).toInt = 42 := by decide
  have d1 : x.toInt / 4194304 = 28283105586 + i.toInt := by
    have q := (own_dm (28283105586 + i.toInt) (688128 + i.toInt % 16384) 4194304 (by omega) (by omega)).1
    rw [e, Int.add_assoc]; exact q
  have d2 := own_dm ((28283105586 + i.toInt) * 256 + 42) (i.toInt % 16384) 16384 (by omega) (by omega)
  have d3 : ((28283105586 + i.toInt) * 256 + 42) * 16384 + i.toInt % 16384 = x.toInt := by omega
  rw [d3] at d2
  have d4 : x.toInt % 18446744073709551616 = x.toInt := by omega
  have g1 := c_lushr x 22 22 (by decide) (by decide)
  have g2 := c_ladd 28283105586 i
  have b1 := ((28283105586 : Int64) + i).le_toInt
  have b2 := ((28283105586 : Int64) + i).toInt_lt
  have g3 := c_lushr x 14 14 (by decide) (by decide)
  have g4 := c_maskL ((x.toUInt64 >>> ((14 : Int32) &&& 0x3f).toInt64.toUInt64).toInt64) 255 8 (by decide) (by decide)
  have g5 := c_maskL x 16383 14 (by decide) (by decide)
  have g6 := c_maskL i 16383 14 (by decide) (by decide)
  rw [d4] at g1 g3
  have n22 : ((2 ^ 22 : Nat) : Int) = 4194304 := by decide
  have n14 : ((2 ^ 14 : Nat) : Int) = 16384 := by decide
  have n8 : ((2 ^ 8 : Nat) : Int) = 256 := by decide
  rw [n22, d1] at g1
  rw [n14, d2.1] at g3
  rw [n14, d2.2] at g5
  rw [n14] at g6
  rw [n8, g3] at g4
  have t1 : f2_j18_s0 i x = 1 := by
    unfold f2_j18_s0; split
    · rfl
    · rename_i q; exact absurd (Int64.toInt_inj.mp (by rw [g1]; omega)) q
  have t2 : f2_j40_s0 x = 1 := by
    unfold f2_j40_s0; split
    · rfl
    · rename_i q; exact absurd (Int64.toInt_inj.mp (by rw [g4]; omega)) q
  have t3 : f2_j61_s0 i x = 1 := by
    unfold f2_j61_s0; split
    · rfl
    · rename_i q; exact absurd (Int64.toInt_inj.mp (by rw [g5, g6])) q
  unfold f2
  rw [t1, t2, t3, if_pos (show (0 : Int64) < x by rw [Int64.lt_iff_toInt_lt]; omega)]
  decide
theorem own_law (a b : Int32) : f0 a b = 1 := by
  have ha := own_rem a
  have hb := own_rem b
  have eb : f0_v19 b = f0_v9 b := rfl
  have xa := own_id _ ha.1 ha.2
  have xb := own_id _ hb.1 hb.2
  have fa := own_fields _ ha.1 ha.2
  have fb := own_fields _ hb.1 hb.2
  unfold f0 f0_j95_s0 f0_j46_s0 f0_j59_s0 f0_j74_s0 f0_j87_s0 f0_v25 f0_v32
  rw [eb, fa, fb]
  generalize f0_v9 a = i at *
  generalize f0_v9 b = j at *
  generalize f1 i = x at *
  generalize f1 j = y at *
  have q1 : (i < j) ↔ (x < y) := by rw [Int64.lt_iff_toInt_lt, Int64.lt_iff_toInt_lt]; omega
  have q2 : (i = j) ↔ (x = y) := by rw [← Int64.toInt_inj, ← Int64.toInt_inj]; omega
  by_cases p1 : x < y <;> by_cases p2 : x = y <;> simp [q1, q2, p1, p2]
set_option maxRecDepth 65536 in
set_option maxHeartbeats 40000000 in
theorem comes_1 {Post : Tables → Env → Array Value → State → Outcome → State → Prop} (hpost : ∀ tb e args s v u, (limb_1_1.after args s (.returned v) u = true ∧ limb_1_2.after args s (.returned v) u = true ∧ True) → FrameEnd s (.returned v) u (Jvm.fieldLocs frame_1_writes args s ++ Jvm.arrayLocs frame_1_arrays args s ++ Jvm.staticLocs frame_1_statics s) 0 0 → Post tb e args s (.returned v) u) :
    ArmFor flags0 classFile x code maxLocals ret World_1 tables_1 room_1 Calls_1 rest_1 Pre_1 Post := by
  intro l hfl _ _ p e ha hc hk s m args below hf hA hF happ hP
  obtain ⟨hcalls, hrest, hpre⟩ := hP
  obtain ⟨-, -, -, hnamed, -, -, -, hat⟩ := (Spec.applies_iff hf).mp happ
  obtain ⟨hg, hn⟩ := and_e (Cond.before_iff.mp (show (Jvm.Cond.and given_1 narrow_1).before args s = true from hpre))
  obtain ⟨g1, g2⟩ := and_e hg
  obtain ⟨g3, g4⟩ := and_e g2
  obtain ⟨w0, w1, rfl⟩ : ∃ w0 w1 : Value, args = #[w0, w1] := by
    have hs : args.size = 2 := by simpa [Cond.value, given_1] using g1
    obtain ⟨L⟩ := args
    match L, hs with
    | [w0, w1], _ => exact ⟨w0, w1, rfl⟩
  have hw := fun d (hd : d ∈ tables_1) => atoms_spec (ws := Jvm.Cond.code x code maxLocals ret :: tables_1) hat d (List.mem_cons_of_mem _ hd)
  have hfit : Fit s := fun {y c} hc i hi => by
    obtain ⟨ha, rfl⟩ := Array.getElem?_eq_some_iff.mp hc
    have q := List.all_eq_true.mp ((Array.all_eq_true_iff_forall_mem.mp hF) _ (Array.getElem_mem ha)) i (List.mem_range.mpr hi)
    simpa [Array.getElem?_eq_getElem hi] using q
  obtain ⟨i0, ei0⟩ := is_v g3
  obtain rfl : w0 = (.int i0) := Option.some.inj ei0
  obtain ⟨i1, ei1⟩ := is_v g4
  obtain rfl : w1 = (.int i1) := Option.some.inj ei1
  obtain ⟨n, o, h1, h2, h3, _, L, rfl, ⟨rfl, N, -⟩, hq⟩ := rm0 l s _ hw tables_1 i0 i1 s.heap s.heap.size p e ha hc hk s m _ below hf ((Spec.applies_iff_loose hf).mp happ).1 ⟨rfl, State.Warmed39.refl s, rfl⟩ trivial
  rw [own_law i0 i1] at *
  refine ⟨n, _, h1, h2, h3, hpost _ _ _ _ _ _ ⟨Cond.after_iff.mpr rfl, Cond.after_iff.mpr (eq_i res_at (Term.int_eval (1)) rfl), trivial⟩ ⟨hq.1, hq.2.1, (hq.2.2.sift fun y hy => Or.inr (N y hy)).mono (by decide) (by decide)⟩⟩
theorem main_1_1 : Claimed_1_1 := comes_1 fun _ _ _ _ _ _ h hF => ⟨h.1, hF⟩
theorem main_1_2 : Claimed_1_2 := comes_1 fun _ _ _ _ _ _ h hF => ⟨h.2.1, hF⟩
end Jvm.Pilot.@@N@@
namespace Jvm.Pilot.@@N@@
open Jvm Jvm.ClassFile Sem Op Lib Jvm.Free Jvm.Stand Jvm.Pilot.@@N@@.Jvm.D
/-! MADE BY PROGRAM (witnessworld.py) out of the Statement's table words and the real class files: 9 classes; the members and pool entries that the words name. The judged class is class 1, her method 2. -/
namespace start1
open Jvm.ClassFile
def u (s : String) : CpInfo := .utf8 (stringToUtf16 s)
/-- a pool by its gaps: so many unusable entries, then the entry; so many at the end -/
def gap : Nat → List CpInfo → List CpInfo
  | 0, r => r
  | n + 1, r => .unusable :: gap n r
def poolList (es : List (Nat × CpInfo)) (last : Nat) : List CpInfo := es.foldr (fun e r => gap e.1 (e.2 :: r)) (gap last [])
def pool (es : List (Nat × CpInfo)) (last : Nat) : Array CpInfo := ⟨poolList es last⟩
def fileOf (pool : Array CpInfo) (this : Nat) (attrs : Array Attribute := #[]) (ms : Array MethodInfo := #[]) (fl : Nat := 33) (sup : Nat := 0) (ifs : Array Nat := #[]) (fds : Array FieldInfo := #[]) : ClassFile where
  minorVersion := 0
  majorVersion := 65
  constantPool := pool
  accessFlags := fl
  thisClass := this
  superClass := sup
  interfaces := ifs
  fields := fds
  methods := ms
  attributes := attrs
def plain (name : String) (sup : Option ClassId) : Class where
  name := name
  kind := .ordinary
  loader := none
  accessFlags := 33
  super := sup
  interfaces := #[]
  cf := none
  fields := #[]
  methods := #[]
  instanceTypes := #[]
  staticTypes := #[]
  resolved := #[]
  callSites := []
  init := .initialized
  statics := none
  mirror := none

def pool0 : Array CpInfo := pool [(5, u "<init>"), (0, u "()V"), (1, .class_ 10), (1, u "java/lang/Object")] 113

def k0m0 : Method := { name := "<init>", desc := "()V", sig := { parameters := [], returnType := none }, accessFlags := 1, code := none }
/-- java/lang/Object -/
def k0 : Class := { plain "java/lang/Object" none with
  accessFlags := 33
  interfaces := #[]
  cf := some (fileOf pool0 8 #[] #[{ accessFlags := 1, nameIndex := 5, descriptorIndex := 6, attributes := #[] }] 33 0 #[] #[])
  fields := #[]
  methods := #[k0m0]
  instanceTypes := #[]
  staticTypes := #[]
  resolved := Array.replicate 124 none
  statics := none }

def pool1 : Array CpInfo := pool [(2, .class_ 4), (1, u "java/lang/Object"), (0, u "<init>"), (0, u "()V"), (0, .long 28283105586), (1, .long 255), (1, .long 42), (1, .long 16383), (1, .integer 2147483647), (0, .long 100000000), (1, .methodref 19 20), (0, .class_ 21), (0, .nameAndType 22 23), (0, u "com/example/bowerbird/bowerbird/bench/Entries"), (0, u "id"), (0, u "(J)J"), (0, .methodref 25 26), (0, .class_ 27), (0, .nameAndType 28 29), (0, u "com/example/bowerbird/bowerbird/bench/EntriesIdPinLaw"), (0, u "fieldsOk"), (0, u "(JJ)Z"), (3, u "law"), (0, u "(II)Z")] 2

def k1m0 : Method := { name := "<init>", desc := "()V", sig := { parameters := [], returnType := none }, accessFlags := 2, code := none }
def k1c1 : Code := { maxStack := 6, maxLocals := 7, code := method_2_code, exceptionTable := #[], attributes := #[] }
def k1m1 : Method := { name := "fieldsOk", desc := "(JJ)Z", sig := { parameters := [.long, .long], returnType := some .boolean }, accessFlags := 10, code := some k1c1 }
def k1c2 : Code := { maxStack := 5, maxLocals := 11, code := code, exceptionTable := #[], attributes := #[] }
def k1m2 : Method := { name := "law", desc := "(II)Z", sig := { parameters := [.int, .int], returnType := some .boolean }, accessFlags := 9, code := some k1c2 }
/-- com/example/bowerbird/bowerbird/bench/EntriesIdPinLaw -/
def k1 : Class := { plain "com/example/bowerbird/bowerbird/bench/EntriesIdPinLaw" (some 0) with
  accessFlags := 49
  interfaces := #[]
  cf := some (fileOf pool1 25 #[] #[{ accessFlags := 2, nameIndex := 5, descriptorIndex := 6, attributes := #[] }, { accessFlags := 10, nameIndex := 28, descriptorIndex := 29, attributes := #[] }, { accessFlags := 9, nameIndex := 33, descriptorIndex := 34, attributes := #[] }] 49 2 #[] #[])
  fields := #[]
  methods := #[k1m0, k1m1, k1m2]
  instanceTypes := #[]
  staticTypes := #[]
  resolved := Array.replicate 37 none
  statics := none }

def pool2 : Array CpInfo := pool [(1, .class_ 2), (0, u "com/example/bowerbird/bowerbird/bench/Entries"), (1, .class_ 6), (1, u "java/lang/Object"), (0, u "<init>"), (0, u "()V"), (0, .long 28283105586), (1, .long 688128), (1, .long 16384), (21, u "MAX"), (0, u "I"), (2, u "FIRST_TIME"), (0, u "J"), (0, u "WORKER"), (2, u "TIME_SHIFT"), (1, u "WORKER_SHIFT"), (1, u "SEQUENCES"), (2, u "id"), (0, u "(J)J")] 4

def k2m0 : Method := { name := "<init>", desc := "()V", sig := { parameters := [], returnType := none }, accessFlags := 2, code := none }
def k2c1 : Code := { maxStack := 6, maxLocals := 2, code := prog_2_method_2_code, exceptionTable := #[], attributes := #[] }
def k2m1 : Method := { name := "id", desc := "(J)J", sig := { parameters := [.long], returnType := some .long }, accessFlags := 8, code := some k2c1 }
/-- com/example/bowerbird/bowerbird/bench/Entries -/
def k2 : Class := { plain "com/example/bowerbird/bowerbird/bench/Entries" (some 0) with
  accessFlags := 48
  interfaces := #[]
  cf := some (fileOf pool2 1 #[] #[{ accessFlags := 2, nameIndex := 7, descriptorIndex := 8, attributes := #[] }, { accessFlags := 8, nameIndex := 51, descriptorIndex := 52, attributes := #[] }] 48 4 #[] #[{ accessFlags := 24, nameIndex := 35, descriptorIndex := 36, attributes := #[] }, { accessFlags := 26, nameIndex := 39, descriptorIndex := 40, attributes := #[] }, { accessFlags := 26, nameIndex := 41, descriptorIndex := 40, attributes := #[] }, { accessFlags := 26, nameIndex := 44, descriptorIndex := 36, attributes := #[] }, { accessFlags := 26, nameIndex := 46, descriptorIndex := 36, attributes := #[] }, { accessFlags := 26, nameIndex := 48, descriptorIndex := 40, attributes := #[] }])
  fields := #[{ name := "MAX", type := .int, accessFlags := 24, slot := 0, constantValue := 0 }, { name := "FIRST_TIME", type := .long, accessFlags := 26, slot := 1, constantValue := 0 }, { name := "WORKER", type := .long, accessFlags := 26, slot := 2, constantValue := 0 }, { name := "TIME_SHIFT", type := .int, accessFlags := 26, slot := 3, constantValue := 0 }, { name := "WORKER_SHIFT", type := .int, accessFlags := 26, slot := 4, constantValue := 0 }, { name := "SEQUENCES", type := .long, accessFlags := 26, slot := 5, constantValue := 0 }]
  methods := #[k2m0, k2m1]
  instanceTypes := #[]
  staticTypes := #[.int, .long, .long, .int, .int, .long]
  resolved := Array.replicate 57 none
  statics := none }

def pool3 : Array CpInfo := pool [(1, u "java/lang/Cloneable"), (0, .class_ 1), (0, u "java/lang/Object"), (0, .class_ 3)] 3

/-- java/lang/Cloneable -/
def k3 : Class := { plain "java/lang/Cloneable" (some 0) with
  accessFlags := 1537
  interfaces := #[]
  cf := some (fileOf pool3 2 #[] #[] 1537 4 #[] #[])
  fields := #[]
  methods := #[]
  instanceTypes := #[]
  staticTypes := #[]
  resolved := Array.replicate 8 none
  statics := none }

def pool4 : Array CpInfo := pool [(1, u "java/io/Serializable"), (0, .class_ 1), (0, u "java/lang/Object"), (0, .class_ 3)] 3

/-- java/io/Serializable -/
def k4 : Class := { plain "java/io/Serializable" (some 0) with
  accessFlags := 1537
  interfaces := #[]
  cf := some (fileOf pool4 2 #[] #[] 1537 4 #[] #[])
  fields := #[]
  methods := #[]
  instanceTypes := #[]
  staticTypes := #[]
  resolved := Array.replicate 8 none
  statics := none }

/-- the primitive byte -/
def k5 : Class := { plain "byte" none with kind := .primitive 'B', accessFlags := 0x411 }
/-- [B -/
def k6 : Class := { plain "[B" (some 0) with kind := .array 5 .byte, interfaces := #[3, 4], accessFlags := 1041 }

/-- the primitive int -/
def k7 : Class := { plain "int" none with kind := .primitive 'I', accessFlags := 0x411 }
/-- [I -/
def k8 : Class := { plain "[I" (some 0) with kind := .array 7 .int, interfaces := #[3, 4], accessFlags := 1041 }

def heap : Heap := #[]
def classes : Array Class := #[k0, k1, k2, k3, k4, k5, k6, k7, k8]
def interned : List (Array UInt16 × Addr) := []
def slotsUsed : Nat := 0
def theMethod : MethodId := ⟨1, 2⟩
def args0 : Array Value := #[.int 5, .int 7]
def aboutOver (below : List Frame) : State where
  vm := { classes := classes, interned := interned.toArray }
  heap := heap
  slotsUsed := slotsUsed
  threads := #[{ frames := .invoking theMethod args0 :: below }]
def below0 : List Frame := [.native { method := ⟨0, 0⟩, args := #[] }]
def about1 : State := aboutOver below0
def p0 : Program := .bare "" "" ""
def e0 : Env := launch0.env 0 0 0
theorem w_frames : about1.frames = Frame.invoking theMethod args0 :: below0 := rfl
set_option maxRecDepth 65536 in
theorem w_args : argsFit about1.vm theMethod args0 = true := by decide +kernel
set_option maxRecDepth 65536 in
theorem w_heap : heapFits about1 = true := by decide +kernel
set_option maxRecDepth 65536 in
theorem w_runnable : about1.curStatus? = some .runnable := by decide +kernel
set_option maxRecDepth 65536 in
theorem w_alone : about1.alone = true := by decide +kernel
set_option maxRecDepth 65536 in
theorem w_named : about1.methodNamed? x = some theMethod := by decide +kernel
set_option maxRecDepth 65536 in
theorem w_hears : about1.hears theMethod below0 = true := by decide +kernel
set_option maxRecDepth 65536 in
theorem w_ripe : about1.ripe theMethod args0 below0 = true := by decide +kernel
theorem w_running : about1.status = .running := rfl
set_option maxRecDepth 65536 in
theorem w_room : about1.hasRoom e0.platform room_1 = true :=
  launch0.hasRoom_least _ room_1 (by decide +kernel) (by decide +kernel) (by decide +kernel) (by decide +kernel) (by decide +kernel) (by decide +kernel)
theorem allAtoms_all (ts : List Jvm.Cond) (a : Array Jvm.Value) (st : Jvm.State) : (allAtoms ts).before a st = ts.all (fun c => c.before a st) := by
  induction ts with
  | nil => rfl
  | cons c t ih =>
    show (Jvm.Cond.and c (allAtoms t)).before a st = _
    rw [Jvm.Cond.before_and, ih, List.all_cons]
def words1 : List Jvm.Cond := Jvm.Cond.code x code maxLocals ret :: tables_1
/-- a 'code' word, met by the world's own term for the bytes: nothing is compared byte by byte -/
theorem code_word {y : MethodName} {bytes : ByteArray} {mx : Nat} {rt : Option FieldType} {a : Array Value} {s : State} {m : MethodId} {meth : Method} {c : Code} (h1 : s.methodNamed? y = some m) (h2 : s.vm.method? m = some meth) (h3 : meth.code = some c) (h4 : c.code = bytes)
    (h5 : (c.maxLocals == mx && c.exceptionTable.isEmpty && decide (c.maxStack ≤ mostOperands) && decide (meth.sig.returnType = rt) && !meth.locks && decide (parseMethodDescriptor y.desc = some meth.sig)) = true) : (Jvm.Cond.code y bytes mx rt).before a s = true := by
  simp only [Bool.and_eq_true, beq_iff_eq, Bool.not_eq_true', decide_eq_true_eq] at h5
  obtain ⟨⟨⟨⟨⟨g1, g2⟩, g3⟩, g4⟩, g5⟩, g6⟩ := h5
  simp [Cond.before, Cond.holds, Cond.value, h1, h2, h3, h4, g1, g2, g3, g4, g5, g6]
def isCode : Jvm.Cond → Bool
  | .code _ _ _ _ => true
  | _ => false
theorem all_split {L : List Jvm.Cond} {P : Jvm.Cond → Bool} (h1 : L.all (fun c => isCode c || P c) = true) (h2 : ∀ c ∈ L.filter isCode, P c = true) : L.all P = true := by
  refine List.all_eq_true.mpr fun c hc => ?_
  have h := List.all_eq_true.mp h1 c hc
  rcases Bool.eq_false_or_eq_true (isCode c) with hi | hi
  · exact h2 c (List.mem_filter.mpr ⟨hc, hi⟩)
  · simpa [hi] using h
set_option maxRecDepth 65536 in
theorem w_c0 : (Jvm.Cond.code x code maxLocals ret).before args0 about1 = true := code_word (m := ⟨1, 2⟩) (meth := k1m2) (c := k1c2) (by decide +kernel) rfl rfl rfl (by decide +kernel)
set_option maxRecDepth 65536 in
theorem w_c1 : (Jvm.Cond.code ({ cls := "com/example/bowerbird/bowerbird/bench/Entries", name := "id", desc := "(J)J" } : Jvm.MethodName) prog_2_method_2_code (2 : Nat) (Option.some Jvm.ClassFile.FieldType.long)).before args0 about1 = true := code_word (m := ⟨2, 1⟩) (meth := k2m1) (c := k2c1) (by decide +kernel) rfl rfl rfl (by decide +kernel)
set_option maxRecDepth 65536 in
theorem w_c2 : (Jvm.Cond.code ({ cls := "com/example/bowerbird/bowerbird/bench/EntriesIdPinLaw", name := "fieldsOk", desc := "(JJ)Z" } : Jvm.MethodName) method_2_code (7 : Nat) (Option.some Jvm.ClassFile.FieldType.boolean)).before args0 about1 = true := code_word (m := ⟨1, 1⟩) (meth := k1m1) (c := k1c1) (by decide +kernel) rfl rfl rfl (by decide +kernel)
def codes1 : List Jvm.Cond := [Jvm.Cond.code x code maxLocals ret, Jvm.Cond.code ({ cls := "com/example/bowerbird/bowerbird/bench/Entries", name := "id", desc := "(J)J" } : Jvm.MethodName) prog_2_method_2_code (2 : Nat) (Option.some Jvm.ClassFile.FieldType.long), Jvm.Cond.code ({ cls := "com/example/bowerbird/bowerbird/bench/EntriesIdPinLaw", name := "fieldsOk", desc := "(JJ)Z" } : Jvm.MethodName) method_2_code (7 : Nat) (Option.some Jvm.ClassFile.FieldType.boolean)]
set_option maxRecDepth 65536 in
theorem codes_eq : words1.filter isCode = codes1 := rfl
theorem w_codes : ∀ c ∈ words1.filter isCode, c.before args0 about1 = true := by
  rw [codes_eq]
  intro c hc
  simp only [codes1, List.mem_cons, List.not_mem_nil, or_false] at hc
  rcases hc with rfl | rfl | rfl
  · exact w_c0
  · exact w_c1
  · exact w_c2
set_option maxRecDepth 65536 in
theorem w_t1 : words1.all (fun c => isCode c || c.before args0 about1) = true := by decide +kernel
theorem w_tables : (allAtoms (Jvm.Cond.code x code maxLocals ret :: tables_1)).before args0 about1 = true := by
  rw [allAtoms_all]
  show words1.all (fun c => c.before args0 about1) = true
  refine all_split ?_ w_codes
  rw [w_t1]
set_option maxRecDepth 65536 in
theorem w_case : (Jvm.Cond.and given_1 narrow_1).before args0 about1 = true := by decide +kernel
theorem w_applies : (headSpec (Jvm.Cond.code x code maxLocals ret :: tables_1) room_1).applies x e0.platform about1 = true :=
  (Spec.applies_iff w_frames).mpr ⟨w_running, w_runnable, w_alone, w_named, w_hears, w_ripe, w_room, w_tables⟩
theorem atStart : AtStart classFile x code maxLocals ret World_1 tables_1 room_1 Calls_1 rest_1 Pre_1 launch0 p0 e0 about1 theMethod args0 below0 :=
  ⟨lists_1, trivial, launch0.admits_env _ _ _, launch0.least_env, fairChoices_fair.cas, fairChoices_fair.clock, w_frames, w_args, w_heap, w_applies, trivial, trivial, w_case⟩
end start1
theorem witness_1 : WitnessClaimed_1 := ⟨start1.p0, start1.e0, start1.about1, start1.theMethod, start1.args0, start1.below0, start1.atStart⟩
end Jvm.Pilot.@@N@@
