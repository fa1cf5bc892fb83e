import JvmDerived
import JvmDerived.Pilot.@@N@@Statement
import JvmDerived.Pilot.@@N@@Code
set_option linter.unusedVariables false
set_option linter.unusedSimpArgs false
namespace Jvm.RoadKit
open Sem ClassFile Op Lib Jvm.Stand Jvm.Free Jvm.LawKit
section New
variable {p : Program} {l : Launch} {e : Env} {R : Room} {s : State} {m : MethodId} {args : Array Value} {below : List Frame} {meth : Method} {c : Code} {T : State} {locs : List Loc} {cells slots : Nat}
theorem retI (X : Stand p l e R s m args below meth c T locs cells slots) (hx : p.tables.exec = Jvm.exec) {pc : Nat} {Ls : Array Slot} {z : Int32} {rest : List Value} (hret : meth.sig.returnType = some .int) (hd : decode c.code pc = .ok (.ireturn, 1)) {fs : List Frame}
    (hl : ∀ (f : JFrame) (acts : List Action), f.method = m → f.locked = none → f.entered = [] → (doReturn e (T.setTop f) acts (some (.int z))).1 = T.setFrames fs) : Steps p.tables e below (T.setTop (mkF m pc Ls (.int z :: rest))) (T.setFrames fs) := by
  have hm' : T.vm.method? m = some meth := X.method'
  have hn : narrow .int (.int z) = .int z := rfl
  show Steps p.tables e below (T.setTop { method := m, pc := pc, locals := Ls, stack := _ :: rest, locked := none }) _
  jvm_step X.here [X.here.top, hx, hd, hm', hret, hn]
  first | (intro acts; rw [hl _ acts rfl rfl rfl]) | rw [hl _ _ rfl rfl rfl]
  exact Steps.refl _
theorem retA (X : Stand p l e R s m args below meth c T locs cells slots) (hx : p.tables.exec = Jvm.exec) {pc : Nat} {Ls : Array Slot} {v : Value} {t : FieldType} (ht : t.isReference = true) (hv : v.isRef = true) (hret : meth.sig.returnType = some t) (hd : decode c.code pc = .ok (.areturn, 1)) {fs : List Frame}
    (hl : ∀ (f : JFrame) (acts : List Action), f.method = m → f.locked = none → f.entered = [] → (doReturn e (T.setTop f) acts (some v)).1 = T.setFrames fs) : Steps p.tables e below (T.setTop (mkF m pc Ls [v])) (T.setFrames fs) := by
  have hm' : T.vm.method? m = some meth := X.method'
  show Steps p.tables e below (T.setTop { method := m, pc := pc, locals := Ls, stack := [v], locked := none }) _
  jvm_step X.here [X.here.top, hx, hd, hm', hret, hv, ht]
  first | (intro acts; rw [hl _ acts rfl rfl rfl]) | rw [hl _ _ rfl rfl rfl]
  exact Steps.refl _
end New
end Jvm.RoadKit
namespace Jvm.Pilot.@@N@@
open Jvm Jvm.ClassFile Sem Op Lib Jvm.Free Jvm.Stand Jvm.LawKit Jvm.RoadKit Bundle Jvm.Pilot.@@N@@.Jvm.D
/-- from A the invocation comes to its end: it returns some v, P holds of v, of the heap and of the places written, and the frame is kept -/
def Rt (p : Program) (e : Env) (below : List Frame) (s : State) (k n : Nat) (P : Option Value → Heap → List Loc → Prop) (A : State) : Prop :=
  ∃ s₂ o, Steps p.tables e below A s₂ ∧ s₂.status = .running ∧ Ended s₂ below o ∧ ∃ v L, o = .returned v ∧ P v s₂.heap L ∧ FrameEnd s o s₂ L k n
/-- where the walk stands: its heap, and that all it wrote lies at n0 or above -/
def Sd (p : Program) (l : Launch) (e : Env) (R : Room) (s : State) (m : MethodId) (args : Array Value) (below : List Frame) (meth : Method) (c : Code) (T : State) (n0 cells slots : Nat) (h : Heap) : Prop :=
  ∃ locs, Stand p l e R s m args below meth c T locs cells slots ∧ Fr n0 locs ∧ T.heap = h
def lcv (j : Fin 2) : Int64 := Int64.ofNat j.val
section Own
variable {p : Program} {l : Launch} {e : Env} {R : Room} {s : State} {m : MethodId} {args : Array Value} {below : List Frame} {meth : Method} {c : Code} {T : State} {n0 cells slots : Nat} {h0 : Heap} {k n : Nat} {P : Option Value → Heap → List Loc → Prop}
theorem Rt.go {A B : State} (f : ∀ t, Steps p.tables e below B t → Steps p.tables e below A t) (h : Rt p e below s k n P B) : Rt p e below s k n P A := by
  obtain ⟨s₂, o, h1, h2⟩ := h
  exact ⟨s₂, o, f _ h1, h2⟩
theorem Rt.mono {Q : Option Value → Heap → List Loc → Prop} {A : State} (h : Rt p e below s k n Q A) (q : ∀ v h L, Q v h L → P v h L) : Rt p e below s k n P A := by
  obtain ⟨s₂, o, h1, h2, h3, v, L, h4, h5, h6⟩ := h
  exact ⟨s₂, o, h1, h2, h3, v, L, h4, q _ _ _ h5, h6⟩
theorem Rt.iloadN (X : Sd p l e R s m args below meth c T n0 cells slots h0) (hx : p.tables.exec = Jvm.exec) {pc pc' : Nat} {Ls : Array Slot} {S : List Value} {j : Fin 4} {v : Int32} (hd : decode c.code pc = .ok (.iload_n j, 1)) (hl : Ls[j.val]? = some (.val (.int v))) (hp : pc + 1 = pc')
    (h : Rt p e below s k n P (T.setTop (mkF m pc' Ls (.int v :: S)))) : Rt p e below s k n P (T.setTop (mkF m pc Ls (S))) := by
  subst hp; obtain ⟨_, X, _, _⟩ := X; exact Rt.go (fun _ => XS.iloadN X.here hx rfl hd hl) h
theorem Rt.iload (X : Sd p l e R s m args below meth c T n0 cells slots h0) (hx : p.tables.exec = Jvm.exec) {pc pc' : Nat} {Ls : Array Slot} {S : List Value} {j : Nat} {v : Int32} (hd : decode c.code pc = .ok (.iload j, 2)) (hl : Ls[j]? = some (.val (.int v))) (hp : pc + 2 = pc')
    (h : Rt p e below s k n P (T.setTop (mkF m pc' Ls (.int v :: S)))) : Rt p e below s k n P (T.setTop (mkF m pc Ls (S))) := by
  subst hp; obtain ⟨_, X, _, _⟩ := X; exact Rt.go (fun _ => XS.iload X.here hx rfl hd hl) h
theorem Rt.istoreN (X : Sd p l e R s m args below meth c T n0 cells slots h0) (hx : p.tables.exec = Jvm.exec) {pc pc' : Nat} {Ls : Array Slot} {S : List Value} {j : Fin 4} {v : Int32} {l' : Array Slot} (hd : decode c.code pc = .ok (.istore_n j, 1)) (hl : storeLocals Ls j.val (.int v) = some l') (hp : pc + 1 = pc')
    (h : Rt p e below s k n P (T.setTop (mkF m pc' l' (S)))) : Rt p e below s k n P (T.setTop (mkF m pc Ls (.int v :: S))) := by
  subst hp; obtain ⟨_, X, _, _⟩ := X; exact Rt.go (fun _ => XS.istoreN X.here hx rfl hd rfl hl) h
theorem Rt.istore (X : Sd p l e R s m args below meth c T n0 cells slots h0) (hx : p.tables.exec = Jvm.exec) {pc pc' : Nat} {Ls : Array Slot} {S : List Value} {j : Nat} {v : Int32} {l' : Array Slot} (hd : decode c.code pc = .ok (.istore j, 2)) (hl : storeLocals Ls j (.int v) = some l') (hp : pc + 2 = pc')
    (h : Rt p e below s k n P (T.setTop (mkF m pc' l' (S)))) : Rt p e below s k n P (T.setTop (mkF m pc Ls (.int v :: S))) := by
  subst hp; obtain ⟨_, X, _, _⟩ := X; exact Rt.go (fun _ => XS.istore X.here hx rfl hd rfl hl) h
theorem Rt.lloadN (X : Sd p l e R s m args below meth c T n0 cells slots h0) (hx : p.tables.exec = Jvm.exec) {pc pc' : Nat} {Ls : Array Slot} {S : List Value} {j : Fin 4} {v : Int64} (hd : decode c.code pc = .ok (.lload_n j, 1)) (hl : Ls[j.val]? = some (.val (.long v))) (hp : pc + 1 = pc')
    (h : Rt p e below s k n P (T.setTop (mkF m pc' Ls (.long v :: S)))) : Rt p e below s k n P (T.setTop (mkF m pc Ls (S))) := by
  subst hp; obtain ⟨_, X, _, _⟩ := X; exact Rt.go (fun _ => XS.lloadN X.here hx rfl hd hl) h
theorem Rt.lload (X : Sd p l e R s m args below meth c T n0 cells slots h0) (hx : p.tables.exec = Jvm.exec) {pc pc' : Nat} {Ls : Array Slot} {S : List Value} {j : Nat} {v : Int64} (hd : decode c.code pc = .ok (.lload j, 2)) (hl : Ls[j]? = some (.val (.long v))) (hp : pc + 2 = pc')
    (h : Rt p e below s k n P (T.setTop (mkF m pc' Ls (.long v :: S)))) : Rt p e below s k n P (T.setTop (mkF m pc Ls (S))) := by
  subst hp; obtain ⟨_, X, _, _⟩ := X; exact Rt.go (fun _ => XS.lload X.here hx rfl hd hl) h
theorem Rt.lstoreN (X : Sd p l e R s m args below meth c T n0 cells slots h0) (hx : p.tables.exec = Jvm.exec) {pc pc' : Nat} {Ls : Array Slot} {S : List Value} {j : Fin 4} {v : Int64} {l' : Array Slot} (hd : decode c.code pc = .ok (.lstore_n j, 1)) (hl : storeLocals Ls j.val (.long v) = some l') (hp : pc + 1 = pc')
    (h : Rt p e below s k n P (T.setTop (mkF m pc' l' (S)))) : Rt p e below s k n P (T.setTop (mkF m pc Ls (.long v :: S))) := by
  subst hp; obtain ⟨_, X, _, _⟩ := X; exact Rt.go (fun _ => XS.lstoreN X.here hx rfl hd rfl hl) h
theorem Rt.lstore (X : Sd p l e R s m args below meth c T n0 cells slots h0) (hx : p.tables.exec = Jvm.exec) {pc pc' : Nat} {Ls : Array Slot} {S : List Value} {j : Nat} {v : Int64} {l' : Array Slot} (hd : decode c.code pc = .ok (.lstore j, 2)) (hl : storeLocals Ls j (.long v) = some l') (hp : pc + 2 = pc')
    (h : Rt p e below s k n P (T.setTop (mkF m pc' l' (S)))) : Rt p e below s k n P (T.setTop (mkF m pc Ls (.long v :: S))) := by
  subst hp; obtain ⟨_, X, _, _⟩ := X; exact Rt.go (fun _ => XS.lstore X.here hx rfl hd rfl hl) h
theorem Rt.aloadN (X : Sd p l e R s m args below meth c T n0 cells slots h0) (hx : p.tables.exec = Jvm.exec) {pc pc' : Nat} {Ls : Array Slot} {S : List Value} {j : Fin 4} {v : Value} (hd : decode c.code pc = .ok (.aload_n j, 1)) (hl : Ls[j.val]? = some (.val v)) (hv : v.isRef = true) (hp : pc + 1 = pc')
    (h : Rt p e below s k n P (T.setTop (mkF m pc' Ls (v :: S)))) : Rt p e below s k n P (T.setTop (mkF m pc Ls (S))) := by
  subst hp; obtain ⟨_, X, _, _⟩ := X; exact Rt.go (fun _ => XS.aloadN X.here hx rfl hd hl hv) h
theorem Rt.aload (X : Sd p l e R s m args below meth c T n0 cells slots h0) (hx : p.tables.exec = Jvm.exec) {pc pc' : Nat} {Ls : Array Slot} {S : List Value} {j : Nat} {v : Value} (hd : decode c.code pc = .ok (.aload j, 2)) (hl : Ls[j]? = some (.val v)) (hv : v.isRef = true) (hp : pc + 2 = pc')
    (h : Rt p e below s k n P (T.setTop (mkF m pc' Ls (v :: S)))) : Rt p e below s k n P (T.setTop (mkF m pc Ls (S))) := by
  subst hp; obtain ⟨_, X, _, _⟩ := X; exact Rt.go (fun _ => XS.aload X.here hx rfl hd hl hv) h
theorem Rt.astoreN (X : Sd p l e R s m args below meth c T n0 cells slots h0) (hx : p.tables.exec = Jvm.exec) {pc pc' : Nat} {Ls : Array Slot} {S : List Value} {j : Fin 4} {v : Value} {l' : Array Slot} (hd : decode c.code pc = .ok (.astore_n j, 1)) (hv : v.isRef = true) (hl : storeLocals Ls j.val v = some l') (hp : pc + 1 = pc')
    (h : Rt p e below s k n P (T.setTop (mkF m pc' l' (S)))) : Rt p e below s k n P (T.setTop (mkF m pc Ls (v :: S))) := by
  subst hp; obtain ⟨_, X, _, _⟩ := X; exact Rt.go (fun _ => XS.astoreN X.here hx rfl hd rfl hv hl) h
theorem Rt.astore (X : Sd p l e R s m args below meth c T n0 cells slots h0) (hx : p.tables.exec = Jvm.exec) {pc pc' : Nat} {Ls : Array Slot} {S : List Value} {j : Nat} {v : Value} {l' : Array Slot} (hd : decode c.code pc = .ok (.astore j, 2)) (hv : v.isRef = true) (hl : storeLocals Ls j v = some l') (hp : pc + 2 = pc')
    (h : Rt p e below s k n P (T.setTop (mkF m pc' l' (S)))) : Rt p e below s k n P (T.setTop (mkF m pc Ls (v :: S))) := by
  subst hp; obtain ⟨_, X, _, _⟩ := X; exact Rt.go (fun _ => XS.astore X.here hx rfl hd rfl hv hl) h
theorem Rt.iconst (X : Sd p l e R s m args below meth c T n0 cells slots h0) (hx : p.tables.exec = Jvm.exec) {pc pc' : Nat} {Ls : Array Slot} {S : List Value} {i : Int} {v : Int32} (hd : decode c.code pc = .ok (.iconst i, 1)) (hv : Int32.ofInt i = v) (hp : pc + 1 = pc')
    (h : Rt p e below s k n P (T.setTop (mkF m pc' Ls (.int v :: S)))) : Rt p e below s k n P (T.setTop (mkF m pc Ls S)) := by
  subst hp hv; obtain ⟨_, X, _, _⟩ := X; exact Rt.go (fun _ => XS.iconst X.here hx rfl hd) h
theorem Rt.bipush (X : Sd p l e R s m args below meth c T n0 cells slots h0) (hx : p.tables.exec = Jvm.exec) {pc pc' : Nat} {Ls : Array Slot} {S : List Value} {i : Int} {v : Int32} (hd : decode c.code pc = .ok (.bipush i, 2)) (hv : (Int8.ofInt i).toInt32 = v) (hp : pc + 2 = pc')
    (h : Rt p e below s k n P (T.setTop (mkF m pc' Ls (.int v :: S)))) : Rt p e below s k n P (T.setTop (mkF m pc Ls S)) := by
  subst hp hv; obtain ⟨_, X, _, _⟩ := X; exact Rt.go (fun _ => XS.bipush X.here hx rfl hd) h
theorem Rt.sipush (X : Sd p l e R s m args below meth c T n0 cells slots h0) (hx : p.tables.exec = Jvm.exec) {pc pc' : Nat} {Ls : Array Slot} {S : List Value} {i : Int} {v : Int32} (hd : decode c.code pc = .ok (.sipush i, 3)) (hv : (Int16.ofInt i).toInt32 = v) (hp : pc + 3 = pc')
    (h : Rt p e below s k n P (T.setTop (mkF m pc' Ls (.int v :: S)))) : Rt p e below s k n P (T.setTop (mkF m pc Ls S)) := by
  subst hp hv; obtain ⟨_, X, _, _⟩ := X; exact Rt.go (fun _ => XS.sipush X.here hx rfl hd) h
theorem Rt.lconst (X : Sd p l e R s m args below meth c T n0 cells slots h0) (hx : p.tables.exec = Jvm.exec) {pc pc' : Nat} {Ls : Array Slot} {S : List Value} {i : Fin 2} {v : Int64} (hd : decode c.code pc = .ok (.lconst i, 1)) (hv : lcv i = v) (hp : pc + 1 = pc')
    (h : Rt p e below s k n P (T.setTop (mkF m pc' Ls (.long v :: S)))) : Rt p e below s k n P (T.setTop (mkF m pc Ls S)) := by
  subst hp hv; obtain ⟨_, X, _, _⟩ := X; exact Rt.go (fun _ => XS.lconst X.here hx rfl hd) h
theorem Rt.aconstNull (X : Sd p l e R s m args below meth c T n0 cells slots h0) (hx : p.tables.exec = Jvm.exec) {pc pc' : Nat} {Ls : Array Slot} {S : List Value}  (hd : decode c.code pc = .ok (.aconst_null, 1)) (hp : pc + 1 = pc')
    (h : Rt p e below s k n P (T.setTop (mkF m pc' Ls (.null :: S)))) : Rt p e below s k n P (T.setTop (mkF m pc Ls (S))) := by
  subst hp; obtain ⟨_, X, _, _⟩ := X; exact Rt.go (fun _ => XS.aconstNull X.here hx rfl hd ) h
theorem Rt.iadd (X : Sd p l e R s m args below meth c T n0 cells slots h0) (hx : p.tables.exec = Jvm.exec) {pc pc' : Nat} {Ls : Array Slot} {S : List Value} {x y r : Int32} (hd : decode c.code pc = .ok (.iadd, 1)) (hr : x + y = r) (hp : pc + 1 = pc')
    (h : Rt p e below s k n P (T.setTop (mkF m pc' Ls (.int r :: S)))) : Rt p e below s k n P (T.setTop (mkF m pc Ls (.int y :: .int x :: S))) := by
  subst hp hr; obtain ⟨_, X, _, _⟩ := X; exact Rt.go (fun _ => XS.iadd X.here hx rfl hd rfl) h
theorem Rt.isub (X : Sd p l e R s m args below meth c T n0 cells slots h0) (hx : p.tables.exec = Jvm.exec) {pc pc' : Nat} {Ls : Array Slot} {S : List Value} {x y r : Int32} (hd : decode c.code pc = .ok (.isub, 1)) (hr : x - y = r) (hp : pc + 1 = pc')
    (h : Rt p e below s k n P (T.setTop (mkF m pc' Ls (.int r :: S)))) : Rt p e below s k n P (T.setTop (mkF m pc Ls (.int y :: .int x :: S))) := by
  subst hp hr; obtain ⟨_, X, _, _⟩ := X; exact Rt.go (fun _ => XS.isub X.here hx rfl hd rfl) h
theorem Rt.imul (X : Sd p l e R s m args below meth c T n0 cells slots h0) (hx : p.tables.exec = Jvm.exec) {pc pc' : Nat} {Ls : Array Slot} {S : List Value} {x y r : Int32} (hd : decode c.code pc = .ok (.imul, 1)) (hr : x * y = r) (hp : pc + 1 = pc')
    (h : Rt p e below s k n P (T.setTop (mkF m pc' Ls (.int r :: S)))) : Rt p e below s k n P (T.setTop (mkF m pc Ls (.int y :: .int x :: S))) := by
  subst hp hr; obtain ⟨_, X, _, _⟩ := X; exact Rt.go (fun _ => XS.imul X.here hx rfl hd rfl) h
theorem Rt.iand (X : Sd p l e R s m args below meth c T n0 cells slots h0) (hx : p.tables.exec = Jvm.exec) {pc pc' : Nat} {Ls : Array Slot} {S : List Value} {x y r : Int32} (hd : decode c.code pc = .ok (.iand, 1)) (hr : x &&& y = r) (hp : pc + 1 = pc')
    (h : Rt p e below s k n P (T.setTop (mkF m pc' Ls (.int r :: S)))) : Rt p e below s k n P (T.setTop (mkF m pc Ls (.int y :: .int x :: S))) := by
  subst hp hr; obtain ⟨_, X, _, _⟩ := X; exact Rt.go (fun _ => XS.iand X.here hx rfl hd rfl) h
theorem Rt.ior (X : Sd p l e R s m args below meth c T n0 cells slots h0) (hx : p.tables.exec = Jvm.exec) {pc pc' : Nat} {Ls : Array Slot} {S : List Value} {x y r : Int32} (hd : decode c.code pc = .ok (.ior, 1)) (hr : x ||| y = r) (hp : pc + 1 = pc')
    (h : Rt p e below s k n P (T.setTop (mkF m pc' Ls (.int r :: S)))) : Rt p e below s k n P (T.setTop (mkF m pc Ls (.int y :: .int x :: S))) := by
  subst hp hr; obtain ⟨_, X, _, _⟩ := X; exact Rt.go (fun _ => XS.ior X.here hx rfl hd rfl) h
theorem Rt.ixor (X : Sd p l e R s m args below meth c T n0 cells slots h0) (hx : p.tables.exec = Jvm.exec) {pc pc' : Nat} {Ls : Array Slot} {S : List Value} {x y r : Int32} (hd : decode c.code pc = .ok (.ixor, 1)) (hr : x ^^^ y = r) (hp : pc + 1 = pc')
    (h : Rt p e below s k n P (T.setTop (mkF m pc' Ls (.int r :: S)))) : Rt p e below s k n P (T.setTop (mkF m pc Ls (.int y :: .int x :: S))) := by
  subst hp hr; obtain ⟨_, X, _, _⟩ := X; exact Rt.go (fun _ => XS.ixor X.here hx rfl hd rfl) h
theorem Rt.ishl (X : Sd p l e R s m args below meth c T n0 cells slots h0) (hx : p.tables.exec = Jvm.exec) {pc pc' : Nat} {Ls : Array Slot} {S : List Value} {x y r : Int32} (hd : decode c.code pc = .ok (.ishl, 1)) (hr : x <<< (y &&& 31) = r) (hp : pc + 1 = pc')
    (h : Rt p e below s k n P (T.setTop (mkF m pc' Ls (.int r :: S)))) : Rt p e below s k n P (T.setTop (mkF m pc Ls (.int y :: .int x :: S))) := by
  subst hp hr; obtain ⟨_, X, _, _⟩ := X; exact Rt.go (fun _ => XS.ishl X.here hx rfl hd rfl) h
theorem Rt.ishr (X : Sd p l e R s m args below meth c T n0 cells slots h0) (hx : p.tables.exec = Jvm.exec) {pc pc' : Nat} {Ls : Array Slot} {S : List Value} {x y r : Int32} (hd : decode c.code pc = .ok (.ishr, 1)) (hr : x >>> (y &&& 31) = r) (hp : pc + 1 = pc')
    (h : Rt p e below s k n P (T.setTop (mkF m pc' Ls (.int r :: S)))) : Rt p e below s k n P (T.setTop (mkF m pc Ls (.int y :: .int x :: S))) := by
  subst hp hr; obtain ⟨_, X, _, _⟩ := X; exact Rt.go (fun _ => XS.ishr X.here hx rfl hd rfl) h
theorem Rt.iushr (X : Sd p l e R s m args below meth c T n0 cells slots h0) (hx : p.tables.exec = Jvm.exec) {pc pc' : Nat} {Ls : Array Slot} {S : List Value} {x y r : Int32} (hd : decode c.code pc = .ok (.iushr, 1)) (hr : (x.toUInt32 >>> (y &&& 31).toUInt32).toInt32 = r) (hp : pc + 1 = pc')
    (h : Rt p e below s k n P (T.setTop (mkF m pc' Ls (.int r :: S)))) : Rt p e below s k n P (T.setTop (mkF m pc Ls (.int y :: .int x :: S))) := by
  subst hp hr; obtain ⟨_, X, _, _⟩ := X; exact Rt.go (fun _ => XS.iushr X.here hx rfl hd rfl) h
theorem Rt.ladd (X : Sd p l e R s m args below meth c T n0 cells slots h0) (hx : p.tables.exec = Jvm.exec) {pc pc' : Nat} {Ls : Array Slot} {S : List Value} {x y r : Int64} (hd : decode c.code pc = .ok (.ladd, 1)) (hr : x + y = r) (hp : pc + 1 = pc')
    (h : Rt p e below s k n P (T.setTop (mkF m pc' Ls (.long r :: S)))) : Rt p e below s k n P (T.setTop (mkF m pc Ls (.long y :: .long x :: S))) := by
  subst hp hr; obtain ⟨_, X, _, _⟩ := X; exact Rt.go (fun _ => XS.ladd X.here hx rfl hd rfl) h
theorem Rt.lsub (X : Sd p l e R s m args below meth c T n0 cells slots h0) (hx : p.tables.exec = Jvm.exec) {pc pc' : Nat} {Ls : Array Slot} {S : List Value} {x y r : Int64} (hd : decode c.code pc = .ok (.lsub, 1)) (hr : x - y = r) (hp : pc + 1 = pc')
    (h : Rt p e below s k n P (T.setTop (mkF m pc' Ls (.long r :: S)))) : Rt p e below s k n P (T.setTop (mkF m pc Ls (.long y :: .long x :: S))) := by
  subst hp hr; obtain ⟨_, X, _, _⟩ := X; exact Rt.go (fun _ => XS.lsub X.here hx rfl hd rfl) h
theorem Rt.lmul (X : Sd p l e R s m args below meth c T n0 cells slots h0) (hx : p.tables.exec = Jvm.exec) {pc pc' : Nat} {Ls : Array Slot} {S : List Value} {x y r : Int64} (hd : decode c.code pc = .ok (.lmul, 1)) (hr : x * y = r) (hp : pc + 1 = pc')
    (h : Rt p e below s k n P (T.setTop (mkF m pc' Ls (.long r :: S)))) : Rt p e below s k n P (T.setTop (mkF m pc Ls (.long y :: .long x :: S))) := by
  subst hp hr; obtain ⟨_, X, _, _⟩ := X; exact Rt.go (fun _ => XS.lmul X.here hx rfl hd rfl) h
theorem Rt.land (X : Sd p l e R s m args below meth c T n0 cells slots h0) (hx : p.tables.exec = Jvm.exec) {pc pc' : Nat} {Ls : Array Slot} {S : List Value} {x y r : Int64} (hd : decode c.code pc = .ok (.land, 1)) (hr : x &&& y = r) (hp : pc + 1 = pc')
    (h : Rt p e below s k n P (T.setTop (mkF m pc' Ls (.long r :: S)))) : Rt p e below s k n P (T.setTop (mkF m pc Ls (.long y :: .long x :: S))) := by
  subst hp hr; obtain ⟨_, X, _, _⟩ := X; exact Rt.go (fun _ => XS.land X.here hx rfl hd rfl) h
theorem Rt.lor (X : Sd p l e R s m args below meth c T n0 cells slots h0) (hx : p.tables.exec = Jvm.exec) {pc pc' : Nat} {Ls : Array Slot} {S : List Value} {x y r : Int64} (hd : decode c.code pc = .ok (.lor, 1)) (hr : x ||| y = r) (hp : pc + 1 = pc')
    (h : Rt p e below s k n P (T.setTop (mkF m pc' Ls (.long r :: S)))) : Rt p e below s k n P (T.setTop (mkF m pc Ls (.long y :: .long x :: S))) := by
  subst hp hr; obtain ⟨_, X, _, _⟩ := X; exact Rt.go (fun _ => XS.lor X.here hx rfl hd rfl) h
theorem Rt.lxor (X : Sd p l e R s m args below meth c T n0 cells slots h0) (hx : p.tables.exec = Jvm.exec) {pc pc' : Nat} {Ls : Array Slot} {S : List Value} {x y r : Int64} (hd : decode c.code pc = .ok (.lxor, 1)) (hr : x ^^^ y = r) (hp : pc + 1 = pc')
    (h : Rt p e below s k n P (T.setTop (mkF m pc' Ls (.long r :: S)))) : Rt p e below s k n P (T.setTop (mkF m pc Ls (.long y :: .long x :: S))) := by
  subst hp hr; obtain ⟨_, X, _, _⟩ := X; exact Rt.go (fun _ => XS.lxor X.here hx rfl hd rfl) h
theorem Rt.lshl (X : Sd p l e R s m args below meth c T n0 cells slots h0) (hx : p.tables.exec = Jvm.exec) {pc pc' : Nat} {Ls : Array Slot} {S : List Value} {x r : Int64} {y : Int32} (hd : decode c.code pc = .ok (.lshl, 1)) (hr : x <<< (y &&& 0x3f).toInt64 = r) (hp : pc + 1 = pc')
    (h : Rt p e below s k n P (T.setTop (mkF m pc' Ls (.long r :: S)))) : Rt p e below s k n P (T.setTop (mkF m pc Ls (.int y :: .long x :: S))) := by
  subst hp hr; obtain ⟨_, X, _, _⟩ := X; exact Rt.go (fun _ => XS.lshl X.here hx rfl hd rfl) h
theorem Rt.lshr (X : Sd p l e R s m args below meth c T n0 cells slots h0) (hx : p.tables.exec = Jvm.exec) {pc pc' : Nat} {Ls : Array Slot} {S : List Value} {x r : Int64} {y : Int32} (hd : decode c.code pc = .ok (.lshr, 1)) (hr : x >>> (y &&& 0x3f).toInt64 = r) (hp : pc + 1 = pc')
    (h : Rt p e below s k n P (T.setTop (mkF m pc' Ls (.long r :: S)))) : Rt p e below s k n P (T.setTop (mkF m pc Ls (.int y :: .long x :: S))) := by
  subst hp hr; obtain ⟨_, X, _, _⟩ := X; exact Rt.go (fun _ => XS.lshr X.here hx rfl hd rfl) h
theorem Rt.lushr (X : Sd p l e R s m args below meth c T n0 cells slots h0) (hx : p.tables.exec = Jvm.exec) {pc pc' : Nat} {Ls : Array Slot} {S : List Value} {x r : Int64} {y : Int32} (hd : decode c.code pc = .ok (.lushr, 1)) (hr : (x.toUInt64 >>> (y &&& 0x3f).toInt64.toUInt64).toInt64 = r) (hp : pc + 1 = pc')
    (h : Rt p e below s k n P (T.setTop (mkF m pc' Ls (.long r :: S)))) : Rt p e below s k n P (T.setTop (mkF m pc Ls (.int y :: .long x :: S))) := by
  subst hp hr; obtain ⟨_, X, _, _⟩ := X; exact Rt.go (fun _ => XS.lushr X.here hx rfl hd rfl) h
theorem Rt.idiv (X : Sd p l e R s m args below meth c T n0 cells slots h0) (hx : p.tables.exec = Jvm.exec) {pc pc' : Nat} {Ls : Array Slot} {S : List Value} {x y r : Int32} (hd : decode c.code pc = .ok (.idiv, 1)) (hy : y ≠ 0) (hr : x / y = r) (hp : pc + 1 = pc')
    (h : Rt p e below s k n P (T.setTop (mkF m pc' Ls (.int r :: S)))) : Rt p e below s k n P (T.setTop (mkF m pc Ls (.int y :: .int x :: S))) := by
  subst hp hr; obtain ⟨_, X, _, _⟩ := X; exact Rt.go (fun _ => XS.idiv X.here hx rfl hd rfl hy) h
theorem Rt.irem (X : Sd p l e R s m args below meth c T n0 cells slots h0) (hx : p.tables.exec = Jvm.exec) {pc pc' : Nat} {Ls : Array Slot} {S : List Value} {x y r : Int32} (hd : decode c.code pc = .ok (.irem, 1)) (hy : y ≠ 0) (hr : x % y = r) (hp : pc + 1 = pc')
    (h : Rt p e below s k n P (T.setTop (mkF m pc' Ls (.int r :: S)))) : Rt p e below s k n P (T.setTop (mkF m pc Ls (.int y :: .int x :: S))) := by
  subst hp hr; obtain ⟨_, X, _, _⟩ := X; exact Rt.go (fun _ => iremM X hx rfl hd rfl hy) h
theorem Rt.ldiv (X : Sd p l e R s m args below meth c T n0 cells slots h0) (hx : p.tables.exec = Jvm.exec) {pc pc' : Nat} {Ls : Array Slot} {S : List Value} {x y r : Int64} (hd : decode c.code pc = .ok (.ldiv, 1)) (hy : y ≠ 0) (hr : x / y = r) (hp : pc + 1 = pc')
    (h : Rt p e below s k n P (T.setTop (mkF m pc' Ls (.long r :: S)))) : Rt p e below s k n P (T.setTop (mkF m pc Ls (.long y :: .long x :: S))) := by
  subst hp hr; obtain ⟨_, X, _, _⟩ := X; exact Rt.go (fun _ => XS.ldiv X.here hx rfl hd rfl hy) h
theorem Rt.lrem (X : Sd p l e R s m args below meth c T n0 cells slots h0) (hx : p.tables.exec = Jvm.exec) {pc pc' : Nat} {Ls : Array Slot} {S : List Value} {x y r : Int64} (hd : decode c.code pc = .ok (.lrem, 1)) (hy : y ≠ 0) (hr : x - (x / y) * y = r) (hp : pc + 1 = pc')
    (h : Rt p e below s k n P (T.setTop (mkF m pc' Ls (.long r :: S)))) : Rt p e below s k n P (T.setTop (mkF m pc Ls (.long y :: .long x :: S))) := by
  subst hp hr; obtain ⟨_, X, _, _⟩ := X; exact Rt.go (fun _ => XS.lrem X.here hx rfl hd rfl hy) h
theorem Rt.ineg (X : Sd p l e R s m args below meth c T n0 cells slots h0) (hx : p.tables.exec = Jvm.exec) {pc pc' : Nat} {Ls : Array Slot} {S : List Value} {v : Int32} {r : Int32} (hd : decode c.code pc = .ok (.ineg, 1)) (hr : -v = r) (hp : pc + 1 = pc')
    (h : Rt p e below s k n P (T.setTop (mkF m pc' Ls (.int r :: S)))) : Rt p e below s k n P (T.setTop (mkF m pc Ls (.int v :: S))) := by
  subst hp hr; obtain ⟨_, X, _, _⟩ := X; exact Rt.go (fun _ => XS.ineg X.here hx rfl hd rfl) h
theorem Rt.lneg (X : Sd p l e R s m args below meth c T n0 cells slots h0) (hx : p.tables.exec = Jvm.exec) {pc pc' : Nat} {Ls : Array Slot} {S : List Value} {v : Int64} {r : Int64} (hd : decode c.code pc = .ok (.lneg, 1)) (hr : -v = r) (hp : pc + 1 = pc')
    (h : Rt p e below s k n P (T.setTop (mkF m pc' Ls (.long r :: S)))) : Rt p e below s k n P (T.setTop (mkF m pc Ls (.long v :: S))) := by
  subst hp hr; obtain ⟨_, X, _, _⟩ := X; exact Rt.go (fun _ => XS.lneg X.here hx rfl hd rfl) h
theorem Rt.i2l (X : Sd p l e R s m args below meth c T n0 cells slots h0) (hx : p.tables.exec = Jvm.exec) {pc pc' : Nat} {Ls : Array Slot} {S : List Value} {v : Int32} {r : Int64} (hd : decode c.code pc = .ok (.i2l, 1)) (hr : v.toInt64 = r) (hp : pc + 1 = pc')
    (h : Rt p e below s k n P (T.setTop (mkF m pc' Ls (.long r :: S)))) : Rt p e below s k n P (T.setTop (mkF m pc Ls (.int v :: S))) := by
  subst hp hr; obtain ⟨_, X, _, _⟩ := X; exact Rt.go (fun _ => XS.i2l X.here hx rfl hd rfl) h
theorem Rt.l2i (X : Sd p l e R s m args below meth c T n0 cells slots h0) (hx : p.tables.exec = Jvm.exec) {pc pc' : Nat} {Ls : Array Slot} {S : List Value} {v : Int64} {r : Int32} (hd : decode c.code pc = .ok (.l2i, 1)) (hr : v.toInt32 = r) (hp : pc + 1 = pc')
    (h : Rt p e below s k n P (T.setTop (mkF m pc' Ls (.int r :: S)))) : Rt p e below s k n P (T.setTop (mkF m pc Ls (.long v :: S))) := by
  subst hp hr; obtain ⟨_, X, _, _⟩ := X; exact Rt.go (fun _ => XS.l2i X.here hx rfl hd rfl) h
theorem Rt.i2b (X : Sd p l e R s m args below meth c T n0 cells slots h0) (hx : p.tables.exec = Jvm.exec) {pc pc' : Nat} {Ls : Array Slot} {S : List Value} {v : Int32} {r : Int32} (hd : decode c.code pc = .ok (.i2b, 1)) (hr : v.toInt8.toInt32 = r) (hp : pc + 1 = pc')
    (h : Rt p e below s k n P (T.setTop (mkF m pc' Ls (.int r :: S)))) : Rt p e below s k n P (T.setTop (mkF m pc Ls (.int v :: S))) := by
  subst hp hr; obtain ⟨_, X, _, _⟩ := X; exact Rt.go (fun _ => XS.i2b X.here hx rfl hd rfl) h
theorem Rt.i2s (X : Sd p l e R s m args below meth c T n0 cells slots h0) (hx : p.tables.exec = Jvm.exec) {pc pc' : Nat} {Ls : Array Slot} {S : List Value} {v : Int32} {r : Int32} (hd : decode c.code pc = .ok (.i2s, 1)) (hr : v.toInt16.toInt32 = r) (hp : pc + 1 = pc')
    (h : Rt p e below s k n P (T.setTop (mkF m pc' Ls (.int r :: S)))) : Rt p e below s k n P (T.setTop (mkF m pc Ls (.int v :: S))) := by
  subst hp hr; obtain ⟨_, X, _, _⟩ := X; exact Rt.go (fun _ => XS.i2s X.here hx rfl hd rfl) h
theorem Rt.i2c (X : Sd p l e R s m args below meth c T n0 cells slots h0) (hx : p.tables.exec = Jvm.exec) {pc pc' : Nat} {Ls : Array Slot} {S : List Value} {v : Int32} {r : Int32} (hd : decode c.code pc = .ok (.i2c, 1)) (hr : v.toUInt32.toUInt16.toUInt32.toInt32 = r) (hp : pc + 1 = pc')
    (h : Rt p e below s k n P (T.setTop (mkF m pc' Ls (.int r :: S)))) : Rt p e below s k n P (T.setTop (mkF m pc Ls (.int v :: S))) := by
  subst hp hr; obtain ⟨_, X, _, _⟩ := X; exact Rt.go (fun _ => XS.i2c X.here hx rfl hd rfl) h
theorem Rt.lcmp (X : Sd p l e R s m args below meth c T n0 cells slots h0) (hx : p.tables.exec = Jvm.exec) {pc pc' : Nat} {Ls : Array Slot} {S : List Value} {x y : Int64} (hd : decode c.code pc = .ok (.lcmp, 1)) (hp : pc + 1 = pc')
    (h : Rt p e below s k n P (T.setTop (mkF m pc' Ls (.int (lcmpW x y) :: S)))) : Rt p e below s k n P (T.setTop (mkF m pc Ls (.long y :: .long x :: S))) := by
  subst hp; obtain ⟨_, X, _, _⟩ := X; exact Rt.go (fun _ => XS.lcmp X.here hx rfl hd rfl) h
theorem Rt.iinc (X : Sd p l e R s m args below meth c T n0 cells slots h0) (hx : p.tables.exec = Jvm.exec) {pc pc' : Nat} {Ls : Array Slot} {S : List Value} {j : Nat} {cst : Int} {x r : Int32} {l' : Array Slot} (hd : decode c.code pc = .ok (.iinc j cst, 3)) (hl : Ls[j]? = some (.val (.int x))) (hr : x + Int32.ofInt cst = r) (hl' : storeLocals Ls j (.int r) = some l') (hp : pc + 3 = pc')
    (h : Rt p e below s k n P (T.setTop (mkF m pc' l' S))) : Rt p e below s k n P (T.setTop (mkF m pc Ls S)) := by
  subst hp hr; obtain ⟨_, X, _, _⟩ := X; exact Rt.go (fun _ => XS.iinc X.here hx rfl hd hl hl') h
theorem Rt.dup (X : Sd p l e R s m args below meth c T n0 cells slots h0) (hx : p.tables.exec = Jvm.exec) {pc pc' : Nat} {Ls : Array Slot} {S : List Value} {x : Value} (hd : decode c.code pc = .ok (.dup, 1)) (hc : x.category = 1) (hp : pc + 1 = pc')
    (h : Rt p e below s k n P (T.setTop (mkF m pc' Ls (x :: x :: S)))) : Rt p e below s k n P (T.setTop (mkF m pc Ls (x :: S))) := by
  subst hp; obtain ⟨_, X, _, _⟩ := X; exact Rt.go (fun _ => XS.dup X.here hx rfl hd rfl hc) h
theorem Rt.pop (X : Sd p l e R s m args below meth c T n0 cells slots h0) (hx : p.tables.exec = Jvm.exec) {pc pc' : Nat} {Ls : Array Slot} {S : List Value} {x : Value} (hd : decode c.code pc = .ok (.pop, 1)) (hc : x.category = 1) (hp : pc + 1 = pc')
    (h : Rt p e below s k n P (T.setTop (mkF m pc' Ls (S)))) : Rt p e below s k n P (T.setTop (mkF m pc Ls (x :: S))) := by
  subst hp; obtain ⟨_, X, _, _⟩ := X; exact Rt.go (fun _ => XS.pop X.here hx rfl hd rfl hc) h
theorem Rt.dup2 (X : Sd p l e R s m args below meth c T n0 cells slots h0) (hx : p.tables.exec = Jvm.exec) {pc pc' : Nat} {Ls : Array Slot} {S : List Value} {x y : Value} (hd : decode c.code pc = .ok (.dup2, 1)) (hc : x.category = 1) (hc2 : y.category = 1) (hp : pc + 1 = pc')
    (h : Rt p e below s k n P (T.setTop (mkF m pc' Ls (x :: y :: x :: y :: S)))) : Rt p e below s k n P (T.setTop (mkF m pc Ls (x :: y :: S))) := by
  subst hp; obtain ⟨_, X, _, _⟩ := X; exact Rt.go (fun _ => XT.dup2 X.here hx rfl hd rfl hc hc2) h
theorem Rt.dupX1 (X : Sd p l e R s m args below meth c T n0 cells slots h0) (hx : p.tables.exec = Jvm.exec) {pc pc' : Nat} {Ls : Array Slot} {S : List Value} {x y : Value} (hd : decode c.code pc = .ok (.dup_x1, 1)) (hc : x.category = 1) (hc2 : y.category = 1) (hp : pc + 1 = pc')
    (h : Rt p e below s k n P (T.setTop (mkF m pc' Ls (x :: y :: x :: S)))) : Rt p e below s k n P (T.setTop (mkF m pc Ls (x :: y :: S))) := by
  subst hp; obtain ⟨_, X, _, _⟩ := X; exact Rt.go (fun _ => XS.dupX1 X.here hx rfl hd rfl hc hc2) h
theorem Rt.goto (X : Sd p l e R s m args below meth c T n0 cells slots h0) (hx : p.tables.exec = Jvm.exec) {pc pc' : Nat} {Ls : Array Slot} {S : List Value} {o : Int} (hd : decode c.code pc = .ok (.goto o, 3)) (ho : 0 ≤ (pc : Int) + o) (hp : ((pc : Int) + o).toNat = pc')
    (h : Rt p e below s k n P (T.setTop (mkF m pc' Ls S))) : Rt p e below s k n P (T.setTop (mkF m pc Ls S)) := by
  obtain ⟨_, X, _, _⟩ := X; exact Rt.go (fun _ => XS.goto X.here hx rfl (pc0 := pc) rfl hd ho hp) h
theorem Rt.ifY (X : Sd p l e R s m args below meth c T n0 cells slots h0) (hx : p.tables.exec = Jvm.exec) {pc pc' : Nat} {Ls : Array Slot} {S : List Value} {o : Int} {cd : ClassFile.Cond} {x : Int32} (hd : decode c.code pc = .ok (.ifCond cd o, 3)) (hc : ifCond.holds cd x = true) (ho : 0 ≤ (pc : Int) + o) (hp : ((pc : Int) + o).toNat = pc')
    (h : Rt p e below s k n P (T.setTop (mkF m pc' Ls S))) : Rt p e below s k n P (T.setTop (mkF m pc Ls (.int x :: S))) := by
  obtain ⟨_, X, _, _⟩ := X; exact Rt.go (fun _ => XS.ifYes X.here hx rfl (pc0 := pc) rfl hd rfl hc ho hp) h
theorem Rt.ifN (X : Sd p l e R s m args below meth c T n0 cells slots h0) (hx : p.tables.exec = Jvm.exec) {pc pc' : Nat} {Ls : Array Slot} {S : List Value} {o : Int} {cd : ClassFile.Cond} {x : Int32} (hd : decode c.code pc = .ok (.ifCond cd o, 3)) (hc : ifCond.holds cd x = false) (hp : pc + 3 = pc')
    (h : Rt p e below s k n P (T.setTop (mkF m pc' Ls S))) : Rt p e below s k n P (T.setTop (mkF m pc Ls (.int x :: S))) := by
  subst hp; obtain ⟨_, X, _, _⟩ := X; exact Rt.go (fun _ => XS.ifNo X.here hx rfl hd rfl hc) h
theorem Rt.icmpY (X : Sd p l e R s m args below meth c T n0 cells slots h0) (hx : p.tables.exec = Jvm.exec) {pc pc' : Nat} {Ls : Array Slot} {S : List Value} {o : Int} {cd : ClassFile.Cond} {x y : Int32} (hd : decode c.code pc = .ok (.if_icmp cd o, 3)) (hc : if_icmp.holds cd x y = true) (ho : 0 ≤ (pc : Int) + o) (hp : ((pc : Int) + o).toNat = pc')
    (h : Rt p e below s k n P (T.setTop (mkF m pc' Ls S))) : Rt p e below s k n P (T.setTop (mkF m pc Ls (.int y :: .int x :: S))) := by
  obtain ⟨_, X, _, _⟩ := X; exact Rt.go (fun _ => XS.icmpYes X.here hx rfl (pc0 := pc) rfl hd rfl hc ho hp) h
theorem Rt.icmpN (X : Sd p l e R s m args below meth c T n0 cells slots h0) (hx : p.tables.exec = Jvm.exec) {pc pc' : Nat} {Ls : Array Slot} {S : List Value} {o : Int} {cd : ClassFile.Cond} {x y : Int32} (hd : decode c.code pc = .ok (.if_icmp cd o, 3)) (hc : if_icmp.holds cd x y = false) (hp : pc + 3 = pc')
    (h : Rt p e below s k n P (T.setTop (mkF m pc' Ls S))) : Rt p e below s k n P (T.setTop (mkF m pc Ls (.int y :: .int x :: S))) := by
  subst hp; obtain ⟨_, X, _, _⟩ := X; exact Rt.go (fun _ => XS.icmpNo X.here hx rfl hd rfl hc) h
theorem Rt.ifnullY (X : Sd p l e R s m args below meth c T n0 cells slots h0) (hx : p.tables.exec = Jvm.exec) {pc pc' : Nat} {Ls : Array Slot} {S : List Value} {o : Int} (hd : decode c.code pc = .ok (.ifnull o, 3)) (ho : 0 ≤ (pc : Int) + o) (hp : ((pc : Int) + o).toNat = pc')
    (h : Rt p e below s k n P (T.setTop (mkF m pc' Ls S))) : Rt p e below s k n P (T.setTop (mkF m pc Ls (.null :: S))) := by
  obtain ⟨_, X, _, _⟩ := X; exact Rt.go (fun _ => XS.ifnullYes X.here hx rfl (pc0 := pc) rfl hd rfl ho hp) h
theorem Rt.ifnullN (X : Sd p l e R s m args below meth c T n0 cells slots h0) (hx : p.tables.exec = Jvm.exec) {pc pc' : Nat} {Ls : Array Slot} {S : List Value} {o : Int} {b : Addr} (hd : decode c.code pc = .ok (.ifnull o, 3)) (hp : pc + 3 = pc')
    (h : Rt p e below s k n P (T.setTop (mkF m pc' Ls S))) : Rt p e below s k n P (T.setTop (mkF m pc Ls (.ref b :: S))) := by
  subst hp; obtain ⟨_, X, _, _⟩ := X; exact Rt.go (fun _ => XS.ifnullNo X.here hx rfl hd rfl) h
theorem Rt.ifnonnullY (X : Sd p l e R s m args below meth c T n0 cells slots h0) (hx : p.tables.exec = Jvm.exec) {pc pc' : Nat} {Ls : Array Slot} {S : List Value} {o : Int} {b : Addr} (hd : decode c.code pc = .ok (.ifnonnull o, 3)) (ho : 0 ≤ (pc : Int) + o) (hp : ((pc : Int) + o).toNat = pc')
    (h : Rt p e below s k n P (T.setTop (mkF m pc' Ls S))) : Rt p e below s k n P (T.setTop (mkF m pc Ls (.ref b :: S))) := by
  obtain ⟨_, X, _, _⟩ := X; exact Rt.go (fun _ => XS.ifnonnullYes X.here hx rfl (pc0 := pc) rfl hd rfl ho hp) h
theorem Rt.ifnonnullN (X : Sd p l e R s m args below meth c T n0 cells slots h0) (hx : p.tables.exec = Jvm.exec) {pc pc' : Nat} {Ls : Array Slot} {S : List Value} {o : Int} (hd : decode c.code pc = .ok (.ifnonnull o, 3)) (hp : pc + 3 = pc')
    (h : Rt p e below s k n P (T.setTop (mkF m pc' Ls S))) : Rt p e below s k n P (T.setTop (mkF m pc Ls (.null :: S))) := by
  subst hp; obtain ⟨_, X, _, _⟩ := X; exact Rt.go (fun _ => XS.ifnonnullNo X.here hx rfl hd rfl) h
theorem Rt.acmp (X : Sd p l e R s m args below meth c T n0 cells slots h0) (hx : p.tables.exec = Jvm.exec) {pc pc' : Nat} {Ls : Array Slot} {S : List Value} {o : Int} {cd : ACond} {x y : Value} {same : Bool} (h1 : x.isRef = true) (h2 : y.isRef = true) (hd : decode c.code pc = .ok (.if_acmp cd o, 3)) (hq : decide (x = y) = same) (ho : 0 ≤ (pc : Int) + o) (hp : pc' = if acV cd same = true then ((pc : Int) + o).toNat else pc + 3)
    (h : Rt p e below s k n P (T.setTop (mkF m pc' Ls S))) : Rt p e below s k n P (T.setTop (mkF m pc Ls (y :: x :: S))) := by
  obtain ⟨_, X, _, _⟩ := X; exact Rt.go (fun _ => Jvm.RoadKit.acmp X hx rfl h1 h2 (pc0 := pc) rfl hd rfl hq ho hp) h
theorem Rt.retZ (X : Sd p l e R s m args below meth c T n0 cells slots h0) (hx : p.tables.exec = Jvm.exec) (hlk : meth.locks = false) {t : FieldType} (hret : meth.sig.returnType = some t) (ht : t = .boolean ∨ t = .byte ∨ t = .char ∨ t = .short) {pc : Nat} {Ls : Array Slot} {S : List Value} {z w : Int32} (hd : decode c.code pc = .ok (.ireturn, 1)) (hw : nar t z = w) (hk : cells ≤ k) (hn : slots ≤ n)
    (hP : ∀ L, Fr n0 L → P (some (.int w)) h0 L) : Rt p e below s k n P (T.setTop (mkF m pc Ls (.int z :: S))) := by
  subst hw; obtain ⟨locs, X, N, eh⟩ := X
  obtain ⟨fs, hr, hrun, hended, hW, hsame⟩ := X.leave (v := some (.int (nar t z))) (fun h => by rw [hret] at h; cases h) hlk
  exact ⟨_, _, retN X hx hret ht hd hr, hrun, hended, _, _, rfl, by show P _ T.heap _; rw [eh]; exact hP _ N, ⟨_, rfl⟩, hW, hsame.mono hk hn⟩
theorem Rt.retI (X : Sd p l e R s m args below meth c T n0 cells slots h0) (hx : p.tables.exec = Jvm.exec) (hlk : meth.locks = false) (hret : meth.sig.returnType = some .int) {pc : Nat} {Ls : Array Slot} {S : List Value} {z : Int32} (hd : decode c.code pc = .ok (.ireturn, 1)) (hk : cells ≤ k) (hn : slots ≤ n)
    (hP : ∀ L, Fr n0 L → P (some (.int z)) h0 L) : Rt p e below s k n P (T.setTop (mkF m pc Ls (.int z :: S))) := by
  obtain ⟨locs, X, N, eh⟩ := X
  obtain ⟨fs, hr, hrun, hended, hW, hsame⟩ := X.leave (v := some (.int z)) (fun h => by rw [hret] at h; cases h) hlk
  exact ⟨_, _, Jvm.RoadKit.retI X hx hret hd hr, hrun, hended, _, _, rfl, by show P _ T.heap _; rw [eh]; exact hP _ N, ⟨_, rfl⟩, hW, hsame.mono hk hn⟩
theorem Rt.retJ (X : Sd p l e R s m args below meth c T n0 cells slots h0) (hx : p.tables.exec = Jvm.exec) (hlk : meth.locks = false) (hret : meth.sig.returnType = some .long) {pc : Nat} {Ls : Array Slot} {z : Int64} (hd : decode c.code pc = .ok (.lreturn, 1)) (hk : cells ≤ k) (hn : slots ≤ n)
    (hP : ∀ L, Fr n0 L → P (some (.long z)) h0 L) : Rt p e below s k n P (T.setTop (mkF m pc Ls [.long z])) := by
  obtain ⟨locs, X, N, eh⟩ := X
  obtain ⟨fs, hr, hrun, hended, hW, hsame⟩ := X.leave (v := some (.long z)) (fun h => by rw [hret] at h; cases h) hlk
  exact ⟨_, _, X.lreturnOut hx hret hd hr, hrun, hended, _, _, rfl, by show P _ T.heap _; rw [eh]; exact hP _ N, ⟨_, rfl⟩, hW, hsame.mono hk hn⟩
theorem Rt.retA (X : Sd p l e R s m args below meth c T n0 cells slots h0) (hx : p.tables.exec = Jvm.exec) (hlk : meth.locks = false) {t : FieldType} (ht : t.isReference = true) (hret : meth.sig.returnType = some t) {pc : Nat} {Ls : Array Slot} {v : Value} (hv : v.isRef = true) (hd : decode c.code pc = .ok (.areturn, 1)) (hk : cells ≤ k) (hn : slots ≤ n)
    (hP : ∀ L, Fr n0 L → P (some v) h0 L) : Rt p e below s k n P (T.setTop (mkF m pc Ls [v])) := by
  obtain ⟨locs, X, N, eh⟩ := X
  obtain ⟨fs, hr, hrun, hended, hW, hsame⟩ := X.leave (v := some v) (fun h => by rw [hret] at h; cases h) hlk
  exact ⟨_, _, Jvm.RoadKit.retA X hx ht hv hret hd hr, hrun, hended, _, _, rfl, by show P _ T.heap _; rw [eh]; exact hP _ N, ⟨_, rfl⟩, hW, hsame.mono hk hn⟩
theorem Rt.retV (X : Sd p l e R s m args below meth c T n0 cells slots h0) (hx : p.tables.exec = Jvm.exec) (hlk : meth.locks = false) (hret : meth.sig.returnType = none) {pc : Nat} {Ls : Array Slot}  (hd : decode c.code pc = .ok (.return_, 1)) (hk : cells ≤ k) (hn : slots ≤ n)
    (hP : ∀ L, Fr n0 L → P none h0 L) : Rt p e below s k n P (T.setTop (mkF m pc Ls [])) := by
  obtain ⟨locs, X, N, eh⟩ := X
  obtain ⟨fs, hr, hrun, hended, hW, hsame⟩ := X.leave (v := none) (fun _ => rfl) hlk
  exact ⟨_, _, X.returnOut hx hret hd hr, hrun, hended, _, _, rfl, by show P _ T.heap _; rw [eh]; exact hP _ N, ⟨_, rfl⟩, hW, hsame.mono hk hn⟩
theorem Rt.ldcInt (X : Sd p l e R s m args below meth c T n0 cells slots h0) (hx : p.tables.exec = Jvm.exec) {Z : State} {a0 : Array Value} (hZ : Z.Warmed39 s.vm) {own : String} {index : Nat} {v : Int32} (hown : s.vm.findClass own = some m.cls) (w : (Cond.constant own index v).before a0 Z = true) {pc pc' : Nat} {Ls : Array Slot} {S : List Value} (hd : decode c.code pc = .ok (.ldc index, 2)) (hp : pc + 2 = pc')
    (h : Rt p e below s k n P (T.setTop (mkF m pc' Ls (.int v :: S)))) : Rt p e below s k n P (T.setTop (mkF m pc Ls S)) := by
  subst hp; obtain ⟨_, X, _, _⟩ := X; exact Rt.go (X.ldcInt hx hown (mvT hZ w) (g := mkF m pc Ls S) rfl hd) h
theorem Rt.ldcwInt (X : Sd p l e R s m args below meth c T n0 cells slots h0) (hx : p.tables.exec = Jvm.exec) {Z : State} {a0 : Array Value} (hZ : Z.Warmed39 s.vm) {own : String} {index : Nat} {v : Int32} (hown : s.vm.findClass own = some m.cls) (w : (Cond.constant own index v).before a0 Z = true) {pc pc' : Nat} {Ls : Array Slot} {S : List Value} (hd : decode c.code pc = .ok (.ldc_w index, 3)) (hp : pc + 3 = pc')
    (h : Rt p e below s k n P (T.setTop (mkF m pc' Ls (.int v :: S)))) : Rt p e below s k n P (T.setTop (mkF m pc Ls S)) := by
  subst hp; obtain ⟨_, X, _, _⟩ := X; exact Rt.go (X.ldcwInt hx hown (mvT hZ w) (g := mkF m pc Ls S) rfl hd) h
theorem Rt.ldc2Long (X : Sd p l e R s m args below meth c T n0 cells slots h0) (hx : p.tables.exec = Jvm.exec) {Z : State} {a0 : Array Value} (hZ : Z.Warmed39 s.vm) {own : String} {index : Nat} {v : Int64} (hown : s.vm.findClass own = some m.cls) (w : (Cond.constantLong own index v).before a0 Z = true) {pc pc' : Nat} {Ls : Array Slot} {S : List Value} (hd : decode c.code pc = .ok (.ldc2_w index, 3)) (hp : pc + 3 = pc')
    (h : Rt p e below s k n P (T.setTop (mkF m pc' Ls (.long v :: S)))) : Rt p e below s k n P (T.setTop (mkF m pc Ls S)) := by
  subst hp; obtain ⟨_, X, _, _⟩ := X; exact Rt.go (X.ldc2Long hx hown (mvT hZ w) (g := mkF m pc Ls S) rfl hd) h
theorem ltl {x y : Int64} (h : x < y) : ifCond.holds .lt (lcmpW x y) = true ∧ ifCond.holds .ge (lcmpW x y) = false := ⟨(if0 _ _).trans (tlt ((lw_lt x y).mpr h)).1, (if0 _ _).trans (tlt ((lw_lt x y).mpr h)).2.1⟩
theorem lfl {x y : Int64} (h : ¬ x < y) : ifCond.holds .lt (lcmpW x y) = false ∧ ifCond.holds .ge (lcmpW x y) = true := ⟨(if0 _ _).trans (flt (fun q => h ((lw_lt x y).mp q))).1, (if0 _ _).trans (flt (fun q => h ((lw_lt x y).mp q))).2.1⟩
theorem gtl {x y : Int64} (h : y < x) : ifCond.holds .gt (lcmpW x y) = true ∧ ifCond.holds .le (lcmpW x y) = false := ⟨(if0 _ _).trans (tlt ((lw_gt x y).mpr h)).2.2.1, (if0 _ _).trans (tlt ((lw_gt x y).mpr h)).2.2.2⟩
theorem gfl {x y : Int64} (h : ¬ y < x) : ifCond.holds .gt (lcmpW x y) = false ∧ ifCond.holds .le (lcmpW x y) = true := ⟨(if0 _ _).trans (flt (fun q => h ((lw_gt x y).mp q))).2.2.1, (if0 _ _).trans (flt (fun q => h ((lw_gt x y).mp q))).2.2.2⟩
theorem etl {x y : Int64} (h : x = y) : ifCond.holds .eq (lcmpW x y) = true ∧ ifCond.holds .ne (lcmpW x y) = false := ⟨(if0 _ _).trans (teq ((lw_eq x y).mpr h)).1, (if0 _ _).trans (teq ((lw_eq x y).mpr h)).2⟩
theorem efl {x y : Int64} (h : ¬ x = y) : ifCond.holds .eq (lcmpW x y) = false ∧ ifCond.holds .ne (lcmpW x y) = true := ⟨(if0 _ _).trans (feq (fun q => h ((lw_eq x y).mp q))).1, (if0 _ _).trans (feq (fun q => h ((lw_eq x y).mp q))).2⟩
/-- what a method leaves: its contract's form -/
abbrev Mt (l : Launch) (Z : State) (y : MethodName) (ws : List Jvm.Cond) (rm : Room) (as' : Array Value) (h : Heap) (Q : Option Value → Heap → List Loc → Prop) : Prop :=
  MetFree l y (head1 ws rm) (fun a U => a = as' ∧ Z.Warmed39 U.vm ∧ U.heap = h) (fun _ _ _ _ _ => True) (fun _ U o U' => ∃ v L, o = .returned v ∧ Q v U'.heap L ∧ FrameEnd U o U' L rm.cells rm.slots)
/-- from a body's walk to its contract -/
theorem Mt.of {Z : State} {y : MethodName} {bytes : ByteArray} {maxL : Nat} {ret : Option FieldType} {ws : List Jvm.Cond} {rm : Room} {as' : Array Value} {h : Heap} {Q : Option Value → Heap → List Loc → Prop} (n0 : Nat) (hpl : plainFor y = true)
    (body : ∀ (p : Program) (e : Env) (s : State) (m : MethodId) (below : List Frame) (meth : Method) (c : Code) (T : State), Sd p l e rm s m as' below meth c T n0 0 0 h → p.tables.exec = Jvm.exec → Z.Warmed39 s.vm → c.code = bytes → c.maxLocals = maxL → s.vm.findClass y.cls = some m.cls → meth.sig.returnType = ret → meth.locks = false → meth.name = y.name → s.heap = h →
      Rt p e below s rm.cells rm.slots Q (T.setTop (entryFrame m as' maxL))) : Mt l Z y (Jvm.Cond.code y bytes maxL ret :: ws) rm as' h Q := by
  refine MetFree.of_bodySF hpl hisR ?_
  intro p e s m args below meth c s₁ Bd hml0 hP hK
  obtain ⟨rfl, hZ, hh⟩ := hP
  have e0 : s₁.heap = h := by rw [← hh, Bd.state]; rfl
  obtain ⟨s₂, o, h1, h2, h3, v, L, h4, h5, h6⟩ := body p e s m below meth c s₁ ⟨[], Stand.of_body Bd, Fr.nil n0, e0⟩ Bd.exec hZ Bd.bytes hml0 (findClass_of_methodNamed Bd.named) Bd.returns (BodyLoose.notSynchronized Bd) (name_of_methodNamed Bd.named Bd.method).1 hh
  exact ⟨s₂, o, h1, h2, h3, v, L, h4, h5, h6⟩
theorem Rt.callS (X : Sd p l e R s m args below meth c T n0 cells slots h0) (hx : p.tables.exec = Jvm.exec) {Z : State} {a0 : Array Value} (hZ : Z.Warmed39 s.vm) {own : String} {index : Nat} {y : MethodName} {bytes : ByteArray} {maxL W : Nat} {ret : Option FieldType} {rm : Room} {as' : Array Value} {Q : Option Value → Heap → List Loc → Prop}
    (hown : s.vm.findClass own = some m.cls) (w1 : (Cond.methodLink own index y).before a0 Z = true) (w2 : (Cond.static y).before a0 Z = true) (w3 : (Cond.initialized y.cls).before a0 Z = true) (w4 : (Cond.code y bytes maxL ret).before a0 Z = true) (hy : y.cls ≠ "java/lang/invoke/MethodHandle" ∧ y.cls ≠ "java/lang/invoke/VarHandle")
    (hM : Mt l Z y [Cond.code y bytes maxL ret] rm as' h0 Q) (hF : ∀ v h L, Q v h L → Fr n0 L) (hf : rm.frames + 1 ≤ R.frames) (hl : W + (maxL + 11) + rm.locals ≤ R.locals) (hc : cells + rm.cells ≤ R.cells) (hs : slots + rm.slots ≤ R.slots)
    {pc pc' : Nat} {Ls : Array Slot} {S argsL rest : List Value} (hsize : Ls.size = c.maxLocals) (hlen : ∀ sig, parseMethodDescriptor y.desc = some sig → argsL.length = sig.parameters.length) (hst : S = argsL.reverse ++ rest) (has : argsL.toArray = as') (hW : (rest.map fun v => v.category).sum ≤ W) (hd : decode c.code pc = .ok (.invokestatic index, 3)) (hp : pc + 3 = pc')
    (hh : ∀ v T' h' L, Sd p l e R s m args below meth c T' n0 (cells + rm.cells) (slots + rm.slots) h' → Q v h' L → Rt p e below s k n P (T'.setTop (mkF m pc' Ls (v.toList ++ rest)))) : Rt p e below s k n P (T.setTop (mkF m pc Ls S)) := by
  subst hp has
  obtain ⟨locs, X, N, eT⟩ := X
  obtain ⟨v, _, ⟨T', L', k', n'⟩, -, X', ⟨Lc, hQ, l', y', z'⟩, st⟩ := Jvm.LawKit.callS X hx (y := y) hown (mvT hZ w1) (mvT hZ w2) (mvT hZ w3) (mvT hZ w4) hy (backOf (W := W) hM hZ w4 w3 hf hl) (g := mkF m pc Ls S) rfl hsize (argsL := argsL) (rest := rest) hlen hst (by show 2 * 0 + _ ≤ _; omega) hd (fun _ _ => ⟨rfl, eT, hc, hs⟩)
  dsimp only [Pt.U, Pt.locs, Pt.cells, Pt.slots] at X' l' y' z' st hQ
  subst l' y' z'
  exact Rt.go st (hh v T' _ Lc ⟨_, X', Fr.app N (hF _ _ _ hQ), rfl⟩ hQ)
/-- a static method that writes nothing -/
theorem Rt.callP (X : Sd p l e R s m args below meth c T n0 cells slots h0) (hx : p.tables.exec = Jvm.exec) {Z : State} {a0 : Array Value} (hZ : Z.Warmed39 s.vm) {own : String} {index : Nat} {y : MethodName} {bytes : ByteArray} {maxL W : Nat} {ret : Option FieldType} {rm : Room} {as' : Array Value} {r : Value}
    (hown : s.vm.findClass own = some m.cls) (w1 : (Cond.methodLink own index y).before a0 Z = true) (w2 : (Cond.static y).before a0 Z = true) (w3 : (Cond.initialized y.cls).before a0 Z = true) (w4 : (Cond.code y bytes maxL ret).before a0 Z = true) (hy : y.cls ≠ "java/lang/invoke/MethodHandle" ∧ y.cls ≠ "java/lang/invoke/VarHandle")
    (hM : Mt l Z y [Cond.code y bytes maxL ret] rm as' h0 (fun v h L => v = some r ∧ Fr n0 L ∧ h = h0)) (hf : rm.frames + 1 ≤ R.frames) (hl : W + (maxL + 11) + rm.locals ≤ R.locals) (hc : cells + rm.cells ≤ R.cells) (hs : slots + rm.slots ≤ R.slots) (hc0 : rm.cells = 0) (hs0 : rm.slots = 0)
    {pc pc' : Nat} {Ls : Array Slot} {S argsL rest : List Value} (hsize : Ls.size = c.maxLocals) (hlen : ∀ sig, parseMethodDescriptor y.desc = some sig → argsL.length = sig.parameters.length) (hst : S = argsL.reverse ++ rest) (has : argsL.toArray = as') (hW : (rest.map fun v => v.category).sum ≤ W) (hd : decode c.code pc = .ok (.invokestatic index, 3)) (hp : pc + 3 = pc')
    (hh : ∀ T', Sd p l e R s m args below meth c T' n0 cells slots h0 → Rt p e below s k n P (T'.setTop (mkF m pc' Ls (r :: rest)))) : Rt p e below s k n P (T.setTop (mkF m pc Ls S)) := by
  refine Rt.callS X hx hZ hown w1 w2 w3 w4 hy hM (fun _ _ _ q => q.2.1) hf hl hc hs hsize hlen hst has hW hd hp ?_
  rintro v T' h' L X' ⟨rfl, _, rfl⟩
  rw [hc0, hs0, Nat.add_zero, Nat.add_zero] at X'
  exact hh T' X'
/-- an instance method, by the contract of the body that the receiver's class selects -/
theorem Rt.callV (X : Sd p l e R s m args below meth c T n0 cells slots h0) (hx : p.tables.exec = Jvm.exec) {Z : State} {a0 : Array Value} (hZ : Z.Warmed39 s.vm) {own : String} {index : Nat} {y : MethodName} {bytes : ByteArray} {maxL W : Nat} {ret : Option FieldType} {rm : Room} {as' : Array Value} {Q : Option Value → Heap → List Loc → Prop} {K : String} {yz : MethodName}
    (hown : s.vm.findClass own = some m.cls) (w1 : (Cond.methodLink own index y).before a0 Z = true) (w2 : (Cond.declares y).before a0 Z = true) (hnf : NotFace s y) (w5 : (Cond.selects K y yz).before a0 Z = true) (w6 : (Cond.instanceMethod yz).before a0 Z = true) (w3 : (Cond.initialized yz.cls).before a0 Z = true) (w4 : (Cond.code yz bytes maxL ret).before a0 Z = true) (hy : y.cls ≠ "java/lang/invoke/MethodHandle" ∧ y.cls ≠ "java/lang/invoke/VarHandle")
    {a : Addr} (E : Exa Z h0 a K) (hM : Mt l Z yz [Cond.code yz bytes maxL ret] rm as' h0 Q) (hF : ∀ v h L, Q v h L → Fr n0 L) (hf : rm.frames + 1 ≤ R.frames) (hl : W + (maxL + 11) + rm.locals ≤ R.locals) (hc : cells + rm.cells ≤ R.cells) (hs : slots + rm.slots ≤ R.slots)
    {pc pc' : Nat} {Ls : Array Slot} {S argsL rest : List Value} (hsize : Ls.size = c.maxLocals) (hlen : ∀ sig, parseMethodDescriptor y.desc = some sig → argsL.length = sig.parameters.length) (hst : S = argsL.reverse ++ .ref a :: rest) (has : (.ref a :: argsL).toArray = as') (hW : (rest.map fun v => v.category).sum ≤ W) (hd : decode c.code pc = .ok (.invokevirtual index, 3)) (hp : pc + 3 = pc')
    (hh : ∀ v T' h' L, Sd p l e R s m args below meth c T' n0 (cells + rm.cells) (slots + rm.slots) h' → Q v h' L → Rt p e below s k n P (T'.setTop (mkF m pc' Ls (v.toList ++ rest)))) : Rt p e below s k n P (T.setTop (mkF m pc Ls S)) := by
  subst hp has
  obtain ⟨locs, X, N, eT⟩ := X
  obtain ⟨cq, kq, qa, qb, qc⟩ := isOf hZ eT E
  obtain ⟨v, _, ⟨T', L', k', n'⟩, -, X', ⟨Lc, hQ, l', y', z'⟩, st⟩ := X.virtualBack hx (y := y) (z := yz) hown (mvT hZ w1) (mvT hZ w2) hnf (mvT hZ w5) (mvT hZ w6) hy (backOf (W := W) hM hZ w4 w3 hf hl) qa qc (g := mkF m pc Ls S) rfl hsize (Steps.refl _) (argsL := argsL) (rest := rest) hlen hst (by show 2 * 0 + _ ≤ _; omega) hd (fun _ _ => ⟨rfl, eT, hc, hs⟩)
  dsimp only [Pt.U, Pt.locs, Pt.cells, Pt.slots] at X' l' y' z' st hQ
  subst l' y' z'
  exact Rt.go (fun _ q => st.trans q) (hh v T' _ Lc ⟨_, X', Fr.app N (hF _ _ _ hQ), rfl⟩ hQ)
/-- a constructor by its contract -/
theorem Rt.callI (X : Sd p l e R s m args below meth c T n0 cells slots h0) (hx : p.tables.exec = Jvm.exec) {Z : State} {a0 : Array Value} (hZ : Z.Warmed39 s.vm) {own : String} {index : Nat} {y : MethodName} {bytes : ByteArray} {maxL W : Nat} {ret : Option FieldType} {rm : Room} {as' : Array Value} {Q : Option Value → Heap → List Loc → Prop} (hy1 : y.name = "<init>")
    (hown : s.vm.findClass own = some m.cls) (w1 : (Cond.methodLink own index y).before a0 Z = true) (w2 : (Cond.instanceMethod y).before a0 Z = true) (w3 : (Cond.initialized y.cls).before a0 Z = true) (w4 : (Cond.code y bytes maxL none).before a0 Z = true) (hy : y.cls ≠ "java/lang/invoke/MethodHandle" ∧ y.cls ≠ "java/lang/invoke/VarHandle")
    {a : Addr} (hM : Mt l Z y [Cond.code y bytes maxL none] rm as' h0 Q) (hF : ∀ v h L, Q v h L → Fr n0 L) (hf : rm.frames + 1 ≤ R.frames) (hl : W + (maxL + 11) + rm.locals ≤ R.locals) (hc : cells + rm.cells ≤ R.cells) (hs : slots + rm.slots ≤ R.slots)
    {pc pc' : Nat} {Ls : Array Slot} {S argsL rest : List Value} (hsize : Ls.size = c.maxLocals) (hlen : ∀ sig, parseMethodDescriptor y.desc = some sig → argsL.length = sig.parameters.length) (hst : S = argsL.reverse ++ .ref a :: rest) (has : (.ref a :: argsL).toArray = as') (hW : (rest.map fun v => v.category).sum ≤ W) (hd : decode c.code pc = .ok (.invokespecial index, 3)) (hp : pc + 3 = pc')
    (hh : ∀ v T' h' L, Sd p l e R s m args below meth c T' n0 (cells + rm.cells) (slots + rm.slots) h' → Q v h' L → Rt p e below s k n P (T'.setTop (mkF m pc' Ls (v.toList ++ rest)))) : Rt p e below s k n P (T.setTop (mkF m pc Ls S)) := by
  subst hp has
  obtain ⟨locs, X, N, eT⟩ := X
  obtain ⟨v, _, ⟨T', L', k', n'⟩, -, X', ⟨Lc, hQ, l', y', z'⟩, st⟩ := X.specialBack hx (y := y) hy1 hown (mvT hZ w1) (mvT hZ w2) (mvT hZ w4) hy (backOf (W := W) hM hZ w4 w3 hf hl) (g := mkF m pc Ls S) rfl hsize (Steps.refl _) (a := a) (argsL := argsL) (rest := rest) hlen hst (by show 2 * 0 + _ ≤ _; omega) hd (fun _ _ => ⟨rfl, eT, hc, hs⟩)
  dsimp only [Pt.U, Pt.locs, Pt.cells, Pt.slots] at X' l' y' z' st hQ
  subst l' y' z'
  exact Rt.go (fun _ q => st.trans q) (hh v T' _ Lc ⟨_, X', Fr.app N (hF _ _ _ hQ), rfl⟩ hQ)
/-- a private instance method by its contract -/
theorem Rt.callPr (X : Sd p l e R s m args below meth c T n0 cells slots h0) (hx : p.tables.exec = Jvm.exec) {Z : State} {a0 : Array Value} (hZ : Z.Warmed39 s.vm) {own : String} {index : Nat} {y : MethodName} {bytes : ByteArray} {maxL W : Nat} {ret : Option FieldType} {rm : Room} {as' : Array Value} {Q : Option Value → Heap → List Loc → Prop} {K : String} {nf : Nat}
    (hown : s.vm.findClass own = some m.cls) (w1 : (Cond.methodLink own index y).before a0 Z = true) (w2 : (Cond.instanceMethod y).before a0 Z = true) (w5 : (Cond.privateMethod y).before a0 Z = true) (wi : (Cond.instantiable y.cls nf).before a0 Z = true) (w3 : (Cond.initialized y.cls).before a0 Z = true) (w4 : (Cond.code y bytes maxL ret).before a0 Z = true) (hy : y.cls ≠ "java/lang/invoke/MethodHandle" ∧ y.cls ≠ "java/lang/invoke/VarHandle")
    {a : Addr} (E : Exa Z h0 a K) (hM : Mt l Z y [Cond.code y bytes maxL ret] rm as' h0 Q) (hF : ∀ v h L, Q v h L → Fr n0 L) (hf : rm.frames + 1 ≤ R.frames) (hl : W + (maxL + 11) + rm.locals ≤ R.locals) (hc : cells + rm.cells ≤ R.cells) (hs : slots + rm.slots ≤ R.slots)
    {pc pc' : Nat} {Ls : Array Slot} {S argsL rest : List Value} (hsize : Ls.size = c.maxLocals) (hlen : ∀ sig, parseMethodDescriptor y.desc = some sig → argsL.length = sig.parameters.length) (hst : S = argsL.reverse ++ .ref a :: rest) (has : (.ref a :: argsL).toArray = as') (hW : (rest.map fun v => v.category).sum ≤ W) (hd : decode c.code pc = .ok (.invokevirtual index, 3)) (hp : pc + 3 = pc')
    (hh : ∀ v T' h' L, Sd p l e R s m args below meth c T' n0 (cells + rm.cells) (slots + rm.slots) h' → Q v h' L → Rt p e below s k n P (T'.setTop (mkF m pc' Ls (v.toList ++ rest)))) : Rt p e below s k n P (T.setTop (mkF m pc Ls S)) := by
  subst hp has
  obtain ⟨locs, X, N, eT⟩ := X
  obtain ⟨ce, q1, q2⟩ := E.cell
  obtain ⟨cc, kc, i1, i2, -, i4, -⟩ := Cond.instantiable_spec (mvT hZ wi (args := args))
  have hpv := Cond.privateMethod_at (mvP hZ w5 (args := #[]))
  have hni : kc.isInterface = false := by simp only [Bool.or_eq_false_iff] at i4; exact i4.1
  obtain ⟨v, _, ⟨T', L', k', n'⟩, -, X', ⟨Lc, hQ, l', y', z'⟩, st⟩ := X.privateBack hx (y := y) hown (mvT hZ w1) (mvT hZ w2) (selects_self_of_private i1 i2 hni hpv (mvT hZ w2) hy) hpv (mvT hZ w4) hy (backOf (W := W) hM hZ w4 w3 hf hl) (g := mkF m pc Ls S) rfl hsize (Steps.refl _) (a := a) (by rw [eT]; exact q1) q2 (argsL := argsL) (rest := rest) hlen hst (by show 2 * 0 + _ ≤ _; omega) hd (fun _ _ => ⟨rfl, eT, hc, hs⟩)
  dsimp only [Pt.U, Pt.locs, Pt.cells, Pt.slots] at X' l' y' z' st hQ
  subst l' y' z'
  exact Rt.go (fun _ q => st.trans q) (hh v T' _ Lc ⟨_, X', Fr.app N (hF _ _ _ hQ), rfl⟩ hQ)
theorem Rt.initO (X : Sd p l e R s m args below meth c T n0 cells slots h0) (hx : p.tables.exec = Jvm.exec) {Z : State} {a0 : Array Value} (hZ : Z.Warmed39 s.vm) {own : String} {index : Nat} (hown : s.vm.findClass own = some m.cls) (w1 : (Cond.methodLink own index Lib.objectInit).before a0 Z = true) (w2 : (Cond.instanceMethod Lib.objectInit).before a0 Z = true) (w3 : (Cond.code Lib.objectInit ⟨#[0xb1]⟩ 1 none).before a0 Z = true)
    {pc pc' W : Nat} {Ls : Array Slot} {rest : List Value} {a : Addr} (hsize : Ls.size = c.maxLocals) (hd : decode c.code pc = .ok (.invokespecial index, 3)) (hf : 1 ≤ R.frames) (hW : (rest.map fun v => v.category).sum ≤ W) (hl : W + 12 ≤ R.locals) (hp : pc + 3 = pc')
    (hh : ∀ T', Sd p l e R s m args below meth c T' n0 cells slots h0 → Rt p e below s k n P (T'.setTop (mkF m pc' Ls rest))) : Rt p e below s k n P (T.setTop (mkF m pc Ls (.ref a :: rest))) := by
  subst hp
  obtain ⟨locs, X, N, eT⟩ := X
  obtain ⟨T', X', e', st⟩ := Jvm.RoadKit.initO X hx hZ hown w1 w2 w3 eT (g := mkF m pc Ls (.ref a :: rest)) rfl hsize rfl hd hf (W := W) (by show 2 * 0 + _ ≤ _; omega) hl
  exact Rt.go st (hh T' ⟨_, X', N, e'⟩)
theorem Rt.getS (X : Sd p l e R s m args below meth c T n0 cells slots h0) (hx : p.tables.exec = Jvm.exec) {Z : State} {a0 : Array Value} (hZ : Z.Warmed39 s.vm) {own K f d host : String} {index : Nat} (hown : s.vm.findClass own = some m.cls) (w : (Cond.fieldLink own index K f d).before a0 Z = true ∨ (Cond.fieldLinkNest own index K f d host).before a0 Z = true) {v : Value} (F : Sta Z h0 K f d v) {pc pc' : Nat} {Ls : Array Slot} {S : List Value} (hd : decode c.code pc = .ok (.getstatic index, 3)) (hp : pc + 3 = pc')
    (hh : ∀ T', Sd p l e R s m args below meth c T' n0 cells slots h0 → Rt p e below s k n P (T'.setTop (mkF m pc' Ls (v :: S)))) : Rt p e below s k n P (T.setTop (mkF m pc Ls S)) := by
  subst hp
  obtain ⟨locs, X, N, eT⟩ := X
  obtain ⟨T', X', e', st⟩ := getS2 X hx hZ hown (host := host) w Via.refl eT F (g := mkF m pc Ls S) rfl hd
  exact Rt.go st (hh T' ⟨_, X', N, e'⟩)
theorem Rt.getF (X : Sd p l e R s m args below meth c T n0 cells slots h0) (hx : p.tables.exec = Jvm.exec) {Z : State} {a0 : Array Value} (hZ : Z.Warmed39 s.vm) {own K f d host : String} {index : Nat} (hown : s.vm.findClass own = some m.cls) (w : (Cond.fieldLink own index K f d).before a0 Z = true ∨ (Cond.fieldLinkNest own index K f d host).before a0 Z = true) {v : Value} {a : Addr} (F : Fld Z h0 a K f d v) {pc pc' : Nat} {Ls : Array Slot} {S : List Value} (hd : decode c.code pc = .ok (.getfield index, 3)) (hp : pc + 3 = pc')
    (hh : ∀ T', Sd p l e R s m args below meth c T' n0 cells slots h0 → Rt p e below s k n P (T'.setTop (mkF m pc' Ls (v :: S)))) : Rt p e below s k n P (T.setTop (mkF m pc Ls (.ref a :: S))) := by
  subst hp
  obtain ⟨locs, X, N, eT⟩ := X
  obtain ⟨T', X', e', st⟩ := Jvm.RoadKit.getF X hx hZ hown (host := host) w Via.refl eT F (g := mkF m pc Ls (.ref a :: S)) rfl rfl hd
  exact Rt.go st (hh T' ⟨_, X', N, e'⟩)
theorem Rt.putF (X : Sd p l e R s m args below meth c T n0 cells slots h0) (hx : p.tables.exec = Jvm.exec) {Z : State} {a0 : Array Value} (hZ : Z.Warmed39 s.vm) {own K f d C' host : String} {index kk : Nat} {ty : FieldType} (hown : s.vm.findClass own = some m.cls) (w : (Cond.fieldLink own index K f d).before a0 Z = true ∨ (Cond.fieldLinkNest own index K f d host).before a0 Z = true) {v old : Value} {a : Addr} (F : Fld Z h0 a K f d old) (E : Exa Z h0 a C') (L : (Cond.lays C' K f d).before a0 Z = true ∨ ((Cond.laysFinal C' K f d).before a0 Z = true ∧ own = K ∧ meth.name = "<init>")) (wi : (Cond.instantiable C' kk).before a0 Z = true) (hty : parseFieldDescriptor d = some ty) (hn : narrow ty v = v) (hf : fits ty v = true) (ga : n0 ≤ a) {pc pc' : Nat} {Ls : Array Slot} {S : List Value} (hd : decode c.code pc = .ok (.putfield index, 3)) (hp : pc + 3 = pc')
    (hh : ∀ T' h', Sd p l e R s m args below meth c T' n0 cells slots h' → Wr h0 h' a (Jvm.RoadKit.slotOf Z K f d) v → Fld Z h' a K f d v → Rt p e below s k n P (T'.setTop (mkF m pc' Ls S))) : Rt p e below s k n P (T.setTop (mkF m pc Ls (v :: .ref a :: S))) := by
  subst hp
  obtain ⟨locs, X, N, eT⟩ := X
  obtain ⟨T', h', X', e', W', st⟩ := Jvm.RoadKit.putF X hx hZ hown (host := host) w Via.refl eT F E L wi hty hn hf (g := mkF m pc Ls (v :: .ref a :: S)) rfl rfl hd
  exact Rt.go st (hh T' h' ⟨_, X', Fr.snoc X' N ga, e'⟩ W' (F.same W'))
theorem Rt.newO (X : Sd p l e R s m args below meth c T n0 cells slots h0) (hx : p.tables.exec = Jvm.exec) {Z : State} {a0 : Array Value} (hZ : Z.Warmed39 s.vm) {own K : String} {index nf : Nat} (hown : s.vm.findClass own = some m.cls) (w : (Cond.classLink own index K).before a0 Z = true) (wi : (Cond.instantiable K nf).before a0 Z = true) (wz : (Cond.initialized K).before a0 Z = true) {pc pc' : Nat} {Ls : Array Slot} {S : List Value} (hd : decode c.code pc = .ok (.new index, 3)) (hc : cells + 1 ≤ R.cells) (hl : slots + nf ≤ R.slots) (hp : pc + 3 = pc')
    (hh : ∀ T' h' a, a = h0.size → Sd p l e R s m args below meth c T' n0 (cells + 1) (slots + nf) h' → Ext h0 h' → Exa Z h' a K → (∀ {O nm d : String} {ty : FieldType}, Laid Z a0 K O nm d → parseFieldDescriptor d = some ty → Fld Z h' a O nm d (defaultValue ty)) → Rt p e below s k n P (T'.setTop (mkF m pc' Ls (.ref a :: S)))) : Rt p e below s k n P (T.setTop (mkF m pc Ls S)) := by
  subst hp
  obtain ⟨locs, X, N, eT⟩ := X
  obtain ⟨T', h', X', e', E', A', D', -, st⟩ := Jvm.RoadKit.newO X hx hZ hown w wi wz eT (g := mkF m pc Ls S) rfl hd hc hl
  exact Rt.go st (hh T' h' _ rfl ⟨_, X', N, e'⟩ E' A' D')
theorem Rt.castY (X : Sd p l e R s m args below meth c T n0 cells slots h0) (hx : p.tables.exec = Jvm.exec) {Z : State} {a0 : Array Value} (hZ : Z.Warmed39 s.vm) {own K : String} {index : Nat} (hown : s.vm.findClass own = some m.cls) (w : (Cond.classLink own index K).before a0 Z = true) {a : Addr} (F : Ins Z h0 a K true) {pc pc' : Nat} {Ls : Array Slot} {S : List Value} (hd : decode c.code pc = .ok (.checkcast index, 3)) (hp : pc + 3 = pc')
    (hh : ∀ T', Sd p l e R s m args below meth c T' n0 cells slots h0 → Rt p e below s k n P (T'.setTop (mkF m pc' Ls (.ref a :: S)))) : Rt p e below s k n P (T.setTop (mkF m pc Ls (.ref a :: S))) := by
  subst hp
  obtain ⟨locs, X, N, eT⟩ := X
  obtain ⟨T', X', e', st⟩ := Jvm.RoadKit.castY X hx hZ hown w eT F (g := mkF m pc Ls (.ref a :: S)) rfl rfl hd
  exact Rt.go st (hh T' ⟨_, X', N, e'⟩)
theorem Rt.instY (X : Sd p l e R s m args below meth c T n0 cells slots h0) (hx : p.tables.exec = Jvm.exec) {Z : State} {a0 : Array Value} (hZ : Z.Warmed39 s.vm) {own K : String} {index : Nat} (hown : s.vm.findClass own = some m.cls) (w : (Cond.classLink own index K).before a0 Z = true) {a : Addr} (F : Ins Z h0 a K true) {pc pc' : Nat} {Ls : Array Slot} {S : List Value} (hd : decode c.code pc = .ok (.instanceof index, 3)) (hp : pc + 3 = pc')
    (hh : ∀ T', Sd p l e R s m args below meth c T' n0 cells slots h0 → Rt p e below s k n P (T'.setTop (mkF m pc' Ls (.int 1 :: S)))) : Rt p e below s k n P (T.setTop (mkF m pc Ls (.ref a :: S))) := by
  subst hp
  obtain ⟨locs, X, N, eT⟩ := X
  obtain ⟨T', X', e', st⟩ := Jvm.RoadKit.instY X hx hZ hown w eT F (g := mkF m pc Ls (.ref a :: S)) rfl rfl hd
  exact Rt.go st (hh T' ⟨_, X', N, e'⟩)
theorem Rt.instNo (X : Sd p l e R s m args below meth c T n0 cells slots h0) (hx : p.tables.exec = Jvm.exec) {Z : State} {a0 : Array Value} (hZ : Z.Warmed39 s.vm) {own K C' : String} {index : Nat} (hown : s.vm.findClass own = some m.cls) (w : (Cond.classLink own index K).before a0 Z = true) (hs0 : s.heap = h0) {a : Addr} (F : Ins Z h0 a K false) (E : Exa Z h0 a C') {pc pc' : Nat} {Ls : Array Slot} {S : List Value} (hd : decode c.code pc = .ok (.instanceof index, 3)) (hp : pc + 3 = pc')
    (hh : ∀ T', Sd p l e R s m args below meth c T' n0 cells slots h0 → Rt p e below s k n P (T'.setTop (mkF m pc' Ls (.int 0 :: S)))) : Rt p e below s k n P (T.setTop (mkF m pc Ls (.ref a :: S))) := by
  subst hp hs0
  obtain ⟨locs, X, N, eT⟩ := X
  obtain ⟨T', X', e', st⟩ := Jvm.RoadKit.instN X hx hZ hown w eT F E (g := mkF m pc Ls (.ref a :: S)) rfl rfl hd
  exact Rt.go st (hh T' ⟨_, X', N, e'⟩)
theorem Rt.instNull (X : Sd p l e R s m args below meth c T n0 cells slots h0) (hx : p.tables.exec = Jvm.exec) {index : Nat} {pc pc' : Nat} {Ls : Array Slot} {S : List Value} (hd : decode c.code pc = .ok (.instanceof index, 3)) (hp : pc + 3 = pc')
    (h : Rt p e below s k n P (T.setTop (mkF m pc' Ls (.int 0 :: S)))) : Rt p e below s k n P (T.setTop (mkF m pc Ls (.null :: S))) := by
  subst hp
  obtain ⟨locs, X, N, eT⟩ := X
  exact Rt.go (X.instanceofNull hx (g := mkF m pc Ls (.null :: S)) rfl rfl hd) h
theorem staK {Z : State} {h h' : Heap} {K f d : String} {v : Value} (F : Sta Z h K f d v) (Kp : Keep h h' []) : Sta Z h' K f d v := by
  obtain ⟨cf, i, k, f, st, cell, h1, h2, h3, h4, h5, r⟩ := F; exact ⟨cf, i, k, f, st, cell, h1, h2, h3, h4, Kp.2.1 _ _ h5 nin0, r⟩
/-- an array of values -/
def IA (Z : State) (h : Heap) (a : Addr) (ty : FieldType) (vs : List Value) : Prop := ∃ cl : Cell, Arr Z h a cl ty ∧ cl.slots = vs.toArray ∧ vs.length < 2 ^ 31
section Arrays
variable {Z : State} {h h' : Heap} {a b : Addr} {ty : FieldType} {vs : List Value}
theorem IA.lt (F : IA Z h a ty vs) : a < h.size := by obtain ⟨_, A, -⟩ := F; exact A.lt
theorem IA.ext (F : IA Z h a ty vs) (E : Ext h h') : IA Z h' a ty vs := by obtain ⟨c, A, r⟩ := F; exact ⟨c, A.ext E, r⟩
theorem IA.other {sl : Nat} {v : Value} (F : IA Z h a ty vs) (W : Wr h h' b sl v) (q : a ≠ b) : IA Z h' a ty vs := by obtain ⟨c, A, r⟩ := F; exact ⟨c, A.other W q, r⟩
theorem IA.keep {ws : List Addr} (F : IA Z h a ty vs) (K : Keep h h' ws) (q : a ∉ ws) : IA Z h' a ty vs := by obtain ⟨c, A, r⟩ := F; exact ⟨c, ⟨K.2.1 a c A.1 q, A.2⟩, r⟩
theorem IA.set {i : Nat} {v : Value} (F : IA Z h a ty vs) (W : Wr h h' a i v) : IA Z h' a ty (vs.set i v) := by
  obtain ⟨c, A, r, q⟩ := F
  refine ⟨_, A.same W, ?_, by rw [List.length_set]; exact q⟩
  show (c.slots.setIfInBounds i v) = _
  rw [r]; simp
theorem IA.new {k : ClassId} {z : Int32} {i : Nat} (A : Arr Z h a (newA k ty z) ty) (hz : z.toNatClampNeg = i) : IA Z h a ty (List.replicate i (defaultValue ty)) := by
  refine ⟨_, A, ?_, ?_⟩
  · show Array.replicate _ _ = _
    rw [hz]; simp
  · rw [List.length_replicate, ← hz]
    have := z.toInt_lt
    simp only [Int32.toNatClampNeg]; omega
theorem inA {cl : Cell} {j : Int32} {i : Nat} (r : cl.slots = vs.toArray) (hj : ¬ j < 0) (hi : j.toNatClampNeg = i) (hv : i < vs.length) : ¬ (j < 0 ∨ cl.slots.size ≤ j.toNatClampNeg) := by
  rintro (q | q)
  · exact hj q
  · rw [r, hi] at q; simp at q; omega
end Arrays
theorem Rt.newP (X : Sd p l e R s m args below meth c T n0 cells slots h0) (hx : p.tables.exec = Jvm.exec) {Z : State} {a0 : Array Value} (hZ : Z.Warmed39 s.vm) {aty : ArrayType} {ty : FieldType} (hty : newarray.typeOf aty = ty) (w : (Cond.arrayClass ty).before a0 Z = true) {z : Int32} {i : Nat} (hz : z.toNatClampNeg = i) (hn : ¬ z < 0) {cap : Nat} (hcap : i ≤ cap) (hb : cap * 8 ≤ 536870912) {pc pc' : Nat} {Ls : Array Slot} {S : List Value} (hd : decode c.code pc = .ok (.newarray aty, 2)) (hc : cells + 1 ≤ R.cells) (hl : slots + cap ≤ R.slots) (hp : pc + 2 = pc')
    (hh : ∀ T' h' a, a = h0.size → Sd p l e R s m args below meth c T' n0 (cells + 1) (slots + cap) h' → Ext h0 h' → IA Z h' a ty (List.replicate i (defaultValue ty)) → Rt p e below s k n P (T'.setTop (mkF m pc' Ls (.ref a :: S)))) : Rt p e below s k n P (T.setTop (mkF m pc Ls (.int z :: S))) := by
  subst hp hty
  obtain ⟨locs, X, N, eT⟩ := X
  obtain ⟨T', h', cA, X', e', E', A', st⟩ := Jvm.RoadKit.newP X hx hZ w eT (g := mkF m pc Ls (.int z :: S)) rfl hd rfl hn (cap := cap) (by rw [hz]; exact hcap) hb hc hl
  exact Rt.go st (hh T' h' _ rfl ⟨_, X', N, e'⟩ E' (IA.new A' hz))
theorem Rt.arraylength (X : Sd p l e R s m args below meth c T n0 cells slots h0) (hx : p.tables.exec = Jvm.exec) {Z : State} (hZ : Z.Warmed39 s.vm) {ty : FieldType} {a : Addr} {vs : List Value} (F : IA Z h0 a ty vs) {v : Int32} (hv : vs.length.toInt32 = v) {pc pc' : Nat} {Ls : Array Slot} {S : List Value} (hd : decode c.code pc = .ok (.arraylength, 1)) (hp : pc + 1 = pc')
    (h : Rt p e below s k n P (T.setTop (mkF m pc' Ls (.int v :: S)))) : Rt p e below s k n P (T.setTop (mkF m pc Ls (.ref a :: S))) := by
  subst hp hv
  obtain ⟨locs, X, N, eT⟩ := X
  obtain ⟨cl, A, r, q⟩ := F
  have e1 : vs.length = cl.slots.size := by rw [r]; simp
  rw [e1] at h
  exact Rt.go (X.arraylength hx (by rw [eT]; exact A.1) (State.isArrayOf_alike hZ.alike A.2.1) (g := mkF m pc Ls (.ref a :: S)) rfl rfl hd) h

theorem Rt.iaload (X : Sd p l e R s m args below meth c T n0 cells slots h0) (hx : p.tables.exec = Jvm.exec) {Z : State} (hZ : Z.Warmed39 s.vm) {a : Addr} {vs : List Value} (F : IA Z h0 a .int vs) {j : Int32} {i : Nat} (hi : j.toNatClampNeg = i) (hj : ¬ j < 0) {v : Value} (hv : vs[i]? = some v) {pc pc' : Nat} {Ls : Array Slot} {S : List Value} (hd : decode c.code pc = .ok (.iaload, 1)) (hp : pc + 1 = pc')
    (h : Rt p e below s k n P (T.setTop (mkF m pc' Ls (v :: S)))) : Rt p e below s k n P (T.setTop (mkF m pc Ls (.int j :: .ref a :: S))) := by
  subst hp
  obtain ⟨locs, X, N, eT⟩ := X
  obtain ⟨cl, A, r, q⟩ := F
  exact Rt.go (X.iaload hx (j := j) (v := v) (by rw [eT]; exact A.1) (State.isArrayOf_alike hZ.alike A.2.1) A.2.2 (inA r hj hi (List.getElem?_eq_some_iff.mp hv).1) (by rw [r, hi]; simpa using hv) (g := mkF m pc Ls (.int j :: .ref a :: S)) rfl rfl hd) h
theorem Rt.laload (X : Sd p l e R s m args below meth c T n0 cells slots h0) (hx : p.tables.exec = Jvm.exec) {Z : State} (hZ : Z.Warmed39 s.vm) {a : Addr} {vs : List Value} (F : IA Z h0 a .long vs) {j : Int32} {i : Nat} (hi : j.toNatClampNeg = i) (hj : ¬ j < 0) {v : Value} (hv : vs[i]? = some v) {pc pc' : Nat} {Ls : Array Slot} {S : List Value} (hd : decode c.code pc = .ok (.laload, 1)) (hp : pc + 1 = pc')
    (h : Rt p e below s k n P (T.setTop (mkF m pc' Ls (v :: S)))) : Rt p e below s k n P (T.setTop (mkF m pc Ls (.int j :: .ref a :: S))) := by
  subst hp
  obtain ⟨locs, X, N, eT⟩ := X
  obtain ⟨cl, A, r, q⟩ := F
  exact Rt.go (X.laload hx (j := j) (v := v) (by rw [eT]; exact A.1) (State.isArrayOf_alike hZ.alike A.2.1) A.2.2 (inA r hj hi (List.getElem?_eq_some_iff.mp hv).1) (by rw [r, hi]; simpa using hv) (g := mkF m pc Ls (.int j :: .ref a :: S)) rfl rfl hd) h
theorem Rt.baload (X : Sd p l e R s m args below meth c T n0 cells slots h0) (hx : p.tables.exec = Jvm.exec) {Z : State} (hZ : Z.Warmed39 s.vm) {a : Addr} {vs : List Value} (F : IA Z h0 a .byte vs) {j : Int32} {i : Nat} (hi : j.toNatClampNeg = i) (hj : ¬ j < 0) {v : Value} (hv : vs[i]? = some v) {pc pc' : Nat} {Ls : Array Slot} {S : List Value} (hd : decode c.code pc = .ok (.baload, 1)) (hp : pc + 1 = pc')
    (h : Rt p e below s k n P (T.setTop (mkF m pc' Ls (v :: S)))) : Rt p e below s k n P (T.setTop (mkF m pc Ls (.int j :: .ref a :: S))) := by
  subst hp
  obtain ⟨locs, X, N, eT⟩ := X
  obtain ⟨cl, A, r, q⟩ := F
  exact Rt.go (X.baloadBytes hx (j := j) (v := v) (by rw [eT]; exact A.1) (State.isArrayOf_alike hZ.alike A.2.1) A.2.2 (inA r hj hi (List.getElem?_eq_some_iff.mp hv).1) (by rw [r, hi]; simpa using hv) (g := mkF m pc Ls (.int j :: .ref a :: S)) rfl rfl hd) h
theorem Rt.zaload (X : Sd p l e R s m args below meth c T n0 cells slots h0) (hx : p.tables.exec = Jvm.exec) {Z : State} (hZ : Z.Warmed39 s.vm) {a : Addr} {vs : List Value} (F : IA Z h0 a .boolean vs) {j : Int32} {i : Nat} (hi : j.toNatClampNeg = i) (hj : ¬ j < 0) {v : Value} (hv : vs[i]? = some v) {pc pc' : Nat} {Ls : Array Slot} {S : List Value} (hd : decode c.code pc = .ok (.baload, 1)) (hp : pc + 1 = pc')
    (h : Rt p e below s k n P (T.setTop (mkF m pc' Ls (v :: S)))) : Rt p e below s k n P (T.setTop (mkF m pc Ls (.int j :: .ref a :: S))) := by
  subst hp
  obtain ⟨locs, X, N, eT⟩ := X
  obtain ⟨cl, A, r, q⟩ := F
  exact Rt.go (X.baloadBooleans hx (j := j) (v := v) (by rw [eT]; exact A.1) (State.isArrayOf_alike hZ.alike A.2.1) A.2.2 (inA r hj hi (List.getElem?_eq_some_iff.mp hv).1) (by rw [r, hi]; simpa using hv) (g := mkF m pc Ls (.int j :: .ref a :: S)) rfl rfl hd) h
theorem Rt.caload (X : Sd p l e R s m args below meth c T n0 cells slots h0) (hx : p.tables.exec = Jvm.exec) {Z : State} (hZ : Z.Warmed39 s.vm) {a : Addr} {vs : List Value} (F : IA Z h0 a .char vs) {j : Int32} {i : Nat} (hi : j.toNatClampNeg = i) (hj : ¬ j < 0) {v : Value} (hv : vs[i]? = some v) {pc pc' : Nat} {Ls : Array Slot} {S : List Value} (hd : decode c.code pc = .ok (.caload, 1)) (hp : pc + 1 = pc')
    (h : Rt p e below s k n P (T.setTop (mkF m pc' Ls (v :: S)))) : Rt p e below s k n P (T.setTop (mkF m pc Ls (.int j :: .ref a :: S))) := by
  subst hp
  obtain ⟨locs, X, N, eT⟩ := X
  obtain ⟨cl, A, r, q⟩ := F
  exact Rt.go (X.caload hx (j := j) (v := v) (by rw [eT]; exact A.1) (State.isArrayOf_alike hZ.alike A.2.1) A.2.2 (inA r hj hi (List.getElem?_eq_some_iff.mp hv).1) (by rw [r, hi]; simpa using hv) (g := mkF m pc Ls (.int j :: .ref a :: S)) rfl rfl hd) h
theorem Rt.aaload (X : Sd p l e R s m args below meth c T n0 cells slots h0) (hx : p.tables.exec = Jvm.exec) {Z : State} (hZ : Z.Warmed39 s.vm) {ty : FieldType} (hty : ty.isReference = true) {a : Addr} {vs : List Value} (F : IA Z h0 a ty vs) {j : Int32} {i : Nat} (hi : j.toNatClampNeg = i) (hj : ¬ j < 0) {v : Value} (hv : vs[i]? = some v) {pc pc' : Nat} {Ls : Array Slot} {S : List Value} (hd : decode c.code pc = .ok (.aaload, 1)) (hp : pc + 1 = pc')
    (h : Rt p e below s k n P (T.setTop (mkF m pc' Ls (v :: S)))) : Rt p e below s k n P (T.setTop (mkF m pc Ls (.int j :: .ref a :: S))) := by
  subst hp
  obtain ⟨locs, X, N, eT⟩ := X
  obtain ⟨cl, A, r, q⟩ := F
  exact Rt.go (X.aaload hx (j := j) (v := v) (by rw [eT]; exact A.1) (State.isArrayOf_alike hZ.alike A.2.1) hty A.2.2 (inA r hj hi (List.getElem?_eq_some_iff.mp hv).1) (by rw [r, hi]; simpa using hv) (g := mkF m pc Ls (.int j :: .ref a :: S)) rfl rfl hd) h
theorem Rt.iastore (X : Sd p l e R s m args below meth c T n0 cells slots h0) (hx : p.tables.exec = Jvm.exec) {Z : State} (hZ : Z.Warmed39 s.vm) {a : Addr} {vs : List Value} (F : IA Z h0 a .int vs) {j : Int32} {i : Nat} (hi : j.toNatClampNeg = i) (hj : ¬ j < 0) (hv : i < vs.length) {x : Int32} {w : Value} (hw : .int x = w) (ga : n0 ≤ a) {pc pc' : Nat} {Ls : Array Slot} {S : List Value} (hd : decode c.code pc = .ok (.iastore, 1)) (hp : pc + 1 = pc')
    (hh : ∀ T' h', Sd p l e R s m args below meth c T' n0 cells slots h' → Wr h0 h' a i w → IA Z h' a .int (vs.set i w) → Rt p e below s k n P (T'.setTop (mkF m pc' Ls S))) : Rt p e below s k n P (T.setTop (mkF m pc Ls (.int x :: .int j :: .ref a :: S))) := by
  subst hp hw
  obtain ⟨locs, X, N, eT⟩ := X
  obtain ⟨cl, A, r, q⟩ := id F
  obtain ⟨T', h', X', e', W', st⟩ := stI X hx hZ eT A (j := j) (inA r hj hi hv) (g := mkF m pc Ls (.int x :: .int j :: .ref a :: S)) rfl rfl hd
  rw [hi] at W'
  exact Rt.go st (hh T' h' ⟨_, X', Fr.snoc X' N ga, e'⟩ W' (F.set W'))
theorem Rt.lastore (X : Sd p l e R s m args below meth c T n0 cells slots h0) (hx : p.tables.exec = Jvm.exec) {Z : State} (hZ : Z.Warmed39 s.vm) {a : Addr} {vs : List Value} (F : IA Z h0 a .long vs) {j : Int32} {i : Nat} (hi : j.toNatClampNeg = i) (hj : ¬ j < 0) (hv : i < vs.length) {x : Int64} {w : Value} (hw : .long x = w) (ga : n0 ≤ a) {pc pc' : Nat} {Ls : Array Slot} {S : List Value} (hd : decode c.code pc = .ok (.lastore, 1)) (hp : pc + 1 = pc')
    (hh : ∀ T' h', Sd p l e R s m args below meth c T' n0 cells slots h' → Wr h0 h' a i w → IA Z h' a .long (vs.set i w) → Rt p e below s k n P (T'.setTop (mkF m pc' Ls S))) : Rt p e below s k n P (T.setTop (mkF m pc Ls (.long x :: .int j :: .ref a :: S))) := by
  subst hp hw
  obtain ⟨locs, X, N, eT⟩ := X
  obtain ⟨cl, A, r, q⟩ := id F
  obtain ⟨T', h', X', e', W', st⟩ := stJ X hx hZ eT A (j := j) (inA r hj hi hv) (g := mkF m pc Ls (.long x :: .int j :: .ref a :: S)) rfl rfl hd
  rw [hi] at W'
  exact Rt.go st (hh T' h' ⟨_, X', Fr.snoc X' N ga, e'⟩ W' (F.set W'))
theorem Rt.bastore (X : Sd p l e R s m args below meth c T n0 cells slots h0) (hx : p.tables.exec = Jvm.exec) {Z : State} (hZ : Z.Warmed39 s.vm) {a : Addr} {vs : List Value} (F : IA Z h0 a .byte vs) {j : Int32} {i : Nat} (hi : j.toNatClampNeg = i) (hj : ¬ j < 0) (hv : i < vs.length) {x : Int32} {w : Value} (hw : .int (nar .byte x) = w) (ga : n0 ≤ a) {pc pc' : Nat} {Ls : Array Slot} {S : List Value} (hd : decode c.code pc = .ok (.bastore, 1)) (hp : pc + 1 = pc')
    (hh : ∀ T' h', Sd p l e R s m args below meth c T' n0 cells slots h' → Wr h0 h' a i w → IA Z h' a .byte (vs.set i w) → Rt p e below s k n P (T'.setTop (mkF m pc' Ls S))) : Rt p e below s k n P (T.setTop (mkF m pc Ls (.int x :: .int j :: .ref a :: S))) := by
  subst hp hw
  obtain ⟨locs, X, N, eT⟩ := X
  obtain ⟨cl, A, r, q⟩ := id F
  obtain ⟨T', h', X', e', W', st⟩ := stB X hx hZ eT A (j := j) (inA r hj hi hv) (g := mkF m pc Ls (.int x :: .int j :: .ref a :: S)) rfl rfl hd
  rw [hi] at W'
  exact Rt.go st (hh T' h' ⟨_, X', Fr.snoc X' N ga, e'⟩ W' (F.set W'))
theorem Rt.zastore (X : Sd p l e R s m args below meth c T n0 cells slots h0) (hx : p.tables.exec = Jvm.exec) {Z : State} (hZ : Z.Warmed39 s.vm) {a : Addr} {vs : List Value} (F : IA Z h0 a .boolean vs) {j : Int32} {i : Nat} (hi : j.toNatClampNeg = i) (hj : ¬ j < 0) (hv : i < vs.length) {x : Int32} {w : Value} (hw : .int (nar .boolean x) = w) (ga : n0 ≤ a) {pc pc' : Nat} {Ls : Array Slot} {S : List Value} (hd : decode c.code pc = .ok (.bastore, 1)) (hp : pc + 1 = pc')
    (hh : ∀ T' h', Sd p l e R s m args below meth c T' n0 cells slots h' → Wr h0 h' a i w → IA Z h' a .boolean (vs.set i w) → Rt p e below s k n P (T'.setTop (mkF m pc' Ls S))) : Rt p e below s k n P (T.setTop (mkF m pc Ls (.int x :: .int j :: .ref a :: S))) := by
  subst hp hw
  obtain ⟨locs, X, N, eT⟩ := X
  obtain ⟨cl, A, r, q⟩ := id F
  obtain ⟨T', h', X', e', W', st⟩ := stZ X hx hZ eT A (j := j) (inA r hj hi hv) (g := mkF m pc Ls (.int x :: .int j :: .ref a :: S)) rfl rfl hd
  rw [hi] at W'
  exact Rt.go st (hh T' h' ⟨_, X', Fr.snoc X' N ga, e'⟩ W' (F.set W'))
theorem Rt.castore (X : Sd p l e R s m args below meth c T n0 cells slots h0) (hx : p.tables.exec = Jvm.exec) {Z : State} (hZ : Z.Warmed39 s.vm) {a : Addr} {vs : List Value} (F : IA Z h0 a .char vs) {j : Int32} {i : Nat} (hi : j.toNatClampNeg = i) (hj : ¬ j < 0) (hv : i < vs.length) {x : Int32} {w : Value} (hw : .int (nar .char x) = w) (ga : n0 ≤ a) {pc pc' : Nat} {Ls : Array Slot} {S : List Value} (hd : decode c.code pc = .ok (.castore, 1)) (hp : pc + 1 = pc')
    (hh : ∀ T' h', Sd p l e R s m args below meth c T' n0 cells slots h' → Wr h0 h' a i w → IA Z h' a .char (vs.set i w) → Rt p e below s k n P (T'.setTop (mkF m pc' Ls S))) : Rt p e below s k n P (T.setTop (mkF m pc Ls (.int x :: .int j :: .ref a :: S))) := by
  subst hp hw
  obtain ⟨locs, X, N, eT⟩ := X
  obtain ⟨cl, A, r, q⟩ := id F
  obtain ⟨T', h', X', e', W', st⟩ := stC X hx hZ eT A (j := j) (inA r hj hi hv) (g := mkF m pc Ls (.int x :: .int j :: .ref a :: S)) rfl rfl hd
  rw [hi] at W'
  exact Rt.go st (hh T' h' ⟨_, X', Fr.snoc X' N ga, e'⟩ W' (F.set W'))
/-- an array of so many elements -/
def IL (Z : State) (h : Heap) (a : Addr) (ty : FieldType) (N : Nat) : Prop := ∃ vs, IA Z h a ty vs ∧ vs.length = N
section Arrays
variable {Z : State} {h h' : Heap} {a b : Addr} {ty : FieldType} {N : Nat}
theorem IL.lt (F : IL Z h a ty N) : a < h.size := by obtain ⟨_, A, -⟩ := F; exact A.lt
theorem IL.ext (F : IL Z h a ty N) (E : Ext h h') : IL Z h' a ty N := by obtain ⟨c, A, r⟩ := F; exact ⟨c, A.ext E, r⟩
theorem IL.other {sl : Nat} {v : Value} (F : IL Z h a ty N) (W : Wr h h' b sl v) (q : a ≠ b) : IL Z h' a ty N := by obtain ⟨c, A, r⟩ := F; exact ⟨c, A.other W q, r⟩
theorem IL.wr {sl : Nat} {v : Value} (F : IL Z h a ty N) (W : Wr h h' b sl v) : IL Z h' a ty N := by
  obtain ⟨vs, A, r⟩ := F
  by_cases q : a = b
  · subst q; exact ⟨_, A.set W, by rw [List.length_set]; exact r⟩
  · exact ⟨vs, A.other W q, r⟩
theorem IL.keep {ws : List Addr} (F : IL Z h a ty N) (K : Keep h h' ws) : IL Z h' a ty N := by
  obtain ⟨vs, ⟨c, ⟨A1, ⟨A2, A3⟩, A4⟩, r1, r2⟩, r⟩ := F
  obtain ⟨c', q, e1, e2, e3⟩ := K.2.2 a c A1
  refine ⟨c'.slots.toList, ⟨c', ⟨q, ⟨?_, ?_⟩, by rw [e2]; exact A4⟩, by simp, ?_⟩, ?_⟩
  · rw [e2]; exact A2
  · rw [e1]; exact A3
  · rw [Array.length_toList, e3, r1]; simpa using r2
  · rw [Array.length_toList, e3, r1]; simpa using r
end Arrays
theorem Rt.arraylengthL (X : Sd p l e R s m args below meth c T n0 cells slots h0) (hx : p.tables.exec = Jvm.exec) {Z : State} (hZ : Z.Warmed39 s.vm) {ty : FieldType} {a : Addr} {N : Nat} (F : IL Z h0 a ty N) {v : Int32} (hv : N.toInt32 = v) {pc pc' : Nat} {Ls : Array Slot} {S : List Value} (hd : decode c.code pc = .ok (.arraylength, 1)) (hp : pc + 1 = pc')
    (h : Rt p e below s k n P (T.setTop (mkF m pc' Ls (.int v :: S)))) : Rt p e below s k n P (T.setTop (mkF m pc Ls (.ref a :: S))) := by
  obtain ⟨vs, F, rfl⟩ := F
  exact Rt.arraylength X hx hZ F hv hd hp h
theorem Rt.iastoreL (X : Sd p l e R s m args below meth c T n0 cells slots h0) (hx : p.tables.exec = Jvm.exec) {Z : State} (hZ : Z.Warmed39 s.vm) {a : Addr} {N : Nat} (F : IL Z h0 a .int N) {j : Int32} {i : Nat} (hi : j.toNatClampNeg = i) (hj : ¬ j < 0) (hv : i < N) {x : Int32} (ga : n0 ≤ a) {pc pc' : Nat} {Ls : Array Slot} {S : List Value} (hd : decode c.code pc = .ok (.iastore, 1)) (hp : pc + 1 = pc')
    (hh : ∀ T' h', Sd p l e R s m args below meth c T' n0 cells slots h' → ∀ w, Wr h0 h' a i w → IL Z h' a .int N → Rt p e below s k n P (T'.setTop (mkF m pc' Ls S))) : Rt p e below s k n P (T.setTop (mkF m pc Ls (.int x :: .int j :: .ref a :: S))) := by
  obtain ⟨vs, F, rfl⟩ := F
  exact Rt.iastore X hx hZ F hi hj hv rfl ga hd hp fun T' h' X' W' F' => hh T' h' X' _ W' ⟨_, F', List.length_set⟩
theorem Rt.lastoreL (X : Sd p l e R s m args below meth c T n0 cells slots h0) (hx : p.tables.exec = Jvm.exec) {Z : State} (hZ : Z.Warmed39 s.vm) {a : Addr} {N : Nat} (F : IL Z h0 a .long N) {j : Int32} {i : Nat} (hi : j.toNatClampNeg = i) (hj : ¬ j < 0) (hv : i < N) {x : Int64} (ga : n0 ≤ a) {pc pc' : Nat} {Ls : Array Slot} {S : List Value} (hd : decode c.code pc = .ok (.lastore, 1)) (hp : pc + 1 = pc')
    (hh : ∀ T' h', Sd p l e R s m args below meth c T' n0 cells slots h' → ∀ w, Wr h0 h' a i w → IL Z h' a .long N → Rt p e below s k n P (T'.setTop (mkF m pc' Ls S))) : Rt p e below s k n P (T.setTop (mkF m pc Ls (.long x :: .int j :: .ref a :: S))) := by
  obtain ⟨vs, F, rfl⟩ := F
  exact Rt.lastore X hx hZ F hi hj hv rfl ga hd hp fun T' h' X' W' F' => hh T' h' X' _ W' ⟨_, F', List.length_set⟩
theorem Rt.bastoreL (X : Sd p l e R s m args below meth c T n0 cells slots h0) (hx : p.tables.exec = Jvm.exec) {Z : State} (hZ : Z.Warmed39 s.vm) {a : Addr} {N : Nat} (F : IL Z h0 a .byte N) {j : Int32} {i : Nat} (hi : j.toNatClampNeg = i) (hj : ¬ j < 0) (hv : i < N) {x : Int32} (ga : n0 ≤ a) {pc pc' : Nat} {Ls : Array Slot} {S : List Value} (hd : decode c.code pc = .ok (.bastore, 1)) (hp : pc + 1 = pc')
    (hh : ∀ T' h', Sd p l e R s m args below meth c T' n0 cells slots h' → ∀ w, Wr h0 h' a i w → IL Z h' a .byte N → Rt p e below s k n P (T'.setTop (mkF m pc' Ls S))) : Rt p e below s k n P (T.setTop (mkF m pc Ls (.int x :: .int j :: .ref a :: S))) := by
  obtain ⟨vs, F, rfl⟩ := F
  exact Rt.bastore X hx hZ F hi hj hv rfl ga hd hp fun T' h' X' W' F' => hh T' h' X' _ W' ⟨_, F', List.length_set⟩
theorem Rt.zastoreL (X : Sd p l e R s m args below meth c T n0 cells slots h0) (hx : p.tables.exec = Jvm.exec) {Z : State} (hZ : Z.Warmed39 s.vm) {a : Addr} {N : Nat} (F : IL Z h0 a .boolean N) {j : Int32} {i : Nat} (hi : j.toNatClampNeg = i) (hj : ¬ j < 0) (hv : i < N) {x : Int32} (ga : n0 ≤ a) {pc pc' : Nat} {Ls : Array Slot} {S : List Value} (hd : decode c.code pc = .ok (.bastore, 1)) (hp : pc + 1 = pc')
    (hh : ∀ T' h', Sd p l e R s m args below meth c T' n0 cells slots h' → ∀ w, Wr h0 h' a i w → IL Z h' a .boolean N → Rt p e below s k n P (T'.setTop (mkF m pc' Ls S))) : Rt p e below s k n P (T.setTop (mkF m pc Ls (.int x :: .int j :: .ref a :: S))) := by
  obtain ⟨vs, F, rfl⟩ := F
  exact Rt.zastore X hx hZ F hi hj hv rfl ga hd hp fun T' h' X' W' F' => hh T' h' X' _ W' ⟨_, F', List.length_set⟩
theorem Rt.castoreL (X : Sd p l e R s m args below meth c T n0 cells slots h0) (hx : p.tables.exec = Jvm.exec) {Z : State} (hZ : Z.Warmed39 s.vm) {a : Addr} {N : Nat} (F : IL Z h0 a .char N) {j : Int32} {i : Nat} (hi : j.toNatClampNeg = i) (hj : ¬ j < 0) (hv : i < N) {x : Int32} (ga : n0 ≤ a) {pc pc' : Nat} {Ls : Array Slot} {S : List Value} (hd : decode c.code pc = .ok (.castore, 1)) (hp : pc + 1 = pc')
    (hh : ∀ T' h', Sd p l e R s m args below meth c T' n0 cells slots h' → ∀ w, Wr h0 h' a i w → IL Z h' a .char N → Rt p e below s k n P (T'.setTop (mkF m pc' Ls S))) : Rt p e below s k n P (T.setTop (mkF m pc Ls (.int x :: .int j :: .ref a :: S))) := by
  obtain ⟨vs, F, rfl⟩ := F
  exact Rt.castore X hx hZ F hi hj hv rfl ga hd hp fun T' h' X' W' F' => hh T' h' X' _ W' ⟨_, F', List.length_set⟩
end Own
abbrev mt1 : MethodName := ⟨"com/example/methodical_gateway/methodicalgateway/core/xml/XmlReader", "isCharacter", "(I)Z"⟩
abbrev mt2 : MethodName := ⟨"com/example/methodical_gateway/methodicalgateway/core/xml/XmlReaderIsCharacterPinLaw", "expected", "(I)Z"⟩
theorem d1_0 : decode prog_44_method_43_code 0 = .ok (.iload_n 0, 1) := by decide +kernel
theorem d1_1 : decode prog_44_method_43_code 1 = .ok (.bipush 9, 2) := by decide +kernel
theorem d1_3 : decode prog_44_method_43_code 3 = .ok (.if_icmp .eq 56, 3) := by decide +kernel
theorem d1_59 : decode prog_44_method_43_code 59 = .ok (.iconst 1, 1) := by decide +kernel
theorem d1_60 : decode prog_44_method_43_code 60 = .ok (.goto 4, 3) := by decide +kernel
theorem d1_64 : decode prog_44_method_43_code 64 = .ok (.ireturn, 1) := by decide +kernel
theorem d1_6 : decode prog_44_method_43_code 6 = .ok (.iload_n 0, 1) := by decide +kernel
theorem d1_7 : decode prog_44_method_43_code 7 = .ok (.bipush 10, 2) := by decide +kernel
theorem d1_9 : decode prog_44_method_43_code 9 = .ok (.if_icmp .eq 50, 3) := by decide +kernel
theorem d1_12 : decode prog_44_method_43_code 12 = .ok (.iload_n 0, 1) := by decide +kernel
theorem d1_13 : decode prog_44_method_43_code 13 = .ok (.bipush 13, 2) := by decide +kernel
theorem d1_15 : decode prog_44_method_43_code 15 = .ok (.if_icmp .eq 44, 3) := by decide +kernel
theorem d1_18 : decode prog_44_method_43_code 18 = .ok (.iload_n 0, 1) := by decide +kernel
theorem d1_19 : decode prog_44_method_43_code 19 = .ok (.bipush 32, 2) := by decide +kernel
theorem d1_21 : decode prog_44_method_43_code 21 = .ok (.if_icmp .lt 10, 3) := by decide +kernel
theorem d1_31 : decode prog_44_method_43_code 31 = .ok (.iload_n 0, 1) := by decide +kernel
theorem d1_32 : decode prog_44_method_43_code 32 = .ok (.ldc_w 698, 3) := by decide +kernel
theorem d1_35 : decode prog_44_method_43_code 35 = .ok (.if_icmp .lt 10, 3) := by decide +kernel
theorem d1_45 : decode prog_44_method_43_code 45 = .ok (.iload_n 0, 1) := by decide +kernel
theorem d1_46 : decode prog_44_method_43_code 46 = .ok (.ldc_w 690, 3) := by decide +kernel
theorem d1_49 : decode prog_44_method_43_code 49 = .ok (.if_icmp .lt 14, 3) := by decide +kernel
theorem d1_63 : decode prog_44_method_43_code 63 = .ok (.iconst 0, 1) := by decide +kernel
theorem d1_52 : decode prog_44_method_43_code 52 = .ok (.iload_n 0, 1) := by decide +kernel
theorem d1_53 : decode prog_44_method_43_code 53 = .ok (.ldc_w 699, 3) := by decide +kernel
theorem d1_56 : decode prog_44_method_43_code 56 = .ok (.if_icmp .gt 7, 3) := by decide +kernel
theorem d1_38 : decode prog_44_method_43_code 38 = .ok (.iload_n 0, 1) := by decide +kernel
theorem d1_39 : decode prog_44_method_43_code 39 = .ok (.ldc_w 689, 3) := by decide +kernel
theorem d1_42 : decode prog_44_method_43_code 42 = .ok (.if_icmp .le 17, 3) := by decide +kernel
theorem d1_24 : decode prog_44_method_43_code 24 = .ok (.iload_n 0, 1) := by decide +kernel
theorem d1_25 : decode prog_44_method_43_code 25 = .ok (.ldc_w 685, 3) := by decide +kernel
theorem d1_28 : decode prog_44_method_43_code 28 = .ok (.if_icmp .le 31, 3) := by decide +kernel
def f1 (p1 : Int32) : Int32 := (if p1 = (9 : Int32) then (1 : Int32) else (if p1 = (10 : Int32) then (1 : Int32) else (if p1 = (13 : Int32) then (1 : Int32) else (if p1 < (32 : Int32) then (if p1 < (57344 : Int32) then (if p1 < (65536 : Int32) then (0 : Int32) else (if (1114111 : Int32) < p1 then (0 : Int32) else (1 : Int32))) else (if (65533 : Int32) < p1 then (if p1 < (65536 : Int32) then (0 : Int32) else (if (1114111 : Int32) < p1 then (0 : Int32) else (1 : Int32))) else (1 : Int32))) else (if (55295 : Int32) < p1 then (if p1 < (57344 : Int32) then (if p1 < (65536 : Int32) then (0 : Int32) else (if (1114111 : Int32) < p1 then (0 : Int32) else (1 : Int32))) else (if (65533 : Int32) < p1 then (if p1 < (65536 : Int32) then (0 : Int32) else (if (1114111 : Int32) < p1 then (0 : Int32) else (1 : Int32))) else (1 : Int32))) else (1 : Int32))))))
def Q1 (p1 : Int32) (h0 : Heap) (n0 : Nat) (v : Option Value) (h : Heap) (L : List Loc) : Prop := v = some (.int (f1 p1)) ∧ Fr n0 L ∧ h = h0
def rmR1 : Room := { frames := 0, cells := 0, slots := 0, locals := 0 }
theorem ef_1 (m : MethodId) (p1 : Int32) : entryFrame m #[(.int p1)] 1 = mkF m 0 #[.val (.int p1)] [] := by first | (simp [entryFrame, mkF, argsToLocals, Value.category]; done) | rfl
theorem pn_com_example_methodical_gateway_methodicalgateway_core_xml_XmlReader : plainName "com/example/methodical_gateway/methodicalgateway/core/xml/XmlReader" = true := by first | (simp [plainName, overriddenIn]; done) | decide +kernel
set_option maxRecDepth 65536 in
set_option maxHeartbeats 40000000 in
theorem rm1 (l : Launch) (Z : State) (a0 : Array Value) (hw : ∀ d ∈ tables_1, d.before a0 Z = true) (ws : List Jvm.Cond) (p1 : Int32) (h0 : Heap) (n0 : Nat) :
    Mt l Z mt1 (Jvm.Cond.code mt1 prog_44_method_43_code 1 (some .boolean) :: ws) rmR1 #[(.int p1)] h0 (Q1 p1 h0 n0) := by
  refine Mt.of n0 (plainFor_of_name pn_com_example_methodical_gateway_methodicalgateway_core_xml_XmlReader) ?_
  intro p e s m below meth c T0 X0 hx hZ hby hml hown hret hlk hnm hs0
  have hown : s.vm.findClass "com/example/methodical_gateway/methodicalgateway/core/xml/XmlReader" = some m.cls := hown
  rw [ef_1]
  show Rt p e below s rmR1.cells rmR1.slots (Q1 p1 h0 n0) (T0.setTop (mkF m 0 #[.val (.int p1)] []))
  refine Rt.iloadN (pc' := 1) X0 hx (hb hby d1_0) rfl rfl ?_
  refine Rt.bipush (pc' := 3) (v := (9 : Int32)) X0 hx (hb hby d1_1) rfl rfl ?_
  by_cases hc3_1 : p1 = (9 : Int32)
  · refine Rt.icmpY (pc' := 59) X0 hx (hb hby d1_3) (teq hc3_1).1 (by decide) (by decide) ?_
    refine Rt.iconst (pc' := 60) (v := (1 : Int32)) X0 hx (hb hby d1_59) rfl rfl ?_
    refine Rt.goto (pc' := 64) X0 hx (hb hby d1_60) (by decide) (by decide) ?_
    exact Rt.retZ (w := (1 : Int32)) X0 hx hlk hret (by simp) (hb hby d1_64) (by decide) (by decide) (by decide) (fun L N => ⟨congrArg some (congrArg Value.int (by rw [f1, if_pos hc3_1])), N, rfl⟩)
  · refine Rt.icmpN (pc' := 6) X0 hx (hb hby d1_3) (feq hc3_1).1 rfl ?_
    refine Rt.iloadN (pc' := 7) X0 hx (hb hby d1_6) rfl rfl ?_
    refine Rt.bipush (pc' := 9) (v := (10 : Int32)) X0 hx (hb hby d1_7) rfl rfl ?_
    by_cases hc9_2 : p1 = (10 : Int32)
    · refine Rt.icmpY (pc' := 59) X0 hx (hb hby d1_9) (teq hc9_2).1 (by decide) (by decide) ?_
      refine Rt.iconst (pc' := 60) (v := (1 : Int32)) X0 hx (hb hby d1_59) rfl rfl ?_
      refine Rt.goto (pc' := 64) X0 hx (hb hby d1_60) (by decide) (by decide) ?_
      exact Rt.retZ (w := (1 : Int32)) X0 hx hlk hret (by simp) (hb hby d1_64) (by decide) (by decide) (by decide) (fun L N => ⟨congrArg some (congrArg Value.int (by rw [f1, if_neg hc3_1, if_pos hc9_2])), N, rfl⟩)
    · refine Rt.icmpN (pc' := 12) X0 hx (hb hby d1_9) (feq hc9_2).1 rfl ?_
      refine Rt.iloadN (pc' := 13) X0 hx (hb hby d1_12) rfl rfl ?_
      refine Rt.bipush (pc' := 15) (v := (13 : Int32)) X0 hx (hb hby d1_13) rfl rfl ?_
      by_cases hc15_3 : p1 = (13 : Int32)
      · refine Rt.icmpY (pc' := 59) X0 hx (hb hby d1_15) (teq hc15_3).1 (by decide) (by decide) ?_
        refine Rt.iconst (pc' := 60) (v := (1 : Int32)) X0 hx (hb hby d1_59) rfl rfl ?_
        refine Rt.goto (pc' := 64) X0 hx (hb hby d1_60) (by decide) (by decide) ?_
        exact Rt.retZ (w := (1 : Int32)) X0 hx hlk hret (by simp) (hb hby d1_64) (by decide) (by decide) (by decide) (fun L N => ⟨congrArg some (congrArg Value.int (by rw [f1, if_neg hc3_1, if_neg hc9_2, if_pos hc15_3])), N, rfl⟩)
      · refine Rt.icmpN (pc' := 18) X0 hx (hb hby d1_15) (feq hc15_3).1 rfl ?_
        refine Rt.iloadN (pc' := 19) X0 hx (hb hby d1_18) rfl rfl ?_
        refine Rt.bipush (pc' := 21) (v := (32 : Int32)) X0 hx (hb hby d1_19) rfl rfl ?_
        by_cases hc21_4 : p1 < (32 : Int32)
        · refine Rt.icmpY (pc' := 31) X0 hx (hb hby d1_21) (tlt hc21_4).1 (by decide) (by decide) ?_
          refine Rt.iloadN (pc' := 32) X0 hx (hb hby d1_31) rfl rfl ?_
          refine Rt.ldcwInt (pc' := 35) X0 hx hZ hown (hw _ (List.mem_of_getElem? (i := 15) rfl)) (hb hby d1_32) rfl ?_
          by_cases hc35_5 : p1 < (57344 : Int32)
          · refine Rt.icmpY (pc' := 45) X0 hx (hb hby d1_35) (tlt hc35_5).1 (by decide) (by decide) ?_
            refine Rt.iloadN (pc' := 46) X0 hx (hb hby d1_45) rfl rfl ?_
            refine Rt.ldcwInt (pc' := 49) X0 hx hZ hown (hw _ (List.mem_of_getElem? (i := 16) rfl)) (hb hby d1_46) rfl ?_
            by_cases hc49_6 : p1 < (65536 : Int32)
            · refine Rt.icmpY (pc' := 63) X0 hx (hb hby d1_49) (tlt hc49_6).1 (by decide) (by decide) ?_
              refine Rt.iconst (pc' := 64) (v := (0 : Int32)) X0 hx (hb hby d1_63) rfl rfl ?_
              exact Rt.retZ (w := (0 : Int32)) X0 hx hlk hret (by simp) (hb hby d1_64) (by decide) (by decide) (by decide) (fun L N => ⟨congrArg some (congrArg Value.int (by rw [f1, if_neg hc3_1, if_neg hc9_2, if_neg hc15_3, if_pos hc21_4, if_pos hc35_5, if_pos hc49_6])), N, rfl⟩)
            · refine Rt.icmpN (pc' := 52) X0 hx (hb hby d1_49) (flt hc49_6).1 rfl ?_
              refine Rt.iloadN (pc' := 53) X0 hx (hb hby d1_52) rfl rfl ?_
              refine Rt.ldcwInt (pc' := 56) X0 hx hZ hown (hw _ (List.mem_of_getElem? (i := 24) rfl)) (hb hby d1_53) rfl ?_
              by_cases hc56_7 : (1114111 : Int32) < p1
              · refine Rt.icmpY (pc' := 63) X0 hx (hb hby d1_56) (tlt hc56_7).2.2.1 (by decide) (by decide) ?_
                refine Rt.iconst (pc' := 64) (v := (0 : Int32)) X0 hx (hb hby d1_63) rfl rfl ?_
                exact Rt.retZ (w := (0 : Int32)) X0 hx hlk hret (by simp) (hb hby d1_64) (by decide) (by decide) (by decide) (fun L N => ⟨congrArg some (congrArg Value.int (by rw [f1, if_neg hc3_1, if_neg hc9_2, if_neg hc15_3, if_pos hc21_4, if_pos hc35_5, if_neg hc49_6, if_pos hc56_7])), N, rfl⟩)
              · refine Rt.icmpN (pc' := 59) X0 hx (hb hby d1_56) (flt hc56_7).2.2.1 rfl ?_
                refine Rt.iconst (pc' := 60) (v := (1 : Int32)) X0 hx (hb hby d1_59) rfl rfl ?_
                refine Rt.goto (pc' := 64) X0 hx (hb hby d1_60) (by decide) (by decide) ?_
                exact Rt.retZ (w := (1 : Int32)) X0 hx hlk hret (by simp) (hb hby d1_64) (by decide) (by decide) (by decide) (fun L N => ⟨congrArg some (congrArg Value.int (by rw [f1, if_neg hc3_1, if_neg hc9_2, if_neg hc15_3, if_pos hc21_4, if_pos hc35_5, if_neg hc49_6, if_neg hc56_7])), N, rfl⟩)
          · refine Rt.icmpN (pc' := 38) X0 hx (hb hby d1_35) (flt hc35_5).1 rfl ?_
            refine Rt.iloadN (pc' := 39) X0 hx (hb hby d1_38) rfl rfl ?_
            refine Rt.ldcwInt (pc' := 42) X0 hx hZ hown (hw _ (List.mem_of_getElem? (i := 23) rfl)) (hb hby d1_39) rfl ?_
            by_cases hc42_8 : (65533 : Int32) < p1
            · refine Rt.icmpN (pc' := 45) X0 hx (hb hby d1_42) (tlt hc42_8).2.2.2 rfl ?_
              refine Rt.iloadN (pc' := 46) X0 hx (hb hby d1_45) rfl rfl ?_
              refine Rt.ldcwInt (pc' := 49) X0 hx hZ hown (hw _ (List.mem_of_getElem? (i := 16) rfl)) (hb hby d1_46) rfl ?_
              by_cases hc49_9 : p1 < (65536 : Int32)
              · refine Rt.icmpY (pc' := 63) X0 hx (hb hby d1_49) (tlt hc49_9).1 (by decide) (by decide) ?_
                refine Rt.iconst (pc' := 64) (v := (0 : Int32)) X0 hx (hb hby d1_63) rfl rfl ?_
                exact Rt.retZ (w := (0 : Int32)) X0 hx hlk hret (by simp) (hb hby d1_64) (by decide) (by decide) (by decide) (fun L N => ⟨congrArg some (congrArg Value.int (by rw [f1, if_neg hc3_1, if_neg hc9_2, if_neg hc15_3, if_pos hc21_4, if_neg hc35_5, if_pos hc42_8, if_pos hc49_9])), N, rfl⟩)
              · refine Rt.icmpN (pc' := 52) X0 hx (hb hby d1_49) (flt hc49_9).1 rfl ?_
                refine Rt.iloadN (pc' := 53) X0 hx (hb hby d1_52) rfl rfl ?_
                refine Rt.ldcwInt (pc' := 56) X0 hx hZ hown (hw _ (List.mem_of_getElem? (i := 24) rfl)) (hb hby d1_53) rfl ?_
                by_cases hc56_10 : (1114111 : Int32) < p1
                · refine Rt.icmpY (pc' := 63) X0 hx (hb hby d1_56) (tlt hc56_10).2.2.1 (by decide) (by decide) ?_
                  refine Rt.iconst (pc' := 64) (v := (0 : Int32)) X0 hx (hb hby d1_63) rfl rfl ?_
                  exact Rt.retZ (w := (0 : Int32)) X0 hx hlk hret (by simp) (hb hby d1_64) (by decide) (by decide) (by decide) (fun L N => ⟨congrArg some (congrArg Value.int (by rw [f1, if_neg hc3_1, if_neg hc9_2, if_neg hc15_3, if_pos hc21_4, if_neg hc35_5, if_pos hc42_8, if_neg hc49_9, if_pos hc56_10])), N, rfl⟩)
                · refine Rt.icmpN (pc' := 59) X0 hx (hb hby d1_56) (flt hc56_10).2.2.1 rfl ?_
                  refine Rt.iconst (pc' := 60) (v := (1 : Int32)) X0 hx (hb hby d1_59) rfl rfl ?_
                  refine Rt.goto (pc' := 64) X0 hx (hb hby d1_60) (by decide) (by decide) ?_
                  exact Rt.retZ (w := (1 : Int32)) X0 hx hlk hret (by simp) (hb hby d1_64) (by decide) (by decide) (by decide) (fun L N => ⟨congrArg some (congrArg Value.int (by rw [f1, if_neg hc3_1, if_neg hc9_2, if_neg hc15_3, if_pos hc21_4, if_neg hc35_5, if_pos hc42_8, if_neg hc49_9, if_neg hc56_10])), N, rfl⟩)
            · refine Rt.icmpY (pc' := 59) X0 hx (hb hby d1_42) (flt hc42_8).2.2.2 (by decide) (by decide) ?_
              refine Rt.iconst (pc' := 60) (v := (1 : Int32)) X0 hx (hb hby d1_59) rfl rfl ?_
              refine Rt.goto (pc' := 64) X0 hx (hb hby d1_60) (by decide) (by decide) ?_
              exact Rt.retZ (w := (1 : Int32)) X0 hx hlk hret (by simp) (hb hby d1_64) (by decide) (by decide) (by decide) (fun L N => ⟨congrArg some (congrArg Value.int (by rw [f1, if_neg hc3_1, if_neg hc9_2, if_neg hc15_3, if_pos hc21_4, if_neg hc35_5, if_neg hc42_8])), N, rfl⟩)
        · refine Rt.icmpN (pc' := 24) X0 hx (hb hby d1_21) (flt hc21_4).1 rfl ?_
          refine Rt.iloadN (pc' := 25) X0 hx (hb hby d1_24) rfl rfl ?_
          refine Rt.ldcwInt (pc' := 28) X0 hx hZ hown (hw _ (List.mem_of_getElem? (i := 22) rfl)) (hb hby d1_25) rfl ?_
          by_cases hc28_11 : (55295 : Int32) < p1
          · refine Rt.icmpN (pc' := 31) X0 hx (hb hby d1_28) (tlt hc28_11).2.2.2 rfl ?_
            refine Rt.iloadN (pc' := 32) X0 hx (hb hby d1_31) rfl rfl ?_
            refine Rt.ldcwInt (pc' := 35) X0 hx hZ hown (hw _ (List.mem_of_getElem? (i := 15) rfl)) (hb hby d1_32) rfl ?_
            by_cases hc35_12 : p1 < (57344 : Int32)
            · refine Rt.icmpY (pc' := 45) X0 hx (hb hby d1_35) (tlt hc35_12).1 (by decide) (by decide) ?_
              refine Rt.iloadN (pc' := 46) X0 hx (hb hby d1_45) rfl rfl ?_
              refine Rt.ldcwInt (pc' := 49) X0 hx hZ hown (hw _ (List.mem_of_getElem? (i := 16) rfl)) (hb hby d1_46) rfl ?_
              by_cases hc49_13 : p1 < (65536 : Int32)
              · refine Rt.icmpY (pc' := 63) X0 hx (hb hby d1_49) (tlt hc49_13).1 (by decide) (by decide) ?_
                refine Rt.iconst (pc' := 64) (v := (0 : Int32)) X0 hx (hb hby d1_63) rfl rfl ?_
                exact Rt.retZ (w := (0 : Int32)) X0 hx hlk hret (by simp) (hb hby d1_64) (by decide) (by decide) (by decide) (fun L N => ⟨congrArg some (congrArg Value.int (by rw [f1, if_neg hc3_1, if_neg hc9_2, if_neg hc15_3, if_neg hc21_4, if_pos hc28_11, if_pos hc35_12, if_pos hc49_13])), N, rfl⟩)
              · refine Rt.icmpN (pc' := 52) X0 hx (hb hby d1_49) (flt hc49_13).1 rfl ?_
                refine Rt.iloadN (pc' := 53) X0 hx (hb hby d1_52) rfl rfl ?_
                refine Rt.ldcwInt (pc' := 56) X0 hx hZ hown (hw _ (List.mem_of_getElem? (i := 24) rfl)) (hb hby d1_53) rfl ?_
                by_cases hc56_14 : (1114111 : Int32) < p1
                · refine Rt.icmpY (pc' := 63) X0 hx (hb hby d1_56) (tlt hc56_14).2.2.1 (by decide) (by decide) ?_
                  refine Rt.iconst (pc' := 64) (v := (0 : Int32)) X0 hx (hb hby d1_63) rfl rfl ?_
                  exact Rt.retZ (w := (0 : Int32)) X0 hx hlk hret (by simp) (hb hby d1_64) (by decide) (by decide) (by decide) (fun L N => ⟨congrArg some (congrArg Value.int (by rw [f1, if_neg hc3_1, if_neg hc9_2, if_neg hc15_3, if_neg hc21_4, if_pos hc28_11, if_pos hc35_12, if_neg hc49_13, if_pos hc56_14])), N, rfl⟩)
                · refine Rt.icmpN (pc' := 59) X0 hx (hb hby d1_56) (flt hc56_14).2.2.1 rfl ?_
                  refine Rt.iconst (pc' := 60) (v := (1 : Int32)) X0 hx (hb hby d1_59) rfl rfl ?_
                  refine Rt.goto (pc' := 64) X0 hx (hb hby d1_60) (by decide) (by decide) ?_
                  exact Rt.retZ (w := (1 : Int32)) X0 hx hlk hret (by simp) (hb hby d1_64) (by decide) (by decide) (by decide) (fun L N => ⟨congrArg some (congrArg Value.int (by rw [f1, if_neg hc3_1, if_neg hc9_2, if_neg hc15_3, if_neg hc21_4, if_pos hc28_11, if_pos hc35_12, if_neg hc49_13, if_neg hc56_14])), N, rfl⟩)
            · refine Rt.icmpN (pc' := 38) X0 hx (hb hby d1_35) (flt hc35_12).1 rfl ?_
              refine Rt.iloadN (pc' := 39) X0 hx (hb hby d1_38) rfl rfl ?_
              refine Rt.ldcwInt (pc' := 42) X0 hx hZ hown (hw _ (List.mem_of_getElem? (i := 23) rfl)) (hb hby d1_39) rfl ?_
              by_cases hc42_15 : (65533 : Int32) < p1
              · refine Rt.icmpN (pc' := 45) X0 hx (hb hby d1_42) (tlt hc42_15).2.2.2 rfl ?_
                refine Rt.iloadN (pc' := 46) X0 hx (hb hby d1_45) rfl rfl ?_
                refine Rt.ldcwInt (pc' := 49) X0 hx hZ hown (hw _ (List.mem_of_getElem? (i := 16) rfl)) (hb hby d1_46) rfl ?_
                by_cases hc49_16 : p1 < (65536 : Int32)
                · refine Rt.icmpY (pc' := 63) X0 hx (hb hby d1_49) (tlt hc49_16).1 (by decide) (by decide) ?_
                  refine Rt.iconst (pc' := 64) (v := (0 : Int32)) X0 hx (hb hby d1_63) rfl rfl ?_
                  exact Rt.retZ (w := (0 : Int32)) X0 hx hlk hret (by simp) (hb hby d1_64) (by decide) (by decide) (by decide) (fun L N => ⟨congrArg some (congrArg Value.int (by rw [f1, if_neg hc3_1, if_neg hc9_2, if_neg hc15_3, if_neg hc21_4, if_pos hc28_11, if_neg hc35_12, if_pos hc42_15, if_pos hc49_16])), N, rfl⟩)
                · refine Rt.icmpN (pc' := 52) X0 hx (hb hby d1_49) (flt hc49_16).1 rfl ?_
                  refine Rt.iloadN (pc' := 53) X0 hx (hb hby d1_52) rfl rfl ?_
                  refine Rt.ldcwInt (pc' := 56) X0 hx hZ hown (hw _ (List.mem_of_getElem? (i := 24) rfl)) (hb hby d1_53) rfl ?_
                  by_cases hc56_17 : (1114111 : Int32) < p1
                  · refine Rt.icmpY (pc' := 63) X0 hx (hb hby d1_56) (tlt hc56_17).2.2.1 (by decide) (by decide) ?_
                    refine Rt.iconst (pc' := 64) (v := (0 : Int32)) X0 hx (hb hby d1_63) rfl rfl ?_
                    exact Rt.retZ (w := (0 : Int32)) X0 hx hlk hret (by simp) (hb hby d1_64) (by decide) (by decide) (by decide) (fun L N => ⟨congrArg some (congrArg Value.int (by rw [f1, if_neg hc3_1, if_neg hc9_2, if_neg hc15_3, if_neg hc21_4, if_pos hc28_11, if_neg hc35_12, if_pos hc42_15, if_neg hc49_16, if_pos hc56_17])), N, rfl⟩)
                  · refine Rt.icmpN (pc' := 59) X0 hx (hb hby d1_56) (flt hc56_17).2.2.1 rfl ?_
                    refine Rt.iconst (pc' := 60) (v := (1 : Int32)) X0 hx (hb hby d1_59) rfl rfl ?_
                    refine Rt.goto (pc' := 64) X0 hx (hb hby d1_60) (by decide) (by decide) ?_
                    exact Rt.retZ (w := (1 : Int32)) X0 hx hlk hret (by simp) (hb hby d1_64) (by decide) (by decide) (by decide) (fun L N => ⟨congrArg some (congrArg Value.int (by rw [f1, if_neg hc3_1, if_neg hc9_2, if_neg hc15_3, if_neg hc21_4, if_pos hc28_11, if_neg hc35_12, if_pos hc42_15, if_neg hc49_16, if_neg hc56_17])), N, rfl⟩)
              · refine Rt.icmpY (pc' := 59) X0 hx (hb hby d1_42) (flt hc42_15).2.2.2 (by decide) (by decide) ?_
                refine Rt.iconst (pc' := 60) (v := (1 : Int32)) X0 hx (hb hby d1_59) rfl rfl ?_
                refine Rt.goto (pc' := 64) X0 hx (hb hby d1_60) (by decide) (by decide) ?_
                exact Rt.retZ (w := (1 : Int32)) X0 hx hlk hret (by simp) (hb hby d1_64) (by decide) (by decide) (by decide) (fun L N => ⟨congrArg some (congrArg Value.int (by rw [f1, if_neg hc3_1, if_neg hc9_2, if_neg hc15_3, if_neg hc21_4, if_pos hc28_11, if_neg hc35_12, if_neg hc42_15])), N, rfl⟩)
          · refine Rt.icmpY (pc' := 59) X0 hx (hb hby d1_28) (flt hc28_11).2.2.2 (by decide) (by decide) ?_
            refine Rt.iconst (pc' := 60) (v := (1 : Int32)) X0 hx (hb hby d1_59) rfl rfl ?_
            refine Rt.goto (pc' := 64) X0 hx (hb hby d1_60) (by decide) (by decide) ?_
            exact Rt.retZ (w := (1 : Int32)) X0 hx hlk hret (by simp) (hb hby d1_64) (by decide) (by decide) (by decide) (fun L N => ⟨congrArg some (congrArg Value.int (by rw [f1, if_neg hc3_1, if_neg hc9_2, if_neg hc15_3, if_neg hc21_4, if_neg hc28_11])), N, rfl⟩)
theorem d2_0 : decode method_2_code 0 = .ok (.iload_n 0, 1) := by decide +kernel
theorem d2_15 : decode method_2_code 15 = .ok (.istore_n 1, 1) := by decide +kernel
theorem d2_16 : decode method_2_code 16 = .ok (.iload_n 0, 1) := by decide +kernel
theorem d2_17 : decode method_2_code 17 = .ok (.ldc 8, 2) := by decide +kernel
theorem d2_33 : decode method_2_code 33 = .ok (.istore_n 2, 1) := by decide +kernel
theorem d2_34 : decode method_2_code 34 = .ok (.iload_n 0, 1) := by decide +kernel
theorem d2_35 : decode method_2_code 35 = .ok (.ldc 10, 2) := by decide +kernel
theorem d2_51 : decode method_2_code 51 = .ok (.istore_n 3, 1) := by decide +kernel
theorem d2_52 : decode method_2_code 52 = .ok (.iload_n 0, 1) := by decide +kernel
theorem d2_53 : decode method_2_code 53 = .ok (.bipush 32, 2) := by decide +kernel
theorem d2_81 : decode method_2_code 81 = .ok (.istore 4, 2) := by decide +kernel
theorem d2_83 : decode method_2_code 83 = .ok (.iload_n 1, 1) := by decide +kernel
theorem d2_84 : decode method_2_code 84 = .ok (.ifCond .eq 20, 3) := by decide +kernel
theorem d2_104 : decode method_2_code 104 = .ok (.iconst 0, 1) := by decide +kernel
theorem d2_105 : decode method_2_code 105 = .ok (.ireturn, 1) := by decide +kernel
theorem d2_87 : decode method_2_code 87 = .ok (.iload_n 2, 1) := by decide +kernel
theorem d2_88 : decode method_2_code 88 = .ok (.ifCond .ne 16, 3) := by decide +kernel
theorem d2_91 : decode method_2_code 91 = .ok (.iload_n 3, 1) := by decide +kernel
theorem d2_92 : decode method_2_code 92 = .ok (.ifCond .ne 12, 3) := by decide +kernel
theorem d2_95 : decode method_2_code 95 = .ok (.iload 4, 2) := by decide +kernel
theorem d2_97 : decode method_2_code 97 = .ok (.ifCond .ne 7, 3) := by decide +kernel
theorem d2_100 : decode method_2_code 100 = .ok (.iconst 1, 1) := by decide +kernel
theorem d2_101 : decode method_2_code 101 = .ok (.goto 4, 3) := by decide +kernel
theorem d2_55 : decode method_2_code 55 = .ok (.if_icmp .ge 25, 3) := by decide +kernel
theorem d2_58 : decode method_2_code 58 = .ok (.iload_n 0, 1) := by decide +kernel
theorem d2_59 : decode method_2_code 59 = .ok (.bipush 9, 2) := by decide +kernel
theorem d2_61 : decode method_2_code 61 = .ok (.if_icmp .eq 19, 3) := by decide +kernel
theorem d2_80 : decode method_2_code 80 = .ok (.iconst 0, 1) := by decide +kernel
theorem d2_64 : decode method_2_code 64 = .ok (.iload_n 0, 1) := by decide +kernel
theorem d2_65 : decode method_2_code 65 = .ok (.bipush 10, 2) := by decide +kernel
theorem d2_67 : decode method_2_code 67 = .ok (.if_icmp .eq 13, 3) := by decide +kernel
theorem d2_70 : decode method_2_code 70 = .ok (.iload_n 0, 1) := by decide +kernel
theorem d2_71 : decode method_2_code 71 = .ok (.bipush 13, 2) := by decide +kernel
theorem d2_73 : decode method_2_code 73 = .ok (.if_icmp .eq 7, 3) := by decide +kernel
theorem d2_76 : decode method_2_code 76 = .ok (.iconst 1, 1) := by decide +kernel
theorem d2_77 : decode method_2_code 77 = .ok (.goto 4, 3) := by decide +kernel
theorem d2_37 : decode method_2_code 37 = .ok (.if_icmp .eq 9, 3) := by decide +kernel
theorem d2_46 : decode method_2_code 46 = .ok (.iconst 1, 1) := by decide +kernel
theorem d2_47 : decode method_2_code 47 = .ok (.goto 4, 3) := by decide +kernel
theorem d2_40 : decode method_2_code 40 = .ok (.iload_n 0, 1) := by decide +kernel
theorem d2_41 : decode method_2_code 41 = .ok (.ldc 11, 2) := by decide +kernel
theorem d2_43 : decode method_2_code 43 = .ok (.if_icmp .ne 7, 3) := by decide +kernel
theorem d2_50 : decode method_2_code 50 = .ok (.iconst 0, 1) := by decide +kernel
theorem d2_19 : decode method_2_code 19 = .ok (.if_icmp .lt 13, 3) := by decide +kernel
theorem d2_32 : decode method_2_code 32 = .ok (.iconst 0, 1) := by decide +kernel
theorem d2_22 : decode method_2_code 22 = .ok (.iload_n 0, 1) := by decide +kernel
theorem d2_23 : decode method_2_code 23 = .ok (.ldc 9, 2) := by decide +kernel
theorem d2_25 : decode method_2_code 25 = .ok (.if_icmp .gt 7, 3) := by decide +kernel
theorem d2_28 : decode method_2_code 28 = .ok (.iconst 1, 1) := by decide +kernel
theorem d2_29 : decode method_2_code 29 = .ok (.goto 4, 3) := by decide +kernel
theorem d2_1 : decode method_2_code 1 = .ok (.ifCond .lt 13, 3) := by decide +kernel
theorem d2_14 : decode method_2_code 14 = .ok (.iconst 0, 1) := by decide +kernel
theorem d2_4 : decode method_2_code 4 = .ok (.iload_n 0, 1) := by decide +kernel
theorem d2_5 : decode method_2_code 5 = .ok (.ldc 7, 2) := by decide +kernel
theorem d2_7 : decode method_2_code 7 = .ok (.if_icmp .gt 7, 3) := by decide +kernel
theorem d2_10 : decode method_2_code 10 = .ok (.iconst 1, 1) := by decide +kernel
theorem d2_11 : decode method_2_code 11 = .ok (.goto 4, 3) := by decide +kernel
def f2_j15_s0 (p1 : Int32) : Int32 := (if p1 < (0 : Int32) then (0 : Int32) else (if (1114111 : Int32) < p1 then (0 : Int32) else (1 : Int32)))
def f2_j33_s0 (p1 : Int32) : Int32 := (if p1 < (55296 : Int32) then (0 : Int32) else (if (57343 : Int32) < p1 then (0 : Int32) else (1 : Int32)))
def f2_j51_s0 (p1 : Int32) : Int32 := (if p1 = (65534 : Int32) then (1 : Int32) else (if p1 = (65535 : Int32) then (1 : Int32) else (0 : Int32)))
def f2_j81_s0 (p1 : Int32) : Int32 := (if p1 < (32 : Int32) then (if p1 = (9 : Int32) then (0 : Int32) else (if p1 = (10 : Int32) then (0 : Int32) else (if p1 = (13 : Int32) then (0 : Int32) else (1 : Int32)))) else (0 : Int32))
def f2 (p1 : Int32) : Int32 := (if (f2_j15_s0 p1) = (0 : Int32) then (0 : Int32) else (if (f2_j33_s0 p1) = (0 : Int32) then (if (f2_j51_s0 p1) = (0 : Int32) then (if (f2_j81_s0 p1) = (0 : Int32) then (1 : Int32) else (0 : Int32)) else (0 : Int32)) else (0 : Int32)))
def Q2 (p1 : Int32) (h0 : Heap) (n0 : Nat) (v : Option Value) (h : Heap) (L : List Loc) : Prop := v = some (.int (f2 p1)) ∧ Fr n0 L ∧ h = h0
def rmR2 : Room := { frames := 0, cells := 0, slots := 0, locals := 0 }
theorem ef_2 (m : MethodId) (p1 : Int32) : entryFrame m #[(.int p1)] 5 = mkF m 0 #[.val (.int p1), .unset, .unset, .unset, .unset] [] := by first | (simp [entryFrame, mkF, argsToLocals, Value.category]; done) | rfl
theorem pn_com_example_methodical_gateway_methodicalgateway_core_xml_XmlReaderIsCharacterPinLaw : plainName "com/example/methodical_gateway/methodicalgateway/core/xml/XmlReaderIsCharacterPinLaw" = true := by first | (simp [plainName, overriddenIn]; done) | decide +kernel
set_option maxRecDepth 65536 in
set_option maxHeartbeats 40000000 in
theorem rm2 (l : Launch) (Z : State) (a0 : Array Value) (hw : ∀ d ∈ tables_1, d.before a0 Z = true) (ws : List Jvm.Cond) (p1 : Int32) (h0 : Heap) (n0 : Nat) :
    Mt l Z mt2 (Jvm.Cond.code mt2 method_2_code 5 (some .boolean) :: ws) rmR2 #[(.int p1)] h0 (Q2 p1 h0 n0) := by
  refine Mt.of n0 (plainFor_of_name pn_com_example_methodical_gateway_methodicalgateway_core_xml_XmlReaderIsCharacterPinLaw) ?_
  intro p e s m below meth c T0 X0 hx hZ hby hml hown hret hlk hnm hs0
  have hown : s.vm.findClass "com/example/methodical_gateway/methodicalgateway/core/xml/XmlReaderIsCharacterPinLaw" = some m.cls := hown
  rw [ef_2]
  show Rt p e below s rmR2.cells rmR2.slots (Q2 p1 h0 n0) (T0.setTop (mkF m 0 #[.val (.int p1), .unset, .unset, .unset, .unset] []))
  refine Rt.iloadN (pc' := 1) X0 hx (hb hby d2_0) rfl rfl ?_
  have J1_1 : ∀ T1  , Sd p l e rmR2 s m #[(.int p1)] below meth c T1 n0 0 0 h0 → Rt p e below s rmR2.cells rmR2.slots (Q2 p1 h0 n0) (T1.setTop (mkF m 15 #[.val (.int p1), .unset, .unset, .unset, .unset] [(.int (f2_j15_s0 p1))])) := by
    intro T1   X1 
    refine Rt.istoreN (pc' := 16) (v := (f2_j15_s0 p1)) (l' := #[.val (.int p1), .val (.int (f2_j15_s0 p1)), .unset, .unset, .unset]) X1 hx (hb hby d2_15) rfl rfl ?_
    refine Rt.iloadN (pc' := 17) X1 hx (hb hby d2_16) rfl rfl ?_
    refine Rt.ldcInt (pc' := 19) X1 hx hZ hown (hw _ (List.mem_of_getElem? (i := 9) rfl)) (hb hby d2_17) rfl ?_
    have J19_2 : ∀ T2  , Sd p l e rmR2 s m #[(.int p1)] below meth c T2 n0 0 0 h0 → Rt p e below s rmR2.cells rmR2.slots (Q2 p1 h0 n0) (T2.setTop (mkF m 33 #[.val (.int p1), .val (.int (f2_j15_s0 p1)), .unset, .unset, .unset] [(.int (f2_j33_s0 p1))])) := by
      intro T2   X2 
      refine Rt.istoreN (pc' := 34) (v := (f2_j33_s0 p1)) (l' := #[.val (.int p1), .val (.int (f2_j15_s0 p1)), .val (.int (f2_j33_s0 p1)), .unset, .unset]) X2 hx (hb hby d2_33) rfl rfl ?_
      refine Rt.iloadN (pc' := 35) X2 hx (hb hby d2_34) rfl rfl ?_
      refine Rt.ldcInt (pc' := 37) X2 hx hZ hown (hw _ (List.mem_of_getElem? (i := 21) rfl)) (hb hby d2_35) rfl ?_
      have J37_3 : ∀ T3  , Sd p l e rmR2 s m #[(.int p1)] below meth c T3 n0 0 0 h0 → Rt p e below s rmR2.cells rmR2.slots (Q2 p1 h0 n0) (T3.setTop (mkF m 51 #[.val (.int p1), .val (.int (f2_j15_s0 p1)), .val (.int (f2_j33_s0 p1)), .unset, .unset] [(.int (f2_j51_s0 p1))])) := by
        intro T3   X3 
        refine Rt.istoreN (pc' := 52) (v := (f2_j51_s0 p1)) (l' := #[.val (.int p1), .val (.int (f2_j15_s0 p1)), .val (.int (f2_j33_s0 p1)), .val (.int (f2_j51_s0 p1)), .unset]) X3 hx (hb hby d2_51) rfl rfl ?_
        refine Rt.iloadN (pc' := 53) X3 hx (hb hby d2_52) rfl rfl ?_
        refine Rt.bipush (pc' := 55) (v := (32 : Int32)) X3 hx (hb hby d2_53) rfl rfl ?_
        have J55_4 : ∀ T4  , Sd p l e rmR2 s m #[(.int p1)] below meth c T4 n0 0 0 h0 → Rt p e below s rmR2.cells rmR2.slots (Q2 p1 h0 n0) (T4.setTop (mkF m 81 #[.val (.int p1), .val (.int (f2_j15_s0 p1)), .val (.int (f2_j33_s0 p1)), .val (.int (f2_j51_s0 p1)), .unset] [(.int (f2_j81_s0 p1))])) := by
          intro T4   X4 
          refine Rt.istore (pc' := 83) (v := (f2_j81_s0 p1)) (l' := #[.val (.int p1), .val (.int (f2_j15_s0 p1)), .val (.int (f2_j33_s0 p1)), .val (.int (f2_j51_s0 p1)), .val (.int (f2_j81_s0 p1))]) X4 hx (hb hby d2_81) rfl rfl ?_
          refine Rt.iloadN (pc' := 84) X4 hx (hb hby d2_83) rfl rfl ?_
          by_cases hc84_5 : (f2_j15_s0 p1) = (0 : Int32)
          · refine Rt.ifY (pc' := 104) X4 hx (hb hby d2_84) ((if0 _ _).trans (teq hc84_5).1) (by decide) (by decide) ?_
            refine Rt.iconst (pc' := 105) (v := (0 : Int32)) X4 hx (hb hby d2_104) rfl rfl ?_
            exact Rt.retZ (w := (0 : Int32)) X4 hx hlk hret (by simp) (hb hby d2_105) (by decide) (by decide) (by decide) (fun L N => ⟨congrArg some (congrArg Value.int (by rw [f2, if_pos hc84_5])), N, rfl⟩)
          · refine Rt.ifN (pc' := 87) X4 hx (hb hby d2_84) ((if0 _ _).trans (feq hc84_5).1) rfl ?_
            refine Rt.iloadN (pc' := 88) X4 hx (hb hby d2_87) rfl rfl ?_
            by_cases hc88_6 : (f2_j33_s0 p1) = (0 : Int32)
            · refine Rt.ifN (pc' := 91) X4 hx (hb hby d2_88) ((if0 _ _).trans (teq hc88_6).2) rfl ?_
              refine Rt.iloadN (pc' := 92) X4 hx (hb hby d2_91) rfl rfl ?_
              by_cases hc92_7 : (f2_j51_s0 p1) = (0 : Int32)
              · refine Rt.ifN (pc' := 95) X4 hx (hb hby d2_92) ((if0 _ _).trans (teq hc92_7).2) rfl ?_
                refine Rt.iload (pc' := 97) X4 hx (hb hby d2_95) rfl rfl ?_
                by_cases hc97_8 : (f2_j81_s0 p1) = (0 : Int32)
                · refine Rt.ifN (pc' := 100) X4 hx (hb hby d2_97) ((if0 _ _).trans (teq hc97_8).2) rfl ?_
                  refine Rt.iconst (pc' := 101) (v := (1 : Int32)) X4 hx (hb hby d2_100) rfl rfl ?_
                  refine Rt.goto (pc' := 105) X4 hx (hb hby d2_101) (by decide) (by decide) ?_
                  exact Rt.retZ (w := (1 : Int32)) X4 hx hlk hret (by simp) (hb hby d2_105) (by decide) (by decide) (by decide) (fun L N => ⟨congrArg some (congrArg Value.int (by rw [f2, if_neg hc84_5, if_pos hc88_6, if_pos hc92_7, if_pos hc97_8])), N, rfl⟩)
                · refine Rt.ifY (pc' := 104) X4 hx (hb hby d2_97) ((if0 _ _).trans (feq hc97_8).2) (by decide) (by decide) ?_
                  refine Rt.iconst (pc' := 105) (v := (0 : Int32)) X4 hx (hb hby d2_104) rfl rfl ?_
                  exact Rt.retZ (w := (0 : Int32)) X4 hx hlk hret (by simp) (hb hby d2_105) (by decide) (by decide) (by decide) (fun L N => ⟨congrArg some (congrArg Value.int (by rw [f2, if_neg hc84_5, if_pos hc88_6, if_pos hc92_7, if_neg hc97_8])), N, rfl⟩)
              · refine Rt.ifY (pc' := 104) X4 hx (hb hby d2_92) ((if0 _ _).trans (feq hc92_7).2) (by decide) (by decide) ?_
                refine Rt.iconst (pc' := 105) (v := (0 : Int32)) X4 hx (hb hby d2_104) rfl rfl ?_
                exact Rt.retZ (w := (0 : Int32)) X4 hx hlk hret (by simp) (hb hby d2_105) (by decide) (by decide) (by decide) (fun L N => ⟨congrArg some (congrArg Value.int (by rw [f2, if_neg hc84_5, if_pos hc88_6, if_neg hc92_7])), N, rfl⟩)
            · refine Rt.ifY (pc' := 104) X4 hx (hb hby d2_88) ((if0 _ _).trans (feq hc88_6).2) (by decide) (by decide) ?_
              refine Rt.iconst (pc' := 105) (v := (0 : Int32)) X4 hx (hb hby d2_104) rfl rfl ?_
              exact Rt.retZ (w := (0 : Int32)) X4 hx hlk hret (by simp) (hb hby d2_105) (by decide) (by decide) (by decide) (fun L N => ⟨congrArg some (congrArg Value.int (by rw [f2, if_neg hc84_5, if_neg hc88_6])), N, rfl⟩)
        by_cases hc55_9 : p1 < (32 : Int32)
        · refine Rt.icmpN (pc' := 58) X3 hx (hb hby d2_55) (tlt hc55_9).2.1 rfl ?_
          refine Rt.iloadN (pc' := 59) X3 hx (hb hby d2_58) rfl rfl ?_
          refine Rt.bipush (pc' := 61) (v := (9 : Int32)) X3 hx (hb hby d2_59) rfl rfl ?_
          by_cases hc61_10 : p1 = (9 : Int32)
          · refine Rt.icmpY (pc' := 80) X3 hx (hb hby d2_61) (teq hc61_10).1 (by decide) (by decide) ?_
            refine Rt.iconst (pc' := 81) (v := (0 : Int32)) X3 hx (hb hby d2_80) rfl rfl ?_
            have q := J55_4 T3   X3
            rw [show (f2_j81_s0 p1) = (0 : Int32) from by rw [f2_j81_s0, if_pos hc55_9, if_pos hc61_10]] at q
            exact q
          · refine Rt.icmpN (pc' := 64) X3 hx (hb hby d2_61) (feq hc61_10).1 rfl ?_
            refine Rt.iloadN (pc' := 65) X3 hx (hb hby d2_64) rfl rfl ?_
            refine Rt.bipush (pc' := 67) (v := (10 : Int32)) X3 hx (hb hby d2_65) rfl rfl ?_
            by_cases hc67_11 : p1 = (10 : Int32)
            · refine Rt.icmpY (pc' := 80) X3 hx (hb hby d2_67) (teq hc67_11).1 (by decide) (by decide) ?_
              refine Rt.iconst (pc' := 81) (v := (0 : Int32)) X3 hx (hb hby d2_80) rfl rfl ?_
              have q := J55_4 T3   X3
              rw [show (f2_j81_s0 p1) = (0 : Int32) from by rw [f2_j81_s0, if_pos hc55_9, if_neg hc61_10, if_pos hc67_11]] at q
              exact q
            · refine Rt.icmpN (pc' := 70) X3 hx (hb hby d2_67) (feq hc67_11).1 rfl ?_
              refine Rt.iloadN (pc' := 71) X3 hx (hb hby d2_70) rfl rfl ?_
              refine Rt.bipush (pc' := 73) (v := (13 : Int32)) X3 hx (hb hby d2_71) rfl rfl ?_
              by_cases hc73_12 : p1 = (13 : Int32)
              · refine Rt.icmpY (pc' := 80) X3 hx (hb hby d2_73) (teq hc73_12).1 (by decide) (by decide) ?_
                refine Rt.iconst (pc' := 81) (v := (0 : Int32)) X3 hx (hb hby d2_80) rfl rfl ?_
                have q := J55_4 T3   X3
                rw [show (f2_j81_s0 p1) = (0 : Int32) from by rw [f2_j81_s0, if_pos hc55_9, if_neg hc61_10, if_neg hc67_11, if_pos hc73_12]] at q
                exact q
              · refine Rt.icmpN (pc' := 76) X3 hx (hb hby d2_73) (feq hc73_12).1 rfl ?_
                refine Rt.iconst (pc' := 77) (v := (1 : Int32)) X3 hx (hb hby d2_76) rfl rfl ?_
                refine Rt.goto (pc' := 81) X3 hx (hb hby d2_77) (by decide) (by decide) ?_
                have q := J55_4 T3   X3
                rw [show (f2_j81_s0 p1) = (1 : Int32) from by rw [f2_j81_s0, if_pos hc55_9, if_neg hc61_10, if_neg hc67_11, if_neg hc73_12]] at q
                exact q
        · refine Rt.icmpY (pc' := 80) X3 hx (hb hby d2_55) (flt hc55_9).2.1 (by decide) (by decide) ?_
          refine Rt.iconst (pc' := 81) (v := (0 : Int32)) X3 hx (hb hby d2_80) rfl rfl ?_
          have q := J55_4 T3   X3
          rw [show (f2_j81_s0 p1) = (0 : Int32) from by rw [f2_j81_s0, if_neg hc55_9]] at q
          exact q
      by_cases hc37_13 : p1 = (65534 : Int32)
      · refine Rt.icmpY (pc' := 46) X2 hx (hb hby d2_37) (teq hc37_13).1 (by decide) (by decide) ?_
        refine Rt.iconst (pc' := 47) (v := (1 : Int32)) X2 hx (hb hby d2_46) rfl rfl ?_
        refine Rt.goto (pc' := 51) X2 hx (hb hby d2_47) (by decide) (by decide) ?_
        have q := J37_3 T2   X2
        rw [show (f2_j51_s0 p1) = (1 : Int32) from by rw [f2_j51_s0, if_pos hc37_13]] at q
        exact q
      · refine Rt.icmpN (pc' := 40) X2 hx (hb hby d2_37) (feq hc37_13).1 rfl ?_
        refine Rt.iloadN (pc' := 41) X2 hx (hb hby d2_40) rfl rfl ?_
        refine Rt.ldcInt (pc' := 43) X2 hx hZ hown (hw _ (List.mem_of_getElem? (i := 10) rfl)) (hb hby d2_41) rfl ?_
        by_cases hc43_14 : p1 = (65535 : Int32)
        · refine Rt.icmpN (pc' := 46) X2 hx (hb hby d2_43) (teq hc43_14).2 rfl ?_
          refine Rt.iconst (pc' := 47) (v := (1 : Int32)) X2 hx (hb hby d2_46) rfl rfl ?_
          refine Rt.goto (pc' := 51) X2 hx (hb hby d2_47) (by decide) (by decide) ?_
          have q := J37_3 T2   X2
          rw [show (f2_j51_s0 p1) = (1 : Int32) from by rw [f2_j51_s0, if_neg hc37_13, if_pos hc43_14]] at q
          exact q
        · refine Rt.icmpY (pc' := 50) X2 hx (hb hby d2_43) (feq hc43_14).2 (by decide) (by decide) ?_
          refine Rt.iconst (pc' := 51) (v := (0 : Int32)) X2 hx (hb hby d2_50) rfl rfl ?_
          have q := J37_3 T2   X2
          rw [show (f2_j51_s0 p1) = (0 : Int32) from by rw [f2_j51_s0, if_neg hc37_13, if_neg hc43_14]] at q
          exact q
    by_cases hc19_15 : p1 < (55296 : Int32)
    · refine Rt.icmpY (pc' := 32) X1 hx (hb hby d2_19) (tlt hc19_15).1 (by decide) (by decide) ?_
      refine Rt.iconst (pc' := 33) (v := (0 : Int32)) X1 hx (hb hby d2_32) rfl rfl ?_
      have q := J19_2 T1   X1
      rw [show (f2_j33_s0 p1) = (0 : Int32) from by rw [f2_j33_s0, if_pos hc19_15]] at q
      exact q
    · refine Rt.icmpN (pc' := 22) X1 hx (hb hby d2_19) (flt hc19_15).1 rfl ?_
      refine Rt.iloadN (pc' := 23) X1 hx (hb hby d2_22) rfl rfl ?_
      refine Rt.ldcInt (pc' := 25) X1 hx hZ hown (hw _ (List.mem_of_getElem? (i := 8) rfl)) (hb hby d2_23) rfl ?_
      by_cases hc25_16 : (57343 : Int32) < p1
      · refine Rt.icmpY (pc' := 32) X1 hx (hb hby d2_25) (tlt hc25_16).2.2.1 (by decide) (by decide) ?_
        refine Rt.iconst (pc' := 33) (v := (0 : Int32)) X1 hx (hb hby d2_32) rfl rfl ?_
        have q := J19_2 T1   X1
        rw [show (f2_j33_s0 p1) = (0 : Int32) from by rw [f2_j33_s0, if_neg hc19_15, if_pos hc25_16]] at q
        exact q
      · refine Rt.icmpN (pc' := 28) X1 hx (hb hby d2_25) (flt hc25_16).2.2.1 rfl ?_
        refine Rt.iconst (pc' := 29) (v := (1 : Int32)) X1 hx (hb hby d2_28) rfl rfl ?_
        refine Rt.goto (pc' := 33) X1 hx (hb hby d2_29) (by decide) (by decide) ?_
        have q := J19_2 T1   X1
        rw [show (f2_j33_s0 p1) = (1 : Int32) from by rw [f2_j33_s0, if_neg hc19_15, if_neg hc25_16]] at q
        exact q
  by_cases hc1_17 : p1 < (0 : Int32)
  · refine Rt.ifY (pc' := 14) X0 hx (hb hby d2_1) ((if0 _ _).trans (tlt hc1_17).1) (by decide) (by decide) ?_
    refine Rt.iconst (pc' := 15) (v := (0 : Int32)) X0 hx (hb hby d2_14) rfl rfl ?_
    have q := J1_1 T0   X0
    rw [show (f2_j15_s0 p1) = (0 : Int32) from by rw [f2_j15_s0, if_pos hc1_17]] at q
    exact q
  · refine Rt.ifN (pc' := 4) X0 hx (hb hby d2_1) ((if0 _ _).trans (flt hc1_17).1) rfl ?_
    refine Rt.iloadN (pc' := 5) X0 hx (hb hby d2_4) rfl rfl ?_
    refine Rt.ldcInt (pc' := 7) X0 hx hZ hown (hw _ (List.mem_of_getElem? (i := 5) rfl)) (hb hby d2_5) rfl ?_
    by_cases hc7_18 : (1114111 : Int32) < p1
    · refine Rt.icmpY (pc' := 14) X0 hx (hb hby d2_7) (tlt hc7_18).2.2.1 (by decide) (by decide) ?_
      refine Rt.iconst (pc' := 15) (v := (0 : Int32)) X0 hx (hb hby d2_14) rfl rfl ?_
      have q := J1_1 T0   X0
      rw [show (f2_j15_s0 p1) = (0 : Int32) from by rw [f2_j15_s0, if_neg hc1_17, if_pos hc7_18]] at q
      exact q
    · refine Rt.icmpN (pc' := 10) X0 hx (hb hby d2_7) (flt hc7_18).2.2.1 rfl ?_
      refine Rt.iconst (pc' := 11) (v := (1 : Int32)) X0 hx (hb hby d2_10) rfl rfl ?_
      refine Rt.goto (pc' := 15) X0 hx (hb hby d2_11) (by decide) (by decide) ?_
      have q := J1_1 T0   X0
      rw [show (f2_j15_s0 p1) = (1 : Int32) from by rw [f2_j15_s0, if_neg hc1_17, if_neg hc7_18]] at q
      exact q
def f0_tab (j : Int32) : Int32 := if j = 0 then (9 : Int32) else if j = 1 then (13 : Int32) else if j = 2 then (32 : Int32) else if j = 3 then (55295 : Int32) else if j = 4 then (57344 : Int32) else if j = 5 then (65533 : Int32) else if j = 6 then (65536 : Int32) else if j = 7 then (1114111 : Int32) else if j = 8 then (0 : Int32) else if j = 9 then (-2147483647 : Int32) else if j = 10 then (2147483645 : Int32) else if j = 11 then (57343 : Int32) else if j = 12 then (55296 : Int32) else if j = 13 then (31 : Int32) else if j = 14 then (10 : Int32) else (65535 : Int32)
theorem pd_0 : parseMethodDescriptor "(I)Z" = some ⟨[.int], some .boolean⟩ := by decide +kernel
def f0_ix (p2 : Int32) : Int32 := (p2 &&& (15 : Int32))
def f0_v108 (p2 : Int32) : Int32 := (((f0_tab (f0_ix p2)) + ((p2 >>> ((4 : Int32) &&& 31)) &&& (3 : Int32))) - (1 : Int32))
def f0 (p1 : Int32) (p2 : Int32) : Int32 := (if (f1 p1) = (f2 p1) then (if (f1 (f0_v108 p2)) = (f2 (f0_v108 p2)) then (1 : Int32) else (0 : Int32)) else (0 : Int32))
theorem own_ix (k : Int32) : ¬ f0_ix k < 0 ∧ [Value.int (9 : Int32), Value.int (13 : Int32), Value.int (32 : Int32), Value.int (55295 : Int32), Value.int (57344 : Int32), Value.int (65533 : Int32), Value.int (65536 : Int32), Value.int (1114111 : Int32), Value.int (0 : Int32), Value.int (-2147483647 : Int32), Value.int (2147483645 : Int32), Value.int (57343 : Int32), Value.int (55296 : Int32), Value.int (31 : Int32), Value.int (10 : Int32), Value.int (65535 : Int32)][(f0_ix k).toNatClampNeg]? = some (Value.int (f0_tab (f0_ix k))) := by
  have g := c_mask k 15 4 (by decide) (by decide)
  have e : f0_ix k = 0 ∨ f0_ix k = 1 ∨ f0_ix k = 2 ∨ f0_ix k = 3 ∨ f0_ix k = 4 ∨ f0_ix k = 5 ∨ f0_ix k = 6 ∨ f0_ix k = 7 ∨ f0_ix k = 8 ∨ f0_ix k = 9 ∨ f0_ix k = 10 ∨ f0_ix k = 11 ∨ f0_ix k = 12 ∨ f0_ix k = 13 ∨ f0_ix k = 14 ∨ f0_ix k = 15 := by
    unfold f0_ix
    generalize k &&& 15 = j at g ⊢
    simp only [← Int32.toInt_inj]
    have : j.toInt = 0 ∨ j.toInt = 1 ∨ j.toInt = 2 ∨ j.toInt = 3 ∨ j.toInt = 4 ∨ j.toInt = 5 ∨ j.toInt = 6 ∨ j.toInt = 7 ∨ j.toInt = 8 ∨ j.toInt = 9 ∨ j.toInt = 10 ∨ j.toInt = 11 ∨ j.toInt = 12 ∨ j.toInt = 13 ∨ j.toInt = 14 ∨ j.toInt = 15 := by omega
    exact this
  generalize f0_ix k = j at e
  rcases e with rfl | rfl | rfl | rfl | rfl | rfl | rfl | rfl | rfl | rfl | rfl | rfl | rfl | rfl | rfl | rfl <;> exact ⟨by decide, rfl⟩
def Q0 (Z : State) (p1 : Int32) (p2 : Int32) (h0 : Heap) (n0 : Nat) (v : Option Value) (h : Heap) (L : List Loc) : Prop := v = some (.int (f0 p1 p2)) ∧ Fr n0 L ∧ Keep h0 h []
theorem ef_0 (m : MethodId) (p1 : Int32) (p2 : Int32) : entryFrame m #[(.int p1), (.int p2)] maxLocals = mkF m 0 #[.val (.int p1), .val (.int p2), .unset, .unset] [] := by first | (simp [entryFrame, mkF, argsToLocals, Value.category, maxLocals]; done) | rfl
set_option maxRecDepth 65536 in
set_option maxHeartbeats 40000000 in
theorem rm0 (l : Launch) (Z : State) (a0 : Array Value) (hw : ∀ d ∈ tables_1, d.before a0 Z = true) (ws : List Jvm.Cond) (p1 : Int32) (p2 : Int32) (h0 : Heap) (n0 : Nat) (Z0 : n0 ≤ h0.size) :
    Mt l Z x (Jvm.Cond.code x code maxLocals ret :: ws) room_1 #[(.int p1), (.int p2)] h0 (Q0 Z p1 p2 h0 n0) := by
  refine Mt.of n0 (plainFor_of_name pn_com_example_methodical_gateway_methodicalgateway_core_xml_XmlReaderIsCharacterPinLaw) ?_
  intro p e s m below meth c T0 X0 hx hZ hby hml hown hret hlk hnm hs0
  have hml : c.maxLocals = 4 := hml
  have hret : meth.sig.returnType = some .boolean := hret
  have hown : s.vm.findClass "com/example/methodical_gateway/methodicalgateway/core/xml/XmlReaderIsCharacterPinLaw" = some m.cls := hown
  rw [ef_0]
  show Rt p e below s room_1.cells room_1.slots (Q0 Z p1 p2 h0 n0) (T0.setTop (mkF m 0 #[.val (.int p1), .val (.int p2), .unset, .unset] []))
  refine Rt.bipush (pc' := 2) (v := (16 : Int32)) X0 hx (hb hby at_0) rfl rfl ?_
  refine Rt.newP (pc' := 4) X0 hx hZ (ty := .int) rfl (hw _ (List.mem_of_getElem? (i := 0) rfl)) (z := (16 : Int32)) (i := 16) (by decide) (by decide) (cap := 16) (by decide) (by decide) (hb hby at_2) (by decide) (by decide) rfl ?_
  intro T1 h1 b2 ha1 X1 E1 A1
  have g2 : n0 ≤ b2 := by rw [ha1]; exact Z0
  have s3 : h0.size ≤ b2 := by rw [ha1]; exact (Keep.refl h0 []).1
  have K4 : Keep h0 h1 [] := (Keep.refl h0 []).ext E1
  have Z5 : n0 ≤ h1.size := Nat.le_trans Z0 E1.1
  have A1 : IA Z h1 b2 .int [(.int (0 : Int32)), (.int (0 : Int32)), (.int (0 : Int32)), (.int (0 : Int32)), (.int (0 : Int32)), (.int (0 : Int32)), (.int (0 : Int32)), (.int (0 : Int32)), (.int (0 : Int32)), (.int (0 : Int32)), (.int (0 : Int32)), (.int (0 : Int32)), (.int (0 : Int32)), (.int (0 : Int32)), (.int (0 : Int32)), (.int (0 : Int32))] := A1
  refine Rt.dup (pc' := 5) X1 hx (hb hby at_4) rfl rfl ?_
  refine Rt.iconst (pc' := 6) (v := (0 : Int32)) X1 hx (hb hby at_5) rfl rfl ?_
  refine Rt.bipush (pc' := 8) (v := (9 : Int32)) X1 hx (hb hby at_6) rfl rfl ?_
  refine Rt.iastore (pc' := 9) X1 hx hZ A1 (i := 0) (by decide) (by decide) (by decide) (w := (.int (9 : Int32))) rfl g2 (hb hby at_8) rfl ?_
  intro T6 h6 X6 W6 F6
  have F6 : IA Z h6 b2 .int [(.int (9 : Int32)), (.int (0 : Int32)), (.int (0 : Int32)), (.int (0 : Int32)), (.int (0 : Int32)), (.int (0 : Int32)), (.int (0 : Int32)), (.int (0 : Int32)), (.int (0 : Int32)), (.int (0 : Int32)), (.int (0 : Int32)), (.int (0 : Int32)), (.int (0 : Int32)), (.int (0 : Int32)), (.int (0 : Int32)), (.int (0 : Int32))] := F6
  have K7 : Keep h0 h6 [] := K4.wr W6 (Or.inr s3)
  have Z8 : n0 ≤ h6.size := Nat.le_trans Z5 (Keep.of_wr W6).1
  refine Rt.dup (pc' := 10) X6 hx (hb hby at_9) rfl rfl ?_
  refine Rt.iconst (pc' := 11) (v := (1 : Int32)) X6 hx (hb hby at_10) rfl rfl ?_
  refine Rt.bipush (pc' := 13) (v := (13 : Int32)) X6 hx (hb hby at_11) rfl rfl ?_
  refine Rt.iastore (pc' := 14) X6 hx hZ F6 (i := 1) (by decide) (by decide) (by decide) (w := (.int (13 : Int32))) rfl g2 (hb hby at_13) rfl ?_
  intro T9 h9 X9 W9 F9
  have F9 : IA Z h9 b2 .int [(.int (9 : Int32)), (.int (13 : Int32)), (.int (0 : Int32)), (.int (0 : Int32)), (.int (0 : Int32)), (.int (0 : Int32)), (.int (0 : Int32)), (.int (0 : Int32)), (.int (0 : Int32)), (.int (0 : Int32)), (.int (0 : Int32)), (.int (0 : Int32)), (.int (0 : Int32)), (.int (0 : Int32)), (.int (0 : Int32)), (.int (0 : Int32))] := F9
  have K10 : Keep h0 h9 [] := K7.wr W9 (Or.inr s3)
  have Z11 : n0 ≤ h9.size := Nat.le_trans Z8 (Keep.of_wr W9).1
  refine Rt.dup (pc' := 15) X9 hx (hb hby at_14) rfl rfl ?_
  refine Rt.iconst (pc' := 16) (v := (2 : Int32)) X9 hx (hb hby at_15) rfl rfl ?_
  refine Rt.bipush (pc' := 18) (v := (32 : Int32)) X9 hx (hb hby at_16) rfl rfl ?_
  refine Rt.iastore (pc' := 19) X9 hx hZ F9 (i := 2) (by decide) (by decide) (by decide) (w := (.int (32 : Int32))) rfl g2 (hb hby at_18) rfl ?_
  intro T12 h12 X12 W12 F12
  have F12 : IA Z h12 b2 .int [(.int (9 : Int32)), (.int (13 : Int32)), (.int (32 : Int32)), (.int (0 : Int32)), (.int (0 : Int32)), (.int (0 : Int32)), (.int (0 : Int32)), (.int (0 : Int32)), (.int (0 : Int32)), (.int (0 : Int32)), (.int (0 : Int32)), (.int (0 : Int32)), (.int (0 : Int32)), (.int (0 : Int32)), (.int (0 : Int32)), (.int (0 : Int32))] := F12
  have K13 : Keep h0 h12 [] := K10.wr W12 (Or.inr s3)
  have Z14 : n0 ≤ h12.size := Nat.le_trans Z11 (Keep.of_wr W12).1
  refine Rt.dup (pc' := 20) X12 hx (hb hby at_19) rfl rfl ?_
  refine Rt.iconst (pc' := 21) (v := (3 : Int32)) X12 hx (hb hby at_20) rfl rfl ?_
  refine Rt.ldcInt (pc' := 23) X12 hx hZ hown (hw _ (List.mem_of_getElem? (i := 1) rfl)) (hb hby at_21) rfl ?_
  refine Rt.iastore (pc' := 24) X12 hx hZ F12 (i := 3) (by decide) (by decide) (by decide) (w := (.int (55295 : Int32))) rfl g2 (hb hby at_23) rfl ?_
  intro T15 h15 X15 W15 F15
  have F15 : IA Z h15 b2 .int [(.int (9 : Int32)), (.int (13 : Int32)), (.int (32 : Int32)), (.int (55295 : Int32)), (.int (0 : Int32)), (.int (0 : Int32)), (.int (0 : Int32)), (.int (0 : Int32)), (.int (0 : Int32)), (.int (0 : Int32)), (.int (0 : Int32)), (.int (0 : Int32)), (.int (0 : Int32)), (.int (0 : Int32)), (.int (0 : Int32)), (.int (0 : Int32))] := F15
  have K16 : Keep h0 h15 [] := K13.wr W15 (Or.inr s3)
  have Z17 : n0 ≤ h15.size := Nat.le_trans Z14 (Keep.of_wr W15).1
  refine Rt.dup (pc' := 25) X15 hx (hb hby at_24) rfl rfl ?_
  refine Rt.iconst (pc' := 26) (v := (4 : Int32)) X15 hx (hb hby at_25) rfl rfl ?_
  refine Rt.ldcInt (pc' := 28) X15 hx hZ hown (hw _ (List.mem_of_getElem? (i := 2) rfl)) (hb hby at_26) rfl ?_
  refine Rt.iastore (pc' := 29) X15 hx hZ F15 (i := 4) (by decide) (by decide) (by decide) (w := (.int (57344 : Int32))) rfl g2 (hb hby at_28) rfl ?_
  intro T18 h18 X18 W18 F18
  have F18 : IA Z h18 b2 .int [(.int (9 : Int32)), (.int (13 : Int32)), (.int (32 : Int32)), (.int (55295 : Int32)), (.int (57344 : Int32)), (.int (0 : Int32)), (.int (0 : Int32)), (.int (0 : Int32)), (.int (0 : Int32)), (.int (0 : Int32)), (.int (0 : Int32)), (.int (0 : Int32)), (.int (0 : Int32)), (.int (0 : Int32)), (.int (0 : Int32)), (.int (0 : Int32))] := F18
  have K19 : Keep h0 h18 [] := K16.wr W18 (Or.inr s3)
  have Z20 : n0 ≤ h18.size := Nat.le_trans Z17 (Keep.of_wr W18).1
  refine Rt.dup (pc' := 30) X18 hx (hb hby at_29) rfl rfl ?_
  refine Rt.iconst (pc' := 31) (v := (5 : Int32)) X18 hx (hb hby at_30) rfl rfl ?_
  refine Rt.ldcInt (pc' := 33) X18 hx hZ hown (hw _ (List.mem_of_getElem? (i := 3) rfl)) (hb hby at_31) rfl ?_
  refine Rt.iastore (pc' := 34) X18 hx hZ F18 (i := 5) (by decide) (by decide) (by decide) (w := (.int (65533 : Int32))) rfl g2 (hb hby at_33) rfl ?_
  intro T21 h21 X21 W21 F21
  have F21 : IA Z h21 b2 .int [(.int (9 : Int32)), (.int (13 : Int32)), (.int (32 : Int32)), (.int (55295 : Int32)), (.int (57344 : Int32)), (.int (65533 : Int32)), (.int (0 : Int32)), (.int (0 : Int32)), (.int (0 : Int32)), (.int (0 : Int32)), (.int (0 : Int32)), (.int (0 : Int32)), (.int (0 : Int32)), (.int (0 : Int32)), (.int (0 : Int32)), (.int (0 : Int32))] := F21
  have K22 : Keep h0 h21 [] := K19.wr W21 (Or.inr s3)
  have Z23 : n0 ≤ h21.size := Nat.le_trans Z20 (Keep.of_wr W21).1
  refine Rt.dup (pc' := 35) X21 hx (hb hby at_34) rfl rfl ?_
  refine Rt.bipush (pc' := 37) (v := (6 : Int32)) X21 hx (hb hby at_35) rfl rfl ?_
  refine Rt.ldcInt (pc' := 39) X21 hx hZ hown (hw _ (List.mem_of_getElem? (i := 4) rfl)) (hb hby at_37) rfl ?_
  refine Rt.iastore (pc' := 40) X21 hx hZ F21 (i := 6) (by decide) (by decide) (by decide) (w := (.int (65536 : Int32))) rfl g2 (hb hby at_39) rfl ?_
  intro T24 h24 X24 W24 F24
  have F24 : IA Z h24 b2 .int [(.int (9 : Int32)), (.int (13 : Int32)), (.int (32 : Int32)), (.int (55295 : Int32)), (.int (57344 : Int32)), (.int (65533 : Int32)), (.int (65536 : Int32)), (.int (0 : Int32)), (.int (0 : Int32)), (.int (0 : Int32)), (.int (0 : Int32)), (.int (0 : Int32)), (.int (0 : Int32)), (.int (0 : Int32)), (.int (0 : Int32)), (.int (0 : Int32))] := F24
  have K25 : Keep h0 h24 [] := K22.wr W24 (Or.inr s3)
  have Z26 : n0 ≤ h24.size := Nat.le_trans Z23 (Keep.of_wr W24).1
  refine Rt.dup (pc' := 41) X24 hx (hb hby at_40) rfl rfl ?_
  refine Rt.bipush (pc' := 43) (v := (7 : Int32)) X24 hx (hb hby at_41) rfl rfl ?_
  refine Rt.ldcInt (pc' := 45) X24 hx hZ hown (hw _ (List.mem_of_getElem? (i := 5) rfl)) (hb hby at_43) rfl ?_
  refine Rt.iastore (pc' := 46) X24 hx hZ F24 (i := 7) (by decide) (by decide) (by decide) (w := (.int (1114111 : Int32))) rfl g2 (hb hby at_45) rfl ?_
  intro T27 h27 X27 W27 F27
  have F27 : IA Z h27 b2 .int [(.int (9 : Int32)), (.int (13 : Int32)), (.int (32 : Int32)), (.int (55295 : Int32)), (.int (57344 : Int32)), (.int (65533 : Int32)), (.int (65536 : Int32)), (.int (1114111 : Int32)), (.int (0 : Int32)), (.int (0 : Int32)), (.int (0 : Int32)), (.int (0 : Int32)), (.int (0 : Int32)), (.int (0 : Int32)), (.int (0 : Int32)), (.int (0 : Int32))] := F27
  have K28 : Keep h0 h27 [] := K25.wr W27 (Or.inr s3)
  have Z29 : n0 ≤ h27.size := Nat.le_trans Z26 (Keep.of_wr W27).1
  refine Rt.dup (pc' := 47) X27 hx (hb hby at_46) rfl rfl ?_
  refine Rt.bipush (pc' := 49) (v := (8 : Int32)) X27 hx (hb hby at_47) rfl rfl ?_
  refine Rt.iconst (pc' := 50) (v := (0 : Int32)) X27 hx (hb hby at_49) rfl rfl ?_
  refine Rt.iastore (pc' := 51) X27 hx hZ F27 (i := 8) (by decide) (by decide) (by decide) (w := (.int (0 : Int32))) rfl g2 (hb hby at_50) rfl ?_
  intro T30 h30 X30 W30 F30
  have F30 : IA Z h30 b2 .int [(.int (9 : Int32)), (.int (13 : Int32)), (.int (32 : Int32)), (.int (55295 : Int32)), (.int (57344 : Int32)), (.int (65533 : Int32)), (.int (65536 : Int32)), (.int (1114111 : Int32)), (.int (0 : Int32)), (.int (0 : Int32)), (.int (0 : Int32)), (.int (0 : Int32)), (.int (0 : Int32)), (.int (0 : Int32)), (.int (0 : Int32)), (.int (0 : Int32))] := F30
  have K31 : Keep h0 h30 [] := K28.wr W30 (Or.inr s3)
  have Z32 : n0 ≤ h30.size := Nat.le_trans Z29 (Keep.of_wr W30).1
  refine Rt.dup (pc' := 52) X30 hx (hb hby at_51) rfl rfl ?_
  refine Rt.bipush (pc' := 54) (v := (9 : Int32)) X30 hx (hb hby at_52) rfl rfl ?_
  refine Rt.ldcInt (pc' := 56) X30 hx hZ hown (hw _ (List.mem_of_getElem? (i := 6) rfl)) (hb hby at_54) rfl ?_
  refine Rt.iastore (pc' := 57) X30 hx hZ F30 (i := 9) (by decide) (by decide) (by decide) (w := (.int (-2147483647 : Int32))) rfl g2 (hb hby at_56) rfl ?_
  intro T33 h33 X33 W33 F33
  have F33 : IA Z h33 b2 .int [(.int (9 : Int32)), (.int (13 : Int32)), (.int (32 : Int32)), (.int (55295 : Int32)), (.int (57344 : Int32)), (.int (65533 : Int32)), (.int (65536 : Int32)), (.int (1114111 : Int32)), (.int (0 : Int32)), (.int (-2147483647 : Int32)), (.int (0 : Int32)), (.int (0 : Int32)), (.int (0 : Int32)), (.int (0 : Int32)), (.int (0 : Int32)), (.int (0 : Int32))] := F33
  have K34 : Keep h0 h33 [] := K31.wr W33 (Or.inr s3)
  have Z35 : n0 ≤ h33.size := Nat.le_trans Z32 (Keep.of_wr W33).1
  refine Rt.dup (pc' := 58) X33 hx (hb hby at_57) rfl rfl ?_
  refine Rt.bipush (pc' := 60) (v := (10 : Int32)) X33 hx (hb hby at_58) rfl rfl ?_
  refine Rt.ldcInt (pc' := 62) X33 hx hZ hown (hw _ (List.mem_of_getElem? (i := 7) rfl)) (hb hby at_60) rfl ?_
  refine Rt.iastore (pc' := 63) X33 hx hZ F33 (i := 10) (by decide) (by decide) (by decide) (w := (.int (2147483645 : Int32))) rfl g2 (hb hby at_62) rfl ?_
  intro T36 h36 X36 W36 F36
  have F36 : IA Z h36 b2 .int [(.int (9 : Int32)), (.int (13 : Int32)), (.int (32 : Int32)), (.int (55295 : Int32)), (.int (57344 : Int32)), (.int (65533 : Int32)), (.int (65536 : Int32)), (.int (1114111 : Int32)), (.int (0 : Int32)), (.int (-2147483647 : Int32)), (.int (2147483645 : Int32)), (.int (0 : Int32)), (.int (0 : Int32)), (.int (0 : Int32)), (.int (0 : Int32)), (.int (0 : Int32))] := F36
  have K37 : Keep h0 h36 [] := K34.wr W36 (Or.inr s3)
  have Z38 : n0 ≤ h36.size := Nat.le_trans Z35 (Keep.of_wr W36).1
  refine Rt.dup (pc' := 64) X36 hx (hb hby at_63) rfl rfl ?_
  refine Rt.bipush (pc' := 66) (v := (11 : Int32)) X36 hx (hb hby at_64) rfl rfl ?_
  refine Rt.ldcInt (pc' := 68) X36 hx hZ hown (hw _ (List.mem_of_getElem? (i := 8) rfl)) (hb hby at_66) rfl ?_
  refine Rt.iastore (pc' := 69) X36 hx hZ F36 (i := 11) (by decide) (by decide) (by decide) (w := (.int (57343 : Int32))) rfl g2 (hb hby at_68) rfl ?_
  intro T39 h39 X39 W39 F39
  have F39 : IA Z h39 b2 .int [(.int (9 : Int32)), (.int (13 : Int32)), (.int (32 : Int32)), (.int (55295 : Int32)), (.int (57344 : Int32)), (.int (65533 : Int32)), (.int (65536 : Int32)), (.int (1114111 : Int32)), (.int (0 : Int32)), (.int (-2147483647 : Int32)), (.int (2147483645 : Int32)), (.int (57343 : Int32)), (.int (0 : Int32)), (.int (0 : Int32)), (.int (0 : Int32)), (.int (0 : Int32))] := F39
  have K40 : Keep h0 h39 [] := K37.wr W39 (Or.inr s3)
  have Z41 : n0 ≤ h39.size := Nat.le_trans Z38 (Keep.of_wr W39).1
  refine Rt.dup (pc' := 70) X39 hx (hb hby at_69) rfl rfl ?_
  refine Rt.bipush (pc' := 72) (v := (12 : Int32)) X39 hx (hb hby at_70) rfl rfl ?_
  refine Rt.ldcInt (pc' := 74) X39 hx hZ hown (hw _ (List.mem_of_getElem? (i := 9) rfl)) (hb hby at_72) rfl ?_
  refine Rt.iastore (pc' := 75) X39 hx hZ F39 (i := 12) (by decide) (by decide) (by decide) (w := (.int (55296 : Int32))) rfl g2 (hb hby at_74) rfl ?_
  intro T42 h42 X42 W42 F42
  have F42 : IA Z h42 b2 .int [(.int (9 : Int32)), (.int (13 : Int32)), (.int (32 : Int32)), (.int (55295 : Int32)), (.int (57344 : Int32)), (.int (65533 : Int32)), (.int (65536 : Int32)), (.int (1114111 : Int32)), (.int (0 : Int32)), (.int (-2147483647 : Int32)), (.int (2147483645 : Int32)), (.int (57343 : Int32)), (.int (55296 : Int32)), (.int (0 : Int32)), (.int (0 : Int32)), (.int (0 : Int32))] := F42
  have K43 : Keep h0 h42 [] := K40.wr W42 (Or.inr s3)
  have Z44 : n0 ≤ h42.size := Nat.le_trans Z41 (Keep.of_wr W42).1
  refine Rt.dup (pc' := 76) X42 hx (hb hby at_75) rfl rfl ?_
  refine Rt.bipush (pc' := 78) (v := (13 : Int32)) X42 hx (hb hby at_76) rfl rfl ?_
  refine Rt.bipush (pc' := 80) (v := (31 : Int32)) X42 hx (hb hby at_78) rfl rfl ?_
  refine Rt.iastore (pc' := 81) X42 hx hZ F42 (i := 13) (by decide) (by decide) (by decide) (w := (.int (31 : Int32))) rfl g2 (hb hby at_80) rfl ?_
  intro T45 h45 X45 W45 F45
  have F45 : IA Z h45 b2 .int [(.int (9 : Int32)), (.int (13 : Int32)), (.int (32 : Int32)), (.int (55295 : Int32)), (.int (57344 : Int32)), (.int (65533 : Int32)), (.int (65536 : Int32)), (.int (1114111 : Int32)), (.int (0 : Int32)), (.int (-2147483647 : Int32)), (.int (2147483645 : Int32)), (.int (57343 : Int32)), (.int (55296 : Int32)), (.int (31 : Int32)), (.int (0 : Int32)), (.int (0 : Int32))] := F45
  have K46 : Keep h0 h45 [] := K43.wr W45 (Or.inr s3)
  have Z47 : n0 ≤ h45.size := Nat.le_trans Z44 (Keep.of_wr W45).1
  refine Rt.dup (pc' := 82) X45 hx (hb hby at_81) rfl rfl ?_
  refine Rt.bipush (pc' := 84) (v := (14 : Int32)) X45 hx (hb hby at_82) rfl rfl ?_
  refine Rt.bipush (pc' := 86) (v := (10 : Int32)) X45 hx (hb hby at_84) rfl rfl ?_
  refine Rt.iastore (pc' := 87) X45 hx hZ F45 (i := 14) (by decide) (by decide) (by decide) (w := (.int (10 : Int32))) rfl g2 (hb hby at_86) rfl ?_
  intro T48 h48 X48 W48 F48
  have F48 : IA Z h48 b2 .int [(.int (9 : Int32)), (.int (13 : Int32)), (.int (32 : Int32)), (.int (55295 : Int32)), (.int (57344 : Int32)), (.int (65533 : Int32)), (.int (65536 : Int32)), (.int (1114111 : Int32)), (.int (0 : Int32)), (.int (-2147483647 : Int32)), (.int (2147483645 : Int32)), (.int (57343 : Int32)), (.int (55296 : Int32)), (.int (31 : Int32)), (.int (10 : Int32)), (.int (0 : Int32))] := F48
  have K49 : Keep h0 h48 [] := K46.wr W48 (Or.inr s3)
  have Z50 : n0 ≤ h48.size := Nat.le_trans Z47 (Keep.of_wr W48).1
  refine Rt.dup (pc' := 88) X48 hx (hb hby at_87) rfl rfl ?_
  refine Rt.bipush (pc' := 90) (v := (15 : Int32)) X48 hx (hb hby at_88) rfl rfl ?_
  refine Rt.ldcInt (pc' := 92) X48 hx hZ hown (hw _ (List.mem_of_getElem? (i := 10) rfl)) (hb hby at_90) rfl ?_
  refine Rt.iastore (pc' := 93) X48 hx hZ F48 (i := 15) (by decide) (by decide) (by decide) (w := (.int (65535 : Int32))) rfl g2 (hb hby at_92) rfl ?_
  intro T51 h51 X51 W51 F51
  have F51 : IA Z h51 b2 .int [(.int (9 : Int32)), (.int (13 : Int32)), (.int (32 : Int32)), (.int (55295 : Int32)), (.int (57344 : Int32)), (.int (65533 : Int32)), (.int (65536 : Int32)), (.int (1114111 : Int32)), (.int (0 : Int32)), (.int (-2147483647 : Int32)), (.int (2147483645 : Int32)), (.int (57343 : Int32)), (.int (55296 : Int32)), (.int (31 : Int32)), (.int (10 : Int32)), (.int (65535 : Int32))] := F51
  have K52 : Keep h0 h51 [] := K49.wr W51 (Or.inr s3)
  have Z53 : n0 ≤ h51.size := Nat.le_trans Z50 (Keep.of_wr W51).1
  refine Rt.astoreN (pc' := 94) (v := (.ref b2)) (l' := #[.val (.int p1), .val (.int p2), .val (.ref b2), .unset]) X51 hx (hb hby at_93) rfl rfl rfl ?_
  refine Rt.aloadN (pc' := 95) X51 hx (hb hby at_94) rfl rfl rfl ?_
  refine Rt.iloadN (pc' := 96) X51 hx (hb hby at_95) rfl rfl ?_
  refine Rt.bipush (pc' := 98) (v := (15 : Int32)) X51 hx (hb hby at_96) rfl rfl ?_
  refine Rt.iand (pc' := 99) (r := (p2 &&& (15 : Int32))) X51 hx (hb hby at_98) rfl rfl ?_
  refine Rt.iaload (pc' := 100) X51 hx hZ F51 (i := ((f0_ix p2)).toNatClampNeg) rfl (own_ix _).1 (v := (.int (f0_tab (f0_ix p2)))) (own_ix _).2 (hb hby at_99) rfl ?_
  refine Rt.iloadN (pc' := 101) X51 hx (hb hby at_100) rfl rfl ?_
  refine Rt.iconst (pc' := 102) (v := (4 : Int32)) X51 hx (hb hby at_101) rfl rfl ?_
  refine Rt.ishr (pc' := 103) (r := (p2 >>> ((4 : Int32) &&& 31))) X51 hx (hb hby at_102) rfl rfl ?_
  refine Rt.iconst (pc' := 104) (v := (3 : Int32)) X51 hx (hb hby at_103) rfl rfl ?_
  refine Rt.iand (pc' := 105) (r := ((p2 >>> ((4 : Int32) &&& 31)) &&& (3 : Int32))) X51 hx (hb hby at_104) rfl rfl ?_
  refine Rt.iadd (pc' := 106) (r := ((f0_tab (f0_ix p2)) + ((p2 >>> ((4 : Int32) &&& 31)) &&& (3 : Int32)))) X51 hx (hb hby at_105) rfl rfl ?_
  refine Rt.iconst (pc' := 107) (v := (1 : Int32)) X51 hx (hb hby at_106) rfl rfl ?_
  refine Rt.isub (pc' := 108) (r := (((f0_tab (f0_ix p2)) + ((p2 >>> ((4 : Int32) &&& 31)) &&& (3 : Int32))) - (1 : Int32))) X51 hx (hb hby at_107) rfl rfl ?_
  refine Rt.istoreN (pc' := 109) (v := (f0_v108 p2)) (l' := #[.val (.int p1), .val (.int p2), .val (.ref b2), .val (.int (f0_v108 p2))]) X51 hx (hb hby at_108) rfl rfl ?_
  refine Rt.iloadN (pc' := 110) X51 hx (hb hby at_109) rfl rfl ?_
  refine Rt.callP (pc' := 113) (r := (.int (f1 p1))) X51 hx hZ (y := mt1) hown (hw _ (List.mem_of_getElem? (i := 11) rfl)) (hw _ (List.mem_of_getElem? (i := 12) rfl)) (hw _ (List.mem_of_getElem? (i := 13) rfl)) (hw _ (List.mem_of_getElem? (i := 14) rfl)) (by decide) (rm1 l Z a0 hw [] p1 h51 n0) (W := 0) (by decide) (by decide) (by decide) (by decide) rfl rfl (argsL := [(.int p1)]) (rest := []) (by rw [hml]; rfl) (lenOf pd_0 rfl) rfl rfl (Nat.le_of_eq rfl) (hb hby at_110) rfl ?_
  intro T54 X54
  refine Rt.iloadN (pc' := 114) X54 hx (hb hby at_113) rfl rfl ?_
  refine Rt.callP (pc' := 117) (r := (.int (f2 p1))) X54 hx hZ (y := mt2) hown (hw _ (List.mem_of_getElem? (i := 17) rfl)) (hw _ (List.mem_of_getElem? (i := 18) rfl)) (hw _ (List.mem_of_getElem? (i := 19) rfl)) (hw _ (List.mem_of_getElem? (i := 20) rfl)) (by decide) (rm2 l Z a0 hw [] p1 h51 n0) (W := 1) (by decide) (by decide) (by decide) (by decide) rfl rfl (argsL := [(.int p1)]) (rest := [(.int (f1 p1))]) (by rw [hml]; rfl) (lenOf pd_0 rfl) rfl rfl (Nat.le_of_eq rfl) (hb hby at_114) rfl ?_
  intro T55 X55
  by_cases hc117_56 : (f1 p1) = (f2 p1)
  · refine Rt.icmpN (pc' := 120) X55 hx (hb hby at_117) (teq hc117_56).2 rfl ?_
    refine Rt.iloadN (pc' := 121) X55 hx (hb hby at_120) rfl rfl ?_
    refine Rt.callP (pc' := 124) (r := (.int (f1 (f0_v108 p2)))) X55 hx hZ (y := mt1) hown (hw _ (List.mem_of_getElem? (i := 11) rfl)) (hw _ (List.mem_of_getElem? (i := 12) rfl)) (hw _ (List.mem_of_getElem? (i := 13) rfl)) (hw _ (List.mem_of_getElem? (i := 14) rfl)) (by decide) (rm1 l Z a0 hw [] (f0_v108 p2) h51 n0) (W := 0) (by decide) (by decide) (by decide) (by decide) rfl rfl (argsL := [(.int (f0_v108 p2))]) (rest := []) (by rw [hml]; rfl) (lenOf pd_0 rfl) rfl rfl (Nat.le_of_eq rfl) (hb hby at_121) rfl ?_
    intro T57 X57
    refine Rt.iloadN (pc' := 125) X57 hx (hb hby at_124) rfl rfl ?_
    refine Rt.callP (pc' := 128) (r := (.int (f2 (f0_v108 p2)))) X57 hx hZ (y := mt2) hown (hw _ (List.mem_of_getElem? (i := 17) rfl)) (hw _ (List.mem_of_getElem? (i := 18) rfl)) (hw _ (List.mem_of_getElem? (i := 19) rfl)) (hw _ (List.mem_of_getElem? (i := 20) rfl)) (by decide) (rm2 l Z a0 hw [] (f0_v108 p2) h51 n0) (W := 1) (by decide) (by decide) (by decide) (by decide) rfl rfl (argsL := [(.int (f0_v108 p2))]) (rest := [(.int (f1 (f0_v108 p2)))]) (by rw [hml]; rfl) (lenOf pd_0 rfl) rfl rfl (Nat.le_of_eq rfl) (hb hby at_125) rfl ?_
    intro T58 X58
    by_cases hc128_59 : (f1 (f0_v108 p2)) = (f2 (f0_v108 p2))
    · refine Rt.icmpN (pc' := 131) X58 hx (hb hby at_128) (teq hc128_59).2 rfl ?_
      refine Rt.iconst (pc' := 132) (v := (1 : Int32)) X58 hx (hb hby at_131) rfl rfl ?_
      refine Rt.goto (pc' := 136) X58 hx (hb hby at_132) (by decide) (by decide) ?_
      exact Rt.retZ (w := (1 : Int32)) X58 hx hlk hret (by simp) (hb hby at_136) (by decide) (by decide) (by decide) (fun L N => ⟨congrArg some (congrArg Value.int (by rw [f0, if_pos hc117_56, if_pos hc128_59])), N, K52⟩)
    · refine Rt.icmpY (pc' := 135) X58 hx (hb hby at_128) (feq hc128_59).2 (by decide) (by decide) ?_
      refine Rt.iconst (pc' := 136) (v := (0 : Int32)) X58 hx (hb hby at_135) rfl rfl ?_
      exact Rt.retZ (w := (0 : Int32)) X58 hx hlk hret (by simp) (hb hby at_136) (by decide) (by decide) (by decide) (fun L N => ⟨congrArg some (congrArg Value.int (by rw [f0, if_pos hc117_56, if_neg hc128_59])), N, K52⟩)
  · refine Rt.icmpY (pc' := 135) X55 hx (hb hby at_117) (feq hc117_56).2 (by decide) (by decide) ?_
    refine Rt.iconst (pc' := 136) (v := (0 : Int32)) X55 hx (hb hby at_135) rfl rfl ?_
    exact Rt.retZ (w := (0 : Int32)) X55 hx hlk hret (by simp) (hb hby at_136) (by decide) (by decide) (by decide) (fun L N => ⟨congrArg some (congrArg Value.int (by rw [f0, if_neg hc117_56])), N, K52⟩)
theorem own_eq (x : Int32) : f1 x = f2 x := by
  have l0 : (0 : Int32).toInt = 0 := by decide
  have l1 : (1 : Int32).toInt = 1 := by decide
  have l9 : (9 : Int32).toInt = 9 := by decide
  have l10 : (10 : Int32).toInt = 10 := by decide
  have l13 : (13 : Int32).toInt = 13 := by decide
  have l32 : (32 : Int32).toInt = 32 := by decide
  have l55295 : (55295 : Int32).toInt = 55295 := by decide
  have l55296 : (55296 : Int32).toInt = 55296 := by decide
  have l57343 : (57343 : Int32).toInt = 57343 := by decide
  have l57344 : (57344 : Int32).toInt = 57344 := by decide
  have l65533 : (65533 : Int32).toInt = 65533 := by decide
  have l65534 : (65534 : Int32).toInt = 65534 := by decide
  have l65535 : (65535 : Int32).toInt = 65535 := by decide
  have l65536 : (65536 : Int32).toInt = 65536 := by decide
  have l1114111 : (1114111 : Int32).toInt = 1114111 := by decide
  have e_f2_j15_s0 : (f2_j15_s0 x = 0) ↔ (x.toInt < 0 ∨ 1114111 < x.toInt) := by
    unfold f2_j15_s0
    simp only [Int32.lt_iff_toInt_lt, ← Int32.toInt_inj, l0, l1, l9, l10, l13, l32, l55295, l55296, l57343, l57344, l65533, l65534, l65535, l65536, l1114111]
    repeat' split
    all_goals first | (constructor <;> intro q <;> first | omega | (exact absurd q (by decide)) | rfl)
  have e_f2_j33_s0 : (f2_j33_s0 x = 0) ↔ (x.toInt < 55296 ∨ 57343 < x.toInt) := by
    unfold f2_j33_s0
    simp only [Int32.lt_iff_toInt_lt, ← Int32.toInt_inj, l0, l1, l9, l10, l13, l32, l55295, l55296, l57343, l57344, l65533, l65534, l65535, l65536, l1114111]
    repeat' split
    all_goals first | (constructor <;> intro q <;> first | omega | (exact absurd q (by decide)) | rfl)
  have e_f2_j51_s0 : (f2_j51_s0 x = 0) ↔ (x.toInt ≠ 65534 ∧ x.toInt ≠ 65535) := by
    unfold f2_j51_s0
    simp only [Int32.lt_iff_toInt_lt, ← Int32.toInt_inj, l0, l1, l9, l10, l13, l32, l55295, l55296, l57343, l57344, l65533, l65534, l65535, l65536, l1114111]
    repeat' split
    all_goals first | (constructor <;> intro q <;> first | omega | (exact absurd q (by decide)) | rfl)
  have e_f2_j81_s0 : (f2_j81_s0 x = 0) ↔ (¬ x.toInt < 32 ∨ x.toInt = 9 ∨ x.toInt = 10 ∨ x.toInt = 13) := by
    unfold f2_j81_s0
    simp only [Int32.lt_iff_toInt_lt, ← Int32.toInt_inj, l0, l1, l9, l10, l13, l32, l55295, l55296, l57343, l57344, l65533, l65534, l65535, l65536, l1114111]
    repeat' split
    all_goals first | (constructor <;> intro q <;> first | omega | (exact absurd q (by decide)) | rfl)
  unfold f1 f2
  simp only [e_f2_j15_s0, e_f2_j33_s0, e_f2_j51_s0, e_f2_j81_s0]
  simp only [Int32.lt_iff_toInt_lt, ← Int32.toInt_inj, l0, l1, l9, l10, l13, l32, l55295, l55296, l57343, l57344, l65533, l65534, l65535, l65536, l1114111]
  repeat' split
  all_goals first | rfl | omega
theorem own_law (c k : Int32) : f0 c k = 1 := by
  unfold f0
  rw [if_pos (own_eq _), if_pos (own_eq _)]
set_option maxRecDepth 65536 in
set_option maxHeartbeats 40000000 in
theorem comes_1 {Post : Tables → Env → Array Value → State → Outcome → State → Prop} (hpost : ∀ tb e args s v u, (limb_1_1.after args s (.returned v) u = true ∧ limb_1_2.after args s (.returned v) u = true ∧ True) → FrameEnd s (.returned v) u (Jvm.fieldLocs frame_1_writes args s ++ Jvm.arrayLocs frame_1_arrays args s ++ Jvm.staticLocs frame_1_statics s) 16 128 → Post tb e args s (.returned v) u) :
    ArmFor flags0 classFile x code maxLocals ret World_1 tables_1 room_1 Calls_1 rest_1 Pre_1 Post := by
  intro l hfl _ _ p e ha hc hk s m args below hf hA hF happ hP
  obtain ⟨hcalls, hrest, hpre⟩ := hP
  obtain ⟨-, -, -, hnamed, -, -, -, hat⟩ := (Spec.applies_iff hf).mp happ
  obtain ⟨hg, hn⟩ := and_e (Cond.before_iff.mp (show (Jvm.Cond.and given_1 narrow_1).before args s = true from hpre))
  obtain ⟨g1, g2⟩ := and_e hg
  obtain ⟨g3, g4⟩ := and_e g2
  obtain ⟨w0, w1, rfl⟩ : ∃ w0 w1 : Value, args = #[w0, w1] := by
    have hs : args.size = 2 := by simpa [Cond.value, given_1] using g1
    obtain ⟨L⟩ := args
    match L, hs with
    | [w0, w1], _ => exact ⟨w0, w1, rfl⟩
  have hw := fun d (hd : d ∈ tables_1) => atoms_spec (ws := Jvm.Cond.code x code maxLocals ret :: tables_1) hat d (List.mem_cons_of_mem _ hd)
  have hfit : Fit s := fun {y c} hc i hi => by
    obtain ⟨ha, rfl⟩ := Array.getElem?_eq_some_iff.mp hc
    have q := List.all_eq_true.mp ((Array.all_eq_true_iff_forall_mem.mp hF) _ (Array.getElem_mem ha)) i (List.mem_range.mpr hi)
    simpa [Array.getElem?_eq_getElem hi] using q
  obtain ⟨i0, ei0⟩ := is_v g3
  obtain rfl : w0 = (.int i0) := Option.some.inj ei0
  obtain ⟨i1, ei1⟩ := is_v g4
  obtain rfl : w1 = (.int i1) := Option.some.inj ei1
  obtain ⟨n, o, h1, h2, h3, _, L, rfl, ⟨rfl, N, -⟩, hq⟩ := rm0 l s _ hw tables_1 i0 i1 s.heap s.heap.size (Nat.le_refl _) p e ha hc hk s m _ below hf ((Spec.applies_iff_loose hf).mp happ).1 ⟨rfl, State.Warmed39.refl s, rfl⟩ trivial
  rw [own_law i0 i1] at *
  refine ⟨n, _, h1, h2, h3, hpost _ _ _ _ _ _ ⟨Cond.after_iff.mpr rfl, Cond.after_iff.mpr (eq_i res_at (Term.int_eval (1)) rfl), trivial⟩ ⟨hq.1, hq.2.1, (hq.2.2.sift fun y hy => Or.inr (N y hy)).mono (by decide) (by decide)⟩⟩
theorem main_1_1 : Claimed_1_1 := comes_1 fun _ _ _ _ _ _ h hF => ⟨h.1, hF⟩
theorem main_1_2 : Claimed_1_2 := comes_1 fun _ _ _ _ _ _ h hF => ⟨h.2.1, hF⟩
end Jvm.Pilot.@@N@@
namespace Jvm.Pilot.@@N@@
open Jvm Jvm.ClassFile Sem Op Lib Jvm.Free Jvm.Stand Jvm.Pilot.@@N@@.Jvm.D
/-! MADE BY PROGRAM (witnessworld.py) out of the Statement's table words and the real class files: 9 classes; the members and pool entries that the words name. The judged class is class 1, her method 2. -/
namespace start1
open Jvm.ClassFile
def u (s : String) : CpInfo := .utf8 (stringToUtf16 s)
/-- a pool by its gaps: so many unusable entries, then the entry; so many at the end -/
def gap : Nat → List CpInfo → List CpInfo
  | 0, r => r
  | n + 1, r => .unusable :: gap n r
def poolList (es : List (Nat × CpInfo)) (last : Nat) : List CpInfo := es.foldr (fun e r => gap e.1 (e.2 :: r)) (gap last [])
def pool (es : List (Nat × CpInfo)) (last : Nat) : Array CpInfo := ⟨poolList es last⟩
def fileOf (pool : Array CpInfo) (this : Nat) (attrs : Array Attribute := #[]) (ms : Array MethodInfo := #[]) (fl : Nat := 33) (sup : Nat := 0) (ifs : Array Nat := #[]) (fds : Array FieldInfo := #[]) : ClassFile where
  minorVersion := 0
  majorVersion := 65
  constantPool := pool
  accessFlags := fl
  thisClass := this
  superClass := sup
  interfaces := ifs
  fields := fds
  methods := ms
  attributes := attrs
def plain (name : String) (sup : Option ClassId) : Class where
  name := name
  kind := .ordinary
  loader := none
  accessFlags := 33
  super := sup
  interfaces := #[]
  cf := none
  fields := #[]
  methods := #[]
  instanceTypes := #[]
  staticTypes := #[]
  resolved := #[]
  callSites := []
  init := .initialized
  statics := none
  mirror := none

def pool0 : Array CpInfo := pool [(5, u "<init>"), (0, u "()V"), (1, .class_ 10), (1, u "java/lang/Object")] 113

def k0m0 : Method := { name := "<init>", desc := "()V", sig := { parameters := [], returnType := none }, accessFlags := 1, code := none }
/-- java/lang/Object -/
def k0 : Class := { plain "java/lang/Object" none with
  accessFlags := 33
  interfaces := #[]
  cf := some (fileOf pool0 8 #[] #[{ accessFlags := 1, nameIndex := 5, descriptorIndex := 6, attributes := #[] }] 33 0 #[] #[])
  fields := #[]
  methods := #[k0m0]
  instanceTypes := #[]
  staticTypes := #[]
  resolved := Array.replicate 124 none
  statics := none }

def pool1 : Array CpInfo := pool [(2, .class_ 4), (1, u "java/lang/Object"), (0, u "<init>"), (0, u "()V"), (0, .integer 1114111), (0, .integer 55296), (0, .integer 57343), (0, .integer 65534), (0, .integer 65535), (0, .integer 55295), (0, .integer 57344), (0, .integer 65533), (0, .integer 65536), (2, .integer 2147483649), (0, .integer 2147483645), (0, .methodref 21 22), (0, .class_ 23), (0, .nameAndType 24 25), (0, u "com/example/methodical_gateway/methodicalgateway/core/xml/XmlReader"), (0, u "isCharacter"), (0, u "(I)Z"), (0, .methodref 27 28), (0, .class_ 29), (0, .nameAndType 30 25), (0, u "com/example/methodical_gateway/methodicalgateway/core/xml/XmlReaderIsCharacterPinLaw"), (0, u "expected"), (3, u "law"), (0, u "(II)Z")] 4

def k1m0 : Method := { name := "<init>", desc := "()V", sig := { parameters := [], returnType := none }, accessFlags := 2, code := none }
def k1c1 : Code := { maxStack := 2, maxLocals := 5, code := method_2_code, exceptionTable := #[], attributes := #[] }
def k1m1 : Method := { name := "expected", desc := "(I)Z", sig := { parameters := [.int], returnType := some .boolean }, accessFlags := 10, code := some k1c1 }
def k1c2 : Code := { maxStack := 4, maxLocals := 4, code := code, exceptionTable := #[], attributes := #[] }
def k1m2 : Method := { name := "law", desc := "(II)Z", sig := { parameters := [.int, .int], returnType := some .boolean }, accessFlags := 9, code := some k1c2 }
/-- com/example/methodical_gateway/methodicalgateway/core/xml/XmlReaderIsCharacterPinLaw -/
def k1 : Class := { plain "com/example/methodical_gateway/methodicalgateway/core/xml/XmlReaderIsCharacterPinLaw" (some 0) with
  accessFlags := 49
  interfaces := #[]
  cf := some (fileOf pool1 27 #[] #[{ accessFlags := 2, nameIndex := 5, descriptorIndex := 6, attributes := #[] }, { accessFlags := 10, nameIndex := 30, descriptorIndex := 25, attributes := #[] }, { accessFlags := 9, nameIndex := 34, descriptorIndex := 35, attributes := #[] }] 49 2 #[] #[])
  fields := #[]
  methods := #[k1m0, k1m1, k1m2]
  instanceTypes := #[]
  staticTypes := #[]
  resolved := Array.replicate 40 none
  statics := none }

def pool2 : Array CpInfo := pool [(2, .class_ 4), (1, u "java/lang/Object"), (2, .class_ 8), (0, u "com/example/methodical_gateway/methodicalgateway/core/xml/XmlReader$Ahead"), (6, .class_ 17), (1, u "com/example/methodical_gateway/methodicalgateway/core/xml/XmlReader"), (0, u "ampersand"), (0, u "Lcom/example/methodical_gateway/methodicalgateway/core/xml/XmlReader$Ahead;"), (4, u "lineFeed"), (4, u "tab"), (4, u "carriageReturn"), (4, u "sectionEnd"), (5, u "open"), (0, u "Ljava/util/List;"), (2, u "openNames"), (2, u "texts"), (5, u "namespaceNumbers"), (0, u "Ljava/util/Map;"), (2, u "inScope"), (2, u "boundPrefixes"), (2, u "hiddenNumbers"), (2, u "scopes"), (2, u "tagNames"), (2, u "tagValues"), (5, u "seen"), (0, u "Ljava/util/Set;"), (2, u "document"), (0, u "Ljava/lang/String;"), (4, u "length"), (3, u "I"), (2, u "encoding"), (0, u "Ljava/nio/charset/Charset;"), (7, u "at"), (24, u "tabs"), (0, u "Z"), (2, u "returns"), (478, u "isCharacter"), (0, u "(I)Z"), (50, u "ASCII_NAME_START"), (0, u "[Z"), (2, u "ASCII_NAME_PART"), (11, .integer 55295), (3, .integer 65533), (0, .integer 65536), (7, .integer 57344), (0, .integer 1114111), (9, u "XML_NAMESPACE"), (1, u "XMLNS"), (0, u "XMLNS_NAMESPACE"), (0, u "DECLARATION_SCAN"), (1, u "MANY_ATTRIBUTES")] 98

def k2c0 : Code := { maxStack := 2, maxLocals := 1, code := prog_44_method_43_code, exceptionTable := #[], attributes := #[] }
def k2m0 : Method := { name := "isCharacter", desc := "(I)Z", sig := { parameters := [.int], returnType := some .boolean }, accessFlags := 8, code := some k2c0 }
/-- com/example/methodical_gateway/methodicalgateway/core/xml/XmlReader -/
def k2 : Class := { plain "com/example/methodical_gateway/methodicalgateway/core/xml/XmlReader" (some 0) with
  accessFlags := 48
  interfaces := #[]
  cf := some (fileOf pool2 15 #[.nestMembers #[7]] #[{ accessFlags := 8, nameIndex := 617, descriptorIndex := 618, attributes := #[] }] 48 2 #[] #[{ accessFlags := 26, nameIndex := 709, descriptorIndex := 88, attributes := #[] }, { accessFlags := 26, nameIndex := 711, descriptorIndex := 88, attributes := #[] }, { accessFlags := 26, nameIndex := 712, descriptorIndex := 88, attributes := #[] }, { accessFlags := 26, nameIndex := 713, descriptorIndex := 97, attributes := #[] }, { accessFlags := 26, nameIndex := 715, descriptorIndex := 97, attributes := #[] }, { accessFlags := 26, nameIndex := 669, descriptorIndex := 670, attributes := #[] }, { accessFlags := 26, nameIndex := 673, descriptorIndex := 670, attributes := #[] }, { accessFlags := 18, nameIndex := 87, descriptorIndex := 88, attributes := #[] }, { accessFlags := 18, nameIndex := 93, descriptorIndex := 97, attributes := #[] }, { accessFlags := 18, nameIndex := 100, descriptorIndex := 101, attributes := #[] }, { accessFlags := 18, nameIndex := 134, descriptorIndex := 135, attributes := #[] }, { accessFlags := 18, nameIndex := 138, descriptorIndex := 135, attributes := #[] }, { accessFlags := 2, nameIndex := 109, descriptorIndex := 97, attributes := #[] }, { accessFlags := 18, nameIndex := 18, descriptorIndex := 19, attributes := #[] }, { accessFlags := 18, nameIndex := 24, descriptorIndex := 19, attributes := #[] }, { accessFlags := 18, nameIndex := 29, descriptorIndex := 19, attributes := #[] }, { accessFlags := 18, nameIndex := 34, descriptorIndex := 19, attributes := #[] }, { accessFlags := 18, nameIndex := 39, descriptorIndex := 19, attributes := #[] }, { accessFlags := 18, nameIndex := 45, descriptorIndex := 46, attributes := #[] }, { accessFlags := 18, nameIndex := 49, descriptorIndex := 46, attributes := #[] }, { accessFlags := 18, nameIndex := 52, descriptorIndex := 46, attributes := #[] }, { accessFlags := 18, nameIndex := 58, descriptorIndex := 59, attributes := #[] }, { accessFlags := 18, nameIndex := 62, descriptorIndex := 59, attributes := #[] }, { accessFlags := 18, nameIndex := 65, descriptorIndex := 46, attributes := #[] }, { accessFlags := 18, nameIndex := 68, descriptorIndex := 46, attributes := #[] }, { accessFlags := 18, nameIndex := 71, descriptorIndex := 46, attributes := #[] }, { accessFlags := 18, nameIndex := 74, descriptorIndex := 46, attributes := #[] }, { accessFlags := 18, nameIndex := 77, descriptorIndex := 46, attributes := #[] }, { accessFlags := 18, nameIndex := 83, descriptorIndex := 84, attributes := #[] }])
  fields := #[{ name := "XML_NAMESPACE", type := (.object "java/lang/String"), accessFlags := 26, slot := 0, constantValue := 0 }, { name := "XMLNS", type := (.object "java/lang/String"), accessFlags := 26, slot := 1, constantValue := 0 }, { name := "XMLNS_NAMESPACE", type := (.object "java/lang/String"), accessFlags := 26, slot := 2, constantValue := 0 }, { name := "DECLARATION_SCAN", type := .int, accessFlags := 26, slot := 3, constantValue := 0 }, { name := "MANY_ATTRIBUTES", type := .int, accessFlags := 26, slot := 4, constantValue := 0 }, { name := "ASCII_NAME_START", type := (.array .boolean), accessFlags := 26, slot := 5, constantValue := 0 }, { name := "ASCII_NAME_PART", type := (.array .boolean), accessFlags := 26, slot := 6, constantValue := 0 }, { name := "document", type := (.object "java/lang/String"), accessFlags := 18, slot := 0, constantValue := 0 }, { name := "length", type := .int, accessFlags := 18, slot := 1, constantValue := 0 }, { name := "encoding", type := (.object "java/nio/charset/Charset"), accessFlags := 18, slot := 2, constantValue := 0 }, { name := "tabs", type := .boolean, accessFlags := 18, slot := 3, constantValue := 0 }, { name := "returns", type := .boolean, accessFlags := 18, slot := 4, constantValue := 0 }, { name := "at", type := .int, accessFlags := 2, slot := 5, constantValue := 0 }, { name := "ampersand", type := (.object "com/example/methodical_gateway/methodicalgateway/core/xml/XmlReader$Ahead"), accessFlags := 18, slot := 6, constantValue := 0 }, { name := "lineFeed", type := (.object "com/example/methodical_gateway/methodicalgateway/core/xml/XmlReader$Ahead"), accessFlags := 18, slot := 7, constantValue := 0 }, { name := "tab", type := (.object "com/example/methodical_gateway/methodicalgateway/core/xml/XmlReader$Ahead"), accessFlags := 18, slot := 8, constantValue := 0 }, { name := "carriageReturn", type := (.object "com/example/methodical_gateway/methodicalgateway/core/xml/XmlReader$Ahead"), accessFlags := 18, slot := 9, constantValue := 0 }, { name := "sectionEnd", type := (.object "com/example/methodical_gateway/methodicalgateway/core/xml/XmlReader$Ahead"), accessFlags := 18, slot := 10, constantValue := 0 }, { name := "open", type := (.object "java/util/List"), accessFlags := 18, slot := 11, constantValue := 0 }, { name := "openNames", type := (.object "java/util/List"), accessFlags := 18, slot := 12, constantValue := 0 }, { name := "texts", type := (.object "java/util/List"), accessFlags := 18, slot := 13, constantValue := 0 }, { name := "namespaceNumbers", type := (.object "java/util/Map"), accessFlags := 18, slot := 14, constantValue := 0 }, { name := "inScope", type := (.object "java/util/Map"), accessFlags := 18, slot := 15, constantValue := 0 }, { name := "boundPrefixes", type := (.object "java/util/List"), accessFlags := 18, slot := 16, constantValue := 0 }, { name := "hiddenNumbers", type := (.object "java/util/List"), accessFlags := 18, slot := 17, constantValue := 0 }, { name := "scopes", type := (.object "java/util/List"), accessFlags := 18, slot := 18, constantValue := 0 }, { name := "tagNames", type := (.object "java/util/List"), accessFlags := 18, slot := 19, constantValue := 0 }, { name := "tagValues", type := (.object "java/util/List"), accessFlags := 18, slot := 20, constantValue := 0 }, { name := "seen", type := (.object "java/util/Set"), accessFlags := 18, slot := 21, constantValue := 0 }]
  methods := #[k2m0]
  instanceTypes := #[(.object "java/lang/String"), .int, (.object "java/nio/charset/Charset"), .boolean, .boolean, .int, (.object "com/example/methodical_gateway/methodicalgateway/core/xml/XmlReader$Ahead"), (.object "com/example/methodical_gateway/methodicalgateway/core/xml/XmlReader$Ahead"), (.object "com/example/methodical_gateway/methodicalgateway/core/xml/XmlReader$Ahead"), (.object "com/example/methodical_gateway/methodicalgateway/core/xml/XmlReader$Ahead"), (.object "com/example/methodical_gateway/methodicalgateway/core/xml/XmlReader$Ahead"), (.object "java/util/List"), (.object "java/util/List"), (.object "java/util/List"), (.object "java/util/Map"), (.object "java/util/Map"), (.object "java/util/List"), (.object "java/util/List"), (.object "java/util/List"), (.object "java/util/List"), (.object "java/util/List"), (.object "java/util/Set")]
  staticTypes := #[(.object "java/lang/String"), (.object "java/lang/String"), (.object "java/lang/String"), .int, .int, (.array .boolean), (.array .boolean)]
  resolved := Array.replicate 814 none
  statics := none }

def pool3 : Array CpInfo := pool [(1, u "java/lang/Cloneable"), (0, .class_ 1), (0, u "java/lang/Object"), (0, .class_ 3)] 3

/-- java/lang/Cloneable -/
def k3 : Class := { plain "java/lang/Cloneable" (some 0) with
  accessFlags := 1537
  interfaces := #[]
  cf := some (fileOf pool3 2 #[] #[] 1537 4 #[] #[])
  fields := #[]
  methods := #[]
  instanceTypes := #[]
  staticTypes := #[]
  resolved := Array.replicate 8 none
  statics := none }

def pool4 : Array CpInfo := pool [(1, u "java/io/Serializable"), (0, .class_ 1), (0, u "java/lang/Object"), (0, .class_ 3)] 3

/-- java/io/Serializable -/
def k4 : Class := { plain "java/io/Serializable" (some 0) with
  accessFlags := 1537
  interfaces := #[]
  cf := some (fileOf pool4 2 #[] #[] 1537 4 #[] #[])
  fields := #[]
  methods := #[]
  instanceTypes := #[]
  staticTypes := #[]
  resolved := Array.replicate 8 none
  statics := none }

/-- the primitive byte -/
def k5 : Class := { plain "byte" none with kind := .primitive 'B', accessFlags := 0x411 }
/-- [B -/
def k6 : Class := { plain "[B" (some 0) with kind := .array 5 .byte, interfaces := #[3, 4], accessFlags := 1041 }

/-- the primitive int -/
def k7 : Class := { plain "int" none with kind := .primitive 'I', accessFlags := 0x411 }
/-- [I -/
def k8 : Class := { plain "[I" (some 0) with kind := .array 7 .int, interfaces := #[3, 4], accessFlags := 1041 }

def heap : Heap := #[]
def classes : Array Class := #[k0, k1, k2, k3, k4, k5, k6, k7, k8]
def interned : List (Array UInt16 × Addr) := []
def slotsUsed : Nat := 0
def theMethod : MethodId := ⟨1, 2⟩
def args0 : Array Value := #[.int 5, .int 7]
def aboutOver (below : List Frame) : State where
  vm := { classes := classes, interned := interned.toArray }
  heap := heap
  slotsUsed := slotsUsed
  threads := #[{ frames := .invoking theMethod args0 :: below }]
def below0 : List Frame := [.native { method := ⟨0, 0⟩, args := #[] }]
def about1 : State := aboutOver below0
def p0 : Program := .bare "" "" ""
def e0 : Env := launch0.env 0 0 0
theorem w_frames : about1.frames = Frame.invoking theMethod args0 :: below0 := rfl
set_option maxRecDepth 65536 in
theorem w_args : argsFit about1.vm theMethod args0 = true := by decide +kernel
set_option maxRecDepth 65536 in
theorem w_heap : heapFits about1 = true := by decide +kernel
set_option maxRecDepth 65536 in
theorem w_runnable : about1.curStatus? = some .runnable := by decide +kernel
set_option maxRecDepth 65536 in
theorem w_alone : about1.alone = true := by decide +kernel
set_option maxRecDepth 65536 in
theorem w_named : about1.methodNamed? x = some theMethod := by decide +kernel
set_option maxRecDepth 65536 in
theorem w_hears : about1.hears theMethod below0 = true := by decide +kernel
set_option maxRecDepth 65536 in
theorem w_ripe : about1.ripe theMethod args0 below0 = true := by decide +kernel
theorem w_running : about1.status = .running := rfl
set_option maxRecDepth 65536 in
theorem w_room : about1.hasRoom e0.platform room_1 = true :=
  launch0.hasRoom_least _ room_1 (by decide +kernel) (by decide +kernel) (by decide +kernel) (by decide +kernel) (by decide +kernel) (by decide +kernel)
theorem allAtoms_all (ts : List Jvm.Cond) (a : Array Jvm.Value) (st : Jvm.State) : (allAtoms ts).before a st = ts.all (fun c => c.before a st) := by
  induction ts with
  | nil => rfl
  | cons c t ih =>
    show (Jvm.Cond.and c (allAtoms t)).before a st = _
    rw [Jvm.Cond.before_and, ih, List.all_cons]
def words1 : List Jvm.Cond := Jvm.Cond.code x code maxLocals ret :: tables_1
/-- a 'code' word, met by the world's own term for the bytes: nothing is compared byte by byte -/
theorem code_word {y : MethodName} {bytes : ByteArray} {mx : Nat} {rt : Option FieldType} {a : Array Value} {s : State} {m : MethodId} {meth : Method} {c : Code} (h1 : s.methodNamed? y = some m) (h2 : s.vm.method? m = some meth) (h3 : meth.code = some c) (h4 : c.code = bytes)
    (h5 : (c.maxLocals == mx && c.exceptionTable.isEmpty && decide (c.maxStack ≤ mostOperands) && decide (meth.sig.returnType = rt) && !meth.locks && decide (parseMethodDescriptor y.desc = some meth.sig)) = true) : (Jvm.Cond.code y bytes mx rt).before a s = true := by
  simp only [Bool.and_eq_true, beq_iff_eq, Bool.not_eq_true', decide_eq_true_eq] at h5
  obtain ⟨⟨⟨⟨⟨g1, g2⟩, g3⟩, g4⟩, g5⟩, g6⟩ := h5
  simp [Cond.before, Cond.holds, Cond.value, h1, h2, h3, h4, g1, g2, g3, g4, g5, g6]
def isCode : Jvm.Cond → Bool
  | .code _ _ _ _ => true
  | _ => false
theorem all_split {L : List Jvm.Cond} {P : Jvm.Cond → Bool} (h1 : L.all (fun c => isCode c || P c) = true) (h2 : ∀ c ∈ L.filter isCode, P c = true) : L.all P = true := by
  refine List.all_eq_true.mpr fun c hc => ?_
  have h := List.all_eq_true.mp h1 c hc
  rcases Bool.eq_false_or_eq_true (isCode c) with hi | hi
  · exact h2 c (List.mem_filter.mpr ⟨hc, hi⟩)
  · simpa [hi] using h
set_option maxRecDepth 65536 in
theorem w_c0 : (Jvm.Cond.code x code maxLocals ret).before args0 about1 = true := code_word (m := ⟨1, 2⟩) (meth := k1m2) (c := k1c2) (by decide +kernel) rfl rfl rfl (by decide +kernel)
set_option maxRecDepth 65536 in
theorem w_c1 : (Jvm.Cond.code ({ cls := "com/example/methodical_gateway/methodicalgateway/core/xml/XmlReader", name := "isCharacter", desc := "(I)Z" } : Jvm.MethodName) prog_44_method_43_code (1 : Nat) (Option.some Jvm.ClassFile.FieldType.boolean)).before args0 about1 = true := code_word (m := ⟨2, 0⟩) (meth := k2m0) (c := k2c0) (by decide +kernel) rfl rfl rfl (by decide +kernel)
set_option maxRecDepth 65536 in
theorem w_c2 : (Jvm.Cond.code ({ cls := "com/example/methodical_gateway/methodicalgateway/core/xml/XmlReaderIsCharacterPinLaw", name := "expected", desc := "(I)Z" } : Jvm.MethodName) method_2_code (5 : Nat) (Option.some Jvm.ClassFile.FieldType.boolean)).before args0 about1 = true := code_word (m := ⟨1, 1⟩) (meth := k1m1) (c := k1c1) (by decide +kernel) rfl rfl rfl (by decide +kernel)
def codes1 : List Jvm.Cond := [Jvm.Cond.code x code maxLocals ret, Jvm.Cond.code ({ cls := "com/example/methodical_gateway/methodicalgateway/core/xml/XmlReader", name := "isCharacter", desc := "(I)Z" } : Jvm.MethodName) prog_44_method_43_code (1 : Nat) (Option.some Jvm.ClassFile.FieldType.boolean), Jvm.Cond.code ({ cls := "com/example/methodical_gateway/methodicalgateway/core/xml/XmlReaderIsCharacterPinLaw", name := "expected", desc := "(I)Z" } : Jvm.MethodName) method_2_code (5 : Nat) (Option.some Jvm.ClassFile.FieldType.boolean)]
set_option maxRecDepth 65536 in
theorem codes_eq : words1.filter isCode = codes1 := rfl
theorem w_codes : ∀ c ∈ words1.filter isCode, c.before args0 about1 = true := by
  rw [codes_eq]
  intro c hc
  simp only [codes1, List.mem_cons, List.not_mem_nil, or_false] at hc
  rcases hc with rfl | rfl | rfl
  · exact w_c0
  · exact w_c1
  · exact w_c2
set_option maxRecDepth 65536 in
theorem w_t1 : (words1.take 24).all (fun c => isCode c || c.before args0 about1) = true := by decide +kernel
set_option maxRecDepth 65536 in
theorem w_t2 : (words1.drop 24).all (fun c => isCode c || c.before args0 about1) = true := by decide +kernel
theorem w_tables : (allAtoms (Jvm.Cond.code x code maxLocals ret :: tables_1)).before args0 about1 = true := by
  rw [allAtoms_all]
  show words1.all (fun c => c.before args0 about1) = true
  refine all_split ?_ w_codes
  rw [← List.take_append_drop 24 words1, List.all_append, w_t1, w_t2]
  rfl
set_option maxRecDepth 65536 in
theorem w_case : (Jvm.Cond.and given_1 narrow_1).before args0 about1 = true := by decide +kernel
theorem w_applies : (headSpec (Jvm.Cond.code x code maxLocals ret :: tables_1) room_1).applies x e0.platform about1 = true :=
  (Spec.applies_iff w_frames).mpr ⟨w_running, w_runnable, w_alone, w_named, w_hears, w_ripe, w_room, w_tables⟩
theorem atStart : AtStart classFile x code maxLocals ret World_1 tables_1 room_1 Calls_1 rest_1 Pre_1 launch0 p0 e0 about1 theMethod args0 below0 :=
  ⟨lists_1, trivial, launch0.admits_env _ _ _, launch0.least_env, fairChoices_fair.cas, fairChoices_fair.clock, w_frames, w_args, w_heap, w_applies, trivial, trivial, w_case⟩
end start1
theorem witness_1 : WitnessClaimed_1 := ⟨start1.p0, start1.e0, start1.about1, start1.theMethod, start1.args0, start1.below0, start1.atStart⟩
end Jvm.Pilot.@@N@@
