import JvmDerived
import JvmDerived.Pilot.@@N@@Statement
import JvmDerived.Pilot.@@N@@Code
set_option linter.unusedVariables false
set_option linter.unusedSimpArgs false
namespace Jvm.RoadKit
open Sem ClassFile Op Lib Jvm.Stand Jvm.Free Jvm.LawKit
section New
variable {p : Program} {l : Launch} {e : Env} {R : Room} {s : State} {m : MethodId} {args : Array Value} {below : List Frame} {meth : Method} {c : Code} {T : State} {locs : List Loc} {cells slots : Nat}
theorem retI (X : Stand p l e R s m args below meth c T locs cells slots) (hx : p.tables.exec = Jvm.exec) {pc : Nat} {Ls : Array Slot} {z : Int32} {rest : List Value} (hret : meth.sig.returnType = some .int) (hd : decode c.code pc = .ok (.ireturn, 1)) {fs : List Frame}
    (hl : ∀ (f : JFrame) (acts : List Action), f.method = m → f.locked = none → f.entered = [] → (doReturn e (T.setTop f) acts (some (.int z))).1 = T.setFrames fs) : Steps p.tables e below (T.setTop (mkF m pc Ls (.int z :: rest))) (T.setFrames fs) := by
  have hm' : T.vm.method? m = some meth := X.method'
  have hn : narrow .int (.int z) = .int z := rfl
  show Steps p.tables e below (T.setTop { method := m, pc := pc, locals := Ls, stack := _ :: rest, locked := none }) _
  jvm_step X.here [X.here.top, hx, hd, hm', hret, hn]
  first | (intro acts; rw [hl _ acts rfl rfl rfl]) | rw [hl _ _ rfl rfl rfl]
  exact Steps.refl _
theorem retA (X : Stand p l e R s m args below meth c T locs cells slots) (hx : p.tables.exec = Jvm.exec) {pc : Nat} {Ls : Array Slot} {v : Value} {t : FieldType} (ht : t.isReference = true) (hv : v.isRef = true) (hret : meth.sig.returnType = some t) (hd : decode c.code pc = .ok (.areturn, 1)) {fs : List Frame}
    (hl : ∀ (f : JFrame) (acts : List Action), f.method = m → f.locked = none → f.entered = [] → (doReturn e (T.setTop f) acts (some v)).1 = T.setFrames fs) : Steps p.tables e below (T.setTop (mkF m pc Ls [v])) (T.setFrames fs) := by
  have hm' : T.vm.method? m = some meth := X.method'
  show Steps p.tables e below (T.setTop { method := m, pc := pc, locals := Ls, stack := [v], locked := none }) _
  jvm_step X.here [X.here.top, hx, hd, hm', hret, hv, ht]
  first | (intro acts; rw [hl _ acts rfl rfl rfl]) | rw [hl _ _ rfl rfl rfl]
  exact Steps.refl _
end New
end Jvm.RoadKit
namespace Jvm.Pilot.@@N@@
open Jvm Jvm.ClassFile Sem Op Lib Jvm.Free Jvm.Stand Jvm.LawKit Jvm.RoadKit Bundle Jvm.Pilot.@@N@@.Jvm.D
/-- from A the invocation comes to its end: it returns some v, P holds of v, of the heap and of the places written, and the frame is kept -/
def Rt (p : Program) (e : Env) (below : List Frame) (s : State) (k n : Nat) (P : Option Value → Heap → List Loc → Prop) (A : State) : Prop :=
  ∃ s₂ o, Steps p.tables e below A s₂ ∧ s₂.status = .running ∧ Ended s₂ below o ∧ ∃ v L, o = .returned v ∧ P v s₂.heap L ∧ FrameEnd s o s₂ L k n
/-- where the walk stands: its heap, and that all it wrote lies at n0 or above -/
def Sd (p : Program) (l : Launch) (e : Env) (R : Room) (s : State) (m : MethodId) (args : Array Value) (below : List Frame) (meth : Method) (c : Code) (T : State) (n0 cells slots : Nat) (h : Heap) : Prop :=
  ∃ locs, Stand p l e R s m args below meth c T locs cells slots ∧ Fr n0 locs ∧ T.heap = h
def lcv (j : Fin 2) : Int64 := Int64.ofNat j.val
section Own
variable {p : Program} {l : Launch} {e : Env} {R : Room} {s : State} {m : MethodId} {args : Array Value} {below : List Frame} {meth : Method} {c : Code} {T : State} {n0 cells slots : Nat} {h0 : Heap} {k n : Nat} {P : Option Value → Heap → List Loc → Prop}
theorem Rt.go {A B : State} (f : ∀ t, Steps p.tables e below B t → Steps p.tables e below A t) (h : Rt p e below s k n P B) : Rt p e below s k n P A := by
  obtain ⟨s₂, o, h1, h2⟩ := h
  exact ⟨s₂, o, f _ h1, h2⟩
theorem Rt.mono {Q : Option Value → Heap → List Loc → Prop} {A : State} (h : Rt p e below s k n Q A) (q : ∀ v h L, Q v h L → P v h L) : Rt p e below s k n P A := by
  obtain ⟨s₂, o, h1, h2, h3, v, L, h4, h5, h6⟩ := h
  exact ⟨s₂, o, h1, h2, h3, v, L, h4, q _ _ _ h5, h6⟩
theorem Rt.iloadN (X : Sd p l e R s m args below meth c T n0 cells slots h0) (hx : p.tables.exec = Jvm.exec) {pc pc' : Nat} {Ls : Array Slot} {S : List Value} {j : Fin 4} {v : Int32} (hd : decode c.code pc = .ok (.iload_n j, 1)) (hl : Ls[j.val]? = some (.val (.int v))) (hp : pc + 1 = pc')
    (h : Rt p e below s k n P (T.setTop (mkF m pc' Ls (.int v :: S)))) : Rt p e below s k n P (T.setTop (mkF m pc Ls (S))) := by
  subst hp; obtain ⟨_, X, _, _⟩ := X; exact Rt.go (fun _ => XS.iloadN X.here hx rfl hd hl) h
theorem Rt.iload (X : Sd p l e R s m args below meth c T n0 cells slots h0) (hx : p.tables.exec = Jvm.exec) {pc pc' : Nat} {Ls : Array Slot} {S : List Value} {j : Nat} {v : Int32} (hd : decode c.code pc = .ok (.iload j, 2)) (hl : Ls[j]? = some (.val (.int v))) (hp : pc + 2 = pc')
    (h : Rt p e below s k n P (T.setTop (mkF m pc' Ls (.int v :: S)))) : Rt p e below s k n P (T.setTop (mkF m pc Ls (S))) := by
  subst hp; obtain ⟨_, X, _, _⟩ := X; exact Rt.go (fun _ => XS.iload X.here hx rfl hd hl) h
theorem Rt.istoreN (X : Sd p l e R s m args below meth c T n0 cells slots h0) (hx : p.tables.exec = Jvm.exec) {pc pc' : Nat} {Ls : Array Slot} {S : List Value} {j : Fin 4} {v : Int32} {l' : Array Slot} (hd : decode c.code pc = .ok (.istore_n j, 1)) (hl : storeLocals Ls j.val (.int v) = some l') (hp : pc + 1 = pc')
    (h : Rt p e below s k n P (T.setTop (mkF m pc' l' (S)))) : Rt p e below s k n P (T.setTop (mkF m pc Ls (.int v :: S))) := by
  subst hp; obtain ⟨_, X, _, _⟩ := X; exact Rt.go (fun _ => XS.istoreN X.here hx rfl hd rfl hl) h
theorem Rt.istore (X : Sd p l e R s m args below meth c T n0 cells slots h0) (hx : p.tables.exec = Jvm.exec) {pc pc' : Nat} {Ls : Array Slot} {S : List Value} {j : Nat} {v : Int32} {l' : Array Slot} (hd : decode c.code pc = .ok (.istore j, 2)) (hl : storeLocals Ls j (.int v) = some l') (hp : pc + 2 = pc')
    (h : Rt p e below s k n P (T.setTop (mkF m pc' l' (S)))) : Rt p e below s k n P (T.setTop (mkF m pc Ls (.int v :: S))) := by
  subst hp; obtain ⟨_, X, _, _⟩ := X; exact Rt.go (fun _ => XS.istore X.here hx rfl hd rfl hl) h
theorem Rt.lloadN (X : Sd p l e R s m args below meth c T n0 cells slots h0) (hx : p.tables.exec = Jvm.exec) {pc pc' : Nat} {Ls : Array Slot} {S : List Value} {j : Fin 4} {v : Int64} (hd : decode c.code pc = .ok (.lload_n j, 1)) (hl : Ls[j.val]? = some (.val (.long v))) (hp : pc + 1 = pc')
    (h : Rt p e below s k n P (T.setTop (mkF m pc' Ls (.long v :: S)))) : Rt p e below s k n P (T.setTop (mkF m pc Ls (S))) := by
  subst hp; obtain ⟨_, X, _, _⟩ := X; exact Rt.go (fun _ => XS.lloadN X.here hx rfl hd hl) h
theorem Rt.lload (X : Sd p l e R s m args below meth c T n0 cells slots h0) (hx : p.tables.exec = Jvm.exec) {pc pc' : Nat} {Ls : Array Slot} {S : List Value} {j : Nat} {v : Int64} (hd : decode c.code pc = .ok (.lload j, 2)) (hl : Ls[j]? = some (.val (.long v))) (hp : pc + 2 = pc')
    (h : Rt p e below s k n P (T.setTop (mkF m pc' Ls (.long v :: S)))) : Rt p e below s k n P (T.setTop (mkF m pc Ls (S))) := by
  subst hp; obtain ⟨_, X, _, _⟩ := X; exact Rt.go (fun _ => XS.lload X.here hx rfl hd hl) h
theorem Rt.lstoreN (X : Sd p l e R s m args below meth c T n0 cells slots h0) (hx : p.tables.exec = Jvm.exec) {pc pc' : Nat} {Ls : Array Slot} {S : List Value} {j : Fin 4} {v : Int64} {l' : Array Slot} (hd : decode c.code pc = .ok (.lstore_n j, 1)) (hl : storeLocals Ls j.val (.long v) = some l') (hp : pc + 1 = pc')
    (h : Rt p e below s k n P (T.setTop (mkF m pc' l' (S)))) : Rt p e below s k n P (T.setTop (mkF m pc Ls (.long v :: S))) := by
  subst hp; obtain ⟨_, X, _, _⟩ := X; exact Rt.go (fun _ => XS.lstoreN X.here hx rfl hd rfl hl) h
theorem Rt.lstore (X : Sd p l e R s m args below meth c T n0 cells slots h0) (hx : p.tables.exec = Jvm.exec) {pc pc' : Nat} {Ls : Array Slot} {S : List Value} {j : Nat} {v : Int64} {l' : Array Slot} (hd : decode c.code pc = .ok (.lstore j, 2)) (hl : storeLocals Ls j (.long v) = some l') (hp : pc + 2 = pc')
    (h : Rt p e below s k n P (T.setTop (mkF m pc' l' (S)))) : Rt p e below s k n P (T.setTop (mkF m pc Ls (.long v :: S))) := by
  subst hp; obtain ⟨_, X, _, _⟩ := X; exact Rt.go (fun _ => XS.lstore X.here hx rfl hd rfl hl) h
theorem Rt.aloadN (X : Sd p l e R s m args below meth c T n0 cells slots h0) (hx : p.tables.exec = Jvm.exec) {pc pc' : Nat} {Ls : Array Slot} {S : List Value} {j : Fin 4} {v : Value} (hd : decode c.code pc = .ok (.aload_n j, 1)) (hl : Ls[j.val]? = some (.val v)) (hv : v.isRef = true) (hp : pc + 1 = pc')
    (h : Rt p e below s k n P (T.setTop (mkF m pc' Ls (v :: S)))) : Rt p e below s k n P (T.setTop (mkF m pc Ls (S))) := by
  subst hp; obtain ⟨_, X, _, _⟩ := X; exact Rt.go (fun _ => XS.aloadN X.here hx rfl hd hl hv) h
theorem Rt.aload (X : Sd p l e R s m args below meth c T n0 cells slots h0) (hx : p.tables.exec = Jvm.exec) {pc pc' : Nat} {Ls : Array Slot} {S : List Value} {j : Nat} {v : Value} (hd : decode c.code pc = .ok (.aload j, 2)) (hl : Ls[j]? = some (.val v)) (hv : v.isRef = true) (hp : pc + 2 = pc')
    (h : Rt p e below s k n P (T.setTop (mkF m pc' Ls (v :: S)))) : Rt p e below s k n P (T.setTop (mkF m pc Ls (S))) := by
  subst hp; obtain ⟨_, X, _, _⟩ := X; exact Rt.go (fun _ => XS.aload X.here hx rfl hd hl hv) h
theorem Rt.astoreN (X : Sd p l e R s m args below meth c T n0 cells slots h0) (hx : p.tables.exec = Jvm.exec) {pc pc' : Nat} {Ls : Array Slot} {S : List Value} {j : Fin 4} {v : Value} {l' : Array Slot} (hd : decode c.code pc = .ok (.astore_n j, 1)) (hv : v.isRef = true) (hl : storeLocals Ls j.val v = some l') (hp : pc + 1 = pc')
    (h : Rt p e below s k n P (T.setTop (mkF m pc' l' (S)))) : Rt p e below s k n P (T.setTop (mkF m pc Ls (v :: S))) := by
  subst hp; obtain ⟨_, X, _, _⟩ := X; exact Rt.go (fun _ => XS.astoreN X.here hx rfl hd rfl hv hl) h
theorem Rt.astore (X : Sd p l e R s m args below meth c T n0 cells slots h0) (hx : p.tables.exec = Jvm.exec) {pc pc' : Nat} {Ls : Array Slot} {S : List Value} {j : Nat} {v : Value} {l' : Array Slot} (hd : decode c.code pc = .ok (.astore j, 2)) (hv : v.isRef = true) (hl : storeLocals Ls j v = some l') (hp : pc + 2 = pc')
    (h : Rt p e below s k n P (T.setTop (mkF m pc' l' (S)))) : Rt p e below s k n P (T.setTop (mkF m pc Ls (v :: S))) := by
  subst hp; obtain ⟨_, X, _, _⟩ := X; exact Rt.go (fun _ => XS.astore X.here hx rfl hd rfl hv hl) h
theorem Rt.iconst (X : Sd p l e R s m args below meth c T n0 cells slots h0) (hx : p.tables.exec = Jvm.exec) {pc pc' : Nat} {Ls : Array Slot} {S : List Value} {i : Int} {v : Int32} (hd : decode c.code pc = .ok (.iconst i, 1)) (hv : Int32.ofInt i = v) (hp : pc + 1 = pc')
    (h : Rt p e below s k n P (T.setTop (mkF m pc' Ls (.int v :: S)))) : Rt p e below s k n P (T.setTop (mkF m pc Ls S)) := by
  subst hp hv; obtain ⟨_, X, _, _⟩ := X; exact Rt.go (fun _ => XS.iconst X.here hx rfl hd) h
theorem Rt.bipush (X : Sd p l e R s m args below meth c T n0 cells slots h0) (hx : p.tables.exec = Jvm.exec) {pc pc' : Nat} {Ls : Array Slot} {S : List Value} {i : Int} {v : Int32} (hd : decode c.code pc = .ok (.bipush i, 2)) (hv : (Int8.ofInt i).toInt32 = v) (hp : pc + 2 = pc')
    (h : Rt p e below s k n P (T.setTop (mkF m pc' Ls (.int v :: S)))) : Rt p e below s k n P (T.setTop (mkF m pc Ls S)) := by
  subst hp hv; obtain ⟨_, X, _, _⟩ := X; exact Rt.go (fun _ => XS.bipush X.here hx rfl hd) h
theorem Rt.sipush (X : Sd p l e R s m args below meth c T n0 cells slots h0) (hx : p.tables.exec = Jvm.exec) {pc pc' : Nat} {Ls : Array Slot} {S : List Value} {i : Int} {v : Int32} (hd : decode c.code pc = .ok (.sipush i, 3)) (hv : (Int16.ofInt i).toInt32 = v) (hp : pc + 3 = pc')
    (h : Rt p e below s k n P (T.setTop (mkF m pc' Ls (.int v :: S)))) : Rt p e below s k n P (T.setTop (mkF m pc Ls S)) := by
  subst hp hv; obtain ⟨_, X, _, _⟩ := X; exact Rt.go (fun _ => XS.sipush X.here hx rfl hd) h
theorem Rt.lconst (X : Sd p l e R s m args below meth c T n0 cells slots h0) (hx : p.tables.exec = Jvm.exec) {pc pc' : Nat} {Ls : Array Slot} {S : List Value} {i : Fin 2} {v : Int64} (hd : decode c.code pc = .ok (.lconst i, 1)) (hv : lcv i = v) (hp : pc + 1 = pc')
    (h : Rt p e below s k n P (T.setTop (mkF m pc' Ls (.long v :: S)))) : Rt p e below s k n P (T.setTop (mkF m pc Ls S)) := by
  subst hp hv; obtain ⟨_, X, _, _⟩ := X; exact Rt.go (fun _ => XS.lconst X.here hx rfl hd) h
theorem Rt.aconstNull (X : Sd p l e R s m args below meth c T n0 cells slots h0) (hx : p.tables.exec = Jvm.exec) {pc pc' : Nat} {Ls : Array Slot} {S : List Value}  (hd : decode c.code pc = .ok (.aconst_null, 1)) (hp : pc + 1 = pc')
    (h : Rt p e below s k n P (T.setTop (mkF m pc' Ls (.null :: S)))) : Rt p e below s k n P (T.setTop (mkF m pc Ls (S))) := by
  subst hp; obtain ⟨_, X, _, _⟩ := X; exact Rt.go (fun _ => XS.aconstNull X.here hx rfl hd ) h
theorem Rt.iadd (X : Sd p l e R s m args below meth c T n0 cells slots h0) (hx : p.tables.exec = Jvm.exec) {pc pc' : Nat} {Ls : Array Slot} {S : List Value} {x y r : Int32} (hd : decode c.code pc = .ok (.iadd, 1)) (hr : x + y = r) (hp : pc + 1 = pc')
    (h : Rt p e below s k n P (T.setTop (mkF m pc' Ls (.int r :: S)))) : Rt p e below s k n P (T.setTop (mkF m pc Ls (.int y :: .int x :: S))) := by
  subst hp hr; obtain ⟨_, X, _, _⟩ := X; exact Rt.go (fun _ => XS.iadd X.here hx rfl hd rfl) h
theorem Rt.isub (X : Sd p l e R s m args below meth c T n0 cells slots h0) (hx : p.tables.exec = Jvm.exec) {pc pc' : Nat} {Ls : Array Slot} {S : List Value} {x y r : Int32} (hd : decode c.code pc = .ok (.isub, 1)) (hr : x - y = r) (hp : pc + 1 = pc')
    (h : Rt p e below s k n P (T.setTop (mkF m pc' Ls (.int r :: S)))) : Rt p e below s k n P (T.setTop (mkF m pc Ls (.int y :: .int x :: S))) := by
  subst hp hr; obtain ⟨_, X, _, _⟩ := X; exact Rt.go (fun _ => XS.isub X.here hx rfl hd rfl) h
theorem Rt.imul (X : Sd p l e R s m args below meth c T n0 cells slots h0) (hx : p.tables.exec = Jvm.exec) {pc pc' : Nat} {Ls : Array Slot} {S : List Value} {x y r : Int32} (hd : decode c.code pc = .ok (.imul, 1)) (hr : x * y = r) (hp : pc + 1 = pc')
    (h : Rt p e below s k n P (T.setTop (mkF m pc' Ls (.int r :: S)))) : Rt p e below s k n P (T.setTop (mkF m pc Ls (.int y :: .int x :: S))) := by
  subst hp hr; obtain ⟨_, X, _, _⟩ := X; exact Rt.go (fun _ => XS.imul X.here hx rfl hd rfl) h
theorem Rt.iand (X : Sd p l e R s m args below meth c T n0 cells slots h0) (hx : p.tables.exec = Jvm.exec) {pc pc' : Nat} {Ls : Array Slot} {S : List Value} {x y r : Int32} (hd : decode c.code pc = .ok (.iand, 1)) (hr : x &&& y = r) (hp : pc + 1 = pc')
    (h : Rt p e below s k n P (T.setTop (mkF m pc' Ls (.int r :: S)))) : Rt p e below s k n P (T.setTop (mkF m pc Ls (.int y :: .int x :: S))) := by
  subst hp hr; obtain ⟨_, X, _, _⟩ := X; exact Rt.go (fun _ => XS.iand X.here hx rfl hd rfl) h
theorem Rt.ior (X : Sd p l e R s m args below meth c T n0 cells slots h0) (hx : p.tables.exec = Jvm.exec) {pc pc' : Nat} {Ls : Array Slot} {S : List Value} {x y r : Int32} (hd : decode c.code pc = .ok (.ior, 1)) (hr : x ||| y = r) (hp : pc + 1 = pc')
    (h : Rt p e below s k n P (T.setTop (mkF m pc' Ls (.int r :: S)))) : Rt p e below s k n P (T.setTop (mkF m pc Ls (.int y :: .int x :: S))) := by
  subst hp hr; obtain ⟨_, X, _, _⟩ := X; exact Rt.go (fun _ => XS.ior X.here hx rfl hd rfl) h
theorem Rt.ixor (X : Sd p l e R s m args below meth c T n0 cells slots h0) (hx : p.tables.exec = Jvm.exec) {pc pc' : Nat} {Ls : Array Slot} {S : List Value} {x y r : Int32} (hd : decode c.code pc = .ok (.ixor, 1)) (hr : x ^^^ y = r) (hp : pc + 1 = pc')
    (h : Rt p e below s k n P (T.setTop (mkF m pc' Ls (.int r :: S)))) : Rt p e below s k n P (T.setTop (mkF m pc Ls (.int y :: .int x :: S))) := by
  subst hp hr; obtain ⟨_, X, _, _⟩ := X; exact Rt.go (fun _ => XS.ixor X.here hx rfl hd rfl) h
theorem Rt.ishl (X : Sd p l e R s m args below meth c T n0 cells slots h0) (hx : p.tables.exec = Jvm.exec) {pc pc' : Nat} {Ls : Array Slot} {S : List Value} {x y r : Int32} (hd : decode c.code pc = .ok (.ishl, 1)) (hr : x <<< (y &&& 31) = r) (hp : pc + 1 = pc')
    (h : Rt p e below s k n P (T.setTop (mkF m pc' Ls (.int r :: S)))) : Rt p e below s k n P (T.setTop (mkF m pc Ls (.int y :: .int x :: S))) := by
  subst hp hr; obtain ⟨_, X, _, _⟩ := X; exact Rt.go (fun _ => XS.ishl X.here hx rfl hd rfl) h
theorem Rt.ishr (X : Sd p l e R s m args below meth c T n0 cells slots h0) (hx : p.tables.exec = Jvm.exec) {pc pc' : Nat} {Ls : Array Slot} {S : List Value} {x y r : Int32} (hd : decode c.code pc = .ok (.ishr, 1)) (hr : x >>> (y &&& 31) = r) (hp : pc + 1 = pc')
    (h : Rt p e below s k n P (T.setTop (mkF m pc' Ls (.int r :: S)))) : Rt p e below s k n P (T.setTop (mkF m pc Ls (.int y :: .int x :: S))) := by
  subst hp hr; obtain ⟨_, X, _, _⟩ := X; exact Rt.go (fun _ => XS.ishr X.here hx rfl hd rfl) h
theorem Rt.iushr (X : Sd p l e R s m args below meth c T n0 cells slots h0) (hx : p.tables.exec = Jvm.exec) {pc pc' : Nat} {Ls : Array Slot} {S : List Value} {x y r : Int32} (hd : decode c.code pc = .ok (.iushr, 1)) (hr : (x.toUInt32 >>> (y &&& 31).toUInt32).toInt32 = r) (hp : pc + 1 = pc')
    (h : Rt p e below s k n P (T.setTop (mkF m pc' Ls (.int r :: S)))) : Rt p e below s k n P (T.setTop (mkF m pc Ls (.int y :: .int x :: S))) := by
  subst hp hr; obtain ⟨_, X, _, _⟩ := X; exact Rt.go (fun _ => XS.iushr X.here hx rfl hd rfl) h
theorem Rt.ladd (X : Sd p l e R s m args below meth c T n0 cells slots h0) (hx : p.tables.exec = Jvm.exec) {pc pc' : Nat} {Ls : Array Slot} {S : List Value} {x y r : Int64} (hd : decode c.code pc = .ok (.ladd, 1)) (hr : x + y = r) (hp : pc + 1 = pc')
    (h : Rt p e below s k n P (T.setTop (mkF m pc' Ls (.long r :: S)))) : Rt p e below s k n P (T.setTop (mkF m pc Ls (.long y :: .long x :: S))) := by
  subst hp hr; obtain ⟨_, X, _, _⟩ := X; exact Rt.go (fun _ => XS.ladd X.here hx rfl hd rfl) h
theorem Rt.lsub (X : Sd p l e R s m args below meth c T n0 cells slots h0) (hx : p.tables.exec = Jvm.exec) {pc pc' : Nat} {Ls : Array Slot} {S : List Value} {x y r : Int64} (hd : decode c.code pc = .ok (.lsub, 1)) (hr : x - y = r) (hp : pc + 1 = pc')
    (h : Rt p e below s k n P (T.setTop (mkF m pc' Ls (.long r :: S)))) : Rt p e below s k n P (T.setTop (mkF m pc Ls (.long y :: .long x :: S))) := by
  subst hp hr; obtain ⟨_, X, _, _⟩ := X; exact Rt.go (fun _ => XS.lsub X.here hx rfl hd rfl) h
theorem Rt.lmul (X : Sd p l e R s m args below meth c T n0 cells slots h0) (hx : p.tables.exec = Jvm.exec) {pc pc' : Nat} {Ls : Array Slot} {S : List Value} {x y r : Int64} (hd : decode c.code pc = .ok (.lmul, 1)) (hr : x * y = r) (hp : pc + 1 = pc')
    (h : Rt p e below s k n P (T.setTop (mkF m pc' Ls (.long r :: S)))) : Rt p e below s k n P (T.setTop (mkF m pc Ls (.long y :: .long x :: S))) := by
  subst hp hr; obtain ⟨_, X, _, _⟩ := X; exact Rt.go (fun _ => XS.lmul X.here hx rfl hd rfl) h
theorem Rt.land (X : Sd p l e R s m args below meth c T n0 cells slots h0) (hx : p.tables.exec = Jvm.exec) {pc pc' : Nat} {Ls : Array Slot} {S : List Value} {x y r : Int64} (hd : decode c.code pc = .ok (.land, 1)) (hr : x &&& y = r) (hp : pc + 1 = pc')
    (h : Rt p e below s k n P (T.setTop (mkF m pc' Ls (.long r :: S)))) : Rt p e below s k n P (T.setTop (mkF m pc Ls (.long y :: .long x :: S))) := by
  subst hp hr; obtain ⟨_, X, _, _⟩ := X; exact Rt.go (fun _ => XS.land X.here hx rfl hd rfl) h
theorem Rt.lor (X : Sd p l e R s m args below meth c T n0 cells slots h0) (hx : p.tables.exec = Jvm.exec) {pc pc' : Nat} {Ls : Array Slot} {S : List Value} {x y r : Int64} (hd : decode c.code pc = .ok (.lor, 1)) (hr : x ||| y = r) (hp : pc + 1 = pc')
    (h : Rt p e below s k n P (T.setTop (mkF m pc' Ls (.long r :: S)))) : Rt p e below s k n P (T.setTop (mkF m pc Ls (.long y :: .long x :: S))) := by
  subst hp hr; obtain ⟨_, X, _, _⟩ := X; exact Rt.go (fun _ => XS.lor X.here hx rfl hd rfl) h
theorem Rt.lxor (X : Sd p l e R s m args below meth c T n0 cells slots h0) (hx : p.tables.exec = Jvm.exec) {pc pc' : Nat} {Ls : Array Slot} {S : List Value} {x y r : Int64} (hd : decode c.code pc = .ok (.lxor, 1)) (hr : x ^^^ y = r) (hp : pc + 1 = pc')
    (h : Rt p e below s k n P (T.setTop (mkF m pc' Ls (.long r :: S)))) : Rt p e below s k n P (T.setTop (mkF m pc Ls (.long y :: .long x :: S))) := by
  subst hp hr; obtain ⟨_, X, _, _⟩ := X; exact Rt.go (fun _ => XS.lxor X.here hx rfl hd rfl) h
theorem Rt.lshl (X : Sd p l e R s m args below meth c T n0 cells slots h0) (hx : p.tables.exec = Jvm.exec) {pc pc' : Nat} {Ls : Array Slot} {S : List Value} {x r : Int64} {y : Int32} (hd : decode c.code pc = .ok (.lshl, 1)) (hr : x <<< (y &&& 0x3f).toInt64 = r) (hp : pc + 1 = pc')
    (h : Rt p e below s k n P (T.setTop (mkF m pc' Ls (.long r :: S)))) : Rt p e below s k n P (T.setTop (mkF m pc Ls (.int y :: .long x :: S))) := by
  subst hp hr; obtain ⟨_, X, _, _⟩ := X; exact Rt.go (fun _ => XS.lshl X.here hx rfl hd rfl) h
theorem Rt.lshr (X : Sd p l e R s m args below meth c T n0 cells slots h0) (hx : p.tables.exec = Jvm.exec) {pc pc' : Nat} {Ls : Array Slot} {S : List Value} {x r : Int64} {y : Int32} (hd : decode c.code pc = .ok (.lshr, 1)) (hr : x >>> (y &&& 0x3f).toInt64 = r) (hp : pc + 1 = pc')
    (h : Rt p e below s k n P (T.setTop (mkF m pc' Ls (.long r :: S)))) : Rt p e below s k n P (T.setTop (mkF m pc Ls (.int y :: .long x :: S))) := by
  subst hp hr; obtain ⟨_, X, _, _⟩ := X; exact Rt.go (fun _ => XS.lshr X.here hx rfl hd rfl) h
theorem Rt.lushr (X : Sd p l e R s m args below meth c T n0 cells slots h0) (hx : p.tables.exec = Jvm.exec) {pc pc' : Nat} {Ls : Array Slot} {S : List Value} {x r : Int64} {y : Int32} (hd : decode c.code pc = .ok (.lushr, 1)) (hr : (x.toUInt64 >>> (y &&& 0x3f).toInt64.toUInt64).toInt64 = r) (hp : pc + 1 = pc')
    (h : Rt p e below s k n P (T.setTop (mkF m pc' Ls (.long r :: S)))) : Rt p e below s k n P (T.setTop (mkF m pc Ls (.int y :: .long x :: S))) := by
  subst hp hr; obtain ⟨_, X, _, _⟩ := X; exact Rt.go (fun _ => XS.lushr X.here hx rfl hd rfl) h
theorem Rt.idiv (X : Sd p l e R s m args below meth c T n0 cells slots h0) (hx : p.tables.exec = Jvm.exec) {pc pc' : Nat} {Ls : Array Slot} {S : List Value} {x y r : Int32} (hd : decode c.code pc = .ok (.idiv, 1)) (hy : y ≠ 0) (hr : x / y = r) (hp : pc + 1 = pc')
    (h : Rt p e below s k n P (T.setTop (mkF m pc' Ls (.int r :: S)))) : Rt p e below s k n P (T.setTop (mkF m pc Ls (.int y :: .int x :: S))) := by
  subst hp hr; obtain ⟨_, X, _, _⟩ := X; exact Rt.go (fun _ => XS.idiv X.here hx rfl hd rfl hy) h
theorem Rt.irem (X : Sd p l e R s m args below meth c T n0 cells slots h0) (hx : p.tables.exec = Jvm.exec) {pc pc' : Nat} {Ls : Array Slot} {S : List Value} {x y r : Int32} (hd : decode c.code pc = .ok (.irem, 1)) (hy : y ≠ 0) (hr : x % y = r) (hp : pc + 1 = pc')
    (h : Rt p e below s k n P (T.setTop (mkF m pc' Ls (.int r :: S)))) : Rt p e below s k n P (T.setTop (mkF m pc Ls (.int y :: .int x :: S))) := by
  subst hp hr; obtain ⟨_, X, _, _⟩ := X; exact Rt.go (fun _ => iremM X hx rfl hd rfl hy) h
theorem Rt.ldiv (X : Sd p l e R s m args below meth c T n0 cells slots h0) (hx : p.tables.exec = Jvm.exec) {pc pc' : Nat} {Ls : Array Slot} {S : List Value} {x y r : Int64} (hd : decode c.code pc = .ok (.ldiv, 1)) (hy : y ≠ 0) (hr : x / y = r) (hp : pc + 1 = pc')
    (h : Rt p e below s k n P (T.setTop (mkF m pc' Ls (.long r :: S)))) : Rt p e below s k n P (T.setTop (mkF m pc Ls (.long y :: .long x :: S))) := by
  subst hp hr; obtain ⟨_, X, _, _⟩ := X; exact Rt.go (fun _ => XS.ldiv X.here hx rfl hd rfl hy) h
theorem Rt.lrem (X : Sd p l e R s m args below meth c T n0 cells slots h0) (hx : p.tables.exec = Jvm.exec) {pc pc' : Nat} {Ls : Array Slot} {S : List Value} {x y r : Int64} (hd : decode c.code pc = .ok (.lrem, 1)) (hy : y ≠ 0) (hr : x - (x / y) * y = r) (hp : pc + 1 = pc')
    (h : Rt p e below s k n P (T.setTop (mkF m pc' Ls (.long r :: S)))) : Rt p e below s k n P (T.setTop (mkF m pc Ls (.long y :: .long x :: S))) := by
  subst hp hr; obtain ⟨_, X, _, _⟩ := X; exact Rt.go (fun _ => XS.lrem X.here hx rfl hd rfl hy) h
theorem Rt.ineg (X : Sd p l e R s m args below meth c T n0 cells slots h0) (hx : p.tables.exec = Jvm.exec) {pc pc' : Nat} {Ls : Array Slot} {S : List Value} {v : Int32} {r : Int32} (hd : decode c.code pc = .ok (.ineg, 1)) (hr : -v = r) (hp : pc + 1 = pc')
    (h : Rt p e below s k n P (T.setTop (mkF m pc' Ls (.int r :: S)))) : Rt p e below s k n P (T.setTop (mkF m pc Ls (.int v :: S))) := by
  subst hp hr; obtain ⟨_, X, _, _⟩ := X; exact Rt.go (fun _ => XS.ineg X.here hx rfl hd rfl) h
theorem Rt.lneg (X : Sd p l e R s m args below meth c T n0 cells slots h0) (hx : p.tables.exec = Jvm.exec) {pc pc' : Nat} {Ls : Array Slot} {S : List Value} {v : Int64} {r : Int64} (hd : decode c.code pc = .ok (.lneg, 1)) (hr : -v = r) (hp : pc + 1 = pc')
    (h : Rt p e below s k n P (T.setTop (mkF m pc' Ls (.long r :: S)))) : Rt p e below s k n P (T.setTop (mkF m pc Ls (.long v :: S))) := by
  subst hp hr; obtain ⟨_, X, _, _⟩ := X; exact Rt.go (fun _ => XS.lneg X.here hx rfl hd rfl) h
theorem Rt.i2l (X : Sd p l e R s m args below meth c T n0 cells slots h0) (hx : p.tables.exec = Jvm.exec) {pc pc' : Nat} {Ls : Array Slot} {S : List Value} {v : Int32} {r : Int64} (hd : decode c.code pc = .ok (.i2l, 1)) (hr : v.toInt64 = r) (hp : pc + 1 = pc')
    (h : Rt p e below s k n P (T.setTop (mkF m pc' Ls (.long r :: S)))) : Rt p e below s k n P (T.setTop (mkF m pc Ls (.int v :: S))) := by
  subst hp hr; obtain ⟨_, X, _, _⟩ := X; exact Rt.go (fun _ => XS.i2l X.here hx rfl hd rfl) h
theorem Rt.l2i (X : Sd p l e R s m args below meth c T n0 cells slots h0) (hx : p.tables.exec = Jvm.exec) {pc pc' : Nat} {Ls : Array Slot} {S : List Value} {v : Int64} {r : Int32} (hd : decode c.code pc = .ok (.l2i, 1)) (hr : v.toInt32 = r) (hp : pc + 1 = pc')
    (h : Rt p e below s k n P (T.setTop (mkF m pc' Ls (.int r :: S)))) : Rt p e below s k n P (T.setTop (mkF m pc Ls (.long v :: S))) := by
  subst hp hr; obtain ⟨_, X, _, _⟩ := X; exact Rt.go (fun _ => XS.l2i X.here hx rfl hd rfl) h
theorem Rt.i2b (X : Sd p l e R s m args below meth c T n0 cells slots h0) (hx : p.tables.exec = Jvm.exec) {pc pc' : Nat} {Ls : Array Slot} {S : List Value} {v : Int32} {r : Int32} (hd : decode c.code pc = .ok (.i2b, 1)) (hr : v.toInt8.toInt32 = r) (hp : pc + 1 = pc')
    (h : Rt p e below s k n P (T.setTop (mkF m pc' Ls (.int r :: S)))) : Rt p e below s k n P (T.setTop (mkF m pc Ls (.int v :: S))) := by
  subst hp hr; obtain ⟨_, X, _, _⟩ := X; exact Rt.go (fun _ => XS.i2b X.here hx rfl hd rfl) h
theorem Rt.i2s (X : Sd p l e R s m args below meth c T n0 cells slots h0) (hx : p.tables.exec = Jvm.exec) {pc pc' : Nat} {Ls : Array Slot} {S : List Value} {v : Int32} {r : Int32} (hd : decode c.code pc = .ok (.i2s, 1)) (hr : v.toInt16.toInt32 = r) (hp : pc + 1 = pc')
    (h : Rt p e below s k n P (T.setTop (mkF m pc' Ls (.int r :: S)))) : Rt p e below s k n P (T.setTop (mkF m pc Ls (.int v :: S))) := by
  subst hp hr; obtain ⟨_, X, _, _⟩ := X; exact Rt.go (fun _ => XS.i2s X.here hx rfl hd rfl) h
theorem Rt.i2c (X : Sd p l e R s m args below meth c T n0 cells slots h0) (hx : p.tables.exec = Jvm.exec) {pc pc' : Nat} {Ls : Array Slot} {S : List Value} {v : Int32} {r : Int32} (hd : decode c.code pc = .ok (.i2c, 1)) (hr : v.toUInt32.toUInt16.toUInt32.toInt32 = r) (hp : pc + 1 = pc')
    (h : Rt p e below s k n P (T.setTop (mkF m pc' Ls (.int r :: S)))) : Rt p e below s k n P (T.setTop (mkF m pc Ls (.int v :: S))) := by
  subst hp hr; obtain ⟨_, X, _, _⟩ := X; exact Rt.go (fun _ => XS.i2c X.here hx rfl hd rfl) h
theorem Rt.lcmp (X : Sd p l e R s m args below meth c T n0 cells slots h0) (hx : p.tables.exec = Jvm.exec) {pc pc' : Nat} {Ls : Array Slot} {S : List Value} {x y : Int64} (hd : decode c.code pc = .ok (.lcmp, 1)) (hp : pc + 1 = pc')
    (h : Rt p e below s k n P (T.setTop (mkF m pc' Ls (.int (lcmpW x y) :: S)))) : Rt p e below s k n P (T.setTop (mkF m pc Ls (.long y :: .long x :: S))) := by
  subst hp; obtain ⟨_, X, _, _⟩ := X; exact Rt.go (fun _ => XS.lcmp X.here hx rfl hd rfl) h
theorem Rt.iinc (X : Sd p l e R s m args below meth c T n0 cells slots h0) (hx : p.tables.exec = Jvm.exec) {pc pc' : Nat} {Ls : Array Slot} {S : List Value} {j : Nat} {cst : Int} {x r : Int32} {l' : Array Slot} (hd : decode c.code pc = .ok (.iinc j cst, 3)) (hl : Ls[j]? = some (.val (.int x))) (hr : x + Int32.ofInt cst = r) (hl' : storeLocals Ls j (.int r) = some l') (hp : pc + 3 = pc')
    (h : Rt p e below s k n P (T.setTop (mkF m pc' l' S))) : Rt p e below s k n P (T.setTop (mkF m pc Ls S)) := by
  subst hp hr; obtain ⟨_, X, _, _⟩ := X; exact Rt.go (fun _ => XS.iinc X.here hx rfl hd hl hl') h
theorem Rt.dup (X : Sd p l e R s m args below meth c T n0 cells slots h0) (hx : p.tables.exec = Jvm.exec) {pc pc' : Nat} {Ls : Array Slot} {S : List Value} {x : Value} (hd : decode c.code pc = .ok (.dup, 1)) (hc : x.category = 1) (hp : pc + 1 = pc')
    (h : Rt p e below s k n P (T.setTop (mkF m pc' Ls (x :: x :: S)))) : Rt p e below s k n P (T.setTop (mkF m pc Ls (x :: S))) := by
  subst hp; obtain ⟨_, X, _, _⟩ := X; exact Rt.go (fun _ => XS.dup X.here hx rfl hd rfl hc) h
theorem Rt.pop (X : Sd p l e R s m args below meth c T n0 cells slots h0) (hx : p.tables.exec = Jvm.exec) {pc pc' : Nat} {Ls : Array Slot} {S : List Value} {x : Value} (hd : decode c.code pc = .ok (.pop, 1)) (hc : x.category = 1) (hp : pc + 1 = pc')
    (h : Rt p e below s k n P (T.setTop (mkF m pc' Ls (S)))) : Rt p e below s k n P (T.setTop (mkF m pc Ls (x :: S))) := by
  subst hp; obtain ⟨_, X, _, _⟩ := X; exact Rt.go (fun _ => XS.pop X.here hx rfl hd rfl hc) h
theorem Rt.dup2 (X : Sd p l e R s m args below meth c T n0 cells slots h0) (hx : p.tables.exec = Jvm.exec) {pc pc' : Nat} {Ls : Array Slot} {S : List Value} {x y : Value} (hd : decode c.code pc = .ok (.dup2, 1)) (hc : x.category = 1) (hc2 : y.category = 1) (hp : pc + 1 = pc')
    (h : Rt p e below s k n P (T.setTop (mkF m pc' Ls (x :: y :: x :: y :: S)))) : Rt p e below s k n P (T.setTop (mkF m pc Ls (x :: y :: S))) := by
  subst hp; obtain ⟨_, X, _, _⟩ := X; exact Rt.go (fun _ => XT.dup2 X.here hx rfl hd rfl hc hc2) h
theorem Rt.dupX1 (X : Sd p l e R s m args below meth c T n0 cells slots h0) (hx : p.tables.exec = Jvm.exec) {pc pc' : Nat} {Ls : Array Slot} {S : List Value} {x y : Value} (hd : decode c.code pc = .ok (.dup_x1, 1)) (hc : x.category = 1) (hc2 : y.category = 1) (hp : pc + 1 = pc')
    (h : Rt p e below s k n P (T.setTop (mkF m pc' Ls (x :: y :: x :: S)))) : Rt p e below s k n P (T.setTop (mkF m pc Ls (x :: y :: S))) := by
  subst hp; obtain ⟨_, X, _, _⟩ := X; exact Rt.go (fun _ => XS.dupX1 X.here hx rfl hd rfl hc hc2) h
theorem Rt.goto (X : Sd p l e R s m args below meth c T n0 cells slots h0) (hx : p.tables.exec = Jvm.exec) {pc pc' : Nat} {Ls : Array Slot} {S : List Value} {o : Int} (hd : decode c.code pc = .ok (.goto o, 3)) (ho : 0 ≤ (pc : Int) + o) (hp : ((pc : Int) + o).toNat = pc')
    (h : Rt p e below s k n P (T.setTop (mkF m pc' Ls S))) : Rt p e below s k n P (T.setTop (mkF m pc Ls S)) := by
  obtain ⟨_, X, _, _⟩ := X; exact Rt.go (fun _ => XS.goto X.here hx rfl (pc0 := pc) rfl hd ho hp) h
theorem Rt.ifY (X : Sd p l e R s m args below meth c T n0 cells slots h0) (hx : p.tables.exec = Jvm.exec) {pc pc' : Nat} {Ls : Array Slot} {S : List Value} {o : Int} {cd : ClassFile.Cond} {x : Int32} (hd : decode c.code pc = .ok (.ifCond cd o, 3)) (hc : ifCond.holds cd x = true) (ho : 0 ≤ (pc : Int) + o) (hp : ((pc : Int) + o).toNat = pc')
    (h : Rt p e below s k n P (T.setTop (mkF m pc' Ls S))) : Rt p e below s k n P (T.setTop (mkF m pc Ls (.int x :: S))) := by
  obtain ⟨_, X, _, _⟩ := X; exact Rt.go (fun _ => XS.ifYes X.here hx rfl (pc0 := pc) rfl hd rfl hc ho hp) h
theorem Rt.ifN (X : Sd p l e R s m args below meth c T n0 cells slots h0) (hx : p.tables.exec = Jvm.exec) {pc pc' : Nat} {Ls : Array Slot} {S : List Value} {o : Int} {cd : ClassFile.Cond} {x : Int32} (hd : decode c.code pc = .ok (.ifCond cd o, 3)) (hc : ifCond.holds cd x = false) (hp : pc + 3 = pc')
    (h : Rt p e below s k n P (T.setTop (mkF m pc' Ls S))) : Rt p e below s k n P (T.setTop (mkF m pc Ls (.int x :: S))) := by
  subst hp; obtain ⟨_, X, _, _⟩ := X; exact Rt.go (fun _ => XS.ifNo X.here hx rfl hd rfl hc) h
theorem Rt.icmpY (X : Sd p l e R s m args below meth c T n0 cells slots h0) (hx : p.tables.exec = Jvm.exec) {pc pc' : Nat} {Ls : Array Slot} {S : List Value} {o : Int} {cd : ClassFile.Cond} {x y : Int32} (hd : decode c.code pc = .ok (.if_icmp cd o, 3)) (hc : if_icmp.holds cd x y = true) (ho : 0 ≤ (pc : Int) + o) (hp : ((pc : Int) + o).toNat = pc')
    (h : Rt p e below s k n P (T.setTop (mkF m pc' Ls S))) : Rt p e below s k n P (T.setTop (mkF m pc Ls (.int y :: .int x :: S))) := by
  obtain ⟨_, X, _, _⟩ := X; exact Rt.go (fun _ => XS.icmpYes X.here hx rfl (pc0 := pc) rfl hd rfl hc ho hp) h
theorem Rt.icmpN (X : Sd p l e R s m args below meth c T n0 cells slots h0) (hx : p.tables.exec = Jvm.exec) {pc pc' : Nat} {Ls : Array Slot} {S : List Value} {o : Int} {cd : ClassFile.Cond} {x y : Int32} (hd : decode c.code pc = .ok (.if_icmp cd o, 3)) (hc : if_icmp.holds cd x y = false) (hp : pc + 3 = pc')
    (h : Rt p e below s k n P (T.setTop (mkF m pc' Ls S))) : Rt p e below s k n P (T.setTop (mkF m pc Ls (.int y :: .int x :: S))) := by
  subst hp; obtain ⟨_, X, _, _⟩ := X; exact Rt.go (fun _ => XS.icmpNo X.here hx rfl hd rfl hc) h
theorem Rt.ifnullY (X : Sd p l e R s m args below meth c T n0 cells slots h0) (hx : p.tables.exec = Jvm.exec) {pc pc' : Nat} {Ls : Array Slot} {S : List Value} {o : Int} (hd : decode c.code pc = .ok (.ifnull o, 3)) (ho : 0 ≤ (pc : Int) + o) (hp : ((pc : Int) + o).toNat = pc')
    (h : Rt p e below s k n P (T.setTop (mkF m pc' Ls S))) : Rt p e below s k n P (T.setTop (mkF m pc Ls (.null :: S))) := by
  obtain ⟨_, X, _, _⟩ := X; exact Rt.go (fun _ => XS.ifnullYes X.here hx rfl (pc0 := pc) rfl hd rfl ho hp) h
theorem Rt.ifnullN (X : Sd p l e R s m args below meth c T n0 cells slots h0) (hx : p.tables.exec = Jvm.exec) {pc pc' : Nat} {Ls : Array Slot} {S : List Value} {o : Int} {b : Addr} (hd : decode c.code pc = .ok (.ifnull o, 3)) (hp : pc + 3 = pc')
    (h : Rt p e below s k n P (T.setTop (mkF m pc' Ls S))) : Rt p e below s k n P (T.setTop (mkF m pc Ls (.ref b :: S))) := by
  subst hp; obtain ⟨_, X, _, _⟩ := X; exact Rt.go (fun _ => XS.ifnullNo X.here hx rfl hd rfl) h
theorem Rt.ifnonnullY (X : Sd p l e R s m args below meth c T n0 cells slots h0) (hx : p.tables.exec = Jvm.exec) {pc pc' : Nat} {Ls : Array Slot} {S : List Value} {o : Int} {b : Addr} (hd : decode c.code pc = .ok (.ifnonnull o, 3)) (ho : 0 ≤ (pc : Int) + o) (hp : ((pc : Int) + o).toNat = pc')
    (h : Rt p e below s k n P (T.setTop (mkF m pc' Ls S))) : Rt p e below s k n P (T.setTop (mkF m pc Ls (.ref b :: S))) := by
  obtain ⟨_, X, _, _⟩ := X; exact Rt.go (fun _ => XS.ifnonnullYes X.here hx rfl (pc0 := pc) rfl hd rfl ho hp) h
theorem Rt.ifnonnullN (X : Sd p l e R s m args below meth c T n0 cells slots h0) (hx : p.tables.exec = Jvm.exec) {pc pc' : Nat} {Ls : Array Slot} {S : List Value} {o : Int} (hd : decode c.code pc = .ok (.ifnonnull o, 3)) (hp : pc + 3 = pc')
    (h : Rt p e below s k n P (T.setTop (mkF m pc' Ls S))) : Rt p e below s k n P (T.setTop (mkF m pc Ls (.null :: S))) := by
  subst hp; obtain ⟨_, X, _, _⟩ := X; exact Rt.go (fun _ => XS.ifnonnullNo X.here hx rfl hd rfl) h
theorem Rt.acmp (X : Sd p l e R s m args below meth c T n0 cells slots h0) (hx : p.tables.exec = Jvm.exec) {pc pc' : Nat} {Ls : Array Slot} {S : List Value} {o : Int} {cd : ACond} {x y : Value} {same : Bool} (h1 : x.isRef = true) (h2 : y.isRef = true) (hd : decode c.code pc = .ok (.if_acmp cd o, 3)) (hq : decide (x = y) = same) (ho : 0 ≤ (pc : Int) + o) (hp : pc' = if acV cd same = true then ((pc : Int) + o).toNat else pc + 3)
    (h : Rt p e below s k n P (T.setTop (mkF m pc' Ls S))) : Rt p e below s k n P (T.setTop (mkF m pc Ls (y :: x :: S))) := by
  obtain ⟨_, X, _, _⟩ := X; exact Rt.go (fun _ => Jvm.RoadKit.acmp X hx rfl h1 h2 (pc0 := pc) rfl hd rfl hq ho hp) h
theorem Rt.retZ (X : Sd p l e R s m args below meth c T n0 cells slots h0) (hx : p.tables.exec = Jvm.exec) (hlk : meth.locks = false) {t : FieldType} (hret : meth.sig.returnType = some t) (ht : t = .boolean ∨ t = .byte ∨ t = .char ∨ t = .short) {pc : Nat} {Ls : Array Slot} {S : List Value} {z w : Int32} (hd : decode c.code pc = .ok (.ireturn, 1)) (hw : nar t z = w) (hk : cells ≤ k) (hn : slots ≤ n)
    (hP : ∀ L, Fr n0 L → P (some (.int w)) h0 L) : Rt p e below s k n P (T.setTop (mkF m pc Ls (.int z :: S))) := by
  subst hw; obtain ⟨locs, X, N, eh⟩ := X
  obtain ⟨fs, hr, hrun, hended, hW, hsame⟩ := X.leave (v := some (.int (nar t z))) (fun h => by rw [hret] at h; cases h) hlk
  exact ⟨_, _, retN X hx hret ht hd hr, hrun, hended, _, _, rfl, by show P _ T.heap _; rw [eh]; exact hP _ N, ⟨_, rfl⟩, hW, hsame.mono hk hn⟩
theorem Rt.retI (X : Sd p l e R s m args below meth c T n0 cells slots h0) (hx : p.tables.exec = Jvm.exec) (hlk : meth.locks = false) (hret : meth.sig.returnType = some .int) {pc : Nat} {Ls : Array Slot} {S : List Value} {z : Int32} (hd : decode c.code pc = .ok (.ireturn, 1)) (hk : cells ≤ k) (hn : slots ≤ n)
    (hP : ∀ L, Fr n0 L → P (some (.int z)) h0 L) : Rt p e below s k n P (T.setTop (mkF m pc Ls (.int z :: S))) := by
  obtain ⟨locs, X, N, eh⟩ := X
  obtain ⟨fs, hr, hrun, hended, hW, hsame⟩ := X.leave (v := some (.int z)) (fun h => by rw [hret] at h; cases h) hlk
  exact ⟨_, _, Jvm.RoadKit.retI X hx hret hd hr, hrun, hended, _, _, rfl, by show P _ T.heap _; rw [eh]; exact hP _ N, ⟨_, rfl⟩, hW, hsame.mono hk hn⟩
theorem Rt.retJ (X : Sd p l e R s m args below meth c T n0 cells slots h0) (hx : p.tables.exec = Jvm.exec) (hlk : meth.locks = false) (hret : meth.sig.returnType = some .long) {pc : Nat} {Ls : Array Slot} {z : Int64} (hd : decode c.code pc = .ok (.lreturn, 1)) (hk : cells ≤ k) (hn : slots ≤ n)
    (hP : ∀ L, Fr n0 L → P (some (.long z)) h0 L) : Rt p e below s k n P (T.setTop (mkF m pc Ls [.long z])) := by
  obtain ⟨locs, X, N, eh⟩ := X
  obtain ⟨fs, hr, hrun, hended, hW, hsame⟩ := X.leave (v := some (.long z)) (fun h => by rw [hret] at h; cases h) hlk
  exact ⟨_, _, X.lreturnOut hx hret hd hr, hrun, hended, _, _, rfl, by show P _ T.heap _; rw [eh]; exact hP _ N, ⟨_, rfl⟩, hW, hsame.mono hk hn⟩
theorem Rt.retA (X : Sd p l e R s m args below meth c T n0 cells slots h0) (hx : p.tables.exec = Jvm.exec) (hlk : meth.locks = false) {t : FieldType} (ht : t.isReference = true) (hret : meth.sig.returnType = some t) {pc : Nat} {Ls : Array Slot} {v : Value} (hv : v.isRef = true) (hd : decode c.code pc = .ok (.areturn, 1)) (hk : cells ≤ k) (hn : slots ≤ n)
    (hP : ∀ L, Fr n0 L → P (some v) h0 L) : Rt p e below s k n P (T.setTop (mkF m pc Ls [v])) := by
  obtain ⟨locs, X, N, eh⟩ := X
  obtain ⟨fs, hr, hrun, hended, hW, hsame⟩ := X.leave (v := some v) (fun h => by rw [hret] at h; cases h) hlk
  exact ⟨_, _, Jvm.RoadKit.retA X hx ht hv hret hd hr, hrun, hended, _, _, rfl, by show P _ T.heap _; rw [eh]; exact hP _ N, ⟨_, rfl⟩, hW, hsame.mono hk hn⟩
theorem Rt.retV (X : Sd p l e R s m args below meth c T n0 cells slots h0) (hx : p.tables.exec = Jvm.exec) (hlk : meth.locks = false) (hret : meth.sig.returnType = none) {pc : Nat} {Ls : Array Slot}  (hd : decode c.code pc = .ok (.return_, 1)) (hk : cells ≤ k) (hn : slots ≤ n)
    (hP : ∀ L, Fr n0 L → P none h0 L) : Rt p e below s k n P (T.setTop (mkF m pc Ls [])) := by
  obtain ⟨locs, X, N, eh⟩ := X
  obtain ⟨fs, hr, hrun, hended, hW, hsame⟩ := X.leave (v := none) (fun _ => rfl) hlk
  exact ⟨_, _, X.returnOut hx hret hd hr, hrun, hended, _, _, rfl, by show P _ T.heap _; rw [eh]; exact hP _ N, ⟨_, rfl⟩, hW, hsame.mono hk hn⟩
theorem Rt.ldcInt (X : Sd p l e R s m args below meth c T n0 cells slots h0) (hx : p.tables.exec = Jvm.exec) {Z : State} {a0 : Array Value} (hZ : Z.Warmed39 s.vm) {own : String} {index : Nat} {v : Int32} (hown : s.vm.findClass own = some m.cls) (w : (Cond.constant own index v).before a0 Z = true) {pc pc' : Nat} {Ls : Array Slot} {S : List Value} (hd : decode c.code pc = .ok (.ldc index, 2)) (hp : pc + 2 = pc')
    (h : Rt p e below s k n P (T.setTop (mkF m pc' Ls (.int v :: S)))) : Rt p e below s k n P (T.setTop (mkF m pc Ls S)) := by
  subst hp; obtain ⟨_, X, _, _⟩ := X; exact Rt.go (X.ldcInt hx hown (mvT hZ w) (g := mkF m pc Ls S) rfl hd) h
theorem Rt.ldcwInt (X : Sd p l e R s m args below meth c T n0 cells slots h0) (hx : p.tables.exec = Jvm.exec) {Z : State} {a0 : Array Value} (hZ : Z.Warmed39 s.vm) {own : String} {index : Nat} {v : Int32} (hown : s.vm.findClass own = some m.cls) (w : (Cond.constant own index v).before a0 Z = true) {pc pc' : Nat} {Ls : Array Slot} {S : List Value} (hd : decode c.code pc = .ok (.ldc_w index, 3)) (hp : pc + 3 = pc')
    (h : Rt p e below s k n P (T.setTop (mkF m pc' Ls (.int v :: S)))) : Rt p e below s k n P (T.setTop (mkF m pc Ls S)) := by
  subst hp; obtain ⟨_, X, _, _⟩ := X; exact Rt.go (X.ldcwInt hx hown (mvT hZ w) (g := mkF m pc Ls S) rfl hd) h
theorem Rt.ldc2Long (X : Sd p l e R s m args below meth c T n0 cells slots h0) (hx : p.tables.exec = Jvm.exec) {Z : State} {a0 : Array Value} (hZ : Z.Warmed39 s.vm) {own : String} {index : Nat} {v : Int64} (hown : s.vm.findClass own = some m.cls) (w : (Cond.constantLong own index v).before a0 Z = true) {pc pc' : Nat} {Ls : Array Slot} {S : List Value} (hd : decode c.code pc = .ok (.ldc2_w index, 3)) (hp : pc + 3 = pc')
    (h : Rt p e below s k n P (T.setTop (mkF m pc' Ls (.long v :: S)))) : Rt p e below s k n P (T.setTop (mkF m pc Ls S)) := by
  subst hp; obtain ⟨_, X, _, _⟩ := X; exact Rt.go (X.ldc2Long hx hown (mvT hZ w) (g := mkF m pc Ls S) rfl hd) h
theorem ltl {x y : Int64} (h : x < y) : ifCond.holds .lt (lcmpW x y) = true ∧ ifCond.holds .ge (lcmpW x y) = false := ⟨(if0 _ _).trans (tlt ((lw_lt x y).mpr h)).1, (if0 _ _).trans (tlt ((lw_lt x y).mpr h)).2.1⟩
theorem lfl {x y : Int64} (h : ¬ x < y) : ifCond.holds .lt (lcmpW x y) = false ∧ ifCond.holds .ge (lcmpW x y) = true := ⟨(if0 _ _).trans (flt (fun q => h ((lw_lt x y).mp q))).1, (if0 _ _).trans (flt (fun q => h ((lw_lt x y).mp q))).2.1⟩
theorem gtl {x y : Int64} (h : y < x) : ifCond.holds .gt (lcmpW x y) = true ∧ ifCond.holds .le (lcmpW x y) = false := ⟨(if0 _ _).trans (tlt ((lw_gt x y).mpr h)).2.2.1, (if0 _ _).trans (tlt ((lw_gt x y).mpr h)).2.2.2⟩
theorem gfl {x y : Int64} (h : ¬ y < x) : ifCond.holds .gt (lcmpW x y) = false ∧ ifCond.holds .le (lcmpW x y) = true := ⟨(if0 _ _).trans (flt (fun q => h ((lw_gt x y).mp q))).2.2.1, (if0 _ _).trans (flt (fun q => h ((lw_gt x y).mp q))).2.2.2⟩
theorem etl {x y : Int64} (h : x = y) : ifCond.holds .eq (lcmpW x y) = true ∧ ifCond.holds .ne (lcmpW x y) = false := ⟨(if0 _ _).trans (teq ((lw_eq x y).mpr h)).1, (if0 _ _).trans (teq ((lw_eq x y).mpr h)).2⟩
theorem efl {x y : Int64} (h : ¬ x = y) : ifCond.holds .eq (lcmpW x y) = false ∧ ifCond.holds .ne (lcmpW x y) = true := ⟨(if0 _ _).trans (feq (fun q => h ((lw_eq x y).mp q))).1, (if0 _ _).trans (feq (fun q => h ((lw_eq x y).mp q))).2⟩
/-- what a method leaves: its contract's form -/
abbrev Mt (l : Launch) (Z : State) (y : MethodName) (ws : List Jvm.Cond) (rm : Room) (as' : Array Value) (h : Heap) (Q : Option Value → Heap → List Loc → Prop) : Prop :=
  MetFree l y (head1 ws rm) (fun a U => a = as' ∧ Z.Warmed39 U.vm ∧ U.heap = h) (fun _ _ _ _ _ => True) (fun _ U o U' => ∃ v L, o = .returned v ∧ Q v U'.heap L ∧ FrameEnd U o U' L rm.cells rm.slots)
/-- from a body's walk to its contract -/
theorem Mt.of {Z : State} {y : MethodName} {bytes : ByteArray} {maxL : Nat} {ret : Option FieldType} {ws : List Jvm.Cond} {rm : Room} {as' : Array Value} {h : Heap} {Q : Option Value → Heap → List Loc → Prop} (n0 : Nat) (hpl : plainFor y = true)
    (body : ∀ (p : Program) (e : Env) (s : State) (m : MethodId) (below : List Frame) (meth : Method) (c : Code) (T : State), Sd p l e rm s m as' below meth c T n0 0 0 h → p.tables.exec = Jvm.exec → Z.Warmed39 s.vm → c.code = bytes → c.maxLocals = maxL → s.vm.findClass y.cls = some m.cls → meth.sig.returnType = ret → meth.locks = false → meth.name = y.name → s.heap = h →
      Rt p e below s rm.cells rm.slots Q (T.setTop (entryFrame m as' maxL))) : Mt l Z y (Jvm.Cond.code y bytes maxL ret :: ws) rm as' h Q := by
  refine MetFree.of_bodySF hpl hisR ?_
  intro p e s m args below meth c s₁ Bd hml0 hP hK
  obtain ⟨rfl, hZ, hh⟩ := hP
  have e0 : s₁.heap = h := by rw [← hh, Bd.state]; rfl
  obtain ⟨s₂, o, h1, h2, h3, v, L, h4, h5, h6⟩ := body p e s m below meth c s₁ ⟨[], Stand.of_body Bd, Fr.nil n0, e0⟩ Bd.exec hZ Bd.bytes hml0 (findClass_of_methodNamed Bd.named) Bd.returns (BodyLoose.notSynchronized Bd) (name_of_methodNamed Bd.named Bd.method).1 hh
  exact ⟨s₂, o, h1, h2, h3, v, L, h4, h5, h6⟩
theorem Rt.callS (X : Sd p l e R s m args below meth c T n0 cells slots h0) (hx : p.tables.exec = Jvm.exec) {Z : State} {a0 : Array Value} (hZ : Z.Warmed39 s.vm) {own : String} {index : Nat} {y : MethodName} {bytes : ByteArray} {maxL W : Nat} {ret : Option FieldType} {rm : Room} {as' : Array Value} {Q : Option Value → Heap → List Loc → Prop}
    (hown : s.vm.findClass own = some m.cls) (w1 : (Cond.methodLink own index y).before a0 Z = true) (w2 : (Cond.static y).before a0 Z = true) (w3 : (Cond.initialized y.cls).before a0 Z = true) (w4 : (Cond.code y bytes maxL ret).before a0 Z = true) (hy : y.cls ≠ "java/lang/invoke/MethodHandle" ∧ y.cls ≠ "java/lang/invoke/VarHandle")
    (hM : Mt l Z y [Cond.code y bytes maxL ret] rm as' h0 Q) (hF : ∀ v h L, Q v h L → Fr n0 L) (hf : rm.frames + 1 ≤ R.frames) (hl : W + (maxL + 11) + rm.locals ≤ R.locals) (hc : cells + rm.cells ≤ R.cells) (hs : slots + rm.slots ≤ R.slots)
    {pc pc' : Nat} {Ls : Array Slot} {S argsL rest : List Value} (hsize : Ls.size = c.maxLocals) (hlen : ∀ sig, parseMethodDescriptor y.desc = some sig → argsL.length = sig.parameters.length) (hst : S = argsL.reverse ++ rest) (has : argsL.toArray = as') (hW : (rest.map fun v => v.category).sum ≤ W) (hd : decode c.code pc = .ok (.invokestatic index, 3)) (hp : pc + 3 = pc')
    (hh : ∀ v T' h' L, Sd p l e R s m args below meth c T' n0 (cells + rm.cells) (slots + rm.slots) h' → Q v h' L → Rt p e below s k n P (T'.setTop (mkF m pc' Ls (v.toList ++ rest)))) : Rt p e below s k n P (T.setTop (mkF m pc Ls S)) := by
  subst hp has
  obtain ⟨locs, X, N, eT⟩ := X
  obtain ⟨v, _, ⟨T', L', k', n'⟩, -, X', ⟨Lc, hQ, l', y', z'⟩, st⟩ := Jvm.LawKit.callS X hx (y := y) hown (mvT hZ w1) (mvT hZ w2) (mvT hZ w3) (mvT hZ w4) hy (backOf (W := W) hM hZ w4 w3 hf hl) (g := mkF m pc Ls S) rfl hsize (argsL := argsL) (rest := rest) hlen hst (by show 2 * 0 + _ ≤ _; omega) hd (fun _ _ => ⟨rfl, eT, hc, hs⟩)
  dsimp only [Pt.U, Pt.locs, Pt.cells, Pt.slots] at X' l' y' z' st hQ
  subst l' y' z'
  exact Rt.go st (hh v T' _ Lc ⟨_, X', Fr.app N (hF _ _ _ hQ), rfl⟩ hQ)
/-- a static method that writes nothing -/
theorem Rt.callP (X : Sd p l e R s m args below meth c T n0 cells slots h0) (hx : p.tables.exec = Jvm.exec) {Z : State} {a0 : Array Value} (hZ : Z.Warmed39 s.vm) {own : String} {index : Nat} {y : MethodName} {bytes : ByteArray} {maxL W : Nat} {ret : Option FieldType} {rm : Room} {as' : Array Value} {r : Value}
    (hown : s.vm.findClass own = some m.cls) (w1 : (Cond.methodLink own index y).before a0 Z = true) (w2 : (Cond.static y).before a0 Z = true) (w3 : (Cond.initialized y.cls).before a0 Z = true) (w4 : (Cond.code y bytes maxL ret).before a0 Z = true) (hy : y.cls ≠ "java/lang/invoke/MethodHandle" ∧ y.cls ≠ "java/lang/invoke/VarHandle")
    (hM : Mt l Z y [Cond.code y bytes maxL ret] rm as' h0 (fun v h L => v = some r ∧ Fr n0 L ∧ h = h0)) (hf : rm.frames + 1 ≤ R.frames) (hl : W + (maxL + 11) + rm.locals ≤ R.locals) (hc : cells + rm.cells ≤ R.cells) (hs : slots + rm.slots ≤ R.slots) (hc0 : rm.cells = 0) (hs0 : rm.slots = 0)
    {pc pc' : Nat} {Ls : Array Slot} {S argsL rest : List Value} (hsize : Ls.size = c.maxLocals) (hlen : ∀ sig, parseMethodDescriptor y.desc = some sig → argsL.length = sig.parameters.length) (hst : S = argsL.reverse ++ rest) (has : argsL.toArray = as') (hW : (rest.map fun v => v.category).sum ≤ W) (hd : decode c.code pc = .ok (.invokestatic index, 3)) (hp : pc + 3 = pc')
    (hh : ∀ T', Sd p l e R s m args below meth c T' n0 cells slots h0 → Rt p e below s k n P (T'.setTop (mkF m pc' Ls (r :: rest)))) : Rt p e below s k n P (T.setTop (mkF m pc Ls S)) := by
  refine Rt.callS X hx hZ hown w1 w2 w3 w4 hy hM (fun _ _ _ q => q.2.1) hf hl hc hs hsize hlen hst has hW hd hp ?_
  rintro v T' h' L X' ⟨rfl, _, rfl⟩
  rw [hc0, hs0, Nat.add_zero, Nat.add_zero] at X'
  exact hh T' X'
/-- an instance method, by the contract of the body that the receiver's class selects -/
theorem Rt.callV (X : Sd p l e R s m args below meth c T n0 cells slots h0) (hx : p.tables.exec = Jvm.exec) {Z : State} {a0 : Array Value} (hZ : Z.Warmed39 s.vm) {own : String} {index : Nat} {y : MethodName} {bytes : ByteArray} {maxL W : Nat} {ret : Option FieldType} {rm : Room} {as' : Array Value} {Q : Option Value → Heap → List Loc → Prop} {K : String} {yz : MethodName}
    (hown : s.vm.findClass own = some m.cls) (w1 : (Cond.methodLink own index y).before a0 Z = true) (w2 : (Cond.declares y).before a0 Z = true) (hnf : NotFace s y) (w5 : (Cond.selects K y yz).before a0 Z = true) (w6 : (Cond.instanceMethod yz).before a0 Z = true) (w3 : (Cond.initialized yz.cls).before a0 Z = true) (w4 : (Cond.code yz bytes maxL ret).before a0 Z = true) (hy : y.cls ≠ "java/lang/invoke/MethodHandle" ∧ y.cls ≠ "java/lang/invoke/VarHandle")
    {a : Addr} (E : Exa Z h0 a K) (hM : Mt l Z yz [Cond.code yz bytes maxL ret] rm as' h0 Q) (hF : ∀ v h L, Q v h L → Fr n0 L) (hf : rm.frames + 1 ≤ R.frames) (hl : W + (maxL + 11) + rm.locals ≤ R.locals) (hc : cells + rm.cells ≤ R.cells) (hs : slots + rm.slots ≤ R.slots)
    {pc pc' : Nat} {Ls : Array Slot} {S argsL rest : List Value} (hsize : Ls.size = c.maxLocals) (hlen : ∀ sig, parseMethodDescriptor y.desc = some sig → argsL.length = sig.parameters.length) (hst : S = argsL.reverse ++ .ref a :: rest) (has : (.ref a :: argsL).toArray = as') (hW : (rest.map fun v => v.category).sum ≤ W) (hd : decode c.code pc = .ok (.invokevirtual index, 3)) (hp : pc + 3 = pc')
    (hh : ∀ v T' h' L, Sd p l e R s m args below meth c T' n0 (cells + rm.cells) (slots + rm.slots) h' → Q v h' L → Rt p e below s k n P (T'.setTop (mkF m pc' Ls (v.toList ++ rest)))) : Rt p e below s k n P (T.setTop (mkF m pc Ls S)) := by
  subst hp has
  obtain ⟨locs, X, N, eT⟩ := X
  obtain ⟨cq, kq, qa, qb, qc⟩ := isOf hZ eT E
  obtain ⟨v, _, ⟨T', L', k', n'⟩, -, X', ⟨Lc, hQ, l', y', z'⟩, st⟩ := X.virtualBack hx (y := y) (z := yz) hown (mvT hZ w1) (mvT hZ w2) hnf (mvT hZ w5) (mvT hZ w6) hy (backOf (W := W) hM hZ w4 w3 hf hl) qa qc (g := mkF m pc Ls S) rfl hsize (Steps.refl _) (argsL := argsL) (rest := rest) hlen hst (by show 2 * 0 + _ ≤ _; omega) hd (fun _ _ => ⟨rfl, eT, hc, hs⟩)
  dsimp only [Pt.U, Pt.locs, Pt.cells, Pt.slots] at X' l' y' z' st hQ
  subst l' y' z'
  exact Rt.go (fun _ q => st.trans q) (hh v T' _ Lc ⟨_, X', Fr.app N (hF _ _ _ hQ), rfl⟩ hQ)
/-- a constructor by its contract -/
theorem Rt.callI (X : Sd p l e R s m args below meth c T n0 cells slots h0) (hx : p.tables.exec = Jvm.exec) {Z : State} {a0 : Array Value} (hZ : Z.Warmed39 s.vm) {own : String} {index : Nat} {y : MethodName} {bytes : ByteArray} {maxL W : Nat} {rm : Room} {as' : Array Value} {Q : Option Value → Heap → List Loc → Prop} (hy1 : y.name = "<init>")
    (hown : s.vm.findClass own = some m.cls) (w1 : (Cond.methodLink own index y).before a0 Z = true) (w2 : (Cond.instanceMethod y).before a0 Z = true) (w3 : (Cond.initialized y.cls).before a0 Z = true) (w4 : (Cond.code y bytes maxL none).before a0 Z = true) (hy : y.cls ≠ "java/lang/invoke/MethodHandle" ∧ y.cls ≠ "java/lang/invoke/VarHandle")
    {a : Addr} (hM : Mt l Z y [Cond.code y bytes maxL none] rm as' h0 Q) (hF : ∀ v h L, Q v h L → Fr n0 L) (hf : rm.frames + 1 ≤ R.frames) (hl : W + (maxL + 11) + rm.locals ≤ R.locals) (hc : cells + rm.cells ≤ R.cells) (hs : slots + rm.slots ≤ R.slots)
    {pc pc' : Nat} {Ls : Array Slot} {S argsL rest : List Value} (hsize : Ls.size = c.maxLocals) (hlen : ∀ sig, parseMethodDescriptor y.desc = some sig → argsL.length = sig.parameters.length) (hst : S = argsL.reverse ++ .ref a :: rest) (has : (.ref a :: argsL).toArray = as') (hW : (rest.map fun v => v.category).sum ≤ W) (hd : decode c.code pc = .ok (.invokespecial index, 3)) (hp : pc + 3 = pc')
    (hh : ∀ v T' h' L, Sd p l e R s m args below meth c T' n0 (cells + rm.cells) (slots + rm.slots) h' → Q v h' L → Rt p e below s k n P (T'.setTop (mkF m pc' Ls (v.toList ++ rest)))) : Rt p e below s k n P (T.setTop (mkF m pc Ls S)) := by
  subst hp has
  obtain ⟨locs, X, N, eT⟩ := X
  obtain ⟨v, _, ⟨T', L', k', n'⟩, -, X', ⟨Lc, hQ, l', y', z'⟩, st⟩ := X.specialBack hx (y := y) hy1 hown (mvT hZ w1) (mvT hZ w2) (mvT hZ w4) hy (backOf (W := W) hM hZ w4 w3 hf hl) (g := mkF m pc Ls S) rfl hsize (Steps.refl _) (a := a) (argsL := argsL) (rest := rest) hlen hst (by show 2 * 0 + _ ≤ _; omega) hd (fun _ _ => ⟨rfl, eT, hc, hs⟩)
  dsimp only [Pt.U, Pt.locs, Pt.cells, Pt.slots] at X' l' y' z' st hQ
  subst l' y' z'
  exact Rt.go (fun _ q => st.trans q) (hh v T' _ Lc ⟨_, X', Fr.app N (hF _ _ _ hQ), rfl⟩ hQ)
/-- a private instance method by its contract -/
theorem Rt.callPr (X : Sd p l e R s m args below meth c T n0 cells slots h0) (hx : p.tables.exec = Jvm.exec) {Z : State} {a0 : Array Value} (hZ : Z.Warmed39 s.vm) {own : String} {index : Nat} {y : MethodName} {bytes : ByteArray} {maxL W : Nat} {ret : Option FieldType} {rm : Room} {as' : Array Value} {Q : Option Value → Heap → List Loc → Prop} {K : String} {nf : Nat}
    (hown : s.vm.findClass own = some m.cls) (w1 : (Cond.methodLink own index y).before a0 Z = true) (w2 : (Cond.instanceMethod y).before a0 Z = true) (w5 : (Cond.privateMethod y).before a0 Z = true) (wi : (Cond.instantiable y.cls nf).before a0 Z = true) (w3 : (Cond.initialized y.cls).before a0 Z = true) (w4 : (Cond.code y bytes maxL ret).before a0 Z = true) (hy : y.cls ≠ "java/lang/invoke/MethodHandle" ∧ y.cls ≠ "java/lang/invoke/VarHandle")
    {a : Addr} (E : Exa Z h0 a K) (hM : Mt l Z y [Cond.code y bytes maxL ret] rm as' h0 Q) (hF : ∀ v h L, Q v h L → Fr n0 L) (hf : rm.frames + 1 ≤ R.frames) (hl : W + (maxL + 11) + rm.locals ≤ R.locals) (hc : cells + rm.cells ≤ R.cells) (hs : slots + rm.slots ≤ R.slots)
    {pc pc' : Nat} {Ls : Array Slot} {S argsL rest : List Value} (hsize : Ls.size = c.maxLocals) (hlen : ∀ sig, parseMethodDescriptor y.desc = some sig → argsL.length = sig.parameters.length) (hst : S = argsL.reverse ++ .ref a :: rest) (has : (.ref a :: argsL).toArray = as') (hW : (rest.map fun v => v.category).sum ≤ W) (hd : decode c.code pc = .ok (.invokevirtual index, 3)) (hp : pc + 3 = pc')
    (hh : ∀ v T' h' L, Sd p l e R s m args below meth c T' n0 (cells + rm.cells) (slots + rm.slots) h' → Q v h' L → Rt p e below s k n P (T'.setTop (mkF m pc' Ls (v.toList ++ rest)))) : Rt p e below s k n P (T.setTop (mkF m pc Ls S)) := by
  subst hp has
  obtain ⟨locs, X, N, eT⟩ := X
  obtain ⟨ce, q1, q2⟩ := E.cell
  obtain ⟨cc, kc, i1, i2, -, i4, -⟩ := Cond.instantiable_spec (mvT hZ wi (args := args))
  have hpv := Cond.privateMethod_at (mvP hZ w5 (args := #[]))
  have hni : kc.isInterface = false := by simp only [Bool.or_eq_false_iff] at i4; exact i4.1
  obtain ⟨v, _, ⟨T', L', k', n'⟩, -, X', ⟨Lc, hQ, l', y', z'⟩, st⟩ := X.privateBack hx (y := y) hown (mvT hZ w1) (mvT hZ w2) (selects_self_of_private i1 i2 hni hpv (mvT hZ w2) hy) hpv (mvT hZ w4) hy (backOf (W := W) hM hZ w4 w3 hf hl) (g := mkF m pc Ls S) rfl hsize (Steps.refl _) (a := a) (by rw [eT]; exact q1) q2 (argsL := argsL) (rest := rest) hlen hst (by show 2 * 0 + _ ≤ _; omega) hd (fun _ _ => ⟨rfl, eT, hc, hs⟩)
  dsimp only [Pt.U, Pt.locs, Pt.cells, Pt.slots] at X' l' y' z' st hQ
  subst l' y' z'
  exact Rt.go (fun _ q => st.trans q) (hh v T' _ Lc ⟨_, X', Fr.app N (hF _ _ _ hQ), rfl⟩ hQ)
theorem Rt.initO (X : Sd p l e R s m args below meth c T n0 cells slots h0) (hx : p.tables.exec = Jvm.exec) {Z : State} {a0 : Array Value} (hZ : Z.Warmed39 s.vm) {own : String} {index : Nat} (hown : s.vm.findClass own = some m.cls) (w1 : (Cond.methodLink own index Lib.objectInit).before a0 Z = true) (w2 : (Cond.instanceMethod Lib.objectInit).before a0 Z = true) (w3 : (Cond.code Lib.objectInit ⟨#[0xb1]⟩ 1 none).before a0 Z = true)
    {pc pc' W : Nat} {Ls : Array Slot} {rest : List Value} {a : Addr} (hsize : Ls.size = c.maxLocals) (hd : decode c.code pc = .ok (.invokespecial index, 3)) (hf : 1 ≤ R.frames) (hW : (rest.map fun v => v.category).sum ≤ W) (hl : W + 12 ≤ R.locals) (hp : pc + 3 = pc')
    (hh : ∀ T', Sd p l e R s m args below meth c T' n0 cells slots h0 → Rt p e below s k n P (T'.setTop (mkF m pc' Ls rest))) : Rt p e below s k n P (T.setTop (mkF m pc Ls (.ref a :: rest))) := by
  subst hp
  obtain ⟨locs, X, N, eT⟩ := X
  obtain ⟨T', X', e', st⟩ := Jvm.RoadKit.initO X hx hZ hown w1 w2 w3 eT (g := mkF m pc Ls (.ref a :: rest)) rfl hsize rfl hd hf (W := W) (by show 2 * 0 + _ ≤ _; omega) hl
  exact Rt.go st (hh T' ⟨_, X', N, e'⟩)
theorem Rt.getS (X : Sd p l e R s m args below meth c T n0 cells slots h0) (hx : p.tables.exec = Jvm.exec) {Z : State} {a0 : Array Value} (hZ : Z.Warmed39 s.vm) {own K f d host : String} {index : Nat} (hown : s.vm.findClass own = some m.cls) (w : (Cond.fieldLink own index K f d).before a0 Z = true ∨ (Cond.fieldLinkNest own index K f d host).before a0 Z = true) {v : Value} (F : Sta Z h0 K f d v) {pc pc' : Nat} {Ls : Array Slot} {S : List Value} (hd : decode c.code pc = .ok (.getstatic index, 3)) (hp : pc + 3 = pc')
    (hh : ∀ T', Sd p l e R s m args below meth c T' n0 cells slots h0 → Rt p e below s k n P (T'.setTop (mkF m pc' Ls (v :: S)))) : Rt p e below s k n P (T.setTop (mkF m pc Ls S)) := by
  subst hp
  obtain ⟨locs, X, N, eT⟩ := X
  obtain ⟨T', X', e', st⟩ := getS2 X hx hZ hown (host := host) w Via.refl eT F (g := mkF m pc Ls S) rfl hd
  exact Rt.go st (hh T' ⟨_, X', N, e'⟩)
theorem Rt.getF (X : Sd p l e R s m args below meth c T n0 cells slots h0) (hx : p.tables.exec = Jvm.exec) {Z : State} {a0 : Array Value} (hZ : Z.Warmed39 s.vm) {own K f d host : String} {index : Nat} (hown : s.vm.findClass own = some m.cls) (w : (Cond.fieldLink own index K f d).before a0 Z = true ∨ (Cond.fieldLinkNest own index K f d host).before a0 Z = true) {v : Value} {a : Addr} (F : Fld Z h0 a K f d v) {pc pc' : Nat} {Ls : Array Slot} {S : List Value} (hd : decode c.code pc = .ok (.getfield index, 3)) (hp : pc + 3 = pc')
    (hh : ∀ T', Sd p l e R s m args below meth c T' n0 cells slots h0 → Rt p e below s k n P (T'.setTop (mkF m pc' Ls (v :: S)))) : Rt p e below s k n P (T.setTop (mkF m pc Ls (.ref a :: S))) := by
  subst hp
  obtain ⟨locs, X, N, eT⟩ := X
  obtain ⟨T', X', e', st⟩ := Jvm.RoadKit.getF X hx hZ hown (host := host) w Via.refl eT F (g := mkF m pc Ls (.ref a :: S)) rfl rfl hd
  exact Rt.go st (hh T' ⟨_, X', N, e'⟩)
theorem Rt.putF (X : Sd p l e R s m args below meth c T n0 cells slots h0) (hx : p.tables.exec = Jvm.exec) {Z : State} {a0 : Array Value} (hZ : Z.Warmed39 s.vm) {own K f d C' host : String} {index kk : Nat} {ty : FieldType} (hown : s.vm.findClass own = some m.cls) (w : (Cond.fieldLink own index K f d).before a0 Z = true ∨ (Cond.fieldLinkNest own index K f d host).before a0 Z = true) {v old : Value} {a : Addr} (F : Fld Z h0 a K f d old) (E : Exa Z h0 a C') (L : (Cond.lays C' K f d).before a0 Z = true ∨ ((Cond.laysFinal C' K f d).before a0 Z = true ∧ own = K ∧ meth.name = "<init>")) (wi : (Cond.instantiable C' kk).before a0 Z = true) (hty : parseFieldDescriptor d = some ty) (hn : narrow ty v = v) (hf : fits ty v = true) (ga : n0 ≤ a) {pc pc' : Nat} {Ls : Array Slot} {S : List Value} (hd : decode c.code pc = .ok (.putfield index, 3)) (hp : pc + 3 = pc')
    (hh : ∀ T' h', Sd p l e R s m args below meth c T' n0 cells slots h' → Wr h0 h' a (Jvm.RoadKit.slotOf Z K f d) v → Fld Z h' a K f d v → Rt p e below s k n P (T'.setTop (mkF m pc' Ls S))) : Rt p e below s k n P (T.setTop (mkF m pc Ls (v :: .ref a :: S))) := by
  subst hp
  obtain ⟨locs, X, N, eT⟩ := X
  obtain ⟨T', h', X', e', W', st⟩ := Jvm.RoadKit.putF X hx hZ hown (host := host) w Via.refl eT F E L wi hty hn hf (g := mkF m pc Ls (v :: .ref a :: S)) rfl rfl hd
  exact Rt.go st (hh T' h' ⟨_, X', Fr.snoc X' N ga, e'⟩ W' (F.same W'))
theorem Rt.newO (X : Sd p l e R s m args below meth c T n0 cells slots h0) (hx : p.tables.exec = Jvm.exec) {Z : State} {a0 : Array Value} (hZ : Z.Warmed39 s.vm) {own K : String} {index nf : Nat} (hown : s.vm.findClass own = some m.cls) (w : (Cond.classLink own index K).before a0 Z = true) (wi : (Cond.instantiable K nf).before a0 Z = true) (wz : (Cond.initialized K).before a0 Z = true) {pc pc' : Nat} {Ls : Array Slot} {S : List Value} (hd : decode c.code pc = .ok (.new index, 3)) (hc : cells + 1 ≤ R.cells) (hl : slots + nf ≤ R.slots) (hp : pc + 3 = pc')
    (hh : ∀ T' h' a, a = h0.size → Sd p l e R s m args below meth c T' n0 (cells + 1) (slots + nf) h' → Ext h0 h' → Exa Z h' a K → (∀ {O nm d : String} {ty : FieldType}, Laid Z a0 K O nm d → parseFieldDescriptor d = some ty → Fld Z h' a O nm d (defaultValue ty)) → Rt p e below s k n P (T'.setTop (mkF m pc' Ls (.ref a :: S)))) : Rt p e below s k n P (T.setTop (mkF m pc Ls S)) := by
  subst hp
  obtain ⟨locs, X, N, eT⟩ := X
  obtain ⟨T', h', X', e', E', A', D', -, st⟩ := Jvm.RoadKit.newO X hx hZ hown w wi wz eT (g := mkF m pc Ls S) rfl hd hc hl
  exact Rt.go st (hh T' h' _ rfl ⟨_, X', N, e'⟩ E' A' D')
theorem Rt.castY (X : Sd p l e R s m args below meth c T n0 cells slots h0) (hx : p.tables.exec = Jvm.exec) {Z : State} {a0 : Array Value} (hZ : Z.Warmed39 s.vm) {own K : String} {index : Nat} (hown : s.vm.findClass own = some m.cls) (w : (Cond.classLink own index K).before a0 Z = true) {a : Addr} (F : Ins Z h0 a K true) {pc pc' : Nat} {Ls : Array Slot} {S : List Value} (hd : decode c.code pc = .ok (.checkcast index, 3)) (hp : pc + 3 = pc')
    (hh : ∀ T', Sd p l e R s m args below meth c T' n0 cells slots h0 → Rt p e below s k n P (T'.setTop (mkF m pc' Ls (.ref a :: S)))) : Rt p e below s k n P (T.setTop (mkF m pc Ls (.ref a :: S))) := by
  subst hp
  obtain ⟨locs, X, N, eT⟩ := X
  obtain ⟨T', X', e', st⟩ := Jvm.RoadKit.castY X hx hZ hown w eT F (g := mkF m pc Ls (.ref a :: S)) rfl rfl hd
  exact Rt.go st (hh T' ⟨_, X', N, e'⟩)
theorem Rt.instY (X : Sd p l e R s m args below meth c T n0 cells slots h0) (hx : p.tables.exec = Jvm.exec) {Z : State} {a0 : Array Value} (hZ : Z.Warmed39 s.vm) {own K : String} {index : Nat} (hown : s.vm.findClass own = some m.cls) (w : (Cond.classLink own index K).before a0 Z = true) {a : Addr} (F : Ins Z h0 a K true) {pc pc' : Nat} {Ls : Array Slot} {S : List Value} (hd : decode c.code pc = .ok (.instanceof index, 3)) (hp : pc + 3 = pc')
    (hh : ∀ T', Sd p l e R s m args below meth c T' n0 cells slots h0 → Rt p e below s k n P (T'.setTop (mkF m pc' Ls (.int 1 :: S)))) : Rt p e below s k n P (T.setTop (mkF m pc Ls (.ref a :: S))) := by
  subst hp
  obtain ⟨locs, X, N, eT⟩ := X
  obtain ⟨T', X', e', st⟩ := Jvm.RoadKit.instY X hx hZ hown w eT F (g := mkF m pc Ls (.ref a :: S)) rfl rfl hd
  exact Rt.go st (hh T' ⟨_, X', N, e'⟩)
theorem Rt.instNo (X : Sd p l e R s m args below meth c T n0 cells slots h0) (hx : p.tables.exec = Jvm.exec) {Z : State} {a0 : Array Value} (hZ : Z.Warmed39 s.vm) {own K C' : String} {index : Nat} (hown : s.vm.findClass own = some m.cls) (w : (Cond.classLink own index K).before a0 Z = true) (hs0 : s.heap = h0) {a : Addr} (F : Ins Z h0 a K false) (E : Exa Z h0 a C') {pc pc' : Nat} {Ls : Array Slot} {S : List Value} (hd : decode c.code pc = .ok (.instanceof index, 3)) (hp : pc + 3 = pc')
    (hh : ∀ T', Sd p l e R s m args below meth c T' n0 cells slots h0 → Rt p e below s k n P (T'.setTop (mkF m pc' Ls (.int 0 :: S)))) : Rt p e below s k n P (T.setTop (mkF m pc Ls (.ref a :: S))) := by
  subst hp hs0
  obtain ⟨locs, X, N, eT⟩ := X
  obtain ⟨T', X', e', st⟩ := Jvm.RoadKit.instN X hx hZ hown w eT F E (g := mkF m pc Ls (.ref a :: S)) rfl rfl hd
  exact Rt.go st (hh T' ⟨_, X', N, e'⟩)
theorem Rt.instNull (X : Sd p l e R s m args below meth c T n0 cells slots h0) (hx : p.tables.exec = Jvm.exec) {index : Nat} {pc pc' : Nat} {Ls : Array Slot} {S : List Value} (hd : decode c.code pc = .ok (.instanceof index, 3)) (hp : pc + 3 = pc')
    (h : Rt p e below s k n P (T.setTop (mkF m pc' Ls (.int 0 :: S)))) : Rt p e below s k n P (T.setTop (mkF m pc Ls (.null :: S))) := by
  subst hp
  obtain ⟨locs, X, N, eT⟩ := X
  exact Rt.go (X.instanceofNull hx (g := mkF m pc Ls (.null :: S)) rfl rfl hd) h
theorem staK {Z : State} {h h' : Heap} {K f d : String} {v : Value} (F : Sta Z h K f d v) (Kp : Keep h h' []) : Sta Z h' K f d v := by
  obtain ⟨cf, i, k, f, st, cell, h1, h2, h3, h4, h5, r⟩ := F; exact ⟨cf, i, k, f, st, cell, h1, h2, h3, h4, Kp.2.1 _ _ h5 nin0, r⟩
/-- an array of values -/
def IA (Z : State) (h : Heap) (a : Addr) (ty : FieldType) (vs : List Value) : Prop := ∃ cl : Cell, Arr Z h a cl ty ∧ cl.slots = vs.toArray ∧ vs.length < 2 ^ 31
section Arrays
variable {Z : State} {h h' : Heap} {a b : Addr} {ty : FieldType} {vs : List Value}
theorem IA.lt (F : IA Z h a ty vs) : a < h.size := by obtain ⟨_, A, -⟩ := F; exact A.lt
theorem IA.ext (F : IA Z h a ty vs) (E : Ext h h') : IA Z h' a ty vs := by obtain ⟨c, A, r⟩ := F; exact ⟨c, A.ext E, r⟩
theorem IA.other {sl : Nat} {v : Value} (F : IA Z h a ty vs) (W : Wr h h' b sl v) (q : a ≠ b) : IA Z h' a ty vs := by obtain ⟨c, A, r⟩ := F; exact ⟨c, A.other W q, r⟩
theorem IA.keep {ws : List Addr} (F : IA Z h a ty vs) (K : Keep h h' ws) (q : a ∉ ws) : IA Z h' a ty vs := by obtain ⟨c, A, r⟩ := F; exact ⟨c, ⟨K.2.1 a c A.1 q, A.2⟩, r⟩
theorem IA.set {i : Nat} {v : Value} (F : IA Z h a ty vs) (W : Wr h h' a i v) : IA Z h' a ty (vs.set i v) := by
  obtain ⟨c, A, r, q⟩ := F
  refine ⟨_, A.same W, ?_, by rw [List.length_set]; exact q⟩
  show (c.slots.setIfInBounds i v) = _
  rw [r]; simp
theorem IA.new {k : ClassId} {z : Int32} {i : Nat} (A : Arr Z h a (newA k ty z) ty) (hz : z.toNatClampNeg = i) : IA Z h a ty (List.replicate i (defaultValue ty)) := by
  refine ⟨_, A, ?_, ?_⟩
  · show Array.replicate _ _ = _
    rw [hz]; simp
  · rw [List.length_replicate, ← hz]
    have := z.toInt_lt
    simp only [Int32.toNatClampNeg]; omega
theorem inA {cl : Cell} {j : Int32} {i : Nat} (r : cl.slots = vs.toArray) (hj : ¬ j < 0) (hi : j.toNatClampNeg = i) (hv : i < vs.length) : ¬ (j < 0 ∨ cl.slots.size ≤ j.toNatClampNeg) := by
  rintro (q | q)
  · exact hj q
  · rw [r, hi] at q; simp at q; omega
end Arrays
theorem Rt.newP (X : Sd p l e R s m args below meth c T n0 cells slots h0) (hx : p.tables.exec = Jvm.exec) {Z : State} {a0 : Array Value} (hZ : Z.Warmed39 s.vm) {aty : ArrayType} {ty : FieldType} (hty : newarray.typeOf aty = ty) (w : (Cond.arrayClass ty).before a0 Z = true) {z : Int32} {i : Nat} (hz : z.toNatClampNeg = i) (hn : ¬ z < 0) {cap : Nat} (hcap : i ≤ cap) (hb : cap * 8 ≤ 536870912) {pc pc' : Nat} {Ls : Array Slot} {S : List Value} (hd : decode c.code pc = .ok (.newarray aty, 2)) (hc : cells + 1 ≤ R.cells) (hl : slots + cap ≤ R.slots) (hp : pc + 2 = pc')
    (hh : ∀ T' h' a, a = h0.size → Sd p l e R s m args below meth c T' n0 (cells + 1) (slots + cap) h' → Ext h0 h' → IA Z h' a ty (List.replicate i (defaultValue ty)) → Rt p e below s k n P (T'.setTop (mkF m pc' Ls (.ref a :: S)))) : Rt p e below s k n P (T.setTop (mkF m pc Ls (.int z :: S))) := by
  subst hp hty
  obtain ⟨locs, X, N, eT⟩ := X
  obtain ⟨T', h', cA, X', e', E', A', st⟩ := Jvm.RoadKit.newP X hx hZ w eT (g := mkF m pc Ls (.int z :: S)) rfl hd rfl hn (cap := cap) (by rw [hz]; exact hcap) hb hc hl
  exact Rt.go st (hh T' h' _ rfl ⟨_, X', N, e'⟩ E' (IA.new A' hz))
theorem Rt.arraylength (X : Sd p l e R s m args below meth c T n0 cells slots h0) (hx : p.tables.exec = Jvm.exec) {Z : State} (hZ : Z.Warmed39 s.vm) {ty : FieldType} {a : Addr} {vs : List Value} (F : IA Z h0 a ty vs) {v : Int32} (hv : vs.length.toInt32 = v) {pc pc' : Nat} {Ls : Array Slot} {S : List Value} (hd : decode c.code pc = .ok (.arraylength, 1)) (hp : pc + 1 = pc')
    (h : Rt p e below s k n P (T.setTop (mkF m pc' Ls (.int v :: S)))) : Rt p e below s k n P (T.setTop (mkF m pc Ls (.ref a :: S))) := by
  subst hp hv
  obtain ⟨locs, X, N, eT⟩ := X
  obtain ⟨cl, A, r, q⟩ := F
  have e1 : vs.length = cl.slots.size := by rw [r]; simp
  rw [e1] at h
  exact Rt.go (X.arraylength hx (by rw [eT]; exact A.1) (State.isArrayOf_alike hZ.alike A.2.1) (g := mkF m pc Ls (.ref a :: S)) rfl rfl hd) h

theorem Rt.iaload (X : Sd p l e R s m args below meth c T n0 cells slots h0) (hx : p.tables.exec = Jvm.exec) {Z : State} (hZ : Z.Warmed39 s.vm) {a : Addr} {vs : List Value} (F : IA Z h0 a .int vs) {j : Int32} {i : Nat} (hi : j.toNatClampNeg = i) (hj : ¬ j < 0) {v : Value} (hv : vs[i]? = some v) {pc pc' : Nat} {Ls : Array Slot} {S : List Value} (hd : decode c.code pc = .ok (.iaload, 1)) (hp : pc + 1 = pc')
    (h : Rt p e below s k n P (T.setTop (mkF m pc' Ls (v :: S)))) : Rt p e below s k n P (T.setTop (mkF m pc Ls (.int j :: .ref a :: S))) := by
  subst hp
  obtain ⟨locs, X, N, eT⟩ := X
  obtain ⟨cl, A, r, q⟩ := F
  exact Rt.go (X.iaload hx (j := j) (v := v) (by rw [eT]; exact A.1) (State.isArrayOf_alike hZ.alike A.2.1) A.2.2 (inA r hj hi (List.getElem?_eq_some_iff.mp hv).1) (by rw [r, hi]; simpa using hv) (g := mkF m pc Ls (.int j :: .ref a :: S)) rfl rfl hd) h
theorem Rt.laload (X : Sd p l e R s m args below meth c T n0 cells slots h0) (hx : p.tables.exec = Jvm.exec) {Z : State} (hZ : Z.Warmed39 s.vm) {a : Addr} {vs : List Value} (F : IA Z h0 a .long vs) {j : Int32} {i : Nat} (hi : j.toNatClampNeg = i) (hj : ¬ j < 0) {v : Value} (hv : vs[i]? = some v) {pc pc' : Nat} {Ls : Array Slot} {S : List Value} (hd : decode c.code pc = .ok (.laload, 1)) (hp : pc + 1 = pc')
    (h : Rt p e below s k n P (T.setTop (mkF m pc' Ls (v :: S)))) : Rt p e below s k n P (T.setTop (mkF m pc Ls (.int j :: .ref a :: S))) := by
  subst hp
  obtain ⟨locs, X, N, eT⟩ := X
  obtain ⟨cl, A, r, q⟩ := F
  exact Rt.go (X.laload hx (j := j) (v := v) (by rw [eT]; exact A.1) (State.isArrayOf_alike hZ.alike A.2.1) A.2.2 (inA r hj hi (List.getElem?_eq_some_iff.mp hv).1) (by rw [r, hi]; simpa using hv) (g := mkF m pc Ls (.int j :: .ref a :: S)) rfl rfl hd) h
theorem Rt.baload (X : Sd p l e R s m args below meth c T n0 cells slots h0) (hx : p.tables.exec = Jvm.exec) {Z : State} (hZ : Z.Warmed39 s.vm) {a : Addr} {vs : List Value} (F : IA Z h0 a .byte vs) {j : Int32} {i : Nat} (hi : j.toNatClampNeg = i) (hj : ¬ j < 0) {v : Value} (hv : vs[i]? = some v) {pc pc' : Nat} {Ls : Array Slot} {S : List Value} (hd : decode c.code pc = .ok (.baload, 1)) (hp : pc + 1 = pc')
    (h : Rt p e below s k n P (T.setTop (mkF m pc' Ls (v :: S)))) : Rt p e below s k n P (T.setTop (mkF m pc Ls (.int j :: .ref a :: S))) := by
  subst hp
  obtain ⟨locs, X, N, eT⟩ := X
  obtain ⟨cl, A, r, q⟩ := F
  exact Rt.go (X.baloadBytes hx (j := j) (v := v) (by rw [eT]; exact A.1) (State.isArrayOf_alike hZ.alike A.2.1) A.2.2 (inA r hj hi (List.getElem?_eq_some_iff.mp hv).1) (by rw [r, hi]; simpa using hv) (g := mkF m pc Ls (.int j :: .ref a :: S)) rfl rfl hd) h
theorem Rt.zaload (X : Sd p l e R s m args below meth c T n0 cells slots h0) (hx : p.tables.exec = Jvm.exec) {Z : State} (hZ : Z.Warmed39 s.vm) {a : Addr} {vs : List Value} (F : IA Z h0 a .boolean vs) {j : Int32} {i : Nat} (hi : j.toNatClampNeg = i) (hj : ¬ j < 0) {v : Value} (hv : vs[i]? = some v) {pc pc' : Nat} {Ls : Array Slot} {S : List Value} (hd : decode c.code pc = .ok (.baload, 1)) (hp : pc + 1 = pc')
    (h : Rt p e below s k n P (T.setTop (mkF m pc' Ls (v :: S)))) : Rt p e below s k n P (T.setTop (mkF m pc Ls (.int j :: .ref a :: S))) := by
  subst hp
  obtain ⟨locs, X, N, eT⟩ := X
  obtain ⟨cl, A, r, q⟩ := F
  exact Rt.go (X.baloadBooleans hx (j := j) (v := v) (by rw [eT]; exact A.1) (State.isArrayOf_alike hZ.alike A.2.1) A.2.2 (inA r hj hi (List.getElem?_eq_some_iff.mp hv).1) (by rw [r, hi]; simpa using hv) (g := mkF m pc Ls (.int j :: .ref a :: S)) rfl rfl hd) h
theorem Rt.caload (X : Sd p l e R s m args below meth c T n0 cells slots h0) (hx : p.tables.exec = Jvm.exec) {Z : State} (hZ : Z.Warmed39 s.vm) {a : Addr} {vs : List Value} (F : IA Z h0 a .char vs) {j : Int32} {i : Nat} (hi : j.toNatClampNeg = i) (hj : ¬ j < 0) {v : Value} (hv : vs[i]? = some v) {pc pc' : Nat} {Ls : Array Slot} {S : List Value} (hd : decode c.code pc = .ok (.caload, 1)) (hp : pc + 1 = pc')
    (h : Rt p e below s k n P (T.setTop (mkF m pc' Ls (v :: S)))) : Rt p e below s k n P (T.setTop (mkF m pc Ls (.int j :: .ref a :: S))) := by
  subst hp
  obtain ⟨locs, X, N, eT⟩ := X
  obtain ⟨cl, A, r, q⟩ := F
  exact Rt.go (X.caload hx (j := j) (v := v) (by rw [eT]; exact A.1) (State.isArrayOf_alike hZ.alike A.2.1) A.2.2 (inA r hj hi (List.getElem?_eq_some_iff.mp hv).1) (by rw [r, hi]; simpa using hv) (g := mkF m pc Ls (.int j :: .ref a :: S)) rfl rfl hd) h
theorem Rt.aaload (X : Sd p l e R s m args below meth c T n0 cells slots h0) (hx : p.tables.exec = Jvm.exec) {Z : State} (hZ : Z.Warmed39 s.vm) {ty : FieldType} (hty : ty.isReference = true) {a : Addr} {vs : List Value} (F : IA Z h0 a ty vs) {j : Int32} {i : Nat} (hi : j.toNatClampNeg = i) (hj : ¬ j < 0) {v : Value} (hv : vs[i]? = some v) {pc pc' : Nat} {Ls : Array Slot} {S : List Value} (hd : decode c.code pc = .ok (.aaload, 1)) (hp : pc + 1 = pc')
    (h : Rt p e below s k n P (T.setTop (mkF m pc' Ls (v :: S)))) : Rt p e below s k n P (T.setTop (mkF m pc Ls (.int j :: .ref a :: S))) := by
  subst hp
  obtain ⟨locs, X, N, eT⟩ := X
  obtain ⟨cl, A, r, q⟩ := F
  exact Rt.go (X.aaload hx (j := j) (v := v) (by rw [eT]; exact A.1) (State.isArrayOf_alike hZ.alike A.2.1) hty A.2.2 (inA r hj hi (List.getElem?_eq_some_iff.mp hv).1) (by rw [r, hi]; simpa using hv) (g := mkF m pc Ls (.int j :: .ref a :: S)) rfl rfl hd) h
theorem Rt.iastore (X : Sd p l e R s m args below meth c T n0 cells slots h0) (hx : p.tables.exec = Jvm.exec) {Z : State} (hZ : Z.Warmed39 s.vm) {a : Addr} {vs : List Value} (F : IA Z h0 a .int vs) {j : Int32} {i : Nat} (hi : j.toNatClampNeg = i) (hj : ¬ j < 0) (hv : i < vs.length) {x : Int32} {w : Value} (hw : .int x = w) (ga : n0 ≤ a) {pc pc' : Nat} {Ls : Array Slot} {S : List Value} (hd : decode c.code pc = .ok (.iastore, 1)) (hp : pc + 1 = pc')
    (hh : ∀ T' h', Sd p l e R s m args below meth c T' n0 cells slots h' → Wr h0 h' a i w → IA Z h' a .int (vs.set i w) → Rt p e below s k n P (T'.setTop (mkF m pc' Ls S))) : Rt p e below s k n P (T.setTop (mkF m pc Ls (.int x :: .int j :: .ref a :: S))) := by
  subst hp hw
  obtain ⟨locs, X, N, eT⟩ := X
  obtain ⟨cl, A, r, q⟩ := id F
  obtain ⟨T', h', X', e', W', st⟩ := stI X hx hZ eT A (j := j) (inA r hj hi hv) (g := mkF m pc Ls (.int x :: .int j :: .ref a :: S)) rfl rfl hd
  rw [hi] at W'
  exact Rt.go st (hh T' h' ⟨_, X', Fr.snoc X' N ga, e'⟩ W' (F.set W'))
theorem Rt.lastore (X : Sd p l e R s m args below meth c T n0 cells slots h0) (hx : p.tables.exec = Jvm.exec) {Z : State} (hZ : Z.Warmed39 s.vm) {a : Addr} {vs : List Value} (F : IA Z h0 a .long vs) {j : Int32} {i : Nat} (hi : j.toNatClampNeg = i) (hj : ¬ j < 0) (hv : i < vs.length) {x : Int64} {w : Value} (hw : .long x = w) (ga : n0 ≤ a) {pc pc' : Nat} {Ls : Array Slot} {S : List Value} (hd : decode c.code pc = .ok (.lastore, 1)) (hp : pc + 1 = pc')
    (hh : ∀ T' h', Sd p l e R s m args below meth c T' n0 cells slots h' → Wr h0 h' a i w → IA Z h' a .long (vs.set i w) → Rt p e below s k n P (T'.setTop (mkF m pc' Ls S))) : Rt p e below s k n P (T.setTop (mkF m pc Ls (.long x :: .int j :: .ref a :: S))) := by
  subst hp hw
  obtain ⟨locs, X, N, eT⟩ := X
  obtain ⟨cl, A, r, q⟩ := id F
  obtain ⟨T', h', X', e', W', st⟩ := stJ X hx hZ eT A (j := j) (inA r hj hi hv) (g := mkF m pc Ls (.long x :: .int j :: .ref a :: S)) rfl rfl hd
  rw [hi] at W'
  exact Rt.go st (hh T' h' ⟨_, X', Fr.snoc X' N ga, e'⟩ W' (F.set W'))
theorem Rt.bastore (X : Sd p l e R s m args below meth c T n0 cells slots h0) (hx : p.tables.exec = Jvm.exec) {Z : State} (hZ : Z.Warmed39 s.vm) {a : Addr} {vs : List Value} (F : IA Z h0 a .byte vs) {j : Int32} {i : Nat} (hi : j.toNatClampNeg = i) (hj : ¬ j < 0) (hv : i < vs.length) {x : Int32} {w : Value} (hw : .int (nar .byte x) = w) (ga : n0 ≤ a) {pc pc' : Nat} {Ls : Array Slot} {S : List Value} (hd : decode c.code pc = .ok (.bastore, 1)) (hp : pc + 1 = pc')
    (hh : ∀ T' h', Sd p l e R s m args below meth c T' n0 cells slots h' → Wr h0 h' a i w → IA Z h' a .byte (vs.set i w) → Rt p e below s k n P (T'.setTop (mkF m pc' Ls S))) : Rt p e below s k n P (T.setTop (mkF m pc Ls (.int x :: .int j :: .ref a :: S))) := by
  subst hp hw
  obtain ⟨locs, X, N, eT⟩ := X
  obtain ⟨cl, A, r, q⟩ := id F
  obtain ⟨T', h', X', e', W', st⟩ := stB X hx hZ eT A (j := j) (inA r hj hi hv) (g := mkF m pc Ls (.int x :: .int j :: .ref a :: S)) rfl rfl hd
  rw [hi] at W'
  exact Rt.go st (hh T' h' ⟨_, X', Fr.snoc X' N ga, e'⟩ W' (F.set W'))
theorem Rt.zastore (X : Sd p l e R s m args below meth c T n0 cells slots h0) (hx : p.tables.exec = Jvm.exec) {Z : State} (hZ : Z.Warmed39 s.vm) {a : Addr} {vs : List Value} (F : IA Z h0 a .boolean vs) {j : Int32} {i : Nat} (hi : j.toNatClampNeg = i) (hj : ¬ j < 0) (hv : i < vs.length) {x : Int32} {w : Value} (hw : .int (nar .boolean x) = w) (ga : n0 ≤ a) {pc pc' : Nat} {Ls : Array Slot} {S : List Value} (hd : decode c.code pc = .ok (.bastore, 1)) (hp : pc + 1 = pc')
    (hh : ∀ T' h', Sd p l e R s m args below meth c T' n0 cells slots h' → Wr h0 h' a i w → IA Z h' a .boolean (vs.set i w) → Rt p e below s k n P (T'.setTop (mkF m pc' Ls S))) : Rt p e below s k n P (T.setTop (mkF m pc Ls (.int x :: .int j :: .ref a :: S))) := by
  subst hp hw
  obtain ⟨locs, X, N, eT⟩ := X
  obtain ⟨cl, A, r, q⟩ := id F
  obtain ⟨T', h', X', e', W', st⟩ := stZ X hx hZ eT A (j := j) (inA r hj hi hv) (g := mkF m pc Ls (.int x :: .int j :: .ref a :: S)) rfl rfl hd
  rw [hi] at W'
  exact Rt.go st (hh T' h' ⟨_, X', Fr.snoc X' N ga, e'⟩ W' (F.set W'))
theorem Rt.castore (X : Sd p l e R s m args below meth c T n0 cells slots h0) (hx : p.tables.exec = Jvm.exec) {Z : State} (hZ : Z.Warmed39 s.vm) {a : Addr} {vs : List Value} (F : IA Z h0 a .char vs) {j : Int32} {i : Nat} (hi : j.toNatClampNeg = i) (hj : ¬ j < 0) (hv : i < vs.length) {x : Int32} {w : Value} (hw : .int (nar .char x) = w) (ga : n0 ≤ a) {pc pc' : Nat} {Ls : Array Slot} {S : List Value} (hd : decode c.code pc = .ok (.castore, 1)) (hp : pc + 1 = pc')
    (hh : ∀ T' h', Sd p l e R s m args below meth c T' n0 cells slots h' → Wr h0 h' a i w → IA Z h' a .char (vs.set i w) → Rt p e below s k n P (T'.setTop (mkF m pc' Ls S))) : Rt p e below s k n P (T.setTop (mkF m pc Ls (.int x :: .int j :: .ref a :: S))) := by
  subst hp hw
  obtain ⟨locs, X, N, eT⟩ := X
  obtain ⟨cl, A, r, q⟩ := id F
  obtain ⟨T', h', X', e', W', st⟩ := stC X hx hZ eT A (j := j) (inA r hj hi hv) (g := mkF m pc Ls (.int x :: .int j :: .ref a :: S)) rfl rfl hd
  rw [hi] at W'
  exact Rt.go st (hh T' h' ⟨_, X', Fr.snoc X' N ga, e'⟩ W' (F.set W'))
/-- an array of so many elements -/
def IL (Z : State) (h : Heap) (a : Addr) (ty : FieldType) (N : Nat) : Prop := ∃ vs, IA Z h a ty vs ∧ vs.length = N
section Arrays
variable {Z : State} {h h' : Heap} {a b : Addr} {ty : FieldType} {N : Nat}
theorem IL.lt (F : IL Z h a ty N) : a < h.size := by obtain ⟨_, A, -⟩ := F; exact A.lt
theorem IL.ext (F : IL Z h a ty N) (E : Ext h h') : IL Z h' a ty N := by obtain ⟨c, A, r⟩ := F; exact ⟨c, A.ext E, r⟩
theorem IL.other {sl : Nat} {v : Value} (F : IL Z h a ty N) (W : Wr h h' b sl v) (q : a ≠ b) : IL Z h' a ty N := by obtain ⟨c, A, r⟩ := F; exact ⟨c, A.other W q, r⟩
theorem IL.wr {sl : Nat} {v : Value} (F : IL Z h a ty N) (W : Wr h h' b sl v) : IL Z h' a ty N := by
  obtain ⟨vs, A, r⟩ := F
  by_cases q : a = b
  · subst q; exact ⟨_, A.set W, by rw [List.length_set]; exact r⟩
  · exact ⟨vs, A.other W q, r⟩
theorem IL.keep {ws : List Addr} (F : IL Z h a ty N) (K : Keep h h' ws) : IL Z h' a ty N := by
  obtain ⟨vs, ⟨c, ⟨A1, ⟨A2, A3⟩, A4⟩, r1, r2⟩, r⟩ := F
  obtain ⟨c', q, e1, e2, e3⟩ := K.2.2 a c A1
  refine ⟨c'.slots.toList, ⟨c', ⟨q, ⟨?_, ?_⟩, by rw [e2]; exact A4⟩, by simp, ?_⟩, ?_⟩
  · rw [e2]; exact A2
  · rw [e1]; exact A3
  · rw [Array.length_toList, e3, r1]; simpa using r2
  · rw [Array.length_toList, e3, r1]; simpa using r
end Arrays
theorem Rt.arraylengthL (X : Sd p l e R s m args below meth c T n0 cells slots h0) (hx : p.tables.exec = Jvm.exec) {Z : State} (hZ : Z.Warmed39 s.vm) {ty : FieldType} {a : Addr} {N : Nat} (F : IL Z h0 a ty N) {v : Int32} (hv : N.toInt32 = v) {pc pc' : Nat} {Ls : Array Slot} {S : List Value} (hd : decode c.code pc = .ok (.arraylength, 1)) (hp : pc + 1 = pc')
    (h : Rt p e below s k n P (T.setTop (mkF m pc' Ls (.int v :: S)))) : Rt p e below s k n P (T.setTop (mkF m pc Ls (.ref a :: S))) := by
  obtain ⟨vs, F, rfl⟩ := F
  exact Rt.arraylength X hx hZ F hv hd hp h
theorem Rt.iastoreL (X : Sd p l e R s m args below meth c T n0 cells slots h0) (hx : p.tables.exec = Jvm.exec) {Z : State} (hZ : Z.Warmed39 s.vm) {a : Addr} {N : Nat} (F : IL Z h0 a .int N) {j : Int32} {i : Nat} (hi : j.toNatClampNeg = i) (hj : ¬ j < 0) (hv : i < N) {x : Int32} (ga : n0 ≤ a) {pc pc' : Nat} {Ls : Array Slot} {S : List Value} (hd : decode c.code pc = .ok (.iastore, 1)) (hp : pc + 1 = pc')
    (hh : ∀ T' h', Sd p l e R s m args below meth c T' n0 cells slots h' → ∀ w, Wr h0 h' a i w → IL Z h' a .int N → Rt p e below s k n P (T'.setTop (mkF m pc' Ls S))) : Rt p e below s k n P (T.setTop (mkF m pc Ls (.int x :: .int j :: .ref a :: S))) := by
  obtain ⟨vs, F, rfl⟩ := F
  exact Rt.iastore X hx hZ F hi hj hv rfl ga hd hp fun T' h' X' W' F' => hh T' h' X' _ W' ⟨_, F', List.length_set⟩
theorem Rt.lastoreL (X : Sd p l e R s m args below meth c T n0 cells slots h0) (hx : p.tables.exec = Jvm.exec) {Z : State} (hZ : Z.Warmed39 s.vm) {a : Addr} {N : Nat} (F : IL Z h0 a .long N) {j : Int32} {i : Nat} (hi : j.toNatClampNeg = i) (hj : ¬ j < 0) (hv : i < N) {x : Int64} (ga : n0 ≤ a) {pc pc' : Nat} {Ls : Array Slot} {S : List Value} (hd : decode c.code pc = .ok (.lastore, 1)) (hp : pc + 1 = pc')
    (hh : ∀ T' h', Sd p l e R s m args below meth c T' n0 cells slots h' → ∀ w, Wr h0 h' a i w → IL Z h' a .long N → Rt p e below s k n P (T'.setTop (mkF m pc' Ls S))) : Rt p e below s k n P (T.setTop (mkF m pc Ls (.long x :: .int j :: .ref a :: S))) := by
  obtain ⟨vs, F, rfl⟩ := F
  exact Rt.lastore X hx hZ F hi hj hv rfl ga hd hp fun T' h' X' W' F' => hh T' h' X' _ W' ⟨_, F', List.length_set⟩
theorem Rt.bastoreL (X : Sd p l e R s m args below meth c T n0 cells slots h0) (hx : p.tables.exec = Jvm.exec) {Z : State} (hZ : Z.Warmed39 s.vm) {a : Addr} {N : Nat} (F : IL Z h0 a .byte N) {j : Int32} {i : Nat} (hi : j.toNatClampNeg = i) (hj : ¬ j < 0) (hv : i < N) {x : Int32} (ga : n0 ≤ a) {pc pc' : Nat} {Ls : Array Slot} {S : List Value} (hd : decode c.code pc = .ok (.bastore, 1)) (hp : pc + 1 = pc')
    (hh : ∀ T' h', Sd p l e R s m args below meth c T' n0 cells slots h' → ∀ w, Wr h0 h' a i w → IL Z h' a .byte N → Rt p e below s k n P (T'.setTop (mkF m pc' Ls S))) : Rt p e below s k n P (T.setTop (mkF m pc Ls (.int x :: .int j :: .ref a :: S))) := by
  obtain ⟨vs, F, rfl⟩ := F
  exact Rt.bastore X hx hZ F hi hj hv rfl ga hd hp fun T' h' X' W' F' => hh T' h' X' _ W' ⟨_, F', List.length_set⟩
theorem Rt.zastoreL (X : Sd p l e R s m args below meth c T n0 cells slots h0) (hx : p.tables.exec = Jvm.exec) {Z : State} (hZ : Z.Warmed39 s.vm) {a : Addr} {N : Nat} (F : IL Z h0 a .boolean N) {j : Int32} {i : Nat} (hi : j.toNatClampNeg = i) (hj : ¬ j < 0) (hv : i < N) {x : Int32} (ga : n0 ≤ a) {pc pc' : Nat} {Ls : Array Slot} {S : List Value} (hd : decode c.code pc = .ok (.bastore, 1)) (hp : pc + 1 = pc')
    (hh : ∀ T' h', Sd p l e R s m args below meth c T' n0 cells slots h' → ∀ w, Wr h0 h' a i w → IL Z h' a .boolean N → Rt p e below s k n P (T'.setTop (mkF m pc' Ls S))) : Rt p e below s k n P (T.setTop (mkF m pc Ls (.int x :: .int j :: .ref a :: S))) := by
  obtain ⟨vs, F, rfl⟩ := F
  exact Rt.zastore X hx hZ F hi hj hv rfl ga hd hp fun T' h' X' W' F' => hh T' h' X' _ W' ⟨_, F', List.length_set⟩
theorem Rt.castoreL (X : Sd p l e R s m args below meth c T n0 cells slots h0) (hx : p.tables.exec = Jvm.exec) {Z : State} (hZ : Z.Warmed39 s.vm) {a : Addr} {N : Nat} (F : IL Z h0 a .char N) {j : Int32} {i : Nat} (hi : j.toNatClampNeg = i) (hj : ¬ j < 0) (hv : i < N) {x : Int32} (ga : n0 ≤ a) {pc pc' : Nat} {Ls : Array Slot} {S : List Value} (hd : decode c.code pc = .ok (.castore, 1)) (hp : pc + 1 = pc')
    (hh : ∀ T' h', Sd p l e R s m args below meth c T' n0 cells slots h' → ∀ w, Wr h0 h' a i w → IL Z h' a .char N → Rt p e below s k n P (T'.setTop (mkF m pc' Ls S))) : Rt p e below s k n P (T.setTop (mkF m pc Ls (.int x :: .int j :: .ref a :: S))) := by
  obtain ⟨vs, F, rfl⟩ := F
  exact Rt.castore X hx hZ F hi hj hv rfl ga hd hp fun T' h' X' W' F' => hh T' h' X' _ W' ⟨_, F', List.length_set⟩
end Own
abbrev nm1 : String := "com/example/cogwire/cogwire/wire/ByteSink"
abbrev mt1 : MethodName := ⟨"com/example/cogwire/cogwire/wire/ByteSinkUintXLengthPinLaw", "reference", "(J)I"⟩
abbrev mt2 : MethodName := ⟨"com/example/cogwire/cogwire/wire/ByteSink", "uintXLength", "(J)I"⟩
abbrev mt3 : MethodName := ⟨"com/example/cogwire/cogwire/wire/ByteSink", "<init>", "(I)V"⟩
abbrev mt4 : MethodName := ⟨"com/example/cogwire/cogwire/wire/ByteSink", "ensure", "(I)V"⟩
abbrev mt5 : MethodName := ⟨"com/example/cogwire/cogwire/wire/ByteSink", "u8", "(I)V"⟩
abbrev mt6 : MethodName := ⟨"com/example/cogwire/cogwire/wire/ByteSink", "u16", "(I)V"⟩
abbrev mt7 : MethodName := ⟨"com/example/cogwire/cogwire/wire/ByteSink", "u32", "(J)V"⟩
abbrev mt8 : MethodName := ⟨"com/example/cogwire/cogwire/wire/ByteSink", "u64", "(J)V"⟩
abbrev mt9 : MethodName := ⟨"com/example/cogwire/cogwire/wire/ByteSink", "uintX", "(J)V"⟩
abbrev mt10 : MethodName := ⟨"com/example/cogwire/cogwire/wire/ByteSink", "size", "()I"⟩
theorem d1_0 : decode method_2_code 0 = .ok (.lload_n 0, 1) := by decide +kernel
theorem d1_1 : decode method_2_code 1 = .ok (.lconst 0, 1) := by decide +kernel
theorem d1_2 : decode method_2_code 2 = .ok (.lcmp, 1) := by decide +kernel
theorem d1_3 : decode method_2_code 3 = .ok (.ifCond .ge 6, 3) := by decide +kernel
theorem d1_6 : decode method_2_code 6 = .ok (.bipush 9, 2) := by decide +kernel
theorem d1_8 : decode method_2_code 8 = .ok (.ireturn, 1) := by decide +kernel
theorem d1_9 : decode method_2_code 9 = .ok (.lload_n 0, 1) := by decide +kernel
theorem d1_10 : decode method_2_code 10 = .ok (.bipush 32, 2) := by decide +kernel
theorem d1_12 : decode method_2_code 12 = .ok (.lushr, 1) := by decide +kernel
theorem d1_13 : decode method_2_code 13 = .ok (.lconst 0, 1) := by decide +kernel
theorem d1_14 : decode method_2_code 14 = .ok (.lcmp, 1) := by decide +kernel
theorem d1_15 : decode method_2_code 15 = .ok (.ifCond .eq 6, 3) := by decide +kernel
theorem d1_21 : decode method_2_code 21 = .ok (.lload_n 0, 1) := by decide +kernel
theorem d1_22 : decode method_2_code 22 = .ok (.bipush 16, 2) := by decide +kernel
theorem d1_24 : decode method_2_code 24 = .ok (.lushr, 1) := by decide +kernel
theorem d1_25 : decode method_2_code 25 = .ok (.lconst 0, 1) := by decide +kernel
theorem d1_26 : decode method_2_code 26 = .ok (.lcmp, 1) := by decide +kernel
theorem d1_27 : decode method_2_code 27 = .ok (.ifCond .eq 5, 3) := by decide +kernel
theorem d1_32 : decode method_2_code 32 = .ok (.lload_n 0, 1) := by decide +kernel
theorem d1_33 : decode method_2_code 33 = .ok (.ldc2_w 7, 3) := by decide +kernel
theorem d1_36 : decode method_2_code 36 = .ok (.lcmp, 1) := by decide +kernel
theorem d1_37 : decode method_2_code 37 = .ok (.ifCond .le 5, 3) := by decide +kernel
theorem d1_40 : decode method_2_code 40 = .ok (.iconst 3, 1) := by decide +kernel
theorem d1_41 : decode method_2_code 41 = .ok (.ireturn, 1) := by decide +kernel
theorem d1_42 : decode method_2_code 42 = .ok (.iconst 1, 1) := by decide +kernel
theorem d1_43 : decode method_2_code 43 = .ok (.ireturn, 1) := by decide +kernel
theorem d1_30 : decode method_2_code 30 = .ok (.iconst 5, 1) := by decide +kernel
theorem d1_31 : decode method_2_code 31 = .ok (.ireturn, 1) := by decide +kernel
theorem d1_18 : decode method_2_code 18 = .ok (.bipush 9, 2) := by decide +kernel
theorem d1_20 : decode method_2_code 20 = .ok (.ireturn, 1) := by decide +kernel
def f1 (q1 : Int64) : Int32 := (if q1 < (0 : Int64) then (9 : Int32) else (if ((q1.toUInt64 >>> ((32 : Int32) &&& 0x3f).toInt64.toUInt64).toInt64) = (0 : Int64) then (if ((q1.toUInt64 >>> ((16 : Int32) &&& 0x3f).toInt64.toUInt64).toInt64) = (0 : Int64) then (if (252 : Int64) < q1 then (3 : Int32) else (1 : Int32)) else (5 : Int32)) else (9 : Int32)))
def Q1 (q1 : Int64) (h0 : Heap) (n0 : Nat) (v : Option Value) (h : Heap) (L : List Loc) : Prop := v = some (.int (f1 q1)) ∧ Fr n0 L ∧ h = h0
def rmR1 : Room := { frames := 0, cells := 0, slots := 0, locals := 0 }
theorem ef_1 (m : MethodId) (q1 : Int64) : entryFrame m #[(.long q1)] 2 = mkF m 0 #[.val (.long q1), .second] [] := by first | (simp [entryFrame, mkF, argsToLocals, Value.category]; done) | rfl
theorem pn_com_example_cogwire_cogwire_wire_ByteSinkUintXLengthPinLaw : plainName "com/example/cogwire/cogwire/wire/ByteSinkUintXLengthPinLaw" = true := by first | (simp [plainName, overriddenIn]; done) | decide +kernel
set_option maxRecDepth 65536 in
set_option maxHeartbeats 40000000 in
theorem rm1 (l : Launch) (Z : State) (a0 : Array Value) (hw : ∀ d ∈ tables_1, d.before a0 Z = true) (ws : List Jvm.Cond) (q1 : Int64) (h0 : Heap) (n0 : Nat) :
    Mt l Z mt1 (Jvm.Cond.code mt1 method_2_code 2 (some .int) :: ws) rmR1 #[(.long q1)] h0 (Q1 q1 h0 n0) := by
  refine Mt.of n0 (plainFor_of_name pn_com_example_cogwire_cogwire_wire_ByteSinkUintXLengthPinLaw) ?_
  intro p e s m below meth c T0 X0 hx hZ hby hml hown hret hlk hnm hs0
  have hown : s.vm.findClass "com/example/cogwire/cogwire/wire/ByteSinkUintXLengthPinLaw" = some m.cls := hown
  rw [ef_1]
  show Rt p e below s rmR1.cells rmR1.slots (Q1 q1 h0 n0) (T0.setTop (mkF m 0 #[.val (.long q1), .second] []))
  refine Rt.lloadN (pc' := 1) X0 hx (hb hby d1_0) rfl rfl ?_
  refine Rt.lconst (pc' := 2) (v := (0 : Int64)) X0 hx (hb hby d1_1) rfl rfl ?_
  refine Rt.lcmp (pc' := 3) X0 hx (hb hby d1_2) rfl ?_
  by_cases hc3_1 : q1 < (0 : Int64)
  · refine Rt.ifN (pc' := 6) X0 hx (hb hby d1_3) (ltl hc3_1).2 rfl ?_
    refine Rt.bipush (pc' := 8) (v := (9 : Int32)) X0 hx (hb hby d1_6) rfl rfl ?_
    exact Rt.retI X0 hx hlk hret (hb hby d1_8) (by decide) (by decide) (fun L N => ⟨congrArg some (congrArg Value.int (by rw [f1, if_pos hc3_1])), N, rfl⟩)
  · refine Rt.ifY (pc' := 9) X0 hx (hb hby d1_3) (lfl hc3_1).2 (by decide) (by decide) ?_
    refine Rt.lloadN (pc' := 10) X0 hx (hb hby d1_9) rfl rfl ?_
    refine Rt.bipush (pc' := 12) (v := (32 : Int32)) X0 hx (hb hby d1_10) rfl rfl ?_
    refine Rt.lushr (pc' := 13) (r := ((q1.toUInt64 >>> ((32 : Int32) &&& 0x3f).toInt64.toUInt64).toInt64)) X0 hx (hb hby d1_12) rfl rfl ?_
    refine Rt.lconst (pc' := 14) (v := (0 : Int64)) X0 hx (hb hby d1_13) rfl rfl ?_
    refine Rt.lcmp (pc' := 15) X0 hx (hb hby d1_14) rfl ?_
    by_cases hc15_2 : ((q1.toUInt64 >>> ((32 : Int32) &&& 0x3f).toInt64.toUInt64).toInt64) = (0 : Int64)
    · refine Rt.ifY (pc' := 21) X0 hx (hb hby d1_15) (etl hc15_2).1 (by decide) (by decide) ?_
      refine Rt.lloadN (pc' := 22) X0 hx (hb hby d1_21) rfl rfl ?_
      refine Rt.bipush (pc' := 24) (v := (16 : Int32)) X0 hx (hb hby d1_22) rfl rfl ?_
      refine Rt.lushr (pc' := 25) (r := ((q1.toUInt64 >>> ((16 : Int32) &&& 0x3f).toInt64.toUInt64).toInt64)) X0 hx (hb hby d1_24) rfl rfl ?_
      refine Rt.lconst (pc' := 26) (v := (0 : Int64)) X0 hx (hb hby d1_25) rfl rfl ?_
      refine Rt.lcmp (pc' := 27) X0 hx (hb hby d1_26) rfl ?_
      by_cases hc27_3 : ((q1.toUInt64 >>> ((16 : Int32) &&& 0x3f).toInt64.toUInt64).toInt64) = (0 : Int64)
      · refine Rt.ifY (pc' := 32) X0 hx (hb hby d1_27) (etl hc27_3).1 (by decide) (by decide) ?_
        refine Rt.lloadN (pc' := 33) X0 hx (hb hby d1_32) rfl rfl ?_
        refine Rt.ldc2Long (pc' := 36) X0 hx hZ hown (hw _ (List.mem_of_getElem? (i := 1) rfl)) (hb hby d1_33) rfl ?_
        refine Rt.lcmp (pc' := 37) X0 hx (hb hby d1_36) rfl ?_
        by_cases hc37_4 : (252 : Int64) < q1
        · refine Rt.ifN (pc' := 40) X0 hx (hb hby d1_37) (gtl hc37_4).2 rfl ?_
          refine Rt.iconst (pc' := 41) (v := (3 : Int32)) X0 hx (hb hby d1_40) rfl rfl ?_
          exact Rt.retI X0 hx hlk hret (hb hby d1_41) (by decide) (by decide) (fun L N => ⟨congrArg some (congrArg Value.int (by rw [f1, if_neg hc3_1, if_pos hc15_2, if_pos hc27_3, if_pos hc37_4])), N, rfl⟩)
        · refine Rt.ifY (pc' := 42) X0 hx (hb hby d1_37) (gfl hc37_4).2 (by decide) (by decide) ?_
          refine Rt.iconst (pc' := 43) (v := (1 : Int32)) X0 hx (hb hby d1_42) rfl rfl ?_
          exact Rt.retI X0 hx hlk hret (hb hby d1_43) (by decide) (by decide) (fun L N => ⟨congrArg some (congrArg Value.int (by rw [f1, if_neg hc3_1, if_pos hc15_2, if_pos hc27_3, if_neg hc37_4])), N, rfl⟩)
      · refine Rt.ifN (pc' := 30) X0 hx (hb hby d1_27) (efl hc27_3).1 rfl ?_
        refine Rt.iconst (pc' := 31) (v := (5 : Int32)) X0 hx (hb hby d1_30) rfl rfl ?_
        exact Rt.retI X0 hx hlk hret (hb hby d1_31) (by decide) (by decide) (fun L N => ⟨congrArg some (congrArg Value.int (by rw [f1, if_neg hc3_1, if_pos hc15_2, if_neg hc27_3])), N, rfl⟩)
    · refine Rt.ifN (pc' := 18) X0 hx (hb hby d1_15) (efl hc15_2).1 rfl ?_
      refine Rt.bipush (pc' := 20) (v := (9 : Int32)) X0 hx (hb hby d1_18) rfl rfl ?_
      exact Rt.retI X0 hx hlk hret (hb hby d1_20) (by decide) (by decide) (fun L N => ⟨congrArg some (congrArg Value.int (by rw [f1, if_neg hc3_1, if_neg hc15_2])), N, rfl⟩)
theorem d2_0 : decode prog_114_method_12_code 0 = .ok (.lload_n 0, 1) := by decide +kernel
theorem d2_1 : decode prog_114_method_12_code 1 = .ok (.lconst 0, 1) := by decide +kernel
theorem d2_2 : decode prog_114_method_12_code 2 = .ok (.lcmp, 1) := by decide +kernel
theorem d2_3 : decode prog_114_method_12_code 3 = .ok (.ifCond .lt 13, 3) := by decide +kernel
theorem d2_16 : decode prog_114_method_12_code 16 = .ok (.lload_n 0, 1) := by decide +kernel
theorem d2_17 : decode prog_114_method_12_code 17 = .ok (.lconst 0, 1) := by decide +kernel
theorem d2_18 : decode prog_114_method_12_code 18 = .ok (.lcmp, 1) := by decide +kernel
theorem d2_19 : decode prog_114_method_12_code 19 = .ok (.ifCond .lt 13, 3) := by decide +kernel
theorem d2_32 : decode prog_114_method_12_code 32 = .ok (.lload_n 0, 1) := by decide +kernel
theorem d2_33 : decode prog_114_method_12_code 33 = .ok (.lconst 0, 1) := by decide +kernel
theorem d2_34 : decode prog_114_method_12_code 34 = .ok (.lcmp, 1) := by decide +kernel
theorem d2_35 : decode prog_114_method_12_code 35 = .ok (.ifCond .lt 13, 3) := by decide +kernel
theorem d2_48 : decode prog_114_method_12_code 48 = .ok (.bipush 9, 2) := by decide +kernel
theorem d2_50 : decode prog_114_method_12_code 50 = .ok (.ireturn, 1) := by decide +kernel
theorem d2_38 : decode prog_114_method_12_code 38 = .ok (.lload_n 0, 1) := by decide +kernel
theorem d2_39 : decode prog_114_method_12_code 39 = .ok (.ldc2_w 51, 3) := by decide +kernel
theorem d2_42 : decode prog_114_method_12_code 42 = .ok (.lcmp, 1) := by decide +kernel
theorem d2_43 : decode prog_114_method_12_code 43 = .ok (.ifCond .gt 5, 3) := by decide +kernel
theorem d2_46 : decode prog_114_method_12_code 46 = .ok (.iconst 5, 1) := by decide +kernel
theorem d2_47 : decode prog_114_method_12_code 47 = .ok (.ireturn, 1) := by decide +kernel
theorem d2_22 : decode prog_114_method_12_code 22 = .ok (.lload_n 0, 1) := by decide +kernel
theorem d2_23 : decode prog_114_method_12_code 23 = .ok (.ldc2_w 44, 3) := by decide +kernel
theorem d2_26 : decode prog_114_method_12_code 26 = .ok (.lcmp, 1) := by decide +kernel
theorem d2_27 : decode prog_114_method_12_code 27 = .ok (.ifCond .gt 5, 3) := by decide +kernel
theorem d2_30 : decode prog_114_method_12_code 30 = .ok (.iconst 3, 1) := by decide +kernel
theorem d2_31 : decode prog_114_method_12_code 31 = .ok (.ireturn, 1) := by decide +kernel
theorem d2_6 : decode prog_114_method_12_code 6 = .ok (.lload_n 0, 1) := by decide +kernel
theorem d2_7 : decode prog_114_method_12_code 7 = .ok (.ldc2_w 39, 3) := by decide +kernel
theorem d2_10 : decode prog_114_method_12_code 10 = .ok (.lcmp, 1) := by decide +kernel
theorem d2_11 : decode prog_114_method_12_code 11 = .ok (.ifCond .gt 5, 3) := by decide +kernel
theorem d2_14 : decode prog_114_method_12_code 14 = .ok (.iconst 1, 1) := by decide +kernel
theorem d2_15 : decode prog_114_method_12_code 15 = .ok (.ireturn, 1) := by decide +kernel
def f2 (q1 : Int64) : Int32 := (if q1 < (0 : Int64) then (if q1 < (0 : Int64) then (if q1 < (0 : Int64) then (9 : Int32) else (if (4294967295 : Int64) < q1 then (9 : Int32) else (5 : Int32))) else (if (65535 : Int64) < q1 then (if q1 < (0 : Int64) then (9 : Int32) else (if (4294967295 : Int64) < q1 then (9 : Int32) else (5 : Int32))) else (3 : Int32))) else (if (252 : Int64) < q1 then (if q1 < (0 : Int64) then (if q1 < (0 : Int64) then (9 : Int32) else (if (4294967295 : Int64) < q1 then (9 : Int32) else (5 : Int32))) else (if (65535 : Int64) < q1 then (if q1 < (0 : Int64) then (9 : Int32) else (if (4294967295 : Int64) < q1 then (9 : Int32) else (5 : Int32))) else (3 : Int32))) else (1 : Int32)))
def Q2 (q1 : Int64) (h0 : Heap) (n0 : Nat) (v : Option Value) (h : Heap) (L : List Loc) : Prop := v = some (.int (f2 q1)) ∧ Fr n0 L ∧ h = h0
def rmR2 : Room := { frames := 0, cells := 0, slots := 0, locals := 0 }
theorem ef_2 (m : MethodId) (q1 : Int64) : entryFrame m #[(.long q1)] 2 = mkF m 0 #[.val (.long q1), .second] [] := by first | (simp [entryFrame, mkF, argsToLocals, Value.category]; done) | rfl
theorem pn_com_example_cogwire_cogwire_wire_ByteSink : plainName "com/example/cogwire/cogwire/wire/ByteSink" = true := by first | (simp [plainName, overriddenIn]; done) | decide +kernel
set_option maxRecDepth 65536 in
set_option maxHeartbeats 40000000 in
theorem rm2 (l : Launch) (Z : State) (a0 : Array Value) (hw : ∀ d ∈ tables_1, d.before a0 Z = true) (ws : List Jvm.Cond) (q1 : Int64) (h0 : Heap) (n0 : Nat) :
    Mt l Z mt2 (Jvm.Cond.code mt2 prog_114_method_12_code 2 (some .int) :: ws) rmR2 #[(.long q1)] h0 (Q2 q1 h0 n0) := by
  refine Mt.of n0 (plainFor_of_name pn_com_example_cogwire_cogwire_wire_ByteSink) ?_
  intro p e s m below meth c T0 X0 hx hZ hby hml hown hret hlk hnm hs0
  have hown : s.vm.findClass "com/example/cogwire/cogwire/wire/ByteSink" = some m.cls := hown
  rw [ef_2]
  show Rt p e below s rmR2.cells rmR2.slots (Q2 q1 h0 n0) (T0.setTop (mkF m 0 #[.val (.long q1), .second] []))
  refine Rt.lloadN (pc' := 1) X0 hx (hb hby d2_0) rfl rfl ?_
  refine Rt.lconst (pc' := 2) (v := (0 : Int64)) X0 hx (hb hby d2_1) rfl rfl ?_
  refine Rt.lcmp (pc' := 3) X0 hx (hb hby d2_2) rfl ?_
  by_cases hc3_1 : q1 < (0 : Int64)
  · refine Rt.ifY (pc' := 16) X0 hx (hb hby d2_3) (ltl hc3_1).1 (by decide) (by decide) ?_
    refine Rt.lloadN (pc' := 17) X0 hx (hb hby d2_16) rfl rfl ?_
    refine Rt.lconst (pc' := 18) (v := (0 : Int64)) X0 hx (hb hby d2_17) rfl rfl ?_
    refine Rt.lcmp (pc' := 19) X0 hx (hb hby d2_18) rfl ?_
    by_cases hc19_2 : q1 < (0 : Int64)
    · refine Rt.ifY (pc' := 32) X0 hx (hb hby d2_19) (ltl hc19_2).1 (by decide) (by decide) ?_
      refine Rt.lloadN (pc' := 33) X0 hx (hb hby d2_32) rfl rfl ?_
      refine Rt.lconst (pc' := 34) (v := (0 : Int64)) X0 hx (hb hby d2_33) rfl rfl ?_
      refine Rt.lcmp (pc' := 35) X0 hx (hb hby d2_34) rfl ?_
      by_cases hc35_3 : q1 < (0 : Int64)
      · refine Rt.ifY (pc' := 48) X0 hx (hb hby d2_35) (ltl hc35_3).1 (by decide) (by decide) ?_
        refine Rt.bipush (pc' := 50) (v := (9 : Int32)) X0 hx (hb hby d2_48) rfl rfl ?_
        exact Rt.retI X0 hx hlk hret (hb hby d2_50) (by decide) (by decide) (fun L N => ⟨congrArg some (congrArg Value.int (by rw [f2, if_pos hc3_1, if_pos hc19_2, if_pos hc35_3])), N, rfl⟩)
      · refine Rt.ifN (pc' := 38) X0 hx (hb hby d2_35) (lfl hc35_3).1 rfl ?_
        refine Rt.lloadN (pc' := 39) X0 hx (hb hby d2_38) rfl rfl ?_
        refine Rt.ldc2Long (pc' := 42) X0 hx hZ hown (hw _ (List.mem_of_getElem? (i := 61) rfl)) (hb hby d2_39) rfl ?_
        refine Rt.lcmp (pc' := 43) X0 hx (hb hby d2_42) rfl ?_
        by_cases hc43_4 : (4294967295 : Int64) < q1
        · refine Rt.ifY (pc' := 48) X0 hx (hb hby d2_43) (gtl hc43_4).1 (by decide) (by decide) ?_
          refine Rt.bipush (pc' := 50) (v := (9 : Int32)) X0 hx (hb hby d2_48) rfl rfl ?_
          exact Rt.retI X0 hx hlk hret (hb hby d2_50) (by decide) (by decide) (fun L N => ⟨congrArg some (congrArg Value.int (by rw [f2, if_pos hc3_1, if_pos hc19_2, if_neg hc35_3, if_pos hc43_4])), N, rfl⟩)
        · refine Rt.ifN (pc' := 46) X0 hx (hb hby d2_43) (gfl hc43_4).1 rfl ?_
          refine Rt.iconst (pc' := 47) (v := (5 : Int32)) X0 hx (hb hby d2_46) rfl rfl ?_
          exact Rt.retI X0 hx hlk hret (hb hby d2_47) (by decide) (by decide) (fun L N => ⟨congrArg some (congrArg Value.int (by rw [f2, if_pos hc3_1, if_pos hc19_2, if_neg hc35_3, if_neg hc43_4])), N, rfl⟩)
    · refine Rt.ifN (pc' := 22) X0 hx (hb hby d2_19) (lfl hc19_2).1 rfl ?_
      refine Rt.lloadN (pc' := 23) X0 hx (hb hby d2_22) rfl rfl ?_
      refine Rt.ldc2Long (pc' := 26) X0 hx hZ hown (hw _ (List.mem_of_getElem? (i := 60) rfl)) (hb hby d2_23) rfl ?_
      refine Rt.lcmp (pc' := 27) X0 hx (hb hby d2_26) rfl ?_
      by_cases hc27_5 : (65535 : Int64) < q1
      · refine Rt.ifY (pc' := 32) X0 hx (hb hby d2_27) (gtl hc27_5).1 (by decide) (by decide) ?_
        refine Rt.lloadN (pc' := 33) X0 hx (hb hby d2_32) rfl rfl ?_
        refine Rt.lconst (pc' := 34) (v := (0 : Int64)) X0 hx (hb hby d2_33) rfl rfl ?_
        refine Rt.lcmp (pc' := 35) X0 hx (hb hby d2_34) rfl ?_
        by_cases hc35_6 : q1 < (0 : Int64)
        · refine Rt.ifY (pc' := 48) X0 hx (hb hby d2_35) (ltl hc35_6).1 (by decide) (by decide) ?_
          refine Rt.bipush (pc' := 50) (v := (9 : Int32)) X0 hx (hb hby d2_48) rfl rfl ?_
          exact Rt.retI X0 hx hlk hret (hb hby d2_50) (by decide) (by decide) (fun L N => ⟨congrArg some (congrArg Value.int (by rw [f2, if_pos hc3_1, if_neg hc19_2, if_pos hc27_5, if_pos hc35_6])), N, rfl⟩)
        · refine Rt.ifN (pc' := 38) X0 hx (hb hby d2_35) (lfl hc35_6).1 rfl ?_
          refine Rt.lloadN (pc' := 39) X0 hx (hb hby d2_38) rfl rfl ?_
          refine Rt.ldc2Long (pc' := 42) X0 hx hZ hown (hw _ (List.mem_of_getElem? (i := 61) rfl)) (hb hby d2_39) rfl ?_
          refine Rt.lcmp (pc' := 43) X0 hx (hb hby d2_42) rfl ?_
          by_cases hc43_7 : (4294967295 : Int64) < q1
          · refine Rt.ifY (pc' := 48) X0 hx (hb hby d2_43) (gtl hc43_7).1 (by decide) (by decide) ?_
            refine Rt.bipush (pc' := 50) (v := (9 : Int32)) X0 hx (hb hby d2_48) rfl rfl ?_
            exact Rt.retI X0 hx hlk hret (hb hby d2_50) (by decide) (by decide) (fun L N => ⟨congrArg some (congrArg Value.int (by rw [f2, if_pos hc3_1, if_neg hc19_2, if_pos hc27_5, if_neg hc35_6, if_pos hc43_7])), N, rfl⟩)
          · refine Rt.ifN (pc' := 46) X0 hx (hb hby d2_43) (gfl hc43_7).1 rfl ?_
            refine Rt.iconst (pc' := 47) (v := (5 : Int32)) X0 hx (hb hby d2_46) rfl rfl ?_
            exact Rt.retI X0 hx hlk hret (hb hby d2_47) (by decide) (by decide) (fun L N => ⟨congrArg some (congrArg Value.int (by rw [f2, if_pos hc3_1, if_neg hc19_2, if_pos hc27_5, if_neg hc35_6, if_neg hc43_7])), N, rfl⟩)
      · refine Rt.ifN (pc' := 30) X0 hx (hb hby d2_27) (gfl hc27_5).1 rfl ?_
        refine Rt.iconst (pc' := 31) (v := (3 : Int32)) X0 hx (hb hby d2_30) rfl rfl ?_
        exact Rt.retI X0 hx hlk hret (hb hby d2_31) (by decide) (by decide) (fun L N => ⟨congrArg some (congrArg Value.int (by rw [f2, if_pos hc3_1, if_neg hc19_2, if_neg hc27_5])), N, rfl⟩)
  · refine Rt.ifN (pc' := 6) X0 hx (hb hby d2_3) (lfl hc3_1).1 rfl ?_
    refine Rt.lloadN (pc' := 7) X0 hx (hb hby d2_6) rfl rfl ?_
    refine Rt.ldc2Long (pc' := 10) X0 hx hZ hown (hw _ (List.mem_of_getElem? (i := 16) rfl)) (hb hby d2_7) rfl ?_
    refine Rt.lcmp (pc' := 11) X0 hx (hb hby d2_10) rfl ?_
    by_cases hc11_8 : (252 : Int64) < q1
    · refine Rt.ifY (pc' := 16) X0 hx (hb hby d2_11) (gtl hc11_8).1 (by decide) (by decide) ?_
      refine Rt.lloadN (pc' := 17) X0 hx (hb hby d2_16) rfl rfl ?_
      refine Rt.lconst (pc' := 18) (v := (0 : Int64)) X0 hx (hb hby d2_17) rfl rfl ?_
      refine Rt.lcmp (pc' := 19) X0 hx (hb hby d2_18) rfl ?_
      by_cases hc19_9 : q1 < (0 : Int64)
      · refine Rt.ifY (pc' := 32) X0 hx (hb hby d2_19) (ltl hc19_9).1 (by decide) (by decide) ?_
        refine Rt.lloadN (pc' := 33) X0 hx (hb hby d2_32) rfl rfl ?_
        refine Rt.lconst (pc' := 34) (v := (0 : Int64)) X0 hx (hb hby d2_33) rfl rfl ?_
        refine Rt.lcmp (pc' := 35) X0 hx (hb hby d2_34) rfl ?_
        by_cases hc35_10 : q1 < (0 : Int64)
        · refine Rt.ifY (pc' := 48) X0 hx (hb hby d2_35) (ltl hc35_10).1 (by decide) (by decide) ?_
          refine Rt.bipush (pc' := 50) (v := (9 : Int32)) X0 hx (hb hby d2_48) rfl rfl ?_
          exact Rt.retI X0 hx hlk hret (hb hby d2_50) (by decide) (by decide) (fun L N => ⟨congrArg some (congrArg Value.int (by rw [f2, if_neg hc3_1, if_pos hc11_8, if_pos hc19_9, if_pos hc35_10])), N, rfl⟩)
        · refine Rt.ifN (pc' := 38) X0 hx (hb hby d2_35) (lfl hc35_10).1 rfl ?_
          refine Rt.lloadN (pc' := 39) X0 hx (hb hby d2_38) rfl rfl ?_
          refine Rt.ldc2Long (pc' := 42) X0 hx hZ hown (hw _ (List.mem_of_getElem? (i := 61) rfl)) (hb hby d2_39) rfl ?_
          refine Rt.lcmp (pc' := 43) X0 hx (hb hby d2_42) rfl ?_
          by_cases hc43_11 : (4294967295 : Int64) < q1
          · refine Rt.ifY (pc' := 48) X0 hx (hb hby d2_43) (gtl hc43_11).1 (by decide) (by decide) ?_
            refine Rt.bipush (pc' := 50) (v := (9 : Int32)) X0 hx (hb hby d2_48) rfl rfl ?_
            exact Rt.retI X0 hx hlk hret (hb hby d2_50) (by decide) (by decide) (fun L N => ⟨congrArg some (congrArg Value.int (by rw [f2, if_neg hc3_1, if_pos hc11_8, if_pos hc19_9, if_neg hc35_10, if_pos hc43_11])), N, rfl⟩)
          · refine Rt.ifN (pc' := 46) X0 hx (hb hby d2_43) (gfl hc43_11).1 rfl ?_
            refine Rt.iconst (pc' := 47) (v := (5 : Int32)) X0 hx (hb hby d2_46) rfl rfl ?_
            exact Rt.retI X0 hx hlk hret (hb hby d2_47) (by decide) (by decide) (fun L N => ⟨congrArg some (congrArg Value.int (by rw [f2, if_neg hc3_1, if_pos hc11_8, if_pos hc19_9, if_neg hc35_10, if_neg hc43_11])), N, rfl⟩)
      · refine Rt.ifN (pc' := 22) X0 hx (hb hby d2_19) (lfl hc19_9).1 rfl ?_
        refine Rt.lloadN (pc' := 23) X0 hx (hb hby d2_22) rfl rfl ?_
        refine Rt.ldc2Long (pc' := 26) X0 hx hZ hown (hw _ (List.mem_of_getElem? (i := 60) rfl)) (hb hby d2_23) rfl ?_
        refine Rt.lcmp (pc' := 27) X0 hx (hb hby d2_26) rfl ?_
        by_cases hc27_12 : (65535 : Int64) < q1
        · refine Rt.ifY (pc' := 32) X0 hx (hb hby d2_27) (gtl hc27_12).1 (by decide) (by decide) ?_
          refine Rt.lloadN (pc' := 33) X0 hx (hb hby d2_32) rfl rfl ?_
          refine Rt.lconst (pc' := 34) (v := (0 : Int64)) X0 hx (hb hby d2_33) rfl rfl ?_
          refine Rt.lcmp (pc' := 35) X0 hx (hb hby d2_34) rfl ?_
          by_cases hc35_13 : q1 < (0 : Int64)
          · refine Rt.ifY (pc' := 48) X0 hx (hb hby d2_35) (ltl hc35_13).1 (by decide) (by decide) ?_
            refine Rt.bipush (pc' := 50) (v := (9 : Int32)) X0 hx (hb hby d2_48) rfl rfl ?_
            exact Rt.retI X0 hx hlk hret (hb hby d2_50) (by decide) (by decide) (fun L N => ⟨congrArg some (congrArg Value.int (by rw [f2, if_neg hc3_1, if_pos hc11_8, if_neg hc19_9, if_pos hc27_12, if_pos hc35_13])), N, rfl⟩)
          · refine Rt.ifN (pc' := 38) X0 hx (hb hby d2_35) (lfl hc35_13).1 rfl ?_
            refine Rt.lloadN (pc' := 39) X0 hx (hb hby d2_38) rfl rfl ?_
            refine Rt.ldc2Long (pc' := 42) X0 hx hZ hown (hw _ (List.mem_of_getElem? (i := 61) rfl)) (hb hby d2_39) rfl ?_
            refine Rt.lcmp (pc' := 43) X0 hx (hb hby d2_42) rfl ?_
            by_cases hc43_14 : (4294967295 : Int64) < q1
            · refine Rt.ifY (pc' := 48) X0 hx (hb hby d2_43) (gtl hc43_14).1 (by decide) (by decide) ?_
              refine Rt.bipush (pc' := 50) (v := (9 : Int32)) X0 hx (hb hby d2_48) rfl rfl ?_
              exact Rt.retI X0 hx hlk hret (hb hby d2_50) (by decide) (by decide) (fun L N => ⟨congrArg some (congrArg Value.int (by rw [f2, if_neg hc3_1, if_pos hc11_8, if_neg hc19_9, if_pos hc27_12, if_neg hc35_13, if_pos hc43_14])), N, rfl⟩)
            · refine Rt.ifN (pc' := 46) X0 hx (hb hby d2_43) (gfl hc43_14).1 rfl ?_
              refine Rt.iconst (pc' := 47) (v := (5 : Int32)) X0 hx (hb hby d2_46) rfl rfl ?_
              exact Rt.retI X0 hx hlk hret (hb hby d2_47) (by decide) (by decide) (fun L N => ⟨congrArg some (congrArg Value.int (by rw [f2, if_neg hc3_1, if_pos hc11_8, if_neg hc19_9, if_pos hc27_12, if_neg hc35_13, if_neg hc43_14])), N, rfl⟩)
        · refine Rt.ifN (pc' := 30) X0 hx (hb hby d2_27) (gfl hc27_12).1 rfl ?_
          refine Rt.iconst (pc' := 31) (v := (3 : Int32)) X0 hx (hb hby d2_30) rfl rfl ?_
          exact Rt.retI X0 hx hlk hret (hb hby d2_31) (by decide) (by decide) (fun L N => ⟨congrArg some (congrArg Value.int (by rw [f2, if_neg hc3_1, if_pos hc11_8, if_neg hc19_9, if_neg hc27_12])), N, rfl⟩)
    · refine Rt.ifN (pc' := 14) X0 hx (hb hby d2_11) (gfl hc11_8).1 rfl ?_
      refine Rt.iconst (pc' := 15) (v := (1 : Int32)) X0 hx (hb hby d2_14) rfl rfl ?_
      exact Rt.retI X0 hx hlk hret (hb hby d2_15) (by decide) (by decide) (fun L N => ⟨congrArg some (congrArg Value.int (by rw [f2, if_neg hc3_1, if_neg hc11_8])), N, rfl⟩)
theorem d3_0 : decode prog_114_method_1_code 0 = .ok (.aload_n 0, 1) := by decide +kernel
theorem d3_1 : decode prog_114_method_1_code 1 = .ok (.invokespecial 3, 3) := by decide +kernel
theorem d3_4 : decode prog_114_method_1_code 4 = .ok (.aload_n 0, 1) := by decide +kernel
theorem d3_5 : decode prog_114_method_1_code 5 = .ok (.iload_n 1, 1) := by decide +kernel
theorem d3_6 : decode prog_114_method_1_code 6 = .ok (.newarray .byte, 2) := by decide +kernel
theorem d3_8 : decode prog_114_method_1_code 8 = .ok (.putfield 9, 3) := by decide +kernel
theorem d3_11 : decode prog_114_method_1_code 11 = .ok (.return_, 1) := by decide +kernel
def Q3 (Z : State) (a1 : Addr) (h0 : Heap) (n0 : Nat) (v : Option Value) (h : Heap) (L : List Loc) : Prop := ∃ nb : Addr, h0.size ≤ nb ∧ v = none ∧ Fr n0 L ∧ Keep h0 h [a1] ∧ Exa Z h a1 nm1 ∧ Fld Z h a1 nm1 "buffer" "[B" (.ref nb) ∧ Fld Z h a1 nm1 "size" "I" (.int (0 : Int32)) ∧ IL Z h nb .byte 16
def rmR3 : Room := { frames := 1, cells := 1, slots := 16, locals := 12 }
theorem ef_3 (m : MethodId) (a1 : Addr) : entryFrame m #[(.ref a1), (.int (16 : Int32))] 2 = mkF m 0 #[.val (.ref a1), .val (.int (16 : Int32))] [] := by first | (simp [entryFrame, mkF, argsToLocals, Value.category]; done) | rfl
set_option maxRecDepth 65536 in
set_option maxHeartbeats 40000000 in
theorem rm3 (l : Launch) (Z : State) (a0 : Array Value) (hw : ∀ d ∈ tables_1, d.before a0 Z = true) (ws : List Jvm.Cond) (a1 : Addr) (h0 : Heap) (n0 : Nat) (Z0 : n0 ≤ h0.size) (F_E_a1 : Exa Z h0 a1 nm1) (F_F_a1_buffer : Fld Z h0 a1 nm1 "buffer" "[B" .null) (F_F_a1_size : Fld Z h0 a1 nm1 "size" "I" (.int (0 : Int32))) (g_a1 : n0 ≤ a1) :
    Mt l Z mt3 (Jvm.Cond.code mt3 prog_114_method_1_code 2 none :: ws) rmR3 #[(.ref a1), (.int (16 : Int32))] h0 (Q3 Z a1 h0 n0) := by
  refine Mt.of n0 (plainFor_of_name pn_com_example_cogwire_cogwire_wire_ByteSink) ?_
  intro p e s m below meth c T0 X0 hx hZ hby hml hown hret hlk hnm hs0
  have hown : s.vm.findClass "com/example/cogwire/cogwire/wire/ByteSink" = some m.cls := hown
  rw [ef_3]
  show Rt p e below s rmR3.cells rmR3.slots (Q3 Z a1 h0 n0) (T0.setTop (mkF m 0 #[.val (.ref a1), .val (.int (16 : Int32))] []))
  refine Rt.aloadN (pc' := 1) X0 hx (hb hby d3_0) rfl rfl rfl ?_
  refine Rt.initO (pc' := 4) X0 hx hZ hown (hw _ (List.mem_of_getElem? (i := 22) rfl)) (hw _ (List.mem_of_getElem? (i := 23) rfl)) (hw _ (List.mem_of_getElem? (i := 24) rfl)) (by rw [hml]; rfl) (hb hby d3_1) (by decide) (W := 0) (Nat.le_of_eq rfl) (by decide) rfl ?_
  intro T1 X1
  refine Rt.aloadN (pc' := 5) X1 hx (hb hby d3_4) rfl rfl rfl ?_
  refine Rt.iloadN (pc' := 6) X1 hx (hb hby d3_5) rfl rfl ?_
  refine Rt.newP (pc' := 8) X1 hx hZ (ty := .byte) rfl (hw _ (List.mem_of_getElem? (i := 25) rfl)) (z := (16 : Int32)) (i := 16) (by decide) (by decide) (cap := 16) (by decide) (by decide) (hb hby d3_6) (by decide) (by decide) rfl ?_
  intro T2 h2 b6 ha2 X2 E2 A2
  have g3 : n0 ≤ b6 := by rw [ha2]; exact Z0
  have s4 : h0.size ≤ b6 := by rw [ha2]; exact (Keep.refl h0 [a1]).1
  have ne5 : a1 ≠ b6 := by rw [ha2]; exact Nat.ne_of_lt F_E_a1.lt
  have F6 : Exa Z h2 a1 nm1 := F_E_a1.ext E2
  have F7 : Fld Z h2 a1 nm1 "buffer" "[B" .null := F_F_a1_buffer.ext E2
  have F8 : Fld Z h2 a1 nm1 "size" "I" (.int (0 : Int32)) := F_F_a1_size.ext E2
  have K9 : Keep h0 h2 [a1] := (Keep.refl h0 [a1]).ext E2
  have Z10 : n0 ≤ h2.size := Nat.le_trans Z0 E2.1
  have A2 : IL Z h2 b6 .byte 16 := ⟨_, A2, rfl⟩
  refine Rt.putF (pc' := 11) (v := (.ref b6)) X2 hx hZ hown (host := "") (Or.inl (hw _ (List.mem_of_getElem? (i := 26) rfl))) F7 F6 (Or.inl (hw _ (List.mem_of_getElem? (i := 27) rfl))) (hw _ (List.mem_of_getElem? (i := 18) rfl)) (ty := (.array .byte)) (by decide) rfl rfl g_a1 (hb hby d3_8) rfl ?_
  intro T11 h11 X11 W11 F11
  have F12 : Exa Z h11 a1 nm1 := F6.wr W11
  have F13 : Fld Z h11 a1 nm1 "size" "I" (.int (0 : Int32)) := F8.other W11 (Or.inr (slot_ne (Or.inl (hw _ (List.mem_of_getElem? (i := 43) rfl))) (Or.inl (hw _ (List.mem_of_getElem? (i := 27) rfl))) (by decide) (t := .int) (t' := (.array .byte)) (by decide) (by decide)))
  have F14 : IL Z h11 b6 .byte 16 := A2.wr W11
  have K15 : Keep h0 h11 [a1] := K9.wr W11 (Or.inl (List.mem_of_getElem? (i := 0) rfl))
  have Z16 : n0 ≤ h11.size := Nat.le_trans Z10 (Keep.of_wr W11).1
  exact Rt.retV X11 hx hlk hret (hb hby d3_11) (by decide) (by decide) (fun L N => ⟨b6, s4, rfl, N, K15, F12, F11, F13, F14⟩)
theorem d7_0 : decode prog_114_method_16_code 0 = .ok (.iload_n 1, 1) := by decide +kernel
theorem d7_1 : decode prog_114_method_16_code 1 = .ok (.aload_n 0, 1) := by decide +kernel
theorem d7_2 : decode prog_114_method_16_code 2 = .ok (.getfield 9, 3) := by decide +kernel
theorem d7_5 : decode prog_114_method_16_code 5 = .ok (.arraylength, 1) := by decide +kernel
theorem d7_6 : decode prog_114_method_16_code 6 = .ok (.aload_n 0, 1) := by decide +kernel
theorem d7_7 : decode prog_114_method_16_code 7 = .ok (.getfield 15, 3) := by decide +kernel
theorem d7_10 : decode prog_114_method_16_code 10 = .ok (.isub, 1) := by decide +kernel
theorem d7_11 : decode prog_114_method_16_code 11 = .ok (.if_icmp .le 66, 3) := by decide +kernel
theorem d7_77 : decode prog_114_method_16_code 77 = .ok (.return_, 1) := by decide +kernel
def Q7_1_0 (a1 : Addr) (bf : Addr) (h0 : Heap) (n0 : Nat) (v : Option Value) (h : Heap) (L : List Loc) : Prop := v = none ∧ Fr n0 L ∧ h = h0
def rmR7_1_0 : Room := { frames := 0, cells := 0, slots := 0, locals := 0 }
theorem ef_7_1_0 (m : MethodId) (a1 : Addr) : entryFrame m #[(.ref a1), (.int (1 : Int32))] 4 = mkF m 0 #[.val (.ref a1), .val (.int (1 : Int32)), .unset, .unset] [] := by first | (simp [entryFrame, mkF, argsToLocals, Value.category]; done) | rfl
set_option maxRecDepth 65536 in
set_option maxHeartbeats 40000000 in
theorem rm7_1_0 (l : Launch) (Z : State) (a0 : Array Value) (hw : ∀ d ∈ tables_1, d.before a0 Z = true) (ws : List Jvm.Cond) (a1 : Addr) (bf : Addr) (h0 : Heap) (n0 : Nat) (F_F_a1_buffer : Fld Z h0 a1 nm1 "buffer" "[B" (.ref bf)) (F_F_a1_size : Fld Z h0 a1 nm1 "size" "I" (.int (0 : Int32))) (F_N_bf : IL Z h0 bf .byte 16) :
    Mt l Z mt4 (Jvm.Cond.code mt4 prog_114_method_16_code 4 none :: ws) rmR7_1_0 #[(.ref a1), (.int (1 : Int32))] h0 (Q7_1_0 a1 bf h0 n0) := by
  refine Mt.of n0 (plainFor_of_name pn_com_example_cogwire_cogwire_wire_ByteSink) ?_
  intro p e s m below meth c T0 X0 hx hZ hby hml hown hret hlk hnm hs0
  have hown : s.vm.findClass "com/example/cogwire/cogwire/wire/ByteSink" = some m.cls := hown
  rw [ef_7_1_0]
  show Rt p e below s rmR7_1_0.cells rmR7_1_0.slots (Q7_1_0 a1 bf h0 n0) (T0.setTop (mkF m 0 #[.val (.ref a1), .val (.int (1 : Int32)), .unset, .unset] []))
  refine Rt.iloadN (pc' := 1) X0 hx (hb hby d7_0) rfl rfl ?_
  refine Rt.aloadN (pc' := 2) X0 hx (hb hby d7_1) rfl rfl rfl ?_
  refine Rt.getF (pc' := 5) (v := (.ref bf)) X0 hx hZ hown (host := "") (Or.inl (hw _ (List.mem_of_getElem? (i := 26) rfl))) F_F_a1_buffer (hb hby d7_2) rfl ?_
  intro T1 X1
  refine Rt.arraylengthL (pc' := 6) X1 hx hZ F_N_bf (v := (16 : Int32)) (by decide) (hb hby d7_5) rfl ?_
  refine Rt.aloadN (pc' := 7) X1 hx (hb hby d7_6) rfl rfl rfl ?_
  refine Rt.getF (pc' := 10) (v := (.int (0 : Int32))) X1 hx hZ hown (host := "") (Or.inl (hw _ (List.mem_of_getElem? (i := 42) rfl))) F_F_a1_size (hb hby d7_7) rfl ?_
  intro T2 X2
  refine Rt.isub (pc' := 11) (r := (16 : Int32)) X2 hx (hb hby d7_10) (by decide) rfl ?_
  refine Rt.icmpY (pc' := 77) X2 hx (hb hby d7_11) (flt (by decide : ¬ ((16 : Int32) < (1 : Int32)))).2.2.2 (by decide) (by decide) ?_
  exact Rt.retV X2 hx hlk hret (hb hby d7_77) (by decide) (by decide) (fun L N => ⟨rfl, N, rfl⟩)
def Q7_2_1 (a1 : Addr) (bf : Addr) (h0 : Heap) (n0 : Nat) (v : Option Value) (h : Heap) (L : List Loc) : Prop := v = none ∧ Fr n0 L ∧ h = h0
def rmR7_2_1 : Room := { frames := 0, cells := 0, slots := 0, locals := 0 }
theorem ef_7_2_1 (m : MethodId) (a1 : Addr) : entryFrame m #[(.ref a1), (.int (2 : Int32))] 4 = mkF m 0 #[.val (.ref a1), .val (.int (2 : Int32)), .unset, .unset] [] := by first | (simp [entryFrame, mkF, argsToLocals, Value.category]; done) | rfl
set_option maxRecDepth 65536 in
set_option maxHeartbeats 40000000 in
theorem rm7_2_1 (l : Launch) (Z : State) (a0 : Array Value) (hw : ∀ d ∈ tables_1, d.before a0 Z = true) (ws : List Jvm.Cond) (a1 : Addr) (bf : Addr) (h0 : Heap) (n0 : Nat) (F_F_a1_buffer : Fld Z h0 a1 nm1 "buffer" "[B" (.ref bf)) (F_F_a1_size : Fld Z h0 a1 nm1 "size" "I" (.int (1 : Int32))) (F_N_bf : IL Z h0 bf .byte 16) :
    Mt l Z mt4 (Jvm.Cond.code mt4 prog_114_method_16_code 4 none :: ws) rmR7_2_1 #[(.ref a1), (.int (2 : Int32))] h0 (Q7_2_1 a1 bf h0 n0) := by
  refine Mt.of n0 (plainFor_of_name pn_com_example_cogwire_cogwire_wire_ByteSink) ?_
  intro p e s m below meth c T0 X0 hx hZ hby hml hown hret hlk hnm hs0
  have hown : s.vm.findClass "com/example/cogwire/cogwire/wire/ByteSink" = some m.cls := hown
  rw [ef_7_2_1]
  show Rt p e below s rmR7_2_1.cells rmR7_2_1.slots (Q7_2_1 a1 bf h0 n0) (T0.setTop (mkF m 0 #[.val (.ref a1), .val (.int (2 : Int32)), .unset, .unset] []))
  refine Rt.iloadN (pc' := 1) X0 hx (hb hby d7_0) rfl rfl ?_
  refine Rt.aloadN (pc' := 2) X0 hx (hb hby d7_1) rfl rfl rfl ?_
  refine Rt.getF (pc' := 5) (v := (.ref bf)) X0 hx hZ hown (host := "") (Or.inl (hw _ (List.mem_of_getElem? (i := 26) rfl))) F_F_a1_buffer (hb hby d7_2) rfl ?_
  intro T1 X1
  refine Rt.arraylengthL (pc' := 6) X1 hx hZ F_N_bf (v := (16 : Int32)) (by decide) (hb hby d7_5) rfl ?_
  refine Rt.aloadN (pc' := 7) X1 hx (hb hby d7_6) rfl rfl rfl ?_
  refine Rt.getF (pc' := 10) (v := (.int (1 : Int32))) X1 hx hZ hown (host := "") (Or.inl (hw _ (List.mem_of_getElem? (i := 42) rfl))) F_F_a1_size (hb hby d7_7) rfl ?_
  intro T2 X2
  refine Rt.isub (pc' := 11) (r := (15 : Int32)) X2 hx (hb hby d7_10) (by decide) rfl ?_
  refine Rt.icmpY (pc' := 77) X2 hx (hb hby d7_11) (flt (by decide : ¬ ((15 : Int32) < (2 : Int32)))).2.2.2 (by decide) (by decide) ?_
  exact Rt.retV X2 hx hlk hret (hb hby d7_77) (by decide) (by decide) (fun L N => ⟨rfl, N, rfl⟩)
def Q7_4_1 (a1 : Addr) (bf : Addr) (h0 : Heap) (n0 : Nat) (v : Option Value) (h : Heap) (L : List Loc) : Prop := v = none ∧ Fr n0 L ∧ h = h0
def rmR7_4_1 : Room := { frames := 0, cells := 0, slots := 0, locals := 0 }
theorem ef_7_4_1 (m : MethodId) (a1 : Addr) : entryFrame m #[(.ref a1), (.int (4 : Int32))] 4 = mkF m 0 #[.val (.ref a1), .val (.int (4 : Int32)), .unset, .unset] [] := by first | (simp [entryFrame, mkF, argsToLocals, Value.category]; done) | rfl
set_option maxRecDepth 65536 in
set_option maxHeartbeats 40000000 in
theorem rm7_4_1 (l : Launch) (Z : State) (a0 : Array Value) (hw : ∀ d ∈ tables_1, d.before a0 Z = true) (ws : List Jvm.Cond) (a1 : Addr) (bf : Addr) (h0 : Heap) (n0 : Nat) (F_F_a1_buffer : Fld Z h0 a1 nm1 "buffer" "[B" (.ref bf)) (F_F_a1_size : Fld Z h0 a1 nm1 "size" "I" (.int (1 : Int32))) (F_N_bf : IL Z h0 bf .byte 16) :
    Mt l Z mt4 (Jvm.Cond.code mt4 prog_114_method_16_code 4 none :: ws) rmR7_4_1 #[(.ref a1), (.int (4 : Int32))] h0 (Q7_4_1 a1 bf h0 n0) := by
  refine Mt.of n0 (plainFor_of_name pn_com_example_cogwire_cogwire_wire_ByteSink) ?_
  intro p e s m below meth c T0 X0 hx hZ hby hml hown hret hlk hnm hs0
  have hown : s.vm.findClass "com/example/cogwire/cogwire/wire/ByteSink" = some m.cls := hown
  rw [ef_7_4_1]
  show Rt p e below s rmR7_4_1.cells rmR7_4_1.slots (Q7_4_1 a1 bf h0 n0) (T0.setTop (mkF m 0 #[.val (.ref a1), .val (.int (4 : Int32)), .unset, .unset] []))
  refine Rt.iloadN (pc' := 1) X0 hx (hb hby d7_0) rfl rfl ?_
  refine Rt.aloadN (pc' := 2) X0 hx (hb hby d7_1) rfl rfl rfl ?_
  refine Rt.getF (pc' := 5) (v := (.ref bf)) X0 hx hZ hown (host := "") (Or.inl (hw _ (List.mem_of_getElem? (i := 26) rfl))) F_F_a1_buffer (hb hby d7_2) rfl ?_
  intro T1 X1
  refine Rt.arraylengthL (pc' := 6) X1 hx hZ F_N_bf (v := (16 : Int32)) (by decide) (hb hby d7_5) rfl ?_
  refine Rt.aloadN (pc' := 7) X1 hx (hb hby d7_6) rfl rfl rfl ?_
  refine Rt.getF (pc' := 10) (v := (.int (1 : Int32))) X1 hx hZ hown (host := "") (Or.inl (hw _ (List.mem_of_getElem? (i := 42) rfl))) F_F_a1_size (hb hby d7_7) rfl ?_
  intro T2 X2
  refine Rt.isub (pc' := 11) (r := (15 : Int32)) X2 hx (hb hby d7_10) (by decide) rfl ?_
  refine Rt.icmpY (pc' := 77) X2 hx (hb hby d7_11) (flt (by decide : ¬ ((15 : Int32) < (4 : Int32)))).2.2.2 (by decide) (by decide) ?_
  exact Rt.retV X2 hx hlk hret (hb hby d7_77) (by decide) (by decide) (fun L N => ⟨rfl, N, rfl⟩)
def Q7_4_5 (a1 : Addr) (bf : Addr) (h0 : Heap) (n0 : Nat) (v : Option Value) (h : Heap) (L : List Loc) : Prop := v = none ∧ Fr n0 L ∧ h = h0
def rmR7_4_5 : Room := { frames := 0, cells := 0, slots := 0, locals := 0 }
theorem ef_7_4_5 (m : MethodId) (a1 : Addr) : entryFrame m #[(.ref a1), (.int (4 : Int32))] 4 = mkF m 0 #[.val (.ref a1), .val (.int (4 : Int32)), .unset, .unset] [] := by first | (simp [entryFrame, mkF, argsToLocals, Value.category]; done) | rfl
set_option maxRecDepth 65536 in
set_option maxHeartbeats 40000000 in
theorem rm7_4_5 (l : Launch) (Z : State) (a0 : Array Value) (hw : ∀ d ∈ tables_1, d.before a0 Z = true) (ws : List Jvm.Cond) (a1 : Addr) (bf : Addr) (h0 : Heap) (n0 : Nat) (F_F_a1_buffer : Fld Z h0 a1 nm1 "buffer" "[B" (.ref bf)) (F_F_a1_size : Fld Z h0 a1 nm1 "size" "I" (.int (5 : Int32))) (F_N_bf : IL Z h0 bf .byte 16) :
    Mt l Z mt4 (Jvm.Cond.code mt4 prog_114_method_16_code 4 none :: ws) rmR7_4_5 #[(.ref a1), (.int (4 : Int32))] h0 (Q7_4_5 a1 bf h0 n0) := by
  refine Mt.of n0 (plainFor_of_name pn_com_example_cogwire_cogwire_wire_ByteSink) ?_
  intro p e s m below meth c T0 X0 hx hZ hby hml hown hret hlk hnm hs0
  have hown : s.vm.findClass "com/example/cogwire/cogwire/wire/ByteSink" = some m.cls := hown
  rw [ef_7_4_5]
  show Rt p e below s rmR7_4_5.cells rmR7_4_5.slots (Q7_4_5 a1 bf h0 n0) (T0.setTop (mkF m 0 #[.val (.ref a1), .val (.int (4 : Int32)), .unset, .unset] []))
  refine Rt.iloadN (pc' := 1) X0 hx (hb hby d7_0) rfl rfl ?_
  refine Rt.aloadN (pc' := 2) X0 hx (hb hby d7_1) rfl rfl rfl ?_
  refine Rt.getF (pc' := 5) (v := (.ref bf)) X0 hx hZ hown (host := "") (Or.inl (hw _ (List.mem_of_getElem? (i := 26) rfl))) F_F_a1_buffer (hb hby d7_2) rfl ?_
  intro T1 X1
  refine Rt.arraylengthL (pc' := 6) X1 hx hZ F_N_bf (v := (16 : Int32)) (by decide) (hb hby d7_5) rfl ?_
  refine Rt.aloadN (pc' := 7) X1 hx (hb hby d7_6) rfl rfl rfl ?_
  refine Rt.getF (pc' := 10) (v := (.int (5 : Int32))) X1 hx hZ hown (host := "") (Or.inl (hw _ (List.mem_of_getElem? (i := 42) rfl))) F_F_a1_size (hb hby d7_7) rfl ?_
  intro T2 X2
  refine Rt.isub (pc' := 11) (r := (11 : Int32)) X2 hx (hb hby d7_10) (by decide) rfl ?_
  refine Rt.icmpY (pc' := 77) X2 hx (hb hby d7_11) (flt (by decide : ¬ ((11 : Int32) < (4 : Int32)))).2.2.2 (by decide) (by decide) ?_
  exact Rt.retV X2 hx hlk hret (hb hby d7_77) (by decide) (by decide) (fun L N => ⟨rfl, N, rfl⟩)
theorem d6_0 : decode prog_114_method_6_code 0 = .ok (.aload_n 0, 1) := by decide +kernel
theorem d6_1 : decode prog_114_method_6_code 1 = .ok (.iconst 1, 1) := by decide +kernel
theorem pd_0 : parseMethodDescriptor "(I)V" = some ⟨[.int], none⟩ := by decide +kernel
theorem d6_2 : decode prog_114_method_6_code 2 = .ok (.invokevirtual 31, 3) := by decide +kernel
theorem d6_5 : decode prog_114_method_6_code 5 = .ok (.aload_n 0, 1) := by decide +kernel
theorem d6_6 : decode prog_114_method_6_code 6 = .ok (.getfield 9, 3) := by decide +kernel
theorem d6_9 : decode prog_114_method_6_code 9 = .ok (.aload_n 0, 1) := by decide +kernel
theorem d6_10 : decode prog_114_method_6_code 10 = .ok (.dup, 1) := by decide +kernel
theorem d6_11 : decode prog_114_method_6_code 11 = .ok (.getfield 15, 3) := by decide +kernel
theorem d6_14 : decode prog_114_method_6_code 14 = .ok (.dup_x1, 1) := by decide +kernel
theorem d6_15 : decode prog_114_method_6_code 15 = .ok (.iconst 1, 1) := by decide +kernel
theorem d6_16 : decode prog_114_method_6_code 16 = .ok (.iadd, 1) := by decide +kernel
theorem d6_17 : decode prog_114_method_6_code 17 = .ok (.putfield 15, 3) := by decide +kernel
theorem d6_20 : decode prog_114_method_6_code 20 = .ok (.iload_n 1, 1) := by decide +kernel
theorem d6_21 : decode prog_114_method_6_code 21 = .ok (.i2b, 1) := by decide +kernel
theorem d6_22 : decode prog_114_method_6_code 22 = .ok (.bastore, 1) := by decide +kernel
theorem d6_23 : decode prog_114_method_6_code 23 = .ok (.return_, 1) := by decide +kernel
def Q6 (Z : State) (a1 : Addr) (p2 : Int32) (bf : Addr) (h0 : Heap) (n0 : Nat) (v : Option Value) (h : Heap) (L : List Loc) : Prop := v = none ∧ Fr n0 L ∧ Keep h0 h [a1, bf] ∧ Exa Z h a1 nm1 ∧ Fld Z h a1 nm1 "buffer" "[B" (.ref bf) ∧ Fld Z h a1 nm1 "size" "I" (.int (1 : Int32)) ∧ IL Z h bf .byte 16
def rmR6 : Room := { frames := 1, cells := 0, slots := 0, locals := 15 }
theorem ef_6 (m : MethodId) (a1 : Addr) (p2 : Int32) : entryFrame m #[(.ref a1), (.int p2)] 2 = mkF m 0 #[.val (.ref a1), .val (.int p2)] [] := by first | (simp [entryFrame, mkF, argsToLocals, Value.category]; done) | rfl
set_option maxRecDepth 65536 in
set_option maxHeartbeats 40000000 in
theorem rm6 (l : Launch) (Z : State) (a0 : Array Value) (hw : ∀ d ∈ tables_1, d.before a0 Z = true) (ws : List Jvm.Cond) (a1 : Addr) (p2 : Int32) (bf : Addr) (h0 : Heap) (n0 : Nat) (Z0 : n0 ≤ h0.size) (F_E_a1 : Exa Z h0 a1 nm1) (F_F_a1_buffer : Fld Z h0 a1 nm1 "buffer" "[B" (.ref bf)) (F_F_a1_size : Fld Z h0 a1 nm1 "size" "I" (.int (0 : Int32))) (F_N_bf : IL Z h0 bf .byte 16) (g_a1 : n0 ≤ a1) (g_bf : n0 ≤ bf) (ne_1 : a1 ≠ bf) :
    Mt l Z mt5 (Jvm.Cond.code mt5 prog_114_method_6_code 2 none :: ws) rmR6 #[(.ref a1), (.int p2)] h0 (Q6 Z a1 p2 bf h0 n0) := by
  refine Mt.of n0 (plainFor_of_name pn_com_example_cogwire_cogwire_wire_ByteSink) ?_
  intro p e s m below meth c T0 X0 hx hZ hby hml hown hret hlk hnm hs0
  have hown : s.vm.findClass "com/example/cogwire/cogwire/wire/ByteSink" = some m.cls := hown
  rw [ef_6]
  show Rt p e below s rmR6.cells rmR6.slots (Q6 Z a1 p2 bf h0 n0) (T0.setTop (mkF m 0 #[.val (.ref a1), .val (.int p2)] []))
  refine Rt.aloadN (pc' := 1) X0 hx (hb hby d6_0) rfl rfl rfl ?_
  refine Rt.iconst (pc' := 2) (v := (1 : Int32)) X0 hx (hb hby d6_1) rfl rfl ?_
  refine Rt.callPr (pc' := 5) X0 hx hZ (y := mt4) hown (hw _ (List.mem_of_getElem? (i := 38) rfl)) (hw _ (List.mem_of_getElem? (i := 39) rfl)) (hw _ (List.mem_of_getElem? (i := 40) rfl)) (hw _ (List.mem_of_getElem? (i := 18) rfl)) (hw _ (List.mem_of_getElem? (i := 14) rfl)) (hw _ (List.mem_of_getElem? (i := 41) rfl)) (by decide) F_E_a1 (rm7_1_0 l Z a0 hw [] a1 bf h0 n0 F_F_a1_buffer F_F_a1_size F_N_bf) (fun _ _ _ q => q.2.1) (W := 0) (by decide) (by decide) (by decide) (by decide) (argsL := [(.int (1 : Int32))]) (rest := []) (by rw [hml]; rfl) (lenOf pd_0 rfl) rfl rfl (Nat.le_of_eq rfl) (hb hby d6_2) rfl ?_
  rintro _ T1 h1 L1 X1 ⟨rfl, N1, e1⟩
  rw [e1] at X1
  show Rt _ _ _ _ _ _ _ (T1.setTop (mkF m 5 #[.val (.ref a1), .val (.int p2)] []))
  refine Rt.aloadN (pc' := 6) X1 hx (hb hby d6_5) rfl rfl rfl ?_
  refine Rt.getF (pc' := 9) (v := (.ref bf)) X1 hx hZ hown (host := "") (Or.inl (hw _ (List.mem_of_getElem? (i := 26) rfl))) F_F_a1_buffer (hb hby d6_6) rfl ?_
  intro T2 X2
  refine Rt.aloadN (pc' := 10) X2 hx (hb hby d6_9) rfl rfl rfl ?_
  refine Rt.dup (pc' := 11) X2 hx (hb hby d6_10) rfl rfl ?_
  refine Rt.getF (pc' := 14) (v := (.int (0 : Int32))) X2 hx hZ hown (host := "") (Or.inl (hw _ (List.mem_of_getElem? (i := 42) rfl))) F_F_a1_size (hb hby d6_11) rfl ?_
  intro T3 X3
  refine Rt.dupX1 (pc' := 15) X3 hx (hb hby d6_14) rfl rfl rfl ?_
  refine Rt.iconst (pc' := 16) (v := (1 : Int32)) X3 hx (hb hby d6_15) rfl rfl ?_
  refine Rt.iadd (pc' := 17) (r := (1 : Int32)) X3 hx (hb hby d6_16) (by decide) rfl ?_
  refine Rt.putF (pc' := 20) (v := (.int (1 : Int32))) X3 hx hZ hown (host := "") (Or.inl (hw _ (List.mem_of_getElem? (i := 42) rfl))) F_F_a1_size F_E_a1 (Or.inl (hw _ (List.mem_of_getElem? (i := 43) rfl))) (hw _ (List.mem_of_getElem? (i := 18) rfl)) (ty := .int) (by decide) rfl rfl g_a1 (hb hby d6_17) rfl ?_
  intro T4 h4 X4 W4 F4
  have F5 : Exa Z h4 a1 nm1 := F_E_a1.wr W4
  have F6 : Fld Z h4 a1 nm1 "buffer" "[B" (.ref bf) := F_F_a1_buffer.other W4 (Or.inr (slot_ne (Or.inl (hw _ (List.mem_of_getElem? (i := 27) rfl))) (Or.inl (hw _ (List.mem_of_getElem? (i := 43) rfl))) (by decide) (t := (.array .byte)) (t' := .int) (by decide) (by decide)))
  have F7 : IL Z h4 bf .byte 16 := F_N_bf.wr W4
  have K8 : Keep h0 h4 [a1, bf] := (Keep.refl h0 [a1, bf]).wr W4 (Or.inl (List.mem_of_getElem? (i := 0) rfl))
  have Z9 : n0 ≤ h4.size := Nat.le_trans Z0 (Keep.of_wr W4).1
  refine Rt.iloadN (pc' := 21) X4 hx (hb hby d6_20) rfl rfl ?_
  refine Rt.i2b (pc' := 22) (r := (p2.toInt8.toInt32)) X4 hx (hb hby d6_21) rfl rfl ?_
  refine Rt.bastoreL (pc' := 23) X4 hx hZ F7 (i := 0) (by decide) (by decide) (by decide) g_bf (hb hby d6_22) rfl ?_
  intro T10 h10 X10 v10 W10 F10
  have F11 : Exa Z h10 a1 nm1 := F5.wr W10
  have F12 : Fld Z h10 a1 nm1 "buffer" "[B" (.ref bf) := F6.other W10 (Or.inl ne_1)
  have F13 : Fld Z h10 a1 nm1 "size" "I" (.int (1 : Int32)) := F4.other W10 (Or.inl ne_1)
  have K14 : Keep h0 h10 [a1, bf] := K8.wr W10 (Or.inl (List.mem_of_getElem? (i := 1) rfl))
  have Z15 : n0 ≤ h10.size := Nat.le_trans Z9 (Keep.of_wr W10).1
  exact Rt.retV X10 hx hlk hret (hb hby d6_23) (by decide) (by decide) (fun L N => ⟨rfl, N, K14, F11, F12, F13, F10⟩)
theorem d11_0 : decode prog_114_method_7_code 0 = .ok (.aload_n 0, 1) := by decide +kernel
theorem d11_1 : decode prog_114_method_7_code 1 = .ok (.iconst 2, 1) := by decide +kernel
theorem d11_2 : decode prog_114_method_7_code 2 = .ok (.invokevirtual 31, 3) := by decide +kernel
theorem d11_5 : decode prog_114_method_7_code 5 = .ok (.aload_n 0, 1) := by decide +kernel
theorem d11_6 : decode prog_114_method_7_code 6 = .ok (.getfield 9, 3) := by decide +kernel
theorem d11_9 : decode prog_114_method_7_code 9 = .ok (.aload_n 0, 1) := by decide +kernel
theorem d11_10 : decode prog_114_method_7_code 10 = .ok (.dup, 1) := by decide +kernel
theorem d11_11 : decode prog_114_method_7_code 11 = .ok (.getfield 15, 3) := by decide +kernel
theorem d11_14 : decode prog_114_method_7_code 14 = .ok (.dup_x1, 1) := by decide +kernel
theorem d11_15 : decode prog_114_method_7_code 15 = .ok (.iconst 1, 1) := by decide +kernel
theorem d11_16 : decode prog_114_method_7_code 16 = .ok (.iadd, 1) := by decide +kernel
theorem d11_17 : decode prog_114_method_7_code 17 = .ok (.putfield 15, 3) := by decide +kernel
theorem d11_20 : decode prog_114_method_7_code 20 = .ok (.iload_n 1, 1) := by decide +kernel
theorem d11_21 : decode prog_114_method_7_code 21 = .ok (.i2b, 1) := by decide +kernel
theorem d11_22 : decode prog_114_method_7_code 22 = .ok (.bastore, 1) := by decide +kernel
theorem d11_23 : decode prog_114_method_7_code 23 = .ok (.aload_n 0, 1) := by decide +kernel
theorem d11_24 : decode prog_114_method_7_code 24 = .ok (.getfield 9, 3) := by decide +kernel
theorem d11_27 : decode prog_114_method_7_code 27 = .ok (.aload_n 0, 1) := by decide +kernel
theorem d11_28 : decode prog_114_method_7_code 28 = .ok (.dup, 1) := by decide +kernel
theorem d11_29 : decode prog_114_method_7_code 29 = .ok (.getfield 15, 3) := by decide +kernel
theorem d11_32 : decode prog_114_method_7_code 32 = .ok (.dup_x1, 1) := by decide +kernel
theorem d11_33 : decode prog_114_method_7_code 33 = .ok (.iconst 1, 1) := by decide +kernel
theorem d11_34 : decode prog_114_method_7_code 34 = .ok (.iadd, 1) := by decide +kernel
theorem d11_35 : decode prog_114_method_7_code 35 = .ok (.putfield 15, 3) := by decide +kernel
theorem d11_38 : decode prog_114_method_7_code 38 = .ok (.iload_n 1, 1) := by decide +kernel
theorem d11_39 : decode prog_114_method_7_code 39 = .ok (.bipush 8, 2) := by decide +kernel
theorem d11_41 : decode prog_114_method_7_code 41 = .ok (.iushr, 1) := by decide +kernel
theorem d11_42 : decode prog_114_method_7_code 42 = .ok (.i2b, 1) := by decide +kernel
theorem d11_43 : decode prog_114_method_7_code 43 = .ok (.bastore, 1) := by decide +kernel
theorem d11_44 : decode prog_114_method_7_code 44 = .ok (.return_, 1) := by decide +kernel
def Q11 (Z : State) (a1 : Addr) (p2 : Int32) (bf : Addr) (h0 : Heap) (n0 : Nat) (v : Option Value) (h : Heap) (L : List Loc) : Prop := v = none ∧ Fr n0 L ∧ Keep h0 h [a1, bf] ∧ Exa Z h a1 nm1 ∧ Fld Z h a1 nm1 "buffer" "[B" (.ref bf) ∧ Fld Z h a1 nm1 "size" "I" (.int (3 : Int32)) ∧ IL Z h bf .byte 16
def rmR11 : Room := { frames := 1, cells := 0, slots := 0, locals := 15 }
theorem ef_11 (m : MethodId) (a1 : Addr) (p2 : Int32) : entryFrame m #[(.ref a1), (.int p2)] 2 = mkF m 0 #[.val (.ref a1), .val (.int p2)] [] := by first | (simp [entryFrame, mkF, argsToLocals, Value.category]; done) | rfl
set_option maxRecDepth 65536 in
set_option maxHeartbeats 40000000 in
theorem rm11 (l : Launch) (Z : State) (a0 : Array Value) (hw : ∀ d ∈ tables_1, d.before a0 Z = true) (ws : List Jvm.Cond) (a1 : Addr) (p2 : Int32) (bf : Addr) (h0 : Heap) (n0 : Nat) (Z0 : n0 ≤ h0.size) (F_E_a1 : Exa Z h0 a1 nm1) (F_F_a1_buffer : Fld Z h0 a1 nm1 "buffer" "[B" (.ref bf)) (F_F_a1_size : Fld Z h0 a1 nm1 "size" "I" (.int (1 : Int32))) (F_N_bf : IL Z h0 bf .byte 16) (g_a1 : n0 ≤ a1) (g_bf : n0 ≤ bf) (ne_1 : a1 ≠ bf) :
    Mt l Z mt6 (Jvm.Cond.code mt6 prog_114_method_7_code 2 none :: ws) rmR11 #[(.ref a1), (.int p2)] h0 (Q11 Z a1 p2 bf h0 n0) := by
  refine Mt.of n0 (plainFor_of_name pn_com_example_cogwire_cogwire_wire_ByteSink) ?_
  intro p e s m below meth c T0 X0 hx hZ hby hml hown hret hlk hnm hs0
  have hown : s.vm.findClass "com/example/cogwire/cogwire/wire/ByteSink" = some m.cls := hown
  rw [ef_11]
  show Rt p e below s rmR11.cells rmR11.slots (Q11 Z a1 p2 bf h0 n0) (T0.setTop (mkF m 0 #[.val (.ref a1), .val (.int p2)] []))
  refine Rt.aloadN (pc' := 1) X0 hx (hb hby d11_0) rfl rfl rfl ?_
  refine Rt.iconst (pc' := 2) (v := (2 : Int32)) X0 hx (hb hby d11_1) rfl rfl ?_
  refine Rt.callPr (pc' := 5) X0 hx hZ (y := mt4) hown (hw _ (List.mem_of_getElem? (i := 38) rfl)) (hw _ (List.mem_of_getElem? (i := 39) rfl)) (hw _ (List.mem_of_getElem? (i := 40) rfl)) (hw _ (List.mem_of_getElem? (i := 18) rfl)) (hw _ (List.mem_of_getElem? (i := 14) rfl)) (hw _ (List.mem_of_getElem? (i := 41) rfl)) (by decide) F_E_a1 (rm7_2_1 l Z a0 hw [] a1 bf h0 n0 F_F_a1_buffer F_F_a1_size F_N_bf) (fun _ _ _ q => q.2.1) (W := 0) (by decide) (by decide) (by decide) (by decide) (argsL := [(.int (2 : Int32))]) (rest := []) (by rw [hml]; rfl) (lenOf pd_0 rfl) rfl rfl (Nat.le_of_eq rfl) (hb hby d11_2) rfl ?_
  rintro _ T1 h1 L1 X1 ⟨rfl, N1, e1⟩
  rw [e1] at X1
  show Rt _ _ _ _ _ _ _ (T1.setTop (mkF m 5 #[.val (.ref a1), .val (.int p2)] []))
  refine Rt.aloadN (pc' := 6) X1 hx (hb hby d11_5) rfl rfl rfl ?_
  refine Rt.getF (pc' := 9) (v := (.ref bf)) X1 hx hZ hown (host := "") (Or.inl (hw _ (List.mem_of_getElem? (i := 26) rfl))) F_F_a1_buffer (hb hby d11_6) rfl ?_
  intro T2 X2
  refine Rt.aloadN (pc' := 10) X2 hx (hb hby d11_9) rfl rfl rfl ?_
  refine Rt.dup (pc' := 11) X2 hx (hb hby d11_10) rfl rfl ?_
  refine Rt.getF (pc' := 14) (v := (.int (1 : Int32))) X2 hx hZ hown (host := "") (Or.inl (hw _ (List.mem_of_getElem? (i := 42) rfl))) F_F_a1_size (hb hby d11_11) rfl ?_
  intro T3 X3
  refine Rt.dupX1 (pc' := 15) X3 hx (hb hby d11_14) rfl rfl rfl ?_
  refine Rt.iconst (pc' := 16) (v := (1 : Int32)) X3 hx (hb hby d11_15) rfl rfl ?_
  refine Rt.iadd (pc' := 17) (r := (2 : Int32)) X3 hx (hb hby d11_16) (by decide) rfl ?_
  refine Rt.putF (pc' := 20) (v := (.int (2 : Int32))) X3 hx hZ hown (host := "") (Or.inl (hw _ (List.mem_of_getElem? (i := 42) rfl))) F_F_a1_size F_E_a1 (Or.inl (hw _ (List.mem_of_getElem? (i := 43) rfl))) (hw _ (List.mem_of_getElem? (i := 18) rfl)) (ty := .int) (by decide) rfl rfl g_a1 (hb hby d11_17) rfl ?_
  intro T4 h4 X4 W4 F4
  have F5 : Exa Z h4 a1 nm1 := F_E_a1.wr W4
  have F6 : Fld Z h4 a1 nm1 "buffer" "[B" (.ref bf) := F_F_a1_buffer.other W4 (Or.inr (slot_ne (Or.inl (hw _ (List.mem_of_getElem? (i := 27) rfl))) (Or.inl (hw _ (List.mem_of_getElem? (i := 43) rfl))) (by decide) (t := (.array .byte)) (t' := .int) (by decide) (by decide)))
  have F7 : IL Z h4 bf .byte 16 := F_N_bf.wr W4
  have K8 : Keep h0 h4 [a1, bf] := (Keep.refl h0 [a1, bf]).wr W4 (Or.inl (List.mem_of_getElem? (i := 0) rfl))
  have Z9 : n0 ≤ h4.size := Nat.le_trans Z0 (Keep.of_wr W4).1
  refine Rt.iloadN (pc' := 21) X4 hx (hb hby d11_20) rfl rfl ?_
  refine Rt.i2b (pc' := 22) (r := (p2.toInt8.toInt32)) X4 hx (hb hby d11_21) rfl rfl ?_
  refine Rt.bastoreL (pc' := 23) X4 hx hZ F7 (i := 1) (by decide) (by decide) (by decide) g_bf (hb hby d11_22) rfl ?_
  intro T10 h10 X10 v10 W10 F10
  have F11 : Exa Z h10 a1 nm1 := F5.wr W10
  have F12 : Fld Z h10 a1 nm1 "buffer" "[B" (.ref bf) := F6.other W10 (Or.inl ne_1)
  have F13 : Fld Z h10 a1 nm1 "size" "I" (.int (2 : Int32)) := F4.other W10 (Or.inl ne_1)
  have K14 : Keep h0 h10 [a1, bf] := K8.wr W10 (Or.inl (List.mem_of_getElem? (i := 1) rfl))
  have Z15 : n0 ≤ h10.size := Nat.le_trans Z9 (Keep.of_wr W10).1
  refine Rt.aloadN (pc' := 24) X10 hx (hb hby d11_23) rfl rfl rfl ?_
  refine Rt.getF (pc' := 27) (v := (.ref bf)) X10 hx hZ hown (host := "") (Or.inl (hw _ (List.mem_of_getElem? (i := 26) rfl))) F12 (hb hby d11_24) rfl ?_
  intro T16 X16
  refine Rt.aloadN (pc' := 28) X16 hx (hb hby d11_27) rfl rfl rfl ?_
  refine Rt.dup (pc' := 29) X16 hx (hb hby d11_28) rfl rfl ?_
  refine Rt.getF (pc' := 32) (v := (.int (2 : Int32))) X16 hx hZ hown (host := "") (Or.inl (hw _ (List.mem_of_getElem? (i := 42) rfl))) F13 (hb hby d11_29) rfl ?_
  intro T17 X17
  refine Rt.dupX1 (pc' := 33) X17 hx (hb hby d11_32) rfl rfl rfl ?_
  refine Rt.iconst (pc' := 34) (v := (1 : Int32)) X17 hx (hb hby d11_33) rfl rfl ?_
  refine Rt.iadd (pc' := 35) (r := (3 : Int32)) X17 hx (hb hby d11_34) (by decide) rfl ?_
  refine Rt.putF (pc' := 38) (v := (.int (3 : Int32))) X17 hx hZ hown (host := "") (Or.inl (hw _ (List.mem_of_getElem? (i := 42) rfl))) F13 F11 (Or.inl (hw _ (List.mem_of_getElem? (i := 43) rfl))) (hw _ (List.mem_of_getElem? (i := 18) rfl)) (ty := .int) (by decide) rfl rfl g_a1 (hb hby d11_35) rfl ?_
  intro T18 h18 X18 W18 F18
  have F19 : Exa Z h18 a1 nm1 := F11.wr W18
  have F20 : Fld Z h18 a1 nm1 "buffer" "[B" (.ref bf) := F12.other W18 (Or.inr (slot_ne (Or.inl (hw _ (List.mem_of_getElem? (i := 27) rfl))) (Or.inl (hw _ (List.mem_of_getElem? (i := 43) rfl))) (by decide) (t := (.array .byte)) (t' := .int) (by decide) (by decide)))
  have F21 : IL Z h18 bf .byte 16 := F10.wr W18
  have K22 : Keep h0 h18 [a1, bf] := K14.wr W18 (Or.inl (List.mem_of_getElem? (i := 0) rfl))
  have Z23 : n0 ≤ h18.size := Nat.le_trans Z15 (Keep.of_wr W18).1
  refine Rt.iloadN (pc' := 39) X18 hx (hb hby d11_38) rfl rfl ?_
  refine Rt.bipush (pc' := 41) (v := (8 : Int32)) X18 hx (hb hby d11_39) rfl rfl ?_
  refine Rt.iushr (pc' := 42) (r := ((p2.toUInt32 >>> ((8 : Int32) &&& 31).toUInt32).toInt32)) X18 hx (hb hby d11_41) rfl rfl ?_
  refine Rt.i2b (pc' := 43) (r := (((p2.toUInt32 >>> ((8 : Int32) &&& 31).toUInt32).toInt32).toInt8.toInt32)) X18 hx (hb hby d11_42) rfl rfl ?_
  refine Rt.bastoreL (pc' := 44) X18 hx hZ F21 (i := 2) (by decide) (by decide) (by decide) g_bf (hb hby d11_43) rfl ?_
  intro T24 h24 X24 v24 W24 F24
  have F25 : Exa Z h24 a1 nm1 := F19.wr W24
  have F26 : Fld Z h24 a1 nm1 "buffer" "[B" (.ref bf) := F20.other W24 (Or.inl ne_1)
  have F27 : Fld Z h24 a1 nm1 "size" "I" (.int (3 : Int32)) := F18.other W24 (Or.inl ne_1)
  have K28 : Keep h0 h24 [a1, bf] := K22.wr W24 (Or.inl (List.mem_of_getElem? (i := 1) rfl))
  have Z29 : n0 ≤ h24.size := Nat.le_trans Z23 (Keep.of_wr W24).1
  exact Rt.retV X24 hx hlk hret (hb hby d11_44) (by decide) (by decide) (fun L N => ⟨rfl, N, K28, F25, F26, F27, F24⟩)
theorem d10_0 : decode prog_114_method_8_code 0 = .ok (.aload_n 0, 1) := by decide +kernel
theorem d10_1 : decode prog_114_method_8_code 1 = .ok (.iconst 4, 1) := by decide +kernel
theorem d10_2 : decode prog_114_method_8_code 2 = .ok (.invokevirtual 31, 3) := by decide +kernel
theorem d10_5 : decode prog_114_method_8_code 5 = .ok (.iconst 0, 1) := by decide +kernel
theorem d10_6 : decode prog_114_method_8_code 6 = .ok (.istore_n 3, 1) := by decide +kernel
theorem d10_7 : decode prog_114_method_8_code 7 = .ok (.iload_n 3, 1) := by decide +kernel
theorem d10_8 : decode prog_114_method_8_code 8 = .ok (.iconst 4, 1) := by decide +kernel
theorem d10_9 : decode prog_114_method_8_code 9 = .ok (.if_icmp .ge 33, 3) := by decide +kernel
theorem d10_12 : decode prog_114_method_8_code 12 = .ok (.aload_n 0, 1) := by decide +kernel
theorem d10_13 : decode prog_114_method_8_code 13 = .ok (.getfield 9, 3) := by decide +kernel
theorem d10_16 : decode prog_114_method_8_code 16 = .ok (.aload_n 0, 1) := by decide +kernel
theorem d10_17 : decode prog_114_method_8_code 17 = .ok (.dup, 1) := by decide +kernel
theorem d10_18 : decode prog_114_method_8_code 18 = .ok (.getfield 15, 3) := by decide +kernel
theorem d10_21 : decode prog_114_method_8_code 21 = .ok (.dup_x1, 1) := by decide +kernel
theorem d10_22 : decode prog_114_method_8_code 22 = .ok (.iconst 1, 1) := by decide +kernel
theorem d10_23 : decode prog_114_method_8_code 23 = .ok (.iadd, 1) := by decide +kernel
theorem d10_24 : decode prog_114_method_8_code 24 = .ok (.putfield 15, 3) := by decide +kernel
theorem d10_27 : decode prog_114_method_8_code 27 = .ok (.lload_n 1, 1) := by decide +kernel
theorem d10_28 : decode prog_114_method_8_code 28 = .ok (.bipush 8, 2) := by decide +kernel
theorem d10_30 : decode prog_114_method_8_code 30 = .ok (.iload_n 3, 1) := by decide +kernel
theorem d10_31 : decode prog_114_method_8_code 31 = .ok (.imul, 1) := by decide +kernel
theorem d10_32 : decode prog_114_method_8_code 32 = .ok (.lushr, 1) := by decide +kernel
theorem d10_33 : decode prog_114_method_8_code 33 = .ok (.l2i, 1) := by decide +kernel
theorem d10_34 : decode prog_114_method_8_code 34 = .ok (.i2b, 1) := by decide +kernel
theorem d10_35 : decode prog_114_method_8_code 35 = .ok (.bastore, 1) := by decide +kernel
theorem d10_36 : decode prog_114_method_8_code 36 = .ok (.iinc 3 1, 3) := by decide +kernel
theorem d10_39 : decode prog_114_method_8_code 39 = .ok (.goto (-32), 3) := by decide +kernel
theorem d10_42 : decode prog_114_method_8_code 42 = .ok (.return_, 1) := by decide +kernel
def Q10_1 (Z : State) (a1 : Addr) (q2 : Int64) (bf : Addr) (h0 : Heap) (n0 : Nat) (v : Option Value) (h : Heap) (L : List Loc) : Prop := v = none ∧ Fr n0 L ∧ Keep h0 h [a1, bf] ∧ Exa Z h a1 nm1 ∧ Fld Z h a1 nm1 "buffer" "[B" (.ref bf) ∧ Fld Z h a1 nm1 "size" "I" (.int (5 : Int32)) ∧ IL Z h bf .byte 16
def rmR10_1 : Room := { frames := 1, cells := 0, slots := 0, locals := 15 }
theorem ef_10_1 (m : MethodId) (a1 : Addr) (q2 : Int64) : entryFrame m #[(.ref a1), (.long q2)] 4 = mkF m 0 #[.val (.ref a1), .val (.long q2), .second, .unset] [] := by first | (simp [entryFrame, mkF, argsToLocals, Value.category]; done) | rfl
set_option maxRecDepth 65536 in
set_option maxHeartbeats 40000000 in
theorem rm10_1 (l : Launch) (Z : State) (a0 : Array Value) (hw : ∀ d ∈ tables_1, d.before a0 Z = true) (ws : List Jvm.Cond) (a1 : Addr) (q2 : Int64) (bf : Addr) (h0 : Heap) (n0 : Nat) (Z0 : n0 ≤ h0.size) (F_E_a1 : Exa Z h0 a1 nm1) (F_F_a1_buffer : Fld Z h0 a1 nm1 "buffer" "[B" (.ref bf)) (F_F_a1_size : Fld Z h0 a1 nm1 "size" "I" (.int (1 : Int32))) (F_N_bf : IL Z h0 bf .byte 16) (g_a1 : n0 ≤ a1) (g_bf : n0 ≤ bf) (ne_1 : a1 ≠ bf) :
    Mt l Z mt7 (Jvm.Cond.code mt7 prog_114_method_8_code 4 none :: ws) rmR10_1 #[(.ref a1), (.long q2)] h0 (Q10_1 Z a1 q2 bf h0 n0) := by
  refine Mt.of n0 (plainFor_of_name pn_com_example_cogwire_cogwire_wire_ByteSink) ?_
  intro p e s m below meth c T0 X0 hx hZ hby hml hown hret hlk hnm hs0
  have hown : s.vm.findClass "com/example/cogwire/cogwire/wire/ByteSink" = some m.cls := hown
  rw [ef_10_1]
  show Rt p e below s rmR10_1.cells rmR10_1.slots (Q10_1 Z a1 q2 bf h0 n0) (T0.setTop (mkF m 0 #[.val (.ref a1), .val (.long q2), .second, .unset] []))
  refine Rt.aloadN (pc' := 1) X0 hx (hb hby d10_0) rfl rfl rfl ?_
  refine Rt.iconst (pc' := 2) (v := (4 : Int32)) X0 hx (hb hby d10_1) rfl rfl ?_
  refine Rt.callPr (pc' := 5) X0 hx hZ (y := mt4) hown (hw _ (List.mem_of_getElem? (i := 38) rfl)) (hw _ (List.mem_of_getElem? (i := 39) rfl)) (hw _ (List.mem_of_getElem? (i := 40) rfl)) (hw _ (List.mem_of_getElem? (i := 18) rfl)) (hw _ (List.mem_of_getElem? (i := 14) rfl)) (hw _ (List.mem_of_getElem? (i := 41) rfl)) (by decide) F_E_a1 (rm7_4_1 l Z a0 hw [] a1 bf h0 n0 F_F_a1_buffer F_F_a1_size F_N_bf) (fun _ _ _ q => q.2.1) (W := 0) (by decide) (by decide) (by decide) (by decide) (argsL := [(.int (4 : Int32))]) (rest := []) (by rw [hml]; rfl) (lenOf pd_0 rfl) rfl rfl (Nat.le_of_eq rfl) (hb hby d10_2) rfl ?_
  rintro _ T1 h1 L1 X1 ⟨rfl, N1, e1⟩
  rw [e1] at X1
  show Rt _ _ _ _ _ _ _ (T1.setTop (mkF m 5 #[.val (.ref a1), .val (.long q2), .second, .unset] []))
  refine Rt.iconst (pc' := 6) (v := (0 : Int32)) X1 hx (hb hby d10_5) rfl rfl ?_
  refine Rt.istoreN (pc' := 7) (v := (0 : Int32)) (l' := #[.val (.ref a1), .val (.long q2), .second, .val (.int (0 : Int32))]) X1 hx (hb hby d10_6) rfl rfl ?_
  refine Rt.iloadN (pc' := 8) X1 hx (hb hby d10_7) rfl rfl ?_
  refine Rt.iconst (pc' := 9) (v := (4 : Int32)) X1 hx (hb hby d10_8) rfl rfl ?_
  refine Rt.icmpN (pc' := 12) X1 hx (hb hby d10_9) (tlt (by decide : (0 : Int32) < (4 : Int32))).2.1 rfl ?_
  refine Rt.aloadN (pc' := 13) X1 hx (hb hby d10_12) rfl rfl rfl ?_
  refine Rt.getF (pc' := 16) (v := (.ref bf)) X1 hx hZ hown (host := "") (Or.inl (hw _ (List.mem_of_getElem? (i := 26) rfl))) F_F_a1_buffer (hb hby d10_13) rfl ?_
  intro T2 X2
  refine Rt.aloadN (pc' := 17) X2 hx (hb hby d10_16) rfl rfl rfl ?_
  refine Rt.dup (pc' := 18) X2 hx (hb hby d10_17) rfl rfl ?_
  refine Rt.getF (pc' := 21) (v := (.int (1 : Int32))) X2 hx hZ hown (host := "") (Or.inl (hw _ (List.mem_of_getElem? (i := 42) rfl))) F_F_a1_size (hb hby d10_18) rfl ?_
  intro T3 X3
  refine Rt.dupX1 (pc' := 22) X3 hx (hb hby d10_21) rfl rfl rfl ?_
  refine Rt.iconst (pc' := 23) (v := (1 : Int32)) X3 hx (hb hby d10_22) rfl rfl ?_
  refine Rt.iadd (pc' := 24) (r := (2 : Int32)) X3 hx (hb hby d10_23) (by decide) rfl ?_
  refine Rt.putF (pc' := 27) (v := (.int (2 : Int32))) X3 hx hZ hown (host := "") (Or.inl (hw _ (List.mem_of_getElem? (i := 42) rfl))) F_F_a1_size F_E_a1 (Or.inl (hw _ (List.mem_of_getElem? (i := 43) rfl))) (hw _ (List.mem_of_getElem? (i := 18) rfl)) (ty := .int) (by decide) rfl rfl g_a1 (hb hby d10_24) rfl ?_
  intro T4 h4 X4 W4 F4
  have F5 : Exa Z h4 a1 nm1 := F_E_a1.wr W4
  have F6 : Fld Z h4 a1 nm1 "buffer" "[B" (.ref bf) := F_F_a1_buffer.other W4 (Or.inr (slot_ne (Or.inl (hw _ (List.mem_of_getElem? (i := 27) rfl))) (Or.inl (hw _ (List.mem_of_getElem? (i := 43) rfl))) (by decide) (t := (.array .byte)) (t' := .int) (by decide) (by decide)))
  have F7 : IL Z h4 bf .byte 16 := F_N_bf.wr W4
  have K8 : Keep h0 h4 [a1, bf] := (Keep.refl h0 [a1, bf]).wr W4 (Or.inl (List.mem_of_getElem? (i := 0) rfl))
  have Z9 : n0 ≤ h4.size := Nat.le_trans Z0 (Keep.of_wr W4).1
  refine Rt.lloadN (pc' := 28) X4 hx (hb hby d10_27) rfl rfl ?_
  refine Rt.bipush (pc' := 30) (v := (8 : Int32)) X4 hx (hb hby d10_28) rfl rfl ?_
  refine Rt.iloadN (pc' := 31) X4 hx (hb hby d10_30) rfl rfl ?_
  refine Rt.imul (pc' := 32) (r := (0 : Int32)) X4 hx (hb hby d10_31) (by decide) rfl ?_
  refine Rt.lushr (pc' := 33) (r := ((q2.toUInt64 >>> ((0 : Int32) &&& 0x3f).toInt64.toUInt64).toInt64)) X4 hx (hb hby d10_32) rfl rfl ?_
  refine Rt.l2i (pc' := 34) (r := (((q2.toUInt64 >>> ((0 : Int32) &&& 0x3f).toInt64.toUInt64).toInt64).toInt32)) X4 hx (hb hby d10_33) rfl rfl ?_
  refine Rt.i2b (pc' := 35) (r := ((((q2.toUInt64 >>> ((0 : Int32) &&& 0x3f).toInt64.toUInt64).toInt64).toInt32).toInt8.toInt32)) X4 hx (hb hby d10_34) rfl rfl ?_
  refine Rt.bastoreL (pc' := 36) X4 hx hZ F7 (i := 1) (by decide) (by decide) (by decide) g_bf (hb hby d10_35) rfl ?_
  intro T10 h10 X10 v10 W10 F10
  have F11 : Exa Z h10 a1 nm1 := F5.wr W10
  have F12 : Fld Z h10 a1 nm1 "buffer" "[B" (.ref bf) := F6.other W10 (Or.inl ne_1)
  have F13 : Fld Z h10 a1 nm1 "size" "I" (.int (2 : Int32)) := F4.other W10 (Or.inl ne_1)
  have K14 : Keep h0 h10 [a1, bf] := K8.wr W10 (Or.inl (List.mem_of_getElem? (i := 1) rfl))
  have Z15 : n0 ≤ h10.size := Nat.le_trans Z9 (Keep.of_wr W10).1
  refine Rt.iinc (pc' := 39) (r := (1 : Int32)) (l' := #[.val (.ref a1), .val (.long q2), .second, .val (.int (1 : Int32))]) X10 hx (hb hby d10_36) rfl (by decide) rfl rfl ?_
  refine Rt.goto (pc' := 7) X10 hx (hb hby d10_39) (by decide) (by decide) ?_
  refine Rt.iloadN (pc' := 8) X10 hx (hb hby d10_7) rfl rfl ?_
  refine Rt.iconst (pc' := 9) (v := (4 : Int32)) X10 hx (hb hby d10_8) rfl rfl ?_
  refine Rt.icmpN (pc' := 12) X10 hx (hb hby d10_9) (tlt (by decide : (1 : Int32) < (4 : Int32))).2.1 rfl ?_
  refine Rt.aloadN (pc' := 13) X10 hx (hb hby d10_12) rfl rfl rfl ?_
  refine Rt.getF (pc' := 16) (v := (.ref bf)) X10 hx hZ hown (host := "") (Or.inl (hw _ (List.mem_of_getElem? (i := 26) rfl))) F12 (hb hby d10_13) rfl ?_
  intro T16 X16
  refine Rt.aloadN (pc' := 17) X16 hx (hb hby d10_16) rfl rfl rfl ?_
  refine Rt.dup (pc' := 18) X16 hx (hb hby d10_17) rfl rfl ?_
  refine Rt.getF (pc' := 21) (v := (.int (2 : Int32))) X16 hx hZ hown (host := "") (Or.inl (hw _ (List.mem_of_getElem? (i := 42) rfl))) F13 (hb hby d10_18) rfl ?_
  intro T17 X17
  refine Rt.dupX1 (pc' := 22) X17 hx (hb hby d10_21) rfl rfl rfl ?_
  refine Rt.iconst (pc' := 23) (v := (1 : Int32)) X17 hx (hb hby d10_22) rfl rfl ?_
  refine Rt.iadd (pc' := 24) (r := (3 : Int32)) X17 hx (hb hby d10_23) (by decide) rfl ?_
  refine Rt.putF (pc' := 27) (v := (.int (3 : Int32))) X17 hx hZ hown (host := "") (Or.inl (hw _ (List.mem_of_getElem? (i := 42) rfl))) F13 F11 (Or.inl (hw _ (List.mem_of_getElem? (i := 43) rfl))) (hw _ (List.mem_of_getElem? (i := 18) rfl)) (ty := .int) (by decide) rfl rfl g_a1 (hb hby d10_24) rfl ?_
  intro T18 h18 X18 W18 F18
  have F19 : Exa Z h18 a1 nm1 := F11.wr W18
  have F20 : Fld Z h18 a1 nm1 "buffer" "[B" (.ref bf) := F12.other W18 (Or.inr (slot_ne (Or.inl (hw _ (List.mem_of_getElem? (i := 27) rfl))) (Or.inl (hw _ (List.mem_of_getElem? (i := 43) rfl))) (by decide) (t := (.array .byte)) (t' := .int) (by decide) (by decide)))
  have F21 : IL Z h18 bf .byte 16 := F10.wr W18
  have K22 : Keep h0 h18 [a1, bf] := K14.wr W18 (Or.inl (List.mem_of_getElem? (i := 0) rfl))
  have Z23 : n0 ≤ h18.size := Nat.le_trans Z15 (Keep.of_wr W18).1
  refine Rt.lloadN (pc' := 28) X18 hx (hb hby d10_27) rfl rfl ?_
  refine Rt.bipush (pc' := 30) (v := (8 : Int32)) X18 hx (hb hby d10_28) rfl rfl ?_
  refine Rt.iloadN (pc' := 31) X18 hx (hb hby d10_30) rfl rfl ?_
  refine Rt.imul (pc' := 32) (r := (8 : Int32)) X18 hx (hb hby d10_31) (by decide) rfl ?_
  refine Rt.lushr (pc' := 33) (r := ((q2.toUInt64 >>> ((8 : Int32) &&& 0x3f).toInt64.toUInt64).toInt64)) X18 hx (hb hby d10_32) rfl rfl ?_
  refine Rt.l2i (pc' := 34) (r := (((q2.toUInt64 >>> ((8 : Int32) &&& 0x3f).toInt64.toUInt64).toInt64).toInt32)) X18 hx (hb hby d10_33) rfl rfl ?_
  refine Rt.i2b (pc' := 35) (r := ((((q2.toUInt64 >>> ((8 : Int32) &&& 0x3f).toInt64.toUInt64).toInt64).toInt32).toInt8.toInt32)) X18 hx (hb hby d10_34) rfl rfl ?_
  refine Rt.bastoreL (pc' := 36) X18 hx hZ F21 (i := 2) (by decide) (by decide) (by decide) g_bf (hb hby d10_35) rfl ?_
  intro T24 h24 X24 v24 W24 F24
  have F25 : Exa Z h24 a1 nm1 := F19.wr W24
  have F26 : Fld Z h24 a1 nm1 "buffer" "[B" (.ref bf) := F20.other W24 (Or.inl ne_1)
  have F27 : Fld Z h24 a1 nm1 "size" "I" (.int (3 : Int32)) := F18.other W24 (Or.inl ne_1)
  have K28 : Keep h0 h24 [a1, bf] := K22.wr W24 (Or.inl (List.mem_of_getElem? (i := 1) rfl))
  have Z29 : n0 ≤ h24.size := Nat.le_trans Z23 (Keep.of_wr W24).1
  refine Rt.iinc (pc' := 39) (r := (2 : Int32)) (l' := #[.val (.ref a1), .val (.long q2), .second, .val (.int (2 : Int32))]) X24 hx (hb hby d10_36) rfl (by decide) rfl rfl ?_
  refine Rt.goto (pc' := 7) X24 hx (hb hby d10_39) (by decide) (by decide) ?_
  refine Rt.iloadN (pc' := 8) X24 hx (hb hby d10_7) rfl rfl ?_
  refine Rt.iconst (pc' := 9) (v := (4 : Int32)) X24 hx (hb hby d10_8) rfl rfl ?_
  refine Rt.icmpN (pc' := 12) X24 hx (hb hby d10_9) (tlt (by decide : (2 : Int32) < (4 : Int32))).2.1 rfl ?_
  refine Rt.aloadN (pc' := 13) X24 hx (hb hby d10_12) rfl rfl rfl ?_
  refine Rt.getF (pc' := 16) (v := (.ref bf)) X24 hx hZ hown (host := "") (Or.inl (hw _ (List.mem_of_getElem? (i := 26) rfl))) F26 (hb hby d10_13) rfl ?_
  intro T30 X30
  refine Rt.aloadN (pc' := 17) X30 hx (hb hby d10_16) rfl rfl rfl ?_
  refine Rt.dup (pc' := 18) X30 hx (hb hby d10_17) rfl rfl ?_
  refine Rt.getF (pc' := 21) (v := (.int (3 : Int32))) X30 hx hZ hown (host := "") (Or.inl (hw _ (List.mem_of_getElem? (i := 42) rfl))) F27 (hb hby d10_18) rfl ?_
  intro T31 X31
  refine Rt.dupX1 (pc' := 22) X31 hx (hb hby d10_21) rfl rfl rfl ?_
  refine Rt.iconst (pc' := 23) (v := (1 : Int32)) X31 hx (hb hby d10_22) rfl rfl ?_
  refine Rt.iadd (pc' := 24) (r := (4 : Int32)) X31 hx (hb hby d10_23) (by decide) rfl ?_
  refine Rt.putF (pc' := 27) (v := (.int (4 : Int32))) X31 hx hZ hown (host := "") (Or.inl (hw _ (List.mem_of_getElem? (i := 42) rfl))) F27 F25 (Or.inl (hw _ (List.mem_of_getElem? (i := 43) rfl))) (hw _ (List.mem_of_getElem? (i := 18) rfl)) (ty := .int) (by decide) rfl rfl g_a1 (hb hby d10_24) rfl ?_
  intro T32 h32 X32 W32 F32
  have F33 : Exa Z h32 a1 nm1 := F25.wr W32
  have F34 : Fld Z h32 a1 nm1 "buffer" "[B" (.ref bf) := F26.other W32 (Or.inr (slot_ne (Or.inl (hw _ (List.mem_of_getElem? (i := 27) rfl))) (Or.inl (hw _ (List.mem_of_getElem? (i := 43) rfl))) (by decide) (t := (.array .byte)) (t' := .int) (by decide) (by decide)))
  have F35 : IL Z h32 bf .byte 16 := F24.wr W32
  have K36 : Keep h0 h32 [a1, bf] := K28.wr W32 (Or.inl (List.mem_of_getElem? (i := 0) rfl))
  have Z37 : n0 ≤ h32.size := Nat.le_trans Z29 (Keep.of_wr W32).1
  refine Rt.lloadN (pc' := 28) X32 hx (hb hby d10_27) rfl rfl ?_
  refine Rt.bipush (pc' := 30) (v := (8 : Int32)) X32 hx (hb hby d10_28) rfl rfl ?_
  refine Rt.iloadN (pc' := 31) X32 hx (hb hby d10_30) rfl rfl ?_
  refine Rt.imul (pc' := 32) (r := (16 : Int32)) X32 hx (hb hby d10_31) (by decide) rfl ?_
  refine Rt.lushr (pc' := 33) (r := ((q2.toUInt64 >>> ((16 : Int32) &&& 0x3f).toInt64.toUInt64).toInt64)) X32 hx (hb hby d10_32) rfl rfl ?_
  refine Rt.l2i (pc' := 34) (r := (((q2.toUInt64 >>> ((16 : Int32) &&& 0x3f).toInt64.toUInt64).toInt64).toInt32)) X32 hx (hb hby d10_33) rfl rfl ?_
  refine Rt.i2b (pc' := 35) (r := ((((q2.toUInt64 >>> ((16 : Int32) &&& 0x3f).toInt64.toUInt64).toInt64).toInt32).toInt8.toInt32)) X32 hx (hb hby d10_34) rfl rfl ?_
  refine Rt.bastoreL (pc' := 36) X32 hx hZ F35 (i := 3) (by decide) (by decide) (by decide) g_bf (hb hby d10_35) rfl ?_
  intro T38 h38 X38 v38 W38 F38
  have F39 : Exa Z h38 a1 nm1 := F33.wr W38
  have F40 : Fld Z h38 a1 nm1 "buffer" "[B" (.ref bf) := F34.other W38 (Or.inl ne_1)
  have F41 : Fld Z h38 a1 nm1 "size" "I" (.int (4 : Int32)) := F32.other W38 (Or.inl ne_1)
  have K42 : Keep h0 h38 [a1, bf] := K36.wr W38 (Or.inl (List.mem_of_getElem? (i := 1) rfl))
  have Z43 : n0 ≤ h38.size := Nat.le_trans Z37 (Keep.of_wr W38).1
  refine Rt.iinc (pc' := 39) (r := (3 : Int32)) (l' := #[.val (.ref a1), .val (.long q2), .second, .val (.int (3 : Int32))]) X38 hx (hb hby d10_36) rfl (by decide) rfl rfl ?_
  refine Rt.goto (pc' := 7) X38 hx (hb hby d10_39) (by decide) (by decide) ?_
  refine Rt.iloadN (pc' := 8) X38 hx (hb hby d10_7) rfl rfl ?_
  refine Rt.iconst (pc' := 9) (v := (4 : Int32)) X38 hx (hb hby d10_8) rfl rfl ?_
  refine Rt.icmpN (pc' := 12) X38 hx (hb hby d10_9) (tlt (by decide : (3 : Int32) < (4 : Int32))).2.1 rfl ?_
  refine Rt.aloadN (pc' := 13) X38 hx (hb hby d10_12) rfl rfl rfl ?_
  refine Rt.getF (pc' := 16) (v := (.ref bf)) X38 hx hZ hown (host := "") (Or.inl (hw _ (List.mem_of_getElem? (i := 26) rfl))) F40 (hb hby d10_13) rfl ?_
  intro T44 X44
  refine Rt.aloadN (pc' := 17) X44 hx (hb hby d10_16) rfl rfl rfl ?_
  refine Rt.dup (pc' := 18) X44 hx (hb hby d10_17) rfl rfl ?_
  refine Rt.getF (pc' := 21) (v := (.int (4 : Int32))) X44 hx hZ hown (host := "") (Or.inl (hw _ (List.mem_of_getElem? (i := 42) rfl))) F41 (hb hby d10_18) rfl ?_
  intro T45 X45
  refine Rt.dupX1 (pc' := 22) X45 hx (hb hby d10_21) rfl rfl rfl ?_
  refine Rt.iconst (pc' := 23) (v := (1 : Int32)) X45 hx (hb hby d10_22) rfl rfl ?_
  refine Rt.iadd (pc' := 24) (r := (5 : Int32)) X45 hx (hb hby d10_23) (by decide) rfl ?_
  refine Rt.putF (pc' := 27) (v := (.int (5 : Int32))) X45 hx hZ hown (host := "") (Or.inl (hw _ (List.mem_of_getElem? (i := 42) rfl))) F41 F39 (Or.inl (hw _ (List.mem_of_getElem? (i := 43) rfl))) (hw _ (List.mem_of_getElem? (i := 18) rfl)) (ty := .int) (by decide) rfl rfl g_a1 (hb hby d10_24) rfl ?_
  intro T46 h46 X46 W46 F46
  have F47 : Exa Z h46 a1 nm1 := F39.wr W46
  have F48 : Fld Z h46 a1 nm1 "buffer" "[B" (.ref bf) := F40.other W46 (Or.inr (slot_ne (Or.inl (hw _ (List.mem_of_getElem? (i := 27) rfl))) (Or.inl (hw _ (List.mem_of_getElem? (i := 43) rfl))) (by decide) (t := (.array .byte)) (t' := .int) (by decide) (by decide)))
  have F49 : IL Z h46 bf .byte 16 := F38.wr W46
  have K50 : Keep h0 h46 [a1, bf] := K42.wr W46 (Or.inl (List.mem_of_getElem? (i := 0) rfl))
  have Z51 : n0 ≤ h46.size := Nat.le_trans Z43 (Keep.of_wr W46).1
  refine Rt.lloadN (pc' := 28) X46 hx (hb hby d10_27) rfl rfl ?_
  refine Rt.bipush (pc' := 30) (v := (8 : Int32)) X46 hx (hb hby d10_28) rfl rfl ?_
  refine Rt.iloadN (pc' := 31) X46 hx (hb hby d10_30) rfl rfl ?_
  refine Rt.imul (pc' := 32) (r := (24 : Int32)) X46 hx (hb hby d10_31) (by decide) rfl ?_
  refine Rt.lushr (pc' := 33) (r := ((q2.toUInt64 >>> ((24 : Int32) &&& 0x3f).toInt64.toUInt64).toInt64)) X46 hx (hb hby d10_32) rfl rfl ?_
  refine Rt.l2i (pc' := 34) (r := (((q2.toUInt64 >>> ((24 : Int32) &&& 0x3f).toInt64.toUInt64).toInt64).toInt32)) X46 hx (hb hby d10_33) rfl rfl ?_
  refine Rt.i2b (pc' := 35) (r := ((((q2.toUInt64 >>> ((24 : Int32) &&& 0x3f).toInt64.toUInt64).toInt64).toInt32).toInt8.toInt32)) X46 hx (hb hby d10_34) rfl rfl ?_
  refine Rt.bastoreL (pc' := 36) X46 hx hZ F49 (i := 4) (by decide) (by decide) (by decide) g_bf (hb hby d10_35) rfl ?_
  intro T52 h52 X52 v52 W52 F52
  have F53 : Exa Z h52 a1 nm1 := F47.wr W52
  have F54 : Fld Z h52 a1 nm1 "buffer" "[B" (.ref bf) := F48.other W52 (Or.inl ne_1)
  have F55 : Fld Z h52 a1 nm1 "size" "I" (.int (5 : Int32)) := F46.other W52 (Or.inl ne_1)
  have K56 : Keep h0 h52 [a1, bf] := K50.wr W52 (Or.inl (List.mem_of_getElem? (i := 1) rfl))
  have Z57 : n0 ≤ h52.size := Nat.le_trans Z51 (Keep.of_wr W52).1
  refine Rt.iinc (pc' := 39) (r := (4 : Int32)) (l' := #[.val (.ref a1), .val (.long q2), .second, .val (.int (4 : Int32))]) X52 hx (hb hby d10_36) rfl (by decide) rfl rfl ?_
  refine Rt.goto (pc' := 7) X52 hx (hb hby d10_39) (by decide) (by decide) ?_
  refine Rt.iloadN (pc' := 8) X52 hx (hb hby d10_7) rfl rfl ?_
  refine Rt.iconst (pc' := 9) (v := (4 : Int32)) X52 hx (hb hby d10_8) rfl rfl ?_
  refine Rt.icmpY (pc' := 42) X52 hx (hb hby d10_9) (flt (by decide : ¬ ((4 : Int32) < (4 : Int32)))).2.1 (by decide) (by decide) ?_
  exact Rt.retV X52 hx hlk hret (hb hby d10_42) (by decide) (by decide) (fun L N => ⟨rfl, N, K56, F53, F54, F55, F52⟩)
def Q10_5 (Z : State) (a1 : Addr) (q2 : Int64) (bf : Addr) (h0 : Heap) (n0 : Nat) (v : Option Value) (h : Heap) (L : List Loc) : Prop := v = none ∧ Fr n0 L ∧ Keep h0 h [a1, bf] ∧ Exa Z h a1 nm1 ∧ Fld Z h a1 nm1 "buffer" "[B" (.ref bf) ∧ Fld Z h a1 nm1 "size" "I" (.int (9 : Int32)) ∧ IL Z h bf .byte 16
def rmR10_5 : Room := { frames := 1, cells := 0, slots := 0, locals := 15 }
theorem ef_10_5 (m : MethodId) (a1 : Addr) (q2 : Int64) : entryFrame m #[(.ref a1), (.long q2)] 4 = mkF m 0 #[.val (.ref a1), .val (.long q2), .second, .unset] [] := by first | (simp [entryFrame, mkF, argsToLocals, Value.category]; done) | rfl
set_option maxRecDepth 65536 in
set_option maxHeartbeats 40000000 in
theorem rm10_5 (l : Launch) (Z : State) (a0 : Array Value) (hw : ∀ d ∈ tables_1, d.before a0 Z = true) (ws : List Jvm.Cond) (a1 : Addr) (q2 : Int64) (bf : Addr) (h0 : Heap) (n0 : Nat) (Z0 : n0 ≤ h0.size) (F_E_a1 : Exa Z h0 a1 nm1) (F_F_a1_buffer : Fld Z h0 a1 nm1 "buffer" "[B" (.ref bf)) (F_F_a1_size : Fld Z h0 a1 nm1 "size" "I" (.int (5 : Int32))) (F_N_bf : IL Z h0 bf .byte 16) (g_a1 : n0 ≤ a1) (g_bf : n0 ≤ bf) (ne_1 : a1 ≠ bf) :
    Mt l Z mt7 (Jvm.Cond.code mt7 prog_114_method_8_code 4 none :: ws) rmR10_5 #[(.ref a1), (.long q2)] h0 (Q10_5 Z a1 q2 bf h0 n0) := by
  refine Mt.of n0 (plainFor_of_name pn_com_example_cogwire_cogwire_wire_ByteSink) ?_
  intro p e s m below meth c T0 X0 hx hZ hby hml hown hret hlk hnm hs0
  have hown : s.vm.findClass "com/example/cogwire/cogwire/wire/ByteSink" = some m.cls := hown
  rw [ef_10_5]
  show Rt p e below s rmR10_5.cells rmR10_5.slots (Q10_5 Z a1 q2 bf h0 n0) (T0.setTop (mkF m 0 #[.val (.ref a1), .val (.long q2), .second, .unset] []))
  refine Rt.aloadN (pc' := 1) X0 hx (hb hby d10_0) rfl rfl rfl ?_
  refine Rt.iconst (pc' := 2) (v := (4 : Int32)) X0 hx (hb hby d10_1) rfl rfl ?_
  refine Rt.callPr (pc' := 5) X0 hx hZ (y := mt4) hown (hw _ (List.mem_of_getElem? (i := 38) rfl)) (hw _ (List.mem_of_getElem? (i := 39) rfl)) (hw _ (List.mem_of_getElem? (i := 40) rfl)) (hw _ (List.mem_of_getElem? (i := 18) rfl)) (hw _ (List.mem_of_getElem? (i := 14) rfl)) (hw _ (List.mem_of_getElem? (i := 41) rfl)) (by decide) F_E_a1 (rm7_4_5 l Z a0 hw [] a1 bf h0 n0 F_F_a1_buffer F_F_a1_size F_N_bf) (fun _ _ _ q => q.2.1) (W := 0) (by decide) (by decide) (by decide) (by decide) (argsL := [(.int (4 : Int32))]) (rest := []) (by rw [hml]; rfl) (lenOf pd_0 rfl) rfl rfl (Nat.le_of_eq rfl) (hb hby d10_2) rfl ?_
  rintro _ T1 h1 L1 X1 ⟨rfl, N1, e1⟩
  rw [e1] at X1
  show Rt _ _ _ _ _ _ _ (T1.setTop (mkF m 5 #[.val (.ref a1), .val (.long q2), .second, .unset] []))
  refine Rt.iconst (pc' := 6) (v := (0 : Int32)) X1 hx (hb hby d10_5) rfl rfl ?_
  refine Rt.istoreN (pc' := 7) (v := (0 : Int32)) (l' := #[.val (.ref a1), .val (.long q2), .second, .val (.int (0 : Int32))]) X1 hx (hb hby d10_6) rfl rfl ?_
  refine Rt.iloadN (pc' := 8) X1 hx (hb hby d10_7) rfl rfl ?_
  refine Rt.iconst (pc' := 9) (v := (4 : Int32)) X1 hx (hb hby d10_8) rfl rfl ?_
  refine Rt.icmpN (pc' := 12) X1 hx (hb hby d10_9) (tlt (by decide : (0 : Int32) < (4 : Int32))).2.1 rfl ?_
  refine Rt.aloadN (pc' := 13) X1 hx (hb hby d10_12) rfl rfl rfl ?_
  refine Rt.getF (pc' := 16) (v := (.ref bf)) X1 hx hZ hown (host := "") (Or.inl (hw _ (List.mem_of_getElem? (i := 26) rfl))) F_F_a1_buffer (hb hby d10_13) rfl ?_
  intro T2 X2
  refine Rt.aloadN (pc' := 17) X2 hx (hb hby d10_16) rfl rfl rfl ?_
  refine Rt.dup (pc' := 18) X2 hx (hb hby d10_17) rfl rfl ?_
  refine Rt.getF (pc' := 21) (v := (.int (5 : Int32))) X2 hx hZ hown (host := "") (Or.inl (hw _ (List.mem_of_getElem? (i := 42) rfl))) F_F_a1_size (hb hby d10_18) rfl ?_
  intro T3 X3
  refine Rt.dupX1 (pc' := 22) X3 hx (hb hby d10_21) rfl rfl rfl ?_
  refine Rt.iconst (pc' := 23) (v := (1 : Int32)) X3 hx (hb hby d10_22) rfl rfl ?_
  refine Rt.iadd (pc' := 24) (r := (6 : Int32)) X3 hx (hb hby d10_23) (by decide) rfl ?_
  refine Rt.putF (pc' := 27) (v := (.int (6 : Int32))) X3 hx hZ hown (host := "") (Or.inl (hw _ (List.mem_of_getElem? (i := 42) rfl))) F_F_a1_size F_E_a1 (Or.inl (hw _ (List.mem_of_getElem? (i := 43) rfl))) (hw _ (List.mem_of_getElem? (i := 18) rfl)) (ty := .int) (by decide) rfl rfl g_a1 (hb hby d10_24) rfl ?_
  intro T4 h4 X4 W4 F4
  have F5 : Exa Z h4 a1 nm1 := F_E_a1.wr W4
  have F6 : Fld Z h4 a1 nm1 "buffer" "[B" (.ref bf) := F_F_a1_buffer.other W4 (Or.inr (slot_ne (Or.inl (hw _ (List.mem_of_getElem? (i := 27) rfl))) (Or.inl (hw _ (List.mem_of_getElem? (i := 43) rfl))) (by decide) (t := (.array .byte)) (t' := .int) (by decide) (by decide)))
  have F7 : IL Z h4 bf .byte 16 := F_N_bf.wr W4
  have K8 : Keep h0 h4 [a1, bf] := (Keep.refl h0 [a1, bf]).wr W4 (Or.inl (List.mem_of_getElem? (i := 0) rfl))
  have Z9 : n0 ≤ h4.size := Nat.le_trans Z0 (Keep.of_wr W4).1
  refine Rt.lloadN (pc' := 28) X4 hx (hb hby d10_27) rfl rfl ?_
  refine Rt.bipush (pc' := 30) (v := (8 : Int32)) X4 hx (hb hby d10_28) rfl rfl ?_
  refine Rt.iloadN (pc' := 31) X4 hx (hb hby d10_30) rfl rfl ?_
  refine Rt.imul (pc' := 32) (r := (0 : Int32)) X4 hx (hb hby d10_31) (by decide) rfl ?_
  refine Rt.lushr (pc' := 33) (r := ((q2.toUInt64 >>> ((0 : Int32) &&& 0x3f).toInt64.toUInt64).toInt64)) X4 hx (hb hby d10_32) rfl rfl ?_
  refine Rt.l2i (pc' := 34) (r := (((q2.toUInt64 >>> ((0 : Int32) &&& 0x3f).toInt64.toUInt64).toInt64).toInt32)) X4 hx (hb hby d10_33) rfl rfl ?_
  refine Rt.i2b (pc' := 35) (r := ((((q2.toUInt64 >>> ((0 : Int32) &&& 0x3f).toInt64.toUInt64).toInt64).toInt32).toInt8.toInt32)) X4 hx (hb hby d10_34) rfl rfl ?_
  refine Rt.bastoreL (pc' := 36) X4 hx hZ F7 (i := 5) (by decide) (by decide) (by decide) g_bf (hb hby d10_35) rfl ?_
  intro T10 h10 X10 v10 W10 F10
  have F11 : Exa Z h10 a1 nm1 := F5.wr W10
  have F12 : Fld Z h10 a1 nm1 "buffer" "[B" (.ref bf) := F6.other W10 (Or.inl ne_1)
  have F13 : Fld Z h10 a1 nm1 "size" "I" (.int (6 : Int32)) := F4.other W10 (Or.inl ne_1)
  have K14 : Keep h0 h10 [a1, bf] := K8.wr W10 (Or.inl (List.mem_of_getElem? (i := 1) rfl))
  have Z15 : n0 ≤ h10.size := Nat.le_trans Z9 (Keep.of_wr W10).1
  refine Rt.iinc (pc' := 39) (r := (1 : Int32)) (l' := #[.val (.ref a1), .val (.long q2), .second, .val (.int (1 : Int32))]) X10 hx (hb hby d10_36) rfl (by decide) rfl rfl ?_
  refine Rt.goto (pc' := 7) X10 hx (hb hby d10_39) (by decide) (by decide) ?_
  refine Rt.iloadN (pc' := 8) X10 hx (hb hby d10_7) rfl rfl ?_
  refine Rt.iconst (pc' := 9) (v := (4 : Int32)) X10 hx (hb hby d10_8) rfl rfl ?_
  refine Rt.icmpN (pc' := 12) X10 hx (hb hby d10_9) (tlt (by decide : (1 : Int32) < (4 : Int32))).2.1 rfl ?_
  refine Rt.aloadN (pc' := 13) X10 hx (hb hby d10_12) rfl rfl rfl ?_
  refine Rt.getF (pc' := 16) (v := (.ref bf)) X10 hx hZ hown (host := "") (Or.inl (hw _ (List.mem_of_getElem? (i := 26) rfl))) F12 (hb hby d10_13) rfl ?_
  intro T16 X16
  refine Rt.aloadN (pc' := 17) X16 hx (hb hby d10_16) rfl rfl rfl ?_
  refine Rt.dup (pc' := 18) X16 hx (hb hby d10_17) rfl rfl ?_
  refine Rt.getF (pc' := 21) (v := (.int (6 : Int32))) X16 hx hZ hown (host := "") (Or.inl (hw _ (List.mem_of_getElem? (i := 42) rfl))) F13 (hb hby d10_18) rfl ?_
  intro T17 X17
  refine Rt.dupX1 (pc' := 22) X17 hx (hb hby d10_21) rfl rfl rfl ?_
  refine Rt.iconst (pc' := 23) (v := (1 : Int32)) X17 hx (hb hby d10_22) rfl rfl ?_
  refine Rt.iadd (pc' := 24) (r := (7 : Int32)) X17 hx (hb hby d10_23) (by decide) rfl ?_
  refine Rt.putF (pc' := 27) (v := (.int (7 : Int32))) X17 hx hZ hown (host := "") (Or.inl (hw _ (List.mem_of_getElem? (i := 42) rfl))) F13 F11 (Or.inl (hw _ (List.mem_of_getElem? (i := 43) rfl))) (hw _ (List.mem_of_getElem? (i := 18) rfl)) (ty := .int) (by decide) rfl rfl g_a1 (hb hby d10_24) rfl ?_
  intro T18 h18 X18 W18 F18
  have F19 : Exa Z h18 a1 nm1 := F11.wr W18
  have F20 : Fld Z h18 a1 nm1 "buffer" "[B" (.ref bf) := F12.other W18 (Or.inr (slot_ne (Or.inl (hw _ (List.mem_of_getElem? (i := 27) rfl))) (Or.inl (hw _ (List.mem_of_getElem? (i := 43) rfl))) (by decide) (t := (.array .byte)) (t' := .int) (by decide) (by decide)))
  have F21 : IL Z h18 bf .byte 16 := F10.wr W18
  have K22 : Keep h0 h18 [a1, bf] := K14.wr W18 (Or.inl (List.mem_of_getElem? (i := 0) rfl))
  have Z23 : n0 ≤ h18.size := Nat.le_trans Z15 (Keep.of_wr W18).1
  refine Rt.lloadN (pc' := 28) X18 hx (hb hby d10_27) rfl rfl ?_
  refine Rt.bipush (pc' := 30) (v := (8 : Int32)) X18 hx (hb hby d10_28) rfl rfl ?_
  refine Rt.iloadN (pc' := 31) X18 hx (hb hby d10_30) rfl rfl ?_
  refine Rt.imul (pc' := 32) (r := (8 : Int32)) X18 hx (hb hby d10_31) (by decide) rfl ?_
  refine Rt.lushr (pc' := 33) (r := ((q2.toUInt64 >>> ((8 : Int32) &&& 0x3f).toInt64.toUInt64).toInt64)) X18 hx (hb hby d10_32) rfl rfl ?_
  refine Rt.l2i (pc' := 34) (r := (((q2.toUInt64 >>> ((8 : Int32) &&& 0x3f).toInt64.toUInt64).toInt64).toInt32)) X18 hx (hb hby d10_33) rfl rfl ?_
  refine Rt.i2b (pc' := 35) (r := ((((q2.toUInt64 >>> ((8 : Int32) &&& 0x3f).toInt64.toUInt64).toInt64).toInt32).toInt8.toInt32)) X18 hx (hb hby d10_34) rfl rfl ?_
  refine Rt.bastoreL (pc' := 36) X18 hx hZ F21 (i := 6) (by decide) (by decide) (by decide) g_bf (hb hby d10_35) rfl ?_
  intro T24 h24 X24 v24 W24 F24
  have F25 : Exa Z h24 a1 nm1 := F19.wr W24
  have F26 : Fld Z h24 a1 nm1 "buffer" "[B" (.ref bf) := F20.other W24 (Or.inl ne_1)
  have F27 : Fld Z h24 a1 nm1 "size" "I" (.int (7 : Int32)) := F18.other W24 (Or.inl ne_1)
  have K28 : Keep h0 h24 [a1, bf] := K22.wr W24 (Or.inl (List.mem_of_getElem? (i := 1) rfl))
  have Z29 : n0 ≤ h24.size := Nat.le_trans Z23 (Keep.of_wr W24).1
  refine Rt.iinc (pc' := 39) (r := (2 : Int32)) (l' := #[.val (.ref a1), .val (.long q2), .second, .val (.int (2 : Int32))]) X24 hx (hb hby d10_36) rfl (by decide) rfl rfl ?_
  refine Rt.goto (pc' := 7) X24 hx (hb hby d10_39) (by decide) (by decide) ?_
  refine Rt.iloadN (pc' := 8) X24 hx (hb hby d10_7) rfl rfl ?_
  refine Rt.iconst (pc' := 9) (v := (4 : Int32)) X24 hx (hb hby d10_8) rfl rfl ?_
  refine Rt.icmpN (pc' := 12) X24 hx (hb hby d10_9) (tlt (by decide : (2 : Int32) < (4 : Int32))).2.1 rfl ?_
  refine Rt.aloadN (pc' := 13) X24 hx (hb hby d10_12) rfl rfl rfl ?_
  refine Rt.getF (pc' := 16) (v := (.ref bf)) X24 hx hZ hown (host := "") (Or.inl (hw _ (List.mem_of_getElem? (i := 26) rfl))) F26 (hb hby d10_13) rfl ?_
  intro T30 X30
  refine Rt.aloadN (pc' := 17) X30 hx (hb hby d10_16) rfl rfl rfl ?_
  refine Rt.dup (pc' := 18) X30 hx (hb hby d10_17) rfl rfl ?_
  refine Rt.getF (pc' := 21) (v := (.int (7 : Int32))) X30 hx hZ hown (host := "") (Or.inl (hw _ (List.mem_of_getElem? (i := 42) rfl))) F27 (hb hby d10_18) rfl ?_
  intro T31 X31
  refine Rt.dupX1 (pc' := 22) X31 hx (hb hby d10_21) rfl rfl rfl ?_
  refine Rt.iconst (pc' := 23) (v := (1 : Int32)) X31 hx (hb hby d10_22) rfl rfl ?_
  refine Rt.iadd (pc' := 24) (r := (8 : Int32)) X31 hx (hb hby d10_23) (by decide) rfl ?_
  refine Rt.putF (pc' := 27) (v := (.int (8 : Int32))) X31 hx hZ hown (host := "") (Or.inl (hw _ (List.mem_of_getElem? (i := 42) rfl))) F27 F25 (Or.inl (hw _ (List.mem_of_getElem? (i := 43) rfl))) (hw _ (List.mem_of_getElem? (i := 18) rfl)) (ty := .int) (by decide) rfl rfl g_a1 (hb hby d10_24) rfl ?_
  intro T32 h32 X32 W32 F32
  have F33 : Exa Z h32 a1 nm1 := F25.wr W32
  have F34 : Fld Z h32 a1 nm1 "buffer" "[B" (.ref bf) := F26.other W32 (Or.inr (slot_ne (Or.inl (hw _ (List.mem_of_getElem? (i := 27) rfl))) (Or.inl (hw _ (List.mem_of_getElem? (i := 43) rfl))) (by decide) (t := (.array .byte)) (t' := .int) (by decide) (by decide)))
  have F35 : IL Z h32 bf .byte 16 := F24.wr W32
  have K36 : Keep h0 h32 [a1, bf] := K28.wr W32 (Or.inl (List.mem_of_getElem? (i := 0) rfl))
  have Z37 : n0 ≤ h32.size := Nat.le_trans Z29 (Keep.of_wr W32).1
  refine Rt.lloadN (pc' := 28) X32 hx (hb hby d10_27) rfl rfl ?_
  refine Rt.bipush (pc' := 30) (v := (8 : Int32)) X32 hx (hb hby d10_28) rfl rfl ?_
  refine Rt.iloadN (pc' := 31) X32 hx (hb hby d10_30) rfl rfl ?_
  refine Rt.imul (pc' := 32) (r := (16 : Int32)) X32 hx (hb hby d10_31) (by decide) rfl ?_
  refine Rt.lushr (pc' := 33) (r := ((q2.toUInt64 >>> ((16 : Int32) &&& 0x3f).toInt64.toUInt64).toInt64)) X32 hx (hb hby d10_32) rfl rfl ?_
  refine Rt.l2i (pc' := 34) (r := (((q2.toUInt64 >>> ((16 : Int32) &&& 0x3f).toInt64.toUInt64).toInt64).toInt32)) X32 hx (hb hby d10_33) rfl rfl ?_
  refine Rt.i2b (pc' := 35) (r := ((((q2.toUInt64 >>> ((16 : Int32) &&& 0x3f).toInt64.toUInt64).toInt64).toInt32).toInt8.toInt32)) X32 hx (hb hby d10_34) rfl rfl ?_
  refine Rt.bastoreL (pc' := 36) X32 hx hZ F35 (i := 7) (by decide) (by decide) (by decide) g_bf (hb hby d10_35) rfl ?_
  intro T38 h38 X38 v38 W38 F38
  have F39 : Exa Z h38 a1 nm1 := F33.wr W38
  have F40 : Fld Z h38 a1 nm1 "buffer" "[B" (.ref bf) := F34.other W38 (Or.inl ne_1)
  have F41 : Fld Z h38 a1 nm1 "size" "I" (.int (8 : Int32)) := F32.other W38 (Or.inl ne_1)
  have K42 : Keep h0 h38 [a1, bf] := K36.wr W38 (Or.inl (List.mem_of_getElem? (i := 1) rfl))
  have Z43 : n0 ≤ h38.size := Nat.le_trans Z37 (Keep.of_wr W38).1
  refine Rt.iinc (pc' := 39) (r := (3 : Int32)) (l' := #[.val (.ref a1), .val (.long q2), .second, .val (.int (3 : Int32))]) X38 hx (hb hby d10_36) rfl (by decide) rfl rfl ?_
  refine Rt.goto (pc' := 7) X38 hx (hb hby d10_39) (by decide) (by decide) ?_
  refine Rt.iloadN (pc' := 8) X38 hx (hb hby d10_7) rfl rfl ?_
  refine Rt.iconst (pc' := 9) (v := (4 : Int32)) X38 hx (hb hby d10_8) rfl rfl ?_
  refine Rt.icmpN (pc' := 12) X38 hx (hb hby d10_9) (tlt (by decide : (3 : Int32) < (4 : Int32))).2.1 rfl ?_
  refine Rt.aloadN (pc' := 13) X38 hx (hb hby d10_12) rfl rfl rfl ?_
  refine Rt.getF (pc' := 16) (v := (.ref bf)) X38 hx hZ hown (host := "") (Or.inl (hw _ (List.mem_of_getElem? (i := 26) rfl))) F40 (hb hby d10_13) rfl ?_
  intro T44 X44
  refine Rt.aloadN (pc' := 17) X44 hx (hb hby d10_16) rfl rfl rfl ?_
  refine Rt.dup (pc' := 18) X44 hx (hb hby d10_17) rfl rfl ?_
  refine Rt.getF (pc' := 21) (v := (.int (8 : Int32))) X44 hx hZ hown (host := "") (Or.inl (hw _ (List.mem_of_getElem? (i := 42) rfl))) F41 (hb hby d10_18) rfl ?_
  intro T45 X45
  refine Rt.dupX1 (pc' := 22) X45 hx (hb hby d10_21) rfl rfl rfl ?_
  refine Rt.iconst (pc' := 23) (v := (1 : Int32)) X45 hx (hb hby d10_22) rfl rfl ?_
  refine Rt.iadd (pc' := 24) (r := (9 : Int32)) X45 hx (hb hby d10_23) (by decide) rfl ?_
  refine Rt.putF (pc' := 27) (v := (.int (9 : Int32))) X45 hx hZ hown (host := "") (Or.inl (hw _ (List.mem_of_getElem? (i := 42) rfl))) F41 F39 (Or.inl (hw _ (List.mem_of_getElem? (i := 43) rfl))) (hw _ (List.mem_of_getElem? (i := 18) rfl)) (ty := .int) (by decide) rfl rfl g_a1 (hb hby d10_24) rfl ?_
  intro T46 h46 X46 W46 F46
  have F47 : Exa Z h46 a1 nm1 := F39.wr W46
  have F48 : Fld Z h46 a1 nm1 "buffer" "[B" (.ref bf) := F40.other W46 (Or.inr (slot_ne (Or.inl (hw _ (List.mem_of_getElem? (i := 27) rfl))) (Or.inl (hw _ (List.mem_of_getElem? (i := 43) rfl))) (by decide) (t := (.array .byte)) (t' := .int) (by decide) (by decide)))
  have F49 : IL Z h46 bf .byte 16 := F38.wr W46
  have K50 : Keep h0 h46 [a1, bf] := K42.wr W46 (Or.inl (List.mem_of_getElem? (i := 0) rfl))
  have Z51 : n0 ≤ h46.size := Nat.le_trans Z43 (Keep.of_wr W46).1
  refine Rt.lloadN (pc' := 28) X46 hx (hb hby d10_27) rfl rfl ?_
  refine Rt.bipush (pc' := 30) (v := (8 : Int32)) X46 hx (hb hby d10_28) rfl rfl ?_
  refine Rt.iloadN (pc' := 31) X46 hx (hb hby d10_30) rfl rfl ?_
  refine Rt.imul (pc' := 32) (r := (24 : Int32)) X46 hx (hb hby d10_31) (by decide) rfl ?_
  refine Rt.lushr (pc' := 33) (r := ((q2.toUInt64 >>> ((24 : Int32) &&& 0x3f).toInt64.toUInt64).toInt64)) X46 hx (hb hby d10_32) rfl rfl ?_
  refine Rt.l2i (pc' := 34) (r := (((q2.toUInt64 >>> ((24 : Int32) &&& 0x3f).toInt64.toUInt64).toInt64).toInt32)) X46 hx (hb hby d10_33) rfl rfl ?_
  refine Rt.i2b (pc' := 35) (r := ((((q2.toUInt64 >>> ((24 : Int32) &&& 0x3f).toInt64.toUInt64).toInt64).toInt32).toInt8.toInt32)) X46 hx (hb hby d10_34) rfl rfl ?_
  refine Rt.bastoreL (pc' := 36) X46 hx hZ F49 (i := 8) (by decide) (by decide) (by decide) g_bf (hb hby d10_35) rfl ?_
  intro T52 h52 X52 v52 W52 F52
  have F53 : Exa Z h52 a1 nm1 := F47.wr W52
  have F54 : Fld Z h52 a1 nm1 "buffer" "[B" (.ref bf) := F48.other W52 (Or.inl ne_1)
  have F55 : Fld Z h52 a1 nm1 "size" "I" (.int (9 : Int32)) := F46.other W52 (Or.inl ne_1)
  have K56 : Keep h0 h52 [a1, bf] := K50.wr W52 (Or.inl (List.mem_of_getElem? (i := 1) rfl))
  have Z57 : n0 ≤ h52.size := Nat.le_trans Z51 (Keep.of_wr W52).1
  refine Rt.iinc (pc' := 39) (r := (4 : Int32)) (l' := #[.val (.ref a1), .val (.long q2), .second, .val (.int (4 : Int32))]) X52 hx (hb hby d10_36) rfl (by decide) rfl rfl ?_
  refine Rt.goto (pc' := 7) X52 hx (hb hby d10_39) (by decide) (by decide) ?_
  refine Rt.iloadN (pc' := 8) X52 hx (hb hby d10_7) rfl rfl ?_
  refine Rt.iconst (pc' := 9) (v := (4 : Int32)) X52 hx (hb hby d10_8) rfl rfl ?_
  refine Rt.icmpY (pc' := 42) X52 hx (hb hby d10_9) (flt (by decide : ¬ ((4 : Int32) < (4 : Int32)))).2.1 (by decide) (by decide) ?_
  exact Rt.retV X52 hx hlk hret (hb hby d10_42) (by decide) (by decide) (fun L N => ⟨rfl, N, K56, F53, F54, F55, F52⟩)
theorem d9_0 : decode prog_114_method_9_code 0 = .ok (.aload_n 0, 1) := by decide +kernel
theorem d9_1 : decode prog_114_method_9_code 1 = .ok (.lload_n 1, 1) := by decide +kernel
theorem pd_1 : parseMethodDescriptor "(J)V" = some ⟨[.long], none⟩ := by decide +kernel
theorem d9_2 : decode prog_114_method_9_code 2 = .ok (.invokevirtual 35, 3) := by decide +kernel
theorem d9_5 : decode prog_114_method_9_code 5 = .ok (.aload_n 0, 1) := by decide +kernel
theorem d9_6 : decode prog_114_method_9_code 6 = .ok (.lload_n 1, 1) := by decide +kernel
theorem d9_7 : decode prog_114_method_9_code 7 = .ok (.bipush 32, 2) := by decide +kernel
theorem d9_9 : decode prog_114_method_9_code 9 = .ok (.lushr, 1) := by decide +kernel
theorem d9_10 : decode prog_114_method_9_code 10 = .ok (.invokevirtual 35, 3) := by decide +kernel
theorem d9_13 : decode prog_114_method_9_code 13 = .ok (.return_, 1) := by decide +kernel
def f9_a10_0 (q2 : Int64) : Int64 := ((q2.toUInt64 >>> ((32 : Int32) &&& 0x3f).toInt64.toUInt64).toInt64)
def Q9 (Z : State) (a1 : Addr) (q2 : Int64) (bf : Addr) (h0 : Heap) (n0 : Nat) (v : Option Value) (h : Heap) (L : List Loc) : Prop := v = none ∧ Fr n0 L ∧ Keep h0 h [a1, bf] ∧ Exa Z h a1 nm1 ∧ IL Z h bf .byte 16 ∧ Fld Z h a1 nm1 "buffer" "[B" (.ref bf) ∧ Fld Z h a1 nm1 "size" "I" (.int (9 : Int32))
def rmR9 : Room := { frames := 2, cells := 0, slots := 0, locals := 30 }
theorem ef_9 (m : MethodId) (a1 : Addr) (q2 : Int64) : entryFrame m #[(.ref a1), (.long q2)] 3 = mkF m 0 #[.val (.ref a1), .val (.long q2), .second] [] := by first | (simp [entryFrame, mkF, argsToLocals, Value.category]; done) | rfl
set_option maxRecDepth 65536 in
set_option maxHeartbeats 40000000 in
theorem rm9 (l : Launch) (Z : State) (a0 : Array Value) (hw : ∀ d ∈ tables_1, d.before a0 Z = true) (ws : List Jvm.Cond) (a1 : Addr) (q2 : Int64) (bf : Addr) (h0 : Heap) (n0 : Nat) (Z0 : n0 ≤ h0.size) (F_E_a1 : Exa Z h0 a1 nm1) (F_F_a1_buffer : Fld Z h0 a1 nm1 "buffer" "[B" (.ref bf)) (F_F_a1_size : Fld Z h0 a1 nm1 "size" "I" (.int (1 : Int32))) (F_N_bf : IL Z h0 bf .byte 16) (g_a1 : n0 ≤ a1) (g_bf : n0 ≤ bf) (ne_1 : a1 ≠ bf) :
    Mt l Z mt8 (Jvm.Cond.code mt8 prog_114_method_9_code 3 none :: ws) rmR9 #[(.ref a1), (.long q2)] h0 (Q9 Z a1 q2 bf h0 n0) := by
  refine Mt.of n0 (plainFor_of_name pn_com_example_cogwire_cogwire_wire_ByteSink) ?_
  intro p e s m below meth c T0 X0 hx hZ hby hml hown hret hlk hnm hs0
  have hown : s.vm.findClass "com/example/cogwire/cogwire/wire/ByteSink" = some m.cls := hown
  rw [ef_9]
  show Rt p e below s rmR9.cells rmR9.slots (Q9 Z a1 q2 bf h0 n0) (T0.setTop (mkF m 0 #[.val (.ref a1), .val (.long q2), .second] []))
  refine Rt.aloadN (pc' := 1) X0 hx (hb hby d9_0) rfl rfl rfl ?_
  refine Rt.lloadN (pc' := 2) X0 hx (hb hby d9_1) rfl rfl ?_
  refine Rt.callV (pc' := 5) X0 hx hZ (y := mt7) (yz := mt7) hown (hw _ (List.mem_of_getElem? (i := 54) rfl)) (hw _ (List.mem_of_getElem? (i := 55) rfl)) (notFace_of_selects (args := #[]) (mvT hZ (hw _ (List.mem_of_getElem? (i := 57) rfl)))) (hw _ (List.mem_of_getElem? (i := 57) rfl)) (hw _ (List.mem_of_getElem? (i := 56) rfl)) (hw _ (List.mem_of_getElem? (i := 14) rfl)) (hw _ (List.mem_of_getElem? (i := 58) rfl)) (by decide) F_E_a1 (rm10_1 l Z a0 hw [] a1 q2 bf h0 n0 Z0 F_E_a1 F_F_a1_buffer F_F_a1_size F_N_bf g_a1 g_bf ne_1) (fun _ _ _ q => q.2.1) (W := 0) (by decide) (by decide) (by decide) (by decide) (argsL := [(.long q2)]) (rest := []) (by rw [hml]; rfl) (lenOf pd_1 rfl) rfl rfl (Nat.le_of_eq rfl) (hb hby d9_2) rfl ?_
  rintro _ T1 h1 L1 X1 ⟨rfl, N1, K1, F2, F3, F4, F5⟩
  have F6 : Exa Z h1 a1 nm1 := F_E_a1.keep K1
  have F7 : IL Z h1 bf .byte 16 := F_N_bf.keep K1
  have K8 : Keep h0 h1 [a1, bf] := (Keep.refl h0 [a1, bf]).trans K1 (allS (Or.inl (List.mem_of_getElem? (i := 0) rfl)) (allS (Or.inl (List.mem_of_getElem? (i := 1) rfl)) all0))
  have Z9 : n0 ≤ h1.size := Nat.le_trans Z0 K1.1
  show Rt _ _ _ _ _ _ _ (T1.setTop (mkF m 5 #[.val (.ref a1), .val (.long q2), .second] []))
  refine Rt.aloadN (pc' := 6) X1 hx (hb hby d9_5) rfl rfl rfl ?_
  refine Rt.lloadN (pc' := 7) X1 hx (hb hby d9_6) rfl rfl ?_
  refine Rt.bipush (pc' := 9) (v := (32 : Int32)) X1 hx (hb hby d9_7) rfl rfl ?_
  refine Rt.lushr (pc' := 10) (r := ((q2.toUInt64 >>> ((32 : Int32) &&& 0x3f).toInt64.toUInt64).toInt64)) X1 hx (hb hby d9_9) rfl rfl ?_
  refine Rt.callV (pc' := 13) X1 hx hZ (y := mt7) (yz := mt7) hown (hw _ (List.mem_of_getElem? (i := 54) rfl)) (hw _ (List.mem_of_getElem? (i := 55) rfl)) (notFace_of_selects (args := #[]) (mvT hZ (hw _ (List.mem_of_getElem? (i := 57) rfl)))) (hw _ (List.mem_of_getElem? (i := 57) rfl)) (hw _ (List.mem_of_getElem? (i := 56) rfl)) (hw _ (List.mem_of_getElem? (i := 14) rfl)) (hw _ (List.mem_of_getElem? (i := 58) rfl)) (by decide) F2 (rm10_5 l Z a0 hw [] a1 (f9_a10_0 q2) bf h1 n0 Z9 F2 F3 F4 F5 g_a1 g_bf ne_1) (fun _ _ _ q => q.2.1) (W := 0) (by decide) (by decide) (by decide) (by decide) (argsL := [(.long (f9_a10_0 q2))]) (rest := []) (by rw [hml]; rfl) (lenOf pd_1 rfl) rfl rfl (Nat.le_of_eq rfl) (hb hby d9_10) rfl ?_
  rintro _ T10 h10 L10 X10 ⟨rfl, N10, K10, F11, F12, F13, F14⟩
  have F15 : Exa Z h10 a1 nm1 := F2.keep K10
  have F16 : IL Z h10 bf .byte 16 := F5.keep K10
  have K17 : Keep h0 h10 [a1, bf] := K8.trans K10 (allS (Or.inl (List.mem_of_getElem? (i := 0) rfl)) (allS (Or.inl (List.mem_of_getElem? (i := 1) rfl)) all0))
  have Z18 : n0 ≤ h10.size := Nat.le_trans Z9 K10.1
  show Rt _ _ _ _ _ _ _ (T10.setTop (mkF m 13 #[.val (.ref a1), .val (.long q2), .second] []))
  exact Rt.retV X10 hx hlk hret (hb hby d9_13) (by decide) (by decide) (fun L N => ⟨rfl, N, K17, F11, F14, F12, F13⟩)
theorem d5_0 : decode prog_114_method_10_code 0 = .ok (.lload_n 1, 1) := by decide +kernel
theorem d5_1 : decode prog_114_method_10_code 1 = .ok (.lconst 0, 1) := by decide +kernel
theorem d5_2 : decode prog_114_method_10_code 2 = .ok (.lcmp, 1) := by decide +kernel
theorem d5_3 : decode prog_114_method_10_code 3 = .ok (.ifCond .lt 20, 3) := by decide +kernel
theorem d5_23 : decode prog_114_method_10_code 23 = .ok (.lload_n 1, 1) := by decide +kernel
theorem d5_24 : decode prog_114_method_10_code 24 = .ok (.lconst 0, 1) := by decide +kernel
theorem d5_25 : decode prog_114_method_10_code 25 = .ok (.lcmp, 1) := by decide +kernel
theorem d5_26 : decode prog_114_method_10_code 26 = .ok (.ifCond .lt 27, 3) := by decide +kernel
theorem d5_53 : decode prog_114_method_10_code 53 = .ok (.lload_n 1, 1) := by decide +kernel
theorem d5_54 : decode prog_114_method_10_code 54 = .ok (.lconst 0, 1) := by decide +kernel
theorem d5_55 : decode prog_114_method_10_code 55 = .ok (.lcmp, 1) := by decide +kernel
theorem d5_56 : decode prog_114_method_10_code 56 = .ok (.ifCond .lt 26, 3) := by decide +kernel
theorem d5_82 : decode prog_114_method_10_code 82 = .ok (.aload_n 0, 1) := by decide +kernel
theorem d5_83 : decode prog_114_method_10_code 83 = .ok (.sipush 255, 3) := by decide +kernel
theorem d5_86 : decode prog_114_method_10_code 86 = .ok (.invokevirtual 41, 3) := by decide +kernel
theorem d5_89 : decode prog_114_method_10_code 89 = .ok (.aload_n 0, 1) := by decide +kernel
theorem d5_90 : decode prog_114_method_10_code 90 = .ok (.lload_n 1, 1) := by decide +kernel
theorem d5_91 : decode prog_114_method_10_code 91 = .ok (.invokevirtual 53, 3) := by decide +kernel
theorem d5_94 : decode prog_114_method_10_code 94 = .ok (.return_, 1) := by decide +kernel
theorem d5_59 : decode prog_114_method_10_code 59 = .ok (.lload_n 1, 1) := by decide +kernel
theorem d5_60 : decode prog_114_method_10_code 60 = .ok (.ldc2_w 51, 3) := by decide +kernel
theorem d5_63 : decode prog_114_method_10_code 63 = .ok (.lcmp, 1) := by decide +kernel
theorem d5_64 : decode prog_114_method_10_code 64 = .ok (.ifCond .gt 18, 3) := by decide +kernel
theorem d5_67 : decode prog_114_method_10_code 67 = .ok (.aload_n 0, 1) := by decide +kernel
theorem d5_68 : decode prog_114_method_10_code 68 = .ok (.sipush 254, 3) := by decide +kernel
theorem d5_71 : decode prog_114_method_10_code 71 = .ok (.invokevirtual 41, 3) := by decide +kernel
theorem d5_74 : decode prog_114_method_10_code 74 = .ok (.aload_n 0, 1) := by decide +kernel
theorem d5_75 : decode prog_114_method_10_code 75 = .ok (.lload_n 1, 1) := by decide +kernel
theorem d5_76 : decode prog_114_method_10_code 76 = .ok (.invokevirtual 35, 3) := by decide +kernel
theorem d5_79 : decode prog_114_method_10_code 79 = .ok (.goto 15, 3) := by decide +kernel
theorem d5_29 : decode prog_114_method_10_code 29 = .ok (.lload_n 1, 1) := by decide +kernel
theorem d5_30 : decode prog_114_method_10_code 30 = .ok (.ldc2_w 44, 3) := by decide +kernel
theorem d5_33 : decode prog_114_method_10_code 33 = .ok (.lcmp, 1) := by decide +kernel
theorem d5_34 : decode prog_114_method_10_code 34 = .ok (.ifCond .gt 19, 3) := by decide +kernel
theorem d5_37 : decode prog_114_method_10_code 37 = .ok (.aload_n 0, 1) := by decide +kernel
theorem d5_38 : decode prog_114_method_10_code 38 = .ok (.sipush 253, 3) := by decide +kernel
theorem d5_41 : decode prog_114_method_10_code 41 = .ok (.invokevirtual 41, 3) := by decide +kernel
theorem d5_44 : decode prog_114_method_10_code 44 = .ok (.aload_n 0, 1) := by decide +kernel
theorem d5_45 : decode prog_114_method_10_code 45 = .ok (.lload_n 1, 1) := by decide +kernel
theorem d5_46 : decode prog_114_method_10_code 46 = .ok (.l2i, 1) := by decide +kernel
theorem d5_47 : decode prog_114_method_10_code 47 = .ok (.invokevirtual 46, 3) := by decide +kernel
theorem d5_50 : decode prog_114_method_10_code 50 = .ok (.goto 44, 3) := by decide +kernel
theorem d5_6 : decode prog_114_method_10_code 6 = .ok (.lload_n 1, 1) := by decide +kernel
theorem d5_7 : decode prog_114_method_10_code 7 = .ok (.ldc2_w 39, 3) := by decide +kernel
theorem d5_10 : decode prog_114_method_10_code 10 = .ok (.lcmp, 1) := by decide +kernel
theorem d5_11 : decode prog_114_method_10_code 11 = .ok (.ifCond .gt 12, 3) := by decide +kernel
theorem d5_14 : decode prog_114_method_10_code 14 = .ok (.aload_n 0, 1) := by decide +kernel
theorem d5_15 : decode prog_114_method_10_code 15 = .ok (.lload_n 1, 1) := by decide +kernel
theorem d5_16 : decode prog_114_method_10_code 16 = .ok (.l2i, 1) := by decide +kernel
theorem d5_17 : decode prog_114_method_10_code 17 = .ok (.invokevirtual 41, 3) := by decide +kernel
theorem d5_20 : decode prog_114_method_10_code 20 = .ok (.goto 74, 3) := by decide +kernel
def f5_o_F_a1_size_0 (q2 : Int64) : Int32 := (if q2 < (0 : Int64) then (if q2 < (0 : Int64) then (if q2 < (0 : Int64) then (9 : Int32) else (if (4294967295 : Int64) < q2 then (9 : Int32) else (5 : Int32))) else (if (65535 : Int64) < q2 then (if q2 < (0 : Int64) then (9 : Int32) else (if (4294967295 : Int64) < q2 then (9 : Int32) else (5 : Int32))) else (3 : Int32))) else (if (252 : Int64) < q2 then (if q2 < (0 : Int64) then (if q2 < (0 : Int64) then (9 : Int32) else (if (4294967295 : Int64) < q2 then (9 : Int32) else (5 : Int32))) else (if (65535 : Int64) < q2 then (if q2 < (0 : Int64) then (9 : Int32) else (if (4294967295 : Int64) < q2 then (9 : Int32) else (5 : Int32))) else (3 : Int32))) else (1 : Int32)))
def Q5 (Z : State) (a1 : Addr) (q2 : Int64) (bf : Addr) (h0 : Heap) (n0 : Nat) (v : Option Value) (h : Heap) (L : List Loc) : Prop := v = none ∧ Fr n0 L ∧ Keep h0 h [a1, bf] ∧ Exa Z h a1 nm1 ∧ IL Z h bf .byte 16 ∧ Fld Z h a1 nm1 "buffer" "[B" (.ref bf) ∧ Fld Z h a1 nm1 "size" "I" (.int (f5_o_F_a1_size_0 q2))
def rmR5 : Room := { frames := 3, cells := 0, slots := 0, locals := 44 }
theorem ef_5 (m : MethodId) (a1 : Addr) (q2 : Int64) : entryFrame m #[(.ref a1), (.long q2)] 3 = mkF m 0 #[.val (.ref a1), .val (.long q2), .second] [] := by first | (simp [entryFrame, mkF, argsToLocals, Value.category]; done) | rfl
set_option maxRecDepth 65536 in
set_option maxHeartbeats 40000000 in
theorem rm5 (l : Launch) (Z : State) (a0 : Array Value) (hw : ∀ d ∈ tables_1, d.before a0 Z = true) (ws : List Jvm.Cond) (a1 : Addr) (q2 : Int64) (bf : Addr) (h0 : Heap) (n0 : Nat) (Z0 : n0 ≤ h0.size) (F_E_a1 : Exa Z h0 a1 nm1) (F_F_a1_buffer : Fld Z h0 a1 nm1 "buffer" "[B" (.ref bf)) (F_F_a1_size : Fld Z h0 a1 nm1 "size" "I" (.int (0 : Int32))) (F_N_bf : IL Z h0 bf .byte 16) (g_a1 : n0 ≤ a1) (g_bf : n0 ≤ bf) (ne_1 : a1 ≠ bf) :
    Mt l Z mt9 (Jvm.Cond.code mt9 prog_114_method_10_code 3 none :: ws) rmR5 #[(.ref a1), (.long q2)] h0 (Q5 Z a1 q2 bf h0 n0) := by
  refine Mt.of n0 (plainFor_of_name pn_com_example_cogwire_cogwire_wire_ByteSink) ?_
  intro p e s m below meth c T0 X0 hx hZ hby hml hown hret hlk hnm hs0
  have hown : s.vm.findClass "com/example/cogwire/cogwire/wire/ByteSink" = some m.cls := hown
  rw [ef_5]
  show Rt p e below s rmR5.cells rmR5.slots (Q5 Z a1 q2 bf h0 n0) (T0.setTop (mkF m 0 #[.val (.ref a1), .val (.long q2), .second] []))
  refine Rt.lloadN (pc' := 1) X0 hx (hb hby d5_0) rfl rfl ?_
  refine Rt.lconst (pc' := 2) (v := (0 : Int64)) X0 hx (hb hby d5_1) rfl rfl ?_
  refine Rt.lcmp (pc' := 3) X0 hx (hb hby d5_2) rfl ?_
  by_cases hc3_1 : q2 < (0 : Int64)
  · refine Rt.ifY (pc' := 23) X0 hx (hb hby d5_3) (ltl hc3_1).1 (by decide) (by decide) ?_
    refine Rt.lloadN (pc' := 24) X0 hx (hb hby d5_23) rfl rfl ?_
    refine Rt.lconst (pc' := 25) (v := (0 : Int64)) X0 hx (hb hby d5_24) rfl rfl ?_
    refine Rt.lcmp (pc' := 26) X0 hx (hb hby d5_25) rfl ?_
    by_cases hc26_2 : q2 < (0 : Int64)
    · refine Rt.ifY (pc' := 53) X0 hx (hb hby d5_26) (ltl hc26_2).1 (by decide) (by decide) ?_
      refine Rt.lloadN (pc' := 54) X0 hx (hb hby d5_53) rfl rfl ?_
      refine Rt.lconst (pc' := 55) (v := (0 : Int64)) X0 hx (hb hby d5_54) rfl rfl ?_
      refine Rt.lcmp (pc' := 56) X0 hx (hb hby d5_55) rfl ?_
      by_cases hc56_3 : q2 < (0 : Int64)
      · refine Rt.ifY (pc' := 82) X0 hx (hb hby d5_56) (ltl hc56_3).1 (by decide) (by decide) ?_
        refine Rt.aloadN (pc' := 83) X0 hx (hb hby d5_82) rfl rfl rfl ?_
        refine Rt.sipush (pc' := 86) (v := (255 : Int32)) X0 hx (hb hby d5_83) rfl rfl ?_
        refine Rt.callV (pc' := 89) X0 hx hZ (y := mt5) (yz := mt5) hown (hw _ (List.mem_of_getElem? (i := 33) rfl)) (hw _ (List.mem_of_getElem? (i := 34) rfl)) (notFace_of_selects (args := #[]) (mvT hZ (hw _ (List.mem_of_getElem? (i := 36) rfl)))) (hw _ (List.mem_of_getElem? (i := 36) rfl)) (hw _ (List.mem_of_getElem? (i := 35) rfl)) (hw _ (List.mem_of_getElem? (i := 14) rfl)) (hw _ (List.mem_of_getElem? (i := 37) rfl)) (by decide) F_E_a1 (rm6 l Z a0 hw [] a1 (255 : Int32) bf h0 n0 Z0 F_E_a1 F_F_a1_buffer F_F_a1_size F_N_bf g_a1 g_bf ne_1) (fun _ _ _ q => q.2.1) (W := 0) (by decide) (by decide) (by decide) (by decide) (argsL := [(.int (255 : Int32))]) (rest := []) (by rw [hml]; rfl) (lenOf pd_0 rfl) rfl rfl (Nat.le_of_eq rfl) (hb hby d5_86) rfl ?_
        rintro _ T4 h4 L4 X4 ⟨rfl, N4, K4, F5, F6, F7, F8⟩
        have F9 : Exa Z h4 a1 nm1 := F_E_a1.keep K4
        have F10 : IL Z h4 bf .byte 16 := F_N_bf.keep K4
        have K11 : Keep h0 h4 [a1, bf] := (Keep.refl h0 [a1, bf]).trans K4 (allS (Or.inl (List.mem_of_getElem? (i := 0) rfl)) (allS (Or.inl (List.mem_of_getElem? (i := 1) rfl)) all0))
        have Z12 : n0 ≤ h4.size := Nat.le_trans Z0 K4.1
        show Rt _ _ _ _ _ _ _ (T4.setTop (mkF m 89 #[.val (.ref a1), .val (.long q2), .second] []))
        refine Rt.aloadN (pc' := 90) X4 hx (hb hby d5_89) rfl rfl rfl ?_
        refine Rt.lloadN (pc' := 91) X4 hx (hb hby d5_90) rfl rfl ?_
        refine Rt.callV (pc' := 94) X4 hx hZ (y := mt8) (yz := mt8) hown (hw _ (List.mem_of_getElem? (i := 49) rfl)) (hw _ (List.mem_of_getElem? (i := 50) rfl)) (notFace_of_selects (args := #[]) (mvT hZ (hw _ (List.mem_of_getElem? (i := 52) rfl)))) (hw _ (List.mem_of_getElem? (i := 52) rfl)) (hw _ (List.mem_of_getElem? (i := 51) rfl)) (hw _ (List.mem_of_getElem? (i := 14) rfl)) (hw _ (List.mem_of_getElem? (i := 53) rfl)) (by decide) F5 (rm9 l Z a0 hw [] a1 q2 bf h4 n0 Z12 F5 F6 F7 F8 g_a1 g_bf ne_1) (fun _ _ _ q => q.2.1) (W := 0) (by decide) (by decide) (by decide) (by decide) (argsL := [(.long q2)]) (rest := []) (by rw [hml]; rfl) (lenOf pd_1 rfl) rfl rfl (Nat.le_of_eq rfl) (hb hby d5_91) rfl ?_
        rintro _ T13 h13 L13 X13 ⟨rfl, N13, K13, F14, F15, F16, F17⟩
        have F18 : Exa Z h13 a1 nm1 := F5.keep K13
        have F19 : IL Z h13 bf .byte 16 := F8.keep K13
        have K20 : Keep h0 h13 [a1, bf] := K11.trans K13 (allS (Or.inl (List.mem_of_getElem? (i := 0) rfl)) (allS (Or.inl (List.mem_of_getElem? (i := 1) rfl)) all0))
        have Z21 : n0 ≤ h13.size := Nat.le_trans Z12 K13.1
        show Rt _ _ _ _ _ _ _ (T13.setTop (mkF m 94 #[.val (.ref a1), .val (.long q2), .second] []))
        have F22 : Fld Z h13 a1 nm1 "size" "I" (.int (f5_o_F_a1_size_0 q2)) := by rw [show (f5_o_F_a1_size_0 q2) = (9 : Int32) from by rw [f5_o_F_a1_size_0, if_pos hc3_1, if_pos hc26_2, if_pos hc56_3]]; exact F17
        exact Rt.retV X13 hx hlk hret (hb hby d5_94) (by decide) (by decide) (fun L N => ⟨rfl, N, K20, F14, F15, F16, F22⟩)
      · refine Rt.ifN (pc' := 59) X0 hx (hb hby d5_56) (lfl hc56_3).1 rfl ?_
        refine Rt.lloadN (pc' := 60) X0 hx (hb hby d5_59) rfl rfl ?_
        refine Rt.ldc2Long (pc' := 63) X0 hx hZ hown (hw _ (List.mem_of_getElem? (i := 61) rfl)) (hb hby d5_60) rfl ?_
        refine Rt.lcmp (pc' := 64) X0 hx (hb hby d5_63) rfl ?_
        by_cases hc64_23 : (4294967295 : Int64) < q2
        · refine Rt.ifY (pc' := 82) X0 hx (hb hby d5_64) (gtl hc64_23).1 (by decide) (by decide) ?_
          refine Rt.aloadN (pc' := 83) X0 hx (hb hby d5_82) rfl rfl rfl ?_
          refine Rt.sipush (pc' := 86) (v := (255 : Int32)) X0 hx (hb hby d5_83) rfl rfl ?_
          refine Rt.callV (pc' := 89) X0 hx hZ (y := mt5) (yz := mt5) hown (hw _ (List.mem_of_getElem? (i := 33) rfl)) (hw _ (List.mem_of_getElem? (i := 34) rfl)) (notFace_of_selects (args := #[]) (mvT hZ (hw _ (List.mem_of_getElem? (i := 36) rfl)))) (hw _ (List.mem_of_getElem? (i := 36) rfl)) (hw _ (List.mem_of_getElem? (i := 35) rfl)) (hw _ (List.mem_of_getElem? (i := 14) rfl)) (hw _ (List.mem_of_getElem? (i := 37) rfl)) (by decide) F_E_a1 (rm6 l Z a0 hw [] a1 (255 : Int32) bf h0 n0 Z0 F_E_a1 F_F_a1_buffer F_F_a1_size F_N_bf g_a1 g_bf ne_1) (fun _ _ _ q => q.2.1) (W := 0) (by decide) (by decide) (by decide) (by decide) (argsL := [(.int (255 : Int32))]) (rest := []) (by rw [hml]; rfl) (lenOf pd_0 rfl) rfl rfl (Nat.le_of_eq rfl) (hb hby d5_86) rfl ?_
          rintro _ T24 h24 L24 X24 ⟨rfl, N24, K24, F25, F26, F27, F28⟩
          have F29 : Exa Z h24 a1 nm1 := F_E_a1.keep K24
          have F30 : IL Z h24 bf .byte 16 := F_N_bf.keep K24
          have K31 : Keep h0 h24 [a1, bf] := (Keep.refl h0 [a1, bf]).trans K24 (allS (Or.inl (List.mem_of_getElem? (i := 0) rfl)) (allS (Or.inl (List.mem_of_getElem? (i := 1) rfl)) all0))
          have Z32 : n0 ≤ h24.size := Nat.le_trans Z0 K24.1
          show Rt _ _ _ _ _ _ _ (T24.setTop (mkF m 89 #[.val (.ref a1), .val (.long q2), .second] []))
          refine Rt.aloadN (pc' := 90) X24 hx (hb hby d5_89) rfl rfl rfl ?_
          refine Rt.lloadN (pc' := 91) X24 hx (hb hby d5_90) rfl rfl ?_
          refine Rt.callV (pc' := 94) X24 hx hZ (y := mt8) (yz := mt8) hown (hw _ (List.mem_of_getElem? (i := 49) rfl)) (hw _ (List.mem_of_getElem? (i := 50) rfl)) (notFace_of_selects (args := #[]) (mvT hZ (hw _ (List.mem_of_getElem? (i := 52) rfl)))) (hw _ (List.mem_of_getElem? (i := 52) rfl)) (hw _ (List.mem_of_getElem? (i := 51) rfl)) (hw _ (List.mem_of_getElem? (i := 14) rfl)) (hw _ (List.mem_of_getElem? (i := 53) rfl)) (by decide) F25 (rm9 l Z a0 hw [] a1 q2 bf h24 n0 Z32 F25 F26 F27 F28 g_a1 g_bf ne_1) (fun _ _ _ q => q.2.1) (W := 0) (by decide) (by decide) (by decide) (by decide) (argsL := [(.long q2)]) (rest := []) (by rw [hml]; rfl) (lenOf pd_1 rfl) rfl rfl (Nat.le_of_eq rfl) (hb hby d5_91) rfl ?_
          rintro _ T33 h33 L33 X33 ⟨rfl, N33, K33, F34, F35, F36, F37⟩
          have F38 : Exa Z h33 a1 nm1 := F25.keep K33
          have F39 : IL Z h33 bf .byte 16 := F28.keep K33
          have K40 : Keep h0 h33 [a1, bf] := K31.trans K33 (allS (Or.inl (List.mem_of_getElem? (i := 0) rfl)) (allS (Or.inl (List.mem_of_getElem? (i := 1) rfl)) all0))
          have Z41 : n0 ≤ h33.size := Nat.le_trans Z32 K33.1
          show Rt _ _ _ _ _ _ _ (T33.setTop (mkF m 94 #[.val (.ref a1), .val (.long q2), .second] []))
          have F42 : Fld Z h33 a1 nm1 "size" "I" (.int (f5_o_F_a1_size_0 q2)) := by rw [show (f5_o_F_a1_size_0 q2) = (9 : Int32) from by rw [f5_o_F_a1_size_0, if_pos hc3_1, if_pos hc26_2, if_neg hc56_3, if_pos hc64_23]]; exact F37
          exact Rt.retV X33 hx hlk hret (hb hby d5_94) (by decide) (by decide) (fun L N => ⟨rfl, N, K40, F34, F35, F36, F42⟩)
        · refine Rt.ifN (pc' := 67) X0 hx (hb hby d5_64) (gfl hc64_23).1 rfl ?_
          refine Rt.aloadN (pc' := 68) X0 hx (hb hby d5_67) rfl rfl rfl ?_
          refine Rt.sipush (pc' := 71) (v := (254 : Int32)) X0 hx (hb hby d5_68) rfl rfl ?_
          refine Rt.callV (pc' := 74) X0 hx hZ (y := mt5) (yz := mt5) hown (hw _ (List.mem_of_getElem? (i := 33) rfl)) (hw _ (List.mem_of_getElem? (i := 34) rfl)) (notFace_of_selects (args := #[]) (mvT hZ (hw _ (List.mem_of_getElem? (i := 36) rfl)))) (hw _ (List.mem_of_getElem? (i := 36) rfl)) (hw _ (List.mem_of_getElem? (i := 35) rfl)) (hw _ (List.mem_of_getElem? (i := 14) rfl)) (hw _ (List.mem_of_getElem? (i := 37) rfl)) (by decide) F_E_a1 (rm6 l Z a0 hw [] a1 (254 : Int32) bf h0 n0 Z0 F_E_a1 F_F_a1_buffer F_F_a1_size F_N_bf g_a1 g_bf ne_1) (fun _ _ _ q => q.2.1) (W := 0) (by decide) (by decide) (by decide) (by decide) (argsL := [(.int (254 : Int32))]) (rest := []) (by rw [hml]; rfl) (lenOf pd_0 rfl) rfl rfl (Nat.le_of_eq rfl) (hb hby d5_71) rfl ?_
          rintro _ T43 h43 L43 X43 ⟨rfl, N43, K43, F44, F45, F46, F47⟩
          have F48 : Exa Z h43 a1 nm1 := F_E_a1.keep K43
          have F49 : IL Z h43 bf .byte 16 := F_N_bf.keep K43
          have K50 : Keep h0 h43 [a1, bf] := (Keep.refl h0 [a1, bf]).trans K43 (allS (Or.inl (List.mem_of_getElem? (i := 0) rfl)) (allS (Or.inl (List.mem_of_getElem? (i := 1) rfl)) all0))
          have Z51 : n0 ≤ h43.size := Nat.le_trans Z0 K43.1
          show Rt _ _ _ _ _ _ _ (T43.setTop (mkF m 74 #[.val (.ref a1), .val (.long q2), .second] []))
          refine Rt.aloadN (pc' := 75) X43 hx (hb hby d5_74) rfl rfl rfl ?_
          refine Rt.lloadN (pc' := 76) X43 hx (hb hby d5_75) rfl rfl ?_
          refine Rt.callV (pc' := 79) X43 hx hZ (y := mt7) (yz := mt7) hown (hw _ (List.mem_of_getElem? (i := 54) rfl)) (hw _ (List.mem_of_getElem? (i := 55) rfl)) (notFace_of_selects (args := #[]) (mvT hZ (hw _ (List.mem_of_getElem? (i := 57) rfl)))) (hw _ (List.mem_of_getElem? (i := 57) rfl)) (hw _ (List.mem_of_getElem? (i := 56) rfl)) (hw _ (List.mem_of_getElem? (i := 14) rfl)) (hw _ (List.mem_of_getElem? (i := 58) rfl)) (by decide) F44 (rm10_1 l Z a0 hw [] a1 q2 bf h43 n0 Z51 F44 F45 F46 F47 g_a1 g_bf ne_1) (fun _ _ _ q => q.2.1) (W := 0) (by decide) (by decide) (by decide) (by decide) (argsL := [(.long q2)]) (rest := []) (by rw [hml]; rfl) (lenOf pd_1 rfl) rfl rfl (Nat.le_of_eq rfl) (hb hby d5_76) rfl ?_
          rintro _ T52 h52 L52 X52 ⟨rfl, N52, K52, F53, F54, F55, F56⟩
          have F57 : Exa Z h52 a1 nm1 := F44.keep K52
          have F58 : IL Z h52 bf .byte 16 := F47.keep K52
          have K59 : Keep h0 h52 [a1, bf] := K50.trans K52 (allS (Or.inl (List.mem_of_getElem? (i := 0) rfl)) (allS (Or.inl (List.mem_of_getElem? (i := 1) rfl)) all0))
          have Z60 : n0 ≤ h52.size := Nat.le_trans Z51 K52.1
          show Rt _ _ _ _ _ _ _ (T52.setTop (mkF m 79 #[.val (.ref a1), .val (.long q2), .second] []))
          refine Rt.goto (pc' := 94) X52 hx (hb hby d5_79) (by decide) (by decide) ?_
          have F61 : Fld Z h52 a1 nm1 "size" "I" (.int (f5_o_F_a1_size_0 q2)) := by rw [show (f5_o_F_a1_size_0 q2) = (5 : Int32) from by rw [f5_o_F_a1_size_0, if_pos hc3_1, if_pos hc26_2, if_neg hc56_3, if_neg hc64_23]]; exact F55
          exact Rt.retV X52 hx hlk hret (hb hby d5_94) (by decide) (by decide) (fun L N => ⟨rfl, N, K59, F53, F56, F54, F61⟩)
    · refine Rt.ifN (pc' := 29) X0 hx (hb hby d5_26) (lfl hc26_2).1 rfl ?_
      refine Rt.lloadN (pc' := 30) X0 hx (hb hby d5_29) rfl rfl ?_
      refine Rt.ldc2Long (pc' := 33) X0 hx hZ hown (hw _ (List.mem_of_getElem? (i := 60) rfl)) (hb hby d5_30) rfl ?_
      refine Rt.lcmp (pc' := 34) X0 hx (hb hby d5_33) rfl ?_
      by_cases hc34_62 : (65535 : Int64) < q2
      · refine Rt.ifY (pc' := 53) X0 hx (hb hby d5_34) (gtl hc34_62).1 (by decide) (by decide) ?_
        refine Rt.lloadN (pc' := 54) X0 hx (hb hby d5_53) rfl rfl ?_
        refine Rt.lconst (pc' := 55) (v := (0 : Int64)) X0 hx (hb hby d5_54) rfl rfl ?_
        refine Rt.lcmp (pc' := 56) X0 hx (hb hby d5_55) rfl ?_
        by_cases hc56_63 : q2 < (0 : Int64)
        · refine Rt.ifY (pc' := 82) X0 hx (hb hby d5_56) (ltl hc56_63).1 (by decide) (by decide) ?_
          refine Rt.aloadN (pc' := 83) X0 hx (hb hby d5_82) rfl rfl rfl ?_
          refine Rt.sipush (pc' := 86) (v := (255 : Int32)) X0 hx (hb hby d5_83) rfl rfl ?_
          refine Rt.callV (pc' := 89) X0 hx hZ (y := mt5) (yz := mt5) hown (hw _ (List.mem_of_getElem? (i := 33) rfl)) (hw _ (List.mem_of_getElem? (i := 34) rfl)) (notFace_of_selects (args := #[]) (mvT hZ (hw _ (List.mem_of_getElem? (i := 36) rfl)))) (hw _ (List.mem_of_getElem? (i := 36) rfl)) (hw _ (List.mem_of_getElem? (i := 35) rfl)) (hw _ (List.mem_of_getElem? (i := 14) rfl)) (hw _ (List.mem_of_getElem? (i := 37) rfl)) (by decide) F_E_a1 (rm6 l Z a0 hw [] a1 (255 : Int32) bf h0 n0 Z0 F_E_a1 F_F_a1_buffer F_F_a1_size F_N_bf g_a1 g_bf ne_1) (fun _ _ _ q => q.2.1) (W := 0) (by decide) (by decide) (by decide) (by decide) (argsL := [(.int (255 : Int32))]) (rest := []) (by rw [hml]; rfl) (lenOf pd_0 rfl) rfl rfl (Nat.le_of_eq rfl) (hb hby d5_86) rfl ?_
          rintro _ T64 h64 L64 X64 ⟨rfl, N64, K64, F65, F66, F67, F68⟩
          have F69 : Exa Z h64 a1 nm1 := F_E_a1.keep K64
          have F70 : IL Z h64 bf .byte 16 := F_N_bf.keep K64
          have K71 : Keep h0 h64 [a1, bf] := (Keep.refl h0 [a1, bf]).trans K64 (allS (Or.inl (List.mem_of_getElem? (i := 0) rfl)) (allS (Or.inl (List.mem_of_getElem? (i := 1) rfl)) all0))
          have Z72 : n0 ≤ h64.size := Nat.le_trans Z0 K64.1
          show Rt _ _ _ _ _ _ _ (T64.setTop (mkF m 89 #[.val (.ref a1), .val (.long q2), .second] []))
          refine Rt.aloadN (pc' := 90) X64 hx (hb hby d5_89) rfl rfl rfl ?_
          refine Rt.lloadN (pc' := 91) X64 hx (hb hby d5_90) rfl rfl ?_
          refine Rt.callV (pc' := 94) X64 hx hZ (y := mt8) (yz := mt8) hown (hw _ (List.mem_of_getElem? (i := 49) rfl)) (hw _ (List.mem_of_getElem? (i := 50) rfl)) (notFace_of_selects (args := #[]) (mvT hZ (hw _ (List.mem_of_getElem? (i := 52) rfl)))) (hw _ (List.mem_of_getElem? (i := 52) rfl)) (hw _ (List.mem_of_getElem? (i := 51) rfl)) (hw _ (List.mem_of_getElem? (i := 14) rfl)) (hw _ (List.mem_of_getElem? (i := 53) rfl)) (by decide) F65 (rm9 l Z a0 hw [] a1 q2 bf h64 n0 Z72 F65 F66 F67 F68 g_a1 g_bf ne_1) (fun _ _ _ q => q.2.1) (W := 0) (by decide) (by decide) (by decide) (by decide) (argsL := [(.long q2)]) (rest := []) (by rw [hml]; rfl) (lenOf pd_1 rfl) rfl rfl (Nat.le_of_eq rfl) (hb hby d5_91) rfl ?_
          rintro _ T73 h73 L73 X73 ⟨rfl, N73, K73, F74, F75, F76, F77⟩
          have F78 : Exa Z h73 a1 nm1 := F65.keep K73
          have F79 : IL Z h73 bf .byte 16 := F68.keep K73
          have K80 : Keep h0 h73 [a1, bf] := K71.trans K73 (allS (Or.inl (List.mem_of_getElem? (i := 0) rfl)) (allS (Or.inl (List.mem_of_getElem? (i := 1) rfl)) all0))
          have Z81 : n0 ≤ h73.size := Nat.le_trans Z72 K73.1
          show Rt _ _ _ _ _ _ _ (T73.setTop (mkF m 94 #[.val (.ref a1), .val (.long q2), .second] []))
          have F82 : Fld Z h73 a1 nm1 "size" "I" (.int (f5_o_F_a1_size_0 q2)) := by rw [show (f5_o_F_a1_size_0 q2) = (9 : Int32) from by rw [f5_o_F_a1_size_0, if_pos hc3_1, if_neg hc26_2, if_pos hc34_62, if_pos hc56_63]]; exact F77
          exact Rt.retV X73 hx hlk hret (hb hby d5_94) (by decide) (by decide) (fun L N => ⟨rfl, N, K80, F74, F75, F76, F82⟩)
        · refine Rt.ifN (pc' := 59) X0 hx (hb hby d5_56) (lfl hc56_63).1 rfl ?_
          refine Rt.lloadN (pc' := 60) X0 hx (hb hby d5_59) rfl rfl ?_
          refine Rt.ldc2Long (pc' := 63) X0 hx hZ hown (hw _ (List.mem_of_getElem? (i := 61) rfl)) (hb hby d5_60) rfl ?_
          refine Rt.lcmp (pc' := 64) X0 hx (hb hby d5_63) rfl ?_
          by_cases hc64_83 : (4294967295 : Int64) < q2
          · refine Rt.ifY (pc' := 82) X0 hx (hb hby d5_64) (gtl hc64_83).1 (by decide) (by decide) ?_
            refine Rt.aloadN (pc' := 83) X0 hx (hb hby d5_82) rfl rfl rfl ?_
            refine Rt.sipush (pc' := 86) (v := (255 : Int32)) X0 hx (hb hby d5_83) rfl rfl ?_
            refine Rt.callV (pc' := 89) X0 hx hZ (y := mt5) (yz := mt5) hown (hw _ (List.mem_of_getElem? (i := 33) rfl)) (hw _ (List.mem_of_getElem? (i := 34) rfl)) (notFace_of_selects (args := #[]) (mvT hZ (hw _ (List.mem_of_getElem? (i := 36) rfl)))) (hw _ (List.mem_of_getElem? (i := 36) rfl)) (hw _ (List.mem_of_getElem? (i := 35) rfl)) (hw _ (List.mem_of_getElem? (i := 14) rfl)) (hw _ (List.mem_of_getElem? (i := 37) rfl)) (by decide) F_E_a1 (rm6 l Z a0 hw [] a1 (255 : Int32) bf h0 n0 Z0 F_E_a1 F_F_a1_buffer F_F_a1_size F_N_bf g_a1 g_bf ne_1) (fun _ _ _ q => q.2.1) (W := 0) (by decide) (by decide) (by decide) (by decide) (argsL := [(.int (255 : Int32))]) (rest := []) (by rw [hml]; rfl) (lenOf pd_0 rfl) rfl rfl (Nat.le_of_eq rfl) (hb hby d5_86) rfl ?_
            rintro _ T84 h84 L84 X84 ⟨rfl, N84, K84, F85, F86, F87, F88⟩
            have F89 : Exa Z h84 a1 nm1 := F_E_a1.keep K84
            have F90 : IL Z h84 bf .byte 16 := F_N_bf.keep K84
            have K91 : Keep h0 h84 [a1, bf] := (Keep.refl h0 [a1, bf]).trans K84 (allS (Or.inl (List.mem_of_getElem? (i := 0) rfl)) (allS (Or.inl (List.mem_of_getElem? (i := 1) rfl)) all0))
            have Z92 : n0 ≤ h84.size := Nat.le_trans Z0 K84.1
            show Rt _ _ _ _ _ _ _ (T84.setTop (mkF m 89 #[.val (.ref a1), .val (.long q2), .second] []))
            refine Rt.aloadN (pc' := 90) X84 hx (hb hby d5_89) rfl rfl rfl ?_
            refine Rt.lloadN (pc' := 91) X84 hx (hb hby d5_90) rfl rfl ?_
            refine Rt.callV (pc' := 94) X84 hx hZ (y := mt8) (yz := mt8) hown (hw _ (List.mem_of_getElem? (i := 49) rfl)) (hw _ (List.mem_of_getElem? (i := 50) rfl)) (notFace_of_selects (args := #[]) (mvT hZ (hw _ (List.mem_of_getElem? (i := 52) rfl)))) (hw _ (List.mem_of_getElem? (i := 52) rfl)) (hw _ (List.mem_of_getElem? (i := 51) rfl)) (hw _ (List.mem_of_getElem? (i := 14) rfl)) (hw _ (List.mem_of_getElem? (i := 53) rfl)) (by decide) F85 (rm9 l Z a0 hw [] a1 q2 bf h84 n0 Z92 F85 F86 F87 F88 g_a1 g_bf ne_1) (fun _ _ _ q => q.2.1) (W := 0) (by decide) (by decide) (by decide) (by decide) (argsL := [(.long q2)]) (rest := []) (by rw [hml]; rfl) (lenOf pd_1 rfl) rfl rfl (Nat.le_of_eq rfl) (hb hby d5_91) rfl ?_
            rintro _ T93 h93 L93 X93 ⟨rfl, N93, K93, F94, F95, F96, F97⟩
            have F98 : Exa Z h93 a1 nm1 := F85.keep K93
            have F99 : IL Z h93 bf .byte 16 := F88.keep K93
            have K100 : Keep h0 h93 [a1, bf] := K91.trans K93 (allS (Or.inl (List.mem_of_getElem? (i := 0) rfl)) (allS (Or.inl (List.mem_of_getElem? (i := 1) rfl)) all0))
            have Z101 : n0 ≤ h93.size := Nat.le_trans Z92 K93.1
            show Rt _ _ _ _ _ _ _ (T93.setTop (mkF m 94 #[.val (.ref a1), .val (.long q2), .second] []))
            have F102 : Fld Z h93 a1 nm1 "size" "I" (.int (f5_o_F_a1_size_0 q2)) := by rw [show (f5_o_F_a1_size_0 q2) = (9 : Int32) from by rw [f5_o_F_a1_size_0, if_pos hc3_1, if_neg hc26_2, if_pos hc34_62, if_neg hc56_63, if_pos hc64_83]]; exact F97
            exact Rt.retV X93 hx hlk hret (hb hby d5_94) (by decide) (by decide) (fun L N => ⟨rfl, N, K100, F94, F95, F96, F102⟩)
          · refine Rt.ifN (pc' := 67) X0 hx (hb hby d5_64) (gfl hc64_83).1 rfl ?_
            refine Rt.aloadN (pc' := 68) X0 hx (hb hby d5_67) rfl rfl rfl ?_
            refine Rt.sipush (pc' := 71) (v := (254 : Int32)) X0 hx (hb hby d5_68) rfl rfl ?_
            refine Rt.callV (pc' := 74) X0 hx hZ (y := mt5) (yz := mt5) hown (hw _ (List.mem_of_getElem? (i := 33) rfl)) (hw _ (List.mem_of_getElem? (i := 34) rfl)) (notFace_of_selects (args := #[]) (mvT hZ (hw _ (List.mem_of_getElem? (i := 36) rfl)))) (hw _ (List.mem_of_getElem? (i := 36) rfl)) (hw _ (List.mem_of_getElem? (i := 35) rfl)) (hw _ (List.mem_of_getElem? (i := 14) rfl)) (hw _ (List.mem_of_getElem? (i := 37) rfl)) (by decide) F_E_a1 (rm6 l Z a0 hw [] a1 (254 : Int32) bf h0 n0 Z0 F_E_a1 F_F_a1_buffer F_F_a1_size F_N_bf g_a1 g_bf ne_1) (fun _ _ _ q => q.2.1) (W := 0) (by decide) (by decide) (by decide) (by decide) (argsL := [(.int (254 : Int32))]) (rest := []) (by rw [hml]; rfl) (lenOf pd_0 rfl) rfl rfl (Nat.le_of_eq rfl) (hb hby d5_71) rfl ?_
            rintro _ T103 h103 L103 X103 ⟨rfl, N103, K103, F104, F105, F106, F107⟩
            have F108 : Exa Z h103 a1 nm1 := F_E_a1.keep K103
            have F109 : IL Z h103 bf .byte 16 := F_N_bf.keep K103
            have K110 : Keep h0 h103 [a1, bf] := (Keep.refl h0 [a1, bf]).trans K103 (allS (Or.inl (List.mem_of_getElem? (i := 0) rfl)) (allS (Or.inl (List.mem_of_getElem? (i := 1) rfl)) all0))
            have Z111 : n0 ≤ h103.size := Nat.le_trans Z0 K103.1
            show Rt _ _ _ _ _ _ _ (T103.setTop (mkF m 74 #[.val (.ref a1), .val (.long q2), .second] []))
            refine Rt.aloadN (pc' := 75) X103 hx (hb hby d5_74) rfl rfl rfl ?_
            refine Rt.lloadN (pc' := 76) X103 hx (hb hby d5_75) rfl rfl ?_
            refine Rt.callV (pc' := 79) X103 hx hZ (y := mt7) (yz := mt7) hown (hw _ (List.mem_of_getElem? (i := 54) rfl)) (hw _ (List.mem_of_getElem? (i := 55) rfl)) (notFace_of_selects (args := #[]) (mvT hZ (hw _ (List.mem_of_getElem? (i := 57) rfl)))) (hw _ (List.mem_of_getElem? (i := 57) rfl)) (hw _ (List.mem_of_getElem? (i := 56) rfl)) (hw _ (List.mem_of_getElem? (i := 14) rfl)) (hw _ (List.mem_of_getElem? (i := 58) rfl)) (by decide) F104 (rm10_1 l Z a0 hw [] a1 q2 bf h103 n0 Z111 F104 F105 F106 F107 g_a1 g_bf ne_1) (fun _ _ _ q => q.2.1) (W := 0) (by decide) (by decide) (by decide) (by decide) (argsL := [(.long q2)]) (rest := []) (by rw [hml]; rfl) (lenOf pd_1 rfl) rfl rfl (Nat.le_of_eq rfl) (hb hby d5_76) rfl ?_
            rintro _ T112 h112 L112 X112 ⟨rfl, N112, K112, F113, F114, F115, F116⟩
            have F117 : Exa Z h112 a1 nm1 := F104.keep K112
            have F118 : IL Z h112 bf .byte 16 := F107.keep K112
            have K119 : Keep h0 h112 [a1, bf] := K110.trans K112 (allS (Or.inl (List.mem_of_getElem? (i := 0) rfl)) (allS (Or.inl (List.mem_of_getElem? (i := 1) rfl)) all0))
            have Z120 : n0 ≤ h112.size := Nat.le_trans Z111 K112.1
            show Rt _ _ _ _ _ _ _ (T112.setTop (mkF m 79 #[.val (.ref a1), .val (.long q2), .second] []))
            refine Rt.goto (pc' := 94) X112 hx (hb hby d5_79) (by decide) (by decide) ?_
            have F121 : Fld Z h112 a1 nm1 "size" "I" (.int (f5_o_F_a1_size_0 q2)) := by rw [show (f5_o_F_a1_size_0 q2) = (5 : Int32) from by rw [f5_o_F_a1_size_0, if_pos hc3_1, if_neg hc26_2, if_pos hc34_62, if_neg hc56_63, if_neg hc64_83]]; exact F115
            exact Rt.retV X112 hx hlk hret (hb hby d5_94) (by decide) (by decide) (fun L N => ⟨rfl, N, K119, F113, F116, F114, F121⟩)
      · refine Rt.ifN (pc' := 37) X0 hx (hb hby d5_34) (gfl hc34_62).1 rfl ?_
        refine Rt.aloadN (pc' := 38) X0 hx (hb hby d5_37) rfl rfl rfl ?_
        refine Rt.sipush (pc' := 41) (v := (253 : Int32)) X0 hx (hb hby d5_38) rfl rfl ?_
        refine Rt.callV (pc' := 44) X0 hx hZ (y := mt5) (yz := mt5) hown (hw _ (List.mem_of_getElem? (i := 33) rfl)) (hw _ (List.mem_of_getElem? (i := 34) rfl)) (notFace_of_selects (args := #[]) (mvT hZ (hw _ (List.mem_of_getElem? (i := 36) rfl)))) (hw _ (List.mem_of_getElem? (i := 36) rfl)) (hw _ (List.mem_of_getElem? (i := 35) rfl)) (hw _ (List.mem_of_getElem? (i := 14) rfl)) (hw _ (List.mem_of_getElem? (i := 37) rfl)) (by decide) F_E_a1 (rm6 l Z a0 hw [] a1 (253 : Int32) bf h0 n0 Z0 F_E_a1 F_F_a1_buffer F_F_a1_size F_N_bf g_a1 g_bf ne_1) (fun _ _ _ q => q.2.1) (W := 0) (by decide) (by decide) (by decide) (by decide) (argsL := [(.int (253 : Int32))]) (rest := []) (by rw [hml]; rfl) (lenOf pd_0 rfl) rfl rfl (Nat.le_of_eq rfl) (hb hby d5_41) rfl ?_
        rintro _ T122 h122 L122 X122 ⟨rfl, N122, K122, F123, F124, F125, F126⟩
        have F127 : Exa Z h122 a1 nm1 := F_E_a1.keep K122
        have F128 : IL Z h122 bf .byte 16 := F_N_bf.keep K122
        have K129 : Keep h0 h122 [a1, bf] := (Keep.refl h0 [a1, bf]).trans K122 (allS (Or.inl (List.mem_of_getElem? (i := 0) rfl)) (allS (Or.inl (List.mem_of_getElem? (i := 1) rfl)) all0))
        have Z130 : n0 ≤ h122.size := Nat.le_trans Z0 K122.1
        show Rt _ _ _ _ _ _ _ (T122.setTop (mkF m 44 #[.val (.ref a1), .val (.long q2), .second] []))
        refine Rt.aloadN (pc' := 45) X122 hx (hb hby d5_44) rfl rfl rfl ?_
        refine Rt.lloadN (pc' := 46) X122 hx (hb hby d5_45) rfl rfl ?_
        refine Rt.l2i (pc' := 47) (r := (q2.toInt32)) X122 hx (hb hby d5_46) rfl rfl ?_
        refine Rt.callV (pc' := 50) X122 hx hZ (y := mt6) (yz := mt6) hown (hw _ (List.mem_of_getElem? (i := 62) rfl)) (hw _ (List.mem_of_getElem? (i := 63) rfl)) (notFace_of_selects (args := #[]) (mvT hZ (hw _ (List.mem_of_getElem? (i := 65) rfl)))) (hw _ (List.mem_of_getElem? (i := 65) rfl)) (hw _ (List.mem_of_getElem? (i := 64) rfl)) (hw _ (List.mem_of_getElem? (i := 14) rfl)) (hw _ (List.mem_of_getElem? (i := 66) rfl)) (by decide) F123 (rm11 l Z a0 hw [] a1 (q2.toInt32) bf h122 n0 Z130 F123 F124 F125 F126 g_a1 g_bf ne_1) (fun _ _ _ q => q.2.1) (W := 0) (by decide) (by decide) (by decide) (by decide) (argsL := [(.int (q2.toInt32))]) (rest := []) (by rw [hml]; rfl) (lenOf pd_0 rfl) rfl rfl (Nat.le_of_eq rfl) (hb hby d5_47) rfl ?_
        rintro _ T131 h131 L131 X131 ⟨rfl, N131, K131, F132, F133, F134, F135⟩
        have F136 : Exa Z h131 a1 nm1 := F123.keep K131
        have F137 : IL Z h131 bf .byte 16 := F126.keep K131
        have K138 : Keep h0 h131 [a1, bf] := K129.trans K131 (allS (Or.inl (List.mem_of_getElem? (i := 0) rfl)) (allS (Or.inl (List.mem_of_getElem? (i := 1) rfl)) all0))
        have Z139 : n0 ≤ h131.size := Nat.le_trans Z130 K131.1
        show Rt _ _ _ _ _ _ _ (T131.setTop (mkF m 50 #[.val (.ref a1), .val (.long q2), .second] []))
        refine Rt.goto (pc' := 94) X131 hx (hb hby d5_50) (by decide) (by decide) ?_
        have F140 : Fld Z h131 a1 nm1 "size" "I" (.int (f5_o_F_a1_size_0 q2)) := by rw [show (f5_o_F_a1_size_0 q2) = (3 : Int32) from by rw [f5_o_F_a1_size_0, if_pos hc3_1, if_neg hc26_2, if_neg hc34_62]]; exact F134
        exact Rt.retV X131 hx hlk hret (hb hby d5_94) (by decide) (by decide) (fun L N => ⟨rfl, N, K138, F132, F135, F133, F140⟩)
  · refine Rt.ifN (pc' := 6) X0 hx (hb hby d5_3) (lfl hc3_1).1 rfl ?_
    refine Rt.lloadN (pc' := 7) X0 hx (hb hby d5_6) rfl rfl ?_
    refine Rt.ldc2Long (pc' := 10) X0 hx hZ hown (hw _ (List.mem_of_getElem? (i := 16) rfl)) (hb hby d5_7) rfl ?_
    refine Rt.lcmp (pc' := 11) X0 hx (hb hby d5_10) rfl ?_
    by_cases hc11_141 : (252 : Int64) < q2
    · refine Rt.ifY (pc' := 23) X0 hx (hb hby d5_11) (gtl hc11_141).1 (by decide) (by decide) ?_
      refine Rt.lloadN (pc' := 24) X0 hx (hb hby d5_23) rfl rfl ?_
      refine Rt.lconst (pc' := 25) (v := (0 : Int64)) X0 hx (hb hby d5_24) rfl rfl ?_
      refine Rt.lcmp (pc' := 26) X0 hx (hb hby d5_25) rfl ?_
      by_cases hc26_142 : q2 < (0 : Int64)
      · refine Rt.ifY (pc' := 53) X0 hx (hb hby d5_26) (ltl hc26_142).1 (by decide) (by decide) ?_
        refine Rt.lloadN (pc' := 54) X0 hx (hb hby d5_53) rfl rfl ?_
        refine Rt.lconst (pc' := 55) (v := (0 : Int64)) X0 hx (hb hby d5_54) rfl rfl ?_
        refine Rt.lcmp (pc' := 56) X0 hx (hb hby d5_55) rfl ?_
        by_cases hc56_143 : q2 < (0 : Int64)
        · refine Rt.ifY (pc' := 82) X0 hx (hb hby d5_56) (ltl hc56_143).1 (by decide) (by decide) ?_
          refine Rt.aloadN (pc' := 83) X0 hx (hb hby d5_82) rfl rfl rfl ?_
          refine Rt.sipush (pc' := 86) (v := (255 : Int32)) X0 hx (hb hby d5_83) rfl rfl ?_
          refine Rt.callV (pc' := 89) X0 hx hZ (y := mt5) (yz := mt5) hown (hw _ (List.mem_of_getElem? (i := 33) rfl)) (hw _ (List.mem_of_getElem? (i := 34) rfl)) (notFace_of_selects (args := #[]) (mvT hZ (hw _ (List.mem_of_getElem? (i := 36) rfl)))) (hw _ (List.mem_of_getElem? (i := 36) rfl)) (hw _ (List.mem_of_getElem? (i := 35) rfl)) (hw _ (List.mem_of_getElem? (i := 14) rfl)) (hw _ (List.mem_of_getElem? (i := 37) rfl)) (by decide) F_E_a1 (rm6 l Z a0 hw [] a1 (255 : Int32) bf h0 n0 Z0 F_E_a1 F_F_a1_buffer F_F_a1_size F_N_bf g_a1 g_bf ne_1) (fun _ _ _ q => q.2.1) (W := 0) (by decide) (by decide) (by decide) (by decide) (argsL := [(.int (255 : Int32))]) (rest := []) (by rw [hml]; rfl) (lenOf pd_0 rfl) rfl rfl (Nat.le_of_eq rfl) (hb hby d5_86) rfl ?_
          rintro _ T144 h144 L144 X144 ⟨rfl, N144, K144, F145, F146, F147, F148⟩
          have F149 : Exa Z h144 a1 nm1 := F_E_a1.keep K144
          have F150 : IL Z h144 bf .byte 16 := F_N_bf.keep K144
          have K151 : Keep h0 h144 [a1, bf] := (Keep.refl h0 [a1, bf]).trans K144 (allS (Or.inl (List.mem_of_getElem? (i := 0) rfl)) (allS (Or.inl (List.mem_of_getElem? (i := 1) rfl)) all0))
          have Z152 : n0 ≤ h144.size := Nat.le_trans Z0 K144.1
          show Rt _ _ _ _ _ _ _ (T144.setTop (mkF m 89 #[.val (.ref a1), .val (.long q2), .second] []))
          refine Rt.aloadN (pc' := 90) X144 hx (hb hby d5_89) rfl rfl rfl ?_
          refine Rt.lloadN (pc' := 91) X144 hx (hb hby d5_90) rfl rfl ?_
          refine Rt.callV (pc' := 94) X144 hx hZ (y := mt8) (yz := mt8) hown (hw _ (List.mem_of_getElem? (i := 49) rfl)) (hw _ (List.mem_of_getElem? (i := 50) rfl)) (notFace_of_selects (args := #[]) (mvT hZ (hw _ (List.mem_of_getElem? (i := 52) rfl)))) (hw _ (List.mem_of_getElem? (i := 52) rfl)) (hw _ (List.mem_of_getElem? (i := 51) rfl)) (hw _ (List.mem_of_getElem? (i := 14) rfl)) (hw _ (List.mem_of_getElem? (i := 53) rfl)) (by decide) F145 (rm9 l Z a0 hw [] a1 q2 bf h144 n0 Z152 F145 F146 F147 F148 g_a1 g_bf ne_1) (fun _ _ _ q => q.2.1) (W := 0) (by decide) (by decide) (by decide) (by decide) (argsL := [(.long q2)]) (rest := []) (by rw [hml]; rfl) (lenOf pd_1 rfl) rfl rfl (Nat.le_of_eq rfl) (hb hby d5_91) rfl ?_
          rintro _ T153 h153 L153 X153 ⟨rfl, N153, K153, F154, F155, F156, F157⟩
          have F158 : Exa Z h153 a1 nm1 := F145.keep K153
          have F159 : IL Z h153 bf .byte 16 := F148.keep K153
          have K160 : Keep h0 h153 [a1, bf] := K151.trans K153 (allS (Or.inl (List.mem_of_getElem? (i := 0) rfl)) (allS (Or.inl (List.mem_of_getElem? (i := 1) rfl)) all0))
          have Z161 : n0 ≤ h153.size := Nat.le_trans Z152 K153.1
          show Rt _ _ _ _ _ _ _ (T153.setTop (mkF m 94 #[.val (.ref a1), .val (.long q2), .second] []))
          have F162 : Fld Z h153 a1 nm1 "size" "I" (.int (f5_o_F_a1_size_0 q2)) := by rw [show (f5_o_F_a1_size_0 q2) = (9 : Int32) from by rw [f5_o_F_a1_size_0, if_neg hc3_1, if_pos hc11_141, if_pos hc26_142, if_pos hc56_143]]; exact F157
          exact Rt.retV X153 hx hlk hret (hb hby d5_94) (by decide) (by decide) (fun L N => ⟨rfl, N, K160, F154, F155, F156, F162⟩)
        · refine Rt.ifN (pc' := 59) X0 hx (hb hby d5_56) (lfl hc56_143).1 rfl ?_
          refine Rt.lloadN (pc' := 60) X0 hx (hb hby d5_59) rfl rfl ?_
          refine Rt.ldc2Long (pc' := 63) X0 hx hZ hown (hw _ (List.mem_of_getElem? (i := 61) rfl)) (hb hby d5_60) rfl ?_
          refine Rt.lcmp (pc' := 64) X0 hx (hb hby d5_63) rfl ?_
          by_cases hc64_163 : (4294967295 : Int64) < q2
          · refine Rt.ifY (pc' := 82) X0 hx (hb hby d5_64) (gtl hc64_163).1 (by decide) (by decide) ?_
            refine Rt.aloadN (pc' := 83) X0 hx (hb hby d5_82) rfl rfl rfl ?_
            refine Rt.sipush (pc' := 86) (v := (255 : Int32)) X0 hx (hb hby d5_83) rfl rfl ?_
            refine Rt.callV (pc' := 89) X0 hx hZ (y := mt5) (yz := mt5) hown (hw _ (List.mem_of_getElem? (i := 33) rfl)) (hw _ (List.mem_of_getElem? (i := 34) rfl)) (notFace_of_selects (args := #[]) (mvT hZ (hw _ (List.mem_of_getElem? (i := 36) rfl)))) (hw _ (List.mem_of_getElem? (i := 36) rfl)) (hw _ (List.mem_of_getElem? (i := 35) rfl)) (hw _ (List.mem_of_getElem? (i := 14) rfl)) (hw _ (List.mem_of_getElem? (i := 37) rfl)) (by decide) F_E_a1 (rm6 l Z a0 hw [] a1 (255 : Int32) bf h0 n0 Z0 F_E_a1 F_F_a1_buffer F_F_a1_size F_N_bf g_a1 g_bf ne_1) (fun _ _ _ q => q.2.1) (W := 0) (by decide) (by decide) (by decide) (by decide) (argsL := [(.int (255 : Int32))]) (rest := []) (by rw [hml]; rfl) (lenOf pd_0 rfl) rfl rfl (Nat.le_of_eq rfl) (hb hby d5_86) rfl ?_
            rintro _ T164 h164 L164 X164 ⟨rfl, N164, K164, F165, F166, F167, F168⟩
            have F169 : Exa Z h164 a1 nm1 := F_E_a1.keep K164
            have F170 : IL Z h164 bf .byte 16 := F_N_bf.keep K164
            have K171 : Keep h0 h164 [a1, bf] := (Keep.refl h0 [a1, bf]).trans K164 (allS (Or.inl (List.mem_of_getElem? (i := 0) rfl)) (allS (Or.inl (List.mem_of_getElem? (i := 1) rfl)) all0))
            have Z172 : n0 ≤ h164.size := Nat.le_trans Z0 K164.1
            show Rt _ _ _ _ _ _ _ (T164.setTop (mkF m 89 #[.val (.ref a1), .val (.long q2), .second] []))
            refine Rt.aloadN (pc' := 90) X164 hx (hb hby d5_89) rfl rfl rfl ?_
            refine Rt.lloadN (pc' := 91) X164 hx (hb hby d5_90) rfl rfl ?_
            refine Rt.callV (pc' := 94) X164 hx hZ (y := mt8) (yz := mt8) hown (hw _ (List.mem_of_getElem? (i := 49) rfl)) (hw _ (List.mem_of_getElem? (i := 50) rfl)) (notFace_of_selects (args := #[]) (mvT hZ (hw _ (List.mem_of_getElem? (i := 52) rfl)))) (hw _ (List.mem_of_getElem? (i := 52) rfl)) (hw _ (List.mem_of_getElem? (i := 51) rfl)) (hw _ (List.mem_of_getElem? (i := 14) rfl)) (hw _ (List.mem_of_getElem? (i := 53) rfl)) (by decide) F165 (rm9 l Z a0 hw [] a1 q2 bf h164 n0 Z172 F165 F166 F167 F168 g_a1 g_bf ne_1) (fun _ _ _ q => q.2.1) (W := 0) (by decide) (by decide) (by decide) (by decide) (argsL := [(.long q2)]) (rest := []) (by rw [hml]; rfl) (lenOf pd_1 rfl) rfl rfl (Nat.le_of_eq rfl) (hb hby d5_91) rfl ?_
            rintro _ T173 h173 L173 X173 ⟨rfl, N173, K173, F174, F175, F176, F177⟩
            have F178 : Exa Z h173 a1 nm1 := F165.keep K173
            have F179 : IL Z h173 bf .byte 16 := F168.keep K173
            have K180 : Keep h0 h173 [a1, bf] := K171.trans K173 (allS (Or.inl (List.mem_of_getElem? (i := 0) rfl)) (allS (Or.inl (List.mem_of_getElem? (i := 1) rfl)) all0))
            have Z181 : n0 ≤ h173.size := Nat.le_trans Z172 K173.1
            show Rt _ _ _ _ _ _ _ (T173.setTop (mkF m 94 #[.val (.ref a1), .val (.long q2), .second] []))
            have F182 : Fld Z h173 a1 nm1 "size" "I" (.int (f5_o_F_a1_size_0 q2)) := by rw [show (f5_o_F_a1_size_0 q2) = (9 : Int32) from by rw [f5_o_F_a1_size_0, if_neg hc3_1, if_pos hc11_141, if_pos hc26_142, if_neg hc56_143, if_pos hc64_163]]; exact F177
            exact Rt.retV X173 hx hlk hret (hb hby d5_94) (by decide) (by decide) (fun L N => ⟨rfl, N, K180, F174, F175, F176, F182⟩)
          · refine Rt.ifN (pc' := 67) X0 hx (hb hby d5_64) (gfl hc64_163).1 rfl ?_
            refine Rt.aloadN (pc' := 68) X0 hx (hb hby d5_67) rfl rfl rfl ?_
            refine Rt.sipush (pc' := 71) (v := (254 : Int32)) X0 hx (hb hby d5_68) rfl rfl ?_
            refine Rt.callV (pc' := 74) X0 hx hZ (y := mt5) (yz := mt5) hown (hw _ (List.mem_of_getElem? (i := 33) rfl)) (hw _ (List.mem_of_getElem? (i := 34) rfl)) (notFace_of_selects (args := #[]) (mvT hZ (hw _ (List.mem_of_getElem? (i := 36) rfl)))) (hw _ (List.mem_of_getElem? (i := 36) rfl)) (hw _ (List.mem_of_getElem? (i := 35) rfl)) (hw _ (List.mem_of_getElem? (i := 14) rfl)) (hw _ (List.mem_of_getElem? (i := 37) rfl)) (by decide) F_E_a1 (rm6 l Z a0 hw [] a1 (254 : Int32) bf h0 n0 Z0 F_E_a1 F_F_a1_buffer F_F_a1_size F_N_bf g_a1 g_bf ne_1) (fun _ _ _ q => q.2.1) (W := 0) (by decide) (by decide) (by decide) (by decide) (argsL := [(.int (254 : Int32))]) (rest := []) (by rw [hml]; rfl) (lenOf pd_0 rfl) rfl rfl (Nat.le_of_eq rfl) (hb hby d5_71) rfl ?_
            rintro _ T183 h183 L183 X183 ⟨rfl, N183, K183, F184, F185, F186, F187⟩
            have F188 : Exa Z h183 a1 nm1 := F_E_a1.keep K183
            have F189 : IL Z h183 bf .byte 16 := F_N_bf.keep K183
            have K190 : Keep h0 h183 [a1, bf] := (Keep.refl h0 [a1, bf]).trans K183 (allS (Or.inl (List.mem_of_getElem? (i := 0) rfl)) (allS (Or.inl (List.mem_of_getElem? (i := 1) rfl)) all0))
            have Z191 : n0 ≤ h183.size := Nat.le_trans Z0 K183.1
            show Rt _ _ _ _ _ _ _ (T183.setTop (mkF m 74 #[.val (.ref a1), .val (.long q2), .second] []))
            refine Rt.aloadN (pc' := 75) X183 hx (hb hby d5_74) rfl rfl rfl ?_
            refine Rt.lloadN (pc' := 76) X183 hx (hb hby d5_75) rfl rfl ?_
            refine Rt.callV (pc' := 79) X183 hx hZ (y := mt7) (yz := mt7) hown (hw _ (List.mem_of_getElem? (i := 54) rfl)) (hw _ (List.mem_of_getElem? (i := 55) rfl)) (notFace_of_selects (args := #[]) (mvT hZ (hw _ (List.mem_of_getElem? (i := 57) rfl)))) (hw _ (List.mem_of_getElem? (i := 57) rfl)) (hw _ (List.mem_of_getElem? (i := 56) rfl)) (hw _ (List.mem_of_getElem? (i := 14) rfl)) (hw _ (List.mem_of_getElem? (i := 58) rfl)) (by decide) F184 (rm10_1 l Z a0 hw [] a1 q2 bf h183 n0 Z191 F184 F185 F186 F187 g_a1 g_bf ne_1) (fun _ _ _ q => q.2.1) (W := 0) (by decide) (by decide) (by decide) (by decide) (argsL := [(.long q2)]) (rest := []) (by rw [hml]; rfl) (lenOf pd_1 rfl) rfl rfl (Nat.le_of_eq rfl) (hb hby d5_76) rfl ?_
            rintro _ T192 h192 L192 X192 ⟨rfl, N192, K192, F193, F194, F195, F196⟩
            have F197 : Exa Z h192 a1 nm1 := F184.keep K192
            have F198 : IL Z h192 bf .byte 16 := F187.keep K192
            have K199 : Keep h0 h192 [a1, bf] := K190.trans K192 (allS (Or.inl (List.mem_of_getElem? (i := 0) rfl)) (allS (Or.inl (List.mem_of_getElem? (i := 1) rfl)) all0))
            have Z200 : n0 ≤ h192.size := Nat.le_trans Z191 K192.1
            show Rt _ _ _ _ _ _ _ (T192.setTop (mkF m 79 #[.val (.ref a1), .val (.long q2), .second] []))
            refine Rt.goto (pc' := 94) X192 hx (hb hby d5_79) (by decide) (by decide) ?_
            have F201 : Fld Z h192 a1 nm1 "size" "I" (.int (f5_o_F_a1_size_0 q2)) := by rw [show (f5_o_F_a1_size_0 q2) = (5 : Int32) from by rw [f5_o_F_a1_size_0, if_neg hc3_1, if_pos hc11_141, if_pos hc26_142, if_neg hc56_143, if_neg hc64_163]]; exact F195
            exact Rt.retV X192 hx hlk hret (hb hby d5_94) (by decide) (by decide) (fun L N => ⟨rfl, N, K199, F193, F196, F194, F201⟩)
      · refine Rt.ifN (pc' := 29) X0 hx (hb hby d5_26) (lfl hc26_142).1 rfl ?_
        refine Rt.lloadN (pc' := 30) X0 hx (hb hby d5_29) rfl rfl ?_
        refine Rt.ldc2Long (pc' := 33) X0 hx hZ hown (hw _ (List.mem_of_getElem? (i := 60) rfl)) (hb hby d5_30) rfl ?_
        refine Rt.lcmp (pc' := 34) X0 hx (hb hby d5_33) rfl ?_
        by_cases hc34_202 : (65535 : Int64) < q2
        · refine Rt.ifY (pc' := 53) X0 hx (hb hby d5_34) (gtl hc34_202).1 (by decide) (by decide) ?_
          refine Rt.lloadN (pc' := 54) X0 hx (hb hby d5_53) rfl rfl ?_
          refine Rt.lconst (pc' := 55) (v := (0 : Int64)) X0 hx (hb hby d5_54) rfl rfl ?_
          refine Rt.lcmp (pc' := 56) X0 hx (hb hby d5_55) rfl ?_
          by_cases hc56_203 : q2 < (0 : Int64)
          · refine Rt.ifY (pc' := 82) X0 hx (hb hby d5_56) (ltl hc56_203).1 (by decide) (by decide) ?_
            refine Rt.aloadN (pc' := 83) X0 hx (hb hby d5_82) rfl rfl rfl ?_
            refine Rt.sipush (pc' := 86) (v := (255 : Int32)) X0 hx (hb hby d5_83) rfl rfl ?_
            refine Rt.callV (pc' := 89) X0 hx hZ (y := mt5) (yz := mt5) hown (hw _ (List.mem_of_getElem? (i := 33) rfl)) (hw _ (List.mem_of_getElem? (i := 34) rfl)) (notFace_of_selects (args := #[]) (mvT hZ (hw _ (List.mem_of_getElem? (i := 36) rfl)))) (hw _ (List.mem_of_getElem? (i := 36) rfl)) (hw _ (List.mem_of_getElem? (i := 35) rfl)) (hw _ (List.mem_of_getElem? (i := 14) rfl)) (hw _ (List.mem_of_getElem? (i := 37) rfl)) (by decide) F_E_a1 (rm6 l Z a0 hw [] a1 (255 : Int32) bf h0 n0 Z0 F_E_a1 F_F_a1_buffer F_F_a1_size F_N_bf g_a1 g_bf ne_1) (fun _ _ _ q => q.2.1) (W := 0) (by decide) (by decide) (by decide) (by decide) (argsL := [(.int (255 : Int32))]) (rest := []) (by rw [hml]; rfl) (lenOf pd_0 rfl) rfl rfl (Nat.le_of_eq rfl) (hb hby d5_86) rfl ?_
            rintro _ T204 h204 L204 X204 ⟨rfl, N204, K204, F205, F206, F207, F208⟩
            have F209 : Exa Z h204 a1 nm1 := F_E_a1.keep K204
            have F210 : IL Z h204 bf .byte 16 := F_N_bf.keep K204
            have K211 : Keep h0 h204 [a1, bf] := (Keep.refl h0 [a1, bf]).trans K204 (allS (Or.inl (List.mem_of_getElem? (i := 0) rfl)) (allS (Or.inl (List.mem_of_getElem? (i := 1) rfl)) all0))
            have Z212 : n0 ≤ h204.size := Nat.le_trans Z0 K204.1
            show Rt _ _ _ _ _ _ _ (T204.setTop (mkF m 89 #[.val (.ref a1), .val (.long q2), .second] []))
            refine Rt.aloadN (pc' := 90) X204 hx (hb hby d5_89) rfl rfl rfl ?_
            refine Rt.lloadN (pc' := 91) X204 hx (hb hby d5_90) rfl rfl ?_
            refine Rt.callV (pc' := 94) X204 hx hZ (y := mt8) (yz := mt8) hown (hw _ (List.mem_of_getElem? (i := 49) rfl)) (hw _ (List.mem_of_getElem? (i := 50) rfl)) (notFace_of_selects (args := #[]) (mvT hZ (hw _ (List.mem_of_getElem? (i := 52) rfl)))) (hw _ (List.mem_of_getElem? (i := 52) rfl)) (hw _ (List.mem_of_getElem? (i := 51) rfl)) (hw _ (List.mem_of_getElem? (i := 14) rfl)) (hw _ (List.mem_of_getElem? (i := 53) rfl)) (by decide) F205 (rm9 l Z a0 hw [] a1 q2 bf h204 n0 Z212 F205 F206 F207 F208 g_a1 g_bf ne_1) (fun _ _ _ q => q.2.1) (W := 0) (by decide) (by decide) (by decide) (by decide) (argsL := [(.long q2)]) (rest := []) (by rw [hml]; rfl) (lenOf pd_1 rfl) rfl rfl (Nat.le_of_eq rfl) (hb hby d5_91) rfl ?_
            rintro _ T213 h213 L213 X213 ⟨rfl, N213, K213, F214, F215, F216, F217⟩
            have F218 : Exa Z h213 a1 nm1 := F205.keep K213
            have F219 : IL Z h213 bf .byte 16 := F208.keep K213
            have K220 : Keep h0 h213 [a1, bf] := K211.trans K213 (allS (Or.inl (List.mem_of_getElem? (i := 0) rfl)) (allS (Or.inl (List.mem_of_getElem? (i := 1) rfl)) all0))
            have Z221 : n0 ≤ h213.size := Nat.le_trans Z212 K213.1
            show Rt _ _ _ _ _ _ _ (T213.setTop (mkF m 94 #[.val (.ref a1), .val (.long q2), .second] []))
            have F222 : Fld Z h213 a1 nm1 "size" "I" (.int (f5_o_F_a1_size_0 q2)) := by rw [show (f5_o_F_a1_size_0 q2) = (9 : Int32) from by rw [f5_o_F_a1_size_0, if_neg hc3_1, if_pos hc11_141, if_neg hc26_142, if_pos hc34_202, if_pos hc56_203]]; exact F217
            exact Rt.retV X213 hx hlk hret (hb hby d5_94) (by decide) (by decide) (fun L N => ⟨rfl, N, K220, F214, F215, F216, F222⟩)
          · refine Rt.ifN (pc' := 59) X0 hx (hb hby d5_56) (lfl hc56_203).1 rfl ?_
            refine Rt.lloadN (pc' := 60) X0 hx (hb hby d5_59) rfl rfl ?_
            refine Rt.ldc2Long (pc' := 63) X0 hx hZ hown (hw _ (List.mem_of_getElem? (i := 61) rfl)) (hb hby d5_60) rfl ?_
            refine Rt.lcmp (pc' := 64) X0 hx (hb hby d5_63) rfl ?_
            by_cases hc64_223 : (4294967295 : Int64) < q2
            · refine Rt.ifY (pc' := 82) X0 hx (hb hby d5_64) (gtl hc64_223).1 (by decide) (by decide) ?_
              refine Rt.aloadN (pc' := 83) X0 hx (hb hby d5_82) rfl rfl rfl ?_
              refine Rt.sipush (pc' := 86) (v := (255 : Int32)) X0 hx (hb hby d5_83) rfl rfl ?_
              refine Rt.callV (pc' := 89) X0 hx hZ (y := mt5) (yz := mt5) hown (hw _ (List.mem_of_getElem? (i := 33) rfl)) (hw _ (List.mem_of_getElem? (i := 34) rfl)) (notFace_of_selects (args := #[]) (mvT hZ (hw _ (List.mem_of_getElem? (i := 36) rfl)))) (hw _ (List.mem_of_getElem? (i := 36) rfl)) (hw _ (List.mem_of_getElem? (i := 35) rfl)) (hw _ (List.mem_of_getElem? (i := 14) rfl)) (hw _ (List.mem_of_getElem? (i := 37) rfl)) (by decide) F_E_a1 (rm6 l Z a0 hw [] a1 (255 : Int32) bf h0 n0 Z0 F_E_a1 F_F_a1_buffer F_F_a1_size F_N_bf g_a1 g_bf ne_1) (fun _ _ _ q => q.2.1) (W := 0) (by decide) (by decide) (by decide) (by decide) (argsL := [(.int (255 : Int32))]) (rest := []) (by rw [hml]; rfl) (lenOf pd_0 rfl) rfl rfl (Nat.le_of_eq rfl) (hb hby d5_86) rfl ?_
              rintro _ T224 h224 L224 X224 ⟨rfl, N224, K224, F225, F226, F227, F228⟩
              have F229 : Exa Z h224 a1 nm1 := F_E_a1.keep K224
              have F230 : IL Z h224 bf .byte 16 := F_N_bf.keep K224
              have K231 : Keep h0 h224 [a1, bf] := (Keep.refl h0 [a1, bf]).trans K224 (allS (Or.inl (List.mem_of_getElem? (i := 0) rfl)) (allS (Or.inl (List.mem_of_getElem? (i := 1) rfl)) all0))
              have Z232 : n0 ≤ h224.size := Nat.le_trans Z0 K224.1
              show Rt _ _ _ _ _ _ _ (T224.setTop (mkF m 89 #[.val (.ref a1), .val (.long q2), .second] []))
              refine Rt.aloadN (pc' := 90) X224 hx (hb hby d5_89) rfl rfl rfl ?_
              refine Rt.lloadN (pc' := 91) X224 hx (hb hby d5_90) rfl rfl ?_
              refine Rt.callV (pc' := 94) X224 hx hZ (y := mt8) (yz := mt8) hown (hw _ (List.mem_of_getElem? (i := 49) rfl)) (hw _ (List.mem_of_getElem? (i := 50) rfl)) (notFace_of_selects (args := #[]) (mvT hZ (hw _ (List.mem_of_getElem? (i := 52) rfl)))) (hw _ (List.mem_of_getElem? (i := 52) rfl)) (hw _ (List.mem_of_getElem? (i := 51) rfl)) (hw _ (List.mem_of_getElem? (i := 14) rfl)) (hw _ (List.mem_of_getElem? (i := 53) rfl)) (by decide) F225 (rm9 l Z a0 hw [] a1 q2 bf h224 n0 Z232 F225 F226 F227 F228 g_a1 g_bf ne_1) (fun _ _ _ q => q.2.1) (W := 0) (by decide) (by decide) (by decide) (by decide) (argsL := [(.long q2)]) (rest := []) (by rw [hml]; rfl) (lenOf pd_1 rfl) rfl rfl (Nat.le_of_eq rfl) (hb hby d5_91) rfl ?_
              rintro _ T233 h233 L233 X233 ⟨rfl, N233, K233, F234, F235, F236, F237⟩
              have F238 : Exa Z h233 a1 nm1 := F225.keep K233
              have F239 : IL Z h233 bf .byte 16 := F228.keep K233
              have K240 : Keep h0 h233 [a1, bf] := K231.trans K233 (allS (Or.inl (List.mem_of_getElem? (i := 0) rfl)) (allS (Or.inl (List.mem_of_getElem? (i := 1) rfl)) all0))
              have Z241 : n0 ≤ h233.size := Nat.le_trans Z232 K233.1
              show Rt _ _ _ _ _ _ _ (T233.setTop (mkF m 94 #[.val (.ref a1), .val (.long q2), .second] []))
              have F242 : Fld Z h233 a1 nm1 "size" "I" (.int (f5_o_F_a1_size_0 q2)) := by rw [show (f5_o_F_a1_size_0 q2) = (9 : Int32) from by rw [f5_o_F_a1_size_0, if_neg hc3_1, if_pos hc11_141, if_neg hc26_142, if_pos hc34_202, if_neg hc56_203, if_pos hc64_223]]; exact F237
              exact Rt.retV X233 hx hlk hret (hb hby d5_94) (by decide) (by decide) (fun L N => ⟨rfl, N, K240, F234, F235, F236, F242⟩)
            · refine Rt.ifN (pc' := 67) X0 hx (hb hby d5_64) (gfl hc64_223).1 rfl ?_
              refine Rt.aloadN (pc' := 68) X0 hx (hb hby d5_67) rfl rfl rfl ?_
              refine Rt.sipush (pc' := 71) (v := (254 : Int32)) X0 hx (hb hby d5_68) rfl rfl ?_
              refine Rt.callV (pc' := 74) X0 hx hZ (y := mt5) (yz := mt5) hown (hw _ (List.mem_of_getElem? (i := 33) rfl)) (hw _ (List.mem_of_getElem? (i := 34) rfl)) (notFace_of_selects (args := #[]) (mvT hZ (hw _ (List.mem_of_getElem? (i := 36) rfl)))) (hw _ (List.mem_of_getElem? (i := 36) rfl)) (hw _ (List.mem_of_getElem? (i := 35) rfl)) (hw _ (List.mem_of_getElem? (i := 14) rfl)) (hw _ (List.mem_of_getElem? (i := 37) rfl)) (by decide) F_E_a1 (rm6 l Z a0 hw [] a1 (254 : Int32) bf h0 n0 Z0 F_E_a1 F_F_a1_buffer F_F_a1_size F_N_bf g_a1 g_bf ne_1) (fun _ _ _ q => q.2.1) (W := 0) (by decide) (by decide) (by decide) (by decide) (argsL := [(.int (254 : Int32))]) (rest := []) (by rw [hml]; rfl) (lenOf pd_0 rfl) rfl rfl (Nat.le_of_eq rfl) (hb hby d5_71) rfl ?_
              rintro _ T243 h243 L243 X243 ⟨rfl, N243, K243, F244, F245, F246, F247⟩
              have F248 : Exa Z h243 a1 nm1 := F_E_a1.keep K243
              have F249 : IL Z h243 bf .byte 16 := F_N_bf.keep K243
              have K250 : Keep h0 h243 [a1, bf] := (Keep.refl h0 [a1, bf]).trans K243 (allS (Or.inl (List.mem_of_getElem? (i := 0) rfl)) (allS (Or.inl (List.mem_of_getElem? (i := 1) rfl)) all0))
              have Z251 : n0 ≤ h243.size := Nat.le_trans Z0 K243.1
              show Rt _ _ _ _ _ _ _ (T243.setTop (mkF m 74 #[.val (.ref a1), .val (.long q2), .second] []))
              refine Rt.aloadN (pc' := 75) X243 hx (hb hby d5_74) rfl rfl rfl ?_
              refine Rt.lloadN (pc' := 76) X243 hx (hb hby d5_75) rfl rfl ?_
              refine Rt.callV (pc' := 79) X243 hx hZ (y := mt7) (yz := mt7) hown (hw _ (List.mem_of_getElem? (i := 54) rfl)) (hw _ (List.mem_of_getElem? (i := 55) rfl)) (notFace_of_selects (args := #[]) (mvT hZ (hw _ (List.mem_of_getElem? (i := 57) rfl)))) (hw _ (List.mem_of_getElem? (i := 57) rfl)) (hw _ (List.mem_of_getElem? (i := 56) rfl)) (hw _ (List.mem_of_getElem? (i := 14) rfl)) (hw _ (List.mem_of_getElem? (i := 58) rfl)) (by decide) F244 (rm10_1 l Z a0 hw [] a1 q2 bf h243 n0 Z251 F244 F245 F246 F247 g_a1 g_bf ne_1) (fun _ _ _ q => q.2.1) (W := 0) (by decide) (by decide) (by decide) (by decide) (argsL := [(.long q2)]) (rest := []) (by rw [hml]; rfl) (lenOf pd_1 rfl) rfl rfl (Nat.le_of_eq rfl) (hb hby d5_76) rfl ?_
              rintro _ T252 h252 L252 X252 ⟨rfl, N252, K252, F253, F254, F255, F256⟩
              have F257 : Exa Z h252 a1 nm1 := F244.keep K252
              have F258 : IL Z h252 bf .byte 16 := F247.keep K252
              have K259 : Keep h0 h252 [a1, bf] := K250.trans K252 (allS (Or.inl (List.mem_of_getElem? (i := 0) rfl)) (allS (Or.inl (List.mem_of_getElem? (i := 1) rfl)) all0))
              have Z260 : n0 ≤ h252.size := Nat.le_trans Z251 K252.1
              show Rt _ _ _ _ _ _ _ (T252.setTop (mkF m 79 #[.val (.ref a1), .val (.long q2), .second] []))
              refine Rt.goto (pc' := 94) X252 hx (hb hby d5_79) (by decide) (by decide) ?_
              have F261 : Fld Z h252 a1 nm1 "size" "I" (.int (f5_o_F_a1_size_0 q2)) := by rw [show (f5_o_F_a1_size_0 q2) = (5 : Int32) from by rw [f5_o_F_a1_size_0, if_neg hc3_1, if_pos hc11_141, if_neg hc26_142, if_pos hc34_202, if_neg hc56_203, if_neg hc64_223]]; exact F255
              exact Rt.retV X252 hx hlk hret (hb hby d5_94) (by decide) (by decide) (fun L N => ⟨rfl, N, K259, F253, F256, F254, F261⟩)
        · refine Rt.ifN (pc' := 37) X0 hx (hb hby d5_34) (gfl hc34_202).1 rfl ?_
          refine Rt.aloadN (pc' := 38) X0 hx (hb hby d5_37) rfl rfl rfl ?_
          refine Rt.sipush (pc' := 41) (v := (253 : Int32)) X0 hx (hb hby d5_38) rfl rfl ?_
          refine Rt.callV (pc' := 44) X0 hx hZ (y := mt5) (yz := mt5) hown (hw _ (List.mem_of_getElem? (i := 33) rfl)) (hw _ (List.mem_of_getElem? (i := 34) rfl)) (notFace_of_selects (args := #[]) (mvT hZ (hw _ (List.mem_of_getElem? (i := 36) rfl)))) (hw _ (List.mem_of_getElem? (i := 36) rfl)) (hw _ (List.mem_of_getElem? (i := 35) rfl)) (hw _ (List.mem_of_getElem? (i := 14) rfl)) (hw _ (List.mem_of_getElem? (i := 37) rfl)) (by decide) F_E_a1 (rm6 l Z a0 hw [] a1 (253 : Int32) bf h0 n0 Z0 F_E_a1 F_F_a1_buffer F_F_a1_size F_N_bf g_a1 g_bf ne_1) (fun _ _ _ q => q.2.1) (W := 0) (by decide) (by decide) (by decide) (by decide) (argsL := [(.int (253 : Int32))]) (rest := []) (by rw [hml]; rfl) (lenOf pd_0 rfl) rfl rfl (Nat.le_of_eq rfl) (hb hby d5_41) rfl ?_
          rintro _ T262 h262 L262 X262 ⟨rfl, N262, K262, F263, F264, F265, F266⟩
          have F267 : Exa Z h262 a1 nm1 := F_E_a1.keep K262
          have F268 : IL Z h262 bf .byte 16 := F_N_bf.keep K262
          have K269 : Keep h0 h262 [a1, bf] := (Keep.refl h0 [a1, bf]).trans K262 (allS (Or.inl (List.mem_of_getElem? (i := 0) rfl)) (allS (Or.inl (List.mem_of_getElem? (i := 1) rfl)) all0))
          have Z270 : n0 ≤ h262.size := Nat.le_trans Z0 K262.1
          show Rt _ _ _ _ _ _ _ (T262.setTop (mkF m 44 #[.val (.ref a1), .val (.long q2), .second] []))
          refine Rt.aloadN (pc' := 45) X262 hx (hb hby d5_44) rfl rfl rfl ?_
          refine Rt.lloadN (pc' := 46) X262 hx (hb hby d5_45) rfl rfl ?_
          refine Rt.l2i (pc' := 47) (r := (q2.toInt32)) X262 hx (hb hby d5_46) rfl rfl ?_
          refine Rt.callV (pc' := 50) X262 hx hZ (y := mt6) (yz := mt6) hown (hw _ (List.mem_of_getElem? (i := 62) rfl)) (hw _ (List.mem_of_getElem? (i := 63) rfl)) (notFace_of_selects (args := #[]) (mvT hZ (hw _ (List.mem_of_getElem? (i := 65) rfl)))) (hw _ (List.mem_of_getElem? (i := 65) rfl)) (hw _ (List.mem_of_getElem? (i := 64) rfl)) (hw _ (List.mem_of_getElem? (i := 14) rfl)) (hw _ (List.mem_of_getElem? (i := 66) rfl)) (by decide) F263 (rm11 l Z a0 hw [] a1 (q2.toInt32) bf h262 n0 Z270 F263 F264 F265 F266 g_a1 g_bf ne_1) (fun _ _ _ q => q.2.1) (W := 0) (by decide) (by decide) (by decide) (by decide) (argsL := [(.int (q2.toInt32))]) (rest := []) (by rw [hml]; rfl) (lenOf pd_0 rfl) rfl rfl (Nat.le_of_eq rfl) (hb hby d5_47) rfl ?_
          rintro _ T271 h271 L271 X271 ⟨rfl, N271, K271, F272, F273, F274, F275⟩
          have F276 : Exa Z h271 a1 nm1 := F263.keep K271
          have F277 : IL Z h271 bf .byte 16 := F266.keep K271
          have K278 : Keep h0 h271 [a1, bf] := K269.trans K271 (allS (Or.inl (List.mem_of_getElem? (i := 0) rfl)) (allS (Or.inl (List.mem_of_getElem? (i := 1) rfl)) all0))
          have Z279 : n0 ≤ h271.size := Nat.le_trans Z270 K271.1
          show Rt _ _ _ _ _ _ _ (T271.setTop (mkF m 50 #[.val (.ref a1), .val (.long q2), .second] []))
          refine Rt.goto (pc' := 94) X271 hx (hb hby d5_50) (by decide) (by decide) ?_
          have F280 : Fld Z h271 a1 nm1 "size" "I" (.int (f5_o_F_a1_size_0 q2)) := by rw [show (f5_o_F_a1_size_0 q2) = (3 : Int32) from by rw [f5_o_F_a1_size_0, if_neg hc3_1, if_pos hc11_141, if_neg hc26_142, if_neg hc34_202]]; exact F274
          exact Rt.retV X271 hx hlk hret (hb hby d5_94) (by decide) (by decide) (fun L N => ⟨rfl, N, K278, F272, F275, F273, F280⟩)
    · refine Rt.ifN (pc' := 14) X0 hx (hb hby d5_11) (gfl hc11_141).1 rfl ?_
      refine Rt.aloadN (pc' := 15) X0 hx (hb hby d5_14) rfl rfl rfl ?_
      refine Rt.lloadN (pc' := 16) X0 hx (hb hby d5_15) rfl rfl ?_
      refine Rt.l2i (pc' := 17) (r := (q2.toInt32)) X0 hx (hb hby d5_16) rfl rfl ?_
      refine Rt.callV (pc' := 20) X0 hx hZ (y := mt5) (yz := mt5) hown (hw _ (List.mem_of_getElem? (i := 33) rfl)) (hw _ (List.mem_of_getElem? (i := 34) rfl)) (notFace_of_selects (args := #[]) (mvT hZ (hw _ (List.mem_of_getElem? (i := 36) rfl)))) (hw _ (List.mem_of_getElem? (i := 36) rfl)) (hw _ (List.mem_of_getElem? (i := 35) rfl)) (hw _ (List.mem_of_getElem? (i := 14) rfl)) (hw _ (List.mem_of_getElem? (i := 37) rfl)) (by decide) F_E_a1 (rm6 l Z a0 hw [] a1 (q2.toInt32) bf h0 n0 Z0 F_E_a1 F_F_a1_buffer F_F_a1_size F_N_bf g_a1 g_bf ne_1) (fun _ _ _ q => q.2.1) (W := 0) (by decide) (by decide) (by decide) (by decide) (argsL := [(.int (q2.toInt32))]) (rest := []) (by rw [hml]; rfl) (lenOf pd_0 rfl) rfl rfl (Nat.le_of_eq rfl) (hb hby d5_17) rfl ?_
      rintro _ T281 h281 L281 X281 ⟨rfl, N281, K281, F282, F283, F284, F285⟩
      have F286 : Exa Z h281 a1 nm1 := F_E_a1.keep K281
      have F287 : IL Z h281 bf .byte 16 := F_N_bf.keep K281
      have K288 : Keep h0 h281 [a1, bf] := (Keep.refl h0 [a1, bf]).trans K281 (allS (Or.inl (List.mem_of_getElem? (i := 0) rfl)) (allS (Or.inl (List.mem_of_getElem? (i := 1) rfl)) all0))
      have Z289 : n0 ≤ h281.size := Nat.le_trans Z0 K281.1
      show Rt _ _ _ _ _ _ _ (T281.setTop (mkF m 20 #[.val (.ref a1), .val (.long q2), .second] []))
      refine Rt.goto (pc' := 94) X281 hx (hb hby d5_20) (by decide) (by decide) ?_
      have F290 : Fld Z h281 a1 nm1 "size" "I" (.int (f5_o_F_a1_size_0 q2)) := by rw [show (f5_o_F_a1_size_0 q2) = (1 : Int32) from by rw [f5_o_F_a1_size_0, if_neg hc3_1, if_neg hc11_141]]; exact F284
      exact Rt.retV X281 hx hlk hret (hb hby d5_94) (by decide) (by decide) (fun L N => ⟨rfl, N, K288, F282, F285, F283, F290⟩)
theorem d8_0 : decode prog_114_method_2_code 0 = .ok (.aload_n 0, 1) := by decide +kernel
theorem d8_1 : decode prog_114_method_2_code 1 = .ok (.getfield 15, 3) := by decide +kernel
theorem d8_4 : decode prog_114_method_2_code 4 = .ok (.ireturn, 1) := by decide +kernel
def f8 (sz : Int32) : Int32 := sz
def Q8 (a1 : Addr) (sz : Int32) (h0 : Heap) (n0 : Nat) (v : Option Value) (h : Heap) (L : List Loc) : Prop := v = some (.int (f8 sz)) ∧ Fr n0 L ∧ h = h0
def rmR8 : Room := { frames := 0, cells := 0, slots := 0, locals := 0 }
theorem ef_8 (m : MethodId) (a1 : Addr) : entryFrame m #[(.ref a1)] 1 = mkF m 0 #[.val (.ref a1)] [] := by first | (simp [entryFrame, mkF, argsToLocals, Value.category]; done) | rfl
set_option maxRecDepth 65536 in
set_option maxHeartbeats 40000000 in
theorem rm8 (l : Launch) (Z : State) (a0 : Array Value) (hw : ∀ d ∈ tables_1, d.before a0 Z = true) (ws : List Jvm.Cond) (a1 : Addr) (sz : Int32) (h0 : Heap) (n0 : Nat) (F_F_a1_size : Fld Z h0 a1 nm1 "size" "I" (.int sz)) :
    Mt l Z mt10 (Jvm.Cond.code mt10 prog_114_method_2_code 1 (some .int) :: ws) rmR8 #[(.ref a1)] h0 (Q8 a1 sz h0 n0) := by
  refine Mt.of n0 (plainFor_of_name pn_com_example_cogwire_cogwire_wire_ByteSink) ?_
  intro p e s m below meth c T0 X0 hx hZ hby hml hown hret hlk hnm hs0
  have hown : s.vm.findClass "com/example/cogwire/cogwire/wire/ByteSink" = some m.cls := hown
  rw [ef_8]
  show Rt p e below s rmR8.cells rmR8.slots (Q8 a1 sz h0 n0) (T0.setTop (mkF m 0 #[.val (.ref a1)] []))
  refine Rt.aloadN (pc' := 1) X0 hx (hb hby d8_0) rfl rfl rfl ?_
  refine Rt.getF (pc' := 4) (v := (.int sz)) X0 hx hZ hown (host := "") (Or.inl (hw _ (List.mem_of_getElem? (i := 42) rfl))) F_F_a1_size (hb hby d8_1) rfl ?_
  intro T1 X1
  exact Rt.retI X1 hx hlk hret (hb hby d8_4) (by decide) (by decide) (fun L N => ⟨congrArg some (congrArg Value.int (by rw [f8])), N, rfl⟩)
def f0_tab (j : Int32) : Int64 := if j = 0 then (0 : Int64) else if j = 1 then (252 : Int64) else if j = 2 then (65535 : Int64) else if j = 3 then (4294967295 : Int64) else if j = 4 then (-1 : Int64) else if j = 5 then (9223372036854775807 : Int64) else if j = 6 then (-9223372036854775808 : Int64) else (65536 : Int64)
theorem pd_2 : parseMethodDescriptor "(J)I" = some ⟨[.long], some .int⟩ := by decide +kernel
theorem pd_3 : parseMethodDescriptor "()I" = some ⟨[], some .int⟩ := by decide +kernel
def f0_ix (p2 : Int32) : Int32 := (((p2.toUInt32 >>> ((1 : Int32) &&& 31).toUInt32).toInt32) &&& (7 : Int32))
def f0_v79 (q1 : Int64) (p2 : Int32) : Int64 := ((f0_tab (f0_ix p2)) + (q1 - (q1 / (2 : Int64)) * (2 : Int64)))
def f0_j81_l4 (q1 : Int64) (p2 : Int32) : Int64 := (if (p2 &&& (1 : Int32)) = (0 : Int32) then q1 else (f0_v79 q1 p2))
def f0_v86 (q1 : Int64) (p2 : Int32) : Int32 := (f1 (f0_j81_l4 q1 p2))
def f0_v93 (q1 : Int64) (p2 : Int32) : Int32 := (f2 (f0_j81_l4 q1 p2))
def f0_c110_b95_size0 (q1 : Int64) (p2 : Int32) : Int32 := (f5_o_F_a1_size_0 (f0_j81_l4 q1 p2))
def f0 (q1 : Int64) (p2 : Int32) : Int32 := (if (f0_v93 q1 p2) = (f0_v86 q1 p2) then (if (f8 (f0_c110_b95_size0 q1 p2)) = (f0_v93 q1 p2) then (1 : Int32) else (0 : Int32)) else (0 : Int32))
theorem own_ix (k : Int32) : ¬ f0_ix k < 0 ∧ [Value.long (0 : Int64), Value.long (252 : Int64), Value.long (65535 : Int64), Value.long (4294967295 : Int64), Value.long (-1 : Int64), Value.long (9223372036854775807 : Int64), Value.long (-9223372036854775808 : Int64), Value.long (65536 : Int64)][(f0_ix k).toNatClampNeg]? = some (Value.long (f0_tab (f0_ix k))) := by
  have g := c_mask ((k.toUInt32 >>> ((1 : Int32) &&& 31).toUInt32).toInt32) 7 3 (by decide) (by decide)
  have e : f0_ix k = 0 ∨ f0_ix k = 1 ∨ f0_ix k = 2 ∨ f0_ix k = 3 ∨ f0_ix k = 4 ∨ f0_ix k = 5 ∨ f0_ix k = 6 ∨ f0_ix k = 7 := by
    unfold f0_ix
    generalize ((k.toUInt32 >>> ((1 : Int32) &&& 31).toUInt32).toInt32) &&& 7 = j at g ⊢
    simp only [← Int32.toInt_inj]
    have : j.toInt = 0 ∨ j.toInt = 1 ∨ j.toInt = 2 ∨ j.toInt = 3 ∨ j.toInt = 4 ∨ j.toInt = 5 ∨ j.toInt = 6 ∨ j.toInt = 7 := by omega
    exact this
  generalize f0_ix k = j at e
  rcases e with rfl | rfl | rfl | rfl | rfl | rfl | rfl | rfl <;> exact ⟨by decide, rfl⟩
def Q0 (Z : State) (q1 : Int64) (p2 : Int32) (h0 : Heap) (n0 : Nat) (v : Option Value) (h : Heap) (L : List Loc) : Prop := v = some (.int (f0 q1 p2)) ∧ Fr n0 L ∧ Keep h0 h []
theorem ef_0 (m : MethodId) (q1 : Int64) (p2 : Int32) : entryFrame m #[(.long q1), (.int p2)] maxLocals = mkF m 0 #[.val (.long q1), .second, .val (.int p2), .unset, .unset, .unset, .unset, .unset, .unset] [] := by first | (simp [entryFrame, mkF, argsToLocals, Value.category, maxLocals]; done) | rfl
set_option maxRecDepth 65536 in
set_option maxHeartbeats 40000000 in
theorem rm0 (l : Launch) (Z : State) (a0 : Array Value) (hw : ∀ d ∈ tables_1, d.before a0 Z = true) (ws : List Jvm.Cond) (q1 : Int64) (p2 : Int32) (h0 : Heap) (n0 : Nat) (Z0 : n0 ≤ h0.size) :
    Mt l Z x (Jvm.Cond.code x code maxLocals ret :: ws) room_1 #[(.long q1), (.int p2)] h0 (Q0 Z q1 p2 h0 n0) := by
  refine Mt.of n0 (plainFor_of_name pn_com_example_cogwire_cogwire_wire_ByteSinkUintXLengthPinLaw) ?_
  intro p e s m below meth c T0 X0 hx hZ hby hml hown hret hlk hnm hs0
  have hml : c.maxLocals = 9 := hml
  have hret : meth.sig.returnType = some .boolean := hret
  have hown : s.vm.findClass "com/example/cogwire/cogwire/wire/ByteSinkUintXLengthPinLaw" = some m.cls := hown
  rw [ef_0]
  show Rt p e below s room_1.cells room_1.slots (Q0 Z q1 p2 h0 n0) (T0.setTop (mkF m 0 #[.val (.long q1), .second, .val (.int p2), .unset, .unset, .unset, .unset, .unset, .unset] []))
  refine Rt.bipush (pc' := 2) (v := (8 : Int32)) X0 hx (hb hby at_0) rfl rfl ?_
  refine Rt.newP (pc' := 4) X0 hx hZ (ty := .long) rfl (hw _ (List.mem_of_getElem? (i := 0) rfl)) (z := (8 : Int32)) (i := 8) (by decide) (by decide) (cap := 8) (by decide) (by decide) (hb hby at_2) (by decide) (by decide) rfl ?_
  intro T1 h1 b2 ha1 X1 E1 A1
  have g2 : n0 ≤ b2 := by rw [ha1]; exact Z0
  have s3 : h0.size ≤ b2 := by rw [ha1]; exact (Keep.refl h0 []).1
  have K4 : Keep h0 h1 [] := (Keep.refl h0 []).ext E1
  have Z5 : n0 ≤ h1.size := Nat.le_trans Z0 E1.1
  have A1 : IA Z h1 b2 .long [(.long (0 : Int64)), (.long (0 : Int64)), (.long (0 : Int64)), (.long (0 : Int64)), (.long (0 : Int64)), (.long (0 : Int64)), (.long (0 : Int64)), (.long (0 : Int64))] := A1
  refine Rt.dup (pc' := 5) X1 hx (hb hby at_4) rfl rfl ?_
  refine Rt.iconst (pc' := 6) (v := (0 : Int32)) X1 hx (hb hby at_5) rfl rfl ?_
  refine Rt.lconst (pc' := 7) (v := (0 : Int64)) X1 hx (hb hby at_6) rfl rfl ?_
  refine Rt.lastore (pc' := 8) X1 hx hZ A1 (i := 0) (by decide) (by decide) (Nat.le_of_ble_eq_true rfl) (w := (.long (0 : Int64))) rfl g2 (hb hby at_7) rfl ?_
  intro T6 h6 X6 W6 F6
  have F6 : IA Z h6 b2 .long [(.long (0 : Int64)), (.long (0 : Int64)), (.long (0 : Int64)), (.long (0 : Int64)), (.long (0 : Int64)), (.long (0 : Int64)), (.long (0 : Int64)), (.long (0 : Int64))] := F6
  have K7 : Keep h0 h6 [] := K4.wr W6 (Or.inr s3)
  have Z8 : n0 ≤ h6.size := Nat.le_trans Z5 (Keep.of_wr W6).1
  refine Rt.dup (pc' := 9) X6 hx (hb hby at_8) rfl rfl ?_
  refine Rt.iconst (pc' := 10) (v := (1 : Int32)) X6 hx (hb hby at_9) rfl rfl ?_
  refine Rt.ldc2Long (pc' := 13) X6 hx hZ hown (hw _ (List.mem_of_getElem? (i := 1) rfl)) (hb hby at_10) rfl ?_
  refine Rt.lastore (pc' := 14) X6 hx hZ F6 (i := 1) (by decide) (by decide) (Nat.le_of_ble_eq_true rfl) (w := (.long (252 : Int64))) rfl g2 (hb hby at_13) rfl ?_
  intro T9 h9 X9 W9 F9
  have F9 : IA Z h9 b2 .long [(.long (0 : Int64)), (.long (252 : Int64)), (.long (0 : Int64)), (.long (0 : Int64)), (.long (0 : Int64)), (.long (0 : Int64)), (.long (0 : Int64)), (.long (0 : Int64))] := F9
  have K10 : Keep h0 h9 [] := K7.wr W9 (Or.inr s3)
  have Z11 : n0 ≤ h9.size := Nat.le_trans Z8 (Keep.of_wr W9).1
  refine Rt.dup (pc' := 15) X9 hx (hb hby at_14) rfl rfl ?_
  refine Rt.iconst (pc' := 16) (v := (2 : Int32)) X9 hx (hb hby at_15) rfl rfl ?_
  refine Rt.ldc2Long (pc' := 19) X9 hx hZ hown (hw _ (List.mem_of_getElem? (i := 2) rfl)) (hb hby at_16) rfl ?_
  refine Rt.lastore (pc' := 20) X9 hx hZ F9 (i := 2) (by decide) (by decide) (Nat.le_of_ble_eq_true rfl) (w := (.long (65535 : Int64))) rfl g2 (hb hby at_19) rfl ?_
  intro T12 h12 X12 W12 F12
  have F12 : IA Z h12 b2 .long [(.long (0 : Int64)), (.long (252 : Int64)), (.long (65535 : Int64)), (.long (0 : Int64)), (.long (0 : Int64)), (.long (0 : Int64)), (.long (0 : Int64)), (.long (0 : Int64))] := F12
  have K13 : Keep h0 h12 [] := K10.wr W12 (Or.inr s3)
  have Z14 : n0 ≤ h12.size := Nat.le_trans Z11 (Keep.of_wr W12).1
  refine Rt.dup (pc' := 21) X12 hx (hb hby at_20) rfl rfl ?_
  refine Rt.iconst (pc' := 22) (v := (3 : Int32)) X12 hx (hb hby at_21) rfl rfl ?_
  refine Rt.ldc2Long (pc' := 25) X12 hx hZ hown (hw _ (List.mem_of_getElem? (i := 3) rfl)) (hb hby at_22) rfl ?_
  refine Rt.lastore (pc' := 26) X12 hx hZ F12 (i := 3) (by decide) (by decide) (Nat.le_of_ble_eq_true rfl) (w := (.long (4294967295 : Int64))) rfl g2 (hb hby at_25) rfl ?_
  intro T15 h15 X15 W15 F15
  have F15 : IA Z h15 b2 .long [(.long (0 : Int64)), (.long (252 : Int64)), (.long (65535 : Int64)), (.long (4294967295 : Int64)), (.long (0 : Int64)), (.long (0 : Int64)), (.long (0 : Int64)), (.long (0 : Int64))] := F15
  have K16 : Keep h0 h15 [] := K13.wr W15 (Or.inr s3)
  have Z17 : n0 ≤ h15.size := Nat.le_trans Z14 (Keep.of_wr W15).1
  refine Rt.dup (pc' := 27) X15 hx (hb hby at_26) rfl rfl ?_
  refine Rt.iconst (pc' := 28) (v := (4 : Int32)) X15 hx (hb hby at_27) rfl rfl ?_
  refine Rt.ldc2Long (pc' := 31) X15 hx hZ hown (hw _ (List.mem_of_getElem? (i := 4) rfl)) (hb hby at_28) rfl ?_
  refine Rt.lastore (pc' := 32) X15 hx hZ F15 (i := 4) (by decide) (by decide) (Nat.le_of_ble_eq_true rfl) (w := (.long (-1 : Int64))) rfl g2 (hb hby at_31) rfl ?_
  intro T18 h18 X18 W18 F18
  have F18 : IA Z h18 b2 .long [(.long (0 : Int64)), (.long (252 : Int64)), (.long (65535 : Int64)), (.long (4294967295 : Int64)), (.long (-1 : Int64)), (.long (0 : Int64)), (.long (0 : Int64)), (.long (0 : Int64))] := F18
  have K19 : Keep h0 h18 [] := K16.wr W18 (Or.inr s3)
  have Z20 : n0 ≤ h18.size := Nat.le_trans Z17 (Keep.of_wr W18).1
  refine Rt.dup (pc' := 33) X18 hx (hb hby at_32) rfl rfl ?_
  refine Rt.iconst (pc' := 34) (v := (5 : Int32)) X18 hx (hb hby at_33) rfl rfl ?_
  refine Rt.ldc2Long (pc' := 37) X18 hx hZ hown (hw _ (List.mem_of_getElem? (i := 5) rfl)) (hb hby at_34) rfl ?_
  refine Rt.lastore (pc' := 38) X18 hx hZ F18 (i := 5) (by decide) (by decide) (Nat.le_of_ble_eq_true rfl) (w := (.long (9223372036854775807 : Int64))) rfl g2 (hb hby at_37) rfl ?_
  intro T21 h21 X21 W21 F21
  have F21 : IA Z h21 b2 .long [(.long (0 : Int64)), (.long (252 : Int64)), (.long (65535 : Int64)), (.long (4294967295 : Int64)), (.long (-1 : Int64)), (.long (9223372036854775807 : Int64)), (.long (0 : Int64)), (.long (0 : Int64))] := F21
  have K22 : Keep h0 h21 [] := K19.wr W21 (Or.inr s3)
  have Z23 : n0 ≤ h21.size := Nat.le_trans Z20 (Keep.of_wr W21).1
  refine Rt.dup (pc' := 39) X21 hx (hb hby at_38) rfl rfl ?_
  refine Rt.bipush (pc' := 41) (v := (6 : Int32)) X21 hx (hb hby at_39) rfl rfl ?_
  refine Rt.ldc2Long (pc' := 44) X21 hx hZ hown (hw _ (List.mem_of_getElem? (i := 6) rfl)) (hb hby at_41) rfl ?_
  refine Rt.lastore (pc' := 45) X21 hx hZ F21 (i := 6) (by decide) (by decide) (Nat.le_of_ble_eq_true rfl) (w := (.long (-9223372036854775808 : Int64))) rfl g2 (hb hby at_44) rfl ?_
  intro T24 h24 X24 W24 F24
  have F24 : IA Z h24 b2 .long [(.long (0 : Int64)), (.long (252 : Int64)), (.long (65535 : Int64)), (.long (4294967295 : Int64)), (.long (-1 : Int64)), (.long (9223372036854775807 : Int64)), (.long (-9223372036854775808 : Int64)), (.long (0 : Int64))] := F24
  have K25 : Keep h0 h24 [] := K22.wr W24 (Or.inr s3)
  have Z26 : n0 ≤ h24.size := Nat.le_trans Z23 (Keep.of_wr W24).1
  refine Rt.dup (pc' := 46) X24 hx (hb hby at_45) rfl rfl ?_
  refine Rt.bipush (pc' := 48) (v := (7 : Int32)) X24 hx (hb hby at_46) rfl rfl ?_
  refine Rt.ldc2Long (pc' := 51) X24 hx hZ hown (hw _ (List.mem_of_getElem? (i := 7) rfl)) (hb hby at_48) rfl ?_
  refine Rt.lastore (pc' := 52) X24 hx hZ F24 (i := 7) (by decide) (by decide) (Nat.le_of_ble_eq_true rfl) (w := (.long (65536 : Int64))) rfl g2 (hb hby at_51) rfl ?_
  intro T27 h27 X27 W27 F27
  have F27 : IA Z h27 b2 .long [(.long (0 : Int64)), (.long (252 : Int64)), (.long (65535 : Int64)), (.long (4294967295 : Int64)), (.long (-1 : Int64)), (.long (9223372036854775807 : Int64)), (.long (-9223372036854775808 : Int64)), (.long (65536 : Int64))] := F27
  have K28 : Keep h0 h27 [] := K25.wr W27 (Or.inr s3)
  have Z29 : n0 ≤ h27.size := Nat.le_trans Z26 (Keep.of_wr W27).1
  refine Rt.astoreN (pc' := 53) (v := (.ref b2)) (l' := #[.val (.long q1), .second, .val (.int p2), .val (.ref b2), .unset, .unset, .unset, .unset, .unset]) X27 hx (hb hby at_52) rfl rfl rfl ?_
  refine Rt.iloadN (pc' := 54) X27 hx (hb hby at_53) rfl rfl ?_
  refine Rt.iconst (pc' := 55) (v := (1 : Int32)) X27 hx (hb hby at_54) rfl rfl ?_
  refine Rt.iand (pc' := 56) (r := (p2 &&& (1 : Int32))) X27 hx (hb hby at_55) rfl rfl ?_
  have J56_30 : ∀ T30  , Sd p l e room_1 s m #[(.long q1), (.int p2)] below meth c T30 n0 1 8 h27 → Rt p e below s room_1.cells room_1.slots (Q0 Z q1 p2 h0 n0) (T30.setTop (mkF m 81 #[.val (.long q1), .second, .val (.int p2), .val (.ref b2), .val (.long (f0_j81_l4 q1 p2)), .second, .unset, .unset, .unset] [])) := by
    intro T30   X30 
    refine Rt.lload (pc' := 83) X30 hx (hb hby at_81) rfl rfl ?_
    refine Rt.callP (pc' := 86) (r := (.int (f1 (f0_j81_l4 q1 p2)))) X30 hx hZ (y := mt1) hown (hw _ (List.mem_of_getElem? (i := 8) rfl)) (hw _ (List.mem_of_getElem? (i := 9) rfl)) (hw _ (List.mem_of_getElem? (i := 10) rfl)) (hw _ (List.mem_of_getElem? (i := 11) rfl)) (by decide) (rm1 l Z a0 hw [] (f0_j81_l4 q1 p2) h27 n0) (W := 0) (by decide) (by decide) (by decide) (by decide) rfl rfl (argsL := [(.long (f0_j81_l4 q1 p2))]) (rest := []) (by rw [hml]; rfl) (lenOf pd_2 rfl) rfl rfl (Nat.le_of_eq rfl) (hb hby at_83) rfl ?_
    intro T31 X31
    refine Rt.istore (pc' := 88) (v := (f0_v86 q1 p2)) (l' := #[.val (.long q1), .second, .val (.int p2), .val (.ref b2), .val (.long (f0_j81_l4 q1 p2)), .second, .val (.int (f0_v86 q1 p2)), .unset, .unset]) X31 hx (hb hby at_86) rfl rfl ?_
    refine Rt.lload (pc' := 90) X31 hx (hb hby at_88) rfl rfl ?_
    refine Rt.callP (pc' := 93) (r := (.int (f2 (f0_j81_l4 q1 p2)))) X31 hx hZ (y := mt2) hown (hw _ (List.mem_of_getElem? (i := 12) rfl)) (hw _ (List.mem_of_getElem? (i := 13) rfl)) (hw _ (List.mem_of_getElem? (i := 14) rfl)) (hw _ (List.mem_of_getElem? (i := 15) rfl)) (by decide) (rm2 l Z a0 hw [] (f0_j81_l4 q1 p2) h27 n0) (W := 0) (by decide) (by decide) (by decide) (by decide) rfl rfl (argsL := [(.long (f0_j81_l4 q1 p2))]) (rest := []) (by rw [hml]; rfl) (lenOf pd_2 rfl) rfl rfl (Nat.le_of_eq rfl) (hb hby at_90) rfl ?_
    intro T32 X32
    refine Rt.istore (pc' := 95) (v := (f0_v93 q1 p2)) (l' := #[.val (.long q1), .second, .val (.int p2), .val (.ref b2), .val (.long (f0_j81_l4 q1 p2)), .second, .val (.int (f0_v86 q1 p2)), .val (.int (f0_v93 q1 p2)), .unset]) X32 hx (hb hby at_93) rfl rfl ?_
    refine Rt.newO (pc' := 98) X32 hx hZ hown (hw _ (List.mem_of_getElem? (i := 17) rfl)) (hw _ (List.mem_of_getElem? (i := 18) rfl)) (hw _ (List.mem_of_getElem? (i := 14) rfl)) (hb hby at_95) (by decide) (by decide) rfl ?_
    intro T33 h33 b95 ha33 X33 E33 A33 D33
    have g34 : n0 ≤ b95 := by rw [ha33]; exact Z29
    have s35 : h0.size ≤ b95 := by rw [ha33]; exact K28.1
    have ne36 : b2 ≠ b95 := by rw [ha33]; exact Nat.ne_of_lt F27.lt
    have F37 : IA Z h33 b2 .long [(.long (0 : Int64)), (.long (252 : Int64)), (.long (65535 : Int64)), (.long (4294967295 : Int64)), (.long (-1 : Int64)), (.long (9223372036854775807 : Int64)), (.long (-9223372036854775808 : Int64)), (.long (65536 : Int64))] := F27.ext E33
    have K38 : Keep h0 h33 [] := K28.ext E33
    have Z39 : n0 ≤ h33.size := Nat.le_trans Z29 E33.1
    have F40 : Fld Z h33 b95 nm1 "buffer" "[B" .null := D33 (Or.inl (hw _ (List.mem_of_getElem? (i := 27) rfl))) (ty := (.array .byte)) (by decide)
    have F41 : Fld Z h33 b95 nm1 "size" "I" (.int (0 : Int32)) := D33 (Or.inl (hw _ (List.mem_of_getElem? (i := 43) rfl))) (ty := .int) (by decide)
    refine Rt.dup (pc' := 99) X33 hx (hb hby at_98) rfl rfl ?_
    refine Rt.bipush (pc' := 101) (v := (16 : Int32)) X33 hx (hb hby at_99) rfl rfl ?_
    refine Rt.callI (pc' := 104) X33 hx hZ (y := mt3) rfl hown (hw _ (List.mem_of_getElem? (i := 19) rfl)) (hw _ (List.mem_of_getElem? (i := 20) rfl)) (hw _ (List.mem_of_getElem? (i := 14) rfl)) (hw _ (List.mem_of_getElem? (i := 21) rfl)) (by decide) (rm3 l Z a0 hw [] b95 h33 n0 Z39 A33 F40 F41 g34) (fun _ _ _ q => (by obtain ⟨_, _, _, q, _⟩ := q; exact q)) (W := 1) (by decide) (by decide) (by decide) (by decide) (argsL := [(.int (16 : Int32))]) (rest := [(.ref b95)]) (by rw [hml]; rfl) (lenOf pd_0 rfl) rfl rfl (Nat.le_of_eq rfl) (hb hby at_101) rfl ?_
    rintro _ T42 h42 L42 X42 ⟨b101nb, sb101nb, rfl, N42, K42, F43, F44, F45, F46⟩
    have g47 : n0 ≤ b101nb := Nat.le_trans Z39 sb101nb
    have s48 : h0.size ≤ b101nb := Nat.le_trans K38.1 sb101nb
    have ne49 : b2 ≠ b101nb := Nat.ne_of_lt (Nat.lt_of_lt_of_le F37.lt sb101nb)
    have ne50 : b95 ≠ b101nb := Nat.ne_of_lt (Nat.lt_of_lt_of_le A33.lt sb101nb)
    have F51 : IA Z h42 b2 .long [(.long (0 : Int64)), (.long (252 : Int64)), (.long (65535 : Int64)), (.long (4294967295 : Int64)), (.long (-1 : Int64)), (.long (9223372036854775807 : Int64)), (.long (-9223372036854775808 : Int64)), (.long (65536 : Int64))] := F37.keep K42 (ninS ne36 nin0)
    have F52 : Exa Z h42 b95 nm1 := A33.keep K42
    have K53 : Keep h0 h42 [] := K38.trans K42 (allS (Or.inr s35) all0)
    have Z54 : n0 ≤ h42.size := Nat.le_trans Z39 K42.1
    show Rt _ _ _ _ _ _ _ (T42.setTop (mkF m 104 #[.val (.long q1), .second, .val (.int p2), .val (.ref b2), .val (.long (f0_j81_l4 q1 p2)), .second, .val (.int (f0_v86 q1 p2)), .val (.int (f0_v93 q1 p2)), .unset] [(.ref b95)]))
    refine Rt.astore (pc' := 106) (v := (.ref b95)) (l' := #[.val (.long q1), .second, .val (.int p2), .val (.ref b2), .val (.long (f0_j81_l4 q1 p2)), .second, .val (.int (f0_v86 q1 p2)), .val (.int (f0_v93 q1 p2)), .val (.ref b95)]) X42 hx (hb hby at_104) rfl rfl rfl ?_
    refine Rt.aload (pc' := 108) X42 hx (hb hby at_106) rfl rfl rfl ?_
    refine Rt.lload (pc' := 110) X42 hx (hb hby at_108) rfl rfl ?_
    refine Rt.callV (pc' := 113) X42 hx hZ (y := mt9) (yz := mt9) hown (hw _ (List.mem_of_getElem? (i := 28) rfl)) (hw _ (List.mem_of_getElem? (i := 29) rfl)) (notFace_of_selects (args := #[]) (mvT hZ (hw _ (List.mem_of_getElem? (i := 31) rfl)))) (hw _ (List.mem_of_getElem? (i := 31) rfl)) (hw _ (List.mem_of_getElem? (i := 30) rfl)) (hw _ (List.mem_of_getElem? (i := 14) rfl)) (hw _ (List.mem_of_getElem? (i := 32) rfl)) (by decide) F43 (rm5 l Z a0 hw [] b95 (f0_j81_l4 q1 p2) b101nb h42 n0 Z54 F43 F44 F45 F46 g34 g47 ne50) (fun _ _ _ q => q.2.1) (W := 0) (by decide) (by decide) (by decide) (by decide) (argsL := [(.long (f0_j81_l4 q1 p2))]) (rest := []) (by rw [hml]; rfl) (lenOf pd_1 rfl) rfl rfl (Nat.le_of_eq rfl) (hb hby at_110) rfl ?_
    rintro _ T55 h55 L55 X55 ⟨rfl, N55, K55, F56, F57, F58, F59⟩
    have F60 : IA Z h55 b2 .long [(.long (0 : Int64)), (.long (252 : Int64)), (.long (65535 : Int64)), (.long (4294967295 : Int64)), (.long (-1 : Int64)), (.long (9223372036854775807 : Int64)), (.long (-9223372036854775808 : Int64)), (.long (65536 : Int64))] := F51.keep K55 (ninS ne36 (ninS ne49 nin0))
    have F61 : Exa Z h55 b95 nm1 := F43.keep K55
    have F62 : IL Z h55 b101nb .byte 16 := F46.keep K55
    have K63 : Keep h0 h55 [] := K53.trans K55 (allS (Or.inr s35) (allS (Or.inr s48) all0))
    have Z64 : n0 ≤ h55.size := Nat.le_trans Z54 K55.1
    have F65 : Fld Z h55 b95 nm1 "size" "I" (.int (f0_c110_b95_size0 q1 p2)) := F59
    show Rt _ _ _ _ _ _ _ (T55.setTop (mkF m 113 #[.val (.long q1), .second, .val (.int p2), .val (.ref b2), .val (.long (f0_j81_l4 q1 p2)), .second, .val (.int (f0_v86 q1 p2)), .val (.int (f0_v93 q1 p2)), .val (.ref b95)] []))
    refine Rt.iload (pc' := 115) X55 hx (hb hby at_113) rfl rfl ?_
    refine Rt.iload (pc' := 117) X55 hx (hb hby at_115) rfl rfl ?_
    by_cases hc117_66 : (f0_v93 q1 p2) = (f0_v86 q1 p2)
    · refine Rt.icmpN (pc' := 120) X55 hx (hb hby at_117) (teq hc117_66).2 rfl ?_
      refine Rt.aload (pc' := 122) X55 hx (hb hby at_120) rfl rfl rfl ?_
      refine Rt.callV (pc' := 125) X55 hx hZ (y := mt10) (yz := mt10) hown (hw _ (List.mem_of_getElem? (i := 44) rfl)) (hw _ (List.mem_of_getElem? (i := 45) rfl)) (notFace_of_selects (args := #[]) (mvT hZ (hw _ (List.mem_of_getElem? (i := 47) rfl)))) (hw _ (List.mem_of_getElem? (i := 47) rfl)) (hw _ (List.mem_of_getElem? (i := 46) rfl)) (hw _ (List.mem_of_getElem? (i := 14) rfl)) (hw _ (List.mem_of_getElem? (i := 48) rfl)) (by decide) F56 (rm8 l Z a0 hw [] b95 (f0_c110_b95_size0 q1 p2) h55 n0 F65) (fun _ _ _ q => q.2.1) (W := 0) (by decide) (by decide) (by decide) (by decide) (argsL := []) (rest := []) (by rw [hml]; rfl) (lenOf pd_3 rfl) rfl rfl (Nat.le_of_eq rfl) (hb hby at_122) rfl ?_
      rintro _ T67 h67 L67 X67 ⟨rfl, N67, e67⟩
      rw [e67] at X67
      show Rt _ _ _ _ _ _ _ (T67.setTop (mkF m 125 #[.val (.long q1), .second, .val (.int p2), .val (.ref b2), .val (.long (f0_j81_l4 q1 p2)), .second, .val (.int (f0_v86 q1 p2)), .val (.int (f0_v93 q1 p2)), .val (.ref b95)] [(.int (f8 (f0_c110_b95_size0 q1 p2)))]))
      refine Rt.iload (pc' := 127) X67 hx (hb hby at_125) rfl rfl ?_
      by_cases hc127_68 : (f8 (f0_c110_b95_size0 q1 p2)) = (f0_v93 q1 p2)
      · refine Rt.icmpN (pc' := 130) X67 hx (hb hby at_127) (teq hc127_68).2 rfl ?_
        refine Rt.iconst (pc' := 131) (v := (1 : Int32)) X67 hx (hb hby at_130) rfl rfl ?_
        refine Rt.goto (pc' := 135) X67 hx (hb hby at_131) (by decide) (by decide) ?_
        exact Rt.retZ (w := (1 : Int32)) X67 hx hlk hret (by simp) (hb hby at_135) (by decide) (by decide) (by decide) (fun L N => ⟨congrArg some (congrArg Value.int (by rw [f0, if_pos hc117_66, if_pos hc127_68])), N, K63⟩)
      · refine Rt.icmpY (pc' := 134) X67 hx (hb hby at_127) (feq hc127_68).2 (by decide) (by decide) ?_
        refine Rt.iconst (pc' := 135) (v := (0 : Int32)) X67 hx (hb hby at_134) rfl rfl ?_
        exact Rt.retZ (w := (0 : Int32)) X67 hx hlk hret (by simp) (hb hby at_135) (by decide) (by decide) (by decide) (fun L N => ⟨congrArg some (congrArg Value.int (by rw [f0, if_pos hc117_66, if_neg hc127_68])), N, K63⟩)
    · refine Rt.icmpY (pc' := 134) X55 hx (hb hby at_117) (feq hc117_66).2 (by decide) (by decide) ?_
      refine Rt.iconst (pc' := 135) (v := (0 : Int32)) X55 hx (hb hby at_134) rfl rfl ?_
      exact Rt.retZ (w := (0 : Int32)) X55 hx hlk hret (by simp) (hb hby at_135) (by decide) (by decide) (by decide) (fun L N => ⟨congrArg some (congrArg Value.int (by rw [f0, if_neg hc117_66])), N, K63⟩)
  by_cases hc56_69 : (p2 &&& (1 : Int32)) = (0 : Int32)
  · refine Rt.ifN (pc' := 59) X27 hx (hb hby at_56) ((if0 _ _).trans (teq hc56_69).2) rfl ?_
    refine Rt.lloadN (pc' := 60) X27 hx (hb hby at_59) rfl rfl ?_
    refine Rt.lstore (pc' := 62) (v := q1) (l' := #[.val (.long q1), .second, .val (.int p2), .val (.ref b2), .val (.long q1), .second, .unset, .unset, .unset]) X27 hx (hb hby at_60) rfl rfl ?_
    refine Rt.goto (pc' := 81) X27 hx (hb hby at_62) (by decide) (by decide) ?_
    have q := J56_30 T27   X27
    rw [show (f0_j81_l4 q1 p2) = q1 from by rw [f0_j81_l4, if_pos hc56_69]] at q
    exact q
  · refine Rt.ifY (pc' := 65) X27 hx (hb hby at_56) ((if0 _ _).trans (feq hc56_69).2) (by decide) (by decide) ?_
    refine Rt.aloadN (pc' := 66) X27 hx (hb hby at_65) rfl rfl rfl ?_
    refine Rt.iloadN (pc' := 67) X27 hx (hb hby at_66) rfl rfl ?_
    refine Rt.iconst (pc' := 68) (v := (1 : Int32)) X27 hx (hb hby at_67) rfl rfl ?_
    refine Rt.iushr (pc' := 69) (r := ((p2.toUInt32 >>> ((1 : Int32) &&& 31).toUInt32).toInt32)) X27 hx (hb hby at_68) rfl rfl ?_
    refine Rt.bipush (pc' := 71) (v := (7 : Int32)) X27 hx (hb hby at_69) rfl rfl ?_
    refine Rt.iand (pc' := 72) (r := (((p2.toUInt32 >>> ((1 : Int32) &&& 31).toUInt32).toInt32) &&& (7 : Int32))) X27 hx (hb hby at_71) rfl rfl ?_
    refine Rt.laload (pc' := 73) X27 hx hZ F27 (i := ((f0_ix p2)).toNatClampNeg) rfl (own_ix _).1 (v := (.long (f0_tab (f0_ix p2)))) (own_ix _).2 (hb hby at_72) rfl ?_
    refine Rt.lloadN (pc' := 74) X27 hx (hb hby at_73) rfl rfl ?_
    refine Rt.ldc2Long (pc' := 77) X27 hx hZ hown (hw _ (List.mem_of_getElem? (i := 59) rfl)) (hb hby at_74) rfl ?_
    refine Rt.lrem (pc' := 78) X27 hx (hb hby at_77) (by decide) rfl rfl ?_
    refine Rt.ladd (pc' := 79) (r := ((f0_tab (f0_ix p2)) + (q1 - (q1 / (2 : Int64)) * (2 : Int64)))) X27 hx (hb hby at_78) rfl rfl ?_
    refine Rt.lstore (pc' := 81) (v := (f0_v79 q1 p2)) (l' := #[.val (.long q1), .second, .val (.int p2), .val (.ref b2), .val (.long (f0_v79 q1 p2)), .second, .unset, .unset, .unset]) X27 hx (hb hby at_79) rfl rfl ?_
    have q := J56_30 T27   X27
    rw [show (f0_j81_l4 q1 p2) = (f0_v79 q1 p2) from by rw [f0_j81_l4, if_neg hc56_69]] at q
    exact q
theorem own_ref (v : Int64) : f2 v = f1 v := by
  have b1 := v.le_toInt
  have b2 := v.toInt_lt
  have l0 : (0 : Int64).toInt = 0 := by decide
  have l252 : (252 : Int64).toInt = 252 := by decide
  have l65535 : (65535 : Int64).toInt = 65535 := by decide
  have l4294967295 : (4294967295 : Int64).toInt = 4294967295 := by decide
  have g1 := c_lushr v 32 32 (by decide) (by decide)
  have g2 := c_lushr v 16 16 (by decide) (by decide)
  unfold f1 f2
  simp only [Int64.lt_iff_toInt_lt, ← Int64.toInt_inj, g1, g2, l0, l252, l65535, l4294967295]
  repeat' split
  all_goals first | rfl | omega
theorem own_size (v : Int64) : f5_o_F_a1_size_0 v = f2 v := by
  have l0 : (0 : Int64).toInt = 0 := by decide
  have l252 : (252 : Int64).toInt = 252 := by decide
  have l65535 : (65535 : Int64).toInt = 65535 := by decide
  have l4294967295 : (4294967295 : Int64).toInt = 4294967295 := by decide
  unfold f5_o_F_a1_size_0 f2
  simp only [Int64.lt_iff_toInt_lt, l0, l252, l65535, l4294967295]
  repeat' split
  all_goals first | rfl | omega
theorem own_law (v : Int64) (k : Int32) : f0 v k = 1 := by
  unfold f0 f0_v93 f0_v86 f8 f0_c110_b95_size0
  rw [if_pos (own_ref _), if_pos (own_size _)]
set_option maxRecDepth 65536 in
set_option maxHeartbeats 40000000 in
theorem comes_1 {Post : Tables → Env → Array Value → State → Outcome → State → Prop} (hpost : ∀ tb e args s v u, (limb_1_1.after args s (.returned v) u = true ∧ limb_1_2.after args s (.returned v) u = true ∧ True) → FrameEnd s (.returned v) u (Jvm.fieldLocs frame_1_writes args s ++ Jvm.arrayLocs frame_1_arrays args s ++ Jvm.staticLocs frame_1_statics s) 16 128 → Post tb e args s (.returned v) u) :
    ArmFor flags0 classFile x code maxLocals ret World_1 tables_1 room_1 Calls_1 rest_1 Pre_1 Post := by
  intro l hfl _ _ p e ha hc hk s m args below hf hA hF happ hP
  obtain ⟨hcalls, hrest, hpre⟩ := hP
  obtain ⟨-, -, -, hnamed, -, -, -, hat⟩ := (Spec.applies_iff hf).mp happ
  obtain ⟨hg, hn⟩ := and_e (Cond.before_iff.mp (show (Jvm.Cond.and given_1 narrow_1).before args s = true from hpre))
  obtain ⟨g1, g2⟩ := and_e hg
  obtain ⟨g3, g4⟩ := and_e g2
  obtain ⟨w0, w1, rfl⟩ : ∃ w0 w1 : Value, args = #[w0, w1] := by
    have hs : args.size = 2 := by simpa [Cond.value, given_1] using g1
    obtain ⟨L⟩ := args
    match L, hs with
    | [w0, w1], _ => exact ⟨w0, w1, rfl⟩
  have hw := fun d (hd : d ∈ tables_1) => atoms_spec (ws := Jvm.Cond.code x code maxLocals ret :: tables_1) hat d (List.mem_cons_of_mem _ hd)
  have hfit : Fit s := fun {y c} hc i hi => by
    obtain ⟨ha, rfl⟩ := Array.getElem?_eq_some_iff.mp hc
    have q := List.all_eq_true.mp ((Array.all_eq_true_iff_forall_mem.mp hF) _ (Array.getElem_mem ha)) i (List.mem_range.mpr hi)
    simpa [Array.getElem?_eq_getElem hi] using q
  obtain ⟨i0, ei0⟩ := isL_v g3
  obtain rfl : w0 = (.long i0) := Option.some.inj ei0
  obtain ⟨i1, ei1⟩ := is_v g4
  obtain rfl : w1 = (.int i1) := Option.some.inj ei1
  obtain ⟨n, o, h1, h2, h3, _, L, rfl, ⟨rfl, N, -⟩, hq⟩ := rm0 l s _ hw tables_1 i0 i1 s.heap s.heap.size (Nat.le_refl _) p e ha hc hk s m _ below hf ((Spec.applies_iff_loose hf).mp happ).1 ⟨rfl, State.Warmed39.refl s, rfl⟩ trivial
  rw [own_law i0 i1] at *
  refine ⟨n, _, h1, h2, h3, hpost _ _ _ _ _ _ ⟨Cond.after_iff.mpr rfl, Cond.after_iff.mpr (eq_i res_at (Term.int_eval (1)) rfl), trivial⟩ ⟨hq.1, hq.2.1, (hq.2.2.sift fun y hy => Or.inr (N y hy)).mono (by decide) (by decide)⟩⟩
theorem main_1_1 : Claimed_1_1 := comes_1 fun _ _ _ _ _ _ h hF => ⟨h.1, hF⟩
theorem main_1_2 : Claimed_1_2 := comes_1 fun _ _ _ _ _ _ h hF => ⟨h.2.1, hF⟩
end Jvm.Pilot.@@N@@
namespace Jvm.Pilot.@@N@@
open Jvm Jvm.ClassFile Sem Op Lib Jvm.Free Jvm.Stand Jvm.Pilot.@@N@@.Jvm.D
/-! MADE BY PROGRAM (witnessworld.py) out of the Statement's table words and the real class files: 11 classes; the members and pool entries that the words name. The judged class is class 1, her method 2. -/
namespace start1
open Jvm.ClassFile
def u (s : String) : CpInfo := .utf8 (stringToUtf16 s)
/-- a pool by its gaps: so many unusable entries, then the entry; so many at the end -/
def gap : Nat → List CpInfo → List CpInfo
  | 0, r => r
  | n + 1, r => .unusable :: gap n r
def poolList (es : List (Nat × CpInfo)) (last : Nat) : List CpInfo := es.foldr (fun e r => gap e.1 (e.2 :: r)) (gap last [])
def pool (es : List (Nat × CpInfo)) (last : Nat) : Array CpInfo := ⟨poolList es last⟩
def fileOf (pool : Array CpInfo) (this : Nat) (attrs : Array Attribute := #[]) (ms : Array MethodInfo := #[]) (fl : Nat := 33) (sup : Nat := 0) (ifs : Array Nat := #[]) (fds : Array FieldInfo := #[]) : ClassFile where
  minorVersion := 0
  majorVersion := 65
  constantPool := pool
  accessFlags := fl
  thisClass := this
  superClass := sup
  interfaces := ifs
  fields := fds
  methods := ms
  attributes := attrs
def plain (name : String) (sup : Option ClassId) : Class where
  name := name
  kind := .ordinary
  loader := none
  accessFlags := 33
  super := sup
  interfaces := #[]
  cf := none
  fields := #[]
  methods := #[]
  instanceTypes := #[]
  staticTypes := #[]
  resolved := #[]
  callSites := []
  init := .initialized
  statics := none
  mirror := none

def pool0 : Array CpInfo := pool [(5, u "<init>"), (0, u "()V"), (1, .class_ 10), (1, u "java/lang/Object")] 113

def k0c0 : Code := { maxStack := 0, maxLocals := 1, code := object_method_1_code, exceptionTable := #[], attributes := #[] }
def k0m0 : Method := { name := "<init>", desc := "()V", sig := { parameters := [], returnType := none }, accessFlags := 1, code := some k0c0 }
/-- java/lang/Object -/
def k0 : Class := { plain "java/lang/Object" none with
  accessFlags := 33
  interfaces := #[]
  cf := some (fileOf pool0 8 #[] #[{ accessFlags := 1, nameIndex := 5, descriptorIndex := 6, attributes := #[] }] 33 0 #[] #[])
  fields := #[]
  methods := #[k0m0]
  instanceTypes := #[]
  staticTypes := #[]
  resolved := Array.replicate 124 none
  statics := none }

def pool1 : Array CpInfo := pool [(2, .class_ 4), (1, u "java/lang/Object"), (0, u "<init>"), (0, u "()V"), (0, .long 252), (1, .long 65535), (1, .long 4294967295), (1, .long 18446744073709551615), (3, .long 9223372036854775807), (1, .long 9223372036854775808), (1, .long 65536), (1, .long 2), (1, .methodref 26 27), (0, .class_ 28), (0, .nameAndType 29 30), (0, u "com/example/cogwire/cogwire/wire/ByteSinkUintXLengthPinLaw"), (0, u "reference"), (0, u "(J)I"), (0, .methodref 32 33), (0, .class_ 34), (0, .nameAndType 35 30), (0, u "com/example/cogwire/cogwire/wire/ByteSink"), (0, u "uintXLength"), (0, .methodref 32 37), (0, .nameAndType 5 38), (0, u "(I)V"), (0, .methodref 32 40), (0, .nameAndType 41 42), (0, u "uintX"), (0, u "(J)V"), (0, .methodref 32 44), (0, .nameAndType 45 46), (0, u "size"), (0, u "()I"), (3, u "law"), (0, u "(JI)Z")] 4

def k1m0 : Method := { name := "<init>", desc := "()V", sig := { parameters := [], returnType := none }, accessFlags := 2, code := none }
def k1c1 : Code := { maxStack := 4, maxLocals := 2, code := method_2_code, exceptionTable := #[], attributes := #[] }
def k1m1 : Method := { name := "reference", desc := "(J)I", sig := { parameters := [.long], returnType := some .int }, accessFlags := 10, code := some k1c1 }
def k1c2 : Code := { maxStack := 6, maxLocals := 9, code := code, exceptionTable := #[], attributes := #[] }
def k1m2 : Method := { name := "law", desc := "(JI)Z", sig := { parameters := [.long, .int], returnType := some .boolean }, accessFlags := 9, code := some k1c2 }
/-- com/example/cogwire/cogwire/wire/ByteSinkUintXLengthPinLaw -/
def k1 : Class := { plain "com/example/cogwire/cogwire/wire/ByteSinkUintXLengthPinLaw" (some 0) with
  accessFlags := 49
  interfaces := #[]
  cf := some (fileOf pool1 26 #[] #[{ accessFlags := 2, nameIndex := 5, descriptorIndex := 6, attributes := #[] }, { accessFlags := 10, nameIndex := 29, descriptorIndex := 30, attributes := #[] }, { accessFlags := 9, nameIndex := 50, descriptorIndex := 51, attributes := #[] }] 49 2 #[] #[])
  fields := #[]
  methods := #[k1m0, k1m1, k1m2]
  instanceTypes := #[]
  staticTypes := #[]
  resolved := Array.replicate 56 none
  statics := none }

def pool2 : Array CpInfo := pool [(3, .methodref 4 5), (0, .class_ 6), (0, .nameAndType 7 8), (0, u "java/lang/Object"), (0, u "<init>"), (0, u "()V"), (0, .fieldref 10 11), (0, .class_ 12), (0, .nameAndType 13 14), (0, u "com/example/cogwire/cogwire/wire/ByteSink"), (0, u "buffer"), (0, u "[B"), (0, .fieldref 10 16), (0, .nameAndType 17 18), (0, u "size"), (0, u "I"), (12, .methodref 10 32), (0, .nameAndType 33 34), (0, u "ensure"), (0, u "(I)V"), (0, .methodref 10 36), (0, .nameAndType 37 38), (0, u "u32"), (0, u "(J)V"), (0, .long 252), (1, .methodref 10 42), (0, .nameAndType 43 34), (0, u "u8"), (0, .long 65535), (1, .methodref 10 47), (0, .nameAndType 48 34), (0, u "u16"), (2, .long 4294967295), (1, .methodref 10 54), (0, .nameAndType 55 38), (0, u "u64"), (34, .long 2147483639), (10, .long 2), (10, u "MAX_LENGTH"), (4, u "()I"), (10, u "uintX"), (1, u "uintXLength"), (0, u "(J)I")] 20

def k2c0 : Code := { maxStack := 2, maxLocals := 2, code := prog_114_method_1_code, exceptionTable := #[], attributes := #[] }
def k2m0 : Method := { name := "<init>", desc := "(I)V", sig := { parameters := [.int], returnType := none }, accessFlags := 0, code := some k2c0 }
def k2c1 : Code := { maxStack := 1, maxLocals := 1, code := prog_114_method_2_code, exceptionTable := #[], attributes := #[] }
def k2m1 : Method := { name := "size", desc := "()I", sig := { parameters := [], returnType := some .int }, accessFlags := 0, code := some k2c1 }
def k2c2 : Code := { maxStack := 5, maxLocals := 2, code := prog_114_method_6_code, exceptionTable := #[], attributes := #[] }
def k2m2 : Method := { name := "u8", desc := "(I)V", sig := { parameters := [.int], returnType := none }, accessFlags := 0, code := some k2c2 }
def k2c3 : Code := { maxStack := 5, maxLocals := 2, code := prog_114_method_7_code, exceptionTable := #[], attributes := #[] }
def k2m3 : Method := { name := "u16", desc := "(I)V", sig := { parameters := [.int], returnType := none }, accessFlags := 0, code := some k2c3 }
def k2c4 : Code := { maxStack := 6, maxLocals := 4, code := prog_114_method_8_code, exceptionTable := #[], attributes := #[] }
def k2m4 : Method := { name := "u32", desc := "(J)V", sig := { parameters := [.long], returnType := none }, accessFlags := 0, code := some k2c4 }
def k2c5 : Code := { maxStack := 4, maxLocals := 3, code := prog_114_method_9_code, exceptionTable := #[], attributes := #[] }
def k2m5 : Method := { name := "u64", desc := "(J)V", sig := { parameters := [.long], returnType := none }, accessFlags := 0, code := some k2c5 }
def k2c6 : Code := { maxStack := 4, maxLocals := 3, code := prog_114_method_10_code, exceptionTable := #[], attributes := #[] }
def k2m6 : Method := { name := "uintX", desc := "(J)V", sig := { parameters := [.long], returnType := none }, accessFlags := 0, code := some k2c6 }
def k2c7 : Code := { maxStack := 4, maxLocals := 2, code := prog_114_method_12_code, exceptionTable := #[], attributes := #[] }
def k2m7 : Method := { name := "uintXLength", desc := "(J)I", sig := { parameters := [.long], returnType := some .int }, accessFlags := 8, code := some k2c7 }
def k2c8 : Code := { maxStack := 8, maxLocals := 4, code := prog_114_method_16_code, exceptionTable := #[], attributes := #[] }
def k2m8 : Method := { name := "ensure", desc := "(I)V", sig := { parameters := [.int], returnType := none }, accessFlags := 2, code := some k2c8 }
/-- com/example/cogwire/cogwire/wire/ByteSink -/
def k2 : Class := { plain "com/example/cogwire/cogwire/wire/ByteSink" (some 0) with
  accessFlags := 48
  interfaces := #[]
  cf := some (fileOf pool2 10 #[] #[{ accessFlags := 0, nameIndex := 7, descriptorIndex := 34, attributes := #[] }, { accessFlags := 0, nameIndex := 17, descriptorIndex := 117, attributes := #[] }, { accessFlags := 0, nameIndex := 43, descriptorIndex := 34, attributes := #[] }, { accessFlags := 0, nameIndex := 48, descriptorIndex := 34, attributes := #[] }, { accessFlags := 0, nameIndex := 37, descriptorIndex := 38, attributes := #[] }, { accessFlags := 0, nameIndex := 55, descriptorIndex := 38, attributes := #[] }, { accessFlags := 0, nameIndex := 128, descriptorIndex := 38, attributes := #[] }, { accessFlags := 8, nameIndex := 130, descriptorIndex := 131, attributes := #[] }, { accessFlags := 2, nameIndex := 33, descriptorIndex := 34, attributes := #[] }] 48 4 #[] #[{ accessFlags := 26, nameIndex := 112, descriptorIndex := 18, attributes := #[] }, { accessFlags := 2, nameIndex := 13, descriptorIndex := 14, attributes := #[] }, { accessFlags := 2, nameIndex := 17, descriptorIndex := 18, attributes := #[] }])
  fields := #[{ name := "MAX_LENGTH", type := .int, accessFlags := 26, slot := 0, constantValue := 0 }, { name := "buffer", type := (.array .byte), accessFlags := 2, slot := 0, constantValue := 0 }, { name := "size", type := .int, accessFlags := 2, slot := 1, constantValue := 0 }]
  methods := #[k2m0, k2m1, k2m2, k2m3, k2m4, k2m5, k2m6, k2m7, k2m8]
  instanceTypes := #[(.array .byte), .int]
  staticTypes := #[.int]
  resolved := Array.replicate 152 none
  statics := none }

def pool3 : Array CpInfo := pool [(1, u "java/lang/Cloneable"), (0, .class_ 1), (0, u "java/lang/Object"), (0, .class_ 3)] 3

/-- java/lang/Cloneable -/
def k3 : Class := { plain "java/lang/Cloneable" (some 0) with
  accessFlags := 1537
  interfaces := #[]
  cf := some (fileOf pool3 2 #[] #[] 1537 4 #[] #[])
  fields := #[]
  methods := #[]
  instanceTypes := #[]
  staticTypes := #[]
  resolved := Array.replicate 8 none
  statics := none }

def pool4 : Array CpInfo := pool [(1, u "java/io/Serializable"), (0, .class_ 1), (0, u "java/lang/Object"), (0, .class_ 3)] 3

/-- java/io/Serializable -/
def k4 : Class := { plain "java/io/Serializable" (some 0) with
  accessFlags := 1537
  interfaces := #[]
  cf := some (fileOf pool4 2 #[] #[] 1537 4 #[] #[])
  fields := #[]
  methods := #[]
  instanceTypes := #[]
  staticTypes := #[]
  resolved := Array.replicate 8 none
  statics := none }

/-- the primitive byte -/
def k5 : Class := { plain "byte" none with kind := .primitive 'B', accessFlags := 0x411 }
/-- [B -/
def k6 : Class := { plain "[B" (some 0) with kind := .array 5 .byte, interfaces := #[3, 4], accessFlags := 1041 }

/-- the primitive int -/
def k7 : Class := { plain "int" none with kind := .primitive 'I', accessFlags := 0x411 }
/-- [I -/
def k8 : Class := { plain "[I" (some 0) with kind := .array 7 .int, interfaces := #[3, 4], accessFlags := 1041 }

/-- the primitive long -/
def k9 : Class := { plain "long" none with kind := .primitive 'J', accessFlags := 0x411 }
/-- [J -/
def k10 : Class := { plain "[J" (some 0) with kind := .array 9 .long, interfaces := #[3, 4], accessFlags := 1041 }

def heap : Heap := #[]
def classes : Array Class := #[k0, k1, k2, k3, k4, k5, k6, k7, k8, k9, k10]
def interned : List (Array UInt16 × Addr) := []
def slotsUsed : Nat := 0
def theMethod : MethodId := ⟨1, 2⟩
def args0 : Array Value := #[.long 5, .int 7]
def aboutOver (below : List Frame) : State where
  vm := { classes := classes, interned := interned.toArray }
  heap := heap
  slotsUsed := slotsUsed
  threads := #[{ frames := .invoking theMethod args0 :: below }]
def below0 : List Frame := [.native { method := ⟨0, 0⟩, args := #[] }]
def about1 : State := aboutOver below0
def p0 : Program := .bare "" "" ""
def e0 : Env := launch0.env 0 0 0
theorem w_frames : about1.frames = Frame.invoking theMethod args0 :: below0 := rfl
set_option maxRecDepth 65536 in
theorem w_args : argsFit about1.vm theMethod args0 = true := by decide +kernel
set_option maxRecDepth 65536 in
theorem w_heap : heapFits about1 = true := by decide +kernel
set_option maxRecDepth 65536 in
theorem w_runnable : about1.curStatus? = some .runnable := by decide +kernel
set_option maxRecDepth 65536 in
theorem w_alone : about1.alone = true := by decide +kernel
set_option maxRecDepth 65536 in
theorem w_named : about1.methodNamed? x = some theMethod := by decide +kernel
set_option maxRecDepth 65536 in
theorem w_hears : about1.hears theMethod below0 = true := by decide +kernel
set_option maxRecDepth 65536 in
theorem w_ripe : about1.ripe theMethod args0 below0 = true := by decide +kernel
theorem w_running : about1.status = .running := rfl
set_option maxRecDepth 65536 in
theorem w_room : about1.hasRoom e0.platform room_1 = true :=
  launch0.hasRoom_least _ room_1 (by decide +kernel) (by decide +kernel) (by decide +kernel) (by decide +kernel) (by decide +kernel) (by decide +kernel)
theorem allAtoms_all (ts : List Jvm.Cond) (a : Array Jvm.Value) (st : Jvm.State) : (allAtoms ts).before a st = ts.all (fun c => c.before a st) := by
  induction ts with
  | nil => rfl
  | cons c t ih =>
    show (Jvm.Cond.and c (allAtoms t)).before a st = _
    rw [Jvm.Cond.before_and, ih, List.all_cons]
def words1 : List Jvm.Cond := Jvm.Cond.code x code maxLocals ret :: tables_1
/-- a 'code' word, met by the world's own term for the bytes: nothing is compared byte by byte -/
theorem code_word {y : MethodName} {bytes : ByteArray} {mx : Nat} {rt : Option FieldType} {a : Array Value} {s : State} {m : MethodId} {meth : Method} {c : Code} (h1 : s.methodNamed? y = some m) (h2 : s.vm.method? m = some meth) (h3 : meth.code = some c) (h4 : c.code = bytes)
    (h5 : (c.maxLocals == mx && c.exceptionTable.isEmpty && decide (c.maxStack ≤ mostOperands) && decide (meth.sig.returnType = rt) && !meth.locks && decide (parseMethodDescriptor y.desc = some meth.sig)) = true) : (Jvm.Cond.code y bytes mx rt).before a s = true := by
  simp only [Bool.and_eq_true, beq_iff_eq, Bool.not_eq_true', decide_eq_true_eq] at h5
  obtain ⟨⟨⟨⟨⟨g1, g2⟩, g3⟩, g4⟩, g5⟩, g6⟩ := h5
  simp [Cond.before, Cond.holds, Cond.value, h1, h2, h3, h4, g1, g2, g3, g4, g5, g6]
def isCode : Jvm.Cond → Bool
  | .code _ _ _ _ => true
  | _ => false
theorem all_split {L : List Jvm.Cond} {P : Jvm.Cond → Bool} (h1 : L.all (fun c => isCode c || P c) = true) (h2 : ∀ c ∈ L.filter isCode, P c = true) : L.all P = true := by
  refine List.all_eq_true.mpr fun c hc => ?_
  have h := List.all_eq_true.mp h1 c hc
  rcases Bool.eq_false_or_eq_true (isCode c) with hi | hi
  · exact h2 c (List.mem_filter.mpr ⟨hc, hi⟩)
  · simpa [hi] using h
set_option maxRecDepth 65536 in
theorem w_c0 : (Jvm.Cond.code x code maxLocals ret).before args0 about1 = true := code_word (m := ⟨1, 2⟩) (meth := k1m2) (c := k1c2) (by decide +kernel) rfl rfl rfl (by decide +kernel)
set_option maxRecDepth 65536 in
theorem w_c1 : (Jvm.Cond.code ({ cls := "com/example/cogwire/cogwire/wire/ByteSinkUintXLengthPinLaw", name := "reference", desc := "(J)I" } : Jvm.MethodName) method_2_code (2 : Nat) (Option.some Jvm.ClassFile.FieldType.int)).before args0 about1 = true := code_word (m := ⟨1, 1⟩) (meth := k1m1) (c := k1c1) (by decide +kernel) rfl rfl rfl (by decide +kernel)
set_option maxRecDepth 65536 in
theorem w_c2 : (Jvm.Cond.code ({ cls := "com/example/cogwire/cogwire/wire/ByteSink", name := "uintXLength", desc := "(J)I" } : Jvm.MethodName) prog_114_method_12_code (2 : Nat) (Option.some Jvm.ClassFile.FieldType.int)).before args0 about1 = true := code_word (m := ⟨2, 7⟩) (meth := k2m7) (c := k2c7) (by decide +kernel) rfl rfl rfl (by decide +kernel)
set_option maxRecDepth 65536 in
theorem w_c3 : (Jvm.Cond.code ({ cls := "com/example/cogwire/cogwire/wire/ByteSink", name := "<init>", desc := "(I)V" } : Jvm.MethodName) prog_114_method_1_code (2 : Nat) (Option.none : Option Jvm.ClassFile.FieldType)).before args0 about1 = true := code_word (m := ⟨2, 0⟩) (meth := k2m0) (c := k2c0) (by decide +kernel) rfl rfl rfl (by decide +kernel)
set_option maxRecDepth 65536 in
theorem w_c4 : (Jvm.Cond.code ({ cls := "java/lang/Object", name := "<init>", desc := "()V" } : Jvm.MethodName) object_method_1_code (1 : Nat) (Option.none : Option Jvm.ClassFile.FieldType)).before args0 about1 = true := code_word (m := ⟨0, 0⟩) (meth := k0m0) (c := k0c0) (by decide +kernel) rfl rfl rfl (by decide +kernel)
set_option maxRecDepth 65536 in
theorem w_c5 : (Jvm.Cond.code ({ cls := "com/example/cogwire/cogwire/wire/ByteSink", name := "uintX", desc := "(J)V" } : Jvm.MethodName) prog_114_method_10_code (3 : Nat) (Option.none : Option Jvm.ClassFile.FieldType)).before args0 about1 = true := code_word (m := ⟨2, 6⟩) (meth := k2m6) (c := k2c6) (by decide +kernel) rfl rfl rfl (by decide +kernel)
set_option maxRecDepth 65536 in
theorem w_c6 : (Jvm.Cond.code ({ cls := "com/example/cogwire/cogwire/wire/ByteSink", name := "u8", desc := "(I)V" } : Jvm.MethodName) prog_114_method_6_code (2 : Nat) (Option.none : Option Jvm.ClassFile.FieldType)).before args0 about1 = true := code_word (m := ⟨2, 2⟩) (meth := k2m2) (c := k2c2) (by decide +kernel) rfl rfl rfl (by decide +kernel)
set_option maxRecDepth 65536 in
theorem w_c7 : (Jvm.Cond.code ({ cls := "com/example/cogwire/cogwire/wire/ByteSink", name := "ensure", desc := "(I)V" } : Jvm.MethodName) prog_114_method_16_code (4 : Nat) (Option.none : Option Jvm.ClassFile.FieldType)).before args0 about1 = true := code_word (m := ⟨2, 8⟩) (meth := k2m8) (c := k2c8) (by decide +kernel) rfl rfl rfl (by decide +kernel)
set_option maxRecDepth 65536 in
theorem w_c8 : (Jvm.Cond.code ({ cls := "com/example/cogwire/cogwire/wire/ByteSink", name := "size", desc := "()I" } : Jvm.MethodName) prog_114_method_2_code (1 : Nat) (Option.some Jvm.ClassFile.FieldType.int)).before args0 about1 = true := code_word (m := ⟨2, 1⟩) (meth := k2m1) (c := k2c1) (by decide +kernel) rfl rfl rfl (by decide +kernel)
set_option maxRecDepth 65536 in
theorem w_c9 : (Jvm.Cond.code ({ cls := "com/example/cogwire/cogwire/wire/ByteSink", name := "u64", desc := "(J)V" } : Jvm.MethodName) prog_114_method_9_code (3 : Nat) (Option.none : Option Jvm.ClassFile.FieldType)).before args0 about1 = true := code_word (m := ⟨2, 5⟩) (meth := k2m5) (c := k2c5) (by decide +kernel) rfl rfl rfl (by decide +kernel)
set_option maxRecDepth 65536 in
theorem w_c10 : (Jvm.Cond.code ({ cls := "com/example/cogwire/cogwire/wire/ByteSink", name := "u32", desc := "(J)V" } : Jvm.MethodName) prog_114_method_8_code (4 : Nat) (Option.none : Option Jvm.ClassFile.FieldType)).before args0 about1 = true := code_word (m := ⟨2, 4⟩) (meth := k2m4) (c := k2c4) (by decide +kernel) rfl rfl rfl (by decide +kernel)
set_option maxRecDepth 65536 in
theorem w_c11 : (Jvm.Cond.code ({ cls := "com/example/cogwire/cogwire/wire/ByteSink", name := "u16", desc := "(I)V" } : Jvm.MethodName) prog_114_method_7_code (2 : Nat) (Option.none : Option Jvm.ClassFile.FieldType)).before args0 about1 = true := code_word (m := ⟨2, 3⟩) (meth := k2m3) (c := k2c3) (by decide +kernel) rfl rfl rfl (by decide +kernel)
def codes1 : List Jvm.Cond := [Jvm.Cond.code x code maxLocals ret, Jvm.Cond.code ({ cls := "com/example/cogwire/cogwire/wire/ByteSinkUintXLengthPinLaw", name := "reference", desc := "(J)I" } : Jvm.MethodName) method_2_code (2 : Nat) (Option.some Jvm.ClassFile.FieldType.int), Jvm.Cond.code ({ cls := "com/example/cogwire/cogwire/wire/ByteSink", name := "uintXLength", desc := "(J)I" } : Jvm.MethodName) prog_114_method_12_code (2 : Nat) (Option.some Jvm.ClassFile.FieldType.int), Jvm.Cond.code ({ cls := "com/example/cogwire/cogwire/wire/ByteSink", name := "<init>", desc := "(I)V" } : Jvm.MethodName) prog_114_method_1_code (2 : Nat) (Option.none : Option Jvm.ClassFile.FieldType), Jvm.Cond.code ({ cls := "java/lang/Object", name := "<init>", desc := "()V" } : Jvm.MethodName) object_method_1_code (1 : Nat) (Option.none : Option Jvm.ClassFile.FieldType), Jvm.Cond.code ({ cls := "com/example/cogwire/cogwire/wire/ByteSink", name := "uintX", desc := "(J)V" } : Jvm.MethodName) prog_114_method_10_code (3 : Nat) (Option.none : Option Jvm.ClassFile.FieldType), Jvm.Cond.code ({ cls := "com/example/cogwire/cogwire/wire/ByteSink", name := "u8", desc := "(I)V" } : Jvm.MethodName) prog_114_method_6_code (2 : Nat) (Option.none : Option Jvm.ClassFile.FieldType), Jvm.Cond.code ({ cls := "com/example/cogwire/cogwire/wire/ByteSink", name := "ensure", desc := "(I)V" } : Jvm.MethodName) prog_114_method_16_code (4 : Nat) (Option.none : Option Jvm.ClassFile.FieldType), Jvm.Cond.code ({ cls := "com/example/cogwire/cogwire/wire/ByteSink", name := "size", desc := "()I" } : Jvm.MethodName) prog_114_method_2_code (1 : Nat) (Option.some Jvm.ClassFile.FieldType.int), Jvm.Cond.code ({ cls := "com/example/cogwire/cogwire/wire/ByteSink", name := "u64", desc := "(J)V" } : Jvm.MethodName) prog_114_method_9_code (3 : Nat) (Option.none : Option Jvm.ClassFile.FieldType), Jvm.Cond.code ({ cls := "com/example/cogwire/cogwire/wire/ByteSink", name := "u32", desc := "(J)V" } : Jvm.MethodName) prog_114_method_8_code (4 : Nat) (Option.none : Option Jvm.ClassFile.FieldType), Jvm.Cond.code ({ cls := "com/example/cogwire/cogwire/wire/ByteSink", name := "u16", desc := "(I)V" } : Jvm.MethodName) prog_114_method_7_code (2 : Nat) (Option.none : Option Jvm.ClassFile.FieldType)]
set_option maxRecDepth 65536 in
theorem codes_eq : words1.filter isCode = codes1 := rfl
theorem w_codes : ∀ c ∈ words1.filter isCode, c.before args0 about1 = true := by
  rw [codes_eq]
  intro c hc
  simp only [codes1, List.mem_cons, List.not_mem_nil, or_false] at hc
  rcases hc with rfl | rfl | rfl | rfl | rfl | rfl | rfl | rfl | rfl | rfl | rfl | rfl
  · exact w_c0
  · exact w_c1
  · exact w_c2
  · exact w_c3
  · exact w_c4
  · exact w_c5
  · exact w_c6
  · exact w_c7
  · exact w_c8
  · exact w_c9
  · exact w_c10
  · exact w_c11
set_option maxRecDepth 65536 in
theorem w_t1 : (words1.take 24).all (fun c => isCode c || c.before args0 about1) = true := by decide +kernel
set_option maxRecDepth 65536 in
theorem w_t2 : ((words1.drop 24).take 24).all (fun c => isCode c || c.before args0 about1) = true := by decide +kernel
set_option maxRecDepth 65536 in
theorem w_t3 : ((words1.drop 24).drop 24).all (fun c => isCode c || c.before args0 about1) = true := by decide +kernel
theorem w_tables : (allAtoms (Jvm.Cond.code x code maxLocals ret :: tables_1)).before args0 about1 = true := by
  rw [allAtoms_all]
  show words1.all (fun c => c.before args0 about1) = true
  refine all_split ?_ w_codes
  rw [← List.take_append_drop 24 words1, List.all_append, w_t1, ← List.take_append_drop 24 (words1.drop 24), List.all_append, w_t2, w_t3]
  rfl
set_option maxRecDepth 65536 in
theorem w_case : (Jvm.Cond.and given_1 narrow_1).before args0 about1 = true := by decide +kernel
theorem w_applies : (headSpec (Jvm.Cond.code x code maxLocals ret :: tables_1) room_1).applies x e0.platform about1 = true :=
  (Spec.applies_iff w_frames).mpr ⟨w_running, w_runnable, w_alone, w_named, w_hears, w_ripe, w_room, w_tables⟩
theorem atStart : AtStart classFile x code maxLocals ret World_1 tables_1 room_1 Calls_1 rest_1 Pre_1 launch0 p0 e0 about1 theMethod args0 below0 :=
  ⟨lists_1, trivial, launch0.admits_env _ _ _, launch0.least_env, fairChoices_fair.cas, fairChoices_fair.clock, w_frames, w_args, w_heap, w_applies, trivial, trivial, w_case⟩
end start1
theorem witness_1 : WitnessClaimed_1 := ⟨start1.p0, start1.e0, start1.about1, start1.theMethod, start1.args0, start1.below0, start1.atStart⟩
end Jvm.Pilot.@@N@@
