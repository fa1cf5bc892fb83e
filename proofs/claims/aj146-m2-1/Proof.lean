import JvmDerived
import JvmDerived.Pilot.@@N@@Statement
import JvmDerived.Pilot.@@N@@Code
set_option linter.unusedVariables false
set_option linter.unusedSimpArgs false
namespace Jvm.RoadKit
open Sem ClassFile Op Lib Jvm.Stand Jvm.Free Jvm.LawKit
section New
variable {p : Program} {l : Launch} {e : Env} {R : Room} {s : State} {m : MethodId} {args : Array Value} {below : List Frame} {meth : Method} {c : Code} {T : State} {locs : List Loc} {cells slots : Nat}
theorem retI (X : Stand p l e R s m args below meth c T locs cells slots) (hx : p.tables.exec = Jvm.exec) {pc : Nat} {Ls : Array Slot} {z : Int32} {rest : List Value} (hret : meth.sig.returnType = some .int) (hd : decode c.code pc = .ok (.ireturn, 1)) {fs : List Frame}
    (hl : ∀ (f : JFrame) (acts : List Action), f.method = m → f.locked = none → f.entered = [] → (doReturn e (T.setTop f) acts (some (.int z))).1 = T.setFrames fs) : Steps p.tables e below (T.setTop (mkF m pc Ls (.int z :: rest))) (T.setFrames fs) := by
  have hm' : T.vm.method? m = some meth := X.method'
  have hn : narrow .int (.int z) = .int z := rfl
  show Steps p.tables e below (T.setTop { method := m, pc := pc, locals := Ls, stack := _ :: rest, locked := none }) _
  jvm_step X.here [X.here.top, hx, hd, hm', hret, hn]
  first | (intro acts; rw [hl _ acts rfl rfl rfl]) | rw [hl _ _ rfl rfl rfl]
  exact Steps.refl _
theorem retA (X : Stand p l e R s m args below meth c T locs cells slots) (hx : p.tables.exec = Jvm.exec) {pc : Nat} {Ls : Array Slot} {v : Value} {t : FieldType} (ht : t.isReference = true) (hv : v.isRef = true) (hret : meth.sig.returnType = some t) (hd : decode c.code pc = .ok (.areturn, 1)) {fs : List Frame}
    (hl : ∀ (f : JFrame) (acts : List Action), f.method = m → f.locked = none → f.entered = [] → (doReturn e (T.setTop f) acts (some v)).1 = T.setFrames fs) : Steps p.tables e below (T.setTop (mkF m pc Ls [v])) (T.setFrames fs) := by
  have hm' : T.vm.method? m = some meth := X.method'
  show Steps p.tables e below (T.setTop { method := m, pc := pc, locals := Ls, stack := [v], locked := none }) _
  jvm_step X.here [X.here.top, hx, hd, hm', hret, hv, ht]
  first | (intro acts; rw [hl _ acts rfl rfl rfl]) | rw [hl _ _ rfl rfl rfl]
  exact Steps.refl _
end New
end Jvm.RoadKit
namespace Jvm.Pilot.@@N@@
open Jvm Jvm.ClassFile Sem Op Lib Jvm.Free Jvm.Stand Jvm.LawKit Jvm.RoadKit Bundle Jvm.Pilot.@@N@@.Jvm.D
/-- from A the invocation comes to its end: it returns some v, P holds of v, of the heap and of the places written, and the frame is kept -/
def Rt (p : Program) (e : Env) (below : List Frame) (s : State) (k n : Nat) (P : Option Value → Heap → List Loc → Prop) (A : State) : Prop :=
  ∃ s₂ o, Steps p.tables e below A s₂ ∧ s₂.status = .running ∧ Ended s₂ below o ∧ ∃ v L, o = .returned v ∧ P v s₂.heap L ∧ FrameEnd s o s₂ L k n
/-- where the walk stands: its heap, and that all it wrote lies at n0 or above -/
def Sd (p : Program) (l : Launch) (e : Env) (R : Room) (s : State) (m : MethodId) (args : Array Value) (below : List Frame) (meth : Method) (c : Code) (T : State) (n0 cells slots : Nat) (h : Heap) : Prop :=
  ∃ locs, Stand p l e R s m args below meth c T locs cells slots ∧ Fr n0 locs ∧ T.heap = h
def lcv (j : Fin 2) : Int64 := Int64.ofNat j.val
section Own
variable {p : Program} {l : Launch} {e : Env} {R : Room} {s : State} {m : MethodId} {args : Array Value} {below : List Frame} {meth : Method} {c : Code} {T : State} {n0 cells slots : Nat} {h0 : Heap} {k n : Nat} {P : Option Value → Heap → List Loc → Prop}
theorem Rt.go {A B : State} (f : ∀ t, Steps p.tables e below B t → Steps p.tables e below A t) (h : Rt p e below s k n P B) : Rt p e below s k n P A := by
  obtain ⟨s₂, o, h1, h2⟩ := h
  exact ⟨s₂, o, f _ h1, h2⟩
theorem Rt.mono {Q : Option Value → Heap → List Loc → Prop} {A : State} (h : Rt p e below s k n Q A) (q : ∀ v h L, Q v h L → P v h L) : Rt p e below s k n P A := by
  obtain ⟨s₂, o, h1, h2, h3, v, L, h4, h5, h6⟩ := h
  exact ⟨s₂, o, h1, h2, h3, v, L, h4, q _ _ _ h5, h6⟩
theorem Rt.iloadN (X : Sd p l e R s m args below meth c T n0 cells slots h0) (hx : p.tables.exec = Jvm.exec) {pc pc' : Nat} {Ls : Array Slot} {S : List Value} {j : Fin 4} {v : Int32} (hd : decode c.code pc = .ok (.iload_n j, 1)) (hl : Ls[j.val]? = some (.val (.int v))) (hp : pc + 1 = pc')
    (h : Rt p e below s k n P (T.setTop (mkF m pc' Ls (.int v :: S)))) : Rt p e below s k n P (T.setTop (mkF m pc Ls (S))) := by
  subst hp; obtain ⟨_, X, _, _⟩ := X; exact Rt.go (fun _ => XS.iloadN X.here hx rfl hd hl) h
theorem Rt.iload (X : Sd p l e R s m args below meth c T n0 cells slots h0) (hx : p.tables.exec = Jvm.exec) {pc pc' : Nat} {Ls : Array Slot} {S : List Value} {j : Nat} {v : Int32} (hd : decode c.code pc = .ok (.iload j, 2)) (hl : Ls[j]? = some (.val (.int v))) (hp : pc + 2 = pc')
    (h : Rt p e below s k n P (T.setTop (mkF m pc' Ls (.int v :: S)))) : Rt p e below s k n P (T.setTop (mkF m pc Ls (S))) := by
  subst hp; obtain ⟨_, X, _, _⟩ := X; exact Rt.go (fun _ => XS.iload X.here hx rfl hd hl) h
theorem Rt.istoreN (X : Sd p l e R s m args below meth c T n0 cells slots h0) (hx : p.tables.exec = Jvm.exec) {pc pc' : Nat} {Ls : Array Slot} {S : List Value} {j : Fin 4} {v : Int32} {l' : Array Slot} (hd : decode c.code pc = .ok (.istore_n j, 1)) (hl : storeLocals Ls j.val (.int v) = some l') (hp : pc + 1 = pc')
    (h : Rt p e below s k n P (T.setTop (mkF m pc' l' (S)))) : Rt p e below s k n P (T.setTop (mkF m pc Ls (.int v :: S))) := by
  subst hp; obtain ⟨_, X, _, _⟩ := X; exact Rt.go (fun _ => XS.istoreN X.here hx rfl hd rfl hl) h
theorem Rt.istore (X : Sd p l e R s m args below meth c T n0 cells slots h0) (hx : p.tables.exec = Jvm.exec) {pc pc' : Nat} {Ls : Array Slot} {S : List Value} {j : Nat} {v : Int32} {l' : Array Slot} (hd : decode c.code pc = .ok (.istore j, 2)) (hl : storeLocals Ls j (.int v) = some l') (hp : pc + 2 = pc')
    (h : Rt p e below s k n P (T.setTop (mkF m pc' l' (S)))) : Rt p e below s k n P (T.setTop (mkF m pc Ls (.int v :: S))) := by
  subst hp; obtain ⟨_, X, _, _⟩ := X; exact Rt.go (fun _ => XS.istore X.here hx rfl hd rfl hl) h
theorem Rt.lloadN (X : Sd p l e R s m args below meth c T n0 cells slots h0) (hx : p.tables.exec = Jvm.exec) {pc pc' : Nat} {Ls : Array Slot} {S : List Value} {j : Fin 4} {v : Int64} (hd : decode c.code pc = .ok (.lload_n j, 1)) (hl : Ls[j.val]? = some (.val (.long v))) (hp : pc + 1 = pc')
    (h : Rt p e below s k n P (T.setTop (mkF m pc' Ls (.long v :: S)))) : Rt p e below s k n P (T.setTop (mkF m pc Ls (S))) := by
  subst hp; obtain ⟨_, X, _, _⟩ := X; exact Rt.go (fun _ => XS.lloadN X.here hx rfl hd hl) h
theorem Rt.lload (X : Sd p l e R s m args below meth c T n0 cells slots h0) (hx : p.tables.exec = Jvm.exec) {pc pc' : Nat} {Ls : Array Slot} {S : List Value} {j : Nat} {v : Int64} (hd : decode c.code pc = .ok (.lload j, 2)) (hl : Ls[j]? = some (.val (.long v))) (hp : pc + 2 = pc')
    (h : Rt p e below s k n P (T.setTop (mkF m pc' Ls (.long v :: S)))) : Rt p e below s k n P (T.setTop (mkF m pc Ls (S))) := by
  subst hp; obtain ⟨_, X, _, _⟩ := X; exact Rt.go (fun _ => XS.lload X.here hx rfl hd hl) h
theorem Rt.lstoreN (X : Sd p l e R s m args below meth c T n0 cells slots h0) (hx : p.tables.exec = Jvm.exec) {pc pc' : Nat} {Ls : Array Slot} {S : List Value} {j : Fin 4} {v : Int64} {l' : Array Slot} (hd : decode c.code pc = .ok (.lstore_n j, 1)) (hl : storeLocals Ls j.val (.long v) = some l') (hp : pc + 1 = pc')
    (h : Rt p e below s k n P (T.setTop (mkF m pc' l' (S)))) : Rt p e below s k n P (T.setTop (mkF m pc Ls (.long v :: S))) := by
  subst hp; obtain ⟨_, X, _, _⟩ := X; exact Rt.go (fun _ => XS.lstoreN X.here hx rfl hd rfl hl) h
theorem Rt.lstore (X : Sd p l e R s m args below meth c T n0 cells slots h0) (hx : p.tables.exec = Jvm.exec) {pc pc' : Nat} {Ls : Array Slot} {S : List Value} {j : Nat} {v : Int64} {l' : Array Slot} (hd : decode c.code pc = .ok (.lstore j, 2)) (hl : storeLocals Ls j (.long v) = some l') (hp : pc + 2 = pc')
    (h : Rt p e below s k n P (T.setTop (mkF m pc' l' (S)))) : Rt p e below s k n P (T.setTop (mkF m pc Ls (.long v :: S))) := by
  subst hp; obtain ⟨_, X, _, _⟩ := X; exact Rt.go (fun _ => XS.lstore X.here hx rfl hd rfl hl) h
theorem Rt.aloadN (X : Sd p l e R s m args below meth c T n0 cells slots h0) (hx : p.tables.exec = Jvm.exec) {pc pc' : Nat} {Ls : Array Slot} {S : List Value} {j : Fin 4} {v : Value} (hd : decode c.code pc = .ok (.aload_n j, 1)) (hl : Ls[j.val]? = some (.val v)) (hv : v.isRef = true) (hp : pc + 1 = pc')
    (h : Rt p e below s k n P (T.setTop (mkF m pc' Ls (v :: S)))) : Rt p e below s k n P (T.setTop (mkF m pc Ls (S))) := by
  subst hp; obtain ⟨_, X, _, _⟩ := X; exact Rt.go (fun _ => XS.aloadN X.here hx rfl hd hl hv) h
theorem Rt.aload (X : Sd p l e R s m args below meth c T n0 cells slots h0) (hx : p.tables.exec = Jvm.exec) {pc pc' : Nat} {Ls : Array Slot} {S : List Value} {j : Nat} {v : Value} (hd : decode c.code pc = .ok (.aload j, 2)) (hl : Ls[j]? = some (.val v)) (hv : v.isRef = true) (hp : pc + 2 = pc')
    (h : Rt p e below s k n P (T.setTop (mkF m pc' Ls (v :: S)))) : Rt p e below s k n P (T.setTop (mkF m pc Ls (S))) := by
  subst hp; obtain ⟨_, X, _, _⟩ := X; exact Rt.go (fun _ => XS.aload X.here hx rfl hd hl hv) h
theorem Rt.astoreN (X : Sd p l e R s m args below meth c T n0 cells slots h0) (hx : p.tables.exec = Jvm.exec) {pc pc' : Nat} {Ls : Array Slot} {S : List Value} {j : Fin 4} {v : Value} {l' : Array Slot} (hd : decode c.code pc = .ok (.astore_n j, 1)) (hv : v.isRef = true) (hl : storeLocals Ls j.val v = some l') (hp : pc + 1 = pc')
    (h : Rt p e below s k n P (T.setTop (mkF m pc' l' (S)))) : Rt p e below s k n P (T.setTop (mkF m pc Ls (v :: S))) := by
  subst hp; obtain ⟨_, X, _, _⟩ := X; exact Rt.go (fun _ => XS.astoreN X.here hx rfl hd rfl hv hl) h
theorem Rt.astore (X : Sd p l e R s m args below meth c T n0 cells slots h0) (hx : p.tables.exec = Jvm.exec) {pc pc' : Nat} {Ls : Array Slot} {S : List Value} {j : Nat} {v : Value} {l' : Array Slot} (hd : decode c.code pc = .ok (.astore j, 2)) (hv : v.isRef = true) (hl : storeLocals Ls j v = some l') (hp : pc + 2 = pc')
    (h : Rt p e below s k n P (T.setTop (mkF m pc' l' (S)))) : Rt p e below s k n P (T.setTop (mkF m pc Ls (v :: S))) := by
  subst hp; obtain ⟨_, X, _, _⟩ := X; exact Rt.go (fun _ => XS.astore X.here hx rfl hd rfl hv hl) h
theorem Rt.iconst (X : Sd p l e R s m args below meth c T n0 cells slots h0) (hx : p.tables.exec = Jvm.exec) {pc pc' : Nat} {Ls : Array Slot} {S : List Value} {i : Int} {v : Int32} (hd : decode c.code pc = .ok (.iconst i, 1)) (hv : Int32.ofInt i = v) (hp : pc + 1 = pc')
    (h : Rt p e below s k n P (T.setTop (mkF m pc' Ls (.int v :: S)))) : Rt p e below s k n P (T.setTop (mkF m pc Ls S)) := by
  subst hp hv; obtain ⟨_, X, _, _⟩ := X; exact Rt.go (fun _ => XS.iconst X.here hx rfl hd) h
theorem Rt.bipush (X : Sd p l e R s m args below meth c T n0 cells slots h0) (hx : p.tables.exec = Jvm.exec) {pc pc' : Nat} {Ls : Array Slot} {S : List Value} {i : Int} {v : Int32} (hd : decode c.code pc = .ok (.bipush i, 2)) (hv : (Int8.ofInt i).toInt32 = v) (hp : pc + 2 = pc')
    (h : Rt p e below s k n P (T.setTop (mkF m pc' Ls (.int v :: S)))) : Rt p e below s k n P (T.setTop (mkF m pc Ls S)) := by
  subst hp hv; obtain ⟨_, X, _, _⟩ := X; exact Rt.go (fun _ => XS.bipush X.here hx rfl hd) h
theorem Rt.sipush (X : Sd p l e R s m args below meth c T n0 cells slots h0) (hx : p.tables.exec = Jvm.exec) {pc pc' : Nat} {Ls : Array Slot} {S : List Value} {i : Int} {v : Int32} (hd : decode c.code pc = .ok (.sipush i, 3)) (hv : (Int16.ofInt i).toInt32 = v) (hp : pc + 3 = pc')
    (h : Rt p e below s k n P (T.setTop (mkF m pc' Ls (.int v :: S)))) : Rt p e below s k n P (T.setTop (mkF m pc Ls S)) := by
  subst hp hv; obtain ⟨_, X, _, _⟩ := X; exact Rt.go (fun _ => XS.sipush X.here hx rfl hd) h
theorem Rt.lconst (X : Sd p l e R s m args below meth c T n0 cells slots h0) (hx : p.tables.exec = Jvm.exec) {pc pc' : Nat} {Ls : Array Slot} {S : List Value} {i : Fin 2} {v : Int64} (hd : decode c.code pc = .ok (.lconst i, 1)) (hv : lcv i = v) (hp : pc + 1 = pc')
    (h : Rt p e below s k n P (T.setTop (mkF m pc' Ls (.long v :: S)))) : Rt p e below s k n P (T.setTop (mkF m pc Ls S)) := by
  subst hp hv; obtain ⟨_, X, _, _⟩ := X; exact Rt.go (fun _ => XS.lconst X.here hx rfl hd) h
theorem Rt.aconstNull (X : Sd p l e R s m args below meth c T n0 cells slots h0) (hx : p.tables.exec = Jvm.exec) {pc pc' : Nat} {Ls : Array Slot} {S : List Value}  (hd : decode c.code pc = .ok (.aconst_null, 1)) (hp : pc + 1 = pc')
    (h : Rt p e below s k n P (T.setTop (mkF m pc' Ls (.null :: S)))) : Rt p e below s k n P (T.setTop (mkF m pc Ls (S))) := by
  subst hp; obtain ⟨_, X, _, _⟩ := X; exact Rt.go (fun _ => XS.aconstNull X.here hx rfl hd ) h
theorem Rt.iadd (X : Sd p l e R s m args below meth c T n0 cells slots h0) (hx : p.tables.exec = Jvm.exec) {pc pc' : Nat} {Ls : Array Slot} {S : List Value} {x y r : Int32} (hd : decode c.code pc = .ok (.iadd, 1)) (hr : x + y = r) (hp : pc + 1 = pc')
    (h : Rt p e below s k n P (T.setTop (mkF m pc' Ls (.int r :: S)))) : Rt p e below s k n P (T.setTop (mkF m pc Ls (.int y :: .int x :: S))) := by
  subst hp hr; obtain ⟨_, X, _, _⟩ := X; exact Rt.go (fun _ => XS.iadd X.here hx rfl hd rfl) h
theorem Rt.isub (X : Sd p l e R s m args below meth c T n0 cells slots h0) (hx : p.tables.exec = Jvm.exec) {pc pc' : Nat} {Ls : Array Slot} {S : List Value} {x y r : Int32} (hd : decode c.code pc = .ok (.isub, 1)) (hr : x - y = r) (hp : pc + 1 = pc')
    (h : Rt p e below s k n P (T.setTop (mkF m pc' Ls (.int r :: S)))) : Rt p e below s k n P (T.setTop (mkF m pc Ls (.int y :: .int x :: S))) := by
  subst hp hr; obtain ⟨_, X, _, _⟩ := X; exact Rt.go (fun _ => XS.isub X.here hx rfl hd rfl) h
theorem Rt.imul (X : Sd p l e R s m args below meth c T n0 cells slots h0) (hx : p.tables.exec = Jvm.exec) {pc pc' : Nat} {Ls : Array Slot} {S : List Value} {x y r : Int32} (hd : decode c.code pc = .ok (.imul, 1)) (hr : x * y = r) (hp : pc + 1 = pc')
    (h : Rt p e below s k n P (T.setTop (mkF m pc' Ls (.int r :: S)))) : Rt p e below s k n P (T.setTop (mkF m pc Ls (.int y :: .int x :: S))) := by
  subst hp hr; obtain ⟨_, X, _, _⟩ := X; exact Rt.go (fun _ => XS.imul X.here hx rfl hd rfl) h
theorem Rt.iand (X : Sd p l e R s m args below meth c T n0 cells slots h0) (hx : p.tables.exec = Jvm.exec) {pc pc' : Nat} {Ls : Array Slot} {S : List Value} {x y r : Int32} (hd : decode c.code pc = .ok (.iand, 1)) (hr : x &&& y = r) (hp : pc + 1 = pc')
    (h : Rt p e below s k n P (T.setTop (mkF m pc' Ls (.int r :: S)))) : Rt p e below s k n P (T.setTop (mkF m pc Ls (.int y :: .int x :: S))) := by
  subst hp hr; obtain ⟨_, X, _, _⟩ := X; exact Rt.go (fun _ => XS.iand X.here hx rfl hd rfl) h
theorem Rt.ior (X : Sd p l e R s m args below meth c T n0 cells slots h0) (hx : p.tables.exec = Jvm.exec) {pc pc' : Nat} {Ls : Array Slot} {S : List Value} {x y r : Int32} (hd : decode c.code pc = .ok (.ior, 1)) (hr : x ||| y = r) (hp : pc + 1 = pc')
    (h : Rt p e below s k n P (T.setTop (mkF m pc' Ls (.int r :: S)))) : Rt p e below s k n P (T.setTop (mkF m pc Ls (.int y :: .int x :: S))) := by
  subst hp hr; obtain ⟨_, X, _, _⟩ := X; exact Rt.go (fun _ => XS.ior X.here hx rfl hd rfl) h
theorem Rt.ixor (X : Sd p l e R s m args below meth c T n0 cells slots h0) (hx : p.tables.exec = Jvm.exec) {pc pc' : Nat} {Ls : Array Slot} {S : List Value} {x y r : Int32} (hd : decode c.code pc = .ok (.ixor, 1)) (hr : x ^^^ y = r) (hp : pc + 1 = pc')
    (h : Rt p e below s k n P (T.setTop (mkF m pc' Ls (.int r :: S)))) : Rt p e below s k n P (T.setTop (mkF m pc Ls (.int y :: .int x :: S))) := by
  subst hp hr; obtain ⟨_, X, _, _⟩ := X; exact Rt.go (fun _ => XS.ixor X.here hx rfl hd rfl) h
theorem Rt.ishl (X : Sd p l e R s m args below meth c T n0 cells slots h0) (hx : p.tables.exec = Jvm.exec) {pc pc' : Nat} {Ls : Array Slot} {S : List Value} {x y r : Int32} (hd : decode c.code pc = .ok (.ishl, 1)) (hr : x <<< (y &&& 31) = r) (hp : pc + 1 = pc')
    (h : Rt p e below s k n P (T.setTop (mkF m pc' Ls (.int r :: S)))) : Rt p e below s k n P (T.setTop (mkF m pc Ls (.int y :: .int x :: S))) := by
  subst hp hr; obtain ⟨_, X, _, _⟩ := X; exact Rt.go (fun _ => XS.ishl X.here hx rfl hd rfl) h
theorem Rt.ishr (X : Sd p l e R s m args below meth c T n0 cells slots h0) (hx : p.tables.exec = Jvm.exec) {pc pc' : Nat} {Ls : Array Slot} {S : List Value} {x y r : Int32} (hd : decode c.code pc = .ok (.ishr, 1)) (hr : x >>> (y &&& 31) = r) (hp : pc + 1 = pc')
    (h : Rt p e below s k n P (T.setTop (mkF m pc' Ls (.int r :: S)))) : Rt p e below s k n P (T.setTop (mkF m pc Ls (.int y :: .int x :: S))) := by
  subst hp hr; obtain ⟨_, X, _, _⟩ := X; exact Rt.go (fun _ => XS.ishr X.here hx rfl hd rfl) h
theorem Rt.iushr (X : Sd p l e R s m args below meth c T n0 cells slots h0) (hx : p.tables.exec = Jvm.exec) {pc pc' : Nat} {Ls : Array Slot} {S : List Value} {x y r : Int32} (hd : decode c.code pc = .ok (.iushr, 1)) (hr : (x.toUInt32 >>> (y &&& 31).toUInt32).toInt32 = r) (hp : pc + 1 = pc')
    (h : Rt p e below s k n P (T.setTop (mkF m pc' Ls (.int r :: S)))) : Rt p e below s k n P (T.setTop (mkF m pc Ls (.int y :: .int x :: S))) := by
  subst hp hr; obtain ⟨_, X, _, _⟩ := X; exact Rt.go (fun _ => XS.iushr X.here hx rfl hd rfl) h
theorem Rt.ladd (X : Sd p l e R s m args below meth c T n0 cells slots h0) (hx : p.tables.exec = Jvm.exec) {pc pc' : Nat} {Ls : Array Slot} {S : List Value} {x y r : Int64} (hd : decode c.code pc = .ok (.ladd, 1)) (hr : x + y = r) (hp : pc + 1 = pc')
    (h : Rt p e below s k n P (T.setTop (mkF m pc' Ls (.long r :: S)))) : Rt p e below s k n P (T.setTop (mkF m pc Ls (.long y :: .long x :: S))) := by
  subst hp hr; obtain ⟨_, X, _, _⟩ := X; exact Rt.go (fun _ => XS.ladd X.here hx rfl hd rfl) h
theorem Rt.lsub (X : Sd p l e R s m args below meth c T n0 cells slots h0) (hx : p.tables.exec = Jvm.exec) {pc pc' : Nat} {Ls : Array Slot} {S : List Value} {x y r : Int64} (hd : decode c.code pc = .ok (.lsub, 1)) (hr : x - y = r) (hp : pc + 1 = pc')
    (h : Rt p e below s k n P (T.setTop (mkF m pc' Ls (.long r :: S)))) : Rt p e below s k n P (T.setTop (mkF m pc Ls (.long y :: .long x :: S))) := by
  subst hp hr; obtain ⟨_, X, _, _⟩ := X; exact Rt.go (fun _ => XS.lsub X.here hx rfl hd rfl) h
theorem Rt.lmul (X : Sd p l e R s m args below meth c T n0 cells slots h0) (hx : p.tables.exec = Jvm.exec) {pc pc' : Nat} {Ls : Array Slot} {S : List Value} {x y r : Int64} (hd : decode c.code pc = .ok (.lmul, 1)) (hr : x * y = r) (hp : pc + 1 = pc')
    (h : Rt p e below s k n P (T.setTop (mkF m pc' Ls (.long r :: S)))) : Rt p e below s k n P (T.setTop (mkF m pc Ls (.long y :: .long x :: S))) := by
  subst hp hr; obtain ⟨_, X, _, _⟩ := X; exact Rt.go (fun _ => XS.lmul X.here hx rfl hd rfl) h
theorem Rt.land (X : Sd p l e R s m args below meth c T n0 cells slots h0) (hx : p.tables.exec = Jvm.exec) {pc pc' : Nat} {Ls : Array Slot} {S : List Value} {x y r : Int64} (hd : decode c.code pc = .ok (.land, 1)) (hr : x &&& y = r) (hp : pc + 1 = pc')
    (h : Rt p e below s k n P (T.setTop (mkF m pc' Ls (.long r :: S)))) : Rt p e below s k n P (T.setTop (mkF m pc Ls (.long y :: .long x :: S))) := by
  subst hp hr; obtain ⟨_, X, _, _⟩ := X; exact Rt.go (fun _ => XS.land X.here hx rfl hd rfl) h
theorem Rt.lor (X : Sd p l e R s m args below meth c T n0 cells slots h0) (hx : p.tables.exec = Jvm.exec) {pc pc' : Nat} {Ls : Array Slot} {S : List Value} {x y r : Int64} (hd : decode c.code pc = .ok (.lor, 1)) (hr : x ||| y = r) (hp : pc + 1 = pc')
    (h : Rt p e below s k n P (T.setTop (mkF m pc' Ls (.long r :: S)))) : Rt p e below s k n P (T.setTop (mkF m pc Ls (.long y :: .long x :: S))) := by
  subst hp hr; obtain ⟨_, X, _, _⟩ := X; exact Rt.go (fun _ => XS.lor X.here hx rfl hd rfl) h
theorem Rt.lxor (X : Sd p l e R s m args below meth c T n0 cells slots h0) (hx : p.tables.exec = Jvm.exec) {pc pc' : Nat} {Ls : Array Slot} {S : List Value} {x y r : Int64} (hd : decode c.code pc = .ok (.lxor, 1)) (hr : x ^^^ y = r) (hp : pc + 1 = pc')
    (h : Rt p e below s k n P (T.setTop (mkF m pc' Ls (.long r :: S)))) : Rt p e below s k n P (T.setTop (mkF m pc Ls (.long y :: .long x :: S))) := by
  subst hp hr; obtain ⟨_, X, _, _⟩ := X; exact Rt.go (fun _ => XS.lxor X.here hx rfl hd rfl) h
theorem Rt.lshl (X : Sd p l e R s m args below meth c T n0 cells slots h0) (hx : p.tables.exec = Jvm.exec) {pc pc' : Nat} {Ls : Array Slot} {S : List Value} {x r : Int64} {y : Int32} (hd : decode c.code pc = .ok (.lshl, 1)) (hr : x <<< (y &&& 0x3f).toInt64 = r) (hp : pc + 1 = pc')
    (h : Rt p e below s k n P (T.setTop (mkF m pc' Ls (.long r :: S)))) : Rt p e below s k n P (T.setTop (mkF m pc Ls (.int y :: .long x :: S))) := by
  subst hp hr; obtain ⟨_, X, _, _⟩ := X; exact Rt.go (fun _ => XS.lshl X.here hx rfl hd rfl) h
theorem Rt.lshr (X : Sd p l e R s m args below meth c T n0 cells slots h0) (hx : p.tables.exec = Jvm.exec) {pc pc' : Nat} {Ls : Array Slot} {S : List Value} {x r : Int64} {y : Int32} (hd : decode c.code pc = .ok (.lshr, 1)) (hr : x >>> (y &&& 0x3f).toInt64 = r) (hp : pc + 1 = pc')
    (h : Rt p e below s k n P (T.setTop (mkF m pc' Ls (.long r :: S)))) : Rt p e below s k n P (T.setTop (mkF m pc Ls (.int y :: .long x :: S))) := by
  subst hp hr; obtain ⟨_, X, _, _⟩ := X; exact Rt.go (fun _ => XS.lshr X.here hx rfl hd rfl) h
theorem Rt.lushr (X : Sd p l e R s m args below meth c T n0 cells slots h0) (hx : p.tables.exec = Jvm.exec) {pc pc' : Nat} {Ls : Array Slot} {S : List Value} {x r : Int64} {y : Int32} (hd : decode c.code pc = .ok (.lushr, 1)) (hr : (x.toUInt64 >>> (y &&& 0x3f).toInt64.toUInt64).toInt64 = r) (hp : pc + 1 = pc')
    (h : Rt p e below s k n P (T.setTop (mkF m pc' Ls (.long r :: S)))) : Rt p e below s k n P (T.setTop (mkF m pc Ls (.int y :: .long x :: S))) := by
  subst hp hr; obtain ⟨_, X, _, _⟩ := X; exact Rt.go (fun _ => XS.lushr X.here hx rfl hd rfl) h
theorem Rt.idiv (X : Sd p l e R s m args below meth c T n0 cells slots h0) (hx : p.tables.exec = Jvm.exec) {pc pc' : Nat} {Ls : Array Slot} {S : List Value} {x y r : Int32} (hd : decode c.code pc = .ok (.idiv, 1)) (hy : y ≠ 0) (hr : x / y = r) (hp : pc + 1 = pc')
    (h : Rt p e below s k n P (T.setTop (mkF m pc' Ls (.int r :: S)))) : Rt p e below s k n P (T.setTop (mkF m pc Ls (.int y :: .int x :: S))) := by
  subst hp hr; obtain ⟨_, X, _, _⟩ := X; exact Rt.go (fun _ => XS.idiv X.here hx rfl hd rfl hy) h
theorem Rt.irem (X : Sd p l e R s m args below meth c T n0 cells slots h0) (hx : p.tables.exec = Jvm.exec) {pc pc' : Nat} {Ls : Array Slot} {S : List Value} {x y r : Int32} (hd : decode c.code pc = .ok (.irem, 1)) (hy : y ≠ 0) (hr : x % y = r) (hp : pc + 1 = pc')
    (h : Rt p e below s k n P (T.setTop (mkF m pc' Ls (.int r :: S)))) : Rt p e below s k n P (T.setTop (mkF m pc Ls (.int y :: .int x :: S))) := by
  subst hp hr; obtain ⟨_, X, _, _⟩ := X; exact Rt.go (fun _ => iremM X hx rfl hd rfl hy) h
theorem Rt.ldiv (X : Sd p l e R s m args below meth c T n0 cells slots h0) (hx : p.tables.exec = Jvm.exec) {pc pc' : Nat} {Ls : Array Slot} {S : List Value} {x y r : Int64} (hd : decode c.code pc = .ok (.ldiv, 1)) (hy : y ≠ 0) (hr : x / y = r) (hp : pc + 1 = pc')
    (h : Rt p e below s k n P (T.setTop (mkF m pc' Ls (.long r :: S)))) : Rt p e below s k n P (T.setTop (mkF m pc Ls (.long y :: .long x :: S))) := by
  subst hp hr; obtain ⟨_, X, _, _⟩ := X; exact Rt.go (fun _ => XS.ldiv X.here hx rfl hd rfl hy) h
theorem Rt.lrem (X : Sd p l e R s m args below meth c T n0 cells slots h0) (hx : p.tables.exec = Jvm.exec) {pc pc' : Nat} {Ls : Array Slot} {S : List Value} {x y r : Int64} (hd : decode c.code pc = .ok (.lrem, 1)) (hy : y ≠ 0) (hr : x - (x / y) * y = r) (hp : pc + 1 = pc')
    (h : Rt p e below s k n P (T.setTop (mkF m pc' Ls (.long r :: S)))) : Rt p e below s k n P (T.setTop (mkF m pc Ls (.long y :: .long x :: S))) := by
  subst hp hr; obtain ⟨_, X, _, _⟩ := X; exact Rt.go (fun _ => XS.lrem X.here hx rfl hd rfl hy) h
theorem Rt.ineg (X : Sd p l e R s m args below meth c T n0 cells slots h0) (hx : p.tables.exec = Jvm.exec) {pc pc' : Nat} {Ls : Array Slot} {S : List Value} {v : Int32} {r : Int32} (hd : decode c.code pc = .ok (.ineg, 1)) (hr : -v = r) (hp : pc + 1 = pc')
    (h : Rt p e below s k n P (T.setTop (mkF m pc' Ls (.int r :: S)))) : Rt p e below s k n P (T.setTop (mkF m pc Ls (.int v :: S))) := by
  subst hp hr; obtain ⟨_, X, _, _⟩ := X; exact Rt.go (fun _ => XS.ineg X.here hx rfl hd rfl) h
theorem Rt.lneg (X : Sd p l e R s m args below meth c T n0 cells slots h0) (hx : p.tables.exec = Jvm.exec) {pc pc' : Nat} {Ls : Array Slot} {S : List Value} {v : Int64} {r : Int64} (hd : decode c.code pc = .ok (.lneg, 1)) (hr : -v = r) (hp : pc + 1 = pc')
    (h : Rt p e below s k n P (T.setTop (mkF m pc' Ls (.long r :: S)))) : Rt p e below s k n P (T.setTop (mkF m pc Ls (.long v :: S))) := by
  subst hp hr; obtain ⟨_, X, _, _⟩ := X; exact Rt.go (fun _ => XS.lneg X.here hx rfl hd rfl) h
theorem Rt.i2l (X : Sd p l e R s m args below meth c T n0 cells slots h0) (hx : p.tables.exec = Jvm.exec) {pc pc' : Nat} {Ls : Array Slot} {S : List Value} {v : Int32} {r : Int64} (hd : decode c.code pc = .ok (.i2l, 1)) (hr : v.toInt64 = r) (hp : pc + 1 = pc')
    (h : Rt p e below s k n P (T.setTop (mkF m pc' Ls (.long r :: S)))) : Rt p e below s k n P (T.setTop (mkF m pc Ls (.int v :: S))) := by
  subst hp hr; obtain ⟨_, X, _, _⟩ := X; exact Rt.go (fun _ => XS.i2l X.here hx rfl hd rfl) h
theorem Rt.l2i (X : Sd p l e R s m args below meth c T n0 cells slots h0) (hx : p.tables.exec = Jvm.exec) {pc pc' : Nat} {Ls : Array Slot} {S : List Value} {v : Int64} {r : Int32} (hd : decode c.code pc = .ok (.l2i, 1)) (hr : v.toInt32 = r) (hp : pc + 1 = pc')
    (h : Rt p e below s k n P (T.setTop (mkF m pc' Ls (.int r :: S)))) : Rt p e below s k n P (T.setTop (mkF m pc Ls (.long v :: S))) := by
  subst hp hr; obtain ⟨_, X, _, _⟩ := X; exact Rt.go (fun _ => XS.l2i X.here hx rfl hd rfl) h
theorem Rt.i2b (X : Sd p l e R s m args below meth c T n0 cells slots h0) (hx : p.tables.exec = Jvm.exec) {pc pc' : Nat} {Ls : Array Slot} {S : List Value} {v : Int32} {r : Int32} (hd : decode c.code pc = .ok (.i2b, 1)) (hr : v.toInt8.toInt32 = r) (hp : pc + 1 = pc')
    (h : Rt p e below s k n P (T.setTop (mkF m pc' Ls (.int r :: S)))) : Rt p e below s k n P (T.setTop (mkF m pc Ls (.int v :: S))) := by
  subst hp hr; obtain ⟨_, X, _, _⟩ := X; exact Rt.go (fun _ => XS.i2b X.here hx rfl hd rfl) h
theorem Rt.i2s (X : Sd p l e R s m args below meth c T n0 cells slots h0) (hx : p.tables.exec = Jvm.exec) {pc pc' : Nat} {Ls : Array Slot} {S : List Value} {v : Int32} {r : Int32} (hd : decode c.code pc = .ok (.i2s, 1)) (hr : v.toInt16.toInt32 = r) (hp : pc + 1 = pc')
    (h : Rt p e below s k n P (T.setTop (mkF m pc' Ls (.int r :: S)))) : Rt p e below s k n P (T.setTop (mkF m pc Ls (.int v :: S))) := by
  subst hp hr; obtain ⟨_, X, _, _⟩ := X; exact Rt.go (fun _ => XS.i2s X.here hx rfl hd rfl) h
theorem Rt.i2c (X : Sd p l e R s m args below meth c T n0 cells slots h0) (hx : p.tables.exec = Jvm.exec) {pc pc' : Nat} {Ls : Array Slot} {S : List Value} {v : Int32} {r : Int32} (hd : decode c.code pc = .ok (.i2c, 1)) (hr : v.toUInt32.toUInt16.toUInt32.toInt32 = r) (hp : pc + 1 = pc')
    (h : Rt p e below s k n P (T.setTop (mkF m pc' Ls (.int r :: S)))) : Rt p e below s k n P (T.setTop (mkF m pc Ls (.int v :: S))) := by
  subst hp hr; obtain ⟨_, X, _, _⟩ := X; exact Rt.go (fun _ => XS.i2c X.here hx rfl hd rfl) h
theorem Rt.lcmp (X : Sd p l e R s m args below meth c T n0 cells slots h0) (hx : p.tables.exec = Jvm.exec) {pc pc' : Nat} {Ls : Array Slot} {S : List Value} {x y : Int64} (hd : decode c.code pc = .ok (.lcmp, 1)) (hp : pc + 1 = pc')
    (h : Rt p e below s k n P (T.setTop (mkF m pc' Ls (.int (lcmpW x y) :: S)))) : Rt p e below s k n P (T.setTop (mkF m pc Ls (.long y :: .long x :: S))) := by
  subst hp; obtain ⟨_, X, _, _⟩ := X; exact Rt.go (fun _ => XS.lcmp X.here hx rfl hd rfl) h
theorem Rt.iinc (X : Sd p l e R s m args below meth c T n0 cells slots h0) (hx : p.tables.exec = Jvm.exec) {pc pc' : Nat} {Ls : Array Slot} {S : List Value} {j : Nat} {cst : Int} {x r : Int32} {l' : Array Slot} (hd : decode c.code pc = .ok (.iinc j cst, 3)) (hl : Ls[j]? = some (.val (.int x))) (hr : x + Int32.ofInt cst = r) (hl' : storeLocals Ls j (.int r) = some l') (hp : pc + 3 = pc')
    (h : Rt p e below s k n P (T.setTop (mkF m pc' l' S))) : Rt p e below s k n P (T.setTop (mkF m pc Ls S)) := by
  subst hp hr; obtain ⟨_, X, _, _⟩ := X; exact Rt.go (fun _ => XS.iinc X.here hx rfl hd hl hl') h
theorem Rt.dup (X : Sd p l e R s m args below meth c T n0 cells slots h0) (hx : p.tables.exec = Jvm.exec) {pc pc' : Nat} {Ls : Array Slot} {S : List Value} {x : Value} (hd : decode c.code pc = .ok (.dup, 1)) (hc : x.category = 1) (hp : pc + 1 = pc')
    (h : Rt p e below s k n P (T.setTop (mkF m pc' Ls (x :: x :: S)))) : Rt p e below s k n P (T.setTop (mkF m pc Ls (x :: S))) := by
  subst hp; obtain ⟨_, X, _, _⟩ := X; exact Rt.go (fun _ => XS.dup X.here hx rfl hd rfl hc) h
theorem Rt.pop (X : Sd p l e R s m args below meth c T n0 cells slots h0) (hx : p.tables.exec = Jvm.exec) {pc pc' : Nat} {Ls : Array Slot} {S : List Value} {x : Value} (hd : decode c.code pc = .ok (.pop, 1)) (hc : x.category = 1) (hp : pc + 1 = pc')
    (h : Rt p e below s k n P (T.setTop (mkF m pc' Ls (S)))) : Rt p e below s k n P (T.setTop (mkF m pc Ls (x :: S))) := by
  subst hp; obtain ⟨_, X, _, _⟩ := X; exact Rt.go (fun _ => XS.pop X.here hx rfl hd rfl hc) h
theorem Rt.dup2 (X : Sd p l e R s m args below meth c T n0 cells slots h0) (hx : p.tables.exec = Jvm.exec) {pc pc' : Nat} {Ls : Array Slot} {S : List Value} {x y : Value} (hd : decode c.code pc = .ok (.dup2, 1)) (hc : x.category = 1) (hc2 : y.category = 1) (hp : pc + 1 = pc')
    (h : Rt p e below s k n P (T.setTop (mkF m pc' Ls (x :: y :: x :: y :: S)))) : Rt p e below s k n P (T.setTop (mkF m pc Ls (x :: y :: S))) := by
  subst hp; obtain ⟨_, X, _, _⟩ := X; exact Rt.go (fun _ => XT.dup2 X.here hx rfl hd rfl hc hc2) h
theorem Rt.dupX1 (X : Sd p l e R s m args below meth c T n0 cells slots h0) (hx : p.tables.exec = Jvm.exec) {pc pc' : Nat} {Ls : Array Slot} {S : List Value} {x y : Value} (hd : decode c.code pc = .ok (.dup_x1, 1)) (hc : x.category = 1) (hc2 : y.category = 1) (hp : pc + 1 = pc')
    (h : Rt p e below s k n P (T.setTop (mkF m pc' Ls (x :: y :: x :: S)))) : Rt p e below s k n P (T.setTop (mkF m pc Ls (x :: y :: S))) := by
  subst hp; obtain ⟨_, X, _, _⟩ := X; exact Rt.go (fun _ => XS.dupX1 X.here hx rfl hd rfl hc hc2) h
theorem Rt.goto (X : Sd p l e R s m args below meth c T n0 cells slots h0) (hx : p.tables.exec = Jvm.exec) {pc pc' : Nat} {Ls : Array Slot} {S : List Value} {o : Int} (hd : decode c.code pc = .ok (.goto o, 3)) (ho : 0 ≤ (pc : Int) + o) (hp : ((pc : Int) + o).toNat = pc')
    (h : Rt p e below s k n P (T.setTop (mkF m pc' Ls S))) : Rt p e below s k n P (T.setTop (mkF m pc Ls S)) := by
  obtain ⟨_, X, _, _⟩ := X; exact Rt.go (fun _ => XS.goto X.here hx rfl (pc0 := pc) rfl hd ho hp) h
theorem Rt.ifY (X : Sd p l e R s m args below meth c T n0 cells slots h0) (hx : p.tables.exec = Jvm.exec) {pc pc' : Nat} {Ls : Array Slot} {S : List Value} {o : Int} {cd : ClassFile.Cond} {x : Int32} (hd : decode c.code pc = .ok (.ifCond cd o, 3)) (hc : ifCond.holds cd x = true) (ho : 0 ≤ (pc : Int) + o) (hp : ((pc : Int) + o).toNat = pc')
    (h : Rt p e below s k n P (T.setTop (mkF m pc' Ls S))) : Rt p e below s k n P (T.setTop (mkF m pc Ls (.int x :: S))) := by
  obtain ⟨_, X, _, _⟩ := X; exact Rt.go (fun _ => XS.ifYes X.here hx rfl (pc0 := pc) rfl hd rfl hc ho hp) h
theorem Rt.ifN (X : Sd p l e R s m args below meth c T n0 cells slots h0) (hx : p.tables.exec = Jvm.exec) {pc pc' : Nat} {Ls : Array Slot} {S : List Value} {o : Int} {cd : ClassFile.Cond} {x : Int32} (hd : decode c.code pc = .ok (.ifCond cd o, 3)) (hc : ifCond.holds cd x = false) (hp : pc + 3 = pc')
    (h : Rt p e below s k n P (T.setTop (mkF m pc' Ls S))) : Rt p e below s k n P (T.setTop (mkF m pc Ls (.int x :: S))) := by
  subst hp; obtain ⟨_, X, _, _⟩ := X; exact Rt.go (fun _ => XS.ifNo X.here hx rfl hd rfl hc) h
theorem Rt.icmpY (X : Sd p l e R s m args below meth c T n0 cells slots h0) (hx : p.tables.exec = Jvm.exec) {pc pc' : Nat} {Ls : Array Slot} {S : List Value} {o : Int} {cd : ClassFile.Cond} {x y : Int32} (hd : decode c.code pc = .ok (.if_icmp cd o, 3)) (hc : if_icmp.holds cd x y = true) (ho : 0 ≤ (pc : Int) + o) (hp : ((pc : Int) + o).toNat = pc')
    (h : Rt p e below s k n P (T.setTop (mkF m pc' Ls S))) : Rt p e below s k n P (T.setTop (mkF m pc Ls (.int y :: .int x :: S))) := by
  obtain ⟨_, X, _, _⟩ := X; exact Rt.go (fun _ => XS.icmpYes X.here hx rfl (pc0 := pc) rfl hd rfl hc ho hp) h
theorem Rt.icmpN (X : Sd p l e R s m args below meth c T n0 cells slots h0) (hx : p.tables.exec = Jvm.exec) {pc pc' : Nat} {Ls : Array Slot} {S : List Value} {o : Int} {cd : ClassFile.Cond} {x y : Int32} (hd : decode c.code pc = .ok (.if_icmp cd o, 3)) (hc : if_icmp.holds cd x y = false) (hp : pc + 3 = pc')
    (h : Rt p e below s k n P (T.setTop (mkF m pc' Ls S))) : Rt p e below s k n P (T.setTop (mkF m pc Ls (.int y :: .int x :: S))) := by
  subst hp; obtain ⟨_, X, _, _⟩ := X; exact Rt.go (fun _ => XS.icmpNo X.here hx rfl hd rfl hc) h
theorem Rt.ifnullY (X : Sd p l e R s m args below meth c T n0 cells slots h0) (hx : p.tables.exec = Jvm.exec) {pc pc' : Nat} {Ls : Array Slot} {S : List Value} {o : Int} (hd : decode c.code pc = .ok (.ifnull o, 3)) (ho : 0 ≤ (pc : Int) + o) (hp : ((pc : Int) + o).toNat = pc')
    (h : Rt p e below s k n P (T.setTop (mkF m pc' Ls S))) : Rt p e below s k n P (T.setTop (mkF m pc Ls (.null :: S))) := by
  obtain ⟨_, X, _, _⟩ := X; exact Rt.go (fun _ => XS.ifnullYes X.here hx rfl (pc0 := pc) rfl hd rfl ho hp) h
theorem Rt.ifnullN (X : Sd p l e R s m args below meth c T n0 cells slots h0) (hx : p.tables.exec = Jvm.exec) {pc pc' : Nat} {Ls : Array Slot} {S : List Value} {o : Int} {b : Addr} (hd : decode c.code pc = .ok (.ifnull o, 3)) (hp : pc + 3 = pc')
    (h : Rt p e below s k n P (T.setTop (mkF m pc' Ls S))) : Rt p e below s k n P (T.setTop (mkF m pc Ls (.ref b :: S))) := by
  subst hp; obtain ⟨_, X, _, _⟩ := X; exact Rt.go (fun _ => XS.ifnullNo X.here hx rfl hd rfl) h
theorem Rt.ifnonnullY (X : Sd p l e R s m args below meth c T n0 cells slots h0) (hx : p.tables.exec = Jvm.exec) {pc pc' : Nat} {Ls : Array Slot} {S : List Value} {o : Int} {b : Addr} (hd : decode c.code pc = .ok (.ifnonnull o, 3)) (ho : 0 ≤ (pc : Int) + o) (hp : ((pc : Int) + o).toNat = pc')
    (h : Rt p e below s k n P (T.setTop (mkF m pc' Ls S))) : Rt p e below s k n P (T.setTop (mkF m pc Ls (.ref b :: S))) := by
  obtain ⟨_, X, _, _⟩ := X; exact Rt.go (fun _ => XS.ifnonnullYes X.here hx rfl (pc0 := pc) rfl hd rfl ho hp) h
theorem Rt.ifnonnullN (X : Sd p l e R s m args below meth c T n0 cells slots h0) (hx : p.tables.exec = Jvm.exec) {pc pc' : Nat} {Ls : Array Slot} {S : List Value} {o : Int} (hd : decode c.code pc = .ok (.ifnonnull o, 3)) (hp : pc + 3 = pc')
    (h : Rt p e below s k n P (T.setTop (mkF m pc' Ls S))) : Rt p e below s k n P (T.setTop (mkF m pc Ls (.null :: S))) := by
  subst hp; obtain ⟨_, X, _, _⟩ := X; exact Rt.go (fun _ => XS.ifnonnullNo X.here hx rfl hd rfl) h
theorem Rt.acmp (X : Sd p l e R s m args below meth c T n0 cells slots h0) (hx : p.tables.exec = Jvm.exec) {pc pc' : Nat} {Ls : Array Slot} {S : List Value} {o : Int} {cd : ACond} {x y : Value} {same : Bool} (h1 : x.isRef = true) (h2 : y.isRef = true) (hd : decode c.code pc = .ok (.if_acmp cd o, 3)) (hq : decide (x = y) = same) (ho : 0 ≤ (pc : Int) + o) (hp : pc' = if acV cd same = true then ((pc : Int) + o).toNat else pc + 3)
    (h : Rt p e below s k n P (T.setTop (mkF m pc' Ls S))) : Rt p e below s k n P (T.setTop (mkF m pc Ls (y :: x :: S))) := by
  obtain ⟨_, X, _, _⟩ := X; exact Rt.go (fun _ => Jvm.RoadKit.acmp X hx rfl h1 h2 (pc0 := pc) rfl hd rfl hq ho hp) h
theorem Rt.retZ (X : Sd p l e R s m args below meth c T n0 cells slots h0) (hx : p.tables.exec = Jvm.exec) (hlk : meth.locks = false) {t : FieldType} (hret : meth.sig.returnType = some t) (ht : t = .boolean ∨ t = .byte ∨ t = .char ∨ t = .short) {pc : Nat} {Ls : Array Slot} {S : List Value} {z w : Int32} (hd : decode c.code pc = .ok (.ireturn, 1)) (hw : nar t z = w) (hk : cells ≤ k) (hn : slots ≤ n)
    (hP : ∀ L, Fr n0 L → P (some (.int w)) h0 L) : Rt p e below s k n P (T.setTop (mkF m pc Ls (.int z :: S))) := by
  subst hw; obtain ⟨locs, X, N, eh⟩ := X
  obtain ⟨fs, hr, hrun, hended, hW, hsame⟩ := X.leave (v := some (.int (nar t z))) (fun h => by rw [hret] at h; cases h) hlk
  exact ⟨_, _, retN X hx hret ht hd hr, hrun, hended, _, _, rfl, by show P _ T.heap _; rw [eh]; exact hP _ N, ⟨_, rfl⟩, hW, hsame.mono hk hn⟩
theorem Rt.retI (X : Sd p l e R s m args below meth c T n0 cells slots h0) (hx : p.tables.exec = Jvm.exec) (hlk : meth.locks = false) (hret : meth.sig.returnType = some .int) {pc : Nat} {Ls : Array Slot} {S : List Value} {z : Int32} (hd : decode c.code pc = .ok (.ireturn, 1)) (hk : cells ≤ k) (hn : slots ≤ n)
    (hP : ∀ L, Fr n0 L → P (some (.int z)) h0 L) : Rt p e below s k n P (T.setTop (mkF m pc Ls (.int z :: S))) := by
  obtain ⟨locs, X, N, eh⟩ := X
  obtain ⟨fs, hr, hrun, hended, hW, hsame⟩ := X.leave (v := some (.int z)) (fun h => by rw [hret] at h; cases h) hlk
  exact ⟨_, _, Jvm.RoadKit.retI X hx hret hd hr, hrun, hended, _, _, rfl, by show P _ T.heap _; rw [eh]; exact hP _ N, ⟨_, rfl⟩, hW, hsame.mono hk hn⟩
theorem Rt.retJ (X : Sd p l e R s m args below meth c T n0 cells slots h0) (hx : p.tables.exec = Jvm.exec) (hlk : meth.locks = false) (hret : meth.sig.returnType = some .long) {pc : Nat} {Ls : Array Slot} {z : Int64} (hd : decode c.code pc = .ok (.lreturn, 1)) (hk : cells ≤ k) (hn : slots ≤ n)
    (hP : ∀ L, Fr n0 L → P (some (.long z)) h0 L) : Rt p e below s k n P (T.setTop (mkF m pc Ls [.long z])) := by
  obtain ⟨locs, X, N, eh⟩ := X
  obtain ⟨fs, hr, hrun, hended, hW, hsame⟩ := X.leave (v := some (.long z)) (fun h => by rw [hret] at h; cases h) hlk
  exact ⟨_, _, X.lreturnOut hx hret hd hr, hrun, hended, _, _, rfl, by show P _ T.heap _; rw [eh]; exact hP _ N, ⟨_, rfl⟩, hW, hsame.mono hk hn⟩
theorem Rt.retA (X : Sd p l e R s m args below meth c T n0 cells slots h0) (hx : p.tables.exec = Jvm.exec) (hlk : meth.locks = false) {t : FieldType} (ht : t.isReference = true) (hret : meth.sig.returnType = some t) {pc : Nat} {Ls : Array Slot} {v : Value} (hv : v.isRef = true) (hd : decode c.code pc = .ok (.areturn, 1)) (hk : cells ≤ k) (hn : slots ≤ n)
    (hP : ∀ L, Fr n0 L → P (some v) h0 L) : Rt p e below s k n P (T.setTop (mkF m pc Ls [v])) := by
  obtain ⟨locs, X, N, eh⟩ := X
  obtain ⟨fs, hr, hrun, hended, hW, hsame⟩ := X.leave (v := some v) (fun h => by rw [hret] at h; cases h) hlk
  exact ⟨_, _, Jvm.RoadKit.retA X hx ht hv hret hd hr, hrun, hended, _, _, rfl, by show P _ T.heap _; rw [eh]; exact hP _ N, ⟨_, rfl⟩, hW, hsame.mono hk hn⟩
theorem Rt.retV (X : Sd p l e R s m args below meth c T n0 cells slots h0) (hx : p.tables.exec = Jvm.exec) (hlk : meth.locks = false) (hret : meth.sig.returnType = none) {pc : Nat} {Ls : Array Slot}  (hd : decode c.code pc = .ok (.return_, 1)) (hk : cells ≤ k) (hn : slots ≤ n)
    (hP : ∀ L, Fr n0 L → P none h0 L) : Rt p e below s k n P (T.setTop (mkF m pc Ls [])) := by
  obtain ⟨locs, X, N, eh⟩ := X
  obtain ⟨fs, hr, hrun, hended, hW, hsame⟩ := X.leave (v := none) (fun _ => rfl) hlk
  exact ⟨_, _, X.returnOut hx hret hd hr, hrun, hended, _, _, rfl, by show P _ T.heap _; rw [eh]; exact hP _ N, ⟨_, rfl⟩, hW, hsame.mono hk hn⟩
theorem Rt.ldcInt (X : Sd p l e R s m args below meth c T n0 cells slots h0) (hx : p.tables.exec = Jvm.exec) {Z : State} {a0 : Array Value} (hZ : Z.Warmed39 s.vm) {own : String} {index : Nat} {v : Int32} (hown : s.vm.findClass own = some m.cls) (w : (Cond.constant own index v).before a0 Z = true) {pc pc' : Nat} {Ls : Array Slot} {S : List Value} (hd : decode c.code pc = .ok (.ldc index, 2)) (hp : pc + 2 = pc')
    (h : Rt p e below s k n P (T.setTop (mkF m pc' Ls (.int v :: S)))) : Rt p e below s k n P (T.setTop (mkF m pc Ls S)) := by
  subst hp; obtain ⟨_, X, _, _⟩ := X; exact Rt.go (X.ldcInt hx hown (mvT hZ w) (g := mkF m pc Ls S) rfl hd) h
theorem Rt.ldcwInt (X : Sd p l e R s m args below meth c T n0 cells slots h0) (hx : p.tables.exec = Jvm.exec) {Z : State} {a0 : Array Value} (hZ : Z.Warmed39 s.vm) {own : String} {index : Nat} {v : Int32} (hown : s.vm.findClass own = some m.cls) (w : (Cond.constant own index v).before a0 Z = true) {pc pc' : Nat} {Ls : Array Slot} {S : List Value} (hd : decode c.code pc = .ok (.ldc_w index, 3)) (hp : pc + 3 = pc')
    (h : Rt p e below s k n P (T.setTop (mkF m pc' Ls (.int v :: S)))) : Rt p e below s k n P (T.setTop (mkF m pc Ls S)) := by
  subst hp; obtain ⟨_, X, _, _⟩ := X; exact Rt.go (X.ldcwInt hx hown (mvT hZ w) (g := mkF m pc Ls S) rfl hd) h
theorem Rt.ldc2Long (X : Sd p l e R s m args below meth c T n0 cells slots h0) (hx : p.tables.exec = Jvm.exec) {Z : State} {a0 : Array Value} (hZ : Z.Warmed39 s.vm) {own : String} {index : Nat} {v : Int64} (hown : s.vm.findClass own = some m.cls) (w : (Cond.constantLong own index v).before a0 Z = true) {pc pc' : Nat} {Ls : Array Slot} {S : List Value} (hd : decode c.code pc = .ok (.ldc2_w index, 3)) (hp : pc + 3 = pc')
    (h : Rt p e below s k n P (T.setTop (mkF m pc' Ls (.long v :: S)))) : Rt p e below s k n P (T.setTop (mkF m pc Ls S)) := by
  subst hp; obtain ⟨_, X, _, _⟩ := X; exact Rt.go (X.ldc2Long hx hown (mvT hZ w) (g := mkF m pc Ls S) rfl hd) h
theorem ltl {x y : Int64} (h : x < y) : ifCond.holds .lt (lcmpW x y) = true ∧ ifCond.holds .ge (lcmpW x y) = false := ⟨(if0 _ _).trans (tlt ((lw_lt x y).mpr h)).1, (if0 _ _).trans (tlt ((lw_lt x y).mpr h)).2.1⟩
theorem lfl {x y : Int64} (h : ¬ x < y) : ifCond.holds .lt (lcmpW x y) = false ∧ ifCond.holds .ge (lcmpW x y) = true := ⟨(if0 _ _).trans (flt (fun q => h ((lw_lt x y).mp q))).1, (if0 _ _).trans (flt (fun q => h ((lw_lt x y).mp q))).2.1⟩
theorem gtl {x y : Int64} (h : y < x) : ifCond.holds .gt (lcmpW x y) = true ∧ ifCond.holds .le (lcmpW x y) = false := ⟨(if0 _ _).trans (tlt ((lw_gt x y).mpr h)).2.2.1, (if0 _ _).trans (tlt ((lw_gt x y).mpr h)).2.2.2⟩
theorem gfl {x y : Int64} (h : ¬ y < x) : ifCond.holds .gt (lcmpW x y) = false ∧ ifCond.holds .le (lcmpW x y) = true := ⟨(if0 _ _).trans (flt (fun q => h ((lw_gt x y).mp q))).2.2.1, (if0 _ _).trans (flt (fun q => h ((lw_gt x y).mp q))).2.2.2⟩
theorem etl {x y : Int64} (h : x = y) : ifCond.holds .eq (lcmpW x y) = true ∧ ifCond.holds .ne (lcmpW x y) = false := ⟨(if0 _ _).trans (teq ((lw_eq x y).mpr h)).1, (if0 _ _).trans (teq ((lw_eq x y).mpr h)).2⟩
theorem efl {x y : Int64} (h : ¬ x = y) : ifCond.holds .eq (lcmpW x y) = false ∧ ifCond.holds .ne (lcmpW x y) = true := ⟨(if0 _ _).trans (feq (fun q => h ((lw_eq x y).mp q))).1, (if0 _ _).trans (feq (fun q => h ((lw_eq x y).mp q))).2⟩
/-- what a method leaves: its contract's form -/
abbrev Mt (l : Launch) (Z : State) (y : MethodName) (ws : List Jvm.Cond) (rm : Room) (as' : Array Value) (h : Heap) (Q : Option Value → Heap → List Loc → Prop) : Prop :=
  MetFree l y (head1 ws rm) (fun a U => a = as' ∧ Z.Warmed39 U.vm ∧ U.heap = h) (fun _ _ _ _ _ => True) (fun _ U o U' => ∃ v L, o = .returned v ∧ Q v U'.heap L ∧ FrameEnd U o U' L rm.cells rm.slots)
/-- from a body's walk to its contract -/
theorem Mt.of {Z : State} {y : MethodName} {bytes : ByteArray} {maxL : Nat} {ret : Option FieldType} {ws : List Jvm.Cond} {rm : Room} {as' : Array Value} {h : Heap} {Q : Option Value → Heap → List Loc → Prop} (n0 : Nat) (hpl : plainFor y = true)
    (body : ∀ (p : Program) (e : Env) (s : State) (m : MethodId) (below : List Frame) (meth : Method) (c : Code) (T : State), Sd p l e rm s m as' below meth c T n0 0 0 h → p.tables.exec = Jvm.exec → Z.Warmed39 s.vm → c.code = bytes → c.maxLocals = maxL → s.vm.findClass y.cls = some m.cls → meth.sig.returnType = ret → meth.locks = false → meth.name = y.name → s.heap = h →
      Rt p e below s rm.cells rm.slots Q (T.setTop (entryFrame m as' maxL))) : Mt l Z y (Jvm.Cond.code y bytes maxL ret :: ws) rm as' h Q := by
  refine MetFree.of_bodySF hpl hisR ?_
  intro p e s m args below meth c s₁ Bd hml0 hP hK
  obtain ⟨rfl, hZ, hh⟩ := hP
  have e0 : s₁.heap = h := by rw [← hh, Bd.state]; rfl
  obtain ⟨s₂, o, h1, h2, h3, v, L, h4, h5, h6⟩ := body p e s m below meth c s₁ ⟨[], Stand.of_body Bd, Fr.nil n0, e0⟩ Bd.exec hZ Bd.bytes hml0 (findClass_of_methodNamed Bd.named) Bd.returns (BodyLoose.notSynchronized Bd) (name_of_methodNamed Bd.named Bd.method).1 hh
  exact ⟨s₂, o, h1, h2, h3, v, L, h4, h5, h6⟩
theorem Rt.callS (X : Sd p l e R s m args below meth c T n0 cells slots h0) (hx : p.tables.exec = Jvm.exec) {Z : State} {a0 : Array Value} (hZ : Z.Warmed39 s.vm) {own : String} {index : Nat} {y : MethodName} {bytes : ByteArray} {maxL W : Nat} {ret : Option FieldType} {rm : Room} {as' : Array Value} {Q : Option Value → Heap → List Loc → Prop}
    (hown : s.vm.findClass own = some m.cls) (w1 : (Cond.methodLink own index y).before a0 Z = true) (w2 : (Cond.static y).before a0 Z = true) (w3 : (Cond.initialized y.cls).before a0 Z = true) (w4 : (Cond.code y bytes maxL ret).before a0 Z = true) (hy : y.cls ≠ "java/lang/invoke/MethodHandle" ∧ y.cls ≠ "java/lang/invoke/VarHandle")
    (hM : Mt l Z y [Cond.code y bytes maxL ret] rm as' h0 Q) (hF : ∀ v h L, Q v h L → Fr n0 L) (hf : rm.frames + 1 ≤ R.frames) (hl : W + (maxL + 11) + rm.locals ≤ R.locals) (hc : cells + rm.cells ≤ R.cells) (hs : slots + rm.slots ≤ R.slots)
    {pc pc' : Nat} {Ls : Array Slot} {S argsL rest : List Value} (hsize : Ls.size = c.maxLocals) (hlen : ∀ sig, parseMethodDescriptor y.desc = some sig → argsL.length = sig.parameters.length) (hst : S = argsL.reverse ++ rest) (has : argsL.toArray = as') (hW : (rest.map fun v => v.category).sum ≤ W) (hd : decode c.code pc = .ok (.invokestatic index, 3)) (hp : pc + 3 = pc')
    (hh : ∀ v T' h' L, Sd p l e R s m args below meth c T' n0 (cells + rm.cells) (slots + rm.slots) h' → Q v h' L → Rt p e below s k n P (T'.setTop (mkF m pc' Ls (v.toList ++ rest)))) : Rt p e below s k n P (T.setTop (mkF m pc Ls S)) := by
  subst hp has
  obtain ⟨locs, X, N, eT⟩ := X
  obtain ⟨v, _, ⟨T', L', k', n'⟩, -, X', ⟨Lc, hQ, l', y', z'⟩, st⟩ := Jvm.LawKit.callS X hx (y := y) hown (mvT hZ w1) (mvT hZ w2) (mvT hZ w3) (mvT hZ w4) hy (backOf (W := W) hM hZ w4 w3 hf hl) (g := mkF m pc Ls S) rfl hsize (argsL := argsL) (rest := rest) hlen hst (by show 2 * 0 + _ ≤ _; omega) hd (fun _ _ => ⟨rfl, eT, hc, hs⟩)
  dsimp only [Pt.U, Pt.locs, Pt.cells, Pt.slots] at X' l' y' z' st hQ
  subst l' y' z'
  exact Rt.go st (hh v T' _ Lc ⟨_, X', Fr.app N (hF _ _ _ hQ), rfl⟩ hQ)
/-- a static method that writes nothing -/
theorem Rt.callP (X : Sd p l e R s m args below meth c T n0 cells slots h0) (hx : p.tables.exec = Jvm.exec) {Z : State} {a0 : Array Value} (hZ : Z.Warmed39 s.vm) {own : String} {index : Nat} {y : MethodName} {bytes : ByteArray} {maxL W : Nat} {ret : Option FieldType} {rm : Room} {as' : Array Value} {r : Value}
    (hown : s.vm.findClass own = some m.cls) (w1 : (Cond.methodLink own index y).before a0 Z = true) (w2 : (Cond.static y).before a0 Z = true) (w3 : (Cond.initialized y.cls).before a0 Z = true) (w4 : (Cond.code y bytes maxL ret).before a0 Z = true) (hy : y.cls ≠ "java/lang/invoke/MethodHandle" ∧ y.cls ≠ "java/lang/invoke/VarHandle")
    (hM : Mt l Z y [Cond.code y bytes maxL ret] rm as' h0 (fun v h L => v = some r ∧ Fr n0 L ∧ h = h0)) (hf : rm.frames + 1 ≤ R.frames) (hl : W + (maxL + 11) + rm.locals ≤ R.locals) (hc : cells + rm.cells ≤ R.cells) (hs : slots + rm.slots ≤ R.slots) (hc0 : rm.cells = 0) (hs0 : rm.slots = 0)
    {pc pc' : Nat} {Ls : Array Slot} {S argsL rest : List Value} (hsize : Ls.size = c.maxLocals) (hlen : ∀ sig, parseMethodDescriptor y.desc = some sig → argsL.length = sig.parameters.length) (hst : S = argsL.reverse ++ rest) (has : argsL.toArray = as') (hW : (rest.map fun v => v.category).sum ≤ W) (hd : decode c.code pc = .ok (.invokestatic index, 3)) (hp : pc + 3 = pc')
    (hh : ∀ T', Sd p l e R s m args below meth c T' n0 cells slots h0 → Rt p e below s k n P (T'.setTop (mkF m pc' Ls (r :: rest)))) : Rt p e below s k n P (T.setTop (mkF m pc Ls S)) := by
  refine Rt.callS X hx hZ hown w1 w2 w3 w4 hy hM (fun _ _ _ q => q.2.1) hf hl hc hs hsize hlen hst has hW hd hp ?_
  rintro v T' h' L X' ⟨rfl, _, rfl⟩
  rw [hc0, hs0, Nat.add_zero, Nat.add_zero] at X'
  exact hh T' X'
/-- an instance method, by the contract of the body that the receiver's class selects -/
theorem Rt.callV (X : Sd p l e R s m args below meth c T n0 cells slots h0) (hx : p.tables.exec = Jvm.exec) {Z : State} {a0 : Array Value} (hZ : Z.Warmed39 s.vm) {own : String} {index : Nat} {y : MethodName} {bytes : ByteArray} {maxL W : Nat} {ret : Option FieldType} {rm : Room} {as' : Array Value} {Q : Option Value → Heap → List Loc → Prop} {K : String} {yz : MethodName}
    (hown : s.vm.findClass own = some m.cls) (w1 : (Cond.methodLink own index y).before a0 Z = true) (w2 : (Cond.declares y).before a0 Z = true) (hnf : NotFace s y) (w5 : (Cond.selects K y yz).before a0 Z = true) (w6 : (Cond.instanceMethod yz).before a0 Z = true) (w3 : (Cond.initialized yz.cls).before a0 Z = true) (w4 : (Cond.code yz bytes maxL ret).before a0 Z = true) (hy : y.cls ≠ "java/lang/invoke/MethodHandle" ∧ y.cls ≠ "java/lang/invoke/VarHandle")
    {a : Addr} (E : Exa Z h0 a K) (hM : Mt l Z yz [Cond.code yz bytes maxL ret] rm as' h0 Q) (hF : ∀ v h L, Q v h L → Fr n0 L) (hf : rm.frames + 1 ≤ R.frames) (hl : W + (maxL + 11) + rm.locals ≤ R.locals) (hc : cells + rm.cells ≤ R.cells) (hs : slots + rm.slots ≤ R.slots)
    {pc pc' : Nat} {Ls : Array Slot} {S argsL rest : List Value} (hsize : Ls.size = c.maxLocals) (hlen : ∀ sig, parseMethodDescriptor y.desc = some sig → argsL.length = sig.parameters.length) (hst : S = argsL.reverse ++ .ref a :: rest) (has : (.ref a :: argsL).toArray = as') (hW : (rest.map fun v => v.category).sum ≤ W) (hd : decode c.code pc = .ok (.invokevirtual index, 3)) (hp : pc + 3 = pc')
    (hh : ∀ v T' h' L, Sd p l e R s m args below meth c T' n0 (cells + rm.cells) (slots + rm.slots) h' → Q v h' L → Rt p e below s k n P (T'.setTop (mkF m pc' Ls (v.toList ++ rest)))) : Rt p e below s k n P (T.setTop (mkF m pc Ls S)) := by
  subst hp has
  obtain ⟨locs, X, N, eT⟩ := X
  obtain ⟨cq, kq, qa, qb, qc⟩ := isOf hZ eT E
  obtain ⟨v, _, ⟨T', L', k', n'⟩, -, X', ⟨Lc, hQ, l', y', z'⟩, st⟩ := X.virtualBack hx (y := y) (z := yz) hown (mvT hZ w1) (mvT hZ w2) hnf (mvT hZ w5) (mvT hZ w6) hy (backOf (W := W) hM hZ w4 w3 hf hl) qa qc (g := mkF m pc Ls S) rfl hsize (Steps.refl _) (argsL := argsL) (rest := rest) hlen hst (by show 2 * 0 + _ ≤ _; omega) hd (fun _ _ => ⟨rfl, eT, hc, hs⟩)
  dsimp only [Pt.U, Pt.locs, Pt.cells, Pt.slots] at X' l' y' z' st hQ
  subst l' y' z'
  exact Rt.go (fun _ q => st.trans q) (hh v T' _ Lc ⟨_, X', Fr.app N (hF _ _ _ hQ), rfl⟩ hQ)
/-- a constructor by its contract -/
theorem Rt.callI (X : Sd p l e R s m args below meth c T n0 cells slots h0) (hx : p.tables.exec = Jvm.exec) {Z : State} {a0 : Array Value} (hZ : Z.Warmed39 s.vm) {own : String} {index : Nat} {y : MethodName} {bytes : ByteArray} {maxL W : Nat} {rm : Room} {as' : Array Value} {Q : Option Value → Heap → List Loc → Prop} (hy1 : y.name = "<init>")
    (hown : s.vm.findClass own = some m.cls) (w1 : (Cond.methodLink own index y).before a0 Z = true) (w2 : (Cond.instanceMethod y).before a0 Z = true) (w3 : (Cond.initialized y.cls).before a0 Z = true) (w4 : (Cond.code y bytes maxL none).before a0 Z = true) (hy : y.cls ≠ "java/lang/invoke/MethodHandle" ∧ y.cls ≠ "java/lang/invoke/VarHandle")
    {a : Addr} (hM : Mt l Z y [Cond.code y bytes maxL none] rm as' h0 Q) (hF : ∀ v h L, Q v h L → Fr n0 L) (hf : rm.frames + 1 ≤ R.frames) (hl : W + (maxL + 11) + rm.locals ≤ R.locals) (hc : cells + rm.cells ≤ R.cells) (hs : slots + rm.slots ≤ R.slots)
    {pc pc' : Nat} {Ls : Array Slot} {S argsL rest : List Value} (hsize : Ls.size = c.maxLocals) (hlen : ∀ sig, parseMethodDescriptor y.desc = some sig → argsL.length = sig.parameters.length) (hst : S = argsL.reverse ++ .ref a :: rest) (has : (.ref a :: argsL).toArray = as') (hW : (rest.map fun v => v.category).sum ≤ W) (hd : decode c.code pc = .ok (.invokespecial index, 3)) (hp : pc + 3 = pc')
    (hh : ∀ v T' h' L, Sd p l e R s m args below meth c T' n0 (cells + rm.cells) (slots + rm.slots) h' → Q v h' L → Rt p e below s k n P (T'.setTop (mkF m pc' Ls (v.toList ++ rest)))) : Rt p e below s k n P (T.setTop (mkF m pc Ls S)) := by
  subst hp has
  obtain ⟨locs, X, N, eT⟩ := X
  obtain ⟨v, _, ⟨T', L', k', n'⟩, -, X', ⟨Lc, hQ, l', y', z'⟩, st⟩ := X.specialBack hx (y := y) hy1 hown (mvT hZ w1) (mvT hZ w2) (mvT hZ w4) hy (backOf (W := W) hM hZ w4 w3 hf hl) (g := mkF m pc Ls S) rfl hsize (Steps.refl _) (a := a) (argsL := argsL) (rest := rest) hlen hst (by show 2 * 0 + _ ≤ _; omega) hd (fun _ _ => ⟨rfl, eT, hc, hs⟩)
  dsimp only [Pt.U, Pt.locs, Pt.cells, Pt.slots] at X' l' y' z' st hQ
  subst l' y' z'
  exact Rt.go (fun _ q => st.trans q) (hh v T' _ Lc ⟨_, X', Fr.app N (hF _ _ _ hQ), rfl⟩ hQ)
/-- a private instance method by its contract -/
theorem Rt.callPr (X : Sd p l e R s m args below meth c T n0 cells slots h0) (hx : p.tables.exec = Jvm.exec) {Z : State} {a0 : Array Value} (hZ : Z.Warmed39 s.vm) {own : String} {index : Nat} {y : MethodName} {bytes : ByteArray} {maxL W : Nat} {ret : Option FieldType} {rm : Room} {as' : Array Value} {Q : Option Value → Heap → List Loc → Prop} {K : String} {nf : Nat}
    (hown : s.vm.findClass own = some m.cls) (w1 : (Cond.methodLink own index y).before a0 Z = true) (w2 : (Cond.instanceMethod y).before a0 Z = true) (w5 : (Cond.privateMethod y).before a0 Z = true) (wi : (Cond.instantiable y.cls nf).before a0 Z = true) (w3 : (Cond.initialized y.cls).before a0 Z = true) (w4 : (Cond.code y bytes maxL ret).before a0 Z = true) (hy : y.cls ≠ "java/lang/invoke/MethodHandle" ∧ y.cls ≠ "java/lang/invoke/VarHandle")
    {a : Addr} (E : Exa Z h0 a K) (hM : Mt l Z y [Cond.code y bytes maxL ret] rm as' h0 Q) (hF : ∀ v h L, Q v h L → Fr n0 L) (hf : rm.frames + 1 ≤ R.frames) (hl : W + (maxL + 11) + rm.locals ≤ R.locals) (hc : cells + rm.cells ≤ R.cells) (hs : slots + rm.slots ≤ R.slots)
    {pc pc' : Nat} {Ls : Array Slot} {S argsL rest : List Value} (hsize : Ls.size = c.maxLocals) (hlen : ∀ sig, parseMethodDescriptor y.desc = some sig → argsL.length = sig.parameters.length) (hst : S = argsL.reverse ++ .ref a :: rest) (has : (.ref a :: argsL).toArray = as') (hW : (rest.map fun v => v.category).sum ≤ W) (hd : decode c.code pc = .ok (.invokevirtual index, 3)) (hp : pc + 3 = pc')
    (hh : ∀ v T' h' L, Sd p l e R s m args below meth c T' n0 (cells + rm.cells) (slots + rm.slots) h' → Q v h' L → Rt p e below s k n P (T'.setTop (mkF m pc' Ls (v.toList ++ rest)))) : Rt p e below s k n P (T.setTop (mkF m pc Ls S)) := by
  subst hp has
  obtain ⟨locs, X, N, eT⟩ := X
  obtain ⟨ce, q1, q2⟩ := E.cell
  obtain ⟨cc, kc, i1, i2, -, i4, -⟩ := Cond.instantiable_spec (mvT hZ wi (args := args))
  have hpv := Cond.privateMethod_at (mvP hZ w5 (args := #[]))
  have hni : kc.isInterface = false := by simp only [Bool.or_eq_false_iff] at i4; exact i4.1
  obtain ⟨v, _, ⟨T', L', k', n'⟩, -, X', ⟨Lc, hQ, l', y', z'⟩, st⟩ := X.privateBack hx (y := y) hown (mvT hZ w1) (mvT hZ w2) (selects_self_of_private i1 i2 hni hpv (mvT hZ w2) hy) hpv (mvT hZ w4) hy (backOf (W := W) hM hZ w4 w3 hf hl) (g := mkF m pc Ls S) rfl hsize (Steps.refl _) (a := a) (by rw [eT]; exact q1) q2 (argsL := argsL) (rest := rest) hlen hst (by show 2 * 0 + _ ≤ _; omega) hd (fun _ _ => ⟨rfl, eT, hc, hs⟩)
  dsimp only [Pt.U, Pt.locs, Pt.cells, Pt.slots] at X' l' y' z' st hQ
  subst l' y' z'
  exact Rt.go (fun _ q => st.trans q) (hh v T' _ Lc ⟨_, X', Fr.app N (hF _ _ _ hQ), rfl⟩ hQ)
theorem Rt.initO (X : Sd p l e R s m args below meth c T n0 cells slots h0) (hx : p.tables.exec = Jvm.exec) {Z : State} {a0 : Array Value} (hZ : Z.Warmed39 s.vm) {own : String} {index : Nat} (hown : s.vm.findClass own = some m.cls) (w1 : (Cond.methodLink own index Lib.objectInit).before a0 Z = true) (w2 : (Cond.instanceMethod Lib.objectInit).before a0 Z = true) (w3 : (Cond.code Lib.objectInit ⟨#[0xb1]⟩ 1 none).before a0 Z = true)
    {pc pc' W : Nat} {Ls : Array Slot} {rest : List Value} {a : Addr} (hsize : Ls.size = c.maxLocals) (hd : decode c.code pc = .ok (.invokespecial index, 3)) (hf : 1 ≤ R.frames) (hW : (rest.map fun v => v.category).sum ≤ W) (hl : W + 12 ≤ R.locals) (hp : pc + 3 = pc')
    (hh : ∀ T', Sd p l e R s m args below meth c T' n0 cells slots h0 → Rt p e below s k n P (T'.setTop (mkF m pc' Ls rest))) : Rt p e below s k n P (T.setTop (mkF m pc Ls (.ref a :: rest))) := by
  subst hp
  obtain ⟨locs, X, N, eT⟩ := X
  obtain ⟨T', X', e', st⟩ := Jvm.RoadKit.initO X hx hZ hown w1 w2 w3 eT (g := mkF m pc Ls (.ref a :: rest)) rfl hsize rfl hd hf (W := W) (by show 2 * 0 + _ ≤ _; omega) hl
  exact Rt.go st (hh T' ⟨_, X', N, e'⟩)
theorem Rt.getS (X : Sd p l e R s m args below meth c T n0 cells slots h0) (hx : p.tables.exec = Jvm.exec) {Z : State} {a0 : Array Value} (hZ : Z.Warmed39 s.vm) {own K f d host : String} {index : Nat} (hown : s.vm.findClass own = some m.cls) (w : (Cond.fieldLink own index K f d).before a0 Z = true ∨ (Cond.fieldLinkNest own index K f d host).before a0 Z = true) {v : Value} (F : Sta Z h0 K f d v) {pc pc' : Nat} {Ls : Array Slot} {S : List Value} (hd : decode c.code pc = .ok (.getstatic index, 3)) (hp : pc + 3 = pc')
    (hh : ∀ T', Sd p l e R s m args below meth c T' n0 cells slots h0 → Rt p e below s k n P (T'.setTop (mkF m pc' Ls (v :: S)))) : Rt p e below s k n P (T.setTop (mkF m pc Ls S)) := by
  subst hp
  obtain ⟨locs, X, N, eT⟩ := X
  obtain ⟨T', X', e', st⟩ := getS2 X hx hZ hown (host := host) w Via.refl eT F (g := mkF m pc Ls S) rfl hd
  exact Rt.go st (hh T' ⟨_, X', N, e'⟩)
theorem Rt.getF (X : Sd p l e R s m args below meth c T n0 cells slots h0) (hx : p.tables.exec = Jvm.exec) {Z : State} {a0 : Array Value} (hZ : Z.Warmed39 s.vm) {own K f d host : String} {index : Nat} (hown : s.vm.findClass own = some m.cls) (w : (Cond.fieldLink own index K f d).before a0 Z = true ∨ (Cond.fieldLinkNest own index K f d host).before a0 Z = true) {v : Value} {a : Addr} (F : Fld Z h0 a K f d v) {pc pc' : Nat} {Ls : Array Slot} {S : List Value} (hd : decode c.code pc = .ok (.getfield index, 3)) (hp : pc + 3 = pc')
    (hh : ∀ T', Sd p l e R s m args below meth c T' n0 cells slots h0 → Rt p e below s k n P (T'.setTop (mkF m pc' Ls (v :: S)))) : Rt p e below s k n P (T.setTop (mkF m pc Ls (.ref a :: S))) := by
  subst hp
  obtain ⟨locs, X, N, eT⟩ := X
  obtain ⟨T', X', e', st⟩ := Jvm.RoadKit.getF X hx hZ hown (host := host) w Via.refl eT F (g := mkF m pc Ls (.ref a :: S)) rfl rfl hd
  exact Rt.go st (hh T' ⟨_, X', N, e'⟩)
theorem Rt.putF (X : Sd p l e R s m args below meth c T n0 cells slots h0) (hx : p.tables.exec = Jvm.exec) {Z : State} {a0 : Array Value} (hZ : Z.Warmed39 s.vm) {own K f d C' host : String} {index kk : Nat} {ty : FieldType} (hown : s.vm.findClass own = some m.cls) (w : (Cond.fieldLink own index K f d).before a0 Z = true ∨ (Cond.fieldLinkNest own index K f d host).before a0 Z = true) {v old : Value} {a : Addr} (F : Fld Z h0 a K f d old) (E : Exa Z h0 a C') (L : (Cond.lays C' K f d).before a0 Z = true ∨ ((Cond.laysFinal C' K f d).before a0 Z = true ∧ own = K ∧ meth.name = "<init>")) (wi : (Cond.instantiable C' kk).before a0 Z = true) (hty : parseFieldDescriptor d = some ty) (hn : narrow ty v = v) (hf : fits ty v = true) (ga : n0 ≤ a) {pc pc' : Nat} {Ls : Array Slot} {S : List Value} (hd : decode c.code pc = .ok (.putfield index, 3)) (hp : pc + 3 = pc')
    (hh : ∀ T' h', Sd p l e R s m args below meth c T' n0 cells slots h' → Wr h0 h' a (Jvm.RoadKit.slotOf Z K f d) v → Fld Z h' a K f d v → Rt p e below s k n P (T'.setTop (mkF m pc' Ls S))) : Rt p e below s k n P (T.setTop (mkF m pc Ls (v :: .ref a :: S))) := by
  subst hp
  obtain ⟨locs, X, N, eT⟩ := X
  obtain ⟨T', h', X', e', W', st⟩ := Jvm.RoadKit.putF X hx hZ hown (host := host) w Via.refl eT F E L wi hty hn hf (g := mkF m pc Ls (v :: .ref a :: S)) rfl rfl hd
  exact Rt.go st (hh T' h' ⟨_, X', Fr.snoc X' N ga, e'⟩ W' (F.same W'))
theorem Rt.newO (X : Sd p l e R s m args below meth c T n0 cells slots h0) (hx : p.tables.exec = Jvm.exec) {Z : State} {a0 : Array Value} (hZ : Z.Warmed39 s.vm) {own K : String} {index nf : Nat} (hown : s.vm.findClass own = some m.cls) (w : (Cond.classLink own index K).before a0 Z = true) (wi : (Cond.instantiable K nf).before a0 Z = true) (wz : (Cond.initialized K).before a0 Z = true) {pc pc' : Nat} {Ls : Array Slot} {S : List Value} (hd : decode c.code pc = .ok (.new index, 3)) (hc : cells + 1 ≤ R.cells) (hl : slots + nf ≤ R.slots) (hp : pc + 3 = pc')
    (hh : ∀ T' h' a, a = h0.size → Sd p l e R s m args below meth c T' n0 (cells + 1) (slots + nf) h' → Ext h0 h' → Exa Z h' a K → (∀ {O nm d : String} {ty : FieldType}, Laid Z a0 K O nm d → parseFieldDescriptor d = some ty → Fld Z h' a O nm d (defaultValue ty)) → Rt p e below s k n P (T'.setTop (mkF m pc' Ls (.ref a :: S)))) : Rt p e below s k n P (T.setTop (mkF m pc Ls S)) := by
  subst hp
  obtain ⟨locs, X, N, eT⟩ := X
  obtain ⟨T', h', X', e', E', A', D', -, st⟩ := Jvm.RoadKit.newO X hx hZ hown w wi wz eT (g := mkF m pc Ls S) rfl hd hc hl
  exact Rt.go st (hh T' h' _ rfl ⟨_, X', N, e'⟩ E' A' D')
theorem Rt.castY (X : Sd p l e R s m args below meth c T n0 cells slots h0) (hx : p.tables.exec = Jvm.exec) {Z : State} {a0 : Array Value} (hZ : Z.Warmed39 s.vm) {own K : String} {index : Nat} (hown : s.vm.findClass own = some m.cls) (w : (Cond.classLink own index K).before a0 Z = true) {a : Addr} (F : Ins Z h0 a K true) {pc pc' : Nat} {Ls : Array Slot} {S : List Value} (hd : decode c.code pc = .ok (.checkcast index, 3)) (hp : pc + 3 = pc')
    (hh : ∀ T', Sd p l e R s m args below meth c T' n0 cells slots h0 → Rt p e below s k n P (T'.setTop (mkF m pc' Ls (.ref a :: S)))) : Rt p e below s k n P (T.setTop (mkF m pc Ls (.ref a :: S))) := by
  subst hp
  obtain ⟨locs, X, N, eT⟩ := X
  obtain ⟨T', X', e', st⟩ := Jvm.RoadKit.castY X hx hZ hown w eT F (g := mkF m pc Ls (.ref a :: S)) rfl rfl hd
  exact Rt.go st (hh T' ⟨_, X', N, e'⟩)
theorem Rt.instY (X : Sd p l e R s m args below meth c T n0 cells slots h0) (hx : p.tables.exec = Jvm.exec) {Z : State} {a0 : Array Value} (hZ : Z.Warmed39 s.vm) {own K : String} {index : Nat} (hown : s.vm.findClass own = some m.cls) (w : (Cond.classLink own index K).before a0 Z = true) {a : Addr} (F : Ins Z h0 a K true) {pc pc' : Nat} {Ls : Array Slot} {S : List Value} (hd : decode c.code pc = .ok (.instanceof index, 3)) (hp : pc + 3 = pc')
    (hh : ∀ T', Sd p l e R s m args below meth c T' n0 cells slots h0 → Rt p e below s k n P (T'.setTop (mkF m pc' Ls (.int 1 :: S)))) : Rt p e below s k n P (T.setTop (mkF m pc Ls (.ref a :: S))) := by
  subst hp
  obtain ⟨locs, X, N, eT⟩ := X
  obtain ⟨T', X', e', st⟩ := Jvm.RoadKit.instY X hx hZ hown w eT F (g := mkF m pc Ls (.ref a :: S)) rfl rfl hd
  exact Rt.go st (hh T' ⟨_, X', N, e'⟩)
theorem Rt.instNo (X : Sd p l e R s m args below meth c T n0 cells slots h0) (hx : p.tables.exec = Jvm.exec) {Z : State} {a0 : Array Value} (hZ : Z.Warmed39 s.vm) {own K C' : String} {index : Nat} (hown : s.vm.findClass own = some m.cls) (w : (Cond.classLink own index K).before a0 Z = true) (hs0 : s.heap = h0) {a : Addr} (F : Ins Z h0 a K false) (E : Exa Z h0 a C') {pc pc' : Nat} {Ls : Array Slot} {S : List Value} (hd : decode c.code pc = .ok (.instanceof index, 3)) (hp : pc + 3 = pc')
    (hh : ∀ T', Sd p l e R s m args below meth c T' n0 cells slots h0 → Rt p e below s k n P (T'.setTop (mkF m pc' Ls (.int 0 :: S)))) : Rt p e below s k n P (T.setTop (mkF m pc Ls (.ref a :: S))) := by
  subst hp hs0
  obtain ⟨locs, X, N, eT⟩ := X
  obtain ⟨T', X', e', st⟩ := Jvm.RoadKit.instN X hx hZ hown w eT F E (g := mkF m pc Ls (.ref a :: S)) rfl rfl hd
  exact Rt.go st (hh T' ⟨_, X', N, e'⟩)
theorem Rt.instNull (X : Sd p l e R s m args below meth c T n0 cells slots h0) (hx : p.tables.exec = Jvm.exec) {index : Nat} {pc pc' : Nat} {Ls : Array Slot} {S : List Value} (hd : decode c.code pc = .ok (.instanceof index, 3)) (hp : pc + 3 = pc')
    (h : Rt p e below s k n P (T.setTop (mkF m pc' Ls (.int 0 :: S)))) : Rt p e below s k n P (T.setTop (mkF m pc Ls (.null :: S))) := by
  subst hp
  obtain ⟨locs, X, N, eT⟩ := X
  exact Rt.go (X.instanceofNull hx (g := mkF m pc Ls (.null :: S)) rfl rfl hd) h
theorem staK {Z : State} {h h' : Heap} {K f d : String} {v : Value} (F : Sta Z h K f d v) (Kp : Keep h h' []) : Sta Z h' K f d v := by
  obtain ⟨cf, i, k, f, st, cell, h1, h2, h3, h4, h5, r⟩ := F; exact ⟨cf, i, k, f, st, cell, h1, h2, h3, h4, Kp.2.1 _ _ h5 nin0, r⟩
/-- an array of values -/
def IA (Z : State) (h : Heap) (a : Addr) (ty : FieldType) (vs : List Value) : Prop := ∃ cl : Cell, Arr Z h a cl ty ∧ cl.slots = vs.toArray ∧ vs.length < 2 ^ 31
section Arrays
variable {Z : State} {h h' : Heap} {a b : Addr} {ty : FieldType} {vs : List Value}
theorem IA.lt (F : IA Z h a ty vs) : a < h.size := by obtain ⟨_, A, -⟩ := F; exact A.lt
theorem IA.ext (F : IA Z h a ty vs) (E : Ext h h') : IA Z h' a ty vs := by obtain ⟨c, A, r⟩ := F; exact ⟨c, A.ext E, r⟩
theorem IA.other {sl : Nat} {v : Value} (F : IA Z h a ty vs) (W : Wr h h' b sl v) (q : a ≠ b) : IA Z h' a ty vs := by obtain ⟨c, A, r⟩ := F; exact ⟨c, A.other W q, r⟩
theorem IA.keep {ws : List Addr} (F : IA Z h a ty vs) (K : Keep h h' ws) (q : a ∉ ws) : IA Z h' a ty vs := by obtain ⟨c, A, r⟩ := F; exact ⟨c, ⟨K.2.1 a c A.1 q, A.2⟩, r⟩
theorem IA.set {i : Nat} {v : Value} (F : IA Z h a ty vs) (W : Wr h h' a i v) : IA Z h' a ty (vs.set i v) := by
  obtain ⟨c, A, r, q⟩ := F
  refine ⟨_, A.same W, ?_, by rw [List.length_set]; exact q⟩
  show (c.slots.setIfInBounds i v) = _
  rw [r]; simp
theorem IA.new {k : ClassId} {z : Int32} {i : Nat} (A : Arr Z h a (newA k ty z) ty) (hz : z.toNatClampNeg = i) : IA Z h a ty (List.replicate i (defaultValue ty)) := by
  refine ⟨_, A, ?_, ?_⟩
  · show Array.replicate _ _ = _
    rw [hz]; simp
  · rw [List.length_replicate, ← hz]
    have := z.toInt_lt
    simp only [Int32.toNatClampNeg]; omega
theorem inA {cl : Cell} {j : Int32} {i : Nat} (r : cl.slots = vs.toArray) (hj : ¬ j < 0) (hi : j.toNatClampNeg = i) (hv : i < vs.length) : ¬ (j < 0 ∨ cl.slots.size ≤ j.toNatClampNeg) := by
  rintro (q | q)
  · exact hj q
  · rw [r, hi] at q; simp at q; omega
end Arrays
theorem Rt.newP (X : Sd p l e R s m args below meth c T n0 cells slots h0) (hx : p.tables.exec = Jvm.exec) {Z : State} {a0 : Array Value} (hZ : Z.Warmed39 s.vm) {aty : ArrayType} {ty : FieldType} (hty : newarray.typeOf aty = ty) (w : (Cond.arrayClass ty).before a0 Z = true) {z : Int32} {i : Nat} (hz : z.toNatClampNeg = i) (hn : ¬ z < 0) {cap : Nat} (hcap : i ≤ cap) (hb : cap * 8 ≤ 536870912) {pc pc' : Nat} {Ls : Array Slot} {S : List Value} (hd : decode c.code pc = .ok (.newarray aty, 2)) (hc : cells + 1 ≤ R.cells) (hl : slots + cap ≤ R.slots) (hp : pc + 2 = pc')
    (hh : ∀ T' h' a, a = h0.size → Sd p l e R s m args below meth c T' n0 (cells + 1) (slots + cap) h' → Ext h0 h' → IA Z h' a ty (List.replicate i (defaultValue ty)) → Rt p e below s k n P (T'.setTop (mkF m pc' Ls (.ref a :: S)))) : Rt p e below s k n P (T.setTop (mkF m pc Ls (.int z :: S))) := by
  subst hp hty
  obtain ⟨locs, X, N, eT⟩ := X
  obtain ⟨T', h', cA, X', e', E', A', st⟩ := Jvm.RoadKit.newP X hx hZ w eT (g := mkF m pc Ls (.int z :: S)) rfl hd rfl hn (cap := cap) (by rw [hz]; exact hcap) hb hc hl
  exact Rt.go st (hh T' h' _ rfl ⟨_, X', N, e'⟩ E' (IA.new A' hz))
theorem Rt.arraylength (X : Sd p l e R s m args below meth c T n0 cells slots h0) (hx : p.tables.exec = Jvm.exec) {Z : State} (hZ : Z.Warmed39 s.vm) {ty : FieldType} {a : Addr} {vs : List Value} (F : IA Z h0 a ty vs) {v : Int32} (hv : vs.length.toInt32 = v) {pc pc' : Nat} {Ls : Array Slot} {S : List Value} (hd : decode c.code pc = .ok (.arraylength, 1)) (hp : pc + 1 = pc')
    (h : Rt p e below s k n P (T.setTop (mkF m pc' Ls (.int v :: S)))) : Rt p e below s k n P (T.setTop (mkF m pc Ls (.ref a :: S))) := by
  subst hp hv
  obtain ⟨locs, X, N, eT⟩ := X
  obtain ⟨cl, A, r, q⟩ := F
  have e1 : vs.length = cl.slots.size := by rw [r]; simp
  rw [e1] at h
  exact Rt.go (X.arraylength hx (by rw [eT]; exact A.1) (State.isArrayOf_alike hZ.alike A.2.1) (g := mkF m pc Ls (.ref a :: S)) rfl rfl hd) h

theorem Rt.iaload (X : Sd p l e R s m args below meth c T n0 cells slots h0) (hx : p.tables.exec = Jvm.exec) {Z : State} (hZ : Z.Warmed39 s.vm) {a : Addr} {vs : List Value} (F : IA Z h0 a .int vs) {j : Int32} {i : Nat} (hi : j.toNatClampNeg = i) (hj : ¬ j < 0) {v : Value} (hv : vs[i]? = some v) {pc pc' : Nat} {Ls : Array Slot} {S : List Value} (hd : decode c.code pc = .ok (.iaload, 1)) (hp : pc + 1 = pc')
    (h : Rt p e below s k n P (T.setTop (mkF m pc' Ls (v :: S)))) : Rt p e below s k n P (T.setTop (mkF m pc Ls (.int j :: .ref a :: S))) := by
  subst hp
  obtain ⟨locs, X, N, eT⟩ := X
  obtain ⟨cl, A, r, q⟩ := F
  exact Rt.go (X.iaload hx (j := j) (v := v) (by rw [eT]; exact A.1) (State.isArrayOf_alike hZ.alike A.2.1) A.2.2 (inA r hj hi (List.getElem?_eq_some_iff.mp hv).1) (by rw [r, hi]; simpa using hv) (g := mkF m pc Ls (.int j :: .ref a :: S)) rfl rfl hd) h
theorem Rt.laload (X : Sd p l e R s m args below meth c T n0 cells slots h0) (hx : p.tables.exec = Jvm.exec) {Z : State} (hZ : Z.Warmed39 s.vm) {a : Addr} {vs : List Value} (F : IA Z h0 a .long vs) {j : Int32} {i : Nat} (hi : j.toNatClampNeg = i) (hj : ¬ j < 0) {v : Value} (hv : vs[i]? = some v) {pc pc' : Nat} {Ls : Array Slot} {S : List Value} (hd : decode c.code pc = .ok (.laload, 1)) (hp : pc + 1 = pc')
    (h : Rt p e below s k n P (T.setTop (mkF m pc' Ls (v :: S)))) : Rt p e below s k n P (T.setTop (mkF m pc Ls (.int j :: .ref a :: S))) := by
  subst hp
  obtain ⟨locs, X, N, eT⟩ := X
  obtain ⟨cl, A, r, q⟩ := F
  exact Rt.go (X.laload hx (j := j) (v := v) (by rw [eT]; exact A.1) (State.isArrayOf_alike hZ.alike A.2.1) A.2.2 (inA r hj hi (List.getElem?_eq_some_iff.mp hv).1) (by rw [r, hi]; simpa using hv) (g := mkF m pc Ls (.int j :: .ref a :: S)) rfl rfl hd) h
theorem Rt.baload (X : Sd p l e R s m args below meth c T n0 cells slots h0) (hx : p.tables.exec = Jvm.exec) {Z : State} (hZ : Z.Warmed39 s.vm) {a : Addr} {vs : List Value} (F : IA Z h0 a .byte vs) {j : Int32} {i : Nat} (hi : j.toNatClampNeg = i) (hj : ¬ j < 0) {v : Value} (hv : vs[i]? = some v) {pc pc' : Nat} {Ls : Array Slot} {S : List Value} (hd : decode c.code pc = .ok (.baload, 1)) (hp : pc + 1 = pc')
    (h : Rt p e below s k n P (T.setTop (mkF m pc' Ls (v :: S)))) : Rt p e below s k n P (T.setTop (mkF m pc Ls (.int j :: .ref a :: S))) := by
  subst hp
  obtain ⟨locs, X, N, eT⟩ := X
  obtain ⟨cl, A, r, q⟩ := F
  exact Rt.go (X.baloadBytes hx (j := j) (v := v) (by rw [eT]; exact A.1) (State.isArrayOf_alike hZ.alike A.2.1) A.2.2 (inA r hj hi (List.getElem?_eq_some_iff.mp hv).1) (by rw [r, hi]; simpa using hv) (g := mkF m pc Ls (.int j :: .ref a :: S)) rfl rfl hd) h
theorem Rt.zaload (X : Sd p l e R s m args below meth c T n0 cells slots h0) (hx : p.tables.exec = Jvm.exec) {Z : State} (hZ : Z.Warmed39 s.vm) {a : Addr} {vs : List Value} (F : IA Z h0 a .boolean vs) {j : Int32} {i : Nat} (hi : j.toNatClampNeg = i) (hj : ¬ j < 0) {v : Value} (hv : vs[i]? = some v) {pc pc' : Nat} {Ls : Array Slot} {S : List Value} (hd : decode c.code pc = .ok (.baload, 1)) (hp : pc + 1 = pc')
    (h : Rt p e below s k n P (T.setTop (mkF m pc' Ls (v :: S)))) : Rt p e below s k n P (T.setTop (mkF m pc Ls (.int j :: .ref a :: S))) := by
  subst hp
  obtain ⟨locs, X, N, eT⟩ := X
  obtain ⟨cl, A, r, q⟩ := F
  exact Rt.go (X.baloadBooleans hx (j := j) (v := v) (by rw [eT]; exact A.1) (State.isArrayOf_alike hZ.alike A.2.1) A.2.2 (inA r hj hi (List.getElem?_eq_some_iff.mp hv).1) (by rw [r, hi]; simpa using hv) (g := mkF m pc Ls (.int j :: .ref a :: S)) rfl rfl hd) h
theorem Rt.caload (X : Sd p l e R s m args below meth c T n0 cells slots h0) (hx : p.tables.exec = Jvm.exec) {Z : State} (hZ : Z.Warmed39 s.vm) {a : Addr} {vs : List Value} (F : IA Z h0 a .char vs) {j : Int32} {i : Nat} (hi : j.toNatClampNeg = i) (hj : ¬ j < 0) {v : Value} (hv : vs[i]? = some v) {pc pc' : Nat} {Ls : Array Slot} {S : List Value} (hd : decode c.code pc = .ok (.caload, 1)) (hp : pc + 1 = pc')
    (h : Rt p e below s k n P (T.setTop (mkF m pc' Ls (v :: S)))) : Rt p e below s k n P (T.setTop (mkF m pc Ls (.int j :: .ref a :: S))) := by
  subst hp
  obtain ⟨locs, X, N, eT⟩ := X
  obtain ⟨cl, A, r, q⟩ := F
  exact Rt.go (X.caload hx (j := j) (v := v) (by rw [eT]; exact A.1) (State.isArrayOf_alike hZ.alike A.2.1) A.2.2 (inA r hj hi (List.getElem?_eq_some_iff.mp hv).1) (by rw [r, hi]; simpa using hv) (g := mkF m pc Ls (.int j :: .ref a :: S)) rfl rfl hd) h
theorem Rt.aaload (X : Sd p l e R s m args below meth c T n0 cells slots h0) (hx : p.tables.exec = Jvm.exec) {Z : State} (hZ : Z.Warmed39 s.vm) {ty : FieldType} (hty : ty.isReference = true) {a : Addr} {vs : List Value} (F : IA Z h0 a ty vs) {j : Int32} {i : Nat} (hi : j.toNatClampNeg = i) (hj : ¬ j < 0) {v : Value} (hv : vs[i]? = some v) {pc pc' : Nat} {Ls : Array Slot} {S : List Value} (hd : decode c.code pc = .ok (.aaload, 1)) (hp : pc + 1 = pc')
    (h : Rt p e below s k n P (T.setTop (mkF m pc' Ls (v :: S)))) : Rt p e below s k n P (T.setTop (mkF m pc Ls (.int j :: .ref a :: S))) := by
  subst hp
  obtain ⟨locs, X, N, eT⟩ := X
  obtain ⟨cl, A, r, q⟩ := F
  exact Rt.go (X.aaload hx (j := j) (v := v) (by rw [eT]; exact A.1) (State.isArrayOf_alike hZ.alike A.2.1) hty A.2.2 (inA r hj hi (List.getElem?_eq_some_iff.mp hv).1) (by rw [r, hi]; simpa using hv) (g := mkF m pc Ls (.int j :: .ref a :: S)) rfl rfl hd) h
theorem Rt.iastore (X : Sd p l e R s m args below meth c T n0 cells slots h0) (hx : p.tables.exec = Jvm.exec) {Z : State} (hZ : Z.Warmed39 s.vm) {a : Addr} {vs : List Value} (F : IA Z h0 a .int vs) {j : Int32} {i : Nat} (hi : j.toNatClampNeg = i) (hj : ¬ j < 0) (hv : i < vs.length) {x : Int32} {w : Value} (hw : .int x = w) (ga : n0 ≤ a) {pc pc' : Nat} {Ls : Array Slot} {S : List Value} (hd : decode c.code pc = .ok (.iastore, 1)) (hp : pc + 1 = pc')
    (hh : ∀ T' h', Sd p l e R s m args below meth c T' n0 cells slots h' → Wr h0 h' a i w → IA Z h' a .int (vs.set i w) → Rt p e below s k n P (T'.setTop (mkF m pc' Ls S))) : Rt p e below s k n P (T.setTop (mkF m pc Ls (.int x :: .int j :: .ref a :: S))) := by
  subst hp hw
  obtain ⟨locs, X, N, eT⟩ := X
  obtain ⟨cl, A, r, q⟩ := id F
  obtain ⟨T', h', X', e', W', st⟩ := stI X hx hZ eT A (j := j) (inA r hj hi hv) (g := mkF m pc Ls (.int x :: .int j :: .ref a :: S)) rfl rfl hd
  rw [hi] at W'
  exact Rt.go st (hh T' h' ⟨_, X', Fr.snoc X' N ga, e'⟩ W' (F.set W'))
theorem Rt.lastore (X : Sd p l e R s m args below meth c T n0 cells slots h0) (hx : p.tables.exec = Jvm.exec) {Z : State} (hZ : Z.Warmed39 s.vm) {a : Addr} {vs : List Value} (F : IA Z h0 a .long vs) {j : Int32} {i : Nat} (hi : j.toNatClampNeg = i) (hj : ¬ j < 0) (hv : i < vs.length) {x : Int64} {w : Value} (hw : .long x = w) (ga : n0 ≤ a) {pc pc' : Nat} {Ls : Array Slot} {S : List Value} (hd : decode c.code pc = .ok (.lastore, 1)) (hp : pc + 1 = pc')
    (hh : ∀ T' h', Sd p l e R s m args below meth c T' n0 cells slots h' → Wr h0 h' a i w → IA Z h' a .long (vs.set i w) → Rt p e below s k n P (T'.setTop (mkF m pc' Ls S))) : Rt p e below s k n P (T.setTop (mkF m pc Ls (.long x :: .int j :: .ref a :: S))) := by
  subst hp hw
  obtain ⟨locs, X, N, eT⟩ := X
  obtain ⟨cl, A, r, q⟩ := id F
  obtain ⟨T', h', X', e', W', st⟩ := stJ X hx hZ eT A (j := j) (inA r hj hi hv) (g := mkF m pc Ls (.long x :: .int j :: .ref a :: S)) rfl rfl hd
  rw [hi] at W'
  exact Rt.go st (hh T' h' ⟨_, X', Fr.snoc X' N ga, e'⟩ W' (F.set W'))
theorem Rt.bastore (X : Sd p l e R s m args below meth c T n0 cells slots h0) (hx : p.tables.exec = Jvm.exec) {Z : State} (hZ : Z.Warmed39 s.vm) {a : Addr} {vs : List Value} (F : IA Z h0 a .byte vs) {j : Int32} {i : Nat} (hi : j.toNatClampNeg = i) (hj : ¬ j < 0) (hv : i < vs.length) {x : Int32} {w : Value} (hw : .int (nar .byte x) = w) (ga : n0 ≤ a) {pc pc' : Nat} {Ls : Array Slot} {S : List Value} (hd : decode c.code pc = .ok (.bastore, 1)) (hp : pc + 1 = pc')
    (hh : ∀ T' h', Sd p l e R s m args below meth c T' n0 cells slots h' → Wr h0 h' a i w → IA Z h' a .byte (vs.set i w) → Rt p e below s k n P (T'.setTop (mkF m pc' Ls S))) : Rt p e below s k n P (T.setTop (mkF m pc Ls (.int x :: .int j :: .ref a :: S))) := by
  subst hp hw
  obtain ⟨locs, X, N, eT⟩ := X
  obtain ⟨cl, A, r, q⟩ := id F
  obtain ⟨T', h', X', e', W', st⟩ := stB X hx hZ eT A (j := j) (inA r hj hi hv) (g := mkF m pc Ls (.int x :: .int j :: .ref a :: S)) rfl rfl hd
  rw [hi] at W'
  exact Rt.go st (hh T' h' ⟨_, X', Fr.snoc X' N ga, e'⟩ W' (F.set W'))
theorem Rt.zastore (X : Sd p l e R s m args below meth c T n0 cells slots h0) (hx : p.tables.exec = Jvm.exec) {Z : State} (hZ : Z.Warmed39 s.vm) {a : Addr} {vs : List Value} (F : IA Z h0 a .boolean vs) {j : Int32} {i : Nat} (hi : j.toNatClampNeg = i) (hj : ¬ j < 0) (hv : i < vs.length) {x : Int32} {w : Value} (hw : .int (nar .boolean x) = w) (ga : n0 ≤ a) {pc pc' : Nat} {Ls : Array Slot} {S : List Value} (hd : decode c.code pc = .ok (.bastore, 1)) (hp : pc + 1 = pc')
    (hh : ∀ T' h', Sd p l e R s m args below meth c T' n0 cells slots h' → Wr h0 h' a i w → IA Z h' a .boolean (vs.set i w) → Rt p e below s k n P (T'.setTop (mkF m pc' Ls S))) : Rt p e below s k n P (T.setTop (mkF m pc Ls (.int x :: .int j :: .ref a :: S))) := by
  subst hp hw
  obtain ⟨locs, X, N, eT⟩ := X
  obtain ⟨cl, A, r, q⟩ := id F
  obtain ⟨T', h', X', e', W', st⟩ := stZ X hx hZ eT A (j := j) (inA r hj hi hv) (g := mkF m pc Ls (.int x :: .int j :: .ref a :: S)) rfl rfl hd
  rw [hi] at W'
  exact Rt.go st (hh T' h' ⟨_, X', Fr.snoc X' N ga, e'⟩ W' (F.set W'))
theorem Rt.castore (X : Sd p l e R s m args below meth c T n0 cells slots h0) (hx : p.tables.exec = Jvm.exec) {Z : State} (hZ : Z.Warmed39 s.vm) {a : Addr} {vs : List Value} (F : IA Z h0 a .char vs) {j : Int32} {i : Nat} (hi : j.toNatClampNeg = i) (hj : ¬ j < 0) (hv : i < vs.length) {x : Int32} {w : Value} (hw : .int (nar .char x) = w) (ga : n0 ≤ a) {pc pc' : Nat} {Ls : Array Slot} {S : List Value} (hd : decode c.code pc = .ok (.castore, 1)) (hp : pc + 1 = pc')
    (hh : ∀ T' h', Sd p l e R s m args below meth c T' n0 cells slots h' → Wr h0 h' a i w → IA Z h' a .char (vs.set i w) → Rt p e below s k n P (T'.setTop (mkF m pc' Ls S))) : Rt p e below s k n P (T.setTop (mkF m pc Ls (.int x :: .int j :: .ref a :: S))) := by
  subst hp hw
  obtain ⟨locs, X, N, eT⟩ := X
  obtain ⟨cl, A, r, q⟩ := id F
  obtain ⟨T', h', X', e', W', st⟩ := stC X hx hZ eT A (j := j) (inA r hj hi hv) (g := mkF m pc Ls (.int x :: .int j :: .ref a :: S)) rfl rfl hd
  rw [hi] at W'
  exact Rt.go st (hh T' h' ⟨_, X', Fr.snoc X' N ga, e'⟩ W' (F.set W'))
/-- an array of so many elements -/
def IL (Z : State) (h : Heap) (a : Addr) (ty : FieldType) (N : Nat) : Prop := ∃ vs, IA Z h a ty vs ∧ vs.length = N
section Arrays
variable {Z : State} {h h' : Heap} {a b : Addr} {ty : FieldType} {N : Nat}
theorem IL.lt (F : IL Z h a ty N) : a < h.size := by obtain ⟨_, A, -⟩ := F; exact A.lt
theorem IL.ext (F : IL Z h a ty N) (E : Ext h h') : IL Z h' a ty N := by obtain ⟨c, A, r⟩ := F; exact ⟨c, A.ext E, r⟩
theorem IL.other {sl : Nat} {v : Value} (F : IL Z h a ty N) (W : Wr h h' b sl v) (q : a ≠ b) : IL Z h' a ty N := by obtain ⟨c, A, r⟩ := F; exact ⟨c, A.other W q, r⟩
theorem IL.wr {sl : Nat} {v : Value} (F : IL Z h a ty N) (W : Wr h h' b sl v) : IL Z h' a ty N := by
  obtain ⟨vs, A, r⟩ := F
  by_cases q : a = b
  · subst q; exact ⟨_, A.set W, by rw [List.length_set]; exact r⟩
  · exact ⟨vs, A.other W q, r⟩
theorem IL.keep {ws : List Addr} (F : IL Z h a ty N) (K : Keep h h' ws) : IL Z h' a ty N := by
  obtain ⟨vs, ⟨c, ⟨A1, ⟨A2, A3⟩, A4⟩, r1, r2⟩, r⟩ := F
  obtain ⟨c', q, e1, e2, e3⟩ := K.2.2 a c A1
  refine ⟨c'.slots.toList, ⟨c', ⟨q, ⟨?_, ?_⟩, by rw [e2]; exact A4⟩, by simp, ?_⟩, ?_⟩
  · rw [e2]; exact A2
  · rw [e1]; exact A3
  · rw [Array.length_toList, e3, r1]; simpa using r2
  · rw [Array.length_toList, e3, r1]; simpa using r
end Arrays
theorem Rt.arraylengthL (X : Sd p l e R s m args below meth c T n0 cells slots h0) (hx : p.tables.exec = Jvm.exec) {Z : State} (hZ : Z.Warmed39 s.vm) {ty : FieldType} {a : Addr} {N : Nat} (F : IL Z h0 a ty N) {v : Int32} (hv : N.toInt32 = v) {pc pc' : Nat} {Ls : Array Slot} {S : List Value} (hd : decode c.code pc = .ok (.arraylength, 1)) (hp : pc + 1 = pc')
    (h : Rt p e below s k n P (T.setTop (mkF m pc' Ls (.int v :: S)))) : Rt p e below s k n P (T.setTop (mkF m pc Ls (.ref a :: S))) := by
  obtain ⟨vs, F, rfl⟩ := F
  exact Rt.arraylength X hx hZ F hv hd hp h
theorem Rt.iastoreL (X : Sd p l e R s m args below meth c T n0 cells slots h0) (hx : p.tables.exec = Jvm.exec) {Z : State} (hZ : Z.Warmed39 s.vm) {a : Addr} {N : Nat} (F : IL Z h0 a .int N) {j : Int32} {i : Nat} (hi : j.toNatClampNeg = i) (hj : ¬ j < 0) (hv : i < N) {x : Int32} (ga : n0 ≤ a) {pc pc' : Nat} {Ls : Array Slot} {S : List Value} (hd : decode c.code pc = .ok (.iastore, 1)) (hp : pc + 1 = pc')
    (hh : ∀ T' h', Sd p l e R s m args below meth c T' n0 cells slots h' → ∀ w, Wr h0 h' a i w → IL Z h' a .int N → Rt p e below s k n P (T'.setTop (mkF m pc' Ls S))) : Rt p e below s k n P (T.setTop (mkF m pc Ls (.int x :: .int j :: .ref a :: S))) := by
  obtain ⟨vs, F, rfl⟩ := F
  exact Rt.iastore X hx hZ F hi hj hv rfl ga hd hp fun T' h' X' W' F' => hh T' h' X' _ W' ⟨_, F', List.length_set⟩
theorem Rt.lastoreL (X : Sd p l e R s m args below meth c T n0 cells slots h0) (hx : p.tables.exec = Jvm.exec) {Z : State} (hZ : Z.Warmed39 s.vm) {a : Addr} {N : Nat} (F : IL Z h0 a .long N) {j : Int32} {i : Nat} (hi : j.toNatClampNeg = i) (hj : ¬ j < 0) (hv : i < N) {x : Int64} (ga : n0 ≤ a) {pc pc' : Nat} {Ls : Array Slot} {S : List Value} (hd : decode c.code pc = .ok (.lastore, 1)) (hp : pc + 1 = pc')
    (hh : ∀ T' h', Sd p l e R s m args below meth c T' n0 cells slots h' → ∀ w, Wr h0 h' a i w → IL Z h' a .long N → Rt p e below s k n P (T'.setTop (mkF m pc' Ls S))) : Rt p e below s k n P (T.setTop (mkF m pc Ls (.long x :: .int j :: .ref a :: S))) := by
  obtain ⟨vs, F, rfl⟩ := F
  exact Rt.lastore X hx hZ F hi hj hv rfl ga hd hp fun T' h' X' W' F' => hh T' h' X' _ W' ⟨_, F', List.length_set⟩
theorem Rt.bastoreL (X : Sd p l e R s m args below meth c T n0 cells slots h0) (hx : p.tables.exec = Jvm.exec) {Z : State} (hZ : Z.Warmed39 s.vm) {a : Addr} {N : Nat} (F : IL Z h0 a .byte N) {j : Int32} {i : Nat} (hi : j.toNatClampNeg = i) (hj : ¬ j < 0) (hv : i < N) {x : Int32} (ga : n0 ≤ a) {pc pc' : Nat} {Ls : Array Slot} {S : List Value} (hd : decode c.code pc = .ok (.bastore, 1)) (hp : pc + 1 = pc')
    (hh : ∀ T' h', Sd p l e R s m args below meth c T' n0 cells slots h' → ∀ w, Wr h0 h' a i w → IL Z h' a .byte N → Rt p e below s k n P (T'.setTop (mkF m pc' Ls S))) : Rt p e below s k n P (T.setTop (mkF m pc Ls (.int x :: .int j :: .ref a :: S))) := by
  obtain ⟨vs, F, rfl⟩ := F
  exact Rt.bastore X hx hZ F hi hj hv rfl ga hd hp fun T' h' X' W' F' => hh T' h' X' _ W' ⟨_, F', List.length_set⟩
theorem Rt.zastoreL (X : Sd p l e R s m args below meth c T n0 cells slots h0) (hx : p.tables.exec = Jvm.exec) {Z : State} (hZ : Z.Warmed39 s.vm) {a : Addr} {N : Nat} (F : IL Z h0 a .boolean N) {j : Int32} {i : Nat} (hi : j.toNatClampNeg = i) (hj : ¬ j < 0) (hv : i < N) {x : Int32} (ga : n0 ≤ a) {pc pc' : Nat} {Ls : Array Slot} {S : List Value} (hd : decode c.code pc = .ok (.bastore, 1)) (hp : pc + 1 = pc')
    (hh : ∀ T' h', Sd p l e R s m args below meth c T' n0 cells slots h' → ∀ w, Wr h0 h' a i w → IL Z h' a .boolean N → Rt p e below s k n P (T'.setTop (mkF m pc' Ls S))) : Rt p e below s k n P (T.setTop (mkF m pc Ls (.int x :: .int j :: .ref a :: S))) := by
  obtain ⟨vs, F, rfl⟩ := F
  exact Rt.zastore X hx hZ F hi hj hv rfl ga hd hp fun T' h' X' W' F' => hh T' h' X' _ W' ⟨_, F', List.length_set⟩
theorem Rt.castoreL (X : Sd p l e R s m args below meth c T n0 cells slots h0) (hx : p.tables.exec = Jvm.exec) {Z : State} (hZ : Z.Warmed39 s.vm) {a : Addr} {N : Nat} (F : IL Z h0 a .char N) {j : Int32} {i : Nat} (hi : j.toNatClampNeg = i) (hj : ¬ j < 0) (hv : i < N) {x : Int32} (ga : n0 ≤ a) {pc pc' : Nat} {Ls : Array Slot} {S : List Value} (hd : decode c.code pc = .ok (.castore, 1)) (hp : pc + 1 = pc')
    (hh : ∀ T' h', Sd p l e R s m args below meth c T' n0 cells slots h' → ∀ w, Wr h0 h' a i w → IL Z h' a .char N → Rt p e below s k n P (T'.setTop (mkF m pc' Ls S))) : Rt p e below s k n P (T.setTop (mkF m pc Ls (.int x :: .int j :: .ref a :: S))) := by
  obtain ⟨vs, F, rfl⟩ := F
  exact Rt.castore X hx hZ F hi hj hv rfl ga hd hp fun T' h' X' W' F' => hh T' h' X' _ W' ⟨_, F', List.length_set⟩
end Own
abbrev nm1 : String := "com/example/cogwire/cogwire/model/WireValue"
abbrev mt1 : MethodName := ⟨"com/example/cogwire/cogwire/model/WireValue", "<init>", "(Ljava/lang/Object;JI)V"⟩
abbrev mt2 : MethodName := ⟨"com/example/cogwire/cogwire/model/WireValue", "isNewerThan", "(Lcom/example/cogwire/cogwire/model/WireValue;)Z"⟩
theorem d1_0 : decode prog_101_method_1_code 0 = .ok (.aload_n 0, 1) := by decide +kernel
theorem d1_1 : decode prog_101_method_1_code 1 = .ok (.invokespecial 1, 3) := by decide +kernel
theorem d1_4 : decode prog_101_method_1_code 4 = .ok (.iload 4, 2) := by decide +kernel
theorem d1_6 : decode prog_101_method_1_code 6 = .ok (.ifCond .lt 10, 3) := by decide +kernel
theorem d1_9 : decode prog_101_method_1_code 9 = .ok (.iload 4, 2) := by decide +kernel
theorem d1_11 : decode prog_101_method_1_code 11 = .ok (.ldc 9, 2) := by decide +kernel
theorem d1_13 : decode prog_101_method_1_code 13 = .ok (.if_icmp .lt 18, 3) := by decide +kernel
theorem d1_31 : decode prog_101_method_1_code 31 = .ok (.aload_n 0, 1) := by decide +kernel
theorem d1_32 : decode prog_101_method_1_code 32 = .ok (.aload_n 1, 1) := by decide +kernel
theorem d1_33 : decode prog_101_method_1_code 33 = .ok (.putfield 19, 3) := by decide +kernel
theorem d1_36 : decode prog_101_method_1_code 36 = .ok (.aload_n 0, 1) := by decide +kernel
theorem d1_37 : decode prog_101_method_1_code 37 = .ok (.lload_n 2, 1) := by decide +kernel
theorem d1_38 : decode prog_101_method_1_code 38 = .ok (.putfield 23, 3) := by decide +kernel
theorem d1_41 : decode prog_101_method_1_code 41 = .ok (.aload_n 0, 1) := by decide +kernel
theorem d1_42 : decode prog_101_method_1_code 42 = .ok (.iload 4, 2) := by decide +kernel
theorem d1_44 : decode prog_101_method_1_code 44 = .ok (.putfield 27, 3) := by decide +kernel
theorem d1_47 : decode prog_101_method_1_code 47 = .ok (.return_, 1) := by decide +kernel
def Q1 (Z : State) (a1 : Addr) (q3 : Int64) (p4 : Int32) (h0 : Heap) (n0 : Nat) (v : Option Value) (h : Heap) (L : List Loc) : Prop := v = none ∧ Fr n0 L ∧ Keep h0 h [a1] ∧ Exa Z h a1 nm1 ∧ Fld Z h a1 nm1 "value" "Ljava/lang/Object;" .null ∧ Fld Z h a1 nm1 "seconds" "J" (.long q3) ∧ Fld Z h a1 nm1 "nanoseconds" "I" (.int p4)
def rmR1 : Room := { frames := 1, cells := 0, slots := 0, locals := 12 }
theorem ef_1 (m : MethodId) (a1 : Addr) (q3 : Int64) (p4 : Int32) : entryFrame m #[(.ref a1), .null, (.long q3), (.int p4)] 5 = mkF m 0 #[.val (.ref a1), .val .null, .val (.long q3), .second, .val (.int p4)] [] := by first | (simp [entryFrame, mkF, argsToLocals, Value.category]; done) | rfl
theorem pn_com_example_cogwire_cogwire_model_WireValue : plainName "com/example/cogwire/cogwire/model/WireValue" = true := by first | (simp [plainName, overriddenIn]; done) | decide +kernel
set_option maxRecDepth 65536 in
set_option maxHeartbeats 40000000 in
theorem rm1 (l : Launch) (Z : State) (a0 : Array Value) (hw : ∀ d ∈ tables_1, d.before a0 Z = true) (ws : List Jvm.Cond) (a1 : Addr) (q3 : Int64) (p4 : Int32) (h0 : Heap) (n0 : Nat) (Z0 : n0 ≤ h0.size) (F_E_a1 : Exa Z h0 a1 nm1) (F_F_a1_value : Fld Z h0 a1 nm1 "value" "Ljava/lang/Object;" .null) (F_F_a1_seconds : Fld Z h0 a1 nm1 "seconds" "J" (.long (0 : Int64))) (F_F_a1_nanoseconds : Fld Z h0 a1 nm1 "nanoseconds" "I" (.int (0 : Int32))) (g_a1 : n0 ≤ a1) (hp1 : ¬ p4 < (0 : Int32)) (hp2 : p4 < (1000000000 : Int32)) :
    Mt l Z mt1 (Jvm.Cond.code mt1 prog_101_method_1_code 5 none :: ws) rmR1 #[(.ref a1), .null, (.long q3), (.int p4)] h0 (Q1 Z a1 q3 p4 h0 n0) := by
  refine Mt.of n0 (plainFor_of_name pn_com_example_cogwire_cogwire_model_WireValue) ?_
  intro p e s m below meth c T0 X0 hx hZ hby hml hown hret hlk hnm hs0
  have hown : s.vm.findClass "com/example/cogwire/cogwire/model/WireValue" = some m.cls := hown
  rw [ef_1]
  show Rt p e below s rmR1.cells rmR1.slots (Q1 Z a1 q3 p4 h0 n0) (T0.setTop (mkF m 0 #[.val (.ref a1), .val .null, .val (.long q3), .second, .val (.int p4)] []))
  refine Rt.aloadN (pc' := 1) X0 hx (hb hby d1_0) rfl rfl rfl ?_
  refine Rt.initO (pc' := 4) X0 hx hZ hown (hw _ (List.mem_of_getElem? (i := 8) rfl)) (hw _ (List.mem_of_getElem? (i := 9) rfl)) (hw _ (List.mem_of_getElem? (i := 10) rfl)) (by rw [hml]; rfl) (hb hby d1_1) (by decide) (W := 0) (Nat.le_of_eq rfl) (by decide) rfl ?_
  intro T1 X1
  refine Rt.iload (pc' := 6) X1 hx (hb hby d1_4) rfl rfl ?_
  refine Rt.ifN (pc' := 9) X1 hx (hb hby d1_6) ((if0 _ _).trans (flt hp1).1) rfl ?_
  refine Rt.iload (pc' := 11) X1 hx (hb hby d1_9) rfl rfl ?_
  refine Rt.ldcInt (pc' := 13) X1 hx hZ hown (hw _ (List.mem_of_getElem? (i := 11) rfl)) (hb hby d1_11) rfl ?_
  refine Rt.icmpY (pc' := 31) X1 hx (hb hby d1_13) (tlt hp2).1 (by decide) (by decide) ?_
  refine Rt.aloadN (pc' := 32) X1 hx (hb hby d1_31) rfl rfl rfl ?_
  refine Rt.aloadN (pc' := 33) X1 hx (hb hby d1_32) rfl rfl rfl ?_
  refine Rt.putF (pc' := 36) (v := .null) X1 hx hZ hown (host := "") (Or.inl (hw _ (List.mem_of_getElem? (i := 12) rfl))) F_F_a1_value F_E_a1 (Or.inr ⟨(hw _ (List.mem_of_getElem? (i := 13) rfl)), rfl, hnm⟩) (hw _ (List.mem_of_getElem? (i := 3) rfl)) (ty := (.object "java/lang/Object")) (by decide) rfl rfl g_a1 (hb hby d1_33) rfl ?_
  intro T2 h2 X2 W2 F2
  have F3 : Exa Z h2 a1 nm1 := F_E_a1.wr W2
  have F4 : Fld Z h2 a1 nm1 "seconds" "J" (.long (0 : Int64)) := F_F_a1_seconds.other W2 (Or.inr (slot_ne (Or.inr (hw _ (List.mem_of_getElem? (i := 15) rfl))) (Or.inr (hw _ (List.mem_of_getElem? (i := 13) rfl))) (by decide) (t := .long) (t' := (.object "java/lang/Object")) (by decide) (by decide)))
  have F5 : Fld Z h2 a1 nm1 "nanoseconds" "I" (.int (0 : Int32)) := F_F_a1_nanoseconds.other W2 (Or.inr (slot_ne (Or.inr (hw _ (List.mem_of_getElem? (i := 17) rfl))) (Or.inr (hw _ (List.mem_of_getElem? (i := 13) rfl))) (by decide) (t := .int) (t' := (.object "java/lang/Object")) (by decide) (by decide)))
  have K6 : Keep h0 h2 [a1] := (Keep.refl h0 [a1]).wr W2 (Or.inl (List.mem_of_getElem? (i := 0) rfl))
  have Z7 : n0 ≤ h2.size := Nat.le_trans Z0 (Keep.of_wr W2).1
  refine Rt.aloadN (pc' := 37) X2 hx (hb hby d1_36) rfl rfl rfl ?_
  refine Rt.lloadN (pc' := 38) X2 hx (hb hby d1_37) rfl rfl ?_
  refine Rt.putF (pc' := 41) (v := (.long q3)) X2 hx hZ hown (host := "") (Or.inl (hw _ (List.mem_of_getElem? (i := 14) rfl))) F4 F3 (Or.inr ⟨(hw _ (List.mem_of_getElem? (i := 15) rfl)), rfl, hnm⟩) (hw _ (List.mem_of_getElem? (i := 3) rfl)) (ty := .long) (by decide) rfl rfl g_a1 (hb hby d1_38) rfl ?_
  intro T8 h8 X8 W8 F8
  have F9 : Exa Z h8 a1 nm1 := F3.wr W8
  have F10 : Fld Z h8 a1 nm1 "value" "Ljava/lang/Object;" .null := F2.other W8 (Or.inr (slot_ne (Or.inr (hw _ (List.mem_of_getElem? (i := 13) rfl))) (Or.inr (hw _ (List.mem_of_getElem? (i := 15) rfl))) (by decide) (t := (.object "java/lang/Object")) (t' := .long) (by decide) (by decide)))
  have F11 : Fld Z h8 a1 nm1 "nanoseconds" "I" (.int (0 : Int32)) := F5.other W8 (Or.inr (slot_ne (Or.inr (hw _ (List.mem_of_getElem? (i := 17) rfl))) (Or.inr (hw _ (List.mem_of_getElem? (i := 15) rfl))) (by decide) (t := .int) (t' := .long) (by decide) (by decide)))
  have K12 : Keep h0 h8 [a1] := K6.wr W8 (Or.inl (List.mem_of_getElem? (i := 0) rfl))
  have Z13 : n0 ≤ h8.size := Nat.le_trans Z7 (Keep.of_wr W8).1
  refine Rt.aloadN (pc' := 42) X8 hx (hb hby d1_41) rfl rfl rfl ?_
  refine Rt.iload (pc' := 44) X8 hx (hb hby d1_42) rfl rfl ?_
  refine Rt.putF (pc' := 47) (v := (.int p4)) X8 hx hZ hown (host := "") (Or.inl (hw _ (List.mem_of_getElem? (i := 16) rfl))) F11 F9 (Or.inr ⟨(hw _ (List.mem_of_getElem? (i := 17) rfl)), rfl, hnm⟩) (hw _ (List.mem_of_getElem? (i := 3) rfl)) (ty := .int) (by decide) rfl rfl g_a1 (hb hby d1_44) rfl ?_
  intro T14 h14 X14 W14 F14
  have F15 : Exa Z h14 a1 nm1 := F9.wr W14
  have F16 : Fld Z h14 a1 nm1 "value" "Ljava/lang/Object;" .null := F10.other W14 (Or.inr (slot_ne (Or.inr (hw _ (List.mem_of_getElem? (i := 13) rfl))) (Or.inr (hw _ (List.mem_of_getElem? (i := 17) rfl))) (by decide) (t := (.object "java/lang/Object")) (t' := .int) (by decide) (by decide)))
  have F17 : Fld Z h14 a1 nm1 "seconds" "J" (.long q3) := F8.other W14 (Or.inr (slot_ne (Or.inr (hw _ (List.mem_of_getElem? (i := 15) rfl))) (Or.inr (hw _ (List.mem_of_getElem? (i := 17) rfl))) (by decide) (t := .long) (t' := .int) (by decide) (by decide)))
  have K18 : Keep h0 h14 [a1] := K12.wr W14 (Or.inl (List.mem_of_getElem? (i := 0) rfl))
  have Z19 : n0 ≤ h14.size := Nat.le_trans Z13 (Keep.of_wr W14).1
  exact Rt.retV X14 hx hlk hret (hb hby d1_47) (by decide) (by decide) (fun L N => ⟨rfl, N, K18, F15, F16, F17, F14⟩)
theorem d3_0 : decode prog_101_method_6_code 0 = .ok (.aload_n 1, 1) := by decide +kernel
theorem d3_1 : decode prog_101_method_6_code 1 = .ok (.ifnull 38, 3) := by decide +kernel
theorem d3_4 : decode prog_101_method_6_code 4 = .ok (.aload_n 0, 1) := by decide +kernel
theorem d3_5 : decode prog_101_method_6_code 5 = .ok (.getfield 23, 3) := by decide +kernel
theorem d3_8 : decode prog_101_method_6_code 8 = .ok (.aload_n 1, 1) := by decide +kernel
theorem d3_9 : decode prog_101_method_6_code 9 = .ok (.getfield 23, 3) := by decide +kernel
theorem d3_12 : decode prog_101_method_6_code 12 = .ok (.lcmp, 1) := by decide +kernel
theorem d3_13 : decode prog_101_method_6_code 13 = .ok (.ifCond .gt 26, 3) := by decide +kernel
theorem d3_39 : decode prog_101_method_6_code 39 = .ok (.iconst 1, 1) := by decide +kernel
theorem d3_40 : decode prog_101_method_6_code 40 = .ok (.goto 4, 3) := by decide +kernel
theorem d3_44 : decode prog_101_method_6_code 44 = .ok (.ireturn, 1) := by decide +kernel
theorem d3_16 : decode prog_101_method_6_code 16 = .ok (.aload_n 0, 1) := by decide +kernel
theorem d3_17 : decode prog_101_method_6_code 17 = .ok (.getfield 23, 3) := by decide +kernel
theorem d3_20 : decode prog_101_method_6_code 20 = .ok (.aload_n 1, 1) := by decide +kernel
theorem d3_21 : decode prog_101_method_6_code 21 = .ok (.getfield 23, 3) := by decide +kernel
theorem d3_24 : decode prog_101_method_6_code 24 = .ok (.lcmp, 1) := by decide +kernel
theorem d3_25 : decode prog_101_method_6_code 25 = .ok (.ifCond .ne 18, 3) := by decide +kernel
theorem d3_28 : decode prog_101_method_6_code 28 = .ok (.aload_n 0, 1) := by decide +kernel
theorem d3_29 : decode prog_101_method_6_code 29 = .ok (.getfield 27, 3) := by decide +kernel
theorem d3_32 : decode prog_101_method_6_code 32 = .ok (.aload_n 1, 1) := by decide +kernel
theorem d3_33 : decode prog_101_method_6_code 33 = .ok (.getfield 27, 3) := by decide +kernel
theorem d3_36 : decode prog_101_method_6_code 36 = .ok (.if_icmp .le 7, 3) := by decide +kernel
theorem d3_43 : decode prog_101_method_6_code 43 = .ok (.iconst 0, 1) := by decide +kernel
def f3 (s1 : Int64) (n1 : Int32) (s2 : Int64) (n2 : Int32) : Int32 := (if s2 < s1 then (1 : Int32) else (if s1 = s2 then (if n2 < n1 then (1 : Int32) else (0 : Int32)) else (0 : Int32)))
def Q3 (a1 : Addr) (a2 : Addr) (s1 : Int64) (n1 : Int32) (s2 : Int64) (n2 : Int32) (h0 : Heap) (n0 : Nat) (v : Option Value) (h : Heap) (L : List Loc) : Prop := v = some (.int (f3 s1 n1 s2 n2)) ∧ Fr n0 L ∧ h = h0
def rmR3 : Room := { frames := 0, cells := 0, slots := 0, locals := 0 }
theorem ef_3 (m : MethodId) (a1 : Addr) (a2 : Addr) : entryFrame m #[(.ref a1), (.ref a2)] 2 = mkF m 0 #[.val (.ref a1), .val (.ref a2)] [] := by first | (simp [entryFrame, mkF, argsToLocals, Value.category]; done) | rfl
set_option maxRecDepth 65536 in
set_option maxHeartbeats 40000000 in
theorem rm3 (l : Launch) (Z : State) (a0 : Array Value) (hw : ∀ d ∈ tables_1, d.before a0 Z = true) (ws : List Jvm.Cond) (a1 : Addr) (a2 : Addr) (s1 : Int64) (n1 : Int32) (s2 : Int64) (n2 : Int32) (h0 : Heap) (n0 : Nat) (F_F_a1_seconds : Fld Z h0 a1 nm1 "seconds" "J" (.long s1)) (F_F_a1_nanoseconds : Fld Z h0 a1 nm1 "nanoseconds" "I" (.int n1)) (F_F_a2_seconds : Fld Z h0 a2 nm1 "seconds" "J" (.long s2)) (F_F_a2_nanoseconds : Fld Z h0 a2 nm1 "nanoseconds" "I" (.int n2)) :
    Mt l Z mt2 (Jvm.Cond.code mt2 prog_101_method_6_code 2 (some .boolean) :: ws) rmR3 #[(.ref a1), (.ref a2)] h0 (Q3 a1 a2 s1 n1 s2 n2 h0 n0) := by
  refine Mt.of n0 (plainFor_of_name pn_com_example_cogwire_cogwire_model_WireValue) ?_
  intro p e s m below meth c T0 X0 hx hZ hby hml hown hret hlk hnm hs0
  have hown : s.vm.findClass "com/example/cogwire/cogwire/model/WireValue" = some m.cls := hown
  rw [ef_3]
  show Rt p e below s rmR3.cells rmR3.slots (Q3 a1 a2 s1 n1 s2 n2 h0 n0) (T0.setTop (mkF m 0 #[.val (.ref a1), .val (.ref a2)] []))
  refine Rt.aloadN (pc' := 1) X0 hx (hb hby d3_0) rfl rfl rfl ?_
  refine Rt.ifnullN (pc' := 4) X0 hx (hb hby d3_1) rfl ?_
  refine Rt.aloadN (pc' := 5) X0 hx (hb hby d3_4) rfl rfl rfl ?_
  refine Rt.getF (pc' := 8) (v := (.long s1)) X0 hx hZ hown (host := "") (Or.inl (hw _ (List.mem_of_getElem? (i := 14) rfl))) F_F_a1_seconds (hb hby d3_5) rfl ?_
  intro T1 X1
  refine Rt.aloadN (pc' := 9) X1 hx (hb hby d3_8) rfl rfl rfl ?_
  refine Rt.getF (pc' := 12) (v := (.long s2)) X1 hx hZ hown (host := "") (Or.inl (hw _ (List.mem_of_getElem? (i := 14) rfl))) F_F_a2_seconds (hb hby d3_9) rfl ?_
  intro T2 X2
  refine Rt.lcmp (pc' := 13) X2 hx (hb hby d3_12) rfl ?_
  by_cases hc13_3 : s2 < s1
  · refine Rt.ifY (pc' := 39) X2 hx (hb hby d3_13) (gtl hc13_3).1 (by decide) (by decide) ?_
    refine Rt.iconst (pc' := 40) (v := (1 : Int32)) X2 hx (hb hby d3_39) rfl rfl ?_
    refine Rt.goto (pc' := 44) X2 hx (hb hby d3_40) (by decide) (by decide) ?_
    exact Rt.retZ (w := (1 : Int32)) X2 hx hlk hret (by simp) (hb hby d3_44) (by decide) (by decide) (by decide) (fun L N => ⟨congrArg some (congrArg Value.int (by rw [f3, if_pos hc13_3])), N, rfl⟩)
  · refine Rt.ifN (pc' := 16) X2 hx (hb hby d3_13) (gfl hc13_3).1 rfl ?_
    refine Rt.aloadN (pc' := 17) X2 hx (hb hby d3_16) rfl rfl rfl ?_
    refine Rt.getF (pc' := 20) (v := (.long s1)) X2 hx hZ hown (host := "") (Or.inl (hw _ (List.mem_of_getElem? (i := 14) rfl))) F_F_a1_seconds (hb hby d3_17) rfl ?_
    intro T4 X4
    refine Rt.aloadN (pc' := 21) X4 hx (hb hby d3_20) rfl rfl rfl ?_
    refine Rt.getF (pc' := 24) (v := (.long s2)) X4 hx hZ hown (host := "") (Or.inl (hw _ (List.mem_of_getElem? (i := 14) rfl))) F_F_a2_seconds (hb hby d3_21) rfl ?_
    intro T5 X5
    refine Rt.lcmp (pc' := 25) X5 hx (hb hby d3_24) rfl ?_
    by_cases hc25_6 : s1 = s2
    · refine Rt.ifN (pc' := 28) X5 hx (hb hby d3_25) (etl hc25_6).2 rfl ?_
      refine Rt.aloadN (pc' := 29) X5 hx (hb hby d3_28) rfl rfl rfl ?_
      refine Rt.getF (pc' := 32) (v := (.int n1)) X5 hx hZ hown (host := "") (Or.inl (hw _ (List.mem_of_getElem? (i := 16) rfl))) F_F_a1_nanoseconds (hb hby d3_29) rfl ?_
      intro T7 X7
      refine Rt.aloadN (pc' := 33) X7 hx (hb hby d3_32) rfl rfl rfl ?_
      refine Rt.getF (pc' := 36) (v := (.int n2)) X7 hx hZ hown (host := "") (Or.inl (hw _ (List.mem_of_getElem? (i := 16) rfl))) F_F_a2_nanoseconds (hb hby d3_33) rfl ?_
      intro T8 X8
      by_cases hc36_9 : n2 < n1
      · refine Rt.icmpN (pc' := 39) X8 hx (hb hby d3_36) (tlt hc36_9).2.2.2 rfl ?_
        refine Rt.iconst (pc' := 40) (v := (1 : Int32)) X8 hx (hb hby d3_39) rfl rfl ?_
        refine Rt.goto (pc' := 44) X8 hx (hb hby d3_40) (by decide) (by decide) ?_
        exact Rt.retZ (w := (1 : Int32)) X8 hx hlk hret (by simp) (hb hby d3_44) (by decide) (by decide) (by decide) (fun L N => ⟨congrArg some (congrArg Value.int (by rw [f3, if_neg hc13_3, if_pos hc25_6, if_pos hc36_9])), N, rfl⟩)
      · refine Rt.icmpY (pc' := 43) X8 hx (hb hby d3_36) (flt hc36_9).2.2.2 (by decide) (by decide) ?_
        refine Rt.iconst (pc' := 44) (v := (0 : Int32)) X8 hx (hb hby d3_43) rfl rfl ?_
        exact Rt.retZ (w := (0 : Int32)) X8 hx hlk hret (by simp) (hb hby d3_44) (by decide) (by decide) (by decide) (fun L N => ⟨congrArg some (congrArg Value.int (by rw [f3, if_neg hc13_3, if_pos hc25_6, if_neg hc36_9])), N, rfl⟩)
    · refine Rt.ifY (pc' := 43) X5 hx (hb hby d3_25) (efl hc25_6).2 (by decide) (by decide) ?_
      refine Rt.iconst (pc' := 44) (v := (0 : Int32)) X5 hx (hb hby d3_43) rfl rfl ?_
      exact Rt.retZ (w := (0 : Int32)) X5 hx hlk hret (by simp) (hb hby d3_44) (by decide) (by decide) (by decide) (fun L N => ⟨congrArg some (congrArg Value.int (by rw [f3, if_neg hc13_3, if_neg hc25_6])), N, rfl⟩)
def f3n  : Int32 := (1 : Int32)
def Q3n (a1 : Addr) (h0 : Heap) (n0 : Nat) (v : Option Value) (h : Heap) (L : List Loc) : Prop := v = some (.int f3n) ∧ Fr n0 L ∧ h = h0
def rmR3n : Room := { frames := 0, cells := 0, slots := 0, locals := 0 }
theorem ef_3n (m : MethodId) (a1 : Addr) : entryFrame m #[(.ref a1), .null] 2 = mkF m 0 #[.val (.ref a1), .val .null] [] := by first | (simp [entryFrame, mkF, argsToLocals, Value.category]; done) | rfl
set_option maxRecDepth 65536 in
set_option maxHeartbeats 40000000 in
theorem rm3n (l : Launch) (Z : State) (a0 : Array Value) (hw : ∀ d ∈ tables_1, d.before a0 Z = true) (ws : List Jvm.Cond) (a1 : Addr) (h0 : Heap) (n0 : Nat) :
    Mt l Z mt2 (Jvm.Cond.code mt2 prog_101_method_6_code 2 (some .boolean) :: ws) rmR3n #[(.ref a1), .null] h0 (Q3n a1 h0 n0) := by
  refine Mt.of n0 (plainFor_of_name pn_com_example_cogwire_cogwire_model_WireValue) ?_
  intro p e s m below meth c T0 X0 hx hZ hby hml hown hret hlk hnm hs0
  have hown : s.vm.findClass "com/example/cogwire/cogwire/model/WireValue" = some m.cls := hown
  rw [ef_3n]
  show Rt p e below s rmR3n.cells rmR3n.slots (Q3n a1 h0 n0) (T0.setTop (mkF m 0 #[.val (.ref a1), .val .null] []))
  refine Rt.aloadN (pc' := 1) X0 hx (hb hby d3_0) rfl rfl rfl ?_
  refine Rt.ifnullY (pc' := 39) X0 hx (hb hby d3_1) (by decide) (by decide) ?_
  refine Rt.iconst (pc' := 40) (v := (1 : Int32)) X0 hx (hb hby d3_39) rfl rfl ?_
  refine Rt.goto (pc' := 44) X0 hx (hb hby d3_40) (by decide) (by decide) ?_
  exact Rt.retZ (w := (1 : Int32)) X0 hx hlk hret (by simp) (hb hby d3_44) (by decide) (by decide) (by decide) (fun L N => ⟨congrArg some (congrArg Value.int (by rw [f3n])), N, rfl⟩)
theorem pd_0 : parseMethodDescriptor "(Ljava/lang/Object;JI)V" = some ⟨[(.object "java/lang/Object"), .long, .int], none⟩ := by decide +kernel
theorem pd_1 : parseMethodDescriptor "(Lcom/example/cogwire/cogwire/model/WireValue;)Z" = some ⟨[(.object "com/example/cogwire/cogwire/model/WireValue")], some .boolean⟩ := by decide +kernel
def f0_j12_s0 (p5 : Int32) : Int32 := (if (p5 &&& (1 : Int32)) = (0 : Int32) then (0 : Int32) else (1 : Int32))
def f0_j26_s0 (p5 : Int32) : Int32 := (if (p5 &&& (2 : Int32)) = (0 : Int32) then (0 : Int32) else (1 : Int32))
def f0_j40_s0 (p5 : Int32) : Int32 := (if (p5 &&& (4 : Int32)) = (0 : Int32) then (0 : Int32) else (1 : Int32))
def f0_v50 (p3 : Int32) : Int32 := ((p3 &&& (2147483647 : Int32)) % (1000000000 : Int32))
def f0_j70_s0 (p3 : Int32) (p4 : Int32) (p5 : Int32) : Int32 := (if (f0_j26_s0 p5) = (0 : Int32) then ((p4 &&& (2147483647 : Int32)) % (1000000000 : Int32)) else (f0_v50 p3))
def f0_j82_s0 (q1 : Int64) (q2 : Int64) (p5 : Int32) : Int64 := (if (f0_j12_s0 p5) = (0 : Int32) then q2 else q1)
def f0_j161_s0 (p3 : Int32) (p4 : Int32) (p5 : Int32) : Int32 := (if (f0_j70_s0 p3 p4 p5) < (f0_v50 p3) then (1 : Int32) else (0 : Int32))
def f0_j163_l16 (q1 : Int64) (q2 : Int64) (p3 : Int32) (p4 : Int32) (p5 : Int32) : Int32 := (if (f0_j82_s0 q1 q2 p5) < q1 then (1 : Int32) else (if q1 < (f0_j82_s0 q1 q2 p5) then (0 : Int32) else (f0_j161_s0 p3 p4 p5)))
def f0_v170 (q1 : Int64) (q2 : Int64) (p3 : Int32) (p4 : Int32) (p5 : Int32) : Int32 := (f3 q1 (f0_v50 p3) (f0_j82_s0 q1 q2 p5) (f0_j70_s0 p3 p4 p5))
def f0_v179 (q1 : Int64) (q2 : Int64) (p3 : Int32) (p4 : Int32) (p5 : Int32) : Int32 := (f3 (f0_j82_s0 q1 q2 p5) (f0_j70_s0 p3 p4 p5) q1 (f0_v50 p3))
def f0_j200_s0 (q1 : Int64) (q2 : Int64) (p3 : Int32) (p4 : Int32) (p5 : Int32) : Int32 := (if q1 = (f0_j82_s0 q1 q2 p5) then (if (f0_v50 p3) = (f0_j70_s0 p3 p4 p5) then (1 : Int32) else (0 : Int32)) else (0 : Int32))
def f0_j212_s0 (q1 : Int64) (q2 : Int64) (p3 : Int32) (p4 : Int32) (p5 : Int32) : Int32 := (if (f0_v170 q1 q2 p3 p4 p5) = (0 : Int32) then (0 : Int32) else (1 : Int32))
def f0_j222_s0 (q1 : Int64) (q2 : Int64) (p3 : Int32) (p4 : Int32) (p5 : Int32) : Int32 := (if (f0_v179 q1 q2 p3 p4 p5) = (0 : Int32) then (0 : Int32) else (1 : Int32))
def f0_j233_s0 (q1 : Int64) (q2 : Int64) (p3 : Int32) (p4 : Int32) (p5 : Int32) : Int32 := (if (f0_j200_s0 q1 q2 p3 p4 p5) = (0 : Int32) then (0 : Int32) else (1 : Int32))
def f0_v234 (q1 : Int64) (q2 : Int64) (p3 : Int32) (p4 : Int32) (p5 : Int32) : Int32 := (((f0_j212_s0 q1 q2 p3 p4 p5) + (f0_j222_s0 q1 q2 p3 p4 p5)) + (f0_j233_s0 q1 q2 p3 p4 p5))
def f0 (q1 : Int64) (q2 : Int64) (p3 : Int32) (p4 : Int32) (p5 : Int32) : Int32 := (if (f0_j40_s0 p5) = (0 : Int32) then (if (f0_v170 q1 q2 p3 p4 p5) = (f0_j163_l16 q1 q2 p3 p4 p5) then (if (f0_v234 q1 q2 p3 p4 p5) = (1 : Int32) then (1 : Int32) else (0 : Int32)) else (0 : Int32)) else (nar .boolean f3n))
theorem own_nn (p : Int32) : ¬ ((p &&& 2147483647) % 1000000000) < (0 : Int32) ∧ ((p &&& 2147483647) % 1000000000) < (1000000000 : Int32) := by
  have g1 := c_mask p 2147483647 31 (by decide) (by decide)
  have g2 := c_irem (p &&& 2147483647) 1000000000 1000000000 (by decide)
  have l0 : (0 : Int32).toInt = 0 := by decide
  have l1 : (1000000000 : Int32).toInt = 1000000000 := by decide
  rw [Int32.lt_iff_toInt_lt, Int32.lt_iff_toInt_lt]
  omega
theorem own_nnA (p : Int32) : ¬ f0_v50 p < (0 : Int32) ∧ f0_v50 p < (1000000000 : Int32) := own_nn p
theorem own_nnB (p q r : Int32) : ¬ f0_j70_s0 p q r < (0 : Int32) ∧ f0_j70_s0 p q r < (1000000000 : Int32) := by
  unfold f0_j70_s0
  split
  · exact own_nn q
  · exact own_nn p
def Q0 (Z : State) (q1 : Int64) (q2 : Int64) (p3 : Int32) (p4 : Int32) (p5 : Int32) (h0 : Heap) (n0 : Nat) (v : Option Value) (h : Heap) (L : List Loc) : Prop := v = some (.int (f0 q1 q2 p3 p4 p5)) ∧ Fr n0 L ∧ Keep h0 h []
theorem ef_0 (m : MethodId) (q1 : Int64) (q2 : Int64) (p3 : Int32) (p4 : Int32) (p5 : Int32) : entryFrame m #[(.long q1), (.long q2), (.int p3), (.int p4), (.int p5)] maxLocals = mkF m 0 #[.val (.long q1), .second, .val (.long q2), .second, .val (.int p3), .val (.int p4), .val (.int p5), .unset, .unset, .unset, .unset, .unset, .unset, .unset, .unset, .unset, .unset, .unset, .unset, .unset, .unset] [] := by first | (simp [entryFrame, mkF, argsToLocals, Value.category, maxLocals]; done) | rfl
theorem pn_com_example_cogwire_cogwire_model_WireValueIsNewerThanPinLaw : plainName "com/example/cogwire/cogwire/model/WireValueIsNewerThanPinLaw" = true := by first | (simp [plainName, overriddenIn]; done) | decide +kernel
set_option maxRecDepth 65536 in
set_option maxHeartbeats 40000000 in
theorem rm0 (l : Launch) (Z : State) (a0 : Array Value) (hw : ∀ d ∈ tables_1, d.before a0 Z = true) (ws : List Jvm.Cond) (q1 : Int64) (q2 : Int64) (p3 : Int32) (p4 : Int32) (p5 : Int32) (h0 : Heap) (n0 : Nat) (Z0 : n0 ≤ h0.size) :
    Mt l Z x (Jvm.Cond.code x code maxLocals ret :: ws) room_1 #[(.long q1), (.long q2), (.int p3), (.int p4), (.int p5)] h0 (Q0 Z q1 q2 p3 p4 p5 h0 n0) := by
  refine Mt.of n0 (plainFor_of_name pn_com_example_cogwire_cogwire_model_WireValueIsNewerThanPinLaw) ?_
  intro p e s m below meth c T0 X0 hx hZ hby hml hown hret hlk hnm hs0
  have hml : c.maxLocals = 21 := hml
  have hret : meth.sig.returnType = some .boolean := hret
  have hown : s.vm.findClass "com/example/cogwire/cogwire/model/WireValueIsNewerThanPinLaw" = some m.cls := hown
  rw [ef_0]
  show Rt p e below s room_1.cells room_1.slots (Q0 Z q1 q2 p3 p4 p5 h0 n0) (T0.setTop (mkF m 0 #[.val (.long q1), .second, .val (.long q2), .second, .val (.int p3), .val (.int p4), .val (.int p5), .unset, .unset, .unset, .unset, .unset, .unset, .unset, .unset, .unset, .unset, .unset, .unset, .unset, .unset] []))
  refine Rt.iload (pc' := 2) X0 hx (hb hby at_0) rfl rfl ?_
  refine Rt.iconst (pc' := 3) (v := (1 : Int32)) X0 hx (hb hby at_2) rfl rfl ?_
  refine Rt.iand (pc' := 4) (r := (p5 &&& (1 : Int32))) X0 hx (hb hby at_3) rfl rfl ?_
  have J4_1 : ∀ T1  , Sd p l e room_1 s m #[(.long q1), (.long q2), (.int p3), (.int p4), (.int p5)] below meth c T1 n0 0 0 h0 → Rt p e below s room_1.cells room_1.slots (Q0 Z q1 q2 p3 p4 p5 h0 n0) (T1.setTop (mkF m 12 #[.val (.long q1), .second, .val (.long q2), .second, .val (.int p3), .val (.int p4), .val (.int p5), .unset, .unset, .unset, .unset, .unset, .unset, .unset, .unset, .unset, .unset, .unset, .unset, .unset, .unset] [(.int (f0_j12_s0 p5))])) := by
    intro T1   X1 
    refine Rt.istore (pc' := 14) (v := (f0_j12_s0 p5)) (l' := #[.val (.long q1), .second, .val (.long q2), .second, .val (.int p3), .val (.int p4), .val (.int p5), .val (.int (f0_j12_s0 p5)), .unset, .unset, .unset, .unset, .unset, .unset, .unset, .unset, .unset, .unset, .unset, .unset, .unset]) X1 hx (hb hby at_12) rfl rfl ?_
    refine Rt.iload (pc' := 16) X1 hx (hb hby at_14) rfl rfl ?_
    refine Rt.iconst (pc' := 17) (v := (2 : Int32)) X1 hx (hb hby at_16) rfl rfl ?_
    refine Rt.iand (pc' := 18) (r := (p5 &&& (2 : Int32))) X1 hx (hb hby at_17) rfl rfl ?_
    have J18_2 : ∀ T2  , Sd p l e room_1 s m #[(.long q1), (.long q2), (.int p3), (.int p4), (.int p5)] below meth c T2 n0 0 0 h0 → Rt p e below s room_1.cells room_1.slots (Q0 Z q1 q2 p3 p4 p5 h0 n0) (T2.setTop (mkF m 26 #[.val (.long q1), .second, .val (.long q2), .second, .val (.int p3), .val (.int p4), .val (.int p5), .val (.int (f0_j12_s0 p5)), .unset, .unset, .unset, .unset, .unset, .unset, .unset, .unset, .unset, .unset, .unset, .unset, .unset] [(.int (f0_j26_s0 p5))])) := by
      intro T2   X2 
      refine Rt.istore (pc' := 28) (v := (f0_j26_s0 p5)) (l' := #[.val (.long q1), .second, .val (.long q2), .second, .val (.int p3), .val (.int p4), .val (.int p5), .val (.int (f0_j12_s0 p5)), .val (.int (f0_j26_s0 p5)), .unset, .unset, .unset, .unset, .unset, .unset, .unset, .unset, .unset, .unset, .unset, .unset]) X2 hx (hb hby at_26) rfl rfl ?_
      refine Rt.iload (pc' := 30) X2 hx (hb hby at_28) rfl rfl ?_
      refine Rt.iconst (pc' := 31) (v := (4 : Int32)) X2 hx (hb hby at_30) rfl rfl ?_
      refine Rt.iand (pc' := 32) (r := (p5 &&& (4 : Int32))) X2 hx (hb hby at_31) rfl rfl ?_
      have J32_3 : ∀ T3  , Sd p l e room_1 s m #[(.long q1), (.long q2), (.int p3), (.int p4), (.int p5)] below meth c T3 n0 0 0 h0 → Rt p e below s room_1.cells room_1.slots (Q0 Z q1 q2 p3 p4 p5 h0 n0) (T3.setTop (mkF m 40 #[.val (.long q1), .second, .val (.long q2), .second, .val (.int p3), .val (.int p4), .val (.int p5), .val (.int (f0_j12_s0 p5)), .val (.int (f0_j26_s0 p5)), .unset, .unset, .unset, .unset, .unset, .unset, .unset, .unset, .unset, .unset, .unset, .unset] [(.int (f0_j40_s0 p5))])) := by
        intro T3   X3 
        refine Rt.istore (pc' := 42) (v := (f0_j40_s0 p5)) (l' := #[.val (.long q1), .second, .val (.long q2), .second, .val (.int p3), .val (.int p4), .val (.int p5), .val (.int (f0_j12_s0 p5)), .val (.int (f0_j26_s0 p5)), .val (.int (f0_j40_s0 p5)), .unset, .unset, .unset, .unset, .unset, .unset, .unset, .unset, .unset, .unset, .unset]) X3 hx (hb hby at_40) rfl rfl ?_
        refine Rt.iload (pc' := 44) X3 hx (hb hby at_42) rfl rfl ?_
        refine Rt.ldcInt (pc' := 46) X3 hx hZ hown (hw _ (List.mem_of_getElem? (i := 0) rfl)) (hb hby at_44) rfl ?_
        refine Rt.iand (pc' := 47) (r := (p3 &&& (2147483647 : Int32))) X3 hx (hb hby at_46) rfl rfl ?_
        refine Rt.ldcInt (pc' := 49) X3 hx hZ hown (hw _ (List.mem_of_getElem? (i := 1) rfl)) (hb hby at_47) rfl ?_
        refine Rt.irem (pc' := 50) X3 hx (hb hby at_49) (by decide) rfl rfl ?_
        refine Rt.istore (pc' := 52) (v := (f0_v50 p3)) (l' := #[.val (.long q1), .second, .val (.long q2), .second, .val (.int p3), .val (.int p4), .val (.int p5), .val (.int (f0_j12_s0 p5)), .val (.int (f0_j26_s0 p5)), .val (.int (f0_j40_s0 p5)), .val (.int (f0_v50 p3)), .unset, .unset, .unset, .unset, .unset, .unset, .unset, .unset, .unset, .unset]) X3 hx (hb hby at_50) rfl rfl ?_
        refine Rt.iload (pc' := 54) X3 hx (hb hby at_52) rfl rfl ?_
        have J54_4 : ∀ T4  , Sd p l e room_1 s m #[(.long q1), (.long q2), (.int p3), (.int p4), (.int p5)] below meth c T4 n0 0 0 h0 → Rt p e below s room_1.cells room_1.slots (Q0 Z q1 q2 p3 p4 p5 h0 n0) (T4.setTop (mkF m 70 #[.val (.long q1), .second, .val (.long q2), .second, .val (.int p3), .val (.int p4), .val (.int p5), .val (.int (f0_j12_s0 p5)), .val (.int (f0_j26_s0 p5)), .val (.int (f0_j40_s0 p5)), .val (.int (f0_v50 p3)), .unset, .unset, .unset, .unset, .unset, .unset, .unset, .unset, .unset, .unset] [(.int (f0_j70_s0 p3 p4 p5))])) := by
          intro T4   X4 
          refine Rt.istore (pc' := 72) (v := (f0_j70_s0 p3 p4 p5)) (l' := #[.val (.long q1), .second, .val (.long q2), .second, .val (.int p3), .val (.int p4), .val (.int p5), .val (.int (f0_j12_s0 p5)), .val (.int (f0_j26_s0 p5)), .val (.int (f0_j40_s0 p5)), .val (.int (f0_v50 p3)), .val (.int (f0_j70_s0 p3 p4 p5)), .unset, .unset, .unset, .unset, .unset, .unset, .unset, .unset, .unset]) X4 hx (hb hby at_70) rfl rfl ?_
          refine Rt.iload (pc' := 74) X4 hx (hb hby at_72) rfl rfl ?_
          have J74_5 : ∀ T5  , Sd p l e room_1 s m #[(.long q1), (.long q2), (.int p3), (.int p4), (.int p5)] below meth c T5 n0 0 0 h0 → Rt p e below s room_1.cells room_1.slots (Q0 Z q1 q2 p3 p4 p5 h0 n0) (T5.setTop (mkF m 82 #[.val (.long q1), .second, .val (.long q2), .second, .val (.int p3), .val (.int p4), .val (.int p5), .val (.int (f0_j12_s0 p5)), .val (.int (f0_j26_s0 p5)), .val (.int (f0_j40_s0 p5)), .val (.int (f0_v50 p3)), .val (.int (f0_j70_s0 p3 p4 p5)), .unset, .unset, .unset, .unset, .unset, .unset, .unset, .unset, .unset] [(.long (f0_j82_s0 q1 q2 p5))])) := by
            intro T5   X5 
            refine Rt.lstore (pc' := 84) (v := (f0_j82_s0 q1 q2 p5)) (l' := #[.val (.long q1), .second, .val (.long q2), .second, .val (.int p3), .val (.int p4), .val (.int p5), .val (.int (f0_j12_s0 p5)), .val (.int (f0_j26_s0 p5)), .val (.int (f0_j40_s0 p5)), .val (.int (f0_v50 p3)), .val (.int (f0_j70_s0 p3 p4 p5)), .val (.long (f0_j82_s0 q1 q2 p5)), .second, .unset, .unset, .unset, .unset, .unset, .unset, .unset]) X5 hx (hb hby at_82) rfl rfl ?_
            refine Rt.newO (pc' := 87) X5 hx hZ hown (hw _ (List.mem_of_getElem? (i := 2) rfl)) (hw _ (List.mem_of_getElem? (i := 3) rfl)) (hw _ (List.mem_of_getElem? (i := 4) rfl)) (hb hby at_84) (by decide) (by decide) rfl ?_
            intro T6 h6 b84 ha6 X6 E6 A6 D6
            have g7 : n0 ≤ b84 := by rw [ha6]; exact Z0
            have s8 : h0.size ≤ b84 := by rw [ha6]; exact (Keep.refl h0 []).1
            have K9 : Keep h0 h6 [] := (Keep.refl h0 []).ext E6
            have Z10 : n0 ≤ h6.size := Nat.le_trans Z0 E6.1
            have F11 : Fld Z h6 b84 nm1 "value" "Ljava/lang/Object;" .null := D6 (Or.inr (hw _ (List.mem_of_getElem? (i := 13) rfl))) (ty := (.object "java/lang/Object")) (by decide)
            have F12 : Fld Z h6 b84 nm1 "seconds" "J" (.long (0 : Int64)) := D6 (Or.inr (hw _ (List.mem_of_getElem? (i := 15) rfl))) (ty := .long) (by decide)
            have F13 : Fld Z h6 b84 nm1 "nanoseconds" "I" (.int (0 : Int32)) := D6 (Or.inr (hw _ (List.mem_of_getElem? (i := 17) rfl))) (ty := .int) (by decide)
            refine Rt.dup (pc' := 88) X6 hx (hb hby at_87) rfl rfl ?_
            refine Rt.aconstNull (pc' := 89) X6 hx (hb hby at_88) rfl ?_
            refine Rt.lloadN (pc' := 90) X6 hx (hb hby at_89) rfl rfl ?_
            refine Rt.iload (pc' := 92) X6 hx (hb hby at_90) rfl rfl ?_
            refine Rt.callI (pc' := 95) X6 hx hZ (y := mt1) rfl hown (hw _ (List.mem_of_getElem? (i := 5) rfl)) (hw _ (List.mem_of_getElem? (i := 6) rfl)) (hw _ (List.mem_of_getElem? (i := 4) rfl)) (hw _ (List.mem_of_getElem? (i := 7) rfl)) (by decide) (rm1 l Z a0 hw [] b84 q1 (f0_v50 p3) h6 n0 Z10 A6 F11 F12 F13 g7 (own_nnA _).1 (own_nnA _).2) (fun _ _ _ q => q.2.1) (W := 1) (by decide) (by decide) (by decide) (by decide) (argsL := [.null, (.long q1), (.int (f0_v50 p3))]) (rest := [(.ref b84)]) (by rw [hml]; rfl) (lenOf pd_0 rfl) rfl rfl (Nat.le_of_eq rfl) (hb hby at_92) rfl ?_
            rintro _ T14 h14 L14 X14 ⟨rfl, N14, K14, F15, F16, F17, F18⟩
            have F19 : Exa Z h14 b84 nm1 := A6.keep K14
            have K20 : Keep h0 h14 [] := K9.trans K14 (allS (Or.inr s8) all0)
            have Z21 : n0 ≤ h14.size := Nat.le_trans Z10 K14.1
            show Rt _ _ _ _ _ _ _ (T14.setTop (mkF m 95 #[.val (.long q1), .second, .val (.long q2), .second, .val (.int p3), .val (.int p4), .val (.int p5), .val (.int (f0_j12_s0 p5)), .val (.int (f0_j26_s0 p5)), .val (.int (f0_j40_s0 p5)), .val (.int (f0_v50 p3)), .val (.int (f0_j70_s0 p3 p4 p5)), .val (.long (f0_j82_s0 q1 q2 p5)), .second, .unset, .unset, .unset, .unset, .unset, .unset, .unset] [(.ref b84)]))
            refine Rt.astore (pc' := 97) (v := (.ref b84)) (l' := #[.val (.long q1), .second, .val (.long q2), .second, .val (.int p3), .val (.int p4), .val (.int p5), .val (.int (f0_j12_s0 p5)), .val (.int (f0_j26_s0 p5)), .val (.int (f0_j40_s0 p5)), .val (.int (f0_v50 p3)), .val (.int (f0_j70_s0 p3 p4 p5)), .val (.long (f0_j82_s0 q1 q2 p5)), .second, .val (.ref b84), .unset, .unset, .unset, .unset, .unset, .unset]) X14 hx (hb hby at_95) rfl rfl rfl ?_
            refine Rt.newO (pc' := 100) X14 hx hZ hown (hw _ (List.mem_of_getElem? (i := 2) rfl)) (hw _ (List.mem_of_getElem? (i := 3) rfl)) (hw _ (List.mem_of_getElem? (i := 4) rfl)) (hb hby at_97) (by decide) (by decide) rfl ?_
            intro T22 h22 b97 ha22 X22 E22 A22 D22
            have g23 : n0 ≤ b97 := by rw [ha22]; exact Z21
            have s24 : h0.size ≤ b97 := by rw [ha22]; exact K20.1
            have ne25 : b84 ≠ b97 := by rw [ha22]; exact Nat.ne_of_lt F15.lt
            have F26 : Exa Z h22 b84 nm1 := F15.ext E22
            have F27 : Fld Z h22 b84 nm1 "value" "Ljava/lang/Object;" .null := F16.ext E22
            have F28 : Fld Z h22 b84 nm1 "seconds" "J" (.long q1) := F17.ext E22
            have F29 : Fld Z h22 b84 nm1 "nanoseconds" "I" (.int (f0_v50 p3)) := F18.ext E22
            have K30 : Keep h0 h22 [] := K20.ext E22
            have Z31 : n0 ≤ h22.size := Nat.le_trans Z21 E22.1
            have F32 : Fld Z h22 b97 nm1 "value" "Ljava/lang/Object;" .null := D22 (Or.inr (hw _ (List.mem_of_getElem? (i := 13) rfl))) (ty := (.object "java/lang/Object")) (by decide)
            have F33 : Fld Z h22 b97 nm1 "seconds" "J" (.long (0 : Int64)) := D22 (Or.inr (hw _ (List.mem_of_getElem? (i := 15) rfl))) (ty := .long) (by decide)
            have F34 : Fld Z h22 b97 nm1 "nanoseconds" "I" (.int (0 : Int32)) := D22 (Or.inr (hw _ (List.mem_of_getElem? (i := 17) rfl))) (ty := .int) (by decide)
            refine Rt.dup (pc' := 101) X22 hx (hb hby at_100) rfl rfl ?_
            refine Rt.aconstNull (pc' := 102) X22 hx (hb hby at_101) rfl ?_
            refine Rt.lload (pc' := 104) X22 hx (hb hby at_102) rfl rfl ?_
            refine Rt.iload (pc' := 106) X22 hx (hb hby at_104) rfl rfl ?_
            refine Rt.callI (pc' := 109) X22 hx hZ (y := mt1) rfl hown (hw _ (List.mem_of_getElem? (i := 5) rfl)) (hw _ (List.mem_of_getElem? (i := 6) rfl)) (hw _ (List.mem_of_getElem? (i := 4) rfl)) (hw _ (List.mem_of_getElem? (i := 7) rfl)) (by decide) (rm1 l Z a0 hw [] b97 (f0_j82_s0 q1 q2 p5) (f0_j70_s0 p3 p4 p5) h22 n0 Z31 A22 F32 F33 F34 g23 (own_nnB _ _ _).1 (own_nnB _ _ _).2) (fun _ _ _ q => q.2.1) (W := 1) (by decide) (by decide) (by decide) (by decide) (argsL := [.null, (.long (f0_j82_s0 q1 q2 p5)), (.int (f0_j70_s0 p3 p4 p5))]) (rest := [(.ref b97)]) (by rw [hml]; rfl) (lenOf pd_0 rfl) rfl rfl (Nat.le_of_eq rfl) (hb hby at_106) rfl ?_
            rintro _ T35 h35 L35 X35 ⟨rfl, N35, K35, F36, F37, F38, F39⟩
            have F40 : Exa Z h35 b84 nm1 := F26.keep K35
            have F41 : Fld Z h35 b84 nm1 "value" "Ljava/lang/Object;" .null := F27.keep K35 (ninS ne25 nin0)
            have F42 : Fld Z h35 b84 nm1 "seconds" "J" (.long q1) := F28.keep K35 (ninS ne25 nin0)
            have F43 : Fld Z h35 b84 nm1 "nanoseconds" "I" (.int (f0_v50 p3)) := F29.keep K35 (ninS ne25 nin0)
            have F44 : Exa Z h35 b97 nm1 := A22.keep K35
            have K45 : Keep h0 h35 [] := K30.trans K35 (allS (Or.inr s24) all0)
            have Z46 : n0 ≤ h35.size := Nat.le_trans Z31 K35.1
            show Rt _ _ _ _ _ _ _ (T35.setTop (mkF m 109 #[.val (.long q1), .second, .val (.long q2), .second, .val (.int p3), .val (.int p4), .val (.int p5), .val (.int (f0_j12_s0 p5)), .val (.int (f0_j26_s0 p5)), .val (.int (f0_j40_s0 p5)), .val (.int (f0_v50 p3)), .val (.int (f0_j70_s0 p3 p4 p5)), .val (.long (f0_j82_s0 q1 q2 p5)), .second, .val (.ref b84), .unset, .unset, .unset, .unset, .unset, .unset] [(.ref b97)]))
            refine Rt.astore (pc' := 111) (v := (.ref b97)) (l' := #[.val (.long q1), .second, .val (.long q2), .second, .val (.int p3), .val (.int p4), .val (.int p5), .val (.int (f0_j12_s0 p5)), .val (.int (f0_j26_s0 p5)), .val (.int (f0_j40_s0 p5)), .val (.int (f0_v50 p3)), .val (.int (f0_j70_s0 p3 p4 p5)), .val (.long (f0_j82_s0 q1 q2 p5)), .second, .val (.ref b84), .val (.ref b97), .unset, .unset, .unset, .unset, .unset]) X35 hx (hb hby at_109) rfl rfl rfl ?_
            refine Rt.iload (pc' := 113) X35 hx (hb hby at_111) rfl rfl ?_
            by_cases hc113_47 : (f0_j40_s0 p5) = (0 : Int32)
            · refine Rt.ifY (pc' := 123) X35 hx (hb hby at_113) ((if0 _ _).trans (teq hc113_47).1) (by decide) (by decide) ?_
              refine Rt.lloadN (pc' := 124) X35 hx (hb hby at_123) rfl rfl ?_
              refine Rt.lload (pc' := 126) X35 hx (hb hby at_124) rfl rfl ?_
              refine Rt.lcmp (pc' := 127) X35 hx (hb hby at_126) rfl ?_
              have J127_48 : ∀ T48  , Sd p l e room_1 s m #[(.long q1), (.long q2), (.int p3), (.int p4), (.int p5)] below meth c T48 n0 2 6 h35 → Rt p e below s room_1.cells room_1.slots (Q0 Z q1 q2 p3 p4 p5 h0 n0) (T48.setTop (mkF m 163 #[.val (.long q1), .second, .val (.long q2), .second, .val (.int p3), .val (.int p4), .val (.int p5), .val (.int (f0_j12_s0 p5)), .val (.int (f0_j26_s0 p5)), .val (.int (f0_j40_s0 p5)), .val (.int (f0_v50 p3)), .val (.int (f0_j70_s0 p3 p4 p5)), .val (.long (f0_j82_s0 q1 q2 p5)), .second, .val (.ref b84), .val (.ref b97), .val (.int (f0_j163_l16 q1 q2 p3 p4 p5)), .unset, .unset, .unset, .unset] [])) := by
                intro T48   X48 
                refine Rt.aload (pc' := 165) X48 hx (hb hby at_163) rfl rfl rfl ?_
                refine Rt.aload (pc' := 167) X48 hx (hb hby at_165) rfl rfl rfl ?_
                refine Rt.callV (pc' := 170) X48 hx hZ (y := mt2) (yz := mt2) hown (hw _ (List.mem_of_getElem? (i := 18) rfl)) (hw _ (List.mem_of_getElem? (i := 19) rfl)) (notFace_of_selects (args := #[]) (mvT hZ (hw _ (List.mem_of_getElem? (i := 21) rfl)))) (hw _ (List.mem_of_getElem? (i := 21) rfl)) (hw _ (List.mem_of_getElem? (i := 20) rfl)) (hw _ (List.mem_of_getElem? (i := 4) rfl)) (hw _ (List.mem_of_getElem? (i := 22) rfl)) (by decide) F40 (rm3 l Z a0 hw [] b84 b97 q1 (f0_v50 p3) (f0_j82_s0 q1 q2 p5) (f0_j70_s0 p3 p4 p5) h35 n0 F42 F43 F38 F39) (fun _ _ _ q => q.2.1) (W := 0) (by decide) (by decide) (by decide) (by decide) (argsL := [(.ref b97)]) (rest := []) (by rw [hml]; rfl) (lenOf pd_1 rfl) rfl rfl (Nat.le_of_eq rfl) (hb hby at_167) rfl ?_
                rintro _ T49 h49 L49 X49 ⟨rfl, N49, e49⟩
                rw [e49] at X49
                show Rt _ _ _ _ _ _ _ (T49.setTop (mkF m 170 #[.val (.long q1), .second, .val (.long q2), .second, .val (.int p3), .val (.int p4), .val (.int p5), .val (.int (f0_j12_s0 p5)), .val (.int (f0_j26_s0 p5)), .val (.int (f0_j40_s0 p5)), .val (.int (f0_v50 p3)), .val (.int (f0_j70_s0 p3 p4 p5)), .val (.long (f0_j82_s0 q1 q2 p5)), .second, .val (.ref b84), .val (.ref b97), .val (.int (f0_j163_l16 q1 q2 p3 p4 p5)), .unset, .unset, .unset, .unset] [(.int (f3 q1 (f0_v50 p3) (f0_j82_s0 q1 q2 p5) (f0_j70_s0 p3 p4 p5)))]))
                refine Rt.istore (pc' := 172) (v := (f0_v170 q1 q2 p3 p4 p5)) (l' := #[.val (.long q1), .second, .val (.long q2), .second, .val (.int p3), .val (.int p4), .val (.int p5), .val (.int (f0_j12_s0 p5)), .val (.int (f0_j26_s0 p5)), .val (.int (f0_j40_s0 p5)), .val (.int (f0_v50 p3)), .val (.int (f0_j70_s0 p3 p4 p5)), .val (.long (f0_j82_s0 q1 q2 p5)), .second, .val (.ref b84), .val (.ref b97), .val (.int (f0_j163_l16 q1 q2 p3 p4 p5)), .val (.int (f0_v170 q1 q2 p3 p4 p5)), .unset, .unset, .unset]) X49 hx (hb hby at_170) rfl rfl ?_
                refine Rt.aload (pc' := 174) X49 hx (hb hby at_172) rfl rfl rfl ?_
                refine Rt.aload (pc' := 176) X49 hx (hb hby at_174) rfl rfl rfl ?_
                refine Rt.callV (pc' := 179) X49 hx hZ (y := mt2) (yz := mt2) hown (hw _ (List.mem_of_getElem? (i := 18) rfl)) (hw _ (List.mem_of_getElem? (i := 19) rfl)) (notFace_of_selects (args := #[]) (mvT hZ (hw _ (List.mem_of_getElem? (i := 21) rfl)))) (hw _ (List.mem_of_getElem? (i := 21) rfl)) (hw _ (List.mem_of_getElem? (i := 20) rfl)) (hw _ (List.mem_of_getElem? (i := 4) rfl)) (hw _ (List.mem_of_getElem? (i := 22) rfl)) (by decide) F36 (rm3 l Z a0 hw [] b97 b84 (f0_j82_s0 q1 q2 p5) (f0_j70_s0 p3 p4 p5) q1 (f0_v50 p3) h35 n0 F38 F39 F42 F43) (fun _ _ _ q => q.2.1) (W := 0) (by decide) (by decide) (by decide) (by decide) (argsL := [(.ref b84)]) (rest := []) (by rw [hml]; rfl) (lenOf pd_1 rfl) rfl rfl (Nat.le_of_eq rfl) (hb hby at_176) rfl ?_
                rintro _ T50 h50 L50 X50 ⟨rfl, N50, e50⟩
                rw [e50] at X50
                show Rt _ _ _ _ _ _ _ (T50.setTop (mkF m 179 #[.val (.long q1), .second, .val (.long q2), .second, .val (.int p3), .val (.int p4), .val (.int p5), .val (.int (f0_j12_s0 p5)), .val (.int (f0_j26_s0 p5)), .val (.int (f0_j40_s0 p5)), .val (.int (f0_v50 p3)), .val (.int (f0_j70_s0 p3 p4 p5)), .val (.long (f0_j82_s0 q1 q2 p5)), .second, .val (.ref b84), .val (.ref b97), .val (.int (f0_j163_l16 q1 q2 p3 p4 p5)), .val (.int (f0_v170 q1 q2 p3 p4 p5)), .unset, .unset, .unset] [(.int (f3 (f0_j82_s0 q1 q2 p5) (f0_j70_s0 p3 p4 p5) q1 (f0_v50 p3)))]))
                refine Rt.istore (pc' := 181) (v := (f0_v179 q1 q2 p3 p4 p5)) (l' := #[.val (.long q1), .second, .val (.long q2), .second, .val (.int p3), .val (.int p4), .val (.int p5), .val (.int (f0_j12_s0 p5)), .val (.int (f0_j26_s0 p5)), .val (.int (f0_j40_s0 p5)), .val (.int (f0_v50 p3)), .val (.int (f0_j70_s0 p3 p4 p5)), .val (.long (f0_j82_s0 q1 q2 p5)), .second, .val (.ref b84), .val (.ref b97), .val (.int (f0_j163_l16 q1 q2 p3 p4 p5)), .val (.int (f0_v170 q1 q2 p3 p4 p5)), .val (.int (f0_v179 q1 q2 p3 p4 p5)), .unset, .unset]) X50 hx (hb hby at_179) rfl rfl ?_
                refine Rt.lloadN (pc' := 182) X50 hx (hb hby at_181) rfl rfl ?_
                refine Rt.lload (pc' := 184) X50 hx (hb hby at_182) rfl rfl ?_
                refine Rt.lcmp (pc' := 185) X50 hx (hb hby at_184) rfl ?_
                have J185_51 : ∀ T51  , Sd p l e room_1 s m #[(.long q1), (.long q2), (.int p3), (.int p4), (.int p5)] below meth c T51 n0 2 6 h35 → Rt p e below s room_1.cells room_1.slots (Q0 Z q1 q2 p3 p4 p5 h0 n0) (T51.setTop (mkF m 200 #[.val (.long q1), .second, .val (.long q2), .second, .val (.int p3), .val (.int p4), .val (.int p5), .val (.int (f0_j12_s0 p5)), .val (.int (f0_j26_s0 p5)), .val (.int (f0_j40_s0 p5)), .val (.int (f0_v50 p3)), .val (.int (f0_j70_s0 p3 p4 p5)), .val (.long (f0_j82_s0 q1 q2 p5)), .second, .val (.ref b84), .val (.ref b97), .val (.int (f0_j163_l16 q1 q2 p3 p4 p5)), .val (.int (f0_v170 q1 q2 p3 p4 p5)), .val (.int (f0_v179 q1 q2 p3 p4 p5)), .unset, .unset] [(.int (f0_j200_s0 q1 q2 p3 p4 p5))])) := by
                  intro T51   X51 
                  refine Rt.istore (pc' := 202) (v := (f0_j200_s0 q1 q2 p3 p4 p5)) (l' := #[.val (.long q1), .second, .val (.long q2), .second, .val (.int p3), .val (.int p4), .val (.int p5), .val (.int (f0_j12_s0 p5)), .val (.int (f0_j26_s0 p5)), .val (.int (f0_j40_s0 p5)), .val (.int (f0_v50 p3)), .val (.int (f0_j70_s0 p3 p4 p5)), .val (.long (f0_j82_s0 q1 q2 p5)), .second, .val (.ref b84), .val (.ref b97), .val (.int (f0_j163_l16 q1 q2 p3 p4 p5)), .val (.int (f0_v170 q1 q2 p3 p4 p5)), .val (.int (f0_v179 q1 q2 p3 p4 p5)), .val (.int (f0_j200_s0 q1 q2 p3 p4 p5)), .unset]) X51 hx (hb hby at_200) rfl rfl ?_
                  refine Rt.iload (pc' := 204) X51 hx (hb hby at_202) rfl rfl ?_
                  have J204_52 : ∀ T52  , Sd p l e room_1 s m #[(.long q1), (.long q2), (.int p3), (.int p4), (.int p5)] below meth c T52 n0 2 6 h35 → Rt p e below s room_1.cells room_1.slots (Q0 Z q1 q2 p3 p4 p5 h0 n0) (T52.setTop (mkF m 212 #[.val (.long q1), .second, .val (.long q2), .second, .val (.int p3), .val (.int p4), .val (.int p5), .val (.int (f0_j12_s0 p5)), .val (.int (f0_j26_s0 p5)), .val (.int (f0_j40_s0 p5)), .val (.int (f0_v50 p3)), .val (.int (f0_j70_s0 p3 p4 p5)), .val (.long (f0_j82_s0 q1 q2 p5)), .second, .val (.ref b84), .val (.ref b97), .val (.int (f0_j163_l16 q1 q2 p3 p4 p5)), .val (.int (f0_v170 q1 q2 p3 p4 p5)), .val (.int (f0_v179 q1 q2 p3 p4 p5)), .val (.int (f0_j200_s0 q1 q2 p3 p4 p5)), .unset] [(.int (f0_j212_s0 q1 q2 p3 p4 p5))])) := by
                    intro T52   X52 
                    refine Rt.iload (pc' := 214) X52 hx (hb hby at_212) rfl rfl ?_
                    have J214_53 : ∀ T53  , Sd p l e room_1 s m #[(.long q1), (.long q2), (.int p3), (.int p4), (.int p5)] below meth c T53 n0 2 6 h35 → Rt p e below s room_1.cells room_1.slots (Q0 Z q1 q2 p3 p4 p5 h0 n0) (T53.setTop (mkF m 222 #[.val (.long q1), .second, .val (.long q2), .second, .val (.int p3), .val (.int p4), .val (.int p5), .val (.int (f0_j12_s0 p5)), .val (.int (f0_j26_s0 p5)), .val (.int (f0_j40_s0 p5)), .val (.int (f0_v50 p3)), .val (.int (f0_j70_s0 p3 p4 p5)), .val (.long (f0_j82_s0 q1 q2 p5)), .second, .val (.ref b84), .val (.ref b97), .val (.int (f0_j163_l16 q1 q2 p3 p4 p5)), .val (.int (f0_v170 q1 q2 p3 p4 p5)), .val (.int (f0_v179 q1 q2 p3 p4 p5)), .val (.int (f0_j200_s0 q1 q2 p3 p4 p5)), .unset] [(.int (f0_j222_s0 q1 q2 p3 p4 p5)), (.int (f0_j212_s0 q1 q2 p3 p4 p5))])) := by
                      intro T53   X53 
                      refine Rt.iadd (pc' := 223) (r := ((f0_j212_s0 q1 q2 p3 p4 p5) + (f0_j222_s0 q1 q2 p3 p4 p5))) X53 hx (hb hby at_222) rfl rfl ?_
                      refine Rt.iload (pc' := 225) X53 hx (hb hby at_223) rfl rfl ?_
                      have J225_54 : ∀ T54  , Sd p l e room_1 s m #[(.long q1), (.long q2), (.int p3), (.int p4), (.int p5)] below meth c T54 n0 2 6 h35 → Rt p e below s room_1.cells room_1.slots (Q0 Z q1 q2 p3 p4 p5 h0 n0) (T54.setTop (mkF m 233 #[.val (.long q1), .second, .val (.long q2), .second, .val (.int p3), .val (.int p4), .val (.int p5), .val (.int (f0_j12_s0 p5)), .val (.int (f0_j26_s0 p5)), .val (.int (f0_j40_s0 p5)), .val (.int (f0_v50 p3)), .val (.int (f0_j70_s0 p3 p4 p5)), .val (.long (f0_j82_s0 q1 q2 p5)), .second, .val (.ref b84), .val (.ref b97), .val (.int (f0_j163_l16 q1 q2 p3 p4 p5)), .val (.int (f0_v170 q1 q2 p3 p4 p5)), .val (.int (f0_v179 q1 q2 p3 p4 p5)), .val (.int (f0_j200_s0 q1 q2 p3 p4 p5)), .unset] [(.int (f0_j233_s0 q1 q2 p3 p4 p5)), (.int ((f0_j212_s0 q1 q2 p3 p4 p5) + (f0_j222_s0 q1 q2 p3 p4 p5)))])) := by
                        intro T54   X54 
                        refine Rt.iadd (pc' := 234) (r := (((f0_j212_s0 q1 q2 p3 p4 p5) + (f0_j222_s0 q1 q2 p3 p4 p5)) + (f0_j233_s0 q1 q2 p3 p4 p5))) X54 hx (hb hby at_233) rfl rfl ?_
                        refine Rt.istore (pc' := 236) (v := (f0_v234 q1 q2 p3 p4 p5)) (l' := #[.val (.long q1), .second, .val (.long q2), .second, .val (.int p3), .val (.int p4), .val (.int p5), .val (.int (f0_j12_s0 p5)), .val (.int (f0_j26_s0 p5)), .val (.int (f0_j40_s0 p5)), .val (.int (f0_v50 p3)), .val (.int (f0_j70_s0 p3 p4 p5)), .val (.long (f0_j82_s0 q1 q2 p5)), .second, .val (.ref b84), .val (.ref b97), .val (.int (f0_j163_l16 q1 q2 p3 p4 p5)), .val (.int (f0_v170 q1 q2 p3 p4 p5)), .val (.int (f0_v179 q1 q2 p3 p4 p5)), .val (.int (f0_j200_s0 q1 q2 p3 p4 p5)), .val (.int (f0_v234 q1 q2 p3 p4 p5))]) X54 hx (hb hby at_234) rfl rfl ?_
                        refine Rt.iload (pc' := 238) X54 hx (hb hby at_236) rfl rfl ?_
                        refine Rt.iload (pc' := 240) X54 hx (hb hby at_238) rfl rfl ?_
                        by_cases hc240_55 : (f0_v170 q1 q2 p3 p4 p5) = (f0_j163_l16 q1 q2 p3 p4 p5)
                        · refine Rt.icmpN (pc' := 243) X54 hx (hb hby at_240) (teq hc240_55).2 rfl ?_
                          refine Rt.iload (pc' := 245) X54 hx (hb hby at_243) rfl rfl ?_
                          refine Rt.iconst (pc' := 246) (v := (1 : Int32)) X54 hx (hb hby at_245) rfl rfl ?_
                          by_cases hc246_56 : (f0_v234 q1 q2 p3 p4 p5) = (1 : Int32)
                          · refine Rt.icmpN (pc' := 249) X54 hx (hb hby at_246) (teq hc246_56).2 rfl ?_
                            refine Rt.iconst (pc' := 250) (v := (1 : Int32)) X54 hx (hb hby at_249) rfl rfl ?_
                            refine Rt.goto (pc' := 254) X54 hx (hb hby at_250) (by decide) (by decide) ?_
                            exact Rt.retZ (w := (1 : Int32)) X54 hx hlk hret (by simp) (hb hby at_254) (by decide) (by decide) (by decide) (fun L N => ⟨congrArg some (congrArg Value.int (by rw [f0, if_pos hc113_47, if_pos hc240_55, if_pos hc246_56])), N, K45⟩)
                          · refine Rt.icmpY (pc' := 253) X54 hx (hb hby at_246) (feq hc246_56).2 (by decide) (by decide) ?_
                            refine Rt.iconst (pc' := 254) (v := (0 : Int32)) X54 hx (hb hby at_253) rfl rfl ?_
                            exact Rt.retZ (w := (0 : Int32)) X54 hx hlk hret (by simp) (hb hby at_254) (by decide) (by decide) (by decide) (fun L N => ⟨congrArg some (congrArg Value.int (by rw [f0, if_pos hc113_47, if_pos hc240_55, if_neg hc246_56])), N, K45⟩)
                        · refine Rt.icmpY (pc' := 253) X54 hx (hb hby at_240) (feq hc240_55).2 (by decide) (by decide) ?_
                          refine Rt.iconst (pc' := 254) (v := (0 : Int32)) X54 hx (hb hby at_253) rfl rfl ?_
                          exact Rt.retZ (w := (0 : Int32)) X54 hx hlk hret (by simp) (hb hby at_254) (by decide) (by decide) (by decide) (fun L N => ⟨congrArg some (congrArg Value.int (by rw [f0, if_pos hc113_47, if_neg hc240_55])), N, K45⟩)
                      by_cases hc225_57 : (f0_j200_s0 q1 q2 p3 p4 p5) = (0 : Int32)
                      · refine Rt.ifY (pc' := 232) X53 hx (hb hby at_225) ((if0 _ _).trans (teq hc225_57).1) (by decide) (by decide) ?_
                        refine Rt.iconst (pc' := 233) (v := (0 : Int32)) X53 hx (hb hby at_232) rfl rfl ?_
                        have q := J225_54 T53   X53
                        rw [show (f0_j233_s0 q1 q2 p3 p4 p5) = (0 : Int32) from by rw [f0_j233_s0, if_pos hc225_57]] at q
                        exact q
                      · refine Rt.ifN (pc' := 228) X53 hx (hb hby at_225) ((if0 _ _).trans (feq hc225_57).1) rfl ?_
                        refine Rt.iconst (pc' := 229) (v := (1 : Int32)) X53 hx (hb hby at_228) rfl rfl ?_
                        refine Rt.goto (pc' := 233) X53 hx (hb hby at_229) (by decide) (by decide) ?_
                        have q := J225_54 T53   X53
                        rw [show (f0_j233_s0 q1 q2 p3 p4 p5) = (1 : Int32) from by rw [f0_j233_s0, if_neg hc225_57]] at q
                        exact q
                    by_cases hc214_58 : (f0_v179 q1 q2 p3 p4 p5) = (0 : Int32)
                    · refine Rt.ifY (pc' := 221) X52 hx (hb hby at_214) ((if0 _ _).trans (teq hc214_58).1) (by decide) (by decide) ?_
                      refine Rt.iconst (pc' := 222) (v := (0 : Int32)) X52 hx (hb hby at_221) rfl rfl ?_
                      have q := J214_53 T52   X52
                      rw [show (f0_j222_s0 q1 q2 p3 p4 p5) = (0 : Int32) from by rw [f0_j222_s0, if_pos hc214_58]] at q
                      exact q
                    · refine Rt.ifN (pc' := 217) X52 hx (hb hby at_214) ((if0 _ _).trans (feq hc214_58).1) rfl ?_
                      refine Rt.iconst (pc' := 218) (v := (1 : Int32)) X52 hx (hb hby at_217) rfl rfl ?_
                      refine Rt.goto (pc' := 222) X52 hx (hb hby at_218) (by decide) (by decide) ?_
                      have q := J214_53 T52   X52
                      rw [show (f0_j222_s0 q1 q2 p3 p4 p5) = (1 : Int32) from by rw [f0_j222_s0, if_neg hc214_58]] at q
                      exact q
                  by_cases hc204_59 : (f0_v170 q1 q2 p3 p4 p5) = (0 : Int32)
                  · refine Rt.ifY (pc' := 211) X51 hx (hb hby at_204) ((if0 _ _).trans (teq hc204_59).1) (by decide) (by decide) ?_
                    refine Rt.iconst (pc' := 212) (v := (0 : Int32)) X51 hx (hb hby at_211) rfl rfl ?_
                    have q := J204_52 T51   X51
                    rw [show (f0_j212_s0 q1 q2 p3 p4 p5) = (0 : Int32) from by rw [f0_j212_s0, if_pos hc204_59]] at q
                    exact q
                  · refine Rt.ifN (pc' := 207) X51 hx (hb hby at_204) ((if0 _ _).trans (feq hc204_59).1) rfl ?_
                    refine Rt.iconst (pc' := 208) (v := (1 : Int32)) X51 hx (hb hby at_207) rfl rfl ?_
                    refine Rt.goto (pc' := 212) X51 hx (hb hby at_208) (by decide) (by decide) ?_
                    have q := J204_52 T51   X51
                    rw [show (f0_j212_s0 q1 q2 p3 p4 p5) = (1 : Int32) from by rw [f0_j212_s0, if_neg hc204_59]] at q
                    exact q
                by_cases hc185_60 : q1 = (f0_j82_s0 q1 q2 p5)
                · refine Rt.ifN (pc' := 188) X50 hx (hb hby at_185) (etl hc185_60).2 rfl ?_
                  refine Rt.iload (pc' := 190) X50 hx (hb hby at_188) rfl rfl ?_
                  refine Rt.iload (pc' := 192) X50 hx (hb hby at_190) rfl rfl ?_
                  by_cases hc192_61 : (f0_v50 p3) = (f0_j70_s0 p3 p4 p5)
                  · refine Rt.icmpN (pc' := 195) X50 hx (hb hby at_192) (teq hc192_61).2 rfl ?_
                    refine Rt.iconst (pc' := 196) (v := (1 : Int32)) X50 hx (hb hby at_195) rfl rfl ?_
                    refine Rt.goto (pc' := 200) X50 hx (hb hby at_196) (by decide) (by decide) ?_
                    have q := J185_51 T50   X50
                    rw [show (f0_j200_s0 q1 q2 p3 p4 p5) = (1 : Int32) from by rw [f0_j200_s0, if_pos hc185_60, if_pos hc192_61]] at q
                    exact q
                  · refine Rt.icmpY (pc' := 199) X50 hx (hb hby at_192) (feq hc192_61).2 (by decide) (by decide) ?_
                    refine Rt.iconst (pc' := 200) (v := (0 : Int32)) X50 hx (hb hby at_199) rfl rfl ?_
                    have q := J185_51 T50   X50
                    rw [show (f0_j200_s0 q1 q2 p3 p4 p5) = (0 : Int32) from by rw [f0_j200_s0, if_pos hc185_60, if_neg hc192_61]] at q
                    exact q
                · refine Rt.ifY (pc' := 199) X50 hx (hb hby at_185) (efl hc185_60).2 (by decide) (by decide) ?_
                  refine Rt.iconst (pc' := 200) (v := (0 : Int32)) X50 hx (hb hby at_199) rfl rfl ?_
                  have q := J185_51 T50   X50
                  rw [show (f0_j200_s0 q1 q2 p3 p4 p5) = (0 : Int32) from by rw [f0_j200_s0, if_neg hc185_60]] at q
                  exact q
              by_cases hc127_62 : (f0_j82_s0 q1 q2 p5) < q1
              · refine Rt.ifN (pc' := 130) X35 hx (hb hby at_127) (gtl hc127_62).2 rfl ?_
                refine Rt.iconst (pc' := 131) (v := (1 : Int32)) X35 hx (hb hby at_130) rfl rfl ?_
                refine Rt.istore (pc' := 133) (v := (1 : Int32)) (l' := #[.val (.long q1), .second, .val (.long q2), .second, .val (.int p3), .val (.int p4), .val (.int p5), .val (.int (f0_j12_s0 p5)), .val (.int (f0_j26_s0 p5)), .val (.int (f0_j40_s0 p5)), .val (.int (f0_v50 p3)), .val (.int (f0_j70_s0 p3 p4 p5)), .val (.long (f0_j82_s0 q1 q2 p5)), .second, .val (.ref b84), .val (.ref b97), .val (.int (1 : Int32)), .unset, .unset, .unset, .unset]) X35 hx (hb hby at_131) rfl rfl ?_
                refine Rt.goto (pc' := 163) X35 hx (hb hby at_133) (by decide) (by decide) ?_
                have q := J127_48 T35   X35
                rw [show (f0_j163_l16 q1 q2 p3 p4 p5) = (1 : Int32) from by rw [f0_j163_l16, if_pos hc127_62]] at q
                exact q
              · refine Rt.ifY (pc' := 136) X35 hx (hb hby at_127) (gfl hc127_62).2 (by decide) (by decide) ?_
                refine Rt.lloadN (pc' := 137) X35 hx (hb hby at_136) rfl rfl ?_
                refine Rt.lload (pc' := 139) X35 hx (hb hby at_137) rfl rfl ?_
                refine Rt.lcmp (pc' := 140) X35 hx (hb hby at_139) rfl ?_
                by_cases hc140_63 : q1 < (f0_j82_s0 q1 q2 p5)
                · refine Rt.ifN (pc' := 143) X35 hx (hb hby at_140) (ltl hc140_63).2 rfl ?_
                  refine Rt.iconst (pc' := 144) (v := (0 : Int32)) X35 hx (hb hby at_143) rfl rfl ?_
                  refine Rt.istore (pc' := 146) (v := (0 : Int32)) (l' := #[.val (.long q1), .second, .val (.long q2), .second, .val (.int p3), .val (.int p4), .val (.int p5), .val (.int (f0_j12_s0 p5)), .val (.int (f0_j26_s0 p5)), .val (.int (f0_j40_s0 p5)), .val (.int (f0_v50 p3)), .val (.int (f0_j70_s0 p3 p4 p5)), .val (.long (f0_j82_s0 q1 q2 p5)), .second, .val (.ref b84), .val (.ref b97), .val (.int (0 : Int32)), .unset, .unset, .unset, .unset]) X35 hx (hb hby at_144) rfl rfl ?_
                  refine Rt.goto (pc' := 163) X35 hx (hb hby at_146) (by decide) (by decide) ?_
                  have q := J127_48 T35   X35
                  rw [show (f0_j163_l16 q1 q2 p3 p4 p5) = (0 : Int32) from by rw [f0_j163_l16, if_neg hc127_62, if_pos hc140_63]] at q
                  exact q
                · refine Rt.ifY (pc' := 149) X35 hx (hb hby at_140) (lfl hc140_63).2 (by decide) (by decide) ?_
                  refine Rt.iload (pc' := 151) X35 hx (hb hby at_149) rfl rfl ?_
                  refine Rt.iload (pc' := 153) X35 hx (hb hby at_151) rfl rfl ?_
                  have J153_64 : ∀ T64  , Sd p l e room_1 s m #[(.long q1), (.long q2), (.int p3), (.int p4), (.int p5)] below meth c T64 n0 2 6 h35 → Rt p e below s room_1.cells room_1.slots (Q0 Z q1 q2 p3 p4 p5 h0 n0) (T64.setTop (mkF m 161 #[.val (.long q1), .second, .val (.long q2), .second, .val (.int p3), .val (.int p4), .val (.int p5), .val (.int (f0_j12_s0 p5)), .val (.int (f0_j26_s0 p5)), .val (.int (f0_j40_s0 p5)), .val (.int (f0_v50 p3)), .val (.int (f0_j70_s0 p3 p4 p5)), .val (.long (f0_j82_s0 q1 q2 p5)), .second, .val (.ref b84), .val (.ref b97), .unset, .unset, .unset, .unset, .unset] [(.int (f0_j161_s0 p3 p4 p5))])) := by
                    intro T64   X64 
                    refine Rt.istore (pc' := 163) (v := (f0_j161_s0 p3 p4 p5)) (l' := #[.val (.long q1), .second, .val (.long q2), .second, .val (.int p3), .val (.int p4), .val (.int p5), .val (.int (f0_j12_s0 p5)), .val (.int (f0_j26_s0 p5)), .val (.int (f0_j40_s0 p5)), .val (.int (f0_v50 p3)), .val (.int (f0_j70_s0 p3 p4 p5)), .val (.long (f0_j82_s0 q1 q2 p5)), .second, .val (.ref b84), .val (.ref b97), .val (.int (f0_j161_s0 p3 p4 p5)), .unset, .unset, .unset, .unset]) X64 hx (hb hby at_161) rfl rfl ?_
                    have q := J127_48 T64   X64
                    rw [show (f0_j163_l16 q1 q2 p3 p4 p5) = (f0_j161_s0 p3 p4 p5) from by rw [f0_j163_l16, if_neg hc127_62, if_neg hc140_63]] at q
                    exact q
                  by_cases hc153_65 : (f0_j70_s0 p3 p4 p5) < (f0_v50 p3)
                  · refine Rt.icmpN (pc' := 156) X35 hx (hb hby at_153) (tlt hc153_65).2.2.2 rfl ?_
                    refine Rt.iconst (pc' := 157) (v := (1 : Int32)) X35 hx (hb hby at_156) rfl rfl ?_
                    refine Rt.goto (pc' := 161) X35 hx (hb hby at_157) (by decide) (by decide) ?_
                    have q := J153_64 T35   X35
                    rw [show (f0_j161_s0 p3 p4 p5) = (1 : Int32) from by rw [f0_j161_s0, if_pos hc153_65]] at q
                    exact q
                  · refine Rt.icmpY (pc' := 160) X35 hx (hb hby at_153) (flt hc153_65).2.2.2 (by decide) (by decide) ?_
                    refine Rt.iconst (pc' := 161) (v := (0 : Int32)) X35 hx (hb hby at_160) rfl rfl ?_
                    have q := J153_64 T35   X35
                    rw [show (f0_j161_s0 p3 p4 p5) = (0 : Int32) from by rw [f0_j161_s0, if_neg hc153_65]] at q
                    exact q
            · refine Rt.ifN (pc' := 116) X35 hx (hb hby at_113) ((if0 _ _).trans (feq hc113_47).1) rfl ?_
              refine Rt.aload (pc' := 118) X35 hx (hb hby at_116) rfl rfl rfl ?_
              refine Rt.aconstNull (pc' := 119) X35 hx (hb hby at_118) rfl ?_
              refine Rt.callV (pc' := 122) X35 hx hZ (y := mt2) (yz := mt2) hown (hw _ (List.mem_of_getElem? (i := 18) rfl)) (hw _ (List.mem_of_getElem? (i := 19) rfl)) (notFace_of_selects (args := #[]) (mvT hZ (hw _ (List.mem_of_getElem? (i := 21) rfl)))) (hw _ (List.mem_of_getElem? (i := 21) rfl)) (hw _ (List.mem_of_getElem? (i := 20) rfl)) (hw _ (List.mem_of_getElem? (i := 4) rfl)) (hw _ (List.mem_of_getElem? (i := 22) rfl)) (by decide) F40 (rm3n l Z a0 hw [] b84 h35 n0) (fun _ _ _ q => q.2.1) (W := 0) (by decide) (by decide) (by decide) (by decide) (argsL := [.null]) (rest := []) (by rw [hml]; rfl) (lenOf pd_1 rfl) rfl rfl (Nat.le_of_eq rfl) (hb hby at_119) rfl ?_
              rintro _ T66 h66 L66 X66 ⟨rfl, N66, e66⟩
              rw [e66] at X66
              show Rt _ _ _ _ _ _ _ (T66.setTop (mkF m 122 #[.val (.long q1), .second, .val (.long q2), .second, .val (.int p3), .val (.int p4), .val (.int p5), .val (.int (f0_j12_s0 p5)), .val (.int (f0_j26_s0 p5)), .val (.int (f0_j40_s0 p5)), .val (.int (f0_v50 p3)), .val (.int (f0_j70_s0 p3 p4 p5)), .val (.long (f0_j82_s0 q1 q2 p5)), .second, .val (.ref b84), .val (.ref b97), .unset, .unset, .unset, .unset, .unset] [(.int f3n)]))
              exact Rt.retZ (w := (nar .boolean f3n)) X66 hx hlk hret (by simp) (hb hby at_122) rfl (by decide) (by decide) (fun L N => ⟨congrArg some (congrArg Value.int (by rw [f0, if_neg hc113_47])), N, K45⟩)
          by_cases hc74_67 : (f0_j12_s0 p5) = (0 : Int32)
          · refine Rt.ifY (pc' := 81) X4 hx (hb hby at_74) ((if0 _ _).trans (teq hc74_67).1) (by decide) (by decide) ?_
            refine Rt.lloadN (pc' := 82) X4 hx (hb hby at_81) rfl rfl ?_
            have q := J74_5 T4   X4
            rw [show (f0_j82_s0 q1 q2 p5) = q2 from by rw [f0_j82_s0, if_pos hc74_67]] at q
            exact q
          · refine Rt.ifN (pc' := 77) X4 hx (hb hby at_74) ((if0 _ _).trans (feq hc74_67).1) rfl ?_
            refine Rt.lloadN (pc' := 78) X4 hx (hb hby at_77) rfl rfl ?_
            refine Rt.goto (pc' := 82) X4 hx (hb hby at_78) (by decide) (by decide) ?_
            have q := J74_5 T4   X4
            rw [show (f0_j82_s0 q1 q2 p5) = q1 from by rw [f0_j82_s0, if_neg hc74_67]] at q
            exact q
        by_cases hc54_68 : (f0_j26_s0 p5) = (0 : Int32)
        · refine Rt.ifY (pc' := 62) X3 hx (hb hby at_54) ((if0 _ _).trans (teq hc54_68).1) (by decide) (by decide) ?_
          refine Rt.iload (pc' := 64) X3 hx (hb hby at_62) rfl rfl ?_
          refine Rt.ldcInt (pc' := 66) X3 hx hZ hown (hw _ (List.mem_of_getElem? (i := 0) rfl)) (hb hby at_64) rfl ?_
          refine Rt.iand (pc' := 67) (r := (p4 &&& (2147483647 : Int32))) X3 hx (hb hby at_66) rfl rfl ?_
          refine Rt.ldcInt (pc' := 69) X3 hx hZ hown (hw _ (List.mem_of_getElem? (i := 1) rfl)) (hb hby at_67) rfl ?_
          refine Rt.irem (pc' := 70) X3 hx (hb hby at_69) (by decide) rfl rfl ?_
          have q := J54_4 T3   X3
          rw [show (f0_j70_s0 p3 p4 p5) = ((p4 &&& (2147483647 : Int32)) % (1000000000 : Int32)) from by rw [f0_j70_s0, if_pos hc54_68]] at q
          exact q
        · refine Rt.ifN (pc' := 57) X3 hx (hb hby at_54) ((if0 _ _).trans (feq hc54_68).1) rfl ?_
          refine Rt.iload (pc' := 59) X3 hx (hb hby at_57) rfl rfl ?_
          refine Rt.goto (pc' := 70) X3 hx (hb hby at_59) (by decide) (by decide) ?_
          have q := J54_4 T3   X3
          rw [show (f0_j70_s0 p3 p4 p5) = (f0_v50 p3) from by rw [f0_j70_s0, if_neg hc54_68]] at q
          exact q
      by_cases hc32_69 : (p5 &&& (4 : Int32)) = (0 : Int32)
      · refine Rt.ifY (pc' := 39) X2 hx (hb hby at_32) ((if0 _ _).trans (teq hc32_69).1) (by decide) (by decide) ?_
        refine Rt.iconst (pc' := 40) (v := (0 : Int32)) X2 hx (hb hby at_39) rfl rfl ?_
        have q := J32_3 T2   X2
        rw [show (f0_j40_s0 p5) = (0 : Int32) from by rw [f0_j40_s0, if_pos hc32_69]] at q
        exact q
      · refine Rt.ifN (pc' := 35) X2 hx (hb hby at_32) ((if0 _ _).trans (feq hc32_69).1) rfl ?_
        refine Rt.iconst (pc' := 36) (v := (1 : Int32)) X2 hx (hb hby at_35) rfl rfl ?_
        refine Rt.goto (pc' := 40) X2 hx (hb hby at_36) (by decide) (by decide) ?_
        have q := J32_3 T2   X2
        rw [show (f0_j40_s0 p5) = (1 : Int32) from by rw [f0_j40_s0, if_neg hc32_69]] at q
        exact q
    by_cases hc18_70 : (p5 &&& (2 : Int32)) = (0 : Int32)
    · refine Rt.ifY (pc' := 25) X1 hx (hb hby at_18) ((if0 _ _).trans (teq hc18_70).1) (by decide) (by decide) ?_
      refine Rt.iconst (pc' := 26) (v := (0 : Int32)) X1 hx (hb hby at_25) rfl rfl ?_
      have q := J18_2 T1   X1
      rw [show (f0_j26_s0 p5) = (0 : Int32) from by rw [f0_j26_s0, if_pos hc18_70]] at q
      exact q
    · refine Rt.ifN (pc' := 21) X1 hx (hb hby at_18) ((if0 _ _).trans (feq hc18_70).1) rfl ?_
      refine Rt.iconst (pc' := 22) (v := (1 : Int32)) X1 hx (hb hby at_21) rfl rfl ?_
      refine Rt.goto (pc' := 26) X1 hx (hb hby at_22) (by decide) (by decide) ?_
      have q := J18_2 T1   X1
      rw [show (f0_j26_s0 p5) = (1 : Int32) from by rw [f0_j26_s0, if_neg hc18_70]] at q
      exact q
  by_cases hc4_71 : (p5 &&& (1 : Int32)) = (0 : Int32)
  · refine Rt.ifY (pc' := 11) X0 hx (hb hby at_4) ((if0 _ _).trans (teq hc4_71).1) (by decide) (by decide) ?_
    refine Rt.iconst (pc' := 12) (v := (0 : Int32)) X0 hx (hb hby at_11) rfl rfl ?_
    have q := J4_1 T0   X0
    rw [show (f0_j12_s0 p5) = (0 : Int32) from by rw [f0_j12_s0, if_pos hc4_71]] at q
    exact q
  · refine Rt.ifN (pc' := 7) X0 hx (hb hby at_4) ((if0 _ _).trans (feq hc4_71).1) rfl ?_
    refine Rt.iconst (pc' := 8) (v := (1 : Int32)) X0 hx (hb hby at_7) rfl rfl ?_
    refine Rt.goto (pc' := 12) X0 hx (hb hby at_8) (by decide) (by decide) ?_
    have q := J4_1 T0   X0
    rw [show (f0_j12_s0 p5) = (1 : Int32) from by rw [f0_j12_s0, if_neg hc4_71]] at q
    exact q
theorem own_tri64 (x y : Int64) : (x < y ∧ ¬ y < x ∧ ¬ x = y ∧ ¬ y = x) ∨ x = y ∨ (y < x ∧ ¬ x < y ∧ ¬ x = y ∧ ¬ y = x) := by
  simp only [Int64.lt_iff_toInt_lt, ← Int64.toInt_inj]; omega
theorem own_tri32 (x y : Int32) : (x < y ∧ ¬ y < x ∧ ¬ x = y ∧ ¬ y = x) ∨ x = y ∨ (y < x ∧ ¬ x < y ∧ ¬ x = y ∧ ¬ y = x) := by
  simp only [Int32.lt_iff_toInt_lt, ← Int32.toInt_inj]; omega
theorem own_law (s1 s2 : Int64) (n1 n2 f : Int32) : f0 s1 s2 n1 n2 f = 1 := by
  unfold f0
  split
  · unfold f0_v234 f0_j163_l16 f0_j161_s0 f0_j233_s0 f0_j222_s0 f0_j212_s0 f0_j200_s0 f0_v179 f0_v170
    generalize f0_j82_s0 s1 s2 f = t
    generalize f0_v50 n1 = a
    generalize f0_j70_s0 n1 n2 f = b
    unfold f3
    rcases own_tri64 s1 t with ⟨h1, h2, h3, h4⟩ | rfl | ⟨h1, h2, h3, h4⟩ <;> rcases own_tri32 a b with ⟨g1, g2, g3, g4⟩ | rfl | ⟨g1, g2, g3, g4⟩ <;> simp [*]
  · decide
set_option maxRecDepth 65536 in
set_option maxHeartbeats 40000000 in
theorem comes_1 {Post : Tables → Env → Array Value → State → Outcome → State → Prop} (hpost : ∀ tb e args s v u, (limb_1_1.after args s (.returned v) u = true ∧ limb_1_2.after args s (.returned v) u = true ∧ True) → FrameEnd s (.returned v) u (Jvm.fieldLocs frame_1_writes args s ++ Jvm.arrayLocs frame_1_arrays args s ++ Jvm.staticLocs frame_1_statics s) 16 128 → Post tb e args s (.returned v) u) :
    ArmFor flags0 classFile x code maxLocals ret World_1 tables_1 room_1 Calls_1 rest_1 Pre_1 Post := by
  intro l hfl _ _ p e ha hc hk s m args below hf hA hF happ hP
  obtain ⟨hcalls, hrest, hpre⟩ := hP
  obtain ⟨-, -, -, hnamed, -, -, -, hat⟩ := (Spec.applies_iff hf).mp happ
  obtain ⟨hg, hn⟩ := and_e (Cond.before_iff.mp (show (Jvm.Cond.and given_1 narrow_1).before args s = true from hpre))
  obtain ⟨g1, g2⟩ := and_e hg
  obtain ⟨g3, g4⟩ := and_e g2
  obtain ⟨g5, g6⟩ := and_e g4
  obtain ⟨g7, g8⟩ := and_e g6
  obtain ⟨g9, g10⟩ := and_e g8
  obtain ⟨w0, w1, w2, w3, w4, rfl⟩ : ∃ w0 w1 w2 w3 w4 : Value, args = #[w0, w1, w2, w3, w4] := by
    have hs : args.size = 5 := by simpa [Cond.value, given_1] using g1
    obtain ⟨L⟩ := args
    match L, hs with
    | [w0, w1, w2, w3, w4], _ => exact ⟨w0, w1, w2, w3, w4, rfl⟩
  have hw := fun d (hd : d ∈ tables_1) => atoms_spec (ws := Jvm.Cond.code x code maxLocals ret :: tables_1) hat d (List.mem_cons_of_mem _ hd)
  have hfit : Fit s := fun {y c} hc i hi => by
    obtain ⟨ha, rfl⟩ := Array.getElem?_eq_some_iff.mp hc
    have q := List.all_eq_true.mp ((Array.all_eq_true_iff_forall_mem.mp hF) _ (Array.getElem_mem ha)) i (List.mem_range.mpr hi)
    simpa [Array.getElem?_eq_getElem hi] using q
  obtain ⟨i0, ei0⟩ := isL_v g3
  obtain rfl : w0 = (.long i0) := Option.some.inj ei0
  obtain ⟨i1, ei1⟩ := isL_v g5
  obtain rfl : w1 = (.long i1) := Option.some.inj ei1
  obtain ⟨i2, ei2⟩ := is_v g7
  obtain rfl : w2 = (.int i2) := Option.some.inj ei2
  obtain ⟨i3, ei3⟩ := is_v g9
  obtain rfl : w3 = (.int i3) := Option.some.inj ei3
  obtain ⟨i4, ei4⟩ := is_v g10
  obtain rfl : w4 = (.int i4) := Option.some.inj ei4
  obtain ⟨n, o, h1, h2, h3, _, L, rfl, ⟨rfl, N, -⟩, hq⟩ := rm0 l s _ hw tables_1 i0 i1 i2 i3 i4 s.heap s.heap.size (Nat.le_refl _) p e ha hc hk s m _ below hf ((Spec.applies_iff_loose hf).mp happ).1 ⟨rfl, State.Warmed39.refl s, rfl⟩ trivial
  rw [own_law i0 i1 i2 i3 i4] at *
  refine ⟨n, _, h1, h2, h3, hpost _ _ _ _ _ _ ⟨Cond.after_iff.mpr rfl, Cond.after_iff.mpr (eq_i res_at (Term.int_eval (1)) rfl), trivial⟩ ⟨hq.1, hq.2.1, (hq.2.2.sift fun y hy => Or.inr (N y hy)).mono (by decide) (by decide)⟩⟩
theorem main_1_1 : Claimed_1_1 := comes_1 fun _ _ _ _ _ _ h hF => ⟨h.1, hF⟩
theorem main_1_2 : Claimed_1_2 := comes_1 fun _ _ _ _ _ _ h hF => ⟨h.2.1, hF⟩
end Jvm.Pilot.@@N@@
namespace Jvm.Pilot.@@N@@
open Jvm Jvm.ClassFile Sem Op Lib Jvm.Free Jvm.Stand Jvm.Pilot.@@N@@.Jvm.D
/-! MADE BY PROGRAM (witnessworld.py) out of the Statement's table words and the real class files: 9 classes; the members and pool entries that the words name. The judged class is class 1, her method 1. -/
namespace start1
open Jvm.ClassFile
def u (s : String) : CpInfo := .utf8 (stringToUtf16 s)
/-- a pool by its gaps: so many unusable entries, then the entry; so many at the end -/
def gap : Nat → List CpInfo → List CpInfo
  | 0, r => r
  | n + 1, r => .unusable :: gap n r
def poolList (es : List (Nat × CpInfo)) (last : Nat) : List CpInfo := es.foldr (fun e r => gap e.1 (e.2 :: r)) (gap last [])
def pool (es : List (Nat × CpInfo)) (last : Nat) : Array CpInfo := ⟨poolList es last⟩
def fileOf (pool : Array CpInfo) (this : Nat) (attrs : Array Attribute := #[]) (ms : Array MethodInfo := #[]) (fl : Nat := 33) (sup : Nat := 0) (ifs : Array Nat := #[]) (fds : Array FieldInfo := #[]) : ClassFile where
  minorVersion := 0
  majorVersion := 65
  constantPool := pool
  accessFlags := fl
  thisClass := this
  superClass := sup
  interfaces := ifs
  fields := fds
  methods := ms
  attributes := attrs
def plain (name : String) (sup : Option ClassId) : Class where
  name := name
  kind := .ordinary
  loader := none
  accessFlags := 33
  super := sup
  interfaces := #[]
  cf := none
  fields := #[]
  methods := #[]
  instanceTypes := #[]
  staticTypes := #[]
  resolved := #[]
  callSites := []
  init := .initialized
  statics := none
  mirror := none

def pool0 : Array CpInfo := pool [(5, u "<init>"), (0, u "()V"), (1, .class_ 10), (1, u "java/lang/Object")] 113

def k0c0 : Code := { maxStack := 0, maxLocals := 1, code := object_method_1_code, exceptionTable := #[], attributes := #[] }
def k0m0 : Method := { name := "<init>", desc := "()V", sig := { parameters := [], returnType := none }, accessFlags := 1, code := some k0c0 }
/-- java/lang/Object -/
def k0 : Class := { plain "java/lang/Object" none with
  accessFlags := 33
  interfaces := #[]
  cf := some (fileOf pool0 8 #[] #[{ accessFlags := 1, nameIndex := 5, descriptorIndex := 6, attributes := #[] }] 33 0 #[] #[])
  fields := #[]
  methods := #[k0m0]
  instanceTypes := #[]
  staticTypes := #[]
  resolved := Array.replicate 124 none
  statics := none }

def pool1 : Array CpInfo := pool [(2, .class_ 4), (1, u "java/lang/Object"), (0, u "<init>"), (0, u "()V"), (0, .integer 2147483647), (0, .class_ 9), (0, u "com/example/cogwire/cogwire/model/WireValue"), (0, .integer 1000000000), (0, .methodref 8 12), (0, .nameAndType 5 13), (0, u "(Ljava/lang/Object;JI)V"), (0, .methodref 8 15), (0, .nameAndType 16 17), (0, u "isNewerThan"), (0, u "(Lcom/example/cogwire/cogwire/model/WireValue;)Z"), (0, .class_ 19), (0, u "com/example/cogwire/cogwire/model/WireValueIsNewerThanPinLaw"), (2, u "law"), (0, u "(JJIII)Z")] 3

def k1m0 : Method := { name := "<init>", desc := "()V", sig := { parameters := [], returnType := none }, accessFlags := 2, code := none }
def k1c1 : Code := { maxStack := 6, maxLocals := 21, code := code, exceptionTable := #[], attributes := #[] }
def k1m1 : Method := { name := "law", desc := "(JJIII)Z", sig := { parameters := [.long, .long, .int, .int, .int], returnType := some .boolean }, accessFlags := 9, code := some k1c1 }
/-- com/example/cogwire/cogwire/model/WireValueIsNewerThanPinLaw -/
def k1 : Class := { plain "com/example/cogwire/cogwire/model/WireValueIsNewerThanPinLaw" (some 0) with
  accessFlags := 49
  interfaces := #[]
  cf := some (fileOf pool1 18 #[] #[{ accessFlags := 2, nameIndex := 5, descriptorIndex := 6, attributes := #[] }, { accessFlags := 9, nameIndex := 22, descriptorIndex := 23, attributes := #[] }] 49 2 #[] #[])
  fields := #[]
  methods := #[k1m0, k1m1]
  instanceTypes := #[]
  staticTypes := #[]
  resolved := Array.replicate 27 none
  statics := none }

def pool2 : Array CpInfo := pool [(1, .methodref 2 3), (0, .class_ 4), (0, .nameAndType 5 6), (0, u "java/lang/Object"), (0, u "<init>"), (0, u "()V"), (0, .class_ 8), (0, u "com/example/cogwire/cogwire/model/WireValue"), (0, .integer 1000000000), (9, .fieldref 7 20), (0, .nameAndType 21 22), (0, u "value"), (0, u "Ljava/lang/Object;"), (0, .fieldref 7 24), (0, .nameAndType 25 26), (0, u "seconds"), (0, u "J"), (0, .fieldref 7 28), (0, .nameAndType 29 30), (0, u "nanoseconds"), (0, u "I"), (16, u "(Ljava/lang/Object;JI)V"), (2, u "isNewerThan"), (0, u "(Lcom/example/cogwire/cogwire/model/WireValue;)Z"), (38, u "NANOS_PER_SECOND")] 29

def k2c0 : Code := { maxStack := 3, maxLocals := 5, code := prog_101_method_1_code, exceptionTable := #[], attributes := #[] }
def k2m0 : Method := { name := "<init>", desc := "(Ljava/lang/Object;JI)V", sig := { parameters := [(.object "java/lang/Object"), .long, .int], returnType := none }, accessFlags := 1, code := some k2c0 }
def k2c1 : Code := { maxStack := 4, maxLocals := 2, code := prog_101_method_6_code, exceptionTable := #[], attributes := #[] }
def k2m1 : Method := { name := "isNewerThan", desc := "(Lcom/example/cogwire/cogwire/model/WireValue;)Z", sig := { parameters := [(.object "com/example/cogwire/cogwire/model/WireValue")], returnType := some .boolean }, accessFlags := 1, code := some k2c1 }
/-- com/example/cogwire/cogwire/model/WireValue -/
def k2 : Class := { plain "com/example/cogwire/cogwire/model/WireValue" (some 0) with
  accessFlags := 49
  interfaces := #[]
  cf := some (fileOf pool2 7 #[] #[{ accessFlags := 1, nameIndex := 5, descriptorIndex := 47, attributes := #[] }, { accessFlags := 1, nameIndex := 50, descriptorIndex := 51, attributes := #[] }] 49 2 #[] #[{ accessFlags := 25, nameIndex := 90, descriptorIndex := 30, attributes := #[] }, { accessFlags := 18, nameIndex := 21, descriptorIndex := 22, attributes := #[] }, { accessFlags := 18, nameIndex := 25, descriptorIndex := 26, attributes := #[] }, { accessFlags := 18, nameIndex := 29, descriptorIndex := 30, attributes := #[] }])
  fields := #[{ name := "NANOS_PER_SECOND", type := .int, accessFlags := 25, slot := 0, constantValue := 0 }, { name := "value", type := (.object "java/lang/Object"), accessFlags := 18, slot := 0, constantValue := 0 }, { name := "seconds", type := .long, accessFlags := 18, slot := 1, constantValue := 0 }, { name := "nanoseconds", type := .int, accessFlags := 18, slot := 2, constantValue := 0 }]
  methods := #[k2m0, k2m1]
  instanceTypes := #[(.object "java/lang/Object"), .long, .int]
  staticTypes := #[.int]
  resolved := Array.replicate 120 none
  statics := none }

def pool3 : Array CpInfo := pool [(1, u "java/lang/Cloneable"), (0, .class_ 1), (0, u "java/lang/Object"), (0, .class_ 3)] 3

/-- java/lang/Cloneable -/
def k3 : Class := { plain "java/lang/Cloneable" (some 0) with
  accessFlags := 1537
  interfaces := #[]
  cf := some (fileOf pool3 2 #[] #[] 1537 4 #[] #[])
  fields := #[]
  methods := #[]
  instanceTypes := #[]
  staticTypes := #[]
  resolved := Array.replicate 8 none
  statics := none }

def pool4 : Array CpInfo := pool [(1, u "java/io/Serializable"), (0, .class_ 1), (0, u "java/lang/Object"), (0, .class_ 3)] 3

/-- java/io/Serializable -/
def k4 : Class := { plain "java/io/Serializable" (some 0) with
  accessFlags := 1537
  interfaces := #[]
  cf := some (fileOf pool4 2 #[] #[] 1537 4 #[] #[])
  fields := #[]
  methods := #[]
  instanceTypes := #[]
  staticTypes := #[]
  resolved := Array.replicate 8 none
  statics := none }

/-- the primitive byte -/
def k5 : Class := { plain "byte" none with kind := .primitive 'B', accessFlags := 0x411 }
/-- [B -/
def k6 : Class := { plain "[B" (some 0) with kind := .array 5 .byte, interfaces := #[3, 4], accessFlags := 1041 }

/-- the primitive int -/
def k7 : Class := { plain "int" none with kind := .primitive 'I', accessFlags := 0x411 }
/-- [I -/
def k8 : Class := { plain "[I" (some 0) with kind := .array 7 .int, interfaces := #[3, 4], accessFlags := 1041 }

def heap : Heap := #[]
def classes : Array Class := #[k0, k1, k2, k3, k4, k5, k6, k7, k8]
def interned : List (Array UInt16 × Addr) := []
def slotsUsed : Nat := 0
def theMethod : MethodId := ⟨1, 1⟩
def args0 : Array Value := #[.long 5, .long 7, .int 1, .int 2, .int 0]
def aboutOver (below : List Frame) : State where
  vm := { classes := classes, interned := interned.toArray }
  heap := heap
  slotsUsed := slotsUsed
  threads := #[{ frames := .invoking theMethod args0 :: below }]
def below0 : List Frame := [.native { method := ⟨0, 0⟩, args := #[] }]
def about1 : State := aboutOver below0
def p0 : Program := .bare "" "" ""
def e0 : Env := launch0.env 0 0 0
theorem w_frames : about1.frames = Frame.invoking theMethod args0 :: below0 := rfl
set_option maxRecDepth 65536 in
theorem w_args : argsFit about1.vm theMethod args0 = true := by decide +kernel
set_option maxRecDepth 65536 in
theorem w_heap : heapFits about1 = true := by decide +kernel
set_option maxRecDepth 65536 in
theorem w_runnable : about1.curStatus? = some .runnable := by decide +kernel
set_option maxRecDepth 65536 in
theorem w_alone : about1.alone = true := by decide +kernel
set_option maxRecDepth 65536 in
theorem w_named : about1.methodNamed? x = some theMethod := by decide +kernel
set_option maxRecDepth 65536 in
theorem w_hears : about1.hears theMethod below0 = true := by decide +kernel
set_option maxRecDepth 65536 in
theorem w_ripe : about1.ripe theMethod args0 below0 = true := by decide +kernel
theorem w_running : about1.status = .running := rfl
set_option maxRecDepth 65536 in
theorem w_room : about1.hasRoom e0.platform room_1 = true :=
  launch0.hasRoom_least _ room_1 (by decide +kernel) (by decide +kernel) (by decide +kernel) (by decide +kernel) (by decide +kernel) (by decide +kernel)
theorem allAtoms_all (ts : List Jvm.Cond) (a : Array Jvm.Value) (st : Jvm.State) : (allAtoms ts).before a st = ts.all (fun c => c.before a st) := by
  induction ts with
  | nil => rfl
  | cons c t ih =>
    show (Jvm.Cond.and c (allAtoms t)).before a st = _
    rw [Jvm.Cond.before_and, ih, List.all_cons]
def words1 : List Jvm.Cond := Jvm.Cond.code x code maxLocals ret :: tables_1
/-- a 'code' word, met by the world's own term for the bytes: nothing is compared byte by byte -/
theorem code_word {y : MethodName} {bytes : ByteArray} {mx : Nat} {rt : Option FieldType} {a : Array Value} {s : State} {m : MethodId} {meth : Method} {c : Code} (h1 : s.methodNamed? y = some m) (h2 : s.vm.method? m = some meth) (h3 : meth.code = some c) (h4 : c.code = bytes)
    (h5 : (c.maxLocals == mx && c.exceptionTable.isEmpty && decide (c.maxStack ≤ mostOperands) && decide (meth.sig.returnType = rt) && !meth.locks && decide (parseMethodDescriptor y.desc = some meth.sig)) = true) : (Jvm.Cond.code y bytes mx rt).before a s = true := by
  simp only [Bool.and_eq_true, beq_iff_eq, Bool.not_eq_true', decide_eq_true_eq] at h5
  obtain ⟨⟨⟨⟨⟨g1, g2⟩, g3⟩, g4⟩, g5⟩, g6⟩ := h5
  simp [Cond.before, Cond.holds, Cond.value, h1, h2, h3, h4, g1, g2, g3, g4, g5, g6]
def isCode : Jvm.Cond → Bool
  | .code _ _ _ _ => true
  | _ => false
theorem all_split {L : List Jvm.Cond} {P : Jvm.Cond → Bool} (h1 : L.all (fun c => isCode c || P c) = true) (h2 : ∀ c ∈ L.filter isCode, P c = true) : L.all P = true := by
  refine List.all_eq_true.mpr fun c hc => ?_
  have h := List.all_eq_true.mp h1 c hc
  rcases Bool.eq_false_or_eq_true (isCode c) with hi | hi
  · exact h2 c (List.mem_filter.mpr ⟨hc, hi⟩)
  · simpa [hi] using h
set_option maxRecDepth 65536 in
theorem w_c0 : (Jvm.Cond.code x code maxLocals ret).before args0 about1 = true := code_word (m := ⟨1, 1⟩) (meth := k1m1) (c := k1c1) (by decide +kernel) rfl rfl rfl (by decide +kernel)
set_option maxRecDepth 65536 in
theorem w_c1 : (Jvm.Cond.code ({ cls := "com/example/cogwire/cogwire/model/WireValue", name := "<init>", desc := "(Ljava/lang/Object;JI)V" } : Jvm.MethodName) prog_101_method_1_code (5 : Nat) (Option.none : Option Jvm.ClassFile.FieldType)).before args0 about1 = true := code_word (m := ⟨2, 0⟩) (meth := k2m0) (c := k2c0) (by decide +kernel) rfl rfl rfl (by decide +kernel)
set_option maxRecDepth 65536 in
theorem w_c2 : (Jvm.Cond.code ({ cls := "java/lang/Object", name := "<init>", desc := "()V" } : Jvm.MethodName) object_method_1_code (1 : Nat) (Option.none : Option Jvm.ClassFile.FieldType)).before args0 about1 = true := code_word (m := ⟨0, 0⟩) (meth := k0m0) (c := k0c0) (by decide +kernel) rfl rfl rfl (by decide +kernel)
set_option maxRecDepth 65536 in
theorem w_c3 : (Jvm.Cond.code ({ cls := "com/example/cogwire/cogwire/model/WireValue", name := "isNewerThan", desc := "(Lcom/example/cogwire/cogwire/model/WireValue;)Z" } : Jvm.MethodName) prog_101_method_6_code (2 : Nat) (Option.some Jvm.ClassFile.FieldType.boolean)).before args0 about1 = true := code_word (m := ⟨2, 1⟩) (meth := k2m1) (c := k2c1) (by decide +kernel) rfl rfl rfl (by decide +kernel)
def codes1 : List Jvm.Cond := [Jvm.Cond.code x code maxLocals ret, Jvm.Cond.code ({ cls := "com/example/cogwire/cogwire/model/WireValue", name := "<init>", desc := "(Ljava/lang/Object;JI)V" } : Jvm.MethodName) prog_101_method_1_code (5 : Nat) (Option.none : Option Jvm.ClassFile.FieldType), Jvm.Cond.code ({ cls := "java/lang/Object", name := "<init>", desc := "()V" } : Jvm.MethodName) object_method_1_code (1 : Nat) (Option.none : Option Jvm.ClassFile.FieldType), Jvm.Cond.code ({ cls := "com/example/cogwire/cogwire/model/WireValue", name := "isNewerThan", desc := "(Lcom/example/cogwire/cogwire/model/WireValue;)Z" } : Jvm.MethodName) prog_101_method_6_code (2 : Nat) (Option.some Jvm.ClassFile.FieldType.boolean)]
set_option maxRecDepth 65536 in
theorem codes_eq : words1.filter isCode = codes1 := rfl
theorem w_codes : ∀ c ∈ words1.filter isCode, c.before args0 about1 = true := by
  rw [codes_eq]
  intro c hc
  simp only [codes1, List.mem_cons, List.not_mem_nil, or_false] at hc
  rcases hc with rfl | rfl | rfl | rfl
  · exact w_c0
  · exact w_c1
  · exact w_c2
  · exact w_c3
set_option maxRecDepth 65536 in
theorem w_t1 : words1.all (fun c => isCode c || c.before args0 about1) = true := by decide +kernel
theorem w_tables : (allAtoms (Jvm.Cond.code x code maxLocals ret :: tables_1)).before args0 about1 = true := by
  rw [allAtoms_all]
  show words1.all (fun c => c.before args0 about1) = true
  refine all_split ?_ w_codes
  rw [w_t1]
set_option maxRecDepth 65536 in
theorem w_case : (Jvm.Cond.and given_1 narrow_1).before args0 about1 = true := by decide +kernel
theorem w_applies : (headSpec (Jvm.Cond.code x code maxLocals ret :: tables_1) room_1).applies x e0.platform about1 = true :=
  (Spec.applies_iff w_frames).mpr ⟨w_running, w_runnable, w_alone, w_named, w_hears, w_ripe, w_room, w_tables⟩
theorem atStart : AtStart classFile x code maxLocals ret World_1 tables_1 room_1 Calls_1 rest_1 Pre_1 launch0 p0 e0 about1 theMethod args0 below0 :=
  ⟨lists_1, trivial, launch0.admits_env _ _ _, launch0.least_env, fairChoices_fair.cas, fairChoices_fair.clock, w_frames, w_args, w_heap, w_applies, trivial, trivial, w_case⟩
end start1
theorem witness_1 : WitnessClaimed_1 := ⟨start1.p0, start1.e0, start1.about1, start1.theMethod, start1.args0, start1.below0, start1.atStart⟩
end Jvm.Pilot.@@N@@
