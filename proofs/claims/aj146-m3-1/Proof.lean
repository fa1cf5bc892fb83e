import JvmDerived
import JvmDerived.Pilot.@@N@@Statement
import JvmDerived.Pilot.@@N@@Code
set_option linter.unusedVariables false
set_option linter.unusedSimpArgs false
namespace Jvm.RoadKit
open Sem ClassFile Op Lib Jvm.Stand Jvm.Free Jvm.LawKit
section New
variable {p : Program} {l : Launch} {e : Env} {R : Room} {s : State} {m : MethodId} {args : Array Value} {below : List Frame} {meth : Method} {c : Code} {T : State} {locs : List Loc} {cells slots : Nat}
theorem retI (X : Stand p l e R s m args below meth c T locs cells slots) (hx : p.tables.exec = Jvm.exec) {pc : Nat} {Ls : Array Slot} {z : Int32} {rest : List Value} (hret : meth.sig.returnType = some .int) (hd : decode c.code pc = .ok (.ireturn, 1)) {fs : List Frame}
    (hl : ∀ (f : JFrame) (acts : List Action), f.method = m → f.locked = none → f.entered = [] → (doReturn e (T.setTop f) acts (some (.int z))).1 = T.setFrames fs) : Steps p.tables e below (T.setTop (mkF m pc Ls (.int z :: rest))) (T.setFrames fs) := by
  have hm' : T.vm.method? m = some meth := X.method'
  have hn : narrow .int (.int z) = .int z := rfl
  show Steps p.tables e below (T.setTop { method := m, pc := pc, locals := Ls, stack := _ :: rest, locked := none }) _
  jvm_step X.here [X.here.top, hx, hd, hm', hret, hn]
  first | (intro acts; rw [hl _ acts rfl rfl rfl]) | rw [hl _ _ rfl rfl rfl]
  exact Steps.refl _
theorem retA (X : Stand p l e R s m args below meth c T locs cells slots) (hx : p.tables.exec = Jvm.exec) {pc : Nat} {Ls : Array Slot} {v : Value} {t : FieldType} (ht : t.isReference = true) (hv : v.isRef = true) (hret : meth.sig.returnType = some t) (hd : decode c.code pc = .ok (.areturn, 1)) {fs : List Frame}
    (hl : ∀ (f : JFrame) (acts : List Action), f.method = m → f.locked = none → f.entered = [] → (doReturn e (T.setTop f) acts (some v)).1 = T.setFrames fs) : Steps p.tables e below (T.setTop (mkF m pc Ls [v])) (T.setFrames fs) := by
  have hm' : T.vm.method? m = some meth := X.method'
  show Steps p.tables e below (T.setTop { method := m, pc := pc, locals := Ls, stack := [v], locked := none }) _
  jvm_step X.here [X.here.top, hx, hd, hm', hret, hv, ht]
  first | (intro acts; rw [hl _ acts rfl rfl rfl]) | rw [hl _ _ rfl rfl rfl]
  exact Steps.refl _
end New
end Jvm.RoadKit
namespace Jvm.Pilot.@@N@@
open Jvm Jvm.ClassFile Sem Op Lib Jvm.Free Jvm.Stand Jvm.LawKit Jvm.RoadKit Bundle Jvm.Pilot.@@N@@.Jvm.D
/-- from A the invocation comes to its end: it returns some v, P holds of v, of the heap and of the places written, and the frame is kept -/
def Rt (p : Program) (e : Env) (below : List Frame) (s : State) (k n : Nat) (P : Option Value → Heap → List Loc → Prop) (A : State) : Prop :=
  ∃ s₂ o, Steps p.tables e below A s₂ ∧ s₂.status = .running ∧ Ended s₂ below o ∧ ∃ v L, o = .returned v ∧ P v s₂.heap L ∧ FrameEnd s o s₂ L k n
/-- where the walk stands: its heap, and that all it wrote lies at n0 or above -/
def Sd (p : Program) (l : Launch) (e : Env) (R : Room) (s : State) (m : MethodId) (args : Array Value) (below : List Frame) (meth : Method) (c : Code) (T : State) (n0 cells slots : Nat) (h : Heap) : Prop :=
  ∃ locs, Stand p l e R s m args below meth c T locs cells slots ∧ Fr n0 locs ∧ T.heap = h
def lcv (j : Fin 2) : Int64 := Int64.ofNat j.val
section Own
variable {p : Program} {l : Launch} {e : Env} {R : Room} {s : State} {m : MethodId} {args : Array Value} {below : List Frame} {meth : Method} {c : Code} {T : State} {n0 cells slots : Nat} {h0 : Heap} {k n : Nat} {P : Option Value → Heap → List Loc → Prop}
theorem Rt.go {A B : State} (f : ∀ t, Steps p.tables e below B t → Steps p.tables e below A t) (h : Rt p e below s k n P B) : Rt p e below s k n P A := by
  obtain ⟨s₂, o, h1, h2⟩ := h
  exact ⟨s₂, o, f _ h1, h2⟩
theorem Rt.mono {Q : Option Value → Heap → List Loc → Prop} {A : State} (h : Rt p e below s k n Q A) (q : ∀ v h L, Q v h L → P v h L) : Rt p e below s k n P A := by
  obtain ⟨s₂, o, h1, h2, h3, v, L, h4, h5, h6⟩ := h
  exact ⟨s₂, o, h1, h2, h3, v, L, h4, q _ _ _ h5, h6⟩
theorem Rt.iloadN (X : Sd p l e R s m args below meth c T n0 cells slots h0) (hx : p.tables.exec = Jvm.exec) {pc pc' : Nat} {Ls : Array Slot} {S : List Value} {j : Fin 4} {v : Int32} (hd : decode c.code pc = .ok (.iload_n j, 1)) (hl : Ls[j.val]? = some (.val (.int v))) (hp : pc + 1 = pc')
    (h : Rt p e below s k n P (T.setTop (mkF m pc' Ls (.int v :: S)))) : Rt p e below s k n P (T.setTop (mkF m pc Ls (S))) := by
  subst hp; obtain ⟨_, X, _, _⟩ := X; exact Rt.go (fun _ => XS.iloadN X.here hx rfl hd hl) h
theorem Rt.iload (X : Sd p l e R s m args below meth c T n0 cells slots h0) (hx : p.tables.exec = Jvm.exec) {pc pc' : Nat} {Ls : Array Slot} {S : List Value} {j : Nat} {v : Int32} (hd : decode c.code pc = .ok (.iload j, 2)) (hl : Ls[j]? = some (.val (.int v))) (hp : pc + 2 = pc')
    (h : Rt p e below s k n P (T.setTop (mkF m pc' Ls (.int v :: S)))) : Rt p e below s k n P (T.setTop (mkF m pc Ls (S))) := by
  subst hp; obtain ⟨_, X, _, _⟩ := X; exact Rt.go (fun _ => XS.iload X.here hx rfl hd hl) h
theorem Rt.istoreN (X : Sd p l e R s m args below meth c T n0 cells slots h0) (hx : p.tables.exec = Jvm.exec) {pc pc' : Nat} {Ls : Array Slot} {S : List Value} {j : Fin 4} {v : Int32} {l' : Array Slot} (hd : decode c.code pc = .ok (.istore_n j, 1)) (hl : storeLocals Ls j.val (.int v) = some l') (hp : pc + 1 = pc')
    (h : Rt p e below s k n P (T.setTop (mkF m pc' l' (S)))) : Rt p e below s k n P (T.setTop (mkF m pc Ls (.int v :: S))) := by
  subst hp; obtain ⟨_, X, _, _⟩ := X; exact Rt.go (fun _ => XS.istoreN X.here hx rfl hd rfl hl) h
theorem Rt.istore (X : Sd p l e R s m args below meth c T n0 cells slots h0) (hx : p.tables.exec = Jvm.exec) {pc pc' : Nat} {Ls : Array Slot} {S : List Value} {j : Nat} {v : Int32} {l' : Array Slot} (hd : decode c.code pc = .ok (.istore j, 2)) (hl : storeLocals Ls j (.int v) = some l') (hp : pc + 2 = pc')
    (h : Rt p e below s k n P (T.setTop (mkF m pc' l' (S)))) : Rt p e below s k n P (T.setTop (mkF m pc Ls (.int v :: S))) := by
  subst hp; obtain ⟨_, X, _, _⟩ := X; exact Rt.go (fun _ => XS.istore X.here hx rfl hd rfl hl) h
theorem Rt.lloadN (X : Sd p l e R s m args below meth c T n0 cells slots h0) (hx : p.tables.exec = Jvm.exec) {pc pc' : Nat} {Ls : Array Slot} {S : List Value} {j : Fin 4} {v : Int64} (hd : decode c.code pc = .ok (.lload_n j, 1)) (hl : Ls[j.val]? = some (.val (.long v))) (hp : pc + 1 = pc')
    (h : Rt p e below s k n P (T.setTop (mkF m pc' Ls (.long v :: S)))) : Rt p e below s k n P (T.setTop (mkF m pc Ls (S))) := by
  subst hp; obtain ⟨_, X, _, _⟩ := X; exact Rt.go (fun _ => XS.lloadN X.here hx rfl hd hl) h
theorem Rt.lload (X : Sd p l e R s m args below meth c T n0 cells slots h0) (hx : p.tables.exec = Jvm.exec) {pc pc' : Nat} {Ls : Array Slot} {S : List Value} {j : Nat} {v : Int64} (hd : decode c.code pc = .ok (.lload j, 2)) (hl : Ls[j]? = some (.val (.long v))) (hp : pc + 2 = pc')
    (h : Rt p e below s k n P (T.setTop (mkF m pc' Ls (.long v :: S)))) : Rt p e below s k n P (T.setTop (mkF m pc Ls (S))) := by
  subst hp; obtain ⟨_, X, _, _⟩ := X; exact Rt.go (fun _ => XS.lload X.here hx rfl hd hl) h
theorem Rt.lstoreN (X : Sd p l e R s m args below meth c T n0 cells slots h0) (hx : p.tables.exec = Jvm.exec) {pc pc' : Nat} {Ls : Array Slot} {S : List Value} {j : Fin 4} {v : Int64} {l' : Array Slot} (hd : decode c.code pc = .ok (.lstore_n j, 1)) (hl : storeLocals Ls j.val (.long v) = some l') (hp : pc + 1 = pc')
    (h : Rt p e below s k n P (T.setTop (mkF m pc' l' (S)))) : Rt p e below s k n P (T.setTop (mkF m pc Ls (.long v :: S))) := by
  subst hp; obtain ⟨_, X, _, _⟩ := X; exact Rt.go (fun _ => XS.lstoreN X.here hx rfl hd rfl hl) h
theorem Rt.lstore (X : Sd p l e R s m args below meth c T n0 cells slots h0) (hx : p.tables.exec = Jvm.exec) {pc pc' : Nat} {Ls : Array Slot} {S : List Value} {j : Nat} {v : Int64} {l' : Array Slot} (hd : decode c.code pc = .ok (.lstore j, 2)) (hl : storeLocals Ls j (.long v) = some l') (hp : pc + 2 = pc')
    (h : Rt p e below s k n P (T.setTop (mkF m pc' l' (S)))) : Rt p e below s k n P (T.setTop (mkF m pc Ls (.long v :: S))) := by
  subst hp; obtain ⟨_, X, _, _⟩ := X; exact Rt.go (fun _ => XS.lstore X.here hx rfl hd rfl hl) h
theorem Rt.aloadN (X : Sd p l e R s m args below meth c T n0 cells slots h0) (hx : p.tables.exec = Jvm.exec) {pc pc' : Nat} {Ls : Array Slot} {S : List Value} {j : Fin 4} {v : Value} (hd : decode c.code pc = .ok (.aload_n j, 1)) (hl : Ls[j.val]? = some (.val v)) (hv : v.isRef = true) (hp : pc + 1 = pc')
    (h : Rt p e below s k n P (T.setTop (mkF m pc' Ls (v :: S)))) : Rt p e below s k n P (T.setTop (mkF m pc Ls (S))) := by
  subst hp; obtain ⟨_, X, _, _⟩ := X; exact Rt.go (fun _ => XS.aloadN X.here hx rfl hd hl hv) h
theorem Rt.aload (X : Sd p l e R s m args below meth c T n0 cells slots h0) (hx : p.tables.exec = Jvm.exec) {pc pc' : Nat} {Ls : Array Slot} {S : List Value} {j : Nat} {v : Value} (hd : decode c.code pc = .ok (.aload j, 2)) (hl : Ls[j]? = some (.val v)) (hv : v.isRef = true) (hp : pc + 2 = pc')
    (h : Rt p e below s k n P (T.setTop (mkF m pc' Ls (v :: S)))) : Rt p e below s k n P (T.setTop (mkF m pc Ls (S))) := by
  subst hp; obtain ⟨_, X, _, _⟩ := X; exact Rt.go (fun _ => XS.aload X.here hx rfl hd hl hv) h
theorem Rt.astoreN (X : Sd p l e R s m args below meth c T n0 cells slots h0) (hx : p.tables.exec = Jvm.exec) {pc pc' : Nat} {Ls : Array Slot} {S : List Value} {j : Fin 4} {v : Value} {l' : Array Slot} (hd : decode c.code pc = .ok (.astore_n j, 1)) (hv : v.isRef = true) (hl : storeLocals Ls j.val v = some l') (hp : pc + 1 = pc')
    (h : Rt p e below s k n P (T.setTop (mkF m pc' l' (S)))) : Rt p e below s k n P (T.setTop (mkF m pc Ls (v :: S))) := by
  subst hp; obtain ⟨_, X, _, _⟩ := X; exact Rt.go (fun _ => XS.astoreN X.here hx rfl hd rfl hv hl) h
theorem Rt.astore (X : Sd p l e R s m args below meth c T n0 cells slots h0) (hx : p.tables.exec = Jvm.exec) {pc pc' : Nat} {Ls : Array Slot} {S : List Value} {j : Nat} {v : Value} {l' : Array Slot} (hd : decode c.code pc = .ok (.astore j, 2)) (hv : v.isRef = true) (hl : storeLocals Ls j v = some l') (hp : pc + 2 = pc')
    (h : Rt p e below s k n P (T.setTop (mkF m pc' l' (S)))) : Rt p e below s k n P (T.setTop (mkF m pc Ls (v :: S))) := by
  subst hp; obtain ⟨_, X, _, _⟩ := X; exact Rt.go (fun _ => XS.astore X.here hx rfl hd rfl hv hl) h
theorem Rt.iconst (X : Sd p l e R s m args below meth c T n0 cells slots h0) (hx : p.tables.exec = Jvm.exec) {pc pc' : Nat} {Ls : Array Slot} {S : List Value} {i : Int} {v : Int32} (hd : decode c.code pc = .ok (.iconst i, 1)) (hv : Int32.ofInt i = v) (hp : pc + 1 = pc')
    (h : Rt p e below s k n P (T.setTop (mkF m pc' Ls (.int v :: S)))) : Rt p e below s k n P (T.setTop (mkF m pc Ls S)) := by
  subst hp hv; obtain ⟨_, X, _, _⟩ := X; exact Rt.go (fun _ => XS.iconst X.here hx rfl hd) h
theorem Rt.bipush (X : Sd p l e R s m args below meth c T n0 cells slots h0) (hx : p.tables.exec = Jvm.exec) {pc pc' : Nat} {Ls : Array Slot} {S : List Value} {i : Int} {v : Int32} (hd : decode c.code pc = .ok (.bipush i, 2)) (hv : (Int8.ofInt i).toInt32 = v) (hp : pc + 2 = pc')
    (h : Rt p e below s k n P (T.setTop (mkF m pc' Ls (.int v :: S)))) : Rt p e below s k n P (T.setTop (mkF m pc Ls S)) := by
  subst hp hv; obtain ⟨_, X, _, _⟩ := X; exact Rt.go (fun _ => XS.bipush X.here hx rfl hd) h
theorem Rt.sipush (X : Sd p l e R s m args below meth c T n0 cells slots h0) (hx : p.tables.exec = Jvm.exec) {pc pc' : Nat} {Ls : Array Slot} {S : List Value} {i : Int} {v : Int32} (hd : decode c.code pc = .ok (.sipush i, 3)) (hv : (Int16.ofInt i).toInt32 = v) (hp : pc + 3 = pc')
    (h : Rt p e below s k n P (T.setTop (mkF m pc' Ls (.int v :: S)))) : Rt p e below s k n P (T.setTop (mkF m pc Ls S)) := by
  subst hp hv; obtain ⟨_, X, _, _⟩ := X; exact Rt.go (fun _ => XS.sipush X.here hx rfl hd) h
theorem Rt.lconst (X : Sd p l e R s m args below meth c T n0 cells slots h0) (hx : p.tables.exec = Jvm.exec) {pc pc' : Nat} {Ls : Array Slot} {S : List Value} {i : Fin 2} {v : Int64} (hd : decode c.code pc = .ok (.lconst i, 1)) (hv : lcv i = v) (hp : pc + 1 = pc')
    (h : Rt p e below s k n P (T.setTop (mkF m pc' Ls (.long v :: S)))) : Rt p e below s k n P (T.setTop (mkF m pc Ls S)) := by
  subst hp hv; obtain ⟨_, X, _, _⟩ := X; exact Rt.go (fun _ => XS.lconst X.here hx rfl hd) h
theorem Rt.aconstNull (X : Sd p l e R s m args below meth c T n0 cells slots h0) (hx : p.tables.exec = Jvm.exec) {pc pc' : Nat} {Ls : Array Slot} {S : List Value}  (hd : decode c.code pc = .ok (.aconst_null, 1)) (hp : pc + 1 = pc')
    (h : Rt p e below s k n P (T.setTop (mkF m pc' Ls (.null :: S)))) : Rt p e below s k n P (T.setTop (mkF m pc Ls (S))) := by
  subst hp; obtain ⟨_, X, _, _⟩ := X; exact Rt.go (fun _ => XS.aconstNull X.here hx rfl hd ) h
theorem Rt.iadd (X : Sd p l e R s m args below meth c T n0 cells slots h0) (hx : p.tables.exec = Jvm.exec) {pc pc' : Nat} {Ls : Array Slot} {S : List Value} {x y r : Int32} (hd : decode c.code pc = .ok (.iadd, 1)) (hr : x + y = r) (hp : pc + 1 = pc')
    (h : Rt p e below s k n P (T.setTop (mkF m pc' Ls (.int r :: S)))) : Rt p e below s k n P (T.setTop (mkF m pc Ls (.int y :: .int x :: S))) := by
  subst hp hr; obtain ⟨_, X, _, _⟩ := X; exact Rt.go (fun _ => XS.iadd X.here hx rfl hd rfl) h
theorem Rt.isub (X : Sd p l e R s m args below meth c T n0 cells slots h0) (hx : p.tables.exec = Jvm.exec) {pc pc' : Nat} {Ls : Array Slot} {S : List Value} {x y r : Int32} (hd : decode c.code pc = .ok (.isub, 1)) (hr : x - y = r) (hp : pc + 1 = pc')
    (h : Rt p e below s k n P (T.setTop (mkF m pc' Ls (.int r :: S)))) : Rt p e below s k n P (T.setTop (mkF m pc Ls (.int y :: .int x :: S))) := by
  subst hp hr; obtain ⟨_, X, _, _⟩ := X; exact Rt.go (fun _ => XS.isub X.here hx rfl hd rfl) h
theorem Rt.imul (X : Sd p l e R s m args below meth c T n0 cells slots h0) (hx : p.tables.exec = Jvm.exec) {pc pc' : Nat} {Ls : Array Slot} {S : List Value} {x y r : Int32} (hd : decode c.code pc = .ok (.imul, 1)) (hr : x * y = r) (hp : pc + 1 = pc')
    (h : Rt p e below s k n P (T.setTop (mkF m pc' Ls (.int r :: S)))) : Rt p e below s k n P (T.setTop (mkF m pc Ls (.int y :: .int x :: S))) := by
  subst hp hr; obtain ⟨_, X, _, _⟩ := X; exact Rt.go (fun _ => XS.imul X.here hx rfl hd rfl) h
theorem Rt.iand (X : Sd p l e R s m args below meth c T n0 cells slots h0) (hx : p.tables.exec = Jvm.exec) {pc pc' : Nat} {Ls : Array Slot} {S : List Value} {x y r : Int32} (hd : decode c.code pc = .ok (.iand, 1)) (hr : x &&& y = r) (hp : pc + 1 = pc')
    (h : Rt p e below s k n P (T.setTop (mkF m pc' Ls (.int r :: S)))) : Rt p e below s k n P (T.setTop (mkF m pc Ls (.int y :: .int x :: S))) := by
  subst hp hr; obtain ⟨_, X, _, _⟩ := X; exact Rt.go (fun _ => XS.iand X.here hx rfl hd rfl) h
theorem Rt.ior (X : Sd p l e R s m args below meth c T n0 cells slots h0) (hx : p.tables.exec = Jvm.exec) {pc pc' : Nat} {Ls : Array Slot} {S : List Value} {x y r : Int32} (hd : decode c.code pc = .ok (.ior, 1)) (hr : x ||| y = r) (hp : pc + 1 = pc')
    (h : Rt p e below s k n P (T.setTop (mkF m pc' Ls (.int r :: S)))) : Rt p e below s k n P (T.setTop (mkF m pc Ls (.int y :: .int x :: S))) := by
  subst hp hr; obtain ⟨_, X, _, _⟩ := X; exact Rt.go (fun _ => XS.ior X.here hx rfl hd rfl) h
theorem Rt.ixor (X : Sd p l e R s m args below meth c T n0 cells slots h0) (hx : p.tables.exec = Jvm.exec) {pc pc' : Nat} {Ls : Array Slot} {S : List Value} {x y r : Int32} (hd : decode c.code pc = .ok (.ixor, 1)) (hr : x ^^^ y = r) (hp : pc + 1 = pc')
    (h : Rt p e below s k n P (T.setTop (mkF m pc' Ls (.int r :: S)))) : Rt p e below s k n P (T.setTop (mkF m pc Ls (.int y :: .int x :: S))) := by
  subst hp hr; obtain ⟨_, X, _, _⟩ := X; exact Rt.go (fun _ => XS.ixor X.here hx rfl hd rfl) h
theorem Rt.ishl (X : Sd p l e R s m args below meth c T n0 cells slots h0) (hx : p.tables.exec = Jvm.exec) {pc pc' : Nat} {Ls : Array Slot} {S : List Value} {x y r : Int32} (hd : decode c.code pc = .ok (.ishl, 1)) (hr : x <<< (y &&& 31) = r) (hp : pc + 1 = pc')
    (h : Rt p e below s k n P (T.setTop (mkF m pc' Ls (.int r :: S)))) : Rt p e below s k n P (T.setTop (mkF m pc Ls (.int y :: .int x :: S))) := by
  subst hp hr; obtain ⟨_, X, _, _⟩ := X; exact Rt.go (fun _ => XS.ishl X.here hx rfl hd rfl) h
theorem Rt.ishr (X : Sd p l e R s m args below meth c T n0 cells slots h0) (hx : p.tables.exec = Jvm.exec) {pc pc' : Nat} {Ls : Array Slot} {S : List Value} {x y r : Int32} (hd : decode c.code pc = .ok (.ishr, 1)) (hr : x >>> (y &&& 31) = r) (hp : pc + 1 = pc')
    (h : Rt p e below s k n P (T.setTop (mkF m pc' Ls (.int r :: S)))) : Rt p e below s k n P (T.setTop (mkF m pc Ls (.int y :: .int x :: S))) := by
  subst hp hr; obtain ⟨_, X, _, _⟩ := X; exact Rt.go (fun _ => XS.ishr X.here hx rfl hd rfl) h
theorem Rt.iushr (X : Sd p l e R s m args below meth c T n0 cells slots h0) (hx : p.tables.exec = Jvm.exec) {pc pc' : Nat} {Ls : Array Slot} {S : List Value} {x y r : Int32} (hd : decode c.code pc = .ok (.iushr, 1)) (hr : (x.toUInt32 >>> (y &&& 31).toUInt32).toInt32 = r) (hp : pc + 1 = pc')
    (h : Rt p e below s k n P (T.setTop (mkF m pc' Ls (.int r :: S)))) : Rt p e below s k n P (T.setTop (mkF m pc Ls (.int y :: .int x :: S))) := by
  subst hp hr; obtain ⟨_, X, _, _⟩ := X; exact Rt.go (fun _ => XS.iushr X.here hx rfl hd rfl) h
theorem Rt.ladd (X : Sd p l e R s m args below meth c T n0 cells slots h0) (hx : p.tables.exec = Jvm.exec) {pc pc' : Nat} {Ls : Array Slot} {S : List Value} {x y r : Int64} (hd : decode c.code pc = .ok (.ladd, 1)) (hr : x + y = r) (hp : pc + 1 = pc')
    (h : Rt p e below s k n P (T.setTop (mkF m pc' Ls (.long r :: S)))) : Rt p e below s k n P (T.setTop (mkF m pc Ls (.long y :: .long x :: S))) := by
  subst hp hr; obtain ⟨_, X, _, _⟩ := X; exact Rt.go (fun _ => XS.ladd X.here hx rfl hd rfl) h
theorem Rt.lsub (X : Sd p l e R s m args below meth c T n0 cells slots h0) (hx : p.tables.exec = Jvm.exec) {pc pc' : Nat} {Ls : Array Slot} {S : List Value} {x y r : Int64} (hd : decode c.code pc = .ok (.lsub, 1)) (hr : x - y = r) (hp : pc + 1 = pc')
    (h : Rt p e below s k n P (T.setTop (mkF m pc' Ls (.long r :: S)))) : Rt p e below s k n P (T.setTop (mkF m pc Ls (.long y :: .long x :: S))) := by
  subst hp hr; obtain ⟨_, X, _, _⟩ := X; exact Rt.go (fun _ => XS.lsub X.here hx rfl hd rfl) h
theorem Rt.lmul (X : Sd p l e R s m args below meth c T n0 cells slots h0) (hx : p.tables.exec = Jvm.exec) {pc pc' : Nat} {Ls : Array Slot} {S : List Value} {x y r : Int64} (hd : decode c.code pc = .ok (.lmul, 1)) (hr : x * y = r) (hp : pc + 1 = pc')
    (h : Rt p e below s k n P (T.setTop (mkF m pc' Ls (.long r :: S)))) : Rt p e below s k n P (T.setTop (mkF m pc Ls (.long y :: .long x :: S))) := by
  subst hp hr; obtain ⟨_, X, _, _⟩ := X; exact Rt.go (fun _ => XS.lmul X.here hx rfl hd rfl) h
theorem Rt.land (X : Sd p l e R s m args below meth c T n0 cells slots h0) (hx : p.tables.exec = Jvm.exec) {pc pc' : Nat} {Ls : Array Slot} {S : List Value} {x y r : Int64} (hd : decode c.code pc = .ok (.land, 1)) (hr : x &&& y = r) (hp : pc + 1 = pc')
    (h : Rt p e below s k n P (T.setTop (mkF m pc' Ls (.long r :: S)))) : Rt p e below s k n P (T.setTop (mkF m pc Ls (.long y :: .long x :: S))) := by
  subst hp hr; obtain ⟨_, X, _, _⟩ := X; exact Rt.go (fun _ => XS.land X.here hx rfl hd rfl) h
theorem Rt.lor (X : Sd p l e R s m args below meth c T n0 cells slots h0) (hx : p.tables.exec = Jvm.exec) {pc pc' : Nat} {Ls : Array Slot} {S : List Value} {x y r : Int64} (hd : decode c.code pc = .ok (.lor, 1)) (hr : x ||| y = r) (hp : pc + 1 = pc')
    (h : Rt p e below s k n P (T.setTop (mkF m pc' Ls (.long r :: S)))) : Rt p e below s k n P (T.setTop (mkF m pc Ls (.long y :: .long x :: S))) := by
  subst hp hr; obtain ⟨_, X, _, _⟩ := X; exact Rt.go (fun _ => XS.lor X.here hx rfl hd rfl) h
theorem Rt.lxor (X : Sd p l e R s m args below meth c T n0 cells slots h0) (hx : p.tables.exec = Jvm.exec) {pc pc' : Nat} {Ls : Array Slot} {S : List Value} {x y r : Int64} (hd : decode c.code pc = .ok (.lxor, 1)) (hr : x ^^^ y = r) (hp : pc + 1 = pc')
    (h : Rt p e below s k n P (T.setTop (mkF m pc' Ls (.long r :: S)))) : Rt p e below s k n P (T.setTop (mkF m pc Ls (.long y :: .long x :: S))) := by
  subst hp hr; obtain ⟨_, X, _, _⟩ := X; exact Rt.go (fun _ => XS.lxor X.here hx rfl hd rfl) h
theorem Rt.lshl (X : Sd p l e R s m args below meth c T n0 cells slots h0) (hx : p.tables.exec = Jvm.exec) {pc pc' : Nat} {Ls : Array Slot} {S : List Value} {x r : Int64} {y : Int32} (hd : decode c.code pc = .ok (.lshl, 1)) (hr : x <<< (y &&& 0x3f).toInt64 = r) (hp : pc + 1 = pc')
    (h : Rt p e below s k n P (T.setTop (mkF m pc' Ls (.long r :: S)))) : Rt p e below s k n P (T.setTop (mkF m pc Ls (.int y :: .long x :: S))) := by
  subst hp hr; obtain ⟨_, X, _, _⟩ := X; exact Rt.go (fun _ => XS.lshl X.here hx rfl hd rfl) h
theorem Rt.lshr (X : Sd p l e R s m args below meth c T n0 cells slots h0) (hx : p.tables.exec = Jvm.exec) {pc pc' : Nat} {Ls : Array Slot} {S : List Value} {x r : Int64} {y : Int32} (hd : decode c.code pc = .ok (.lshr, 1)) (hr : x >>> (y &&& 0x3f).toInt64 = r) (hp : pc + 1 = pc')
    (h : Rt p e below s k n P (T.setTop (mkF m pc' Ls (.long r :: S)))) : Rt p e below s k n P (T.setTop (mkF m pc Ls (.int y :: .long x :: S))) := by
  subst hp hr; obtain ⟨_, X, _, _⟩ := X; exact Rt.go (fun _ => XS.lshr X.here hx rfl hd rfl) h
theorem Rt.lushr (X : Sd p l e R s m args below meth c T n0 cells slots h0) (hx : p.tables.exec = Jvm.exec) {pc pc' : Nat} {Ls : Array Slot} {S : List Value} {x r : Int64} {y : Int32} (hd : decode c.code pc = .ok (.lushr, 1)) (hr : (x.toUInt64 >>> (y &&& 0x3f).toInt64.toUInt64).toInt64 = r) (hp : pc + 1 = pc')
    (h : Rt p e below s k n P (T.setTop (mkF m pc' Ls (.long r :: S)))) : Rt p e below s k n P (T.setTop (mkF m pc Ls (.int y :: .long x :: S))) := by
  subst hp hr; obtain ⟨_, X, _, _⟩ := X; exact Rt.go (fun _ => XS.lushr X.here hx rfl hd rfl) h
theorem Rt.idiv (X : Sd p l e R s m args below meth c T n0 cells slots h0) (hx : p.tables.exec = Jvm.exec) {pc pc' : Nat} {Ls : Array Slot} {S : List Value} {x y r : Int32} (hd : decode c.code pc = .ok (.idiv, 1)) (hy : y ≠ 0) (hr : x / y = r) (hp : pc + 1 = pc')
    (h : Rt p e below s k n P (T.setTop (mkF m pc' Ls (.int r :: S)))) : Rt p e below s k n P (T.setTop (mkF m pc Ls (.int y :: .int x :: S))) := by
  subst hp hr; obtain ⟨_, X, _, _⟩ := X; exact Rt.go (fun _ => XS.idiv X.here hx rfl hd rfl hy) h
theorem Rt.irem (X : Sd p l e R s m args below meth c T n0 cells slots h0) (hx : p.tables.exec = Jvm.exec) {pc pc' : Nat} {Ls : Array Slot} {S : List Value} {x y r : Int32} (hd : decode c.code pc = .ok (.irem, 1)) (hy : y ≠ 0) (hr : x % y = r) (hp : pc + 1 = pc')
    (h : Rt p e below s k n P (T.setTop (mkF m pc' Ls (.int r :: S)))) : Rt p e below s k n P (T.setTop (mkF m pc Ls (.int y :: .int x :: S))) := by
  subst hp hr; obtain ⟨_, X, _, _⟩ := X; exact Rt.go (fun _ => iremM X hx rfl hd rfl hy) h
theorem Rt.ldiv (X : Sd p l e R s m args below meth c T n0 cells slots h0) (hx : p.tables.exec = Jvm.exec) {pc pc' : Nat} {Ls : Array Slot} {S : List Value} {x y r : Int64} (hd : decode c.code pc = .ok (.ldiv, 1)) (hy : y ≠ 0) (hr : x / y = r) (hp : pc + 1 = pc')
    (h : Rt p e below s k n P (T.setTop (mkF m pc' Ls (.long r :: S)))) : Rt p e below s k n P (T.setTop (mkF m pc Ls (.long y :: .long x :: S))) := by
  subst hp hr; obtain ⟨_, X, _, _⟩ := X; exact Rt.go (fun _ => XS.ldiv X.here hx rfl hd rfl hy) h
theorem Rt.lrem (X : Sd p l e R s m args below meth c T n0 cells slots h0) (hx : p.tables.exec = Jvm.exec) {pc pc' : Nat} {Ls : Array Slot} {S : List Value} {x y r : Int64} (hd : decode c.code pc = .ok (.lrem, 1)) (hy : y ≠ 0) (hr : x - (x / y) * y = r) (hp : pc + 1 = pc')
    (h : Rt p e below s k n P (T.setTop (mkF m pc' Ls (.long r :: S)))) : Rt p e below s k n P (T.setTop (mkF m pc Ls (.long y :: .long x :: S))) := by
  subst hp hr; obtain ⟨_, X, _, _⟩ := X; exact Rt.go (fun _ => XS.lrem X.here hx rfl hd rfl hy) h
theorem Rt.ineg (X : Sd p l e R s m args below meth c T n0 cells slots h0) (hx : p.tables.exec = Jvm.exec) {pc pc' : Nat} {Ls : Array Slot} {S : List Value} {v : Int32} {r : Int32} (hd : decode c.code pc = .ok (.ineg, 1)) (hr : -v = r) (hp : pc + 1 = pc')
    (h : Rt p e below s k n P (T.setTop (mkF m pc' Ls (.int r :: S)))) : Rt p e below s k n P (T.setTop (mkF m pc Ls (.int v :: S))) := by
  subst hp hr; obtain ⟨_, X, _, _⟩ := X; exact Rt.go (fun _ => XS.ineg X.here hx rfl hd rfl) h
theorem Rt.lneg (X : Sd p l e R s m args below meth c T n0 cells slots h0) (hx : p.tables.exec = Jvm.exec) {pc pc' : Nat} {Ls : Array Slot} {S : List Value} {v : Int64} {r : Int64} (hd : decode c.code pc = .ok (.lneg, 1)) (hr : -v = r) (hp : pc + 1 = pc')
    (h : Rt p e below s k n P (T.setTop (mkF m pc' Ls (.long r :: S)))) : Rt p e below s k n P (T.setTop (mkF m pc Ls (.long v :: S))) := by
  subst hp hr; obtain ⟨_, X, _, _⟩ := X; exact Rt.go (fun _ => XS.lneg X.here hx rfl hd rfl) h
theorem Rt.i2l (X : Sd p l e R s m args below meth c T n0 cells slots h0) (hx : p.tables.exec = Jvm.exec) {pc pc' : Nat} {Ls : Array Slot} {S : List Value} {v : Int32} {r : Int64} (hd : decode c.code pc = .ok (.i2l, 1)) (hr : v.toInt64 = r) (hp : pc + 1 = pc')
    (h : Rt p e below s k n P (T.setTop (mkF m pc' Ls (.long r :: S)))) : Rt p e below s k n P (T.setTop (mkF m pc Ls (.int v :: S))) := by
  subst hp hr; obtain ⟨_, X, _, _⟩ := X; exact Rt.go (fun _ => XS.i2l X.here hx rfl hd rfl) h
theorem Rt.l2i (X : Sd p l e R s m args below meth c T n0 cells slots h0) (hx : p.tables.exec = Jvm.exec) {pc pc' : Nat} {Ls : Array Slot} {S : List Value} {v : Int64} {r : Int32} (hd : decode c.code pc = .ok (.l2i, 1)) (hr : v.toInt32 = r) (hp : pc + 1 = pc')
    (h : Rt p e below s k n P (T.setTop (mkF m pc' Ls (.int r :: S)))) : Rt p e below s k n P (T.setTop (mkF m pc Ls (.long v :: S))) := by
  subst hp hr; obtain ⟨_, X, _, _⟩ := X; exact Rt.go (fun _ => XS.l2i X.here hx rfl hd rfl) h
theorem Rt.i2b (X : Sd p l e R s m args below meth c T n0 cells slots h0) (hx : p.tables.exec = Jvm.exec) {pc pc' : Nat} {Ls : Array Slot} {S : List Value} {v : Int32} {r : Int32} (hd : decode c.code pc = .ok (.i2b, 1)) (hr : v.toInt8.toInt32 = r) (hp : pc + 1 = pc')
    (h : Rt p e below s k n P (T.setTop (mkF m pc' Ls (.int r :: S)))) : Rt p e below s k n P (T.setTop (mkF m pc Ls (.int v :: S))) := by
  subst hp hr; obtain ⟨_, X, _, _⟩ := X; exact Rt.go (fun _ => XS.i2b X.here hx rfl hd rfl) h
theorem Rt.i2s (X : Sd p l e R s m args below meth c T n0 cells slots h0) (hx : p.tables.exec = Jvm.exec) {pc pc' : Nat} {Ls : Array Slot} {S : List Value} {v : Int32} {r : Int32} (hd : decode c.code pc = .ok (.i2s, 1)) (hr : v.toInt16.toInt32 = r) (hp : pc + 1 = pc')
    (h : Rt p e below s k n P (T.setTop (mkF m pc' Ls (.int r :: S)))) : Rt p e below s k n P (T.setTop (mkF m pc Ls (.int v :: S))) := by
  subst hp hr; obtain ⟨_, X, _, _⟩ := X; exact Rt.go (fun _ => XS.i2s X.here hx rfl hd rfl) h
theorem Rt.i2c (X : Sd p l e R s m args below meth c T n0 cells slots h0) (hx : p.tables.exec = Jvm.exec) {pc pc' : Nat} {Ls : Array Slot} {S : List Value} {v : Int32} {r : Int32} (hd : decode c.code pc = .ok (.i2c, 1)) (hr : v.toUInt32.toUInt16.toUInt32.toInt32 = r) (hp : pc + 1 = pc')
    (h : Rt p e below s k n P (T.setTop (mkF m pc' Ls (.int r :: S)))) : Rt p e below s k n P (T.setTop (mkF m pc Ls (.int v :: S))) := by
  subst hp hr; obtain ⟨_, X, _, _⟩ := X; exact Rt.go (fun _ => XS.i2c X.here hx rfl hd rfl) h
theorem Rt.lcmp (X : Sd p l e R s m args below meth c T n0 cells slots h0) (hx : p.tables.exec = Jvm.exec) {pc pc' : Nat} {Ls : Array Slot} {S : List Value} {x y : Int64} (hd : decode c.code pc = .ok (.lcmp, 1)) (hp : pc + 1 = pc')
    (h : Rt p e below s k n P (T.setTop (mkF m pc' Ls (.int (lcmpW x y) :: S)))) : Rt p e below s k n P (T.setTop (mkF m pc Ls (.long y :: .long x :: S))) := by
  subst hp; obtain ⟨_, X, _, _⟩ := X; exact Rt.go (fun _ => XS.lcmp X.here hx rfl hd rfl) h
theorem Rt.iinc (X : Sd p l e R s m args below meth c T n0 cells slots h0) (hx : p.tables.exec = Jvm.exec) {pc pc' : Nat} {Ls : Array Slot} {S : List Value} {j : Nat} {cst : Int} {x r : Int32} {l' : Array Slot} (hd : decode c.code pc = .ok (.iinc j cst, 3)) (hl : Ls[j]? = some (.val (.int x))) (hr : x + Int32.ofInt cst = r) (hl' : storeLocals Ls j (.int r) = some l') (hp : pc + 3 = pc')
    (h : Rt p e below s k n P (T.setTop (mkF m pc' l' S))) : Rt p e below s k n P (T.setTop (mkF m pc Ls S)) := by
  subst hp hr; obtain ⟨_, X, _, _⟩ := X; exact Rt.go (fun _ => XS.iinc X.here hx rfl hd hl hl') h
theorem Rt.dup (X : Sd p l e R s m args below meth c T n0 cells slots h0) (hx : p.tables.exec = Jvm.exec) {pc pc' : Nat} {Ls : Array Slot} {S : List Value} {x : Value} (hd : decode c.code pc = .ok (.dup, 1)) (hc : x.category = 1) (hp : pc + 1 = pc')
    (h : Rt p e below s k n P (T.setTop (mkF m pc' Ls (x :: x :: S)))) : Rt p e below s k n P (T.setTop (mkF m pc Ls (x :: S))) := by
  subst hp; obtain ⟨_, X, _, _⟩ := X; exact Rt.go (fun _ => XS.dup X.here hx rfl hd rfl hc) h
theorem Rt.pop (X : Sd p l e R s m args below meth c T n0 cells slots h0) (hx : p.tables.exec = Jvm.exec) {pc pc' : Nat} {Ls : Array Slot} {S : List Value} {x : Value} (hd : decode c.code pc = .ok (.pop, 1)) (hc : x.category = 1) (hp : pc + 1 = pc')
    (h : Rt p e below s k n P (T.setTop (mkF m pc' Ls (S)))) : Rt p e below s k n P (T.setTop (mkF m pc Ls (x :: S))) := by
  subst hp; obtain ⟨_, X, _, _⟩ := X; exact Rt.go (fun _ => XS.pop X.here hx rfl hd rfl hc) h
theorem Rt.dup2 (X : Sd p l e R s m args below meth c T n0 cells slots h0) (hx : p.tables.exec = Jvm.exec) {pc pc' : Nat} {Ls : Array Slot} {S : List Value} {x y : Value} (hd : decode c.code pc = .ok (.dup2, 1)) (hc : x.category = 1) (hc2 : y.category = 1) (hp : pc + 1 = pc')
    (h : Rt p e below s k n P (T.setTop (mkF m pc' Ls (x :: y :: x :: y :: S)))) : Rt p e below s k n P (T.setTop (mkF m pc Ls (x :: y :: S))) := by
  subst hp; obtain ⟨_, X, _, _⟩ := X; exact Rt.go (fun _ => XT.dup2 X.here hx rfl hd rfl hc hc2) h
theorem Rt.dupX1 (X : Sd p l e R s m args below meth c T n0 cells slots h0) (hx : p.tables.exec = Jvm.exec) {pc pc' : Nat} {Ls : Array Slot} {S : List Value} {x y : Value} (hd : decode c.code pc = .ok (.dup_x1, 1)) (hc : x.category = 1) (hc2 : y.category = 1) (hp : pc + 1 = pc')
    (h : Rt p e below s k n P (T.setTop (mkF m pc' Ls (x :: y :: x :: S)))) : Rt p e below s k n P (T.setTop (mkF m pc Ls (x :: y :: S))) := by
  subst hp; obtain ⟨_, X, _, _⟩ := X; exact Rt.go (fun _ => XS.dupX1 X.here hx rfl hd rfl hc hc2) h
theorem Rt.goto (X : Sd p l e R s m args below meth c T n0 cells slots h0) (hx : p.tables.exec = Jvm.exec) {pc pc' : Nat} {Ls : Array Slot} {S : List Value} {o : Int} (hd : decode c.code pc = .ok (.goto o, 3)) (ho : 0 ≤ (pc : Int) + o) (hp : ((pc : Int) + o).toNat = pc')
    (h : Rt p e below s k n P (T.setTop (mkF m pc' Ls S))) : Rt p e below s k n P (T.setTop (mkF m pc Ls S)) := by
  obtain ⟨_, X, _, _⟩ := X; exact Rt.go (fun _ => XS.goto X.here hx rfl (pc0 := pc) rfl hd ho hp) h
theorem Rt.ifY (X : Sd p l e R s m args below meth c T n0 cells slots h0) (hx : p.tables.exec = Jvm.exec) {pc pc' : Nat} {Ls : Array Slot} {S : List Value} {o : Int} {cd : ClassFile.Cond} {x : Int32} (hd : decode c.code pc = .ok (.ifCond cd o, 3)) (hc : ifCond.holds cd x = true) (ho : 0 ≤ (pc : Int) + o) (hp : ((pc : Int) + o).toNat = pc')
    (h : Rt p e below s k n P (T.setTop (mkF m pc' Ls S))) : Rt p e below s k n P (T.setTop (mkF m pc Ls (.int x :: S))) := by
  obtain ⟨_, X, _, _⟩ := X; exact Rt.go (fun _ => XS.ifYes X.here hx rfl (pc0 := pc) rfl hd rfl hc ho hp) h
theorem Rt.ifN (X : Sd p l e R s m args below meth c T n0 cells slots h0) (hx : p.tables.exec = Jvm.exec) {pc pc' : Nat} {Ls : Array Slot} {S : List Value} {o : Int} {cd : ClassFile.Cond} {x : Int32} (hd : decode c.code pc = .ok (.ifCond cd o, 3)) (hc : ifCond.holds cd x = false) (hp : pc + 3 = pc')
    (h : Rt p e below s k n P (T.setTop (mkF m pc' Ls S))) : Rt p e below s k n P (T.setTop (mkF m pc Ls (.int x :: S))) := by
  subst hp; obtain ⟨_, X, _, _⟩ := X; exact Rt.go (fun _ => XS.ifNo X.here hx rfl hd rfl hc) h
theorem Rt.icmpY (X : Sd p l e R s m args below meth c T n0 cells slots h0) (hx : p.tables.exec = Jvm.exec) {pc pc' : Nat} {Ls : Array Slot} {S : List Value} {o : Int} {cd : ClassFile.Cond} {x y : Int32} (hd : decode c.code pc = .ok (.if_icmp cd o, 3)) (hc : if_icmp.holds cd x y = true) (ho : 0 ≤ (pc : Int) + o) (hp : ((pc : Int) + o).toNat = pc')
    (h : Rt p e below s k n P (T.setTop (mkF m pc' Ls S))) : Rt p e below s k n P (T.setTop (mkF m pc Ls (.int y :: .int x :: S))) := by
  obtain ⟨_, X, _, _⟩ := X; exact Rt.go (fun _ => XS.icmpYes X.here hx rfl (pc0 := pc) rfl hd rfl hc ho hp) h
theorem Rt.icmpN (X : Sd p l e R s m args below meth c T n0 cells slots h0) (hx : p.tables.exec = Jvm.exec) {pc pc' : Nat} {Ls : Array Slot} {S : List Value} {o : Int} {cd : ClassFile.Cond} {x y : Int32} (hd : decode c.code pc = .ok (.if_icmp cd o, 3)) (hc : if_icmp.holds cd x y = false) (hp : pc + 3 = pc')
    (h : Rt p e below s k n P (T.setTop (mkF m pc' Ls S))) : Rt p e below s k n P (T.setTop (mkF m pc Ls (.int y :: .int x :: S))) := by
  subst hp; obtain ⟨_, X, _, _⟩ := X; exact Rt.go (fun _ => XS.icmpNo X.here hx rfl hd rfl hc) h
theorem Rt.ifnullY (X : Sd p l e R s m args below meth c T n0 cells slots h0) (hx : p.tables.exec = Jvm.exec) {pc pc' : Nat} {Ls : Array Slot} {S : List Value} {o : Int} (hd : decode c.code pc = .ok (.ifnull o, 3)) (ho : 0 ≤ (pc : Int) + o) (hp : ((pc : Int) + o).toNat = pc')
    (h : Rt p e below s k n P (T.setTop (mkF m pc' Ls S))) : Rt p e below s k n P (T.setTop (mkF m pc Ls (.null :: S))) := by
  obtain ⟨_, X, _, _⟩ := X; exact Rt.go (fun _ => XS.ifnullYes X.here hx rfl (pc0 := pc) rfl hd rfl ho hp) h
theorem Rt.ifnullN (X : Sd p l e R s m args below meth c T n0 cells slots h0) (hx : p.tables.exec = Jvm.exec) {pc pc' : Nat} {Ls : Array Slot} {S : List Value} {o : Int} {b : Addr} (hd : decode c.code pc = .ok (.ifnull o, 3)) (hp : pc + 3 = pc')
    (h : Rt p e below s k n P (T.setTop (mkF m pc' Ls S))) : Rt p e below s k n P (T.setTop (mkF m pc Ls (.ref b :: S))) := by
  subst hp; obtain ⟨_, X, _, _⟩ := X; exact Rt.go (fun _ => XS.ifnullNo X.here hx rfl hd rfl) h
theorem Rt.ifnonnullY (X : Sd p l e R s m args below meth c T n0 cells slots h0) (hx : p.tables.exec = Jvm.exec) {pc pc' : Nat} {Ls : Array Slot} {S : List Value} {o : Int} {b : Addr} (hd : decode c.code pc = .ok (.ifnonnull o, 3)) (ho : 0 ≤ (pc : Int) + o) (hp : ((pc : Int) + o).toNat = pc')
    (h : Rt p e below s k n P (T.setTop (mkF m pc' Ls S))) : Rt p e below s k n P (T.setTop (mkF m pc Ls (.ref b :: S))) := by
  obtain ⟨_, X, _, _⟩ := X; exact Rt.go (fun _ => XS.ifnonnullYes X.here hx rfl (pc0 := pc) rfl hd rfl ho hp) h
theorem Rt.ifnonnullN (X : Sd p l e R s m args below meth c T n0 cells slots h0) (hx : p.tables.exec = Jvm.exec) {pc pc' : Nat} {Ls : Array Slot} {S : List Value} {o : Int} (hd : decode c.code pc = .ok (.ifnonnull o, 3)) (hp : pc + 3 = pc')
    (h : Rt p e below s k n P (T.setTop (mkF m pc' Ls S))) : Rt p e below s k n P (T.setTop (mkF m pc Ls (.null :: S))) := by
  subst hp; obtain ⟨_, X, _, _⟩ := X; exact Rt.go (fun _ => XS.ifnonnullNo X.here hx rfl hd rfl) h
theorem Rt.acmp (X : Sd p l e R s m args below meth c T n0 cells slots h0) (hx : p.tables.exec = Jvm.exec) {pc pc' : Nat} {Ls : Array Slot} {S : List Value} {o : Int} {cd : ACond} {x y : Value} {same : Bool} (h1 : x.isRef = true) (h2 : y.isRef = true) (hd : decode c.code pc = .ok (.if_acmp cd o, 3)) (hq : decide (x = y) = same) (ho : 0 ≤ (pc : Int) + o) (hp : pc' = if acV cd same = true then ((pc : Int) + o).toNat else pc + 3)
    (h : Rt p e below s k n P (T.setTop (mkF m pc' Ls S))) : Rt p e below s k n P (T.setTop (mkF m pc Ls (y :: x :: S))) := by
  obtain ⟨_, X, _, _⟩ := X; exact Rt.go (fun _ => Jvm.RoadKit.acmp X hx rfl h1 h2 (pc0 := pc) rfl hd rfl hq ho hp) h
theorem Rt.retZ (X : Sd p l e R s m args below meth c T n0 cells slots h0) (hx : p.tables.exec = Jvm.exec) (hlk : meth.locks = false) {t : FieldType} (hret : meth.sig.returnType = some t) (ht : t = .boolean ∨ t = .byte ∨ t = .char ∨ t = .short) {pc : Nat} {Ls : Array Slot} {S : List Value} {z w : Int32} (hd : decode c.code pc = .ok (.ireturn, 1)) (hw : nar t z = w) (hk : cells ≤ k) (hn : slots ≤ n)
    (hP : ∀ L, Fr n0 L → P (some (.int w)) h0 L) : Rt p e below s k n P (T.setTop (mkF m pc Ls (.int z :: S))) := by
  subst hw; obtain ⟨locs, X, N, eh⟩ := X
  obtain ⟨fs, hr, hrun, hended, hW, hsame⟩ := X.leave (v := some (.int (nar t z))) (fun h => by rw [hret] at h; cases h) hlk
  exact ⟨_, _, retN X hx hret ht hd hr, hrun, hended, _, _, rfl, by show P _ T.heap _; rw [eh]; exact hP _ N, ⟨_, rfl⟩, hW, hsame.mono hk hn⟩
theorem Rt.retI (X : Sd p l e R s m args below meth c T n0 cells slots h0) (hx : p.tables.exec = Jvm.exec) (hlk : meth.locks = false) (hret : meth.sig.returnType = some .int) {pc : Nat} {Ls : Array Slot} {S : List Value} {z : Int32} (hd : decode c.code pc = .ok (.ireturn, 1)) (hk : cells ≤ k) (hn : slots ≤ n)
    (hP : ∀ L, Fr n0 L → P (some (.int z)) h0 L) : Rt p e below s k n P (T.setTop (mkF m pc Ls (.int z :: S))) := by
  obtain ⟨locs, X, N, eh⟩ := X
  obtain ⟨fs, hr, hrun, hended, hW, hsame⟩ := X.leave (v := some (.int z)) (fun h => by rw [hret] at h; cases h) hlk
  exact ⟨_, _, Jvm.RoadKit.retI X hx hret hd hr, hrun, hended, _, _, rfl, by show P _ T.heap _; rw [eh]; exact hP _ N, ⟨_, rfl⟩, hW, hsame.mono hk hn⟩
theorem Rt.retJ (X : Sd p l e R s m args below meth c T n0 cells slots h0) (hx : p.tables.exec = Jvm.exec) (hlk : meth.locks = false) (hret : meth.sig.returnType = some .long) {pc : Nat} {Ls : Array Slot} {z : Int64} (hd : decode c.code pc = .ok (.lreturn, 1)) (hk : cells ≤ k) (hn : slots ≤ n)
    (hP : ∀ L, Fr n0 L → P (some (.long z)) h0 L) : Rt p e below s k n P (T.setTop (mkF m pc Ls [.long z])) := by
  obtain ⟨locs, X, N, eh⟩ := X
  obtain ⟨fs, hr, hrun, hended, hW, hsame⟩ := X.leave (v := some (.long z)) (fun h => by rw [hret] at h; cases h) hlk
  exact ⟨_, _, X.lreturnOut hx hret hd hr, hrun, hended, _, _, rfl, by show P _ T.heap _; rw [eh]; exact hP _ N, ⟨_, rfl⟩, hW, hsame.mono hk hn⟩
theorem Rt.retA (X : Sd p l e R s m args below meth c T n0 cells slots h0) (hx : p.tables.exec = Jvm.exec) (hlk : meth.locks = false) {t : FieldType} (ht : t.isReference = true) (hret : meth.sig.returnType = some t) {pc : Nat} {Ls : Array Slot} {v : Value} (hv : v.isRef = true) (hd : decode c.code pc = .ok (.areturn, 1)) (hk : cells ≤ k) (hn : slots ≤ n)
    (hP : ∀ L, Fr n0 L → P (some v) h0 L) : Rt p e below s k n P (T.setTop (mkF m pc Ls [v])) := by
  obtain ⟨locs, X, N, eh⟩ := X
  obtain ⟨fs, hr, hrun, hended, hW, hsame⟩ := X.leave (v := some v) (fun h => by rw [hret] at h; cases h) hlk
  exact ⟨_, _, Jvm.RoadKit.retA X hx ht hv hret hd hr, hrun, hended, _, _, rfl, by show P _ T.heap _; rw [eh]; exact hP _ N, ⟨_, rfl⟩, hW, hsame.mono hk hn⟩
theorem Rt.retV (X : Sd p l e R s m args below meth c T n0 cells slots h0) (hx : p.tables.exec = Jvm.exec) (hlk : meth.locks = false) (hret : meth.sig.returnType = none) {pc : Nat} {Ls : Array Slot}  (hd : decode c.code pc = .ok (.return_, 1)) (hk : cells ≤ k) (hn : slots ≤ n)
    (hP : ∀ L, Fr n0 L → P none h0 L) : Rt p e below s k n P (T.setTop (mkF m pc Ls [])) := by
  obtain ⟨locs, X, N, eh⟩ := X
  obtain ⟨fs, hr, hrun, hended, hW, hsame⟩ := X.leave (v := none) (fun _ => rfl) hlk
  exact ⟨_, _, X.returnOut hx hret hd hr, hrun, hended, _, _, rfl, by show P _ T.heap _; rw [eh]; exact hP _ N, ⟨_, rfl⟩, hW, hsame.mono hk hn⟩
theorem Rt.ldcInt (X : Sd p l e R s m args below meth c T n0 cells slots h0) (hx : p.tables.exec = Jvm.exec) {Z : State} {a0 : Array Value} (hZ : Z.Warmed39 s.vm) {own : String} {index : Nat} {v : Int32} (hown : s.vm.findClass own = some m.cls) (w : (Cond.constant own index v).before a0 Z = true) {pc pc' : Nat} {Ls : Array Slot} {S : List Value} (hd : decode c.code pc = .ok (.ldc index, 2)) (hp : pc + 2 = pc')
    (h : Rt p e below s k n P (T.setTop (mkF m pc' Ls (.int v :: S)))) : Rt p e below s k n P (T.setTop (mkF m pc Ls S)) := by
  subst hp; obtain ⟨_, X, _, _⟩ := X; exact Rt.go (X.ldcInt hx hown (mvT hZ w) (g := mkF m pc Ls S) rfl hd) h
theorem Rt.ldcwInt (X : Sd p l e R s m args below meth c T n0 cells slots h0) (hx : p.tables.exec = Jvm.exec) {Z : State} {a0 : Array Value} (hZ : Z.Warmed39 s.vm) {own : String} {index : Nat} {v : Int32} (hown : s.vm.findClass own = some m.cls) (w : (Cond.constant own index v).before a0 Z = true) {pc pc' : Nat} {Ls : Array Slot} {S : List Value} (hd : decode c.code pc = .ok (.ldc_w index, 3)) (hp : pc + 3 = pc')
    (h : Rt p e below s k n P (T.setTop (mkF m pc' Ls (.int v :: S)))) : Rt p e below s k n P (T.setTop (mkF m pc Ls S)) := by
  subst hp; obtain ⟨_, X, _, _⟩ := X; exact Rt.go (X.ldcwInt hx hown (mvT hZ w) (g := mkF m pc Ls S) rfl hd) h
theorem Rt.ldc2Long (X : Sd p l e R s m args below meth c T n0 cells slots h0) (hx : p.tables.exec = Jvm.exec) {Z : State} {a0 : Array Value} (hZ : Z.Warmed39 s.vm) {own : String} {index : Nat} {v : Int64} (hown : s.vm.findClass own = some m.cls) (w : (Cond.constantLong own index v).before a0 Z = true) {pc pc' : Nat} {Ls : Array Slot} {S : List Value} (hd : decode c.code pc = .ok (.ldc2_w index, 3)) (hp : pc + 3 = pc')
    (h : Rt p e below s k n P (T.setTop (mkF m pc' Ls (.long v :: S)))) : Rt p e below s k n P (T.setTop (mkF m pc Ls S)) := by
  subst hp; obtain ⟨_, X, _, _⟩ := X; exact Rt.go (X.ldc2Long hx hown (mvT hZ w) (g := mkF m pc Ls S) rfl hd) h
theorem ltl {x y : Int64} (h : x < y) : ifCond.holds .lt (lcmpW x y) = true ∧ ifCond.holds .ge (lcmpW x y) = false := ⟨(if0 _ _).trans (tlt ((lw_lt x y).mpr h)).1, (if0 _ _).trans (tlt ((lw_lt x y).mpr h)).2.1⟩
theorem lfl {x y : Int64} (h : ¬ x < y) : ifCond.holds .lt (lcmpW x y) = false ∧ ifCond.holds .ge (lcmpW x y) = true := ⟨(if0 _ _).trans (flt (fun q => h ((lw_lt x y).mp q))).1, (if0 _ _).trans (flt (fun q => h ((lw_lt x y).mp q))).2.1⟩
theorem gtl {x y : Int64} (h : y < x) : ifCond.holds .gt (lcmpW x y) = true ∧ ifCond.holds .le (lcmpW x y) = false := ⟨(if0 _ _).trans (tlt ((lw_gt x y).mpr h)).2.2.1, (if0 _ _).trans (tlt ((lw_gt x y).mpr h)).2.2.2⟩
theorem gfl {x y : Int64} (h : ¬ y < x) : ifCond.holds .gt (lcmpW x y) = false ∧ ifCond.holds .le (lcmpW x y) = true := ⟨(if0 _ _).trans (flt (fun q => h ((lw_gt x y).mp q))).2.2.1, (if0 _ _).trans (flt (fun q => h ((lw_gt x y).mp q))).2.2.2⟩
theorem etl {x y : Int64} (h : x = y) : ifCond.holds .eq (lcmpW x y) = true ∧ ifCond.holds .ne (lcmpW x y) = false := ⟨(if0 _ _).trans (teq ((lw_eq x y).mpr h)).1, (if0 _ _).trans (teq ((lw_eq x y).mpr h)).2⟩
theorem efl {x y : Int64} (h : ¬ x = y) : ifCond.holds .eq (lcmpW x y) = false ∧ ifCond.holds .ne (lcmpW x y) = true := ⟨(if0 _ _).trans (feq (fun q => h ((lw_eq x y).mp q))).1, (if0 _ _).trans (feq (fun q => h ((lw_eq x y).mp q))).2⟩
/-- what a method leaves: its contract's form -/
abbrev Mt (l : Launch) (Z : State) (y : MethodName) (ws : List Jvm.Cond) (rm : Room) (as' : Array Value) (h : Heap) (Q : Option Value → Heap → List Loc → Prop) : Prop :=
  MetFree l y (head1 ws rm) (fun a U => a = as' ∧ Z.Warmed39 U.vm ∧ U.heap = h) (fun _ _ _ _ _ => True) (fun _ U o U' => ∃ v L, o = .returned v ∧ Q v U'.heap L ∧ FrameEnd U o U' L rm.cells rm.slots)
/-- from a body's walk to its contract -/
theorem Mt.of {Z : State} {y : MethodName} {bytes : ByteArray} {maxL : Nat} {ret : Option FieldType} {ws : List Jvm.Cond} {rm : Room} {as' : Array Value} {h : Heap} {Q : Option Value → Heap → List Loc → Prop} (n0 : Nat) (hpl : plainFor y = true)
    (body : ∀ (p : Program) (e : Env) (s : State) (m : MethodId) (below : List Frame) (meth : Method) (c : Code) (T : State), Sd p l e rm s m as' below meth c T n0 0 0 h → p.tables.exec = Jvm.exec → Z.Warmed39 s.vm → c.code = bytes → c.maxLocals = maxL → s.vm.findClass y.cls = some m.cls → meth.sig.returnType = ret → meth.locks = false → meth.name = y.name → s.heap = h →
      Rt p e below s rm.cells rm.slots Q (T.setTop (entryFrame m as' maxL))) : Mt l Z y (Jvm.Cond.code y bytes maxL ret :: ws) rm as' h Q := by
  refine MetFree.of_bodySF hpl hisR ?_
  intro p e s m args below meth c s₁ Bd hml0 hP hK
  obtain ⟨rfl, hZ, hh⟩ := hP
  have e0 : s₁.heap = h := by rw [← hh, Bd.state]; rfl
  obtain ⟨s₂, o, h1, h2, h3, v, L, h4, h5, h6⟩ := body p e s m below meth c s₁ ⟨[], Stand.of_body Bd, Fr.nil n0, e0⟩ Bd.exec hZ Bd.bytes hml0 (findClass_of_methodNamed Bd.named) Bd.returns (BodyLoose.notSynchronized Bd) (name_of_methodNamed Bd.named Bd.method).1 hh
  exact ⟨s₂, o, h1, h2, h3, v, L, h4, h5, h6⟩
theorem Rt.callS (X : Sd p l e R s m args below meth c T n0 cells slots h0) (hx : p.tables.exec = Jvm.exec) {Z : State} {a0 : Array Value} (hZ : Z.Warmed39 s.vm) {own : String} {index : Nat} {y : MethodName} {bytes : ByteArray} {maxL W : Nat} {ret : Option FieldType} {rm : Room} {as' : Array Value} {Q : Option Value → Heap → List Loc → Prop}
    (hown : s.vm.findClass own = some m.cls) (w1 : (Cond.methodLink own index y).before a0 Z = true) (w2 : (Cond.static y).before a0 Z = true) (w3 : (Cond.initialized y.cls).before a0 Z = true) (w4 : (Cond.code y bytes maxL ret).before a0 Z = true) (hy : y.cls ≠ "java/lang/invoke/MethodHandle" ∧ y.cls ≠ "java/lang/invoke/VarHandle")
    (hM : Mt l Z y [Cond.code y bytes maxL ret] rm as' h0 Q) (hF : ∀ v h L, Q v h L → Fr n0 L) (hf : rm.frames + 1 ≤ R.frames) (hl : W + (maxL + 11) + rm.locals ≤ R.locals) (hc : cells + rm.cells ≤ R.cells) (hs : slots + rm.slots ≤ R.slots)
    {pc pc' : Nat} {Ls : Array Slot} {S argsL rest : List Value} (hsize : Ls.size = c.maxLocals) (hlen : ∀ sig, parseMethodDescriptor y.desc = some sig → argsL.length = sig.parameters.length) (hst : S = argsL.reverse ++ rest) (has : argsL.toArray = as') (hW : (rest.map fun v => v.category).sum ≤ W) (hd : decode c.code pc = .ok (.invokestatic index, 3)) (hp : pc + 3 = pc')
    (hh : ∀ v T' h' L, Sd p l e R s m args below meth c T' n0 (cells + rm.cells) (slots + rm.slots) h' → Q v h' L → Rt p e below s k n P (T'.setTop (mkF m pc' Ls (v.toList ++ rest)))) : Rt p e below s k n P (T.setTop (mkF m pc Ls S)) := by
  subst hp has
  obtain ⟨locs, X, N, eT⟩ := X
  obtain ⟨v, _, ⟨T', L', k', n'⟩, -, X', ⟨Lc, hQ, l', y', z'⟩, st⟩ := Jvm.LawKit.callS X hx (y := y) hown (mvT hZ w1) (mvT hZ w2) (mvT hZ w3) (mvT hZ w4) hy (backOf (W := W) hM hZ w4 w3 hf hl) (g := mkF m pc Ls S) rfl hsize (argsL := argsL) (rest := rest) hlen hst (by show 2 * 0 + _ ≤ _; omega) hd (fun _ _ => ⟨rfl, eT, hc, hs⟩)
  dsimp only [Pt.U, Pt.locs, Pt.cells, Pt.slots] at X' l' y' z' st hQ
  subst l' y' z'
  exact Rt.go st (hh v T' _ Lc ⟨_, X', Fr.app N (hF _ _ _ hQ), rfl⟩ hQ)
/-- a static method that writes nothing -/
theorem Rt.callP (X : Sd p l e R s m args below meth c T n0 cells slots h0) (hx : p.tables.exec = Jvm.exec) {Z : State} {a0 : Array Value} (hZ : Z.Warmed39 s.vm) {own : String} {index : Nat} {y : MethodName} {bytes : ByteArray} {maxL W : Nat} {ret : Option FieldType} {rm : Room} {as' : Array Value} {r : Value}
    (hown : s.vm.findClass own = some m.cls) (w1 : (Cond.methodLink own index y).before a0 Z = true) (w2 : (Cond.static y).before a0 Z = true) (w3 : (Cond.initialized y.cls).before a0 Z = true) (w4 : (Cond.code y bytes maxL ret).before a0 Z = true) (hy : y.cls ≠ "java/lang/invoke/MethodHandle" ∧ y.cls ≠ "java/lang/invoke/VarHandle")
    (hM : Mt l Z y [Cond.code y bytes maxL ret] rm as' h0 (fun v h L => v = some r ∧ Fr n0 L ∧ h = h0)) (hf : rm.frames + 1 ≤ R.frames) (hl : W + (maxL + 11) + rm.locals ≤ R.locals) (hc : cells + rm.cells ≤ R.cells) (hs : slots + rm.slots ≤ R.slots) (hc0 : rm.cells = 0) (hs0 : rm.slots = 0)
    {pc pc' : Nat} {Ls : Array Slot} {S argsL rest : List Value} (hsize : Ls.size = c.maxLocals) (hlen : ∀ sig, parseMethodDescriptor y.desc = some sig → argsL.length = sig.parameters.length) (hst : S = argsL.reverse ++ rest) (has : argsL.toArray = as') (hW : (rest.map fun v => v.category).sum ≤ W) (hd : decode c.code pc = .ok (.invokestatic index, 3)) (hp : pc + 3 = pc')
    (hh : ∀ T', Sd p l e R s m args below meth c T' n0 cells slots h0 → Rt p e below s k n P (T'.setTop (mkF m pc' Ls (r :: rest)))) : Rt p e below s k n P (T.setTop (mkF m pc Ls S)) := by
  refine Rt.callS X hx hZ hown w1 w2 w3 w4 hy hM (fun _ _ _ q => q.2.1) hf hl hc hs hsize hlen hst has hW hd hp ?_
  rintro v T' h' L X' ⟨rfl, _, rfl⟩
  rw [hc0, hs0, Nat.add_zero, Nat.add_zero] at X'
  exact hh T' X'
/-- an instance method, by the contract of the body that the receiver's class selects -/
theorem Rt.callV (X : Sd p l e R s m args below meth c T n0 cells slots h0) (hx : p.tables.exec = Jvm.exec) {Z : State} {a0 : Array Value} (hZ : Z.Warmed39 s.vm) {own : String} {index : Nat} {y : MethodName} {bytes : ByteArray} {maxL W : Nat} {ret : Option FieldType} {rm : Room} {as' : Array Value} {Q : Option Value → Heap → List Loc → Prop} {K : String} {yz : MethodName}
    (hown : s.vm.findClass own = some m.cls) (w1 : (Cond.methodLink own index y).before a0 Z = true) (w2 : (Cond.declares y).before a0 Z = true) (hnf : NotFace s y) (w5 : (Cond.selects K y yz).before a0 Z = true) (w6 : (Cond.instanceMethod yz).before a0 Z = true) (w3 : (Cond.initialized yz.cls).before a0 Z = true) (w4 : (Cond.code yz bytes maxL ret).before a0 Z = true) (hy : y.cls ≠ "java/lang/invoke/MethodHandle" ∧ y.cls ≠ "java/lang/invoke/VarHandle")
    {a : Addr} (E : Exa Z h0 a K) (hM : Mt l Z yz [Cond.code yz bytes maxL ret] rm as' h0 Q) (hF : ∀ v h L, Q v h L → Fr n0 L) (hf : rm.frames + 1 ≤ R.frames) (hl : W + (maxL + 11) + rm.locals ≤ R.locals) (hc : cells + rm.cells ≤ R.cells) (hs : slots + rm.slots ≤ R.slots)
    {pc pc' : Nat} {Ls : Array Slot} {S argsL rest : List Value} (hsize : Ls.size = c.maxLocals) (hlen : ∀ sig, parseMethodDescriptor y.desc = some sig → argsL.length = sig.parameters.length) (hst : S = argsL.reverse ++ .ref a :: rest) (has : (.ref a :: argsL).toArray = as') (hW : (rest.map fun v => v.category).sum ≤ W) (hd : decode c.code pc = .ok (.invokevirtual index, 3)) (hp : pc + 3 = pc')
    (hh : ∀ v T' h' L, Sd p l e R s m args below meth c T' n0 (cells + rm.cells) (slots + rm.slots) h' → Q v h' L → Rt p e below s k n P (T'.setTop (mkF m pc' Ls (v.toList ++ rest)))) : Rt p e below s k n P (T.setTop (mkF m pc Ls S)) := by
  subst hp has
  obtain ⟨locs, X, N, eT⟩ := X
  obtain ⟨cq, kq, qa, qb, qc⟩ := isOf hZ eT E
  obtain ⟨v, _, ⟨T', L', k', n'⟩, -, X', ⟨Lc, hQ, l', y', z'⟩, st⟩ := X.virtualBack hx (y := y) (z := yz) hown (mvT hZ w1) (mvT hZ w2) hnf (mvT hZ w5) (mvT hZ w6) hy (backOf (W := W) hM hZ w4 w3 hf hl) qa qc (g := mkF m pc Ls S) rfl hsize (Steps.refl _) (argsL := argsL) (rest := rest) hlen hst (by show 2 * 0 + _ ≤ _; omega) hd (fun _ _ => ⟨rfl, eT, hc, hs⟩)
  dsimp only [Pt.U, Pt.locs, Pt.cells, Pt.slots] at X' l' y' z' st hQ
  subst l' y' z'
  exact Rt.go (fun _ q => st.trans q) (hh v T' _ Lc ⟨_, X', Fr.app N (hF _ _ _ hQ), rfl⟩ hQ)
/-- a constructor by its contract -/
theorem Rt.callI (X : Sd p l e R s m args below meth c T n0 cells slots h0) (hx : p.tables.exec = Jvm.exec) {Z : State} {a0 : Array Value} (hZ : Z.Warmed39 s.vm) {own : String} {index : Nat} {y : MethodName} {bytes : ByteArray} {maxL W : Nat} {rm : Room} {as' : Array Value} {Q : Option Value → Heap → List Loc → Prop} (hy1 : y.name = "<init>")
    (hown : s.vm.findClass own = some m.cls) (w1 : (Cond.methodLink own index y).before a0 Z = true) (w2 : (Cond.instanceMethod y).before a0 Z = true) (w3 : (Cond.initialized y.cls).before a0 Z = true) (w4 : (Cond.code y bytes maxL none).before a0 Z = true) (hy : y.cls ≠ "java/lang/invoke/MethodHandle" ∧ y.cls ≠ "java/lang/invoke/VarHandle")
    {a : Addr} (hM : Mt l Z y [Cond.code y bytes maxL none] rm as' h0 Q) (hF : ∀ v h L, Q v h L → Fr n0 L) (hf : rm.frames + 1 ≤ R.frames) (hl : W + (maxL + 11) + rm.locals ≤ R.locals) (hc : cells + rm.cells ≤ R.cells) (hs : slots + rm.slots ≤ R.slots)
    {pc pc' : Nat} {Ls : Array Slot} {S argsL rest : List Value} (hsize : Ls.size = c.maxLocals) (hlen : ∀ sig, parseMethodDescriptor y.desc = some sig → argsL.length = sig.parameters.length) (hst : S = argsL.reverse ++ .ref a :: rest) (has : (.ref a :: argsL).toArray = as') (hW : (rest.map fun v => v.category).sum ≤ W) (hd : decode c.code pc = .ok (.invokespecial index, 3)) (hp : pc + 3 = pc')
    (hh : ∀ v T' h' L, Sd p l e R s m args below meth c T' n0 (cells + rm.cells) (slots + rm.slots) h' → Q v h' L → Rt p e below s k n P (T'.setTop (mkF m pc' Ls (v.toList ++ rest)))) : Rt p e below s k n P (T.setTop (mkF m pc Ls S)) := by
  subst hp has
  obtain ⟨locs, X, N, eT⟩ := X
  obtain ⟨v, _, ⟨T', L', k', n'⟩, -, X', ⟨Lc, hQ, l', y', z'⟩, st⟩ := X.specialBack hx (y := y) hy1 hown (mvT hZ w1) (mvT hZ w2) (mvT hZ w4) hy (backOf (W := W) hM hZ w4 w3 hf hl) (g := mkF m pc Ls S) rfl hsize (Steps.refl _) (a := a) (argsL := argsL) (rest := rest) hlen hst (by show 2 * 0 + _ ≤ _; omega) hd (fun _ _ => ⟨rfl, eT, hc, hs⟩)
  dsimp only [Pt.U, Pt.locs, Pt.cells, Pt.slots] at X' l' y' z' st hQ
  subst l' y' z'
  exact Rt.go (fun _ q => st.trans q) (hh v T' _ Lc ⟨_, X', Fr.app N (hF _ _ _ hQ), rfl⟩ hQ)
/-- a private instance method by its contract -/
theorem Rt.callPr (X : Sd p l e R s m args below meth c T n0 cells slots h0) (hx : p.tables.exec = Jvm.exec) {Z : State} {a0 : Array Value} (hZ : Z.Warmed39 s.vm) {own : String} {index : Nat} {y : MethodName} {bytes : ByteArray} {maxL W : Nat} {ret : Option FieldType} {rm : Room} {as' : Array Value} {Q : Option Value → Heap → List Loc → Prop} {K : String} {nf : Nat}
    (hown : s.vm.findClass own = some m.cls) (w1 : (Cond.methodLink own index y).before a0 Z = true) (w2 : (Cond.instanceMethod y).before a0 Z = true) (w5 : (Cond.privateMethod y).before a0 Z = true) (wi : (Cond.instantiable y.cls nf).before a0 Z = true) (w3 : (Cond.initialized y.cls).before a0 Z = true) (w4 : (Cond.code y bytes maxL ret).before a0 Z = true) (hy : y.cls ≠ "java/lang/invoke/MethodHandle" ∧ y.cls ≠ "java/lang/invoke/VarHandle")
    {a : Addr} (E : Exa Z h0 a K) (hM : Mt l Z y [Cond.code y bytes maxL ret] rm as' h0 Q) (hF : ∀ v h L, Q v h L → Fr n0 L) (hf : rm.frames + 1 ≤ R.frames) (hl : W + (maxL + 11) + rm.locals ≤ R.locals) (hc : cells + rm.cells ≤ R.cells) (hs : slots + rm.slots ≤ R.slots)
    {pc pc' : Nat} {Ls : Array Slot} {S argsL rest : List Value} (hsize : Ls.size = c.maxLocals) (hlen : ∀ sig, parseMethodDescriptor y.desc = some sig → argsL.length = sig.parameters.length) (hst : S = argsL.reverse ++ .ref a :: rest) (has : (.ref a :: argsL).toArray = as') (hW : (rest.map fun v => v.category).sum ≤ W) (hd : decode c.code pc = .ok (.invokevirtual index, 3)) (hp : pc + 3 = pc')
    (hh : ∀ v T' h' L, Sd p l e R s m args below meth c T' n0 (cells + rm.cells) (slots + rm.slots) h' → Q v h' L → Rt p e below s k n P (T'.setTop (mkF m pc' Ls (v.toList ++ rest)))) : Rt p e below s k n P (T.setTop (mkF m pc Ls S)) := by
  subst hp has
  obtain ⟨locs, X, N, eT⟩ := X
  obtain ⟨ce, q1, q2⟩ := E.cell
  obtain ⟨cc, kc, i1, i2, -, i4, -⟩ := Cond.instantiable_spec (mvT hZ wi (args := args))
  have hpv := Cond.privateMethod_at (mvP hZ w5 (args := #[]))
  have hni : kc.isInterface = false := by simp only [Bool.or_eq_false_iff] at i4; exact i4.1
  obtain ⟨v, _, ⟨T', L', k', n'⟩, -, X', ⟨Lc, hQ, l', y', z'⟩, st⟩ := X.privateBack hx (y := y) hown (mvT hZ w1) (mvT hZ w2) (selects_self_of_private i1 i2 hni hpv (mvT hZ w2) hy) hpv (mvT hZ w4) hy (backOf (W := W) hM hZ w4 w3 hf hl) (g := mkF m pc Ls S) rfl hsize (Steps.refl _) (a := a) (by rw [eT]; exact q1) q2 (argsL := argsL) (rest := rest) hlen hst (by show 2 * 0 + _ ≤ _; omega) hd (fun _ _ => ⟨rfl, eT, hc, hs⟩)
  dsimp only [Pt.U, Pt.locs, Pt.cells, Pt.slots] at X' l' y' z' st hQ
  subst l' y' z'
  exact Rt.go (fun _ q => st.trans q) (hh v T' _ Lc ⟨_, X', Fr.app N (hF _ _ _ hQ), rfl⟩ hQ)
theorem Rt.initO (X : Sd p l e R s m args below meth c T n0 cells slots h0) (hx : p.tables.exec = Jvm.exec) {Z : State} {a0 : Array Value} (hZ : Z.Warmed39 s.vm) {own : String} {index : Nat} (hown : s.vm.findClass own = some m.cls) (w1 : (Cond.methodLink own index Lib.objectInit).before a0 Z = true) (w2 : (Cond.instanceMethod Lib.objectInit).before a0 Z = true) (w3 : (Cond.code Lib.objectInit ⟨#[0xb1]⟩ 1 none).before a0 Z = true)
    {pc pc' W : Nat} {Ls : Array Slot} {rest : List Value} {a : Addr} (hsize : Ls.size = c.maxLocals) (hd : decode c.code pc = .ok (.invokespecial index, 3)) (hf : 1 ≤ R.frames) (hW : (rest.map fun v => v.category).sum ≤ W) (hl : W + 12 ≤ R.locals) (hp : pc + 3 = pc')
    (hh : ∀ T', Sd p l e R s m args below meth c T' n0 cells slots h0 → Rt p e below s k n P (T'.setTop (mkF m pc' Ls rest))) : Rt p e below s k n P (T.setTop (mkF m pc Ls (.ref a :: rest))) := by
  subst hp
  obtain ⟨locs, X, N, eT⟩ := X
  obtain ⟨T', X', e', st⟩ := Jvm.RoadKit.initO X hx hZ hown w1 w2 w3 eT (g := mkF m pc Ls (.ref a :: rest)) rfl hsize rfl hd hf (W := W) (by show 2 * 0 + _ ≤ _; omega) hl
  exact Rt.go st (hh T' ⟨_, X', N, e'⟩)
theorem Rt.getS (X : Sd p l e R s m args below meth c T n0 cells slots h0) (hx : p.tables.exec = Jvm.exec) {Z : State} {a0 : Array Value} (hZ : Z.Warmed39 s.vm) {own K f d host : String} {index : Nat} (hown : s.vm.findClass own = some m.cls) (w : (Cond.fieldLink own index K f d).before a0 Z = true ∨ (Cond.fieldLinkNest own index K f d host).before a0 Z = true) {v : Value} (F : Sta Z h0 K f d v) {pc pc' : Nat} {Ls : Array Slot} {S : List Value} (hd : decode c.code pc = .ok (.getstatic index, 3)) (hp : pc + 3 = pc')
    (hh : ∀ T', Sd p l e R s m args below meth c T' n0 cells slots h0 → Rt p e below s k n P (T'.setTop (mkF m pc' Ls (v :: S)))) : Rt p e below s k n P (T.setTop (mkF m pc Ls S)) := by
  subst hp
  obtain ⟨locs, X, N, eT⟩ := X
  obtain ⟨T', X', e', st⟩ := getS2 X hx hZ hown (host := host) w Via.refl eT F (g := mkF m pc Ls S) rfl hd
  exact Rt.go st (hh T' ⟨_, X', N, e'⟩)
theorem Rt.getF (X : Sd p l e R s m args below meth c T n0 cells slots h0) (hx : p.tables.exec = Jvm.exec) {Z : State} {a0 : Array Value} (hZ : Z.Warmed39 s.vm) {own K f d host : String} {index : Nat} (hown : s.vm.findClass own = some m.cls) (w : (Cond.fieldLink own index K f d).before a0 Z = true ∨ (Cond.fieldLinkNest own index K f d host).before a0 Z = true) {v : Value} {a : Addr} (F : Fld Z h0 a K f d v) {pc pc' : Nat} {Ls : Array Slot} {S : List Value} (hd : decode c.code pc = .ok (.getfield index, 3)) (hp : pc + 3 = pc')
    (hh : ∀ T', Sd p l e R s m args below meth c T' n0 cells slots h0 → Rt p e below s k n P (T'.setTop (mkF m pc' Ls (v :: S)))) : Rt p e below s k n P (T.setTop (mkF m pc Ls (.ref a :: S))) := by
  subst hp
  obtain ⟨locs, X, N, eT⟩ := X
  obtain ⟨T', X', e', st⟩ := Jvm.RoadKit.getF X hx hZ hown (host := host) w Via.refl eT F (g := mkF m pc Ls (.ref a :: S)) rfl rfl hd
  exact Rt.go st (hh T' ⟨_, X', N, e'⟩)
theorem Rt.putF (X : Sd p l e R s m args below meth c T n0 cells slots h0) (hx : p.tables.exec = Jvm.exec) {Z : State} {a0 : Array Value} (hZ : Z.Warmed39 s.vm) {own K f d C' host : String} {index kk : Nat} {ty : FieldType} (hown : s.vm.findClass own = some m.cls) (w : (Cond.fieldLink own index K f d).before a0 Z = true ∨ (Cond.fieldLinkNest own index K f d host).before a0 Z = true) {v old : Value} {a : Addr} (F : Fld Z h0 a K f d old) (E : Exa Z h0 a C') (L : (Cond.lays C' K f d).before a0 Z = true ∨ ((Cond.laysFinal C' K f d).before a0 Z = true ∧ own = K ∧ meth.name = "<init>")) (wi : (Cond.instantiable C' kk).before a0 Z = true) (hty : parseFieldDescriptor d = some ty) (hn : narrow ty v = v) (hf : fits ty v = true) (ga : n0 ≤ a) {pc pc' : Nat} {Ls : Array Slot} {S : List Value} (hd : decode c.code pc = .ok (.putfield index, 3)) (hp : pc + 3 = pc')
    (hh : ∀ T' h', Sd p l e R s m args below meth c T' n0 cells slots h' → Wr h0 h' a (Jvm.RoadKit.slotOf Z K f d) v → Fld Z h' a K f d v → Rt p e below s k n P (T'.setTop (mkF m pc' Ls S))) : Rt p e below s k n P (T.setTop (mkF m pc Ls (v :: .ref a :: S))) := by
  subst hp
  obtain ⟨locs, X, N, eT⟩ := X
  obtain ⟨T', h', X', e', W', st⟩ := Jvm.RoadKit.putF X hx hZ hown (host := host) w Via.refl eT F E L wi hty hn hf (g := mkF m pc Ls (v :: .ref a :: S)) rfl rfl hd
  exact Rt.go st (hh T' h' ⟨_, X', Fr.snoc X' N ga, e'⟩ W' (F.same W'))
theorem Rt.newO (X : Sd p l e R s m args below meth c T n0 cells slots h0) (hx : p.tables.exec = Jvm.exec) {Z : State} {a0 : Array Value} (hZ : Z.Warmed39 s.vm) {own K : String} {index nf : Nat} (hown : s.vm.findClass own = some m.cls) (w : (Cond.classLink own index K).before a0 Z = true) (wi : (Cond.instantiable K nf).before a0 Z = true) (wz : (Cond.initialized K).before a0 Z = true) {pc pc' : Nat} {Ls : Array Slot} {S : List Value} (hd : decode c.code pc = .ok (.new index, 3)) (hc : cells + 1 ≤ R.cells) (hl : slots + nf ≤ R.slots) (hp : pc + 3 = pc')
    (hh : ∀ T' h' a, a = h0.size → Sd p l e R s m args below meth c T' n0 (cells + 1) (slots + nf) h' → Ext h0 h' → Exa Z h' a K → (∀ {O nm d : String} {ty : FieldType}, Laid Z a0 K O nm d → parseFieldDescriptor d = some ty → Fld Z h' a O nm d (defaultValue ty)) → Rt p e below s k n P (T'.setTop (mkF m pc' Ls (.ref a :: S)))) : Rt p e below s k n P (T.setTop (mkF m pc Ls S)) := by
  subst hp
  obtain ⟨locs, X, N, eT⟩ := X
  obtain ⟨T', h', X', e', E', A', D', -, st⟩ := Jvm.RoadKit.newO X hx hZ hown w wi wz eT (g := mkF m pc Ls S) rfl hd hc hl
  exact Rt.go st (hh T' h' _ rfl ⟨_, X', N, e'⟩ E' A' D')
theorem Rt.castY (X : Sd p l e R s m args below meth c T n0 cells slots h0) (hx : p.tables.exec = Jvm.exec) {Z : State} {a0 : Array Value} (hZ : Z.Warmed39 s.vm) {own K : String} {index : Nat} (hown : s.vm.findClass own = some m.cls) (w : (Cond.classLink own index K).before a0 Z = true) {a : Addr} (F : Ins Z h0 a K true) {pc pc' : Nat} {Ls : Array Slot} {S : List Value} (hd : decode c.code pc = .ok (.checkcast index, 3)) (hp : pc + 3 = pc')
    (hh : ∀ T', Sd p l e R s m args below meth c T' n0 cells slots h0 → Rt p e below s k n P (T'.setTop (mkF m pc' Ls (.ref a :: S)))) : Rt p e below s k n P (T.setTop (mkF m pc Ls (.ref a :: S))) := by
  subst hp
  obtain ⟨locs, X, N, eT⟩ := X
  obtain ⟨T', X', e', st⟩ := Jvm.RoadKit.castY X hx hZ hown w eT F (g := mkF m pc Ls (.ref a :: S)) rfl rfl hd
  exact Rt.go st (hh T' ⟨_, X', N, e'⟩)
theorem Rt.instY (X : Sd p l e R s m args below meth c T n0 cells slots h0) (hx : p.tables.exec = Jvm.exec) {Z : State} {a0 : Array Value} (hZ : Z.Warmed39 s.vm) {own K : String} {index : Nat} (hown : s.vm.findClass own = some m.cls) (w : (Cond.classLink own index K).before a0 Z = true) {a : Addr} (F : Ins Z h0 a K true) {pc pc' : Nat} {Ls : Array Slot} {S : List Value} (hd : decode c.code pc = .ok (.instanceof index, 3)) (hp : pc + 3 = pc')
    (hh : ∀ T', Sd p l e R s m args below meth c T' n0 cells slots h0 → Rt p e below s k n P (T'.setTop (mkF m pc' Ls (.int 1 :: S)))) : Rt p e below s k n P (T.setTop (mkF m pc Ls (.ref a :: S))) := by
  subst hp
  obtain ⟨locs, X, N, eT⟩ := X
  obtain ⟨T', X', e', st⟩ := Jvm.RoadKit.instY X hx hZ hown w eT F (g := mkF m pc Ls (.ref a :: S)) rfl rfl hd
  exact Rt.go st (hh T' ⟨_, X', N, e'⟩)
theorem Rt.instNo (X : Sd p l e R s m args below meth c T n0 cells slots h0) (hx : p.tables.exec = Jvm.exec) {Z : State} {a0 : Array Value} (hZ : Z.Warmed39 s.vm) {own K C' : String} {index : Nat} (hown : s.vm.findClass own = some m.cls) (w : (Cond.classLink own index K).before a0 Z = true) (hs0 : s.heap = h0) {a : Addr} (F : Ins Z h0 a K false) (E : Exa Z h0 a C') {pc pc' : Nat} {Ls : Array Slot} {S : List Value} (hd : decode c.code pc = .ok (.instanceof index, 3)) (hp : pc + 3 = pc')
    (hh : ∀ T', Sd p l e R s m args below meth c T' n0 cells slots h0 → Rt p e below s k n P (T'.setTop (mkF m pc' Ls (.int 0 :: S)))) : Rt p e below s k n P (T.setTop (mkF m pc Ls (.ref a :: S))) := by
  subst hp hs0
  obtain ⟨locs, X, N, eT⟩ := X
  obtain ⟨T', X', e', st⟩ := Jvm.RoadKit.instN X hx hZ hown w eT F E (g := mkF m pc Ls (.ref a :: S)) rfl rfl hd
  exact Rt.go st (hh T' ⟨_, X', N, e'⟩)
theorem Rt.instNull (X : Sd p l e R s m args below meth c T n0 cells slots h0) (hx : p.tables.exec = Jvm.exec) {index : Nat} {pc pc' : Nat} {Ls : Array Slot} {S : List Value} (hd : decode c.code pc = .ok (.instanceof index, 3)) (hp : pc + 3 = pc')
    (h : Rt p e below s k n P (T.setTop (mkF m pc' Ls (.int 0 :: S)))) : Rt p e below s k n P (T.setTop (mkF m pc Ls (.null :: S))) := by
  subst hp
  obtain ⟨locs, X, N, eT⟩ := X
  exact Rt.go (X.instanceofNull hx (g := mkF m pc Ls (.null :: S)) rfl rfl hd) h
theorem own_cat {v : Value} (h : v.isRef = true) : v.category = 1 := by rcases ref_cases h with rfl | ⟨_, rfl⟩ <;> rfl
theorem staK {Z : State} {h h' : Heap} {K f d : String} {v : Value} (F : Sta Z h K f d v) (Kp : Keep h h' []) : Sta Z h' K f d v := by
  obtain ⟨cf, i, k, f, st, cell, h1, h2, h3, h4, h5, r⟩ := F; exact ⟨cf, i, k, f, st, cell, h1, h2, h3, h4, Kp.2.1 _ _ h5 nin0, r⟩
/-- an array of values -/
def IA (Z : State) (h : Heap) (a : Addr) (ty : FieldType) (vs : List Value) : Prop := ∃ cl : Cell, Arr Z h a cl ty ∧ cl.slots = vs.toArray ∧ vs.length < 2 ^ 31
section Arrays
variable {Z : State} {h h' : Heap} {a b : Addr} {ty : FieldType} {vs : List Value}
theorem IA.lt (F : IA Z h a ty vs) : a < h.size := by obtain ⟨_, A, -⟩ := F; exact A.lt
theorem IA.ext (F : IA Z h a ty vs) (E : Ext h h') : IA Z h' a ty vs := by obtain ⟨c, A, r⟩ := F; exact ⟨c, A.ext E, r⟩
theorem IA.other {sl : Nat} {v : Value} (F : IA Z h a ty vs) (W : Wr h h' b sl v) (q : a ≠ b) : IA Z h' a ty vs := by obtain ⟨c, A, r⟩ := F; exact ⟨c, A.other W q, r⟩
theorem IA.keep {ws : List Addr} (F : IA Z h a ty vs) (K : Keep h h' ws) (q : a ∉ ws) : IA Z h' a ty vs := by obtain ⟨c, A, r⟩ := F; exact ⟨c, ⟨K.2.1 a c A.1 q, A.2⟩, r⟩
theorem IA.set {i : Nat} {v : Value} (F : IA Z h a ty vs) (W : Wr h h' a i v) : IA Z h' a ty (vs.set i v) := by
  obtain ⟨c, A, r, q⟩ := F
  refine ⟨_, A.same W, ?_, by rw [List.length_set]; exact q⟩
  show (c.slots.setIfInBounds i v) = _
  rw [r]; simp
theorem IA.new {k : ClassId} {z : Int32} {i : Nat} (A : Arr Z h a (newA k ty z) ty) (hz : z.toNatClampNeg = i) : IA Z h a ty (List.replicate i (defaultValue ty)) := by
  refine ⟨_, A, ?_, ?_⟩
  · show Array.replicate _ _ = _
    rw [hz]; simp
  · rw [List.length_replicate, ← hz]
    have := z.toInt_lt
    simp only [Int32.toNatClampNeg]; omega
theorem inA {cl : Cell} {j : Int32} {i : Nat} (r : cl.slots = vs.toArray) (hj : ¬ j < 0) (hi : j.toNatClampNeg = i) (hv : i < vs.length) : ¬ (j < 0 ∨ cl.slots.size ≤ j.toNatClampNeg) := by
  rintro (q | q)
  · exact hj q
  · rw [r, hi] at q; simp at q; omega
end Arrays
theorem Rt.newP (X : Sd p l e R s m args below meth c T n0 cells slots h0) (hx : p.tables.exec = Jvm.exec) {Z : State} {a0 : Array Value} (hZ : Z.Warmed39 s.vm) {aty : ArrayType} {ty : FieldType} (hty : newarray.typeOf aty = ty) (w : (Cond.arrayClass ty).before a0 Z = true) {z : Int32} {i : Nat} (hz : z.toNatClampNeg = i) (hn : ¬ z < 0) {cap : Nat} (hcap : i ≤ cap) (hb : cap * 8 ≤ 536870912) {pc pc' : Nat} {Ls : Array Slot} {S : List Value} (hd : decode c.code pc = .ok (.newarray aty, 2)) (hc : cells + 1 ≤ R.cells) (hl : slots + cap ≤ R.slots) (hp : pc + 2 = pc')
    (hh : ∀ T' h' a, a = h0.size → Sd p l e R s m args below meth c T' n0 (cells + 1) (slots + cap) h' → Ext h0 h' → IA Z h' a ty (List.replicate i (defaultValue ty)) → Rt p e below s k n P (T'.setTop (mkF m pc' Ls (.ref a :: S)))) : Rt p e below s k n P (T.setTop (mkF m pc Ls (.int z :: S))) := by
  subst hp hty
  obtain ⟨locs, X, N, eT⟩ := X
  obtain ⟨T', h', cA, X', e', E', A', st⟩ := Jvm.RoadKit.newP X hx hZ w eT (g := mkF m pc Ls (.int z :: S)) rfl hd rfl hn (cap := cap) (by rw [hz]; exact hcap) hb hc hl
  exact Rt.go st (hh T' h' _ rfl ⟨_, X', N, e'⟩ E' (IA.new A' hz))
theorem Rt.arraylength (X : Sd p l e R s m args below meth c T n0 cells slots h0) (hx : p.tables.exec = Jvm.exec) {Z : State} (hZ : Z.Warmed39 s.vm) {ty : FieldType} {a : Addr} {vs : List Value} (F : IA Z h0 a ty vs) {v : Int32} (hv : vs.length.toInt32 = v) {pc pc' : Nat} {Ls : Array Slot} {S : List Value} (hd : decode c.code pc = .ok (.arraylength, 1)) (hp : pc + 1 = pc')
    (h : Rt p e below s k n P (T.setTop (mkF m pc' Ls (.int v :: S)))) : Rt p e below s k n P (T.setTop (mkF m pc Ls (.ref a :: S))) := by
  subst hp hv
  obtain ⟨locs, X, N, eT⟩ := X
  obtain ⟨cl, A, r, q⟩ := F
  have e1 : vs.length = cl.slots.size := by rw [r]; simp
  rw [e1] at h
  exact Rt.go (X.arraylength hx (by rw [eT]; exact A.1) (State.isArrayOf_alike hZ.alike A.2.1) (g := mkF m pc Ls (.ref a :: S)) rfl rfl hd) h

theorem Rt.iaload (X : Sd p l e R s m args below meth c T n0 cells slots h0) (hx : p.tables.exec = Jvm.exec) {Z : State} (hZ : Z.Warmed39 s.vm) {a : Addr} {vs : List Value} (F : IA Z h0 a .int vs) {j : Int32} {i : Nat} (hi : j.toNatClampNeg = i) (hj : ¬ j < 0) {v : Value} (hv : vs[i]? = some v) {pc pc' : Nat} {Ls : Array Slot} {S : List Value} (hd : decode c.code pc = .ok (.iaload, 1)) (hp : pc + 1 = pc')
    (h : Rt p e below s k n P (T.setTop (mkF m pc' Ls (v :: S)))) : Rt p e below s k n P (T.setTop (mkF m pc Ls (.int j :: .ref a :: S))) := by
  subst hp
  obtain ⟨locs, X, N, eT⟩ := X
  obtain ⟨cl, A, r, q⟩ := F
  exact Rt.go (X.iaload hx (j := j) (v := v) (by rw [eT]; exact A.1) (State.isArrayOf_alike hZ.alike A.2.1) A.2.2 (inA r hj hi (List.getElem?_eq_some_iff.mp hv).1) (by rw [r, hi]; simpa using hv) (g := mkF m pc Ls (.int j :: .ref a :: S)) rfl rfl hd) h
theorem Rt.laload (X : Sd p l e R s m args below meth c T n0 cells slots h0) (hx : p.tables.exec = Jvm.exec) {Z : State} (hZ : Z.Warmed39 s.vm) {a : Addr} {vs : List Value} (F : IA Z h0 a .long vs) {j : Int32} {i : Nat} (hi : j.toNatClampNeg = i) (hj : ¬ j < 0) {v : Value} (hv : vs[i]? = some v) {pc pc' : Nat} {Ls : Array Slot} {S : List Value} (hd : decode c.code pc = .ok (.laload, 1)) (hp : pc + 1 = pc')
    (h : Rt p e below s k n P (T.setTop (mkF m pc' Ls (v :: S)))) : Rt p e below s k n P (T.setTop (mkF m pc Ls (.int j :: .ref a :: S))) := by
  subst hp
  obtain ⟨locs, X, N, eT⟩ := X
  obtain ⟨cl, A, r, q⟩ := F
  exact Rt.go (X.laload hx (j := j) (v := v) (by rw [eT]; exact A.1) (State.isArrayOf_alike hZ.alike A.2.1) A.2.2 (inA r hj hi (List.getElem?_eq_some_iff.mp hv).1) (by rw [r, hi]; simpa using hv) (g := mkF m pc Ls (.int j :: .ref a :: S)) rfl rfl hd) h
theorem Rt.baload (X : Sd p l e R s m args below meth c T n0 cells slots h0) (hx : p.tables.exec = Jvm.exec) {Z : State} (hZ : Z.Warmed39 s.vm) {a : Addr} {vs : List Value} (F : IA Z h0 a .byte vs) {j : Int32} {i : Nat} (hi : j.toNatClampNeg = i) (hj : ¬ j < 0) {v : Value} (hv : vs[i]? = some v) {pc pc' : Nat} {Ls : Array Slot} {S : List Value} (hd : decode c.code pc = .ok (.baload, 1)) (hp : pc + 1 = pc')
    (h : Rt p e below s k n P (T.setTop (mkF m pc' Ls (v :: S)))) : Rt p e below s k n P (T.setTop (mkF m pc Ls (.int j :: .ref a :: S))) := by
  subst hp
  obtain ⟨locs, X, N, eT⟩ := X
  obtain ⟨cl, A, r, q⟩ := F
  exact Rt.go (X.baloadBytes hx (j := j) (v := v) (by rw [eT]; exact A.1) (State.isArrayOf_alike hZ.alike A.2.1) A.2.2 (inA r hj hi (List.getElem?_eq_some_iff.mp hv).1) (by rw [r, hi]; simpa using hv) (g := mkF m pc Ls (.int j :: .ref a :: S)) rfl rfl hd) h
theorem Rt.zaload (X : Sd p l e R s m args below meth c T n0 cells slots h0) (hx : p.tables.exec = Jvm.exec) {Z : State} (hZ : Z.Warmed39 s.vm) {a : Addr} {vs : List Value} (F : IA Z h0 a .boolean vs) {j : Int32} {i : Nat} (hi : j.toNatClampNeg = i) (hj : ¬ j < 0) {v : Value} (hv : vs[i]? = some v) {pc pc' : Nat} {Ls : Array Slot} {S : List Value} (hd : decode c.code pc = .ok (.baload, 1)) (hp : pc + 1 = pc')
    (h : Rt p e below s k n P (T.setTop (mkF m pc' Ls (v :: S)))) : Rt p e below s k n P (T.setTop (mkF m pc Ls (.int j :: .ref a :: S))) := by
  subst hp
  obtain ⟨locs, X, N, eT⟩ := X
  obtain ⟨cl, A, r, q⟩ := F
  exact Rt.go (X.baloadBooleans hx (j := j) (v := v) (by rw [eT]; exact A.1) (State.isArrayOf_alike hZ.alike A.2.1) A.2.2 (inA r hj hi (List.getElem?_eq_some_iff.mp hv).1) (by rw [r, hi]; simpa using hv) (g := mkF m pc Ls (.int j :: .ref a :: S)) rfl rfl hd) h
theorem Rt.caload (X : Sd p l e R s m args below meth c T n0 cells slots h0) (hx : p.tables.exec = Jvm.exec) {Z : State} (hZ : Z.Warmed39 s.vm) {a : Addr} {vs : List Value} (F : IA Z h0 a .char vs) {j : Int32} {i : Nat} (hi : j.toNatClampNeg = i) (hj : ¬ j < 0) {v : Value} (hv : vs[i]? = some v) {pc pc' : Nat} {Ls : Array Slot} {S : List Value} (hd : decode c.code pc = .ok (.caload, 1)) (hp : pc + 1 = pc')
    (h : Rt p e below s k n P (T.setTop (mkF m pc' Ls (v :: S)))) : Rt p e below s k n P (T.setTop (mkF m pc Ls (.int j :: .ref a :: S))) := by
  subst hp
  obtain ⟨locs, X, N, eT⟩ := X
  obtain ⟨cl, A, r, q⟩ := F
  exact Rt.go (X.caload hx (j := j) (v := v) (by rw [eT]; exact A.1) (State.isArrayOf_alike hZ.alike A.2.1) A.2.2 (inA r hj hi (List.getElem?_eq_some_iff.mp hv).1) (by rw [r, hi]; simpa using hv) (g := mkF m pc Ls (.int j :: .ref a :: S)) rfl rfl hd) h
theorem Rt.aaload (X : Sd p l e R s m args below meth c T n0 cells slots h0) (hx : p.tables.exec = Jvm.exec) {Z : State} (hZ : Z.Warmed39 s.vm) {ty : FieldType} (hty : ty.isReference = true) {a : Addr} {vs : List Value} (F : IA Z h0 a ty vs) {j : Int32} {i : Nat} (hi : j.toNatClampNeg = i) (hj : ¬ j < 0) {v : Value} (hv : vs[i]? = some v) {pc pc' : Nat} {Ls : Array Slot} {S : List Value} (hd : decode c.code pc = .ok (.aaload, 1)) (hp : pc + 1 = pc')
    (h : Rt p e below s k n P (T.setTop (mkF m pc' Ls (v :: S)))) : Rt p e below s k n P (T.setTop (mkF m pc Ls (.int j :: .ref a :: S))) := by
  subst hp
  obtain ⟨locs, X, N, eT⟩ := X
  obtain ⟨cl, A, r, q⟩ := F
  exact Rt.go (X.aaload hx (j := j) (v := v) (by rw [eT]; exact A.1) (State.isArrayOf_alike hZ.alike A.2.1) hty A.2.2 (inA r hj hi (List.getElem?_eq_some_iff.mp hv).1) (by rw [r, hi]; simpa using hv) (g := mkF m pc Ls (.int j :: .ref a :: S)) rfl rfl hd) h
theorem Rt.iastore (X : Sd p l e R s m args below meth c T n0 cells slots h0) (hx : p.tables.exec = Jvm.exec) {Z : State} (hZ : Z.Warmed39 s.vm) {a : Addr} {vs : List Value} (F : IA Z h0 a .int vs) {j : Int32} {i : Nat} (hi : j.toNatClampNeg = i) (hj : ¬ j < 0) (hv : i < vs.length) {x : Int32} {w : Value} (hw : .int x = w) (ga : n0 ≤ a) {pc pc' : Nat} {Ls : Array Slot} {S : List Value} (hd : decode c.code pc = .ok (.iastore, 1)) (hp : pc + 1 = pc')
    (hh : ∀ T' h', Sd p l e R s m args below meth c T' n0 cells slots h' → Wr h0 h' a i w → IA Z h' a .int (vs.set i w) → Rt p e below s k n P (T'.setTop (mkF m pc' Ls S))) : Rt p e below s k n P (T.setTop (mkF m pc Ls (.int x :: .int j :: .ref a :: S))) := by
  subst hp hw
  obtain ⟨locs, X, N, eT⟩ := X
  obtain ⟨cl, A, r, q⟩ := id F
  obtain ⟨T', h', X', e', W', st⟩ := stI X hx hZ eT A (j := j) (inA r hj hi hv) (g := mkF m pc Ls (.int x :: .int j :: .ref a :: S)) rfl rfl hd
  rw [hi] at W'
  exact Rt.go st (hh T' h' ⟨_, X', Fr.snoc X' N ga, e'⟩ W' (F.set W'))
theorem Rt.lastore (X : Sd p l e R s m args below meth c T n0 cells slots h0) (hx : p.tables.exec = Jvm.exec) {Z : State} (hZ : Z.Warmed39 s.vm) {a : Addr} {vs : List Value} (F : IA Z h0 a .long vs) {j : Int32} {i : Nat} (hi : j.toNatClampNeg = i) (hj : ¬ j < 0) (hv : i < vs.length) {x : Int64} {w : Value} (hw : .long x = w) (ga : n0 ≤ a) {pc pc' : Nat} {Ls : Array Slot} {S : List Value} (hd : decode c.code pc = .ok (.lastore, 1)) (hp : pc + 1 = pc')
    (hh : ∀ T' h', Sd p l e R s m args below meth c T' n0 cells slots h' → Wr h0 h' a i w → IA Z h' a .long (vs.set i w) → Rt p e below s k n P (T'.setTop (mkF m pc' Ls S))) : Rt p e below s k n P (T.setTop (mkF m pc Ls (.long x :: .int j :: .ref a :: S))) := by
  subst hp hw
  obtain ⟨locs, X, N, eT⟩ := X
  obtain ⟨cl, A, r, q⟩ := id F
  obtain ⟨T', h', X', e', W', st⟩ := stJ X hx hZ eT A (j := j) (inA r hj hi hv) (g := mkF m pc Ls (.long x :: .int j :: .ref a :: S)) rfl rfl hd
  rw [hi] at W'
  exact Rt.go st (hh T' h' ⟨_, X', Fr.snoc X' N ga, e'⟩ W' (F.set W'))
theorem Rt.bastore (X : Sd p l e R s m args below meth c T n0 cells slots h0) (hx : p.tables.exec = Jvm.exec) {Z : State} (hZ : Z.Warmed39 s.vm) {a : Addr} {vs : List Value} (F : IA Z h0 a .byte vs) {j : Int32} {i : Nat} (hi : j.toNatClampNeg = i) (hj : ¬ j < 0) (hv : i < vs.length) {x : Int32} {w : Value} (hw : .int (nar .byte x) = w) (ga : n0 ≤ a) {pc pc' : Nat} {Ls : Array Slot} {S : List Value} (hd : decode c.code pc = .ok (.bastore, 1)) (hp : pc + 1 = pc')
    (hh : ∀ T' h', Sd p l e R s m args below meth c T' n0 cells slots h' → Wr h0 h' a i w → IA Z h' a .byte (vs.set i w) → Rt p e below s k n P (T'.setTop (mkF m pc' Ls S))) : Rt p e below s k n P (T.setTop (mkF m pc Ls (.int x :: .int j :: .ref a :: S))) := by
  subst hp hw
  obtain ⟨locs, X, N, eT⟩ := X
  obtain ⟨cl, A, r, q⟩ := id F
  obtain ⟨T', h', X', e', W', st⟩ := stB X hx hZ eT A (j := j) (inA r hj hi hv) (g := mkF m pc Ls (.int x :: .int j :: .ref a :: S)) rfl rfl hd
  rw [hi] at W'
  exact Rt.go st (hh T' h' ⟨_, X', Fr.snoc X' N ga, e'⟩ W' (F.set W'))
theorem Rt.zastore (X : Sd p l e R s m args below meth c T n0 cells slots h0) (hx : p.tables.exec = Jvm.exec) {Z : State} (hZ : Z.Warmed39 s.vm) {a : Addr} {vs : List Value} (F : IA Z h0 a .boolean vs) {j : Int32} {i : Nat} (hi : j.toNatClampNeg = i) (hj : ¬ j < 0) (hv : i < vs.length) {x : Int32} {w : Value} (hw : .int (nar .boolean x) = w) (ga : n0 ≤ a) {pc pc' : Nat} {Ls : Array Slot} {S : List Value} (hd : decode c.code pc = .ok (.bastore, 1)) (hp : pc + 1 = pc')
    (hh : ∀ T' h', Sd p l e R s m args below meth c T' n0 cells slots h' → Wr h0 h' a i w → IA Z h' a .boolean (vs.set i w) → Rt p e below s k n P (T'.setTop (mkF m pc' Ls S))) : Rt p e below s k n P (T.setTop (mkF m pc Ls (.int x :: .int j :: .ref a :: S))) := by
  subst hp hw
  obtain ⟨locs, X, N, eT⟩ := X
  obtain ⟨cl, A, r, q⟩ := id F
  obtain ⟨T', h', X', e', W', st⟩ := stZ X hx hZ eT A (j := j) (inA r hj hi hv) (g := mkF m pc Ls (.int x :: .int j :: .ref a :: S)) rfl rfl hd
  rw [hi] at W'
  exact Rt.go st (hh T' h' ⟨_, X', Fr.snoc X' N ga, e'⟩ W' (F.set W'))
theorem Rt.castore (X : Sd p l e R s m args below meth c T n0 cells slots h0) (hx : p.tables.exec = Jvm.exec) {Z : State} (hZ : Z.Warmed39 s.vm) {a : Addr} {vs : List Value} (F : IA Z h0 a .char vs) {j : Int32} {i : Nat} (hi : j.toNatClampNeg = i) (hj : ¬ j < 0) (hv : i < vs.length) {x : Int32} {w : Value} (hw : .int (nar .char x) = w) (ga : n0 ≤ a) {pc pc' : Nat} {Ls : Array Slot} {S : List Value} (hd : decode c.code pc = .ok (.castore, 1)) (hp : pc + 1 = pc')
    (hh : ∀ T' h', Sd p l e R s m args below meth c T' n0 cells slots h' → Wr h0 h' a i w → IA Z h' a .char (vs.set i w) → Rt p e below s k n P (T'.setTop (mkF m pc' Ls S))) : Rt p e below s k n P (T.setTop (mkF m pc Ls (.int x :: .int j :: .ref a :: S))) := by
  subst hp hw
  obtain ⟨locs, X, N, eT⟩ := X
  obtain ⟨cl, A, r, q⟩ := id F
  obtain ⟨T', h', X', e', W', st⟩ := stC X hx hZ eT A (j := j) (inA r hj hi hv) (g := mkF m pc Ls (.int x :: .int j :: .ref a :: S)) rfl rfl hd
  rw [hi] at W'
  exact Rt.go st (hh T' h' ⟨_, X', Fr.snoc X' N ga, e'⟩ W' (F.set W'))
/-- an array of so many elements -/
def IL (Z : State) (h : Heap) (a : Addr) (ty : FieldType) (N : Nat) : Prop := ∃ vs, IA Z h a ty vs ∧ vs.length = N
section Arrays
variable {Z : State} {h h' : Heap} {a b : Addr} {ty : FieldType} {N : Nat}
theorem IL.lt (F : IL Z h a ty N) : a < h.size := by obtain ⟨_, A, -⟩ := F; exact A.lt
theorem IL.ext (F : IL Z h a ty N) (E : Ext h h') : IL Z h' a ty N := by obtain ⟨c, A, r⟩ := F; exact ⟨c, A.ext E, r⟩
theorem IL.other {sl : Nat} {v : Value} (F : IL Z h a ty N) (W : Wr h h' b sl v) (q : a ≠ b) : IL Z h' a ty N := by obtain ⟨c, A, r⟩ := F; exact ⟨c, A.other W q, r⟩
theorem IL.wr {sl : Nat} {v : Value} (F : IL Z h a ty N) (W : Wr h h' b sl v) : IL Z h' a ty N := by
  obtain ⟨vs, A, r⟩ := F
  by_cases q : a = b
  · subst q; exact ⟨_, A.set W, by rw [List.length_set]; exact r⟩
  · exact ⟨vs, A.other W q, r⟩
theorem IL.keep {ws : List Addr} (F : IL Z h a ty N) (K : Keep h h' ws) : IL Z h' a ty N := by
  obtain ⟨vs, ⟨c, ⟨A1, ⟨A2, A3⟩, A4⟩, r1, r2⟩, r⟩ := F
  obtain ⟨c', q, e1, e2, e3⟩ := K.2.2 a c A1
  refine ⟨c'.slots.toList, ⟨c', ⟨q, ⟨?_, ?_⟩, by rw [e2]; exact A4⟩, by simp, ?_⟩, ?_⟩
  · rw [e2]; exact A2
  · rw [e1]; exact A3
  · rw [Array.length_toList, e3, r1]; simpa using r2
  · rw [Array.length_toList, e3, r1]; simpa using r
end Arrays
theorem Rt.arraylengthL (X : Sd p l e R s m args below meth c T n0 cells slots h0) (hx : p.tables.exec = Jvm.exec) {Z : State} (hZ : Z.Warmed39 s.vm) {ty : FieldType} {a : Addr} {N : Nat} (F : IL Z h0 a ty N) {v : Int32} (hv : N.toInt32 = v) {pc pc' : Nat} {Ls : Array Slot} {S : List Value} (hd : decode c.code pc = .ok (.arraylength, 1)) (hp : pc + 1 = pc')
    (h : Rt p e below s k n P (T.setTop (mkF m pc' Ls (.int v :: S)))) : Rt p e below s k n P (T.setTop (mkF m pc Ls (.ref a :: S))) := by
  obtain ⟨vs, F, rfl⟩ := F
  exact Rt.arraylength X hx hZ F hv hd hp h
theorem Rt.iastoreL (X : Sd p l e R s m args below meth c T n0 cells slots h0) (hx : p.tables.exec = Jvm.exec) {Z : State} (hZ : Z.Warmed39 s.vm) {a : Addr} {N : Nat} (F : IL Z h0 a .int N) {j : Int32} {i : Nat} (hi : j.toNatClampNeg = i) (hj : ¬ j < 0) (hv : i < N) {x : Int32} (ga : n0 ≤ a) {pc pc' : Nat} {Ls : Array Slot} {S : List Value} (hd : decode c.code pc = .ok (.iastore, 1)) (hp : pc + 1 = pc')
    (hh : ∀ T' h', Sd p l e R s m args below meth c T' n0 cells slots h' → ∀ w, Wr h0 h' a i w → IL Z h' a .int N → Rt p e below s k n P (T'.setTop (mkF m pc' Ls S))) : Rt p e below s k n P (T.setTop (mkF m pc Ls (.int x :: .int j :: .ref a :: S))) := by
  obtain ⟨vs, F, rfl⟩ := F
  exact Rt.iastore X hx hZ F hi hj hv rfl ga hd hp fun T' h' X' W' F' => hh T' h' X' _ W' ⟨_, F', List.length_set⟩
theorem Rt.lastoreL (X : Sd p l e R s m args below meth c T n0 cells slots h0) (hx : p.tables.exec = Jvm.exec) {Z : State} (hZ : Z.Warmed39 s.vm) {a : Addr} {N : Nat} (F : IL Z h0 a .long N) {j : Int32} {i : Nat} (hi : j.toNatClampNeg = i) (hj : ¬ j < 0) (hv : i < N) {x : Int64} (ga : n0 ≤ a) {pc pc' : Nat} {Ls : Array Slot} {S : List Value} (hd : decode c.code pc = .ok (.lastore, 1)) (hp : pc + 1 = pc')
    (hh : ∀ T' h', Sd p l e R s m args below meth c T' n0 cells slots h' → ∀ w, Wr h0 h' a i w → IL Z h' a .long N → Rt p e below s k n P (T'.setTop (mkF m pc' Ls S))) : Rt p e below s k n P (T.setTop (mkF m pc Ls (.long x :: .int j :: .ref a :: S))) := by
  obtain ⟨vs, F, rfl⟩ := F
  exact Rt.lastore X hx hZ F hi hj hv rfl ga hd hp fun T' h' X' W' F' => hh T' h' X' _ W' ⟨_, F', List.length_set⟩
theorem Rt.bastoreL (X : Sd p l e R s m args below meth c T n0 cells slots h0) (hx : p.tables.exec = Jvm.exec) {Z : State} (hZ : Z.Warmed39 s.vm) {a : Addr} {N : Nat} (F : IL Z h0 a .byte N) {j : Int32} {i : Nat} (hi : j.toNatClampNeg = i) (hj : ¬ j < 0) (hv : i < N) {x : Int32} (ga : n0 ≤ a) {pc pc' : Nat} {Ls : Array Slot} {S : List Value} (hd : decode c.code pc = .ok (.bastore, 1)) (hp : pc + 1 = pc')
    (hh : ∀ T' h', Sd p l e R s m args below meth c T' n0 cells slots h' → ∀ w, Wr h0 h' a i w → IL Z h' a .byte N → Rt p e below s k n P (T'.setTop (mkF m pc' Ls S))) : Rt p e below s k n P (T.setTop (mkF m pc Ls (.int x :: .int j :: .ref a :: S))) := by
  obtain ⟨vs, F, rfl⟩ := F
  exact Rt.bastore X hx hZ F hi hj hv rfl ga hd hp fun T' h' X' W' F' => hh T' h' X' _ W' ⟨_, F', List.length_set⟩
theorem Rt.zastoreL (X : Sd p l e R s m args below meth c T n0 cells slots h0) (hx : p.tables.exec = Jvm.exec) {Z : State} (hZ : Z.Warmed39 s.vm) {a : Addr} {N : Nat} (F : IL Z h0 a .boolean N) {j : Int32} {i : Nat} (hi : j.toNatClampNeg = i) (hj : ¬ j < 0) (hv : i < N) {x : Int32} (ga : n0 ≤ a) {pc pc' : Nat} {Ls : Array Slot} {S : List Value} (hd : decode c.code pc = .ok (.bastore, 1)) (hp : pc + 1 = pc')
    (hh : ∀ T' h', Sd p l e R s m args below meth c T' n0 cells slots h' → ∀ w, Wr h0 h' a i w → IL Z h' a .boolean N → Rt p e below s k n P (T'.setTop (mkF m pc' Ls S))) : Rt p e below s k n P (T.setTop (mkF m pc Ls (.int x :: .int j :: .ref a :: S))) := by
  obtain ⟨vs, F, rfl⟩ := F
  exact Rt.zastore X hx hZ F hi hj hv rfl ga hd hp fun T' h' X' W' F' => hh T' h' X' _ W' ⟨_, F', List.length_set⟩
theorem Rt.castoreL (X : Sd p l e R s m args below meth c T n0 cells slots h0) (hx : p.tables.exec = Jvm.exec) {Z : State} (hZ : Z.Warmed39 s.vm) {a : Addr} {N : Nat} (F : IL Z h0 a .char N) {j : Int32} {i : Nat} (hi : j.toNatClampNeg = i) (hj : ¬ j < 0) (hv : i < N) {x : Int32} (ga : n0 ≤ a) {pc pc' : Nat} {Ls : Array Slot} {S : List Value} (hd : decode c.code pc = .ok (.castore, 1)) (hp : pc + 1 = pc')
    (hh : ∀ T' h', Sd p l e R s m args below meth c T' n0 cells slots h' → ∀ w, Wr h0 h' a i w → IL Z h' a .char N → Rt p e below s k n P (T'.setTop (mkF m pc' Ls S))) : Rt p e below s k n P (T.setTop (mkF m pc Ls (.int x :: .int j :: .ref a :: S))) := by
  obtain ⟨vs, F, rfl⟩ := F
  exact Rt.castore X hx hZ F hi hj hv rfl ga hd hp fun T' h' X' W' F' => hh T' h' X' _ W' ⟨_, F', List.length_set⟩
end Own
abbrev nm1 : String := "com/example/cogwire/cogwire/wire/TaggedType"
abbrev nm2 : String := "[Lcom/example/cogwire/cogwire/wire/TaggedType;"
abbrev nm3 : String := "Lcom/example/cogwire/cogwire/wire/TaggedType;"
abbrev mt1 : MethodName := ⟨"com/example/cogwire/cogwire/wire/TaggedType", "of", "(I)Lcom/example/cogwire/cogwire/wire/TaggedType;"⟩
abbrev mt2 : MethodName := ⟨"com/example/cogwire/cogwire/wire/TaggedTypeOfPinLaw", "expected", "(I)Lcom/example/cogwire/cogwire/wire/TaggedType;"⟩
theorem own_ite {c : Prop} [Decidable c] {a b : Value} (ha : a.isRef = true) (hb : b.isRef = true) : (if c then a else b).isRef = true := by split <;> assumption
theorem d1_0 : decode prog_165_method_4_code 0 = .ok (.getstatic 70, 3) := by decide +kernel
theorem d1_3 : decode prog_165_method_4_code 3 = .ok (.astore_n 1, 1) := by decide +kernel
theorem d1_4 : decode prog_165_method_4_code 4 = .ok (.aload_n 1, 1) := by decide +kernel
theorem d1_5 : decode prog_165_method_4_code 5 = .ok (.arraylength, 1) := by decide +kernel
theorem d1_6 : decode prog_165_method_4_code 6 = .ok (.istore_n 2, 1) := by decide +kernel
theorem d1_7 : decode prog_165_method_4_code 7 = .ok (.iconst 0, 1) := by decide +kernel
theorem d1_8 : decode prog_165_method_4_code 8 = .ok (.istore_n 3, 1) := by decide +kernel
theorem d1_9 : decode prog_165_method_4_code 9 = .ok (.iload_n 3, 1) := by decide +kernel
theorem d1_10 : decode prog_165_method_4_code 10 = .ok (.iload_n 2, 1) := by decide +kernel
theorem d1_11 : decode prog_165_method_4_code 11 = .ok (.if_icmp .ge 26, 3) := by decide +kernel
theorem d1_14 : decode prog_165_method_4_code 14 = .ok (.aload_n 1, 1) := by decide +kernel
theorem d1_15 : decode prog_165_method_4_code 15 = .ok (.iload_n 3, 1) := by decide +kernel
theorem d1_16 : decode prog_165_method_4_code 16 = .ok (.aaload, 1) := by decide +kernel
theorem d1_17 : decode prog_165_method_4_code 17 = .ok (.astore 4, 2) := by decide +kernel
theorem d1_19 : decode prog_165_method_4_code 19 = .ok (.aload 4, 2) := by decide +kernel
theorem d1_21 : decode prog_165_method_4_code 21 = .ok (.getfield 59, 3) := by decide +kernel
theorem d1_24 : decode prog_165_method_4_code 24 = .ok (.iload_n 0, 1) := by decide +kernel
theorem d1_25 : decode prog_165_method_4_code 25 = .ok (.if_icmp .ne 6, 3) := by decide +kernel
theorem d1_28 : decode prog_165_method_4_code 28 = .ok (.aload 4, 2) := by decide +kernel
theorem d1_30 : decode prog_165_method_4_code 30 = .ok (.areturn, 1) := by decide +kernel
theorem d1_31 : decode prog_165_method_4_code 31 = .ok (.iinc 3 1, 3) := by decide +kernel
theorem d1_34 : decode prog_165_method_4_code 34 = .ok (.goto (-25), 3) := by decide +kernel
theorem d1_37 : decode prog_165_method_4_code 37 = .ok (.aconst_null, 1) := by decide +kernel
theorem d1_38 : decode prog_165_method_4_code 38 = .ok (.areturn, 1) := by decide +kernel
def f1 (p1 : Int32) (w_U8 : Addr) (w_I8 : Addr) (w_U16 : Addr) (w_I16 : Addr) (w_U32 : Addr) (w_I32 : Addr) (w_U64 : Addr) (w_I64 : Addr) (w_STR : Addr) (w_F32 : Addr) (w_F64 : Addr) (w_RAW : Addr) : Value := (if (1 : Int32) = p1 then (Value.ref w_U8) else (if (2 : Int32) = p1 then (Value.ref w_I8) else (if (3 : Int32) = p1 then (Value.ref w_U16) else (if (4 : Int32) = p1 then (Value.ref w_I16) else (if (5 : Int32) = p1 then (Value.ref w_U32) else (if (6 : Int32) = p1 then (Value.ref w_I32) else (if (7 : Int32) = p1 then (Value.ref w_U64) else (if (8 : Int32) = p1 then (Value.ref w_I64) else (if (9 : Int32) = p1 then (Value.ref w_STR) else (if (10 : Int32) = p1 then (Value.ref w_F32) else (if (11 : Int32) = p1 then (Value.ref w_F64) else (if (16 : Int32) = p1 then (Value.ref w_RAW) else Value.null))))))))))))
def Q1 (p1 : Int32) (w_ALL : Addr) (w_U8 : Addr) (w_I8 : Addr) (w_U16 : Addr) (w_I16 : Addr) (w_U32 : Addr) (w_I32 : Addr) (w_U64 : Addr) (w_I64 : Addr) (w_STR : Addr) (w_F32 : Addr) (w_F64 : Addr) (w_RAW : Addr) (h0 : Heap) (n0 : Nat) (v : Option Value) (h : Heap) (L : List Loc) : Prop := v = some (f1 p1 w_U8 w_I8 w_U16 w_I16 w_U32 w_I32 w_U64 w_I64 w_STR w_F32 w_F64 w_RAW) ∧ Fr n0 L ∧ h = h0
def rmR1 : Room := { frames := 0, cells := 0, slots := 0, locals := 0 }
theorem ef_1 (m : MethodId) (p1 : Int32) : entryFrame m #[(.int p1)] 5 = mkF m 0 #[.val (.int p1), .unset, .unset, .unset, .unset] [] := by first | (simp [entryFrame, mkF, argsToLocals, Value.category]; done) | rfl
theorem pn_com_example_cogwire_cogwire_wire_TaggedType : plainName "com/example/cogwire/cogwire/wire/TaggedType" = true := by first | (simp [plainName, overriddenIn]; done) | decide +kernel
set_option maxRecDepth 65536 in
set_option maxHeartbeats 40000000 in
theorem rm1 (l : Launch) (Z : State) (a0 : Array Value) (hw : ∀ d ∈ tables_1, d.before a0 Z = true) (ws : List Jvm.Cond) (p1 : Int32) (w_ALL : Addr) (w_U8 : Addr) (w_I8 : Addr) (w_U16 : Addr) (w_I16 : Addr) (w_U32 : Addr) (w_I32 : Addr) (w_U64 : Addr) (w_I64 : Addr) (w_STR : Addr) (w_F32 : Addr) (w_F64 : Addr) (w_RAW : Addr) (h0 : Heap) (n0 : Nat) (F_S_com_example_cogwire_cogwire_wire_TaggedType_ALL : Sta Z h0 nm1 "ALL" nm2 (.ref w_ALL)) (F_A_w_ALL : IA Z h0 w_ALL (.object "com/example/cogwire/cogwire/wire/TaggedType") [(.ref w_U8), (.ref w_I8), (.ref w_U16), (.ref w_I16), (.ref w_U32), (.ref w_I32), (.ref w_U64), (.ref w_I64), (.ref w_STR), (.ref w_F32), (.ref w_F64), (.ref w_RAW)]) (F_F_w_U8_code : Fld Z h0 w_U8 nm1 "code" "I" (.int (1 : Int32))) (F_F_w_I8_code : Fld Z h0 w_I8 nm1 "code" "I" (.int (2 : Int32))) (F_F_w_U16_code : Fld Z h0 w_U16 nm1 "code" "I" (.int (3 : Int32))) (F_F_w_I16_code : Fld Z h0 w_I16 nm1 "code" "I" (.int (4 : Int32))) (F_F_w_U32_code : Fld Z h0 w_U32 nm1 "code" "I" (.int (5 : Int32))) (F_F_w_I32_code : Fld Z h0 w_I32 nm1 "code" "I" (.int (6 : Int32))) (F_F_w_U64_code : Fld Z h0 w_U64 nm1 "code" "I" (.int (7 : Int32))) (F_F_w_I64_code : Fld Z h0 w_I64 nm1 "code" "I" (.int (8 : Int32))) (F_F_w_STR_code : Fld Z h0 w_STR nm1 "code" "I" (.int (9 : Int32))) (F_F_w_F32_code : Fld Z h0 w_F32 nm1 "code" "I" (.int (10 : Int32))) (F_F_w_F64_code : Fld Z h0 w_F64 nm1 "code" "I" (.int (11 : Int32))) (F_F_w_RAW_code : Fld Z h0 w_RAW nm1 "code" "I" (.int (16 : Int32))) :
    Mt l Z mt1 (Jvm.Cond.code mt1 prog_165_method_4_code 5 (some (.object "com/example/cogwire/cogwire/wire/TaggedType")) :: ws) rmR1 #[(.int p1)] h0 (Q1 p1 w_ALL w_U8 w_I8 w_U16 w_I16 w_U32 w_I32 w_U64 w_I64 w_STR w_F32 w_F64 w_RAW h0 n0) := by
  refine Mt.of n0 (plainFor_of_name pn_com_example_cogwire_cogwire_wire_TaggedType) ?_
  intro p e s m below meth c T0 X0 hx hZ hby hml hown hret hlk hnm hs0
  have hown : s.vm.findClass "com/example/cogwire/cogwire/wire/TaggedType" = some m.cls := hown
  rw [ef_1]
  show Rt p e below s rmR1.cells rmR1.slots (Q1 p1 w_ALL w_U8 w_I8 w_U16 w_I16 w_U32 w_I32 w_U64 w_I64 w_STR w_F32 w_F64 w_RAW h0 n0) (T0.setTop (mkF m 0 #[.val (.int p1), .unset, .unset, .unset, .unset] []))
  refine Rt.getS (pc' := 3) (v := (.ref w_ALL)) X0 hx hZ hown (host := "") (Or.inl (hw _ (List.mem_of_getElem? (i := 4) rfl))) F_S_com_example_cogwire_cogwire_wire_TaggedType_ALL (hb hby d1_0) rfl ?_
  intro T2 X2
  refine Rt.astoreN (pc' := 4) (v := (.ref w_ALL)) (l' := #[.val (.int p1), .val (.ref w_ALL), .unset, .unset, .unset]) X2 hx (hb hby d1_3) rfl rfl rfl ?_
  refine Rt.aloadN (pc' := 5) X2 hx (hb hby d1_4) rfl rfl rfl ?_
  refine Rt.arraylength (pc' := 6) X2 hx hZ F_A_w_ALL (v := (12 : Int32)) rfl (hb hby d1_5) rfl ?_
  refine Rt.istoreN (pc' := 7) (v := (12 : Int32)) (l' := #[.val (.int p1), .val (.ref w_ALL), .val (.int (12 : Int32)), .unset, .unset]) X2 hx (hb hby d1_6) rfl rfl ?_
  refine Rt.iconst (pc' := 8) (v := (0 : Int32)) X2 hx (hb hby d1_7) rfl rfl ?_
  refine Rt.istoreN (pc' := 9) (v := (0 : Int32)) (l' := #[.val (.int p1), .val (.ref w_ALL), .val (.int (12 : Int32)), .val (.int (0 : Int32)), .unset]) X2 hx (hb hby d1_8) rfl rfl ?_
  refine Rt.iloadN (pc' := 10) X2 hx (hb hby d1_9) rfl rfl ?_
  refine Rt.iloadN (pc' := 11) X2 hx (hb hby d1_10) rfl rfl ?_
  refine Rt.icmpN (pc' := 14) X2 hx (hb hby d1_11) (tlt (by decide : (0 : Int32) < (12 : Int32))).2.1 rfl ?_
  refine Rt.aloadN (pc' := 15) X2 hx (hb hby d1_14) rfl rfl rfl ?_
  refine Rt.iloadN (pc' := 16) X2 hx (hb hby d1_15) rfl rfl ?_
  refine Rt.aaload (pc' := 17) X2 hx hZ rfl F_A_w_ALL (i := 0) (by decide) (by decide) (v := (.ref w_U8)) rfl (hb hby d1_16) rfl ?_
  refine Rt.astore (pc' := 19) (v := (.ref w_U8)) (l' := #[.val (.int p1), .val (.ref w_ALL), .val (.int (12 : Int32)), .val (.int (0 : Int32)), .val (.ref w_U8)]) X2 hx (hb hby d1_17) rfl rfl rfl ?_
  refine Rt.aload (pc' := 21) X2 hx (hb hby d1_19) rfl rfl rfl ?_
  refine Rt.getF (pc' := 24) (v := (.int (1 : Int32))) X2 hx hZ hown (host := "") (Or.inl (hw _ (List.mem_of_getElem? (i := 7) rfl))) F_F_w_U8_code (hb hby d1_21) rfl ?_
  intro T3 X3
  refine Rt.iloadN (pc' := 25) X3 hx (hb hby d1_24) rfl rfl ?_
  by_cases hc25_4 : (1 : Int32) = p1
  · refine Rt.icmpN (pc' := 28) X3 hx (hb hby d1_25) (teq hc25_4).2 rfl ?_
    refine Rt.aload (pc' := 30) X3 hx (hb hby d1_28) rfl rfl rfl ?_
    exact Rt.retA X3 hx hlk (t := (.object "com/example/cogwire/cogwire/wire/TaggedType")) rfl hret rfl (hb hby d1_30) (by decide) (by decide) (fun L N => ⟨congrArg some (by rw [f1, if_pos hc25_4]), N, rfl⟩)
  · refine Rt.icmpY (pc' := 31) X3 hx (hb hby d1_25) (feq hc25_4).2 (by decide) (by decide) ?_
    refine Rt.iinc (pc' := 34) (r := (1 : Int32)) (l' := #[.val (.int p1), .val (.ref w_ALL), .val (.int (12 : Int32)), .val (.int (1 : Int32)), .val (.ref w_U8)]) X3 hx (hb hby d1_31) rfl (by decide) rfl rfl ?_
    refine Rt.goto (pc' := 9) X3 hx (hb hby d1_34) (by decide) (by decide) ?_
    refine Rt.iloadN (pc' := 10) X3 hx (hb hby d1_9) rfl rfl ?_
    refine Rt.iloadN (pc' := 11) X3 hx (hb hby d1_10) rfl rfl ?_
    refine Rt.icmpN (pc' := 14) X3 hx (hb hby d1_11) (tlt (by decide : (1 : Int32) < (12 : Int32))).2.1 rfl ?_
    refine Rt.aloadN (pc' := 15) X3 hx (hb hby d1_14) rfl rfl rfl ?_
    refine Rt.iloadN (pc' := 16) X3 hx (hb hby d1_15) rfl rfl ?_
    refine Rt.aaload (pc' := 17) X3 hx hZ rfl F_A_w_ALL (i := 1) (by decide) (by decide) (v := (.ref w_I8)) rfl (hb hby d1_16) rfl ?_
    refine Rt.astore (pc' := 19) (v := (.ref w_I8)) (l' := #[.val (.int p1), .val (.ref w_ALL), .val (.int (12 : Int32)), .val (.int (1 : Int32)), .val (.ref w_I8)]) X3 hx (hb hby d1_17) rfl rfl rfl ?_
    refine Rt.aload (pc' := 21) X3 hx (hb hby d1_19) rfl rfl rfl ?_
    refine Rt.getF (pc' := 24) (v := (.int (2 : Int32))) X3 hx hZ hown (host := "") (Or.inl (hw _ (List.mem_of_getElem? (i := 7) rfl))) F_F_w_I8_code (hb hby d1_21) rfl ?_
    intro T5 X5
    refine Rt.iloadN (pc' := 25) X5 hx (hb hby d1_24) rfl rfl ?_
    by_cases hc25_6 : (2 : Int32) = p1
    · refine Rt.icmpN (pc' := 28) X5 hx (hb hby d1_25) (teq hc25_6).2 rfl ?_
      refine Rt.aload (pc' := 30) X5 hx (hb hby d1_28) rfl rfl rfl ?_
      exact Rt.retA X5 hx hlk (t := (.object "com/example/cogwire/cogwire/wire/TaggedType")) rfl hret rfl (hb hby d1_30) (by decide) (by decide) (fun L N => ⟨congrArg some (by rw [f1, if_neg hc25_4, if_pos hc25_6]), N, rfl⟩)
    · refine Rt.icmpY (pc' := 31) X5 hx (hb hby d1_25) (feq hc25_6).2 (by decide) (by decide) ?_
      refine Rt.iinc (pc' := 34) (r := (2 : Int32)) (l' := #[.val (.int p1), .val (.ref w_ALL), .val (.int (12 : Int32)), .val (.int (2 : Int32)), .val (.ref w_I8)]) X5 hx (hb hby d1_31) rfl (by decide) rfl rfl ?_
      refine Rt.goto (pc' := 9) X5 hx (hb hby d1_34) (by decide) (by decide) ?_
      refine Rt.iloadN (pc' := 10) X5 hx (hb hby d1_9) rfl rfl ?_
      refine Rt.iloadN (pc' := 11) X5 hx (hb hby d1_10) rfl rfl ?_
      refine Rt.icmpN (pc' := 14) X5 hx (hb hby d1_11) (tlt (by decide : (2 : Int32) < (12 : Int32))).2.1 rfl ?_
      refine Rt.aloadN (pc' := 15) X5 hx (hb hby d1_14) rfl rfl rfl ?_
      refine Rt.iloadN (pc' := 16) X5 hx (hb hby d1_15) rfl rfl ?_
      refine Rt.aaload (pc' := 17) X5 hx hZ rfl F_A_w_ALL (i := 2) (by decide) (by decide) (v := (.ref w_U16)) rfl (hb hby d1_16) rfl ?_
      refine Rt.astore (pc' := 19) (v := (.ref w_U16)) (l' := #[.val (.int p1), .val (.ref w_ALL), .val (.int (12 : Int32)), .val (.int (2 : Int32)), .val (.ref w_U16)]) X5 hx (hb hby d1_17) rfl rfl rfl ?_
      refine Rt.aload (pc' := 21) X5 hx (hb hby d1_19) rfl rfl rfl ?_
      refine Rt.getF (pc' := 24) (v := (.int (3 : Int32))) X5 hx hZ hown (host := "") (Or.inl (hw _ (List.mem_of_getElem? (i := 7) rfl))) F_F_w_U16_code (hb hby d1_21) rfl ?_
      intro T7 X7
      refine Rt.iloadN (pc' := 25) X7 hx (hb hby d1_24) rfl rfl ?_
      by_cases hc25_8 : (3 : Int32) = p1
      · refine Rt.icmpN (pc' := 28) X7 hx (hb hby d1_25) (teq hc25_8).2 rfl ?_
        refine Rt.aload (pc' := 30) X7 hx (hb hby d1_28) rfl rfl rfl ?_
        exact Rt.retA X7 hx hlk (t := (.object "com/example/cogwire/cogwire/wire/TaggedType")) rfl hret rfl (hb hby d1_30) (by decide) (by decide) (fun L N => ⟨congrArg some (by rw [f1, if_neg hc25_4, if_neg hc25_6, if_pos hc25_8]), N, rfl⟩)
      · refine Rt.icmpY (pc' := 31) X7 hx (hb hby d1_25) (feq hc25_8).2 (by decide) (by decide) ?_
        refine Rt.iinc (pc' := 34) (r := (3 : Int32)) (l' := #[.val (.int p1), .val (.ref w_ALL), .val (.int (12 : Int32)), .val (.int (3 : Int32)), .val (.ref w_U16)]) X7 hx (hb hby d1_31) rfl (by decide) rfl rfl ?_
        refine Rt.goto (pc' := 9) X7 hx (hb hby d1_34) (by decide) (by decide) ?_
        refine Rt.iloadN (pc' := 10) X7 hx (hb hby d1_9) rfl rfl ?_
        refine Rt.iloadN (pc' := 11) X7 hx (hb hby d1_10) rfl rfl ?_
        refine Rt.icmpN (pc' := 14) X7 hx (hb hby d1_11) (tlt (by decide : (3 : Int32) < (12 : Int32))).2.1 rfl ?_
        refine Rt.aloadN (pc' := 15) X7 hx (hb hby d1_14) rfl rfl rfl ?_
        refine Rt.iloadN (pc' := 16) X7 hx (hb hby d1_15) rfl rfl ?_
        refine Rt.aaload (pc' := 17) X7 hx hZ rfl F_A_w_ALL (i := 3) (by decide) (by decide) (v := (.ref w_I16)) rfl (hb hby d1_16) rfl ?_
        refine Rt.astore (pc' := 19) (v := (.ref w_I16)) (l' := #[.val (.int p1), .val (.ref w_ALL), .val (.int (12 : Int32)), .val (.int (3 : Int32)), .val (.ref w_I16)]) X7 hx (hb hby d1_17) rfl rfl rfl ?_
        refine Rt.aload (pc' := 21) X7 hx (hb hby d1_19) rfl rfl rfl ?_
        refine Rt.getF (pc' := 24) (v := (.int (4 : Int32))) X7 hx hZ hown (host := "") (Or.inl (hw _ (List.mem_of_getElem? (i := 7) rfl))) F_F_w_I16_code (hb hby d1_21) rfl ?_
        intro T9 X9
        refine Rt.iloadN (pc' := 25) X9 hx (hb hby d1_24) rfl rfl ?_
        by_cases hc25_10 : (4 : Int32) = p1
        · refine Rt.icmpN (pc' := 28) X9 hx (hb hby d1_25) (teq hc25_10).2 rfl ?_
          refine Rt.aload (pc' := 30) X9 hx (hb hby d1_28) rfl rfl rfl ?_
          exact Rt.retA X9 hx hlk (t := (.object "com/example/cogwire/cogwire/wire/TaggedType")) rfl hret rfl (hb hby d1_30) (by decide) (by decide) (fun L N => ⟨congrArg some (by rw [f1, if_neg hc25_4, if_neg hc25_6, if_neg hc25_8, if_pos hc25_10]), N, rfl⟩)
        · refine Rt.icmpY (pc' := 31) X9 hx (hb hby d1_25) (feq hc25_10).2 (by decide) (by decide) ?_
          refine Rt.iinc (pc' := 34) (r := (4 : Int32)) (l' := #[.val (.int p1), .val (.ref w_ALL), .val (.int (12 : Int32)), .val (.int (4 : Int32)), .val (.ref w_I16)]) X9 hx (hb hby d1_31) rfl (by decide) rfl rfl ?_
          refine Rt.goto (pc' := 9) X9 hx (hb hby d1_34) (by decide) (by decide) ?_
          refine Rt.iloadN (pc' := 10) X9 hx (hb hby d1_9) rfl rfl ?_
          refine Rt.iloadN (pc' := 11) X9 hx (hb hby d1_10) rfl rfl ?_
          refine Rt.icmpN (pc' := 14) X9 hx (hb hby d1_11) (tlt (by decide : (4 : Int32) < (12 : Int32))).2.1 rfl ?_
          refine Rt.aloadN (pc' := 15) X9 hx (hb hby d1_14) rfl rfl rfl ?_
          refine Rt.iloadN (pc' := 16) X9 hx (hb hby d1_15) rfl rfl ?_
          refine Rt.aaload (pc' := 17) X9 hx hZ rfl F_A_w_ALL (i := 4) (by decide) (by decide) (v := (.ref w_U32)) rfl (hb hby d1_16) rfl ?_
          refine Rt.astore (pc' := 19) (v := (.ref w_U32)) (l' := #[.val (.int p1), .val (.ref w_ALL), .val (.int (12 : Int32)), .val (.int (4 : Int32)), .val (.ref w_U32)]) X9 hx (hb hby d1_17) rfl rfl rfl ?_
          refine Rt.aload (pc' := 21) X9 hx (hb hby d1_19) rfl rfl rfl ?_
          refine Rt.getF (pc' := 24) (v := (.int (5 : Int32))) X9 hx hZ hown (host := "") (Or.inl (hw _ (List.mem_of_getElem? (i := 7) rfl))) F_F_w_U32_code (hb hby d1_21) rfl ?_
          intro T11 X11
          refine Rt.iloadN (pc' := 25) X11 hx (hb hby d1_24) rfl rfl ?_
          by_cases hc25_12 : (5 : Int32) = p1
          · refine Rt.icmpN (pc' := 28) X11 hx (hb hby d1_25) (teq hc25_12).2 rfl ?_
            refine Rt.aload (pc' := 30) X11 hx (hb hby d1_28) rfl rfl rfl ?_
            exact Rt.retA X11 hx hlk (t := (.object "com/example/cogwire/cogwire/wire/TaggedType")) rfl hret rfl (hb hby d1_30) (by decide) (by decide) (fun L N => ⟨congrArg some (by rw [f1, if_neg hc25_4, if_neg hc25_6, if_neg hc25_8, if_neg hc25_10, if_pos hc25_12]), N, rfl⟩)
          · refine Rt.icmpY (pc' := 31) X11 hx (hb hby d1_25) (feq hc25_12).2 (by decide) (by decide) ?_
            refine Rt.iinc (pc' := 34) (r := (5 : Int32)) (l' := #[.val (.int p1), .val (.ref w_ALL), .val (.int (12 : Int32)), .val (.int (5 : Int32)), .val (.ref w_U32)]) X11 hx (hb hby d1_31) rfl (by decide) rfl rfl ?_
            refine Rt.goto (pc' := 9) X11 hx (hb hby d1_34) (by decide) (by decide) ?_
            refine Rt.iloadN (pc' := 10) X11 hx (hb hby d1_9) rfl rfl ?_
            refine Rt.iloadN (pc' := 11) X11 hx (hb hby d1_10) rfl rfl ?_
            refine Rt.icmpN (pc' := 14) X11 hx (hb hby d1_11) (tlt (by decide : (5 : Int32) < (12 : Int32))).2.1 rfl ?_
            refine Rt.aloadN (pc' := 15) X11 hx (hb hby d1_14) rfl rfl rfl ?_
            refine Rt.iloadN (pc' := 16) X11 hx (hb hby d1_15) rfl rfl ?_
            refine Rt.aaload (pc' := 17) X11 hx hZ rfl F_A_w_ALL (i := 5) (by decide) (by decide) (v := (.ref w_I32)) rfl (hb hby d1_16) rfl ?_
            refine Rt.astore (pc' := 19) (v := (.ref w_I32)) (l' := #[.val (.int p1), .val (.ref w_ALL), .val (.int (12 : Int32)), .val (.int (5 : Int32)), .val (.ref w_I32)]) X11 hx (hb hby d1_17) rfl rfl rfl ?_
            refine Rt.aload (pc' := 21) X11 hx (hb hby d1_19) rfl rfl rfl ?_
            refine Rt.getF (pc' := 24) (v := (.int (6 : Int32))) X11 hx hZ hown (host := "") (Or.inl (hw _ (List.mem_of_getElem? (i := 7) rfl))) F_F_w_I32_code (hb hby d1_21) rfl ?_
            intro T13 X13
            refine Rt.iloadN (pc' := 25) X13 hx (hb hby d1_24) rfl rfl ?_
            by_cases hc25_14 : (6 : Int32) = p1
            · refine Rt.icmpN (pc' := 28) X13 hx (hb hby d1_25) (teq hc25_14).2 rfl ?_
              refine Rt.aload (pc' := 30) X13 hx (hb hby d1_28) rfl rfl rfl ?_
              exact Rt.retA X13 hx hlk (t := (.object "com/example/cogwire/cogwire/wire/TaggedType")) rfl hret rfl (hb hby d1_30) (by decide) (by decide) (fun L N => ⟨congrArg some (by rw [f1, if_neg hc25_4, if_neg hc25_6, if_neg hc25_8, if_neg hc25_10, if_neg hc25_12, if_pos hc25_14]), N, rfl⟩)
            · refine Rt.icmpY (pc' := 31) X13 hx (hb hby d1_25) (feq hc25_14).2 (by decide) (by decide) ?_
              refine Rt.iinc (pc' := 34) (r := (6 : Int32)) (l' := #[.val (.int p1), .val (.ref w_ALL), .val (.int (12 : Int32)), .val (.int (6 : Int32)), .val (.ref w_I32)]) X13 hx (hb hby d1_31) rfl (by decide) rfl rfl ?_
              refine Rt.goto (pc' := 9) X13 hx (hb hby d1_34) (by decide) (by decide) ?_
              refine Rt.iloadN (pc' := 10) X13 hx (hb hby d1_9) rfl rfl ?_
              refine Rt.iloadN (pc' := 11) X13 hx (hb hby d1_10) rfl rfl ?_
              refine Rt.icmpN (pc' := 14) X13 hx (hb hby d1_11) (tlt (by decide : (6 : Int32) < (12 : Int32))).2.1 rfl ?_
              refine Rt.aloadN (pc' := 15) X13 hx (hb hby d1_14) rfl rfl rfl ?_
              refine Rt.iloadN (pc' := 16) X13 hx (hb hby d1_15) rfl rfl ?_
              refine Rt.aaload (pc' := 17) X13 hx hZ rfl F_A_w_ALL (i := 6) (by decide) (by decide) (v := (.ref w_U64)) rfl (hb hby d1_16) rfl ?_
              refine Rt.astore (pc' := 19) (v := (.ref w_U64)) (l' := #[.val (.int p1), .val (.ref w_ALL), .val (.int (12 : Int32)), .val (.int (6 : Int32)), .val (.ref w_U64)]) X13 hx (hb hby d1_17) rfl rfl rfl ?_
              refine Rt.aload (pc' := 21) X13 hx (hb hby d1_19) rfl rfl rfl ?_
              refine Rt.getF (pc' := 24) (v := (.int (7 : Int32))) X13 hx hZ hown (host := "") (Or.inl (hw _ (List.mem_of_getElem? (i := 7) rfl))) F_F_w_U64_code (hb hby d1_21) rfl ?_
              intro T15 X15
              refine Rt.iloadN (pc' := 25) X15 hx (hb hby d1_24) rfl rfl ?_
              by_cases hc25_16 : (7 : Int32) = p1
              · refine Rt.icmpN (pc' := 28) X15 hx (hb hby d1_25) (teq hc25_16).2 rfl ?_
                refine Rt.aload (pc' := 30) X15 hx (hb hby d1_28) rfl rfl rfl ?_
                exact Rt.retA X15 hx hlk (t := (.object "com/example/cogwire/cogwire/wire/TaggedType")) rfl hret rfl (hb hby d1_30) (by decide) (by decide) (fun L N => ⟨congrArg some (by rw [f1, if_neg hc25_4, if_neg hc25_6, if_neg hc25_8, if_neg hc25_10, if_neg hc25_12, if_neg hc25_14, if_pos hc25_16]), N, rfl⟩)
              · refine Rt.icmpY (pc' := 31) X15 hx (hb hby d1_25) (feq hc25_16).2 (by decide) (by decide) ?_
                refine Rt.iinc (pc' := 34) (r := (7 : Int32)) (l' := #[.val (.int p1), .val (.ref w_ALL), .val (.int (12 : Int32)), .val (.int (7 : Int32)), .val (.ref w_U64)]) X15 hx (hb hby d1_31) rfl (by decide) rfl rfl ?_
                refine Rt.goto (pc' := 9) X15 hx (hb hby d1_34) (by decide) (by decide) ?_
                refine Rt.iloadN (pc' := 10) X15 hx (hb hby d1_9) rfl rfl ?_
                refine Rt.iloadN (pc' := 11) X15 hx (hb hby d1_10) rfl rfl ?_
                refine Rt.icmpN (pc' := 14) X15 hx (hb hby d1_11) (tlt (by decide : (7 : Int32) < (12 : Int32))).2.1 rfl ?_
                refine Rt.aloadN (pc' := 15) X15 hx (hb hby d1_14) rfl rfl rfl ?_
                refine Rt.iloadN (pc' := 16) X15 hx (hb hby d1_15) rfl rfl ?_
                refine Rt.aaload (pc' := 17) X15 hx hZ rfl F_A_w_ALL (i := 7) (by decide) (by decide) (v := (.ref w_I64)) rfl (hb hby d1_16) rfl ?_
                refine Rt.astore (pc' := 19) (v := (.ref w_I64)) (l' := #[.val (.int p1), .val (.ref w_ALL), .val (.int (12 : Int32)), .val (.int (7 : Int32)), .val (.ref w_I64)]) X15 hx (hb hby d1_17) rfl rfl rfl ?_
                refine Rt.aload (pc' := 21) X15 hx (hb hby d1_19) rfl rfl rfl ?_
                refine Rt.getF (pc' := 24) (v := (.int (8 : Int32))) X15 hx hZ hown (host := "") (Or.inl (hw _ (List.mem_of_getElem? (i := 7) rfl))) F_F_w_I64_code (hb hby d1_21) rfl ?_
                intro T17 X17
                refine Rt.iloadN (pc' := 25) X17 hx (hb hby d1_24) rfl rfl ?_
                by_cases hc25_18 : (8 : Int32) = p1
                · refine Rt.icmpN (pc' := 28) X17 hx (hb hby d1_25) (teq hc25_18).2 rfl ?_
                  refine Rt.aload (pc' := 30) X17 hx (hb hby d1_28) rfl rfl rfl ?_
                  exact Rt.retA X17 hx hlk (t := (.object "com/example/cogwire/cogwire/wire/TaggedType")) rfl hret rfl (hb hby d1_30) (by decide) (by decide) (fun L N => ⟨congrArg some (by rw [f1, if_neg hc25_4, if_neg hc25_6, if_neg hc25_8, if_neg hc25_10, if_neg hc25_12, if_neg hc25_14, if_neg hc25_16, if_pos hc25_18]), N, rfl⟩)
                · refine Rt.icmpY (pc' := 31) X17 hx (hb hby d1_25) (feq hc25_18).2 (by decide) (by decide) ?_
                  refine Rt.iinc (pc' := 34) (r := (8 : Int32)) (l' := #[.val (.int p1), .val (.ref w_ALL), .val (.int (12 : Int32)), .val (.int (8 : Int32)), .val (.ref w_I64)]) X17 hx (hb hby d1_31) rfl (by decide) rfl rfl ?_
                  refine Rt.goto (pc' := 9) X17 hx (hb hby d1_34) (by decide) (by decide) ?_
                  refine Rt.iloadN (pc' := 10) X17 hx (hb hby d1_9) rfl rfl ?_
                  refine Rt.iloadN (pc' := 11) X17 hx (hb hby d1_10) rfl rfl ?_
                  refine Rt.icmpN (pc' := 14) X17 hx (hb hby d1_11) (tlt (by decide : (8 : Int32) < (12 : Int32))).2.1 rfl ?_
                  refine Rt.aloadN (pc' := 15) X17 hx (hb hby d1_14) rfl rfl rfl ?_
                  refine Rt.iloadN (pc' := 16) X17 hx (hb hby d1_15) rfl rfl ?_
                  refine Rt.aaload (pc' := 17) X17 hx hZ rfl F_A_w_ALL (i := 8) (by decide) (by decide) (v := (.ref w_STR)) rfl (hb hby d1_16) rfl ?_
                  refine Rt.astore (pc' := 19) (v := (.ref w_STR)) (l' := #[.val (.int p1), .val (.ref w_ALL), .val (.int (12 : Int32)), .val (.int (8 : Int32)), .val (.ref w_STR)]) X17 hx (hb hby d1_17) rfl rfl rfl ?_
                  refine Rt.aload (pc' := 21) X17 hx (hb hby d1_19) rfl rfl rfl ?_
                  refine Rt.getF (pc' := 24) (v := (.int (9 : Int32))) X17 hx hZ hown (host := "") (Or.inl (hw _ (List.mem_of_getElem? (i := 7) rfl))) F_F_w_STR_code (hb hby d1_21) rfl ?_
                  intro T19 X19
                  refine Rt.iloadN (pc' := 25) X19 hx (hb hby d1_24) rfl rfl ?_
                  by_cases hc25_20 : (9 : Int32) = p1
                  · refine Rt.icmpN (pc' := 28) X19 hx (hb hby d1_25) (teq hc25_20).2 rfl ?_
                    refine Rt.aload (pc' := 30) X19 hx (hb hby d1_28) rfl rfl rfl ?_
                    exact Rt.retA X19 hx hlk (t := (.object "com/example/cogwire/cogwire/wire/TaggedType")) rfl hret rfl (hb hby d1_30) (by decide) (by decide) (fun L N => ⟨congrArg some (by rw [f1, if_neg hc25_4, if_neg hc25_6, if_neg hc25_8, if_neg hc25_10, if_neg hc25_12, if_neg hc25_14, if_neg hc25_16, if_neg hc25_18, if_pos hc25_20]), N, rfl⟩)
                  · refine Rt.icmpY (pc' := 31) X19 hx (hb hby d1_25) (feq hc25_20).2 (by decide) (by decide) ?_
                    refine Rt.iinc (pc' := 34) (r := (9 : Int32)) (l' := #[.val (.int p1), .val (.ref w_ALL), .val (.int (12 : Int32)), .val (.int (9 : Int32)), .val (.ref w_STR)]) X19 hx (hb hby d1_31) rfl (by decide) rfl rfl ?_
                    refine Rt.goto (pc' := 9) X19 hx (hb hby d1_34) (by decide) (by decide) ?_
                    refine Rt.iloadN (pc' := 10) X19 hx (hb hby d1_9) rfl rfl ?_
                    refine Rt.iloadN (pc' := 11) X19 hx (hb hby d1_10) rfl rfl ?_
                    refine Rt.icmpN (pc' := 14) X19 hx (hb hby d1_11) (tlt (by decide : (9 : Int32) < (12 : Int32))).2.1 rfl ?_
                    refine Rt.aloadN (pc' := 15) X19 hx (hb hby d1_14) rfl rfl rfl ?_
                    refine Rt.iloadN (pc' := 16) X19 hx (hb hby d1_15) rfl rfl ?_
                    refine Rt.aaload (pc' := 17) X19 hx hZ rfl F_A_w_ALL (i := 9) (by decide) (by decide) (v := (.ref w_F32)) rfl (hb hby d1_16) rfl ?_
                    refine Rt.astore (pc' := 19) (v := (.ref w_F32)) (l' := #[.val (.int p1), .val (.ref w_ALL), .val (.int (12 : Int32)), .val (.int (9 : Int32)), .val (.ref w_F32)]) X19 hx (hb hby d1_17) rfl rfl rfl ?_
                    refine Rt.aload (pc' := 21) X19 hx (hb hby d1_19) rfl rfl rfl ?_
                    refine Rt.getF (pc' := 24) (v := (.int (10 : Int32))) X19 hx hZ hown (host := "") (Or.inl (hw _ (List.mem_of_getElem? (i := 7) rfl))) F_F_w_F32_code (hb hby d1_21) rfl ?_
                    intro T21 X21
                    refine Rt.iloadN (pc' := 25) X21 hx (hb hby d1_24) rfl rfl ?_
                    by_cases hc25_22 : (10 : Int32) = p1
                    · refine Rt.icmpN (pc' := 28) X21 hx (hb hby d1_25) (teq hc25_22).2 rfl ?_
                      refine Rt.aload (pc' := 30) X21 hx (hb hby d1_28) rfl rfl rfl ?_
                      exact Rt.retA X21 hx hlk (t := (.object "com/example/cogwire/cogwire/wire/TaggedType")) rfl hret rfl (hb hby d1_30) (by decide) (by decide) (fun L N => ⟨congrArg some (by rw [f1, if_neg hc25_4, if_neg hc25_6, if_neg hc25_8, if_neg hc25_10, if_neg hc25_12, if_neg hc25_14, if_neg hc25_16, if_neg hc25_18, if_neg hc25_20, if_pos hc25_22]), N, rfl⟩)
                    · refine Rt.icmpY (pc' := 31) X21 hx (hb hby d1_25) (feq hc25_22).2 (by decide) (by decide) ?_
                      refine Rt.iinc (pc' := 34) (r := (10 : Int32)) (l' := #[.val (.int p1), .val (.ref w_ALL), .val (.int (12 : Int32)), .val (.int (10 : Int32)), .val (.ref w_F32)]) X21 hx (hb hby d1_31) rfl (by decide) rfl rfl ?_
                      refine Rt.goto (pc' := 9) X21 hx (hb hby d1_34) (by decide) (by decide) ?_
                      refine Rt.iloadN (pc' := 10) X21 hx (hb hby d1_9) rfl rfl ?_
                      refine Rt.iloadN (pc' := 11) X21 hx (hb hby d1_10) rfl rfl ?_
                      refine Rt.icmpN (pc' := 14) X21 hx (hb hby d1_11) (tlt (by decide : (10 : Int32) < (12 : Int32))).2.1 rfl ?_
                      refine Rt.aloadN (pc' := 15) X21 hx (hb hby d1_14) rfl rfl rfl ?_
                      refine Rt.iloadN (pc' := 16) X21 hx (hb hby d1_15) rfl rfl ?_
                      refine Rt.aaload (pc' := 17) X21 hx hZ rfl F_A_w_ALL (i := 10) (by decide) (by decide) (v := (.ref w_F64)) rfl (hb hby d1_16) rfl ?_
                      refine Rt.astore (pc' := 19) (v := (.ref w_F64)) (l' := #[.val (.int p1), .val (.ref w_ALL), .val (.int (12 : Int32)), .val (.int (10 : Int32)), .val (.ref w_F64)]) X21 hx (hb hby d1_17) rfl rfl rfl ?_
                      refine Rt.aload (pc' := 21) X21 hx (hb hby d1_19) rfl rfl rfl ?_
                      refine Rt.getF (pc' := 24) (v := (.int (11 : Int32))) X21 hx hZ hown (host := "") (Or.inl (hw _ (List.mem_of_getElem? (i := 7) rfl))) F_F_w_F64_code (hb hby d1_21) rfl ?_
                      intro T23 X23
                      refine Rt.iloadN (pc' := 25) X23 hx (hb hby d1_24) rfl rfl ?_
                      by_cases hc25_24 : (11 : Int32) = p1
                      · refine Rt.icmpN (pc' := 28) X23 hx (hb hby d1_25) (teq hc25_24).2 rfl ?_
                        refine Rt.aload (pc' := 30) X23 hx (hb hby d1_28) rfl rfl rfl ?_
                        exact Rt.retA X23 hx hlk (t := (.object "com/example/cogwire/cogwire/wire/TaggedType")) rfl hret rfl (hb hby d1_30) (by decide) (by decide) (fun L N => ⟨congrArg some (by rw [f1, if_neg hc25_4, if_neg hc25_6, if_neg hc25_8, if_neg hc25_10, if_neg hc25_12, if_neg hc25_14, if_neg hc25_16, if_neg hc25_18, if_neg hc25_20, if_neg hc25_22, if_pos hc25_24]), N, rfl⟩)
                      · refine Rt.icmpY (pc' := 31) X23 hx (hb hby d1_25) (feq hc25_24).2 (by decide) (by decide) ?_
                        refine Rt.iinc (pc' := 34) (r := (11 : Int32)) (l' := #[.val (.int p1), .val (.ref w_ALL), .val (.int (12 : Int32)), .val (.int (11 : Int32)), .val (.ref w_F64)]) X23 hx (hb hby d1_31) rfl (by decide) rfl rfl ?_
                        refine Rt.goto (pc' := 9) X23 hx (hb hby d1_34) (by decide) (by decide) ?_
                        refine Rt.iloadN (pc' := 10) X23 hx (hb hby d1_9) rfl rfl ?_
                        refine Rt.iloadN (pc' := 11) X23 hx (hb hby d1_10) rfl rfl ?_
                        refine Rt.icmpN (pc' := 14) X23 hx (hb hby d1_11) (tlt (by decide : (11 : Int32) < (12 : Int32))).2.1 rfl ?_
                        refine Rt.aloadN (pc' := 15) X23 hx (hb hby d1_14) rfl rfl rfl ?_
                        refine Rt.iloadN (pc' := 16) X23 hx (hb hby d1_15) rfl rfl ?_
                        refine Rt.aaload (pc' := 17) X23 hx hZ rfl F_A_w_ALL (i := 11) (by decide) (by decide) (v := (.ref w_RAW)) rfl (hb hby d1_16) rfl ?_
                        refine Rt.astore (pc' := 19) (v := (.ref w_RAW)) (l' := #[.val (.int p1), .val (.ref w_ALL), .val (.int (12 : Int32)), .val (.int (11 : Int32)), .val (.ref w_RAW)]) X23 hx (hb hby d1_17) rfl rfl rfl ?_
                        refine Rt.aload (pc' := 21) X23 hx (hb hby d1_19) rfl rfl rfl ?_
                        refine Rt.getF (pc' := 24) (v := (.int (16 : Int32))) X23 hx hZ hown (host := "") (Or.inl (hw _ (List.mem_of_getElem? (i := 7) rfl))) F_F_w_RAW_code (hb hby d1_21) rfl ?_
                        intro T25 X25
                        refine Rt.iloadN (pc' := 25) X25 hx (hb hby d1_24) rfl rfl ?_
                        by_cases hc25_26 : (16 : Int32) = p1
                        · refine Rt.icmpN (pc' := 28) X25 hx (hb hby d1_25) (teq hc25_26).2 rfl ?_
                          refine Rt.aload (pc' := 30) X25 hx (hb hby d1_28) rfl rfl rfl ?_
                          exact Rt.retA X25 hx hlk (t := (.object "com/example/cogwire/cogwire/wire/TaggedType")) rfl hret rfl (hb hby d1_30) (by decide) (by decide) (fun L N => ⟨congrArg some (by rw [f1, if_neg hc25_4, if_neg hc25_6, if_neg hc25_8, if_neg hc25_10, if_neg hc25_12, if_neg hc25_14, if_neg hc25_16, if_neg hc25_18, if_neg hc25_20, if_neg hc25_22, if_neg hc25_24, if_pos hc25_26]), N, rfl⟩)
                        · refine Rt.icmpY (pc' := 31) X25 hx (hb hby d1_25) (feq hc25_26).2 (by decide) (by decide) ?_
                          refine Rt.iinc (pc' := 34) (r := (12 : Int32)) (l' := #[.val (.int p1), .val (.ref w_ALL), .val (.int (12 : Int32)), .val (.int (12 : Int32)), .val (.ref w_RAW)]) X25 hx (hb hby d1_31) rfl (by decide) rfl rfl ?_
                          refine Rt.goto (pc' := 9) X25 hx (hb hby d1_34) (by decide) (by decide) ?_
                          refine Rt.iloadN (pc' := 10) X25 hx (hb hby d1_9) rfl rfl ?_
                          refine Rt.iloadN (pc' := 11) X25 hx (hb hby d1_10) rfl rfl ?_
                          refine Rt.icmpY (pc' := 37) X25 hx (hb hby d1_11) (flt (by decide : ¬ ((12 : Int32) < (12 : Int32)))).2.1 (by decide) (by decide) ?_
                          refine Rt.aconstNull (pc' := 38) X25 hx (hb hby d1_37) rfl ?_
                          exact Rt.retA X25 hx hlk (t := (.object "com/example/cogwire/cogwire/wire/TaggedType")) rfl hret rfl (hb hby d1_38) (by decide) (by decide) (fun L N => ⟨congrArg some (by rw [f1, if_neg hc25_4, if_neg hc25_6, if_neg hc25_8, if_neg hc25_10, if_neg hc25_12, if_neg hc25_14, if_neg hc25_16, if_neg hc25_18, if_neg hc25_20, if_neg hc25_22, if_neg hc25_24, if_neg hc25_26]), N, rfl⟩)
theorem own_r1 (p : Int32) (w_U8 : Addr) (w_I8 : Addr) (w_U16 : Addr) (w_I16 : Addr) (w_U32 : Addr) (w_I32 : Addr) (w_U64 : Addr) (w_I64 : Addr) (w_STR : Addr) (w_F32 : Addr) (w_F64 : Addr) (w_RAW : Addr) : (f1 p w_U8 w_I8 w_U16 w_I16 w_U32 w_I32 w_U64 w_I64 w_STR w_F32 w_F64 w_RAW).isRef = true := by
  unfold f1
  repeat' (refine own_ite rfl ?_)
  rfl
theorem d2_0 : decode method_2_code 0 = .ok (.iload_n 0, 1) := by decide +kernel
theorem d2_1 : decode method_2_code 1 = .ok (.iconst 1, 1) := by decide +kernel
theorem d2_2 : decode method_2_code 2 = .ok (.if_icmp .ne 7, 3) := by decide +kernel
theorem d2_5 : decode method_2_code 5 = .ok (.getstatic 7, 3) := by decide +kernel
theorem d2_8 : decode method_2_code 8 = .ok (.areturn, 1) := by decide +kernel
theorem d2_9 : decode method_2_code 9 = .ok (.iload_n 0, 1) := by decide +kernel
theorem d2_10 : decode method_2_code 10 = .ok (.iconst 2, 1) := by decide +kernel
theorem d2_11 : decode method_2_code 11 = .ok (.if_icmp .ne 7, 3) := by decide +kernel
theorem d2_14 : decode method_2_code 14 = .ok (.getstatic 13, 3) := by decide +kernel
theorem d2_17 : decode method_2_code 17 = .ok (.areturn, 1) := by decide +kernel
theorem d2_18 : decode method_2_code 18 = .ok (.iload_n 0, 1) := by decide +kernel
theorem d2_19 : decode method_2_code 19 = .ok (.iconst 3, 1) := by decide +kernel
theorem d2_20 : decode method_2_code 20 = .ok (.if_icmp .ne 7, 3) := by decide +kernel
theorem d2_23 : decode method_2_code 23 = .ok (.getstatic 16, 3) := by decide +kernel
theorem d2_26 : decode method_2_code 26 = .ok (.areturn, 1) := by decide +kernel
theorem d2_27 : decode method_2_code 27 = .ok (.iload_n 0, 1) := by decide +kernel
theorem d2_28 : decode method_2_code 28 = .ok (.iconst 4, 1) := by decide +kernel
theorem d2_29 : decode method_2_code 29 = .ok (.if_icmp .ne 7, 3) := by decide +kernel
theorem d2_32 : decode method_2_code 32 = .ok (.getstatic 19, 3) := by decide +kernel
theorem d2_35 : decode method_2_code 35 = .ok (.areturn, 1) := by decide +kernel
theorem d2_36 : decode method_2_code 36 = .ok (.iload_n 0, 1) := by decide +kernel
theorem d2_37 : decode method_2_code 37 = .ok (.iconst 5, 1) := by decide +kernel
theorem d2_38 : decode method_2_code 38 = .ok (.if_icmp .ne 7, 3) := by decide +kernel
theorem d2_41 : decode method_2_code 41 = .ok (.getstatic 22, 3) := by decide +kernel
theorem d2_44 : decode method_2_code 44 = .ok (.areturn, 1) := by decide +kernel
theorem d2_45 : decode method_2_code 45 = .ok (.iload_n 0, 1) := by decide +kernel
theorem d2_46 : decode method_2_code 46 = .ok (.bipush 6, 2) := by decide +kernel
theorem d2_48 : decode method_2_code 48 = .ok (.if_icmp .ne 7, 3) := by decide +kernel
theorem d2_51 : decode method_2_code 51 = .ok (.getstatic 25, 3) := by decide +kernel
theorem d2_54 : decode method_2_code 54 = .ok (.areturn, 1) := by decide +kernel
theorem d2_55 : decode method_2_code 55 = .ok (.iload_n 0, 1) := by decide +kernel
theorem d2_56 : decode method_2_code 56 = .ok (.bipush 7, 2) := by decide +kernel
theorem d2_58 : decode method_2_code 58 = .ok (.if_icmp .ne 7, 3) := by decide +kernel
theorem d2_61 : decode method_2_code 61 = .ok (.getstatic 28, 3) := by decide +kernel
theorem d2_64 : decode method_2_code 64 = .ok (.areturn, 1) := by decide +kernel
theorem d2_65 : decode method_2_code 65 = .ok (.iload_n 0, 1) := by decide +kernel
theorem d2_66 : decode method_2_code 66 = .ok (.bipush 8, 2) := by decide +kernel
theorem d2_68 : decode method_2_code 68 = .ok (.if_icmp .ne 7, 3) := by decide +kernel
theorem d2_71 : decode method_2_code 71 = .ok (.getstatic 31, 3) := by decide +kernel
theorem d2_74 : decode method_2_code 74 = .ok (.areturn, 1) := by decide +kernel
theorem d2_75 : decode method_2_code 75 = .ok (.iload_n 0, 1) := by decide +kernel
theorem d2_76 : decode method_2_code 76 = .ok (.bipush 9, 2) := by decide +kernel
theorem d2_78 : decode method_2_code 78 = .ok (.if_icmp .ne 7, 3) := by decide +kernel
theorem d2_81 : decode method_2_code 81 = .ok (.getstatic 34, 3) := by decide +kernel
theorem d2_84 : decode method_2_code 84 = .ok (.areturn, 1) := by decide +kernel
theorem d2_85 : decode method_2_code 85 = .ok (.iload_n 0, 1) := by decide +kernel
theorem d2_86 : decode method_2_code 86 = .ok (.bipush 10, 2) := by decide +kernel
theorem d2_88 : decode method_2_code 88 = .ok (.if_icmp .ne 7, 3) := by decide +kernel
theorem d2_91 : decode method_2_code 91 = .ok (.getstatic 37, 3) := by decide +kernel
theorem d2_94 : decode method_2_code 94 = .ok (.areturn, 1) := by decide +kernel
theorem d2_95 : decode method_2_code 95 = .ok (.iload_n 0, 1) := by decide +kernel
theorem d2_96 : decode method_2_code 96 = .ok (.bipush 11, 2) := by decide +kernel
theorem d2_98 : decode method_2_code 98 = .ok (.if_icmp .ne 7, 3) := by decide +kernel
theorem d2_101 : decode method_2_code 101 = .ok (.getstatic 40, 3) := by decide +kernel
theorem d2_104 : decode method_2_code 104 = .ok (.areturn, 1) := by decide +kernel
theorem d2_105 : decode method_2_code 105 = .ok (.iload_n 0, 1) := by decide +kernel
theorem d2_106 : decode method_2_code 106 = .ok (.bipush 16, 2) := by decide +kernel
theorem d2_108 : decode method_2_code 108 = .ok (.if_icmp .ne 7, 3) := by decide +kernel
theorem d2_111 : decode method_2_code 111 = .ok (.getstatic 43, 3) := by decide +kernel
theorem d2_114 : decode method_2_code 114 = .ok (.areturn, 1) := by decide +kernel
theorem d2_115 : decode method_2_code 115 = .ok (.aconst_null, 1) := by decide +kernel
theorem d2_116 : decode method_2_code 116 = .ok (.areturn, 1) := by decide +kernel
def f2 (p1 : Int32) (w_U8 : Addr) (w_I8 : Addr) (w_U16 : Addr) (w_I16 : Addr) (w_U32 : Addr) (w_I32 : Addr) (w_U64 : Addr) (w_I64 : Addr) (w_STR : Addr) (w_F32 : Addr) (w_F64 : Addr) (w_RAW : Addr) : Value := (if p1 = (1 : Int32) then (Value.ref w_U8) else (if p1 = (2 : Int32) then (Value.ref w_I8) else (if p1 = (3 : Int32) then (Value.ref w_U16) else (if p1 = (4 : Int32) then (Value.ref w_I16) else (if p1 = (5 : Int32) then (Value.ref w_U32) else (if p1 = (6 : Int32) then (Value.ref w_I32) else (if p1 = (7 : Int32) then (Value.ref w_U64) else (if p1 = (8 : Int32) then (Value.ref w_I64) else (if p1 = (9 : Int32) then (Value.ref w_STR) else (if p1 = (10 : Int32) then (Value.ref w_F32) else (if p1 = (11 : Int32) then (Value.ref w_F64) else (if p1 = (16 : Int32) then (Value.ref w_RAW) else Value.null))))))))))))
def Q2 (p1 : Int32) (w_U8 : Addr) (w_I8 : Addr) (w_U16 : Addr) (w_I16 : Addr) (w_U32 : Addr) (w_I32 : Addr) (w_U64 : Addr) (w_I64 : Addr) (w_STR : Addr) (w_F32 : Addr) (w_F64 : Addr) (w_RAW : Addr) (h0 : Heap) (n0 : Nat) (v : Option Value) (h : Heap) (L : List Loc) : Prop := v = some (f2 p1 w_U8 w_I8 w_U16 w_I16 w_U32 w_I32 w_U64 w_I64 w_STR w_F32 w_F64 w_RAW) ∧ Fr n0 L ∧ h = h0
def rmR2 : Room := { frames := 0, cells := 0, slots := 0, locals := 0 }
theorem ef_2 (m : MethodId) (p1 : Int32) : entryFrame m #[(.int p1)] 1 = mkF m 0 #[.val (.int p1)] [] := by first | (simp [entryFrame, mkF, argsToLocals, Value.category]; done) | rfl
theorem pn_com_example_cogwire_cogwire_wire_TaggedTypeOfPinLaw : plainName "com/example/cogwire/cogwire/wire/TaggedTypeOfPinLaw" = true := by first | (simp [plainName, overriddenIn]; done) | decide +kernel
set_option maxRecDepth 65536 in
set_option maxHeartbeats 40000000 in
theorem rm2 (l : Launch) (Z : State) (a0 : Array Value) (hw : ∀ d ∈ tables_1, d.before a0 Z = true) (ws : List Jvm.Cond) (p1 : Int32) (w_U8 : Addr) (w_I8 : Addr) (w_U16 : Addr) (w_I16 : Addr) (w_U32 : Addr) (w_I32 : Addr) (w_U64 : Addr) (w_I64 : Addr) (w_STR : Addr) (w_F32 : Addr) (w_F64 : Addr) (w_RAW : Addr) (h0 : Heap) (n0 : Nat) (F_S_com_example_cogwire_cogwire_wire_TaggedType_U8 : Sta Z h0 nm1 "U8" nm3 (.ref w_U8)) (F_S_com_example_cogwire_cogwire_wire_TaggedType_I8 : Sta Z h0 nm1 "I8" nm3 (.ref w_I8)) (F_S_com_example_cogwire_cogwire_wire_TaggedType_U16 : Sta Z h0 nm1 "U16" nm3 (.ref w_U16)) (F_S_com_example_cogwire_cogwire_wire_TaggedType_I16 : Sta Z h0 nm1 "I16" nm3 (.ref w_I16)) (F_S_com_example_cogwire_cogwire_wire_TaggedType_U32 : Sta Z h0 nm1 "U32" nm3 (.ref w_U32)) (F_S_com_example_cogwire_cogwire_wire_TaggedType_I32 : Sta Z h0 nm1 "I32" nm3 (.ref w_I32)) (F_S_com_example_cogwire_cogwire_wire_TaggedType_U64 : Sta Z h0 nm1 "U64" nm3 (.ref w_U64)) (F_S_com_example_cogwire_cogwire_wire_TaggedType_I64 : Sta Z h0 nm1 "I64" nm3 (.ref w_I64)) (F_S_com_example_cogwire_cogwire_wire_TaggedType_STR : Sta Z h0 nm1 "STR" nm3 (.ref w_STR)) (F_S_com_example_cogwire_cogwire_wire_TaggedType_F32 : Sta Z h0 nm1 "F32" nm3 (.ref w_F32)) (F_S_com_example_cogwire_cogwire_wire_TaggedType_F64 : Sta Z h0 nm1 "F64" nm3 (.ref w_F64)) (F_S_com_example_cogwire_cogwire_wire_TaggedType_RAW : Sta Z h0 nm1 "RAW" nm3 (.ref w_RAW)) :
    Mt l Z mt2 (Jvm.Cond.code mt2 method_2_code 1 (some (.object "com/example/cogwire/cogwire/wire/TaggedType")) :: ws) rmR2 #[(.int p1)] h0 (Q2 p1 w_U8 w_I8 w_U16 w_I16 w_U32 w_I32 w_U64 w_I64 w_STR w_F32 w_F64 w_RAW h0 n0) := by
  refine Mt.of n0 (plainFor_of_name pn_com_example_cogwire_cogwire_wire_TaggedTypeOfPinLaw) ?_
  intro p e s m below meth c T0 X0 hx hZ hby hml hown hret hlk hnm hs0
  have hown : s.vm.findClass "com/example/cogwire/cogwire/wire/TaggedTypeOfPinLaw" = some m.cls := hown
  rw [ef_2]
  show Rt p e below s rmR2.cells rmR2.slots (Q2 p1 w_U8 w_I8 w_U16 w_I16 w_U32 w_I32 w_U64 w_I64 w_STR w_F32 w_F64 w_RAW h0 n0) (T0.setTop (mkF m 0 #[.val (.int p1)] []))
  refine Rt.iloadN (pc' := 1) X0 hx (hb hby d2_0) rfl rfl ?_
  refine Rt.iconst (pc' := 2) (v := (1 : Int32)) X0 hx (hb hby d2_1) rfl rfl ?_
  by_cases hc2_1 : p1 = (1 : Int32)
  · refine Rt.icmpN (pc' := 5) X0 hx (hb hby d2_2) (teq hc2_1).2 rfl ?_
    refine Rt.getS (pc' := 8) (v := (.ref w_U8)) X0 hx hZ hown (host := "") (Or.inl (hw _ (List.mem_of_getElem? (i := 27) rfl))) F_S_com_example_cogwire_cogwire_wire_TaggedType_U8 (hb hby d2_5) rfl ?_
    intro T3 X3
    exact Rt.retA X3 hx hlk (t := (.object "com/example/cogwire/cogwire/wire/TaggedType")) rfl hret rfl (hb hby d2_8) (by decide) (by decide) (fun L N => ⟨congrArg some (by rw [f2, if_pos hc2_1]), N, rfl⟩)
  · refine Rt.icmpY (pc' := 9) X0 hx (hb hby d2_2) (feq hc2_1).2 (by decide) (by decide) ?_
    refine Rt.iloadN (pc' := 10) X0 hx (hb hby d2_9) rfl rfl ?_
    refine Rt.iconst (pc' := 11) (v := (2 : Int32)) X0 hx (hb hby d2_10) rfl rfl ?_
    by_cases hc11_4 : p1 = (2 : Int32)
    · refine Rt.icmpN (pc' := 14) X0 hx (hb hby d2_11) (teq hc11_4).2 rfl ?_
      refine Rt.getS (pc' := 17) (v := (.ref w_I8)) X0 hx hZ hown (host := "") (Or.inl (hw _ (List.mem_of_getElem? (i := 28) rfl))) F_S_com_example_cogwire_cogwire_wire_TaggedType_I8 (hb hby d2_14) rfl ?_
      intro T6 X6
      exact Rt.retA X6 hx hlk (t := (.object "com/example/cogwire/cogwire/wire/TaggedType")) rfl hret rfl (hb hby d2_17) (by decide) (by decide) (fun L N => ⟨congrArg some (by rw [f2, if_neg hc2_1, if_pos hc11_4]), N, rfl⟩)
    · refine Rt.icmpY (pc' := 18) X0 hx (hb hby d2_11) (feq hc11_4).2 (by decide) (by decide) ?_
      refine Rt.iloadN (pc' := 19) X0 hx (hb hby d2_18) rfl rfl ?_
      refine Rt.iconst (pc' := 20) (v := (3 : Int32)) X0 hx (hb hby d2_19) rfl rfl ?_
      by_cases hc20_7 : p1 = (3 : Int32)
      · refine Rt.icmpN (pc' := 23) X0 hx (hb hby d2_20) (teq hc20_7).2 rfl ?_
        refine Rt.getS (pc' := 26) (v := (.ref w_U16)) X0 hx hZ hown (host := "") (Or.inl (hw _ (List.mem_of_getElem? (i := 26) rfl))) F_S_com_example_cogwire_cogwire_wire_TaggedType_U16 (hb hby d2_23) rfl ?_
        intro T9 X9
        exact Rt.retA X9 hx hlk (t := (.object "com/example/cogwire/cogwire/wire/TaggedType")) rfl hret rfl (hb hby d2_26) (by decide) (by decide) (fun L N => ⟨congrArg some (by rw [f2, if_neg hc2_1, if_neg hc11_4, if_pos hc20_7]), N, rfl⟩)
      · refine Rt.icmpY (pc' := 27) X0 hx (hb hby d2_20) (feq hc20_7).2 (by decide) (by decide) ?_
        refine Rt.iloadN (pc' := 28) X0 hx (hb hby d2_27) rfl rfl ?_
        refine Rt.iconst (pc' := 29) (v := (4 : Int32)) X0 hx (hb hby d2_28) rfl rfl ?_
        by_cases hc29_10 : p1 = (4 : Int32)
        · refine Rt.icmpN (pc' := 32) X0 hx (hb hby d2_29) (teq hc29_10).2 rfl ?_
          refine Rt.getS (pc' := 35) (v := (.ref w_I16)) X0 hx hZ hown (host := "") (Or.inl (hw _ (List.mem_of_getElem? (i := 33) rfl))) F_S_com_example_cogwire_cogwire_wire_TaggedType_I16 (hb hby d2_32) rfl ?_
          intro T12 X12
          exact Rt.retA X12 hx hlk (t := (.object "com/example/cogwire/cogwire/wire/TaggedType")) rfl hret rfl (hb hby d2_35) (by decide) (by decide) (fun L N => ⟨congrArg some (by rw [f2, if_neg hc2_1, if_neg hc11_4, if_neg hc20_7, if_pos hc29_10]), N, rfl⟩)
        · refine Rt.icmpY (pc' := 36) X0 hx (hb hby d2_29) (feq hc29_10).2 (by decide) (by decide) ?_
          refine Rt.iloadN (pc' := 37) X0 hx (hb hby d2_36) rfl rfl ?_
          refine Rt.iconst (pc' := 38) (v := (5 : Int32)) X0 hx (hb hby d2_37) rfl rfl ?_
          by_cases hc38_13 : p1 = (5 : Int32)
          · refine Rt.icmpN (pc' := 41) X0 hx (hb hby d2_38) (teq hc38_13).2 rfl ?_
            refine Rt.getS (pc' := 44) (v := (.ref w_U32)) X0 hx hZ hown (host := "") (Or.inl (hw _ (List.mem_of_getElem? (i := 31) rfl))) F_S_com_example_cogwire_cogwire_wire_TaggedType_U32 (hb hby d2_41) rfl ?_
            intro T15 X15
            exact Rt.retA X15 hx hlk (t := (.object "com/example/cogwire/cogwire/wire/TaggedType")) rfl hret rfl (hb hby d2_44) (by decide) (by decide) (fun L N => ⟨congrArg some (by rw [f2, if_neg hc2_1, if_neg hc11_4, if_neg hc20_7, if_neg hc29_10, if_pos hc38_13]), N, rfl⟩)
          · refine Rt.icmpY (pc' := 45) X0 hx (hb hby d2_38) (feq hc38_13).2 (by decide) (by decide) ?_
            refine Rt.iloadN (pc' := 46) X0 hx (hb hby d2_45) rfl rfl ?_
            refine Rt.bipush (pc' := 48) (v := (6 : Int32)) X0 hx (hb hby d2_46) rfl rfl ?_
            by_cases hc48_16 : p1 = (6 : Int32)
            · refine Rt.icmpN (pc' := 51) X0 hx (hb hby d2_48) (teq hc48_16).2 rfl ?_
              refine Rt.getS (pc' := 54) (v := (.ref w_I32)) X0 hx hZ hown (host := "") (Or.inl (hw _ (List.mem_of_getElem? (i := 24) rfl))) F_S_com_example_cogwire_cogwire_wire_TaggedType_I32 (hb hby d2_51) rfl ?_
              intro T18 X18
              exact Rt.retA X18 hx hlk (t := (.object "com/example/cogwire/cogwire/wire/TaggedType")) rfl hret rfl (hb hby d2_54) (by decide) (by decide) (fun L N => ⟨congrArg some (by rw [f2, if_neg hc2_1, if_neg hc11_4, if_neg hc20_7, if_neg hc29_10, if_neg hc38_13, if_pos hc48_16]), N, rfl⟩)
            · refine Rt.icmpY (pc' := 55) X0 hx (hb hby d2_48) (feq hc48_16).2 (by decide) (by decide) ?_
              refine Rt.iloadN (pc' := 56) X0 hx (hb hby d2_55) rfl rfl ?_
              refine Rt.bipush (pc' := 58) (v := (7 : Int32)) X0 hx (hb hby d2_56) rfl rfl ?_
              by_cases hc58_19 : p1 = (7 : Int32)
              · refine Rt.icmpN (pc' := 61) X0 hx (hb hby d2_58) (teq hc58_19).2 rfl ?_
                refine Rt.getS (pc' := 64) (v := (.ref w_U64)) X0 hx hZ hown (host := "") (Or.inl (hw _ (List.mem_of_getElem? (i := 34) rfl))) F_S_com_example_cogwire_cogwire_wire_TaggedType_U64 (hb hby d2_61) rfl ?_
                intro T21 X21
                exact Rt.retA X21 hx hlk (t := (.object "com/example/cogwire/cogwire/wire/TaggedType")) rfl hret rfl (hb hby d2_64) (by decide) (by decide) (fun L N => ⟨congrArg some (by rw [f2, if_neg hc2_1, if_neg hc11_4, if_neg hc20_7, if_neg hc29_10, if_neg hc38_13, if_neg hc48_16, if_pos hc58_19]), N, rfl⟩)
              · refine Rt.icmpY (pc' := 65) X0 hx (hb hby d2_58) (feq hc58_19).2 (by decide) (by decide) ?_
                refine Rt.iloadN (pc' := 66) X0 hx (hb hby d2_65) rfl rfl ?_
                refine Rt.bipush (pc' := 68) (v := (8 : Int32)) X0 hx (hb hby d2_66) rfl rfl ?_
                by_cases hc68_22 : p1 = (8 : Int32)
                · refine Rt.icmpN (pc' := 71) X0 hx (hb hby d2_68) (teq hc68_22).2 rfl ?_
                  refine Rt.getS (pc' := 74) (v := (.ref w_I64)) X0 hx hZ hown (host := "") (Or.inl (hw _ (List.mem_of_getElem? (i := 25) rfl))) F_S_com_example_cogwire_cogwire_wire_TaggedType_I64 (hb hby d2_71) rfl ?_
                  intro T24 X24
                  exact Rt.retA X24 hx hlk (t := (.object "com/example/cogwire/cogwire/wire/TaggedType")) rfl hret rfl (hb hby d2_74) (by decide) (by decide) (fun L N => ⟨congrArg some (by rw [f2, if_neg hc2_1, if_neg hc11_4, if_neg hc20_7, if_neg hc29_10, if_neg hc38_13, if_neg hc48_16, if_neg hc58_19, if_pos hc68_22]), N, rfl⟩)
                · refine Rt.icmpY (pc' := 75) X0 hx (hb hby d2_68) (feq hc68_22).2 (by decide) (by decide) ?_
                  refine Rt.iloadN (pc' := 76) X0 hx (hb hby d2_75) rfl rfl ?_
                  refine Rt.bipush (pc' := 78) (v := (9 : Int32)) X0 hx (hb hby d2_76) rfl rfl ?_
                  by_cases hc78_25 : p1 = (9 : Int32)
                  · refine Rt.icmpN (pc' := 81) X0 hx (hb hby d2_78) (teq hc78_25).2 rfl ?_
                    refine Rt.getS (pc' := 84) (v := (.ref w_STR)) X0 hx hZ hown (host := "") (Or.inl (hw _ (List.mem_of_getElem? (i := 32) rfl))) F_S_com_example_cogwire_cogwire_wire_TaggedType_STR (hb hby d2_81) rfl ?_
                    intro T27 X27
                    exact Rt.retA X27 hx hlk (t := (.object "com/example/cogwire/cogwire/wire/TaggedType")) rfl hret rfl (hb hby d2_84) (by decide) (by decide) (fun L N => ⟨congrArg some (by rw [f2, if_neg hc2_1, if_neg hc11_4, if_neg hc20_7, if_neg hc29_10, if_neg hc38_13, if_neg hc48_16, if_neg hc58_19, if_neg hc68_22, if_pos hc78_25]), N, rfl⟩)
                  · refine Rt.icmpY (pc' := 85) X0 hx (hb hby d2_78) (feq hc78_25).2 (by decide) (by decide) ?_
                    refine Rt.iloadN (pc' := 86) X0 hx (hb hby d2_85) rfl rfl ?_
                    refine Rt.bipush (pc' := 88) (v := (10 : Int32)) X0 hx (hb hby d2_86) rfl rfl ?_
                    by_cases hc88_28 : p1 = (10 : Int32)
                    · refine Rt.icmpN (pc' := 91) X0 hx (hb hby d2_88) (teq hc88_28).2 rfl ?_
                      refine Rt.getS (pc' := 94) (v := (.ref w_F32)) X0 hx hZ hown (host := "") (Or.inl (hw _ (List.mem_of_getElem? (i := 29) rfl))) F_S_com_example_cogwire_cogwire_wire_TaggedType_F32 (hb hby d2_91) rfl ?_
                      intro T30 X30
                      exact Rt.retA X30 hx hlk (t := (.object "com/example/cogwire/cogwire/wire/TaggedType")) rfl hret rfl (hb hby d2_94) (by decide) (by decide) (fun L N => ⟨congrArg some (by rw [f2, if_neg hc2_1, if_neg hc11_4, if_neg hc20_7, if_neg hc29_10, if_neg hc38_13, if_neg hc48_16, if_neg hc58_19, if_neg hc68_22, if_neg hc78_25, if_pos hc88_28]), N, rfl⟩)
                    · refine Rt.icmpY (pc' := 95) X0 hx (hb hby d2_88) (feq hc88_28).2 (by decide) (by decide) ?_
                      refine Rt.iloadN (pc' := 96) X0 hx (hb hby d2_95) rfl rfl ?_
                      refine Rt.bipush (pc' := 98) (v := (11 : Int32)) X0 hx (hb hby d2_96) rfl rfl ?_
                      by_cases hc98_31 : p1 = (11 : Int32)
                      · refine Rt.icmpN (pc' := 101) X0 hx (hb hby d2_98) (teq hc98_31).2 rfl ?_
                        refine Rt.getS (pc' := 104) (v := (.ref w_F64)) X0 hx hZ hown (host := "") (Or.inl (hw _ (List.mem_of_getElem? (i := 30) rfl))) F_S_com_example_cogwire_cogwire_wire_TaggedType_F64 (hb hby d2_101) rfl ?_
                        intro T33 X33
                        exact Rt.retA X33 hx hlk (t := (.object "com/example/cogwire/cogwire/wire/TaggedType")) rfl hret rfl (hb hby d2_104) (by decide) (by decide) (fun L N => ⟨congrArg some (by rw [f2, if_neg hc2_1, if_neg hc11_4, if_neg hc20_7, if_neg hc29_10, if_neg hc38_13, if_neg hc48_16, if_neg hc58_19, if_neg hc68_22, if_neg hc78_25, if_neg hc88_28, if_pos hc98_31]), N, rfl⟩)
                      · refine Rt.icmpY (pc' := 105) X0 hx (hb hby d2_98) (feq hc98_31).2 (by decide) (by decide) ?_
                        refine Rt.iloadN (pc' := 106) X0 hx (hb hby d2_105) rfl rfl ?_
                        refine Rt.bipush (pc' := 108) (v := (16 : Int32)) X0 hx (hb hby d2_106) rfl rfl ?_
                        by_cases hc108_34 : p1 = (16 : Int32)
                        · refine Rt.icmpN (pc' := 111) X0 hx (hb hby d2_108) (teq hc108_34).2 rfl ?_
                          refine Rt.getS (pc' := 114) (v := (.ref w_RAW)) X0 hx hZ hown (host := "") (Or.inl (hw _ (List.mem_of_getElem? (i := 35) rfl))) F_S_com_example_cogwire_cogwire_wire_TaggedType_RAW (hb hby d2_111) rfl ?_
                          intro T36 X36
                          exact Rt.retA X36 hx hlk (t := (.object "com/example/cogwire/cogwire/wire/TaggedType")) rfl hret rfl (hb hby d2_114) (by decide) (by decide) (fun L N => ⟨congrArg some (by rw [f2, if_neg hc2_1, if_neg hc11_4, if_neg hc20_7, if_neg hc29_10, if_neg hc38_13, if_neg hc48_16, if_neg hc58_19, if_neg hc68_22, if_neg hc78_25, if_neg hc88_28, if_neg hc98_31, if_pos hc108_34]), N, rfl⟩)
                        · refine Rt.icmpY (pc' := 115) X0 hx (hb hby d2_108) (feq hc108_34).2 (by decide) (by decide) ?_
                          refine Rt.aconstNull (pc' := 116) X0 hx (hb hby d2_115) rfl ?_
                          exact Rt.retA X0 hx hlk (t := (.object "com/example/cogwire/cogwire/wire/TaggedType")) rfl hret rfl (hb hby d2_116) (by decide) (by decide) (fun L N => ⟨congrArg some (by rw [f2, if_neg hc2_1, if_neg hc11_4, if_neg hc20_7, if_neg hc29_10, if_neg hc38_13, if_neg hc48_16, if_neg hc58_19, if_neg hc68_22, if_neg hc78_25, if_neg hc88_28, if_neg hc98_31, if_neg hc108_34]), N, rfl⟩)
theorem own_r2 (p : Int32) (w_U8 : Addr) (w_I8 : Addr) (w_U16 : Addr) (w_I16 : Addr) (w_U32 : Addr) (w_I32 : Addr) (w_U64 : Addr) (w_I64 : Addr) (w_STR : Addr) (w_F32 : Addr) (w_F64 : Addr) (w_RAW : Addr) : (f2 p w_U8 w_I8 w_U16 w_I16 w_U32 w_I32 w_U64 w_I64 w_STR w_F32 w_F64 w_RAW).isRef = true := by
  unfold f2
  repeat' (refine own_ite rfl ?_)
  rfl
theorem pd_0 : parseMethodDescriptor "(I)Lcom/example/cogwire/cogwire/wire/TaggedType;" = some ⟨[.int], some (.object "com/example/cogwire/cogwire/wire/TaggedType")⟩ := by decide +kernel
def f0_j14_s0 (p1 : Int32) (p2 : Int32) : Int32 := (if (p2 &&& (3 : Int32)) = (0 : Int32) then p1 else (p1 &&& (31 : Int32)))
def f0 (p1 : Int32) (p2 : Int32) (w_U8 : Addr) (w_I8 : Addr) (w_U16 : Addr) (w_I16 : Addr) (w_U32 : Addr) (w_I32 : Addr) (w_U64 : Addr) (w_I64 : Addr) (w_STR : Addr) (w_F32 : Addr) (w_F64 : Addr) (w_RAW : Addr) : Int32 := (if (f1 (f0_j14_s0 p1 p2) w_U8 w_I8 w_U16 w_I16 w_U32 w_I32 w_U64 w_I64 w_STR w_F32 w_F64 w_RAW) = (f2 (f0_j14_s0 p1 p2) w_U8 w_I8 w_U16 w_I16 w_U32 w_I32 w_U64 w_I64 w_STR w_F32 w_F64 w_RAW) then (1 : Int32) else (0 : Int32))
def Q0 (p1 : Int32) (p2 : Int32) (w_ALL : Addr) (w_U8 : Addr) (w_I8 : Addr) (w_U16 : Addr) (w_I16 : Addr) (w_U32 : Addr) (w_I32 : Addr) (w_U64 : Addr) (w_I64 : Addr) (w_STR : Addr) (w_F32 : Addr) (w_F64 : Addr) (w_RAW : Addr) (h0 : Heap) (n0 : Nat) (v : Option Value) (h : Heap) (L : List Loc) : Prop := v = some (.int (f0 p1 p2 w_U8 w_I8 w_U16 w_I16 w_U32 w_I32 w_U64 w_I64 w_STR w_F32 w_F64 w_RAW)) ∧ Fr n0 L ∧ h = h0
theorem ef_0 (m : MethodId) (p1 : Int32) (p2 : Int32) : entryFrame m #[(.int p1), (.int p2)] maxLocals = mkF m 0 #[.val (.int p1), .val (.int p2), .unset, .unset] [] := by first | (simp [entryFrame, mkF, argsToLocals, Value.category, maxLocals]; done) | rfl
set_option maxRecDepth 65536 in
set_option maxHeartbeats 40000000 in
theorem rm0 (l : Launch) (Z : State) (a0 : Array Value) (hw : ∀ d ∈ tables_1, d.before a0 Z = true) (ws : List Jvm.Cond) (p1 : Int32) (p2 : Int32) (w_ALL : Addr) (w_U8 : Addr) (w_I8 : Addr) (w_U16 : Addr) (w_I16 : Addr) (w_U32 : Addr) (w_I32 : Addr) (w_U64 : Addr) (w_I64 : Addr) (w_STR : Addr) (w_F32 : Addr) (w_F64 : Addr) (w_RAW : Addr) (h0 : Heap) (n0 : Nat) (F_S_com_example_cogwire_cogwire_wire_TaggedType_ALL : Sta Z h0 nm1 "ALL" nm2 (.ref w_ALL)) (F_A_w_ALL : IA Z h0 w_ALL (.object "com/example/cogwire/cogwire/wire/TaggedType") [(.ref w_U8), (.ref w_I8), (.ref w_U16), (.ref w_I16), (.ref w_U32), (.ref w_I32), (.ref w_U64), (.ref w_I64), (.ref w_STR), (.ref w_F32), (.ref w_F64), (.ref w_RAW)]) (F_F_w_U8_code : Fld Z h0 w_U8 nm1 "code" "I" (.int (1 : Int32))) (F_F_w_I8_code : Fld Z h0 w_I8 nm1 "code" "I" (.int (2 : Int32))) (F_F_w_U16_code : Fld Z h0 w_U16 nm1 "code" "I" (.int (3 : Int32))) (F_F_w_I16_code : Fld Z h0 w_I16 nm1 "code" "I" (.int (4 : Int32))) (F_F_w_U32_code : Fld Z h0 w_U32 nm1 "code" "I" (.int (5 : Int32))) (F_F_w_I32_code : Fld Z h0 w_I32 nm1 "code" "I" (.int (6 : Int32))) (F_F_w_U64_code : Fld Z h0 w_U64 nm1 "code" "I" (.int (7 : Int32))) (F_F_w_I64_code : Fld Z h0 w_I64 nm1 "code" "I" (.int (8 : Int32))) (F_F_w_STR_code : Fld Z h0 w_STR nm1 "code" "I" (.int (9 : Int32))) (F_F_w_F32_code : Fld Z h0 w_F32 nm1 "code" "I" (.int (10 : Int32))) (F_F_w_F64_code : Fld Z h0 w_F64 nm1 "code" "I" (.int (11 : Int32))) (F_F_w_RAW_code : Fld Z h0 w_RAW nm1 "code" "I" (.int (16 : Int32))) (F_S_com_example_cogwire_cogwire_wire_TaggedType_U8 : Sta Z h0 nm1 "U8" nm3 (.ref w_U8)) (F_S_com_example_cogwire_cogwire_wire_TaggedType_I8 : Sta Z h0 nm1 "I8" nm3 (.ref w_I8)) (F_S_com_example_cogwire_cogwire_wire_TaggedType_U16 : Sta Z h0 nm1 "U16" nm3 (.ref w_U16)) (F_S_com_example_cogwire_cogwire_wire_TaggedType_I16 : Sta Z h0 nm1 "I16" nm3 (.ref w_I16)) (F_S_com_example_cogwire_cogwire_wire_TaggedType_U32 : Sta Z h0 nm1 "U32" nm3 (.ref w_U32)) (F_S_com_example_cogwire_cogwire_wire_TaggedType_I32 : Sta Z h0 nm1 "I32" nm3 (.ref w_I32)) (F_S_com_example_cogwire_cogwire_wire_TaggedType_U64 : Sta Z h0 nm1 "U64" nm3 (.ref w_U64)) (F_S_com_example_cogwire_cogwire_wire_TaggedType_I64 : Sta Z h0 nm1 "I64" nm3 (.ref w_I64)) (F_S_com_example_cogwire_cogwire_wire_TaggedType_STR : Sta Z h0 nm1 "STR" nm3 (.ref w_STR)) (F_S_com_example_cogwire_cogwire_wire_TaggedType_F32 : Sta Z h0 nm1 "F32" nm3 (.ref w_F32)) (F_S_com_example_cogwire_cogwire_wire_TaggedType_F64 : Sta Z h0 nm1 "F64" nm3 (.ref w_F64)) (F_S_com_example_cogwire_cogwire_wire_TaggedType_RAW : Sta Z h0 nm1 "RAW" nm3 (.ref w_RAW)) :
    Mt l Z x (Jvm.Cond.code x code maxLocals ret :: ws) room_1 #[(.int p1), (.int p2)] h0 (Q0 p1 p2 w_ALL w_U8 w_I8 w_U16 w_I16 w_U32 w_I32 w_U64 w_I64 w_STR w_F32 w_F64 w_RAW h0 n0) := by
  refine Mt.of n0 (plainFor_of_name pn_com_example_cogwire_cogwire_wire_TaggedTypeOfPinLaw) ?_
  intro p e s m below meth c T0 X0 hx hZ hby hml hown hret hlk hnm hs0
  have hml : c.maxLocals = 4 := hml
  have hret : meth.sig.returnType = some .boolean := hret
  have hown : s.vm.findClass "com/example/cogwire/cogwire/wire/TaggedTypeOfPinLaw" = some m.cls := hown
  rw [ef_0]
  show Rt p e below s room_1.cells room_1.slots (Q0 p1 p2 w_ALL w_U8 w_I8 w_U16 w_I16 w_U32 w_I32 w_U64 w_I64 w_STR w_F32 w_F64 w_RAW h0 n0) (T0.setTop (mkF m 0 #[.val (.int p1), .val (.int p2), .unset, .unset] []))
  refine Rt.iloadN (pc' := 1) X0 hx (hb hby at_0) rfl rfl ?_
  refine Rt.iconst (pc' := 2) (v := (3 : Int32)) X0 hx (hb hby at_1) rfl rfl ?_
  refine Rt.iand (pc' := 3) (r := (p2 &&& (3 : Int32))) X0 hx (hb hby at_2) rfl rfl ?_
  have J3_1 : ∀ T1  , Sd p l e room_1 s m #[(.int p1), (.int p2)] below meth c T1 n0 0 0 h0 → Rt p e below s room_1.cells room_1.slots (Q0 p1 p2 w_ALL w_U8 w_I8 w_U16 w_I16 w_U32 w_I32 w_U64 w_I64 w_STR w_F32 w_F64 w_RAW h0 n0) (T1.setTop (mkF m 14 #[.val (.int p1), .val (.int p2), .unset, .unset] [(.int (f0_j14_s0 p1 p2))])) := by
    intro T1   X1 
    refine Rt.istoreN (pc' := 15) (v := (f0_j14_s0 p1 p2)) (l' := #[.val (.int p1), .val (.int p2), .val (.int (f0_j14_s0 p1 p2)), .unset]) X1 hx (hb hby at_14) rfl rfl ?_
    refine Rt.iloadN (pc' := 16) X1 hx (hb hby at_15) rfl rfl ?_
    refine Rt.callP (pc' := 19) (r := (f1 (f0_j14_s0 p1 p2) w_U8 w_I8 w_U16 w_I16 w_U32 w_I32 w_U64 w_I64 w_STR w_F32 w_F64 w_RAW)) X1 hx hZ (y := mt1) hown (hw _ (List.mem_of_getElem? (i := 0) rfl)) (hw _ (List.mem_of_getElem? (i := 1) rfl)) (hw _ (List.mem_of_getElem? (i := 2) rfl)) (hw _ (List.mem_of_getElem? (i := 3) rfl)) (by decide) (rm1 l Z a0 hw [] (f0_j14_s0 p1 p2) w_ALL w_U8 w_I8 w_U16 w_I16 w_U32 w_I32 w_U64 w_I64 w_STR w_F32 w_F64 w_RAW h0 n0 F_S_com_example_cogwire_cogwire_wire_TaggedType_ALL F_A_w_ALL F_F_w_U8_code F_F_w_I8_code F_F_w_U16_code F_F_w_I16_code F_F_w_U32_code F_F_w_I32_code F_F_w_U64_code F_F_w_I64_code F_F_w_STR_code F_F_w_F32_code F_F_w_F64_code F_F_w_RAW_code) (W := 0) (by decide) (by decide) (by decide) (by decide) rfl rfl (argsL := [(.int (f0_j14_s0 p1 p2))]) (rest := []) (by rw [hml]; rfl) (lenOf pd_0 rfl) rfl rfl (Nat.le_of_eq rfl) (hb hby at_16) rfl ?_
    intro T2 X2
    refine Rt.astoreN (pc' := 20) (v := (f1 (f0_j14_s0 p1 p2) w_U8 w_I8 w_U16 w_I16 w_U32 w_I32 w_U64 w_I64 w_STR w_F32 w_F64 w_RAW)) (l' := #[.val (.int p1), .val (.int p2), .val (.int (f0_j14_s0 p1 p2)), .val (f1 (f0_j14_s0 p1 p2) w_U8 w_I8 w_U16 w_I16 w_U32 w_I32 w_U64 w_I64 w_STR w_F32 w_F64 w_RAW)]) X2 hx (hb hby at_19) (own_r1 ..) (by rw [XS.store1 (o := .unset) rfl (Or.inl rfl) (own_cat (own_r1 ..))]; rfl) rfl ?_
    refine Rt.aloadN (pc' := 21) X2 hx (hb hby at_20) rfl (own_r1 ..) rfl ?_
    refine Rt.iloadN (pc' := 22) X2 hx (hb hby at_21) rfl rfl ?_
    refine Rt.callP (pc' := 25) (r := (f2 (f0_j14_s0 p1 p2) w_U8 w_I8 w_U16 w_I16 w_U32 w_I32 w_U64 w_I64 w_STR w_F32 w_F64 w_RAW)) X2 hx hZ (y := mt2) hown (hw _ (List.mem_of_getElem? (i := 20) rfl)) (hw _ (List.mem_of_getElem? (i := 21) rfl)) (hw _ (List.mem_of_getElem? (i := 22) rfl)) (hw _ (List.mem_of_getElem? (i := 23) rfl)) (by decide) (rm2 l Z a0 hw [] (f0_j14_s0 p1 p2) w_U8 w_I8 w_U16 w_I16 w_U32 w_I32 w_U64 w_I64 w_STR w_F32 w_F64 w_RAW h0 n0 F_S_com_example_cogwire_cogwire_wire_TaggedType_U8 F_S_com_example_cogwire_cogwire_wire_TaggedType_I8 F_S_com_example_cogwire_cogwire_wire_TaggedType_U16 F_S_com_example_cogwire_cogwire_wire_TaggedType_I16 F_S_com_example_cogwire_cogwire_wire_TaggedType_U32 F_S_com_example_cogwire_cogwire_wire_TaggedType_I32 F_S_com_example_cogwire_cogwire_wire_TaggedType_U64 F_S_com_example_cogwire_cogwire_wire_TaggedType_I64 F_S_com_example_cogwire_cogwire_wire_TaggedType_STR F_S_com_example_cogwire_cogwire_wire_TaggedType_F32 F_S_com_example_cogwire_cogwire_wire_TaggedType_F64 F_S_com_example_cogwire_cogwire_wire_TaggedType_RAW) (W := 1) (by decide) (by decide) (by decide) (by decide) rfl rfl (argsL := [(.int (f0_j14_s0 p1 p2))]) (rest := [(f1 (f0_j14_s0 p1 p2) w_U8 w_I8 w_U16 w_I16 w_U32 w_I32 w_U64 w_I64 w_STR w_F32 w_F64 w_RAW)]) (by rw [hml]; rfl) (lenOf pd_0 rfl) rfl rfl (by simp [own_cat (own_r1 ..)]) (hb hby at_22) rfl ?_
    intro T3 X3
    by_cases hc25_4 : (f1 (f0_j14_s0 p1 p2) w_U8 w_I8 w_U16 w_I16 w_U32 w_I32 w_U64 w_I64 w_STR w_F32 w_F64 w_RAW) = (f2 (f0_j14_s0 p1 p2) w_U8 w_I8 w_U16 w_I16 w_U32 w_I32 w_U64 w_I64 w_STR w_F32 w_F64 w_RAW)
    · refine Rt.acmp (pc' := 28) X3 hx (same := true) (own_r1 ..) (own_r2 ..) (hb hby at_25) (decide_eq_true hc25_4) (by decide) (by decide) ?_
      refine Rt.iconst (pc' := 29) (v := (1 : Int32)) X3 hx (hb hby at_28) rfl rfl ?_
      refine Rt.goto (pc' := 33) X3 hx (hb hby at_29) (by decide) (by decide) ?_
      exact Rt.retZ (w := (1 : Int32)) X3 hx hlk hret (by simp) (hb hby at_33) (by decide) (by decide) (by decide) (fun L N => ⟨congrArg some (congrArg Value.int (by rw [f0, if_pos hc25_4])), N, rfl⟩)
    · refine Rt.acmp (pc' := 32) X3 hx (same := false) (own_r1 ..) (own_r2 ..) (hb hby at_25) (decide_eq_false hc25_4) (by decide) (by decide) ?_
      refine Rt.iconst (pc' := 33) (v := (0 : Int32)) X3 hx (hb hby at_32) rfl rfl ?_
      exact Rt.retZ (w := (0 : Int32)) X3 hx hlk hret (by simp) (hb hby at_33) (by decide) (by decide) (by decide) (fun L N => ⟨congrArg some (congrArg Value.int (by rw [f0, if_neg hc25_4])), N, rfl⟩)
  by_cases hc3_5 : (p2 &&& (3 : Int32)) = (0 : Int32)
  · refine Rt.ifN (pc' := 6) X0 hx (hb hby at_3) ((if0 _ _).trans (teq hc3_5).2) rfl ?_
    refine Rt.iloadN (pc' := 7) X0 hx (hb hby at_6) rfl rfl ?_
    refine Rt.goto (pc' := 14) X0 hx (hb hby at_7) (by decide) (by decide) ?_
    have q := J3_1 T0   X0
    rw [show (f0_j14_s0 p1 p2) = p1 from by rw [f0_j14_s0, if_pos hc3_5]] at q
    exact q
  · refine Rt.ifY (pc' := 10) X0 hx (hb hby at_3) ((if0 _ _).trans (feq hc3_5).2) (by decide) (by decide) ?_
    refine Rt.iloadN (pc' := 11) X0 hx (hb hby at_10) rfl rfl ?_
    refine Rt.bipush (pc' := 13) (v := (31 : Int32)) X0 hx (hb hby at_11) rfl rfl ?_
    refine Rt.iand (pc' := 14) (r := (p1 &&& (31 : Int32))) X0 hx (hb hby at_13) rfl rfl ?_
    have q := J3_1 T0   X0
    rw [show (f0_j14_s0 p1 p2) = (p1 &&& (31 : Int32)) from by rw [f0_j14_s0, if_neg hc3_5]] at q
    exact q
theorem own_eqi {args : Array Value} {s : State} {a : Term} {n : Int32} (h : (Jvm.Cond.eq a (.int n)).value args s none s [] = some true) : a.eval args s none [] s = some (.int n) := Cond.eq_int (b := .int n) (by simp [Cond.holds, h]) rfl
theorem own_eqr {args : Array Value} {s : State} {a b : Term} {y : Value} (h : (Jvm.Cond.eq a b).value args s none s [] = some true) (hb : b.eval args s none [] s = some y) (hy : y.isRef = true) : a.eval args s none [] s = some y := Cond.eq_refs (by simp [Cond.holds, h]) hb hy
theorem own_ord {args : Array Value} {s : State} {t : Term} {K f d : String} {k : Int32} {x : Addr} (h : (Jvm.Cond.eq (.field t K f d) (.int k)).value args s none s [] = some true) (ht : t.eval args s none [] s = some (.ref x)) : s.fieldOf? x K f d = some (.int k) := by
  have h' : (Jvm.Cond.eq (.field t K f d) (.int k)).holds args s none s [] = true := by simp [Cond.holds, h]
  have q := Cond.eq_int h' (n := k) rfl
  rw [fld_at (C := K) (n := f) (dd := d) ht] at q
  exact q
theorem own_ne {s : State} {x y : Addr} {K f d : String} {j k : Int32} (hx : s.fieldOf? x K f d = some (.int j)) (hy : s.fieldOf? y K f d = some (.int k)) (q : j ≠ k) : x ≠ y := fun e => by
  subst e; exact q (Value.int.inj (Option.some.inj (hx.symm.trans hy)))
theorem own_law (c s : Int32) (w_U8 : Addr) (w_I8 : Addr) (w_U16 : Addr) (w_I16 : Addr) (w_U32 : Addr) (w_I32 : Addr) (w_U64 : Addr) (w_I64 : Addr) (w_STR : Addr) (w_F32 : Addr) (w_F64 : Addr) (w_RAW : Addr) : f0 c s w_U8 w_I8 w_U16 w_I16 w_U32 w_I32 w_U64 w_I64 w_STR w_F32 w_F64 w_RAW = 1 := by
  unfold f0
  rw [if_pos]
  generalize f0_j14_s0 c s = p
  unfold f1 f2
  simp only [eq_comm (b := p)]
theorem own_ia {Z : State} {h : Heap} {a : Addr} {ty : FieldType} {cl : Cell} {vs : List Value} (A : Arr Z h a cl ty) (hs : cl.slots.size = vs.length) (hl : vs.length < 2 ^ 31) (H : HasL cl 0 vs) : IA Z h a ty vs := by
  refine ⟨cl, A, Array.ext_getElem? fun i => ?_, hl⟩
  by_cases q : i < vs.length
  · have := HasL.at (dv := .null) vs 0 H i q
    rw [Nat.zero_add] at this
    rw [this, List.getElem?_toArray, List.getElem?_eq_getElem q, List.getD_eq_getElem?_getD, List.getElem?_eq_getElem q]; rfl
  · rw [Array.getElem?_eq_none (by omega), List.getElem?_toArray, List.getElem?_eq_none (by omega)]
theorem own_len {args : Array Value} {s : State} {t : Term} {a : Addr} {cl : Cell} {ty : FieldType} {n : Int32} {k : Nat} (ht : t.eval args s none [] s = some (.ref a)) (A : Arr s s.heap a cl ty) (h : (Term.length t).eval args s none [] s = some (.int n)) (hn : n.toNatClampNeg = k) : cl.slots.size = k := by
  have ha : s.arrayAt? a = some cl := Arr.fin (Vm.Alike.refl _) A
  simp only [Term.eval, ht, ha, Option.bind_eq_bind, Option.bind_some] at h
  split at h
  · rename_i q
    have e : cl.slots.size.toInt32 = n := Value.int.inj (Option.some.inj h)
    rw [← hn, ← e]
    simp only [Int32.toNatClampNeg, len_toInt q]; rfl
  · cases h
set_option maxRecDepth 65536 in
set_option maxHeartbeats 40000000 in
theorem comes_1 {Post : Tables → Env → Array Value → State → Outcome → State → Prop} (hpost : ∀ tb e args s v u, (limb_1_1.after args s (.returned v) u = true ∧ limb_1_2.after args s (.returned v) u = true ∧ True) → FrameEnd s (.returned v) u (Jvm.fieldLocs frame_1_writes args s ++ Jvm.arrayLocs frame_1_arrays args s ++ Jvm.staticLocs frame_1_statics s) 0 0 → Post tb e args s (.returned v) u) :
    ArmFor flags0 classFile x code maxLocals ret World_1 tables_1 room_1 Calls_1 rest_1 Pre_1 Post := by
  intro l hfl _ _ p e ha hc hk s m args below hf hA hF happ hP
  obtain ⟨hcalls, hrest, hpre⟩ := hP
  obtain ⟨-, -, -, hnamed, -, -, -, hat⟩ := (Spec.applies_iff hf).mp happ
  obtain ⟨hg, hn⟩ := and_e (Cond.before_iff.mp (show (Jvm.Cond.and given_1 narrow_1).before args s = true from hpre))
  obtain ⟨g1, g2⟩ := and_e hg
  obtain ⟨g3, g4⟩ := and_e g2
  obtain ⟨u5, u6⟩ := and_e hn
  obtain ⟨u7, u8⟩ := and_e u6
  obtain ⟨u9, u10⟩ := and_e u8
  obtain ⟨u11, u12⟩ := and_e u10
  obtain ⟨u13, u14⟩ := and_e u12
  obtain ⟨u15, u16⟩ := and_e u14
  obtain ⟨u17, u18⟩ := and_e u16
  obtain ⟨u19, u20⟩ := and_e u18
  obtain ⟨u21, u22⟩ := and_e u20
  obtain ⟨u23, u24⟩ := and_e u22
  obtain ⟨u25, u26⟩ := and_e u24
  obtain ⟨u27, u28⟩ := and_e u26
  obtain ⟨u29, u30⟩ := and_e u28
  obtain ⟨u31, u32⟩ := and_e u30
  obtain ⟨u33, u34⟩ := and_e u32
  obtain ⟨u35, u36⟩ := and_e u34
  obtain ⟨u37, u38⟩ := and_e u36
  obtain ⟨u39, u40⟩ := and_e u38
  obtain ⟨u41, u42⟩ := and_e u40
  obtain ⟨u43, u44⟩ := and_e u42
  obtain ⟨u45, u46⟩ := and_e u44
  obtain ⟨u47, u48⟩ := and_e u46
  obtain ⟨u49, u50⟩ := and_e u48
  obtain ⟨u51, u52⟩ := and_e u50
  obtain ⟨u53, u54⟩ := and_e u52
  obtain ⟨u55, u56⟩ := and_e u54
  obtain ⟨u57, u58⟩ := and_e u56
  obtain ⟨u59, u60⟩ := and_e u58
  obtain ⟨u61, u62⟩ := and_e u60
  obtain ⟨u63, u64⟩ := and_e u62
  obtain ⟨u65, u66⟩ := and_e u64
  obtain ⟨u67, u68⟩ := and_e u66
  obtain ⟨u69, u70⟩ := and_e u68
  obtain ⟨u71, u72⟩ := and_e u70
  obtain ⟨u73, u74⟩ := and_e u72
  obtain ⟨u75, u76⟩ := and_e u74
  obtain ⟨u77, u78⟩ := and_e u76
  obtain ⟨w0, w1, rfl⟩ : ∃ w0 w1 : Value, args = #[w0, w1] := by
    have hs : args.size = 2 := by simpa [Cond.value, given_1] using g1
    obtain ⟨L⟩ := args
    match L, hs with
    | [w0, w1], _ => exact ⟨w0, w1, rfl⟩
  have hw := fun d (hd : d ∈ tables_1) => atoms_spec (ws := Jvm.Cond.code x code maxLocals ret :: tables_1) hat d (List.mem_cons_of_mem _ hd)
  have hfit : Fit s := fun {y c} hc i hi => by
    obtain ⟨ha, rfl⟩ := Array.getElem?_eq_some_iff.mp hc
    have q := List.all_eq_true.mp ((Array.all_eq_true_iff_forall_mem.mp hF) _ (Array.getElem_mem ha)) i (List.mem_range.mpr hi)
    simpa [Array.getElem?_eq_getElem hi] using q
  obtain ⟨i0, ei0⟩ := is_v g3
  obtain rfl : w0 = (.int i0) := Option.some.inj ei0
  obtain ⟨i1, ei1⟩ := is_v g4
  obtain rfl : w1 = (.int i1) := Option.some.inj ei1
  obtain ⟨w_U8, v_U8⟩ := exa_v u9
  have S_U8 := Sta.start v_U8 (Or.inr ⟨(hw _ (List.mem_of_getElem? (i := 2) rfl)), (hw _ (List.mem_of_getElem? (i := 6) rfl))⟩)
  have X_U8 := Exa.start v_U8 u9
  obtain ⟨w_I8, v_I8⟩ := exa_v u15
  have S_I8 := Sta.start v_I8 (Or.inr ⟨(hw _ (List.mem_of_getElem? (i := 2) rfl)), (hw _ (List.mem_of_getElem? (i := 9) rfl))⟩)
  have X_I8 := Exa.start v_I8 u15
  obtain ⟨w_U16, v_U16⟩ := exa_v u21
  have S_U16 := Sta.start v_U16 (Or.inr ⟨(hw _ (List.mem_of_getElem? (i := 2) rfl)), (hw _ (List.mem_of_getElem? (i := 10) rfl))⟩)
  have X_U16 := Exa.start v_U16 u21
  obtain ⟨w_I16, v_I16⟩ := exa_v u27
  have S_I16 := Sta.start v_I16 (Or.inr ⟨(hw _ (List.mem_of_getElem? (i := 2) rfl)), (hw _ (List.mem_of_getElem? (i := 11) rfl))⟩)
  have X_I16 := Exa.start v_I16 u27
  obtain ⟨w_U32, v_U32⟩ := exa_v u33
  have S_U32 := Sta.start v_U32 (Or.inr ⟨(hw _ (List.mem_of_getElem? (i := 2) rfl)), (hw _ (List.mem_of_getElem? (i := 12) rfl))⟩)
  have X_U32 := Exa.start v_U32 u33
  obtain ⟨w_I32, v_I32⟩ := exa_v u39
  have S_I32 := Sta.start v_I32 (Or.inr ⟨(hw _ (List.mem_of_getElem? (i := 2) rfl)), (hw _ (List.mem_of_getElem? (i := 13) rfl))⟩)
  have X_I32 := Exa.start v_I32 u39
  obtain ⟨w_U64, v_U64⟩ := exa_v u45
  have S_U64 := Sta.start v_U64 (Or.inr ⟨(hw _ (List.mem_of_getElem? (i := 2) rfl)), (hw _ (List.mem_of_getElem? (i := 14) rfl))⟩)
  have X_U64 := Exa.start v_U64 u45
  obtain ⟨w_I64, v_I64⟩ := exa_v u51
  have S_I64 := Sta.start v_I64 (Or.inr ⟨(hw _ (List.mem_of_getElem? (i := 2) rfl)), (hw _ (List.mem_of_getElem? (i := 15) rfl))⟩)
  have X_I64 := Exa.start v_I64 u51
  obtain ⟨w_STR, v_STR⟩ := exa_v u57
  have S_STR := Sta.start v_STR (Or.inr ⟨(hw _ (List.mem_of_getElem? (i := 2) rfl)), (hw _ (List.mem_of_getElem? (i := 16) rfl))⟩)
  have X_STR := Exa.start v_STR u57
  obtain ⟨w_F32, v_F32⟩ := exa_v u63
  have S_F32 := Sta.start v_F32 (Or.inr ⟨(hw _ (List.mem_of_getElem? (i := 2) rfl)), (hw _ (List.mem_of_getElem? (i := 17) rfl))⟩)
  have X_F32 := Exa.start v_F32 u63
  obtain ⟨w_F64, v_F64⟩ := exa_v u69
  have S_F64 := Sta.start v_F64 (Or.inr ⟨(hw _ (List.mem_of_getElem? (i := 2) rfl)), (hw _ (List.mem_of_getElem? (i := 18) rfl))⟩)
  have X_F64 := Exa.start v_F64 u69
  obtain ⟨w_RAW, v_RAW⟩ := exa_v u75
  have S_RAW := Sta.start v_RAW (Or.inr ⟨(hw _ (List.mem_of_getElem? (i := 2) rfl)), (hw _ (List.mem_of_getElem? (i := 19) rfl))⟩)
  have X_RAW := Exa.start v_RAW u75
  obtain ⟨w_ALL, v_ALL⟩ := arr_v u5
  obtain ⟨cA, A_ALL⟩ := Arr.start v_ALL u5
  have S_ALL := Sta.start v_ALL (Or.inr ⟨(hw _ (List.mem_of_getElem? (i := 2) rfl)), (hw _ (List.mem_of_getElem? (i := 5) rfl))⟩)
  have hl' := own_eqi u7
  have hsz := own_len v_ALL A_ALL hl' (k := 12) (by decide)
  have C_U8 := Fld.start (own_ord u13 v_U8)
  have E_U8 := (elem_in (own_eqr u11 v_U8 rfl) v_ALL (j := 0) rfl A_ALL.1).2
  have C_I8 := Fld.start (own_ord u19 v_I8)
  have E_I8 := (elem_in (own_eqr u17 v_I8 rfl) v_ALL (j := 1) rfl A_ALL.1).2
  have C_U16 := Fld.start (own_ord u25 v_U16)
  have E_U16 := (elem_in (own_eqr u23 v_U16 rfl) v_ALL (j := 2) rfl A_ALL.1).2
  have C_I16 := Fld.start (own_ord u31 v_I16)
  have E_I16 := (elem_in (own_eqr u29 v_I16 rfl) v_ALL (j := 3) rfl A_ALL.1).2
  have C_U32 := Fld.start (own_ord u37 v_U32)
  have E_U32 := (elem_in (own_eqr u35 v_U32 rfl) v_ALL (j := 4) rfl A_ALL.1).2
  have C_I32 := Fld.start (own_ord u43 v_I32)
  have E_I32 := (elem_in (own_eqr u41 v_I32 rfl) v_ALL (j := 5) rfl A_ALL.1).2
  have C_U64 := Fld.start (own_ord u49 v_U64)
  have E_U64 := (elem_in (own_eqr u47 v_U64 rfl) v_ALL (j := 6) rfl A_ALL.1).2
  have C_I64 := Fld.start (own_ord u55 v_I64)
  have E_I64 := (elem_in (own_eqr u53 v_I64 rfl) v_ALL (j := 7) rfl A_ALL.1).2
  have C_STR := Fld.start (own_ord u61 v_STR)
  have E_STR := (elem_in (own_eqr u59 v_STR rfl) v_ALL (j := 8) rfl A_ALL.1).2
  have C_F32 := Fld.start (own_ord u67 v_F32)
  have E_F32 := (elem_in (own_eqr u65 v_F32 rfl) v_ALL (j := 9) rfl A_ALL.1).2
  have C_F64 := Fld.start (own_ord u73 v_F64)
  have E_F64 := (elem_in (own_eqr u71 v_F64 rfl) v_ALL (j := 10) rfl A_ALL.1).2
  have C_RAW := Fld.start (own_ord u78 v_RAW)
  have E_RAW := (elem_in (own_eqr u77 v_RAW rfl) v_ALL (j := 11) rfl A_ALL.1).2
  have A_12 := own_ia (vs := [Value.ref w_U8, Value.ref w_I8, Value.ref w_U16, Value.ref w_I16, Value.ref w_U32, Value.ref w_I32, Value.ref w_U64, Value.ref w_I64, Value.ref w_STR, Value.ref w_F32, Value.ref w_F64, Value.ref w_RAW]) A_ALL hsz (by simp) ⟨E_U8, E_I8, E_U16, E_I16, E_U32, E_I32, E_U64, E_I64, E_STR, E_F32, E_F64, E_RAW, trivial⟩
  obtain ⟨n, o, h1, h2, h3, _, L, rfl, ⟨rfl, N, -⟩, hq⟩ := rm0 l s _ hw tables_1 i0 i1 w_ALL w_U8 w_I8 w_U16 w_I16 w_U32 w_I32 w_U64 w_I64 w_STR w_F32 w_F64 w_RAW s.heap s.heap.size S_ALL A_12 C_U8 C_I8 C_U16 C_I16 C_U32 C_I32 C_U64 C_I64 C_STR C_F32 C_F64 C_RAW S_U8 S_I8 S_U16 S_I16 S_U32 S_I32 S_U64 S_I64 S_STR S_F32 S_F64 S_RAW p e ha hc hk s m _ below hf ((Spec.applies_iff_loose hf).mp happ).1 ⟨rfl, State.Warmed39.refl s, rfl⟩ trivial
  rw [own_law] at *
  refine ⟨n, _, h1, h2, h3, hpost _ _ _ _ _ _ ⟨Cond.after_iff.mpr rfl, Cond.after_iff.mpr (eq_i res_at (Term.int_eval (1)) rfl), trivial⟩ ⟨hq.1, hq.2.1, (hq.2.2.sift fun y hy => Or.inr (N y hy)).mono (by decide) (by decide)⟩⟩
theorem main_1_1 : Claimed_1_1 := comes_1 fun _ _ _ _ _ _ h hF => ⟨h.1, hF⟩
theorem main_1_2 : Claimed_1_2 := comes_1 fun _ _ _ _ _ _ h hF => ⟨h.2.1, hF⟩
end Jvm.Pilot.@@N@@
namespace Jvm.Pilot.@@N@@
open Jvm Jvm.ClassFile Sem Op Lib Jvm.Free Jvm.Stand Jvm.Pilot.@@N@@.Jvm.D
/-! MADE BY PROGRAM (witnessworld.py) out of the Statement's table words and the real class files: 13 classes; the members and pool entries that the words name. The judged class is class 1, her method 2. -/
namespace start1
open Jvm.ClassFile
def u (s : String) : CpInfo := .utf8 (stringToUtf16 s)
/-- a pool by its gaps: so many unusable entries, then the entry; so many at the end -/
def gap : Nat → List CpInfo → List CpInfo
  | 0, r => r
  | n + 1, r => .unusable :: gap n r
def poolList (es : List (Nat × CpInfo)) (last : Nat) : List CpInfo := es.foldr (fun e r => gap e.1 (e.2 :: r)) (gap last [])
def pool (es : List (Nat × CpInfo)) (last : Nat) : Array CpInfo := ⟨poolList es last⟩
def fileOf (pool : Array CpInfo) (this : Nat) (attrs : Array Attribute := #[]) (ms : Array MethodInfo := #[]) (fl : Nat := 33) (sup : Nat := 0) (ifs : Array Nat := #[]) (fds : Array FieldInfo := #[]) : ClassFile where
  minorVersion := 0
  majorVersion := 65
  constantPool := pool
  accessFlags := fl
  thisClass := this
  superClass := sup
  interfaces := ifs
  fields := fds
  methods := ms
  attributes := attrs
def plain (name : String) (sup : Option ClassId) : Class where
  name := name
  kind := .ordinary
  loader := none
  accessFlags := 33
  super := sup
  interfaces := #[]
  cf := none
  fields := #[]
  methods := #[]
  instanceTypes := #[]
  staticTypes := #[]
  resolved := #[]
  callSites := []
  init := .initialized
  statics := none
  mirror := none

def pool0 : Array CpInfo := pool [(5, u "<init>"), (0, u "()V"), (1, .class_ 10), (1, u "java/lang/Object")] 113

def k0m0 : Method := { name := "<init>", desc := "()V", sig := { parameters := [], returnType := none }, accessFlags := 1, code := none }
/-- java/lang/Object -/
def k0 : Class := { plain "java/lang/Object" none with
  accessFlags := 33
  interfaces := #[]
  cf := some (fileOf pool0 8 #[] #[{ accessFlags := 1, nameIndex := 5, descriptorIndex := 6, attributes := #[] }] 33 0 #[] #[])
  fields := #[]
  methods := #[k0m0]
  instanceTypes := #[]
  staticTypes := #[]
  resolved := Array.replicate 124 none
  statics := none }

def pool1 : Array CpInfo := pool [(2, .class_ 4), (1, u "java/lang/Object"), (0, u "<init>"), (0, u "()V"), (0, .fieldref 8 9), (0, .class_ 10), (0, .nameAndType 11 12), (0, u "com/example/cogwire/cogwire/wire/TaggedType"), (0, u "U8"), (0, u "Lcom/example/cogwire/cogwire/wire/TaggedType;"), (0, .fieldref 8 14), (0, .nameAndType 15 12), (0, u "I8"), (0, .fieldref 8 17), (0, .nameAndType 18 12), (0, u "U16"), (0, .fieldref 8 20), (0, .nameAndType 21 12), (0, u "I16"), (0, .fieldref 8 23), (0, .nameAndType 24 12), (0, u "U32"), (0, .fieldref 8 26), (0, .nameAndType 27 12), (0, u "I32"), (0, .fieldref 8 29), (0, .nameAndType 30 12), (0, u "U64"), (0, .fieldref 8 32), (0, .nameAndType 33 12), (0, u "I64"), (0, .fieldref 8 35), (0, .nameAndType 36 12), (0, u "STR"), (0, .fieldref 8 38), (0, .nameAndType 39 12), (0, u "F32"), (0, .fieldref 8 41), (0, .nameAndType 42 12), (0, u "F64"), (0, .fieldref 8 44), (0, .nameAndType 45 12), (0, u "RAW"), (0, .methodref 8 47), (0, .nameAndType 48 49), (0, u "of"), (0, u "(I)Lcom/example/cogwire/cogwire/wire/TaggedType;"), (0, .methodref 51 52), (0, .class_ 53), (0, .nameAndType 54 49), (0, u "com/example/cogwire/cogwire/wire/TaggedTypeOfPinLaw"), (0, u "expected"), (3, u "law"), (0, u "(II)Z")] 2

def k1m0 : Method := { name := "<init>", desc := "()V", sig := { parameters := [], returnType := none }, accessFlags := 2, code := none }
def k1c1 : Code := { maxStack := 2, maxLocals := 1, code := method_2_code, exceptionTable := #[], attributes := #[] }
def k1m1 : Method := { name := "expected", desc := "(I)Lcom/example/cogwire/cogwire/wire/TaggedType;", sig := { parameters := [.int], returnType := some (.object "com/example/cogwire/cogwire/wire/TaggedType") }, accessFlags := 10, code := some k1c1 }
def k1c2 : Code := { maxStack := 2, maxLocals := 4, code := code, exceptionTable := #[], attributes := #[] }
def k1m2 : Method := { name := "law", desc := "(II)Z", sig := { parameters := [.int, .int], returnType := some .boolean }, accessFlags := 9, code := some k1c2 }
/-- com/example/cogwire/cogwire/wire/TaggedTypeOfPinLaw -/
def k1 : Class := { plain "com/example/cogwire/cogwire/wire/TaggedTypeOfPinLaw" (some 0) with
  accessFlags := 49
  interfaces := #[]
  cf := some (fileOf pool1 51 #[] #[{ accessFlags := 2, nameIndex := 5, descriptorIndex := 6, attributes := #[] }, { accessFlags := 10, nameIndex := 54, descriptorIndex := 49, attributes := #[] }, { accessFlags := 9, nameIndex := 58, descriptorIndex := 59, attributes := #[] }] 49 2 #[] #[])
  fields := #[]
  methods := #[k1m0, k1m1, k1m2]
  instanceTypes := #[]
  staticTypes := #[]
  resolved := Array.replicate 62 none
  statics := none }

def pool2 : Array CpInfo := pool [(1, .class_ 2), (0, u "java/lang/constant/Constable"), (0, .class_ 4), (0, u "java/lang/Object")] 6

/-- java/lang/constant/Constable -/
def k2 : Class := { plain "java/lang/constant/Constable" (some 0) with
  accessFlags := 1537
  interfaces := #[]
  cf := some (fileOf pool2 1 #[] #[] 1537 3 #[] #[])
  fields := #[]
  methods := #[]
  instanceTypes := #[]
  staticTypes := #[]
  resolved := Array.replicate 11 none
  statics := none }

def pool3 : Array CpInfo := pool [(1, .class_ 2), (0, u "java/lang/Comparable"), (0, .class_ 4), (0, u "java/lang/Object")] 7

/-- java/lang/Comparable -/
def k3 : Class := { plain "java/lang/Comparable" (some 0) with
  accessFlags := 1537
  interfaces := #[]
  cf := some (fileOf pool3 1 #[] #[] 1537 3 #[] #[])
  fields := #[]
  methods := #[]
  instanceTypes := #[]
  staticTypes := #[]
  resolved := Array.replicate 12 none
  statics := none }

def pool4 : Array CpInfo := pool [(1, .class_ 2), (0, u "java/io/Serializable"), (0, .class_ 4), (0, u "java/lang/Object")] 2

/-- java/io/Serializable -/
def k4 : Class := { plain "java/io/Serializable" (some 0) with
  accessFlags := 1537
  interfaces := #[]
  cf := some (fileOf pool4 1 #[] #[] 1537 3 #[] #[])
  fields := #[]
  methods := #[]
  instanceTypes := #[]
  staticTypes := #[]
  resolved := Array.replicate 7 none
  statics := none }

def pool5 : Array CpInfo := pool [(2, .class_ 4), (1, u "java/lang/Enum"), (0, u "name"), (0, u "Ljava/lang/String;"), (2, u "ordinal"), (0, u "I"), (1, .class_ 14), (1, u "java/lang/Object"), (4, u "hash"), (86, .class_ 108), (1, u "java/lang/Enum$EnumDesc"), (2, .class_ 112), (0, u "java/lang/constant/Constable"), (0, .class_ 114), (0, u "java/lang/Comparable"), (0, .class_ 116), (0, u "java/io/Serializable")] 87

/-- java/lang/Enum -/
def k5 : Class := { plain "java/lang/Enum" (some 0) with
  accessFlags := 1057
  interfaces := #[2, 3, 4]
  cf := some (fileOf pool5 2 #[.nestMembers #[106]] #[] 1057 12 #[111, 113, 115] #[{ accessFlags := 18, nameIndex := 5, descriptorIndex := 6, attributes := #[] }, { accessFlags := 18, nameIndex := 9, descriptorIndex := 10, attributes := #[] }, { accessFlags := 2, nameIndex := 19, descriptorIndex := 10, attributes := #[] }])
  fields := #[{ name := "name", type := (.object "java/lang/String"), accessFlags := 18, slot := 0, constantValue := 0 }, { name := "ordinal", type := .int, accessFlags := 18, slot := 1, constantValue := 0 }, { name := "hash", type := .int, accessFlags := 2, slot := 2, constantValue := 0 }]
  methods := #[]
  instanceTypes := #[(.object "java/lang/String"), .int, .int]
  staticTypes := #[]
  resolved := Array.replicate 204 none
  statics := none }

def pool6 : Array CpInfo := pool [(1, .class_ 2), (0, u "com/example/cogwire/cogwire/wire/TaggedType"), (2, u "U8"), (0, u "Lcom/example/cogwire/cogwire/wire/TaggedType;"), (2, u "I8"), (2, u "U16"), (2, u "I16"), (2, u "U32"), (2, u "I32"), (2, u "U64"), (2, u "I64"), (2, u "STR"), (2, u "F32"), (2, u "F64"), (2, u "RAW"), (2, u "$VALUES"), (0, u "[Lcom/example/cogwire/cogwire/wire/TaggedType;"), (6, .class_ 52), (1, u "java/lang/Enum"), (6, .fieldref 1 60), (0, .nameAndType 61 62), (0, u "code"), (0, u "I"), (2, u "width"), (2, u "javaType"), (0, u "Ljava/lang/Class;"), (0, .fieldref 1 71), (0, .nameAndType 72 43), (0, u "ALL"), (66, u "of"), (0, u "(I)Lcom/example/cogwire/cogwire/wire/TaggedType;")] 10

def k6c0 : Code := { maxStack := 2, maxLocals := 5, code := prog_165_method_4_code, exceptionTable := #[], attributes := #[] }
def k6m0 : Method := { name := "of", desc := "(I)Lcom/example/cogwire/cogwire/wire/TaggedType;", sig := { parameters := [.int], returnType := some (.object "com/example/cogwire/cogwire/wire/TaggedType") }, accessFlags := 9, code := some k6c0 }
/-- com/example/cogwire/cogwire/wire/TaggedType -/
def k6 : Class := { plain "com/example/cogwire/cogwire/wire/TaggedType" (some 5) with
  accessFlags := 16433
  interfaces := #[]
  cf := some (fileOf pool6 1 #[] #[{ accessFlags := 9, nameIndex := 139, descriptorIndex := 140, attributes := #[] }] 16433 50 #[] #[{ accessFlags := 16409, nameIndex := 5, descriptorIndex := 6, attributes := #[] }, { accessFlags := 16409, nameIndex := 9, descriptorIndex := 6, attributes := #[] }, { accessFlags := 16409, nameIndex := 12, descriptorIndex := 6, attributes := #[] }, { accessFlags := 16409, nameIndex := 15, descriptorIndex := 6, attributes := #[] }, { accessFlags := 16409, nameIndex := 18, descriptorIndex := 6, attributes := #[] }, { accessFlags := 16409, nameIndex := 21, descriptorIndex := 6, attributes := #[] }, { accessFlags := 16409, nameIndex := 24, descriptorIndex := 6, attributes := #[] }, { accessFlags := 16409, nameIndex := 27, descriptorIndex := 6, attributes := #[] }, { accessFlags := 16409, nameIndex := 30, descriptorIndex := 6, attributes := #[] }, { accessFlags := 16409, nameIndex := 33, descriptorIndex := 6, attributes := #[] }, { accessFlags := 16409, nameIndex := 36, descriptorIndex := 6, attributes := #[] }, { accessFlags := 16409, nameIndex := 39, descriptorIndex := 6, attributes := #[] }, { accessFlags := 26, nameIndex := 72, descriptorIndex := 43, attributes := #[] }, { accessFlags := 18, nameIndex := 61, descriptorIndex := 62, attributes := #[] }, { accessFlags := 18, nameIndex := 65, descriptorIndex := 62, attributes := #[] }, { accessFlags := 18, nameIndex := 68, descriptorIndex := 69, attributes := #[] }, { accessFlags := 4122, nameIndex := 42, descriptorIndex := 43, attributes := #[] }])
  fields := #[{ name := "U8", type := (.object "com/example/cogwire/cogwire/wire/TaggedType"), accessFlags := 16409, slot := 0, constantValue := 0 }, { name := "I8", type := (.object "com/example/cogwire/cogwire/wire/TaggedType"), accessFlags := 16409, slot := 1, constantValue := 0 }, { name := "U16", type := (.object "com/example/cogwire/cogwire/wire/TaggedType"), accessFlags := 16409, slot := 2, constantValue := 0 }, { name := "I16", type := (.object "com/example/cogwire/cogwire/wire/TaggedType"), accessFlags := 16409, slot := 3, constantValue := 0 }, { name := "U32", type := (.object "com/example/cogwire/cogwire/wire/TaggedType"), accessFlags := 16409, slot := 4, constantValue := 0 }, { name := "I32", type := (.object "com/example/cogwire/cogwire/wire/TaggedType"), accessFlags := 16409, slot := 5, constantValue := 0 }, { name := "U64", type := (.object "com/example/cogwire/cogwire/wire/TaggedType"), accessFlags := 16409, slot := 6, constantValue := 0 }, { name := "I64", type := (.object "com/example/cogwire/cogwire/wire/TaggedType"), accessFlags := 16409, slot := 7, constantValue := 0 }, { name := "STR", type := (.object "com/example/cogwire/cogwire/wire/TaggedType"), accessFlags := 16409, slot := 8, constantValue := 0 }, { name := "F32", type := (.object "com/example/cogwire/cogwire/wire/TaggedType"), accessFlags := 16409, slot := 9, constantValue := 0 }, { name := "F64", type := (.object "com/example/cogwire/cogwire/wire/TaggedType"), accessFlags := 16409, slot := 10, constantValue := 0 }, { name := "RAW", type := (.object "com/example/cogwire/cogwire/wire/TaggedType"), accessFlags := 16409, slot := 11, constantValue := 0 }, { name := "ALL", type := (.array (.object "com/example/cogwire/cogwire/wire/TaggedType")), accessFlags := 26, slot := 12, constantValue := 0 }, { name := "code", type := .int, accessFlags := 18, slot := 3, constantValue := 0 }, { name := "width", type := .int, accessFlags := 18, slot := 4, constantValue := 0 }, { name := "javaType", type := (.object "java/lang/Class"), accessFlags := 18, slot := 5, constantValue := 0 }, { name := "$VALUES", type := (.array (.object "com/example/cogwire/cogwire/wire/TaggedType")), accessFlags := 4122, slot := 13, constantValue := 0 }]
  methods := #[k6m0]
  instanceTypes := #[(.object "java/lang/String"), .int, .int, .int, .int, (.object "java/lang/Class")]
  staticTypes := #[(.object "com/example/cogwire/cogwire/wire/TaggedType"), (.object "com/example/cogwire/cogwire/wire/TaggedType"), (.object "com/example/cogwire/cogwire/wire/TaggedType"), (.object "com/example/cogwire/cogwire/wire/TaggedType"), (.object "com/example/cogwire/cogwire/wire/TaggedType"), (.object "com/example/cogwire/cogwire/wire/TaggedType"), (.object "com/example/cogwire/cogwire/wire/TaggedType"), (.object "com/example/cogwire/cogwire/wire/TaggedType"), (.object "com/example/cogwire/cogwire/wire/TaggedType"), (.object "com/example/cogwire/cogwire/wire/TaggedType"), (.object "com/example/cogwire/cogwire/wire/TaggedType"), (.object "com/example/cogwire/cogwire/wire/TaggedType"), (.array (.object "com/example/cogwire/cogwire/wire/TaggedType")), (.array (.object "com/example/cogwire/cogwire/wire/TaggedType"))]
  resolved := Array.replicate 151 none
  statics := some 0 }

def pool7 : Array CpInfo := pool [(1, u "java/lang/Cloneable"), (0, .class_ 1), (0, u "java/lang/Object"), (0, .class_ 3)] 3

/-- java/lang/Cloneable -/
def k7 : Class := { plain "java/lang/Cloneable" (some 0) with
  accessFlags := 1537
  interfaces := #[]
  cf := some (fileOf pool7 2 #[] #[] 1537 4 #[] #[])
  fields := #[]
  methods := #[]
  instanceTypes := #[]
  staticTypes := #[]
  resolved := Array.replicate 8 none
  statics := none }

/-- the primitive byte -/
def k8 : Class := { plain "byte" none with kind := .primitive 'B', accessFlags := 0x411 }
/-- [B -/
def k9 : Class := { plain "[B" (some 0) with kind := .array 8 .byte, interfaces := #[7, 4], accessFlags := 1041 }

/-- the primitive int -/
def k10 : Class := { plain "int" none with kind := .primitive 'I', accessFlags := 0x411 }
/-- [I -/
def k11 : Class := { plain "[I" (some 0) with kind := .array 10 .int, interfaces := #[7, 4], accessFlags := 1041 }

/-- [Lcom/example/cogwire/cogwire/wire/TaggedType; -/
def k12 : Class := { plain "[Lcom/example/cogwire/cogwire/wire/TaggedType;" (some 0) with kind := .array 6 (.object "com/example/cogwire/cogwire/wire/TaggedType"), interfaces := #[7, 4], accessFlags := 1041 }

def heap : Heap := #[{ cls := 6, slots := #[.ref 2, .ref 3, .ref 4, .ref 5, .ref 6, .ref 7, .ref 8, .ref 9, .ref 10, .ref 11, .ref 12, .ref 13, .ref 1, .null], vm := .statics 6 },
  { cls := 12, slots := #[.ref 2, .ref 3, .ref 4, .ref 5, .ref 6, .ref 7, .ref 8, .ref 9, .ref 10, .ref 11, .ref 12, .ref 13], vm := .none },
  { cls := 6, slots := #[.null, .int 0, .int 0, .int 1, .int 0, .null], vm := .none },
  { cls := 6, slots := #[.null, .int 1, .int 0, .int 2, .int 0, .null], vm := .none },
  { cls := 6, slots := #[.null, .int 2, .int 0, .int 3, .int 0, .null], vm := .none },
  { cls := 6, slots := #[.null, .int 3, .int 0, .int 4, .int 0, .null], vm := .none },
  { cls := 6, slots := #[.null, .int 4, .int 0, .int 5, .int 0, .null], vm := .none },
  { cls := 6, slots := #[.null, .int 5, .int 0, .int 6, .int 0, .null], vm := .none },
  { cls := 6, slots := #[.null, .int 6, .int 0, .int 7, .int 0, .null], vm := .none },
  { cls := 6, slots := #[.null, .int 7, .int 0, .int 8, .int 0, .null], vm := .none },
  { cls := 6, slots := #[.null, .int 8, .int 0, .int 9, .int 0, .null], vm := .none },
  { cls := 6, slots := #[.null, .int 9, .int 0, .int 10, .int 0, .null], vm := .none },
  { cls := 6, slots := #[.null, .int 10, .int 0, .int 11, .int 0, .null], vm := .none },
  { cls := 6, slots := #[.null, .int 11, .int 0, .int 16, .int 0, .null], vm := .none }]
def classes : Array Class := #[k0, k1, k2, k3, k4, k5, k6, k7, k8, k9, k10, k11, k12]
def interned : List (Array UInt16 × Addr) := []
def slotsUsed : Nat := 98
def theMethod : MethodId := ⟨1, 2⟩
def args0 : Array Value := #[.int 5, .int 7]
def aboutOver (below : List Frame) : State where
  vm := { classes := classes, interned := interned.toArray }
  heap := heap
  slotsUsed := slotsUsed
  threads := #[{ frames := .invoking theMethod args0 :: below }]
def below0 : List Frame := [.native { method := ⟨0, 0⟩, args := #[] }]
def about1 : State := aboutOver below0
def p0 : Program := .bare "" "" ""
def e0 : Env := launch0.env 0 0 0
theorem w_frames : about1.frames = Frame.invoking theMethod args0 :: below0 := rfl
set_option maxRecDepth 65536 in
theorem w_args : argsFit about1.vm theMethod args0 = true := by decide +kernel
set_option maxRecDepth 65536 in
theorem w_heap : heapFits about1 = true := by decide +kernel
set_option maxRecDepth 65536 in
theorem w_runnable : about1.curStatus? = some .runnable := by decide +kernel
set_option maxRecDepth 65536 in
theorem w_alone : about1.alone = true := by decide +kernel
set_option maxRecDepth 65536 in
theorem w_named : about1.methodNamed? x = some theMethod := by decide +kernel
set_option maxRecDepth 65536 in
theorem w_hears : about1.hears theMethod below0 = true := by decide +kernel
set_option maxRecDepth 65536 in
theorem w_ripe : about1.ripe theMethod args0 below0 = true := by decide +kernel
theorem w_running : about1.status = .running := rfl
set_option maxRecDepth 65536 in
theorem w_room : about1.hasRoom e0.platform room_1 = true :=
  launch0.hasRoom_least _ room_1 (by decide +kernel) (by decide +kernel) (by decide +kernel) (by decide +kernel) (by decide +kernel) (by decide +kernel)
theorem allAtoms_all (ts : List Jvm.Cond) (a : Array Jvm.Value) (st : Jvm.State) : (allAtoms ts).before a st = ts.all (fun c => c.before a st) := by
  induction ts with
  | nil => rfl
  | cons c t ih =>
    show (Jvm.Cond.and c (allAtoms t)).before a st = _
    rw [Jvm.Cond.before_and, ih, List.all_cons]
def words1 : List Jvm.Cond := Jvm.Cond.code x code maxLocals ret :: tables_1
/-- a 'code' word, met by the world's own term for the bytes: nothing is compared byte by byte -/
theorem code_word {y : MethodName} {bytes : ByteArray} {mx : Nat} {rt : Option FieldType} {a : Array Value} {s : State} {m : MethodId} {meth : Method} {c : Code} (h1 : s.methodNamed? y = some m) (h2 : s.vm.method? m = some meth) (h3 : meth.code = some c) (h4 : c.code = bytes)
    (h5 : (c.maxLocals == mx && c.exceptionTable.isEmpty && decide (c.maxStack ≤ mostOperands) && decide (meth.sig.returnType = rt) && !meth.locks && decide (parseMethodDescriptor y.desc = some meth.sig)) = true) : (Jvm.Cond.code y bytes mx rt).before a s = true := by
  simp only [Bool.and_eq_true, beq_iff_eq, Bool.not_eq_true', decide_eq_true_eq] at h5
  obtain ⟨⟨⟨⟨⟨g1, g2⟩, g3⟩, g4⟩, g5⟩, g6⟩ := h5
  simp [Cond.before, Cond.holds, Cond.value, h1, h2, h3, h4, g1, g2, g3, g4, g5, g6]
def isCode : Jvm.Cond → Bool
  | .code _ _ _ _ => true
  | _ => false
theorem all_split {L : List Jvm.Cond} {P : Jvm.Cond → Bool} (h1 : L.all (fun c => isCode c || P c) = true) (h2 : ∀ c ∈ L.filter isCode, P c = true) : L.all P = true := by
  refine List.all_eq_true.mpr fun c hc => ?_
  have h := List.all_eq_true.mp h1 c hc
  rcases Bool.eq_false_or_eq_true (isCode c) with hi | hi
  · exact h2 c (List.mem_filter.mpr ⟨hc, hi⟩)
  · simpa [hi] using h
set_option maxRecDepth 65536 in
theorem w_c0 : (Jvm.Cond.code x code maxLocals ret).before args0 about1 = true := code_word (m := ⟨1, 2⟩) (meth := k1m2) (c := k1c2) (by decide +kernel) rfl rfl rfl (by decide +kernel)
set_option maxRecDepth 65536 in
theorem w_c1 : (Jvm.Cond.code ({ cls := "com/example/cogwire/cogwire/wire/TaggedType", name := "of", desc := "(I)Lcom/example/cogwire/cogwire/wire/TaggedType;" } : Jvm.MethodName) prog_165_method_4_code (5 : Nat) (Option.some (Jvm.ClassFile.FieldType.object "com/example/cogwire/cogwire/wire/TaggedType"))).before args0 about1 = true := code_word (m := ⟨6, 0⟩) (meth := k6m0) (c := k6c0) (by decide +kernel) rfl rfl rfl (by decide +kernel)
set_option maxRecDepth 65536 in
theorem w_c2 : (Jvm.Cond.code ({ cls := "com/example/cogwire/cogwire/wire/TaggedTypeOfPinLaw", name := "expected", desc := "(I)Lcom/example/cogwire/cogwire/wire/TaggedType;" } : Jvm.MethodName) method_2_code (1 : Nat) (Option.some (Jvm.ClassFile.FieldType.object "com/example/cogwire/cogwire/wire/TaggedType"))).before args0 about1 = true := code_word (m := ⟨1, 1⟩) (meth := k1m1) (c := k1c1) (by decide +kernel) rfl rfl rfl (by decide +kernel)
def codes1 : List Jvm.Cond := [Jvm.Cond.code x code maxLocals ret, Jvm.Cond.code ({ cls := "com/example/cogwire/cogwire/wire/TaggedType", name := "of", desc := "(I)Lcom/example/cogwire/cogwire/wire/TaggedType;" } : Jvm.MethodName) prog_165_method_4_code (5 : Nat) (Option.some (Jvm.ClassFile.FieldType.object "com/example/cogwire/cogwire/wire/TaggedType")), Jvm.Cond.code ({ cls := "com/example/cogwire/cogwire/wire/TaggedTypeOfPinLaw", name := "expected", desc := "(I)Lcom/example/cogwire/cogwire/wire/TaggedType;" } : Jvm.MethodName) method_2_code (1 : Nat) (Option.some (Jvm.ClassFile.FieldType.object "com/example/cogwire/cogwire/wire/TaggedType"))]
set_option maxRecDepth 65536 in
theorem codes_eq : words1.filter isCode = codes1 := rfl
theorem w_codes : ∀ c ∈ words1.filter isCode, c.before args0 about1 = true := by
  rw [codes_eq]
  intro c hc
  simp only [codes1, List.mem_cons, List.not_mem_nil, or_false] at hc
  rcases hc with rfl | rfl | rfl
  · exact w_c0
  · exact w_c1
  · exact w_c2
set_option maxRecDepth 65536 in
theorem w_t1 : (words1.take 24).all (fun c => isCode c || c.before args0 about1) = true := by decide +kernel
set_option maxRecDepth 65536 in
theorem w_t2 : (words1.drop 24).all (fun c => isCode c || c.before args0 about1) = true := by decide +kernel
theorem w_tables : (allAtoms (Jvm.Cond.code x code maxLocals ret :: tables_1)).before args0 about1 = true := by
  rw [allAtoms_all]
  show words1.all (fun c => c.before args0 about1) = true
  refine all_split ?_ w_codes
  rw [← List.take_append_drop 24 words1, List.all_append, w_t1, w_t2]
  rfl
set_option maxRecDepth 65536 in
theorem w_case : (Jvm.Cond.and given_1 narrow_1).before args0 about1 = true := by decide +kernel
theorem w_applies : (headSpec (Jvm.Cond.code x code maxLocals ret :: tables_1) room_1).applies x e0.platform about1 = true :=
  (Spec.applies_iff w_frames).mpr ⟨w_running, w_runnable, w_alone, w_named, w_hears, w_ripe, w_room, w_tables⟩
theorem atStart : AtStart classFile x code maxLocals ret World_1 tables_1 room_1 Calls_1 rest_1 Pre_1 launch0 p0 e0 about1 theMethod args0 below0 :=
  ⟨lists_1, trivial, launch0.admits_env _ _ _, launch0.least_env, fairChoices_fair.cas, fairChoices_fair.clock, w_frames, w_args, w_heap, w_applies, trivial, trivial, w_case⟩
end start1
theorem witness_1 : WitnessClaimed_1 := ⟨start1.p0, start1.e0, start1.about1, start1.theMethod, start1.args0, start1.below0, start1.atStart⟩
end Jvm.Pilot.@@N@@
