import JvmDerived
import JvmDerived.Pilot.@@N@@Statement
import JvmDerived.Pilot.@@N@@Code
set_option linter.unusedVariables false
set_option linter.unusedSimpArgs false
namespace Jvm.RoadKit
open Sem ClassFile Op Lib Jvm.Stand Jvm.Free Jvm.LawKit
section New
variable {p : Program} {l : Launch} {e : Env} {R : Room} {s : State} {m : MethodId} {args : Array Value} {below : List Frame} {meth : Method} {c : Code} {T : State} {locs : List Loc} {cells slots : Nat}
theorem retI (X : Stand p l e R s m args below meth c T locs cells slots) (hx : p.tables.exec = Jvm.exec) {pc : Nat} {Ls : Array Slot} {z : Int32} {rest : List Value} (hret : meth.sig.returnType = some .int) (hd : decode c.code pc = .ok (.ireturn, 1)) {fs : List Frame}
    (hl : ∀ (f : JFrame) (acts : List Action), f.method = m → f.locked = none → f.entered = [] → (doReturn e (T.setTop f) acts (some (.int z))).1 = T.setFrames fs) : Steps p.tables e below (T.setTop (mkF m pc Ls (.int z :: rest))) (T.setFrames fs) := by
  have hm' : T.vm.method? m = some meth := X.method'
  have hn : narrow .int (.int z) = .int z := rfl
  show Steps p.tables e below (T.setTop { method := m, pc := pc, locals := Ls, stack := _ :: rest, locked := none }) _
  jvm_step X.here [X.here.top, hx, hd, hm', hret, hn]
  first | (intro acts; rw [hl _ acts rfl rfl rfl]) | rw [hl _ _ rfl rfl rfl]
  exact Steps.refl _
theorem retA (X : Stand p l e R s m args below meth c T locs cells slots) (hx : p.tables.exec = Jvm.exec) {pc : Nat} {Ls : Array Slot} {v : Value} {t : FieldType} (ht : t.isReference = true) (hv : v.isRef = true) (hret : meth.sig.returnType = some t) (hd : decode c.code pc = .ok (.areturn, 1)) {fs : List Frame}
    (hl : ∀ (f : JFrame) (acts : List Action), f.method = m → f.locked = none → f.entered = [] → (doReturn e (T.setTop f) acts (some v)).1 = T.setFrames fs) : Steps p.tables e below (T.setTop (mkF m pc Ls [v])) (T.setFrames fs) := by
  have hm' : T.vm.method? m = some meth := X.method'
  show Steps p.tables e below (T.setTop { method := m, pc := pc, locals := Ls, stack := [v], locked := none }) _
  jvm_step X.here [X.here.top, hx, hd, hm', hret, hv, ht]
  first | (intro acts; rw [hl _ acts rfl rfl rfl]) | rw [hl _ _ rfl rfl rfl]
  exact Steps.refl _
end New
end Jvm.RoadKit
namespace Jvm.Pilot.@@N@@
open Jvm Jvm.ClassFile Sem Op Lib Jvm.Free Jvm.Stand Jvm.LawKit Jvm.RoadKit Bundle Jvm.Pilot.@@N@@.Jvm.D
/-- from A the invocation comes to its end: it returns some v, P holds of v, of the heap and of the places written, and the frame is kept -/
def Rt (p : Program) (e : Env) (below : List Frame) (s : State) (k n : Nat) (P : Option Value → Heap → List Loc → Prop) (A : State) : Prop :=
  ∃ s₂ o, Steps p.tables e below A s₂ ∧ s₂.status = .running ∧ Ended s₂ below o ∧ ∃ v L, o = .returned v ∧ P v s₂.heap L ∧ FrameEnd s o s₂ L k n
/-- where the walk stands: its heap, and that all it wrote lies at n0 or above -/
def Sd (p : Program) (l : Launch) (e : Env) (R : Room) (s : State) (m : MethodId) (args : Array Value) (below : List Frame) (meth : Method) (c : Code) (T : State) (n0 cells slots : Nat) (h : Heap) : Prop :=
  ∃ locs, Stand p l e R s m args below meth c T locs cells slots ∧ Fr n0 locs ∧ T.heap = h
def lcv (j : Fin 2) : Int64 := Int64.ofNat j.val
section Own
variable {p : Program} {l : Launch} {e : Env} {R : Room} {s : State} {m : MethodId} {args : Array Value} {below : List Frame} {meth : Method} {c : Code} {T : State} {n0 cells slots : Nat} {h0 : Heap} {k n : Nat} {P : Option Value → Heap → List Loc → Prop}
theorem Rt.go {A B : State} (f : ∀ t, Steps p.tables e below B t → Steps p.tables e below A t) (h : Rt p e below s k n P B) : Rt p e below s k n P A := by
  obtain ⟨s₂, o, h1, h2⟩ := h
  exact ⟨s₂, o, f _ h1, h2⟩
theorem Rt.mono {Q : Option Value → Heap → List Loc → Prop} {A : State} (h : Rt p e below s k n Q A) (q : ∀ v h L, Q v h L → P v h L) : Rt p e below s k n P A := by
  obtain ⟨s₂, o, h1, h2, h3, v, L, h4, h5, h6⟩ := h
  exact ⟨s₂, o, h1, h2, h3, v, L, h4, q _ _ _ h5, h6⟩
theorem Rt.iloadN (X : Sd p l e R s m args below meth c T n0 cells slots h0) (hx : p.tables.exec = Jvm.exec) {pc pc' : Nat} {Ls : Array Slot} {S : List Value} {j : Fin 4} {v : Int32} (hd : decode c.code pc = .ok (.iload_n j, 1)) (hl : Ls[j.val]? = some (.val (.int v))) (hp : pc + 1 = pc')
    (h : Rt p e below s k n P (T.setTop (mkF m pc' Ls (.int v :: S)))) : Rt p e below s k n P (T.setTop (mkF m pc Ls (S))) := by
  subst hp; obtain ⟨_, X, _, _⟩ := X; exact Rt.go (fun _ => XS.iloadN X.here hx rfl hd hl) h
theorem Rt.iload (X : Sd p l e R s m args below meth c T n0 cells slots h0) (hx : p.tables.exec = Jvm.exec) {pc pc' : Nat} {Ls : Array Slot} {S : List Value} {j : Nat} {v : Int32} (hd : decode c.code pc = .ok (.iload j, 2)) (hl : Ls[j]? = some (.val (.int v))) (hp : pc + 2 = pc')
    (h : Rt p e below s k n P (T.setTop (mkF m pc' Ls (.int v :: S)))) : Rt p e below s k n P (T.setTop (mkF m pc Ls (S))) := by
  subst hp; obtain ⟨_, X, _, _⟩ := X; exact Rt.go (fun _ => XS.iload X.here hx rfl hd hl) h
theorem Rt.istoreN (X : Sd p l e R s m args below meth c T n0 cells slots h0) (hx : p.tables.exec = Jvm.exec) {pc pc' : Nat} {Ls : Array Slot} {S : List Value} {j : Fin 4} {v : Int32} {l' : Array Slot} (hd : decode c.code pc = .ok (.istore_n j, 1)) (hl : storeLocals Ls j.val (.int v) = some l') (hp : pc + 1 = pc')
    (h : Rt p e below s k n P (T.setTop (mkF m pc' l' (S)))) : Rt p e below s k n P (T.setTop (mkF m pc Ls (.int v :: S))) := by
  subst hp; obtain ⟨_, X, _, _⟩ := X; exact Rt.go (fun _ => XS.istoreN X.here hx rfl hd rfl hl) h
theorem Rt.istore (X : Sd p l e R s m args below meth c T n0 cells slots h0) (hx : p.tables.exec = Jvm.exec) {pc pc' : Nat} {Ls : Array Slot} {S : List Value} {j : Nat} {v : Int32} {l' : Array Slot} (hd : decode c.code pc = .ok (.istore j, 2)) (hl : storeLocals Ls j (.int v) = some l') (hp : pc + 2 = pc')
    (h : Rt p e below s k n P (T.setTop (mkF m pc' l' (S)))) : Rt p e below s k n P (T.setTop (mkF m pc Ls (.int v :: S))) := by
  subst hp; obtain ⟨_, X, _, _⟩ := X; exact Rt.go (fun _ => XS.istore X.here hx rfl hd rfl hl) h
theorem Rt.lloadN (X : Sd p l e R s m args below meth c T n0 cells slots h0) (hx : p.tables.exec = Jvm.exec) {pc pc' : Nat} {Ls : Array Slot} {S : List Value} {j : Fin 4} {v : Int64} (hd : decode c.code pc = .ok (.lload_n j, 1)) (hl : Ls[j.val]? = some (.val (.long v))) (hp : pc + 1 = pc')
    (h : Rt p e below s k n P (T.setTop (mkF m pc' Ls (.long v :: S)))) : Rt p e below s k n P (T.setTop (mkF m pc Ls (S))) := by
  subst hp; obtain ⟨_, X, _, _⟩ := X; exact Rt.go (fun _ => XS.lloadN X.here hx rfl hd hl) h
theorem Rt.lload (X : Sd p l e R s m args below meth c T n0 cells slots h0) (hx : p.tables.exec = Jvm.exec) {pc pc' : Nat} {Ls : Array Slot} {S : List Value} {j : Nat} {v : Int64} (hd : decode c.code pc = .ok (.lload j, 2)) (hl : Ls[j]? = some (.val (.long v))) (hp : pc + 2 = pc')
    (h : Rt p e below s k n P (T.setTop (mkF m pc' Ls (.long v :: S)))) : Rt p e below s k n P (T.setTop (mkF m pc Ls (S))) := by
  subst hp; obtain ⟨_, X, _, _⟩ := X; exact Rt.go (fun _ => XS.lload X.here hx rfl hd hl) h
theorem Rt.lstoreN (X : Sd p l e R s m args below meth c T n0 cells slots h0) (hx : p.tables.exec = Jvm.exec) {pc pc' : Nat} {Ls : Array Slot} {S : List Value} {j : Fin 4} {v : Int64} {l' : Array Slot} (hd : decode c.code pc = .ok (.lstore_n j, 1)) (hl : storeLocals Ls j.val (.long v) = some l') (hp : pc + 1 = pc')
    (h : Rt p e below s k n P (T.setTop (mkF m pc' l' (S)))) : Rt p e below s k n P (T.setTop (mkF m pc Ls (.long v :: S))) := by
  subst hp; obtain ⟨_, X, _, _⟩ := X; exact Rt.go (fun _ => XS.lstoreN X.here hx rfl hd rfl hl) h
theorem Rt.lstore (X : Sd p l e R s m args below meth c T n0 cells slots h0) (hx : p.tables.exec = Jvm.exec) {pc pc' : Nat} {Ls : Array Slot} {S : List Value} {j : Nat} {v : Int64} {l' : Array Slot} (hd : decode c.code pc = .ok (.lstore j, 2)) (hl : storeLocals Ls j (.long v) = some l') (hp : pc + 2 = pc')
    (h : Rt p e below s k n P (T.setTop (mkF m pc' l' (S)))) : Rt p e below s k n P (T.setTop (mkF m pc Ls (.long v :: S))) := by
  subst hp; obtain ⟨_, X, _, _⟩ := X; exact Rt.go (fun _ => XS.lstore X.here hx rfl hd rfl hl) h
theorem Rt.aloadN (X : Sd p l e R s m args below meth c T n0 cells slots h0) (hx : p.tables.exec = Jvm.exec) {pc pc' : Nat} {Ls : Array Slot} {S : List Value} {j : Fin 4} {v : Value} (hd : decode c.code pc = .ok (.aload_n j, 1)) (hl : Ls[j.val]? = some (.val v)) (hv : v.isRef = true) (hp : pc + 1 = pc')
    (h : Rt p e below s k n P (T.setTop (mkF m pc' Ls (v :: S)))) : Rt p e below s k n P (T.setTop (mkF m pc Ls (S))) := by
  subst hp; obtain ⟨_, X, _, _⟩ := X; exact Rt.go (fun _ => XS.aloadN X.here hx rfl hd hl hv) h
theorem Rt.aload (X : Sd p l e R s m args below meth c T n0 cells slots h0) (hx : p.tables.exec = Jvm.exec) {pc pc' : Nat} {Ls : Array Slot} {S : List Value} {j : Nat} {v : Value} (hd : decode c.code pc = .ok (.aload j, 2)) (hl : Ls[j]? = some (.val v)) (hv : v.isRef = true) (hp : pc + 2 = pc')
    (h : Rt p e below s k n P (T.setTop (mkF m pc' Ls (v :: S)))) : Rt p e below s k n P (T.setTop (mkF m pc Ls (S))) := by
  subst hp; obtain ⟨_, X, _, _⟩ := X; exact Rt.go (fun _ => XS.aload X.here hx rfl hd hl hv) h
theorem Rt.astoreN (X : Sd p l e R s m args below meth c T n0 cells slots h0) (hx : p.tables.exec = Jvm.exec) {pc pc' : Nat} {Ls : Array Slot} {S : List Value} {j : Fin 4} {v : Value} {l' : Array Slot} (hd : decode c.code pc = .ok (.astore_n j, 1)) (hv : v.isRef = true) (hl : storeLocals Ls j.val v = some l') (hp : pc + 1 = pc')
    (h : Rt p e below s k n P (T.setTop (mkF m pc' l' (S)))) : Rt p e below s k n P (T.setTop (mkF m pc Ls (v :: S))) := by
  subst hp; obtain ⟨_, X, _, _⟩ := X; exact Rt.go (fun _ => XS.astoreN X.here hx rfl hd rfl hv hl) h
theorem Rt.astore (X : Sd p l e R s m args below meth c T n0 cells slots h0) (hx : p.tables.exec = Jvm.exec) {pc pc' : Nat} {Ls : Array Slot} {S : List Value} {j : Nat} {v : Value} {l' : Array Slot} (hd : decode c.code pc = .ok (.astore j, 2)) (hv : v.isRef = true) (hl : storeLocals Ls j v = some l') (hp : pc + 2 = pc')
    (h : Rt p e below s k n P (T.setTop (mkF m pc' l' (S)))) : Rt p e below s k n P (T.setTop (mkF m pc Ls (v :: S))) := by
  subst hp; obtain ⟨_, X, _, _⟩ := X; exact Rt.go (fun _ => XS.astore X.here hx rfl hd rfl hv hl) h
theorem Rt.iconst (X : Sd p l e R s m args below meth c T n0 cells slots h0) (hx : p.tables.exec = Jvm.exec) {pc pc' : Nat} {Ls : Array Slot} {S : List Value} {i : Int} {v : Int32} (hd : decode c.code pc = .ok (.iconst i, 1)) (hv : Int32.ofInt i = v) (hp : pc + 1 = pc')
    (h : Rt p e below s k n P (T.setTop (mkF m pc' Ls (.int v :: S)))) : Rt p e below s k n P (T.setTop (mkF m pc Ls S)) := by
  subst hp hv; obtain ⟨_, X, _, _⟩ := X; exact Rt.go (fun _ => XS.iconst X.here hx rfl hd) h
theorem Rt.bipush (X : Sd p l e R s m args below meth c T n0 cells slots h0) (hx : p.tables.exec = Jvm.exec) {pc pc' : Nat} {Ls : Array Slot} {S : List Value} {i : Int} {v : Int32} (hd : decode c.code pc = .ok (.bipush i, 2)) (hv : (Int8.ofInt i).toInt32 = v) (hp : pc + 2 = pc')
    (h : Rt p e below s k n P (T.setTop (mkF m pc' Ls (.int v :: S)))) : Rt p e below s k n P (T.setTop (mkF m pc Ls S)) := by
  subst hp hv; obtain ⟨_, X, _, _⟩ := X; exact Rt.go (fun _ => XS.bipush X.here hx rfl hd) h
theorem Rt.sipush (X : Sd p l e R s m args below meth c T n0 cells slots h0) (hx : p.tables.exec = Jvm.exec) {pc pc' : Nat} {Ls : Array Slot} {S : List Value} {i : Int} {v : Int32} (hd : decode c.code pc = .ok (.sipush i, 3)) (hv : (Int16.ofInt i).toInt32 = v) (hp : pc + 3 = pc')
    (h : Rt p e below s k n P (T.setTop (mkF m pc' Ls (.int v :: S)))) : Rt p e below s k n P (T.setTop (mkF m pc Ls S)) := by
  subst hp hv; obtain ⟨_, X, _, _⟩ := X; exact Rt.go (fun _ => XS.sipush X.here hx rfl hd) h
theorem Rt.lconst (X : Sd p l e R s m args below meth c T n0 cells slots h0) (hx : p.tables.exec = Jvm.exec) {pc pc' : Nat} {Ls : Array Slot} {S : List Value} {i : Fin 2} {v : Int64} (hd : decode c.code pc = .ok (.lconst i, 1)) (hv : lcv i = v) (hp : pc + 1 = pc')
    (h : Rt p e below s k n P (T.setTop (mkF m pc' Ls (.long v :: S)))) : Rt p e below s k n P (T.setTop (mkF m pc Ls S)) := by
  subst hp hv; obtain ⟨_, X, _, _⟩ := X; exact Rt.go (fun _ => XS.lconst X.here hx rfl hd) h
theorem Rt.aconstNull (X : Sd p l e R s m args below meth c T n0 cells slots h0) (hx : p.tables.exec = Jvm.exec) {pc pc' : Nat} {Ls : Array Slot} {S : List Value}  (hd : decode c.code pc = .ok (.aconst_null, 1)) (hp : pc + 1 = pc')
    (h : Rt p e below s k n P (T.setTop (mkF m pc' Ls (.null :: S)))) : Rt p e below s k n P (T.setTop (mkF m pc Ls (S))) := by
  subst hp; obtain ⟨_, X, _, _⟩ := X; exact Rt.go (fun _ => XS.aconstNull X.here hx rfl hd ) h
theorem Rt.iadd (X : Sd p l e R s m args below meth c T n0 cells slots h0) (hx : p.tables.exec = Jvm.exec) {pc pc' : Nat} {Ls : Array Slot} {S : List Value} {x y r : Int32} (hd : decode c.code pc = .ok (.iadd, 1)) (hr : x + y = r) (hp : pc + 1 = pc')
    (h : Rt p e below s k n P (T.setTop (mkF m pc' Ls (.int r :: S)))) : Rt p e below s k n P (T.setTop (mkF m pc Ls (.int y :: .int x :: S))) := by
  subst hp hr; obtain ⟨_, X, _, _⟩ := X; exact Rt.go (fun _ => XS.iadd X.here hx rfl hd rfl) h
theorem Rt.isub (X : Sd p l e R s m args below meth c T n0 cells slots h0) (hx : p.tables.exec = Jvm.exec) {pc pc' : Nat} {Ls : Array Slot} {S : List Value} {x y r : Int32} (hd : decode c.code pc = .ok (.isub, 1)) (hr : x - y = r) (hp : pc + 1 = pc')
    (h : Rt p e below s k n P (T.setTop (mkF m pc' Ls (.int r :: S)))) : Rt p e below s k n P (T.setTop (mkF m pc Ls (.int y :: .int x :: S))) := by
  subst hp hr; obtain ⟨_, X, _, _⟩ := X; exact Rt.go (fun _ => XS.isub X.here hx rfl hd rfl) h
theorem Rt.imul (X : Sd p l e R s m args below meth c T n0 cells slots h0) (hx : p.tables.exec = Jvm.exec) {pc pc' : Nat} {Ls : Array Slot} {S : List Value} {x y r : Int32} (hd : decode c.code pc = .ok (.imul, 1)) (hr : x * y = r) (hp : pc + 1 = pc')
    (h : Rt p e below s k n P (T.setTop (mkF m pc' Ls (.int r :: S)))) : Rt p e below s k n P (T.setTop (mkF m pc Ls (.int y :: .int x :: S))) := by
  subst hp hr; obtain ⟨_, X, _, _⟩ := X; exact Rt.go (fun _ => XS.imul X.here hx rfl hd rfl) h
theorem Rt.iand (X : Sd p l e R s m args below meth c T n0 cells slots h0) (hx : p.tables.exec = Jvm.exec) {pc pc' : Nat} {Ls : Array Slot} {S : List Value} {x y r : Int32} (hd : decode c.code pc = .ok (.iand, 1)) (hr : x &&& y = r) (hp : pc + 1 = pc')
    (h : Rt p e below s k n P (T.setTop (mkF m pc' Ls (.int r :: S)))) : Rt p e below s k n P (T.setTop (mkF m pc Ls (.int y :: .int x :: S))) := by
  subst hp hr; obtain ⟨_, X, _, _⟩ := X; exact Rt.go (fun _ => XS.iand X.here hx rfl hd rfl) h
theorem Rt.ior (X : Sd p l e R s m args below meth c T n0 cells slots h0) (hx : p.tables.exec = Jvm.exec) {pc pc' : Nat} {Ls : Array Slot} {S : List Value} {x y r : Int32} (hd : decode c.code pc = .ok (.ior, 1)) (hr : x ||| y = r) (hp : pc + 1 = pc')
    (h : Rt p e below s k n P (T.setTop (mkF m pc' Ls (.int r :: S)))) : Rt p e below s k n P (T.setTop (mkF m pc Ls (.int y :: .int x :: S))) := by
  subst hp hr; obtain ⟨_, X, _, _⟩ := X; exact Rt.go (fun _ => XS.ior X.here hx rfl hd rfl) h
theorem Rt.ixor (X : Sd p l e R s m args below meth c T n0 cells slots h0) (hx : p.tables.exec = Jvm.exec) {pc pc' : Nat} {Ls : Array Slot} {S : List Value} {x y r : Int32} (hd : decode c.code pc = .ok (.ixor, 1)) (hr : x ^^^ y = r) (hp : pc + 1 = pc')
    (h : Rt p e below s k n P (T.setTop (mkF m pc' Ls (.int r :: S)))) : Rt p e below s k n P (T.setTop (mkF m pc Ls (.int y :: .int x :: S))) := by
  subst hp hr; obtain ⟨_, X, _, _⟩ := X; exact Rt.go (fun _ => XS.ixor X.here hx rfl hd rfl) h
theorem Rt.ishl (X : Sd p l e R s m args below meth c T n0 cells slots h0) (hx : p.tables.exec = Jvm.exec) {pc pc' : Nat} {Ls : Array Slot} {S : List Value} {x y r : Int32} (hd : decode c.code pc = .ok (.ishl, 1)) (hr : x <<< (y &&& 31) = r) (hp : pc + 1 = pc')
    (h : Rt p e below s k n P (T.setTop (mkF m pc' Ls (.int r :: S)))) : Rt p e below s k n P (T.setTop (mkF m pc Ls (.int y :: .int x :: S))) := by
  subst hp hr; obtain ⟨_, X, _, _⟩ := X; exact Rt.go (fun _ => XS.ishl X.here hx rfl hd rfl) h
theorem Rt.ishr (X : Sd p l e R s m args below meth c T n0 cells slots h0) (hx : p.tables.exec = Jvm.exec) {pc pc' : Nat} {Ls : Array Slot} {S : List Value} {x y r : Int32} (hd : decode c.code pc = .ok (.ishr, 1)) (hr : x >>> (y &&& 31) = r) (hp : pc + 1 = pc')
    (h : Rt p e below s k n P (T.setTop (mkF m pc' Ls (.int r :: S)))) : Rt p e below s k n P (T.setTop (mkF m pc Ls (.int y :: .int x :: S))) := by
  subst hp hr; obtain ⟨_, X, _, _⟩ := X; exact Rt.go (fun _ => XS.ishr X.here hx rfl hd rfl) h
theorem Rt.iushr (X : Sd p l e R s m args below meth c T n0 cells slots h0) (hx : p.tables.exec = Jvm.exec) {pc pc' : Nat} {Ls : Array Slot} {S : List Value} {x y r : Int32} (hd : decode c.code pc = .ok (.iushr, 1)) (hr : (x.toUInt32 >>> (y &&& 31).toUInt32).toInt32 = r) (hp : pc + 1 = pc')
    (h : Rt p e below s k n P (T.setTop (mkF m pc' Ls (.int r :: S)))) : Rt p e below s k n P (T.setTop (mkF m pc Ls (.int y :: .int x :: S))) := by
  subst hp hr; obtain ⟨_, X, _, _⟩ := X; exact Rt.go (fun _ => XS.iushr X.here hx rfl hd rfl) h
theorem Rt.ladd (X : Sd p l e R s m args below meth c T n0 cells slots h0) (hx : p.tables.exec = Jvm.exec) {pc pc' : Nat} {Ls : Array Slot} {S : List Value} {x y r : Int64} (hd : decode c.code pc = .ok (.ladd, 1)) (hr : x + y = r) (hp : pc + 1 = pc')
    (h : Rt p e below s k n P (T.setTop (mkF m pc' Ls (.long r :: S)))) : Rt p e below s k n P (T.setTop (mkF m pc Ls (.long y :: .long x :: S))) := by
  subst hp hr; obtain ⟨_, X, _, _⟩ := X; exact Rt.go (fun _ => XS.ladd X.here hx rfl hd rfl) h
theorem Rt.lsub (X : Sd p l e R s m args below meth c T n0 cells slots h0) (hx : p.tables.exec = Jvm.exec) {pc pc' : Nat} {Ls : Array Slot} {S : List Value} {x y r : Int64} (hd : decode c.code pc = .ok (.lsub, 1)) (hr : x - y = r) (hp : pc + 1 = pc')
    (h : Rt p e below s k n P (T.setTop (mkF m pc' Ls (.long r :: S)))) : Rt p e below s k n P (T.setTop (mkF m pc Ls (.long y :: .long x :: S))) := by
  subst hp hr; obtain ⟨_, X, _, _⟩ := X; exact Rt.go (fun _ => XS.lsub X.here hx rfl hd rfl) h
theorem Rt.lmul (X : Sd p l e R s m args below meth c T n0 cells slots h0) (hx : p.tables.exec = Jvm.exec) {pc pc' : Nat} {Ls : Array Slot} {S : List Value} {x y r : Int64} (hd : decode c.code pc = .ok (.lmul, 1)) (hr : x * y = r) (hp : pc + 1 = pc')
    (h : Rt p e below s k n P (T.setTop (mkF m pc' Ls (.long r :: S)))) : Rt p e below s k n P (T.setTop (mkF m pc Ls (.long y :: .long x :: S))) := by
  subst hp hr; obtain ⟨_, X, _, _⟩ := X; exact Rt.go (fun _ => XS.lmul X.here hx rfl hd rfl) h
theorem Rt.land (X : Sd p l e R s m args below meth c T n0 cells slots h0) (hx : p.tables.exec = Jvm.exec) {pc pc' : Nat} {Ls : Array Slot} {S : List Value} {x y r : Int64} (hd : decode c.code pc = .ok (.land, 1)) (hr : x &&& y = r) (hp : pc + 1 = pc')
    (h : Rt p e below s k n P (T.setTop (mkF m pc' Ls (.long r :: S)))) : Rt p e below s k n P (T.setTop (mkF m pc Ls (.long y :: .long x :: S))) := by
  subst hp hr; obtain ⟨_, X, _, _⟩ := X; exact Rt.go (fun _ => XS.land X.here hx rfl hd rfl) h
theorem Rt.lor (X : Sd p l e R s m args below meth c T n0 cells slots h0) (hx : p.tables.exec = Jvm.exec) {pc pc' : Nat} {Ls : Array Slot} {S : List Value} {x y r : Int64} (hd : decode c.code pc = .ok (.lor, 1)) (hr : x ||| y = r) (hp : pc + 1 = pc')
    (h : Rt p e below s k n P (T.setTop (mkF m pc' Ls (.long r :: S)))) : Rt p e below s k n P (T.setTop (mkF m pc Ls (.long y :: .long x :: S))) := by
  subst hp hr; obtain ⟨_, X, _, _⟩ := X; exact Rt.go (fun _ => XS.lor X.here hx rfl hd rfl) h
theorem Rt.lxor (X : Sd p l e R s m args below meth c T n0 cells slots h0) (hx : p.tables.exec = Jvm.exec) {pc pc' : Nat} {Ls : Array Slot} {S : List Value} {x y r : Int64} (hd : decode c.code pc = .ok (.lxor, 1)) (hr : x ^^^ y = r) (hp : pc + 1 = pc')
    (h : Rt p e below s k n P (T.setTop (mkF m pc' Ls (.long r :: S)))) : Rt p e below s k n P (T.setTop (mkF m pc Ls (.long y :: .long x :: S))) := by
  subst hp hr; obtain ⟨_, X, _, _⟩ := X; exact Rt.go (fun _ => XS.lxor X.here hx rfl hd rfl) h
theorem Rt.lshl (X : Sd p l e R s m args below meth c T n0 cells slots h0) (hx : p.tables.exec = Jvm.exec) {pc pc' : Nat} {Ls : Array Slot} {S : List Value} {x r : Int64} {y : Int32} (hd : decode c.code pc = .ok (.lshl, 1)) (hr : x <<< (y &&& 0x3f).toInt64 = r) (hp : pc + 1 = pc')
    (h : Rt p e below s k n P (T.setTop (mkF m pc' Ls (.long r :: S)))) : Rt p e below s k n P (T.setTop (mkF m pc Ls (.int y :: .long x :: S))) := by
  subst hp hr; obtain ⟨_, X, _, _⟩ := X; exact Rt.go (fun _ => XS.lshl X.here hx rfl hd rfl) h
theorem Rt.lshr (X : Sd p l e R s m args below meth c T n0 cells slots h0) (hx : p.tables.exec = Jvm.exec) {pc pc' : Nat} {Ls : Array Slot} {S : List Value} {x r : Int64} {y : Int32} (hd : decode c.code pc = .ok (.lshr, 1)) (hr : x >>> (y &&& 0x3f).toInt64 = r) (hp : pc + 1 = pc')
    (h : Rt p e below s k n P (T.setTop (mkF m pc' Ls (.long r :: S)))) : Rt p e below s k n P (T.setTop (mkF m pc Ls (.int y :: .long x :: S))) := by
  subst hp hr; obtain ⟨_, X, _, _⟩ := X; exact Rt.go (fun _ => XS.lshr X.here hx rfl hd rfl) h
theorem Rt.lushr (X : Sd p l e R s m args below meth c T n0 cells slots h0) (hx : p.tables.exec = Jvm.exec) {pc pc' : Nat} {Ls : Array Slot} {S : List Value} {x r : Int64} {y : Int32} (hd : decode c.code pc = .ok (.lushr, 1)) (hr : (x.toUInt64 >>> (y &&& 0x3f).toInt64.toUInt64).toInt64 = r) (hp : pc + 1 = pc')
    (h : Rt p e below s k n P (T.setTop (mkF m pc' Ls (.long r :: S)))) : Rt p e below s k n P (T.setTop (mkF m pc Ls (.int y :: .long x :: S))) := by
  subst hp hr; obtain ⟨_, X, _, _⟩ := X; exact Rt.go (fun _ => XS.lushr X.here hx rfl hd rfl) h
theorem Rt.idiv (X : Sd p l e R s m args below meth c T n0 cells slots h0) (hx : p.tables.exec = Jvm.exec) {pc pc' : Nat} {Ls : Array Slot} {S : List Value} {x y r : Int32} (hd : decode c.code pc = .ok (.idiv, 1)) (hy : y ≠ 0) (hr : x / y = r) (hp : pc + 1 = pc')
    (h : Rt p e below s k n P (T.setTop (mkF m pc' Ls (.int r :: S)))) : Rt p e below s k n P (T.setTop (mkF m pc Ls (.int y :: .int x :: S))) := by
  subst hp hr; obtain ⟨_, X, _, _⟩ := X; exact Rt.go (fun _ => XS.idiv X.here hx rfl hd rfl hy) h
theorem Rt.irem (X : Sd p l e R s m args below meth c T n0 cells slots h0) (hx : p.tables.exec = Jvm.exec) {pc pc' : Nat} {Ls : Array Slot} {S : List Value} {x y r : Int32} (hd : decode c.code pc = .ok (.irem, 1)) (hy : y ≠ 0) (hr : x % y = r) (hp : pc + 1 = pc')
    (h : Rt p e below s k n P (T.setTop (mkF m pc' Ls (.int r :: S)))) : Rt p e below s k n P (T.setTop (mkF m pc Ls (.int y :: .int x :: S))) := by
  subst hp hr; obtain ⟨_, X, _, _⟩ := X; exact Rt.go (fun _ => iremM X hx rfl hd rfl hy) h
theorem Rt.ldiv (X : Sd p l e R s m args below meth c T n0 cells slots h0) (hx : p.tables.exec = Jvm.exec) {pc pc' : Nat} {Ls : Array Slot} {S : List Value} {x y r : Int64} (hd : decode c.code pc = .ok (.ldiv, 1)) (hy : y ≠ 0) (hr : x / y = r) (hp : pc + 1 = pc')
    (h : Rt p e below s k n P (T.setTop (mkF m pc' Ls (.long r :: S)))) : Rt p e below s k n P (T.setTop (mkF m pc Ls (.long y :: .long x :: S))) := by
  subst hp hr; obtain ⟨_, X, _, _⟩ := X; exact Rt.go (fun _ => XS.ldiv X.here hx rfl hd rfl hy) h
theorem Rt.lrem (X : Sd p l e R s m args below meth c T n0 cells slots h0) (hx : p.tables.exec = Jvm.exec) {pc pc' : Nat} {Ls : Array Slot} {S : List Value} {x y r : Int64} (hd : decode c.code pc = .ok (.lrem, 1)) (hy : y ≠ 0) (hr : x - (x / y) * y = r) (hp : pc + 1 = pc')
    (h : Rt p e below s k n P (T.setTop (mkF m pc' Ls (.long r :: S)))) : Rt p e below s k n P (T.setTop (mkF m pc Ls (.long y :: .long x :: S))) := by
  subst hp hr; obtain ⟨_, X, _, _⟩ := X; exact Rt.go (fun _ => XS.lrem X.here hx rfl hd rfl hy) h
theorem Rt.ineg (X : Sd p l e R s m args below meth c T n0 cells slots h0) (hx : p.tables.exec = Jvm.exec) {pc pc' : Nat} {Ls : Array Slot} {S : List Value} {v : Int32} {r : Int32} (hd : decode c.code pc = .ok (.ineg, 1)) (hr : -v = r) (hp : pc + 1 = pc')
    (h : Rt p e below s k n P (T.setTop (mkF m pc' Ls (.int r :: S)))) : Rt p e below s k n P (T.setTop (mkF m pc Ls (.int v :: S))) := by
  subst hp hr; obtain ⟨_, X, _, _⟩ := X; exact Rt.go (fun _ => XS.ineg X.here hx rfl hd rfl) h
theorem Rt.lneg (X : Sd p l e R s m args below meth c T n0 cells slots h0) (hx : p.tables.exec = Jvm.exec) {pc pc' : Nat} {Ls : Array Slot} {S : List Value} {v : Int64} {r : Int64} (hd : decode c.code pc = .ok (.lneg, 1)) (hr : -v = r) (hp : pc + 1 = pc')
    (h : Rt p e below s k n P (T.setTop (mkF m pc' Ls (.long r :: S)))) : Rt p e below s k n P (T.setTop (mkF m pc Ls (.long v :: S))) := by
  subst hp hr; obtain ⟨_, X, _, _⟩ := X; exact Rt.go (fun _ => XS.lneg X.here hx rfl hd rfl) h
theorem Rt.i2l (X : Sd p l e R s m args below meth c T n0 cells slots h0) (hx : p.tables.exec = Jvm.exec) {pc pc' : Nat} {Ls : Array Slot} {S : List Value} {v : Int32} {r : Int64} (hd : decode c.code pc = .ok (.i2l, 1)) (hr : v.toInt64 = r) (hp : pc + 1 = pc')
    (h : Rt p e below s k n P (T.setTop (mkF m pc' Ls (.long r :: S)))) : Rt p e below s k n P (T.setTop (mkF m pc Ls (.int v :: S))) := by
  subst hp hr; obtain ⟨_, X, _, _⟩ := X; exact Rt.go (fun _ => XS.i2l X.here hx rfl hd rfl) h
theorem Rt.l2i (X : Sd p l e R s m args below meth c T n0 cells slots h0) (hx : p.tables.exec = Jvm.exec) {pc pc' : Nat} {Ls : Array Slot} {S : List Value} {v : Int64} {r : Int32} (hd : decode c.code pc = .ok (.l2i, 1)) (hr : v.toInt32 = r) (hp : pc + 1 = pc')
    (h : Rt p e below s k n P (T.setTop (mkF m pc' Ls (.int r :: S)))) : Rt p e below s k n P (T.setTop (mkF m pc Ls (.long v :: S))) := by
  subst hp hr; obtain ⟨_, X, _, _⟩ := X; exact Rt.go (fun _ => XS.l2i X.here hx rfl hd rfl) h
theorem Rt.i2b (X : Sd p l e R s m args below meth c T n0 cells slots h0) (hx : p.tables.exec = Jvm.exec) {pc pc' : Nat} {Ls : Array Slot} {S : List Value} {v : Int32} {r : Int32} (hd : decode c.code pc = .ok (.i2b, 1)) (hr : v.toInt8.toInt32 = r) (hp : pc + 1 = pc')
    (h : Rt p e below s k n P (T.setTop (mkF m pc' Ls (.int r :: S)))) : Rt p e below s k n P (T.setTop (mkF m pc Ls (.int v :: S))) := by
  subst hp hr; obtain ⟨_, X, _, _⟩ := X; exact Rt.go (fun _ => XS.i2b X.here hx rfl hd rfl) h
theorem Rt.i2s (X : Sd p l e R s m args below meth c T n0 cells slots h0) (hx : p.tables.exec = Jvm.exec) {pc pc' : Nat} {Ls : Array Slot} {S : List Value} {v : Int32} {r : Int32} (hd : decode c.code pc = .ok (.i2s, 1)) (hr : v.toInt16.toInt32 = r) (hp : pc + 1 = pc')
    (h : Rt p e below s k n P (T.setTop (mkF m pc' Ls (.int r :: S)))) : Rt p e below s k n P (T.setTop (mkF m pc Ls (.int v :: S))) := by
  subst hp hr; obtain ⟨_, X, _, _⟩ := X; exact Rt.go (fun _ => XS.i2s X.here hx rfl hd rfl) h
theorem Rt.i2c (X : Sd p l e R s m args below meth c T n0 cells slots h0) (hx : p.tables.exec = Jvm.exec) {pc pc' : Nat} {Ls : Array Slot} {S : List Value} {v : Int32} {r : Int32} (hd : decode c.code pc = .ok (.i2c, 1)) (hr : v.toUInt32.toUInt16.toUInt32.toInt32 = r) (hp : pc + 1 = pc')
    (h : Rt p e below s k n P (T.setTop (mkF m pc' Ls (.int r :: S)))) : Rt p e below s k n P (T.setTop (mkF m pc Ls (.int v :: S))) := by
  subst hp hr; obtain ⟨_, X, _, _⟩ := X; exact Rt.go (fun _ => XS.i2c X.here hx rfl hd rfl) h
theorem Rt.lcmp (X : Sd p l e R s m args below meth c T n0 cells slots h0) (hx : p.tables.exec = Jvm.exec) {pc pc' : Nat} {Ls : Array Slot} {S : List Value} {x y : Int64} (hd : decode c.code pc = .ok (.lcmp, 1)) (hp : pc + 1 = pc')
    (h : Rt p e below s k n P (T.setTop (mkF m pc' Ls (.int (lcmpW x y) :: S)))) : Rt p e below s k n P (T.setTop (mkF m pc Ls (.long y :: .long x :: S))) := by
  subst hp; obtain ⟨_, X, _, _⟩ := X; exact Rt.go (fun _ => XS.lcmp X.here hx rfl hd rfl) h
theorem Rt.iinc (X : Sd p l e R s m args below meth c T n0 cells slots h0) (hx : p.tables.exec = Jvm.exec) {pc pc' : Nat} {Ls : Array Slot} {S : List Value} {j : Nat} {cst : Int} {x r : Int32} {l' : Array Slot} (hd : decode c.code pc = .ok (.iinc j cst, 3)) (hl : Ls[j]? = some (.val (.int x))) (hr : x + Int32.ofInt cst = r) (hl' : storeLocals Ls j (.int r) = some l') (hp : pc + 3 = pc')
    (h : Rt p e below s k n P (T.setTop (mkF m pc' l' S))) : Rt p e below s k n P (T.setTop (mkF m pc Ls S)) := by
  subst hp hr; obtain ⟨_, X, _, _⟩ := X; exact Rt.go (fun _ => XS.iinc X.here hx rfl hd hl hl') h
theorem Rt.dup (X : Sd p l e R s m args below meth c T n0 cells slots h0) (hx : p.tables.exec = Jvm.exec) {pc pc' : Nat} {Ls : Array Slot} {S : List Value} {x : Value} (hd : decode c.code pc = .ok (.dup, 1)) (hc : x.category = 1) (hp : pc + 1 = pc')
    (h : Rt p e below s k n P (T.setTop (mkF m pc' Ls (x :: x :: S)))) : Rt p e below s k n P (T.setTop (mkF m pc Ls (x :: S))) := by
  subst hp; obtain ⟨_, X, _, _⟩ := X; exact Rt.go (fun _ => XS.dup X.here hx rfl hd rfl hc) h
theorem Rt.pop (X : Sd p l e R s m args below meth c T n0 cells slots h0) (hx : p.tables.exec = Jvm.exec) {pc pc' : Nat} {Ls : Array Slot} {S : List Value} {x : Value} (hd : decode c.code pc = .ok (.pop, 1)) (hc : x.category = 1) (hp : pc + 1 = pc')
    (h : Rt p e below s k n P (T.setTop (mkF m pc' Ls (S)))) : Rt p e below s k n P (T.setTop (mkF m pc Ls (x :: S))) := by
  subst hp; obtain ⟨_, X, _, _⟩ := X; exact Rt.go (fun _ => XS.pop X.here hx rfl hd rfl hc) h
theorem Rt.dup2 (X : Sd p l e R s m args below meth c T n0 cells slots h0) (hx : p.tables.exec = Jvm.exec) {pc pc' : Nat} {Ls : Array Slot} {S : List Value} {x y : Value} (hd : decode c.code pc = .ok (.dup2, 1)) (hc : x.category = 1) (hc2 : y.category = 1) (hp : pc + 1 = pc')
    (h : Rt p e below s k n P (T.setTop (mkF m pc' Ls (x :: y :: x :: y :: S)))) : Rt p e below s k n P (T.setTop (mkF m pc Ls (x :: y :: S))) := by
  subst hp; obtain ⟨_, X, _, _⟩ := X; exact Rt.go (fun _ => XT.dup2 X.here hx rfl hd rfl hc hc2) h
theorem Rt.dupX1 (X : Sd p l e R s m args below meth c T n0 cells slots h0) (hx : p.tables.exec = Jvm.exec) {pc pc' : Nat} {Ls : Array Slot} {S : List Value} {x y : Value} (hd : decode c.code pc = .ok (.dup_x1, 1)) (hc : x.category = 1) (hc2 : y.category = 1) (hp : pc + 1 = pc')
    (h : Rt p e below s k n P (T.setTop (mkF m pc' Ls (x :: y :: x :: S)))) : Rt p e below s k n P (T.setTop (mkF m pc Ls (x :: y :: S))) := by
  subst hp; obtain ⟨_, X, _, _⟩ := X; exact Rt.go (fun _ => XS.dupX1 X.here hx rfl hd rfl hc hc2) h
theorem Rt.goto (X : Sd p l e R s m args below meth c T n0 cells slots h0) (hx : p.tables.exec = Jvm.exec) {pc pc' : Nat} {Ls : Array Slot} {S : List Value} {o : Int} (hd : decode c.code pc = .ok (.goto o, 3)) (ho : 0 ≤ (pc : Int) + o) (hp : ((pc : Int) + o).toNat = pc')
    (h : Rt p e below s k n P (T.setTop (mkF m pc' Ls S))) : Rt p e below s k n P (T.setTop (mkF m pc Ls S)) := by
  obtain ⟨_, X, _, _⟩ := X; exact Rt.go (fun _ => XS.goto X.here hx rfl (pc0 := pc) rfl hd ho hp) h
theorem Rt.ifY (X : Sd p l e R s m args below meth c T n0 cells slots h0) (hx : p.tables.exec = Jvm.exec) {pc pc' : Nat} {Ls : Array Slot} {S : List Value} {o : Int} {cd : ClassFile.Cond} {x : Int32} (hd : decode c.code pc = .ok (.ifCond cd o, 3)) (hc : ifCond.holds cd x = true) (ho : 0 ≤ (pc : Int) + o) (hp : ((pc : Int) + o).toNat = pc')
    (h : Rt p e below s k n P (T.setTop (mkF m pc' Ls S))) : Rt p e below s k n P (T.setTop (mkF m pc Ls (.int x :: S))) := by
  obtain ⟨_, X, _, _⟩ := X; exact Rt.go (fun _ => XS.ifYes X.here hx rfl (pc0 := pc) rfl hd rfl hc ho hp) h
theorem Rt.ifN (X : Sd p l e R s m args below meth c T n0 cells slots h0) (hx : p.tables.exec = Jvm.exec) {pc pc' : Nat} {Ls : Array Slot} {S : List Value} {o : Int} {cd : ClassFile.Cond} {x : Int32} (hd : decode c.code pc = .ok (.ifCond cd o, 3)) (hc : ifCond.holds cd x = false) (hp : pc + 3 = pc')
    (h : Rt p e below s k n P (T.setTop (mkF m pc' Ls S))) : Rt p e below s k n P (T.setTop (mkF m pc Ls (.int x :: S))) := by
  subst hp; obtain ⟨_, X, _, _⟩ := X; exact Rt.go (fun _ => XS.ifNo X.here hx rfl hd rfl hc) h
theorem Rt.icmpY (X : Sd p l e R s m args below meth c T n0 cells slots h0) (hx : p.tables.exec = Jvm.exec) {pc pc' : Nat} {Ls : Array Slot} {S : List Value} {o : Int} {cd : ClassFile.Cond} {x y : Int32} (hd : decode c.code pc = .ok (.if_icmp cd o, 3)) (hc : if_icmp.holds cd x y = true) (ho : 0 ≤ (pc : Int) + o) (hp : ((pc : Int) + o).toNat = pc')
    (h : Rt p e below s k n P (T.setTop (mkF m pc' Ls S))) : Rt p e below s k n P (T.setTop (mkF m pc Ls (.int y :: .int x :: S))) := by
  obtain ⟨_, X, _, _⟩ := X; exact Rt.go (fun _ => XS.icmpYes X.here hx rfl (pc0 := pc) rfl hd rfl hc ho hp) h
theorem Rt.icmpN (X : Sd p l e R s m args below meth c T n0 cells slots h0) (hx : p.tables.exec = Jvm.exec) {pc pc' : Nat} {Ls : Array Slot} {S : List Value} {o : Int} {cd : ClassFile.Cond} {x y : Int32} (hd : decode c.code pc = .ok (.if_icmp cd o, 3)) (hc : if_icmp.holds cd x y = false) (hp : pc + 3 = pc')
    (h : Rt p e below s k n P (T.setTop (mkF m pc' Ls S))) : Rt p e below s k n P (T.setTop (mkF m pc Ls (.int y :: .int x :: S))) := by
  subst hp; obtain ⟨_, X, _, _⟩ := X; exact Rt.go (fun _ => XS.icmpNo X.here hx rfl hd rfl hc) h
theorem Rt.ifnullY (X : Sd p l e R s m args below meth c T n0 cells slots h0) (hx : p.tables.exec = Jvm.exec) {pc pc' : Nat} {Ls : Array Slot} {S : List Value} {o : Int} (hd : decode c.code pc = .ok (.ifnull o, 3)) (ho : 0 ≤ (pc : Int) + o) (hp : ((pc : Int) + o).toNat = pc')
    (h : Rt p e below s k n P (T.setTop (mkF m pc' Ls S))) : Rt p e below s k n P (T.setTop (mkF m pc Ls (.null :: S))) := by
  obtain ⟨_, X, _, _⟩ := X; exact Rt.go (fun _ => XS.ifnullYes X.here hx rfl (pc0 := pc) rfl hd rfl ho hp) h
theorem Rt.ifnullN (X : Sd p l e R s m args below meth c T n0 cells slots h0) (hx : p.tables.exec = Jvm.exec) {pc pc' : Nat} {Ls : Array Slot} {S : List Value} {o : Int} {b : Addr} (hd : decode c.code pc = .ok (.ifnull o, 3)) (hp : pc + 3 = pc')
    (h : Rt p e below s k n P (T.setTop (mkF m pc' Ls S))) : Rt p e below s k n P (T.setTop (mkF m pc Ls (.ref b :: S))) := by
  subst hp; obtain ⟨_, X, _, _⟩ := X; exact Rt.go (fun _ => XS.ifnullNo X.here hx rfl hd rfl) h
theorem Rt.ifnonnullY (X : Sd p l e R s m args below meth c T n0 cells slots h0) (hx : p.tables.exec = Jvm.exec) {pc pc' : Nat} {Ls : Array Slot} {S : List Value} {o : Int} {b : Addr} (hd : decode c.code pc = .ok (.ifnonnull o, 3)) (ho : 0 ≤ (pc : Int) + o) (hp : ((pc : Int) + o).toNat = pc')
    (h : Rt p e below s k n P (T.setTop (mkF m pc' Ls S))) : Rt p e below s k n P (T.setTop (mkF m pc Ls (.ref b :: S))) := by
  obtain ⟨_, X, _, _⟩ := X; exact Rt.go (fun _ => XS.ifnonnullYes X.here hx rfl (pc0 := pc) rfl hd rfl ho hp) h
theorem Rt.ifnonnullN (X : Sd p l e R s m args below meth c T n0 cells slots h0) (hx : p.tables.exec = Jvm.exec) {pc pc' : Nat} {Ls : Array Slot} {S : List Value} {o : Int} (hd : decode c.code pc = .ok (.ifnonnull o, 3)) (hp : pc + 3 = pc')
    (h : Rt p e below s k n P (T.setTop (mkF m pc' Ls S))) : Rt p e below s k n P (T.setTop (mkF m pc Ls (.null :: S))) := by
  subst hp; obtain ⟨_, X, _, _⟩ := X; exact Rt.go (fun _ => XS.ifnonnullNo X.here hx rfl hd rfl) h
theorem Rt.acmp (X : Sd p l e R s m args below meth c T n0 cells slots h0) (hx : p.tables.exec = Jvm.exec) {pc pc' : Nat} {Ls : Array Slot} {S : List Value} {o : Int} {cd : ACond} {x y : Value} {same : Bool} (h1 : x.isRef = true) (h2 : y.isRef = true) (hd : decode c.code pc = .ok (.if_acmp cd o, 3)) (hq : decide (x = y) = same) (ho : 0 ≤ (pc : Int) + o) (hp : pc' = if acV cd same = true then ((pc : Int) + o).toNat else pc + 3)
    (h : Rt p e below s k n P (T.setTop (mkF m pc' Ls S))) : Rt p e below s k n P (T.setTop (mkF m pc Ls (y :: x :: S))) := by
  obtain ⟨_, X, _, _⟩ := X; exact Rt.go (fun _ => Jvm.RoadKit.acmp X hx rfl h1 h2 (pc0 := pc) rfl hd rfl hq ho hp) h
theorem Rt.retZ (X : Sd p l e R s m args below meth c T n0 cells slots h0) (hx : p.tables.exec = Jvm.exec) (hlk : meth.locks = false) {t : FieldType} (hret : meth.sig.returnType = some t) (ht : t = .boolean ∨ t = .byte ∨ t = .char ∨ t = .short) {pc : Nat} {Ls : Array Slot} {S : List Value} {z w : Int32} (hd : decode c.code pc = .ok (.ireturn, 1)) (hw : nar t z = w) (hk : cells ≤ k) (hn : slots ≤ n)
    (hP : ∀ L, Fr n0 L → P (some (.int w)) h0 L) : Rt p e below s k n P (T.setTop (mkF m pc Ls (.int z :: S))) := by
  subst hw; obtain ⟨locs, X, N, eh⟩ := X
  obtain ⟨fs, hr, hrun, hended, hW, hsame⟩ := X.leave (v := some (.int (nar t z))) (fun h => by rw [hret] at h; cases h) hlk
  exact ⟨_, _, retN X hx hret ht hd hr, hrun, hended, _, _, rfl, by show P _ T.heap _; rw [eh]; exact hP _ N, ⟨_, rfl⟩, hW, hsame.mono hk hn⟩
theorem Rt.retI (X : Sd p l e R s m args below meth c T n0 cells slots h0) (hx : p.tables.exec = Jvm.exec) (hlk : meth.locks = false) (hret : meth.sig.returnType = some .int) {pc : Nat} {Ls : Array Slot} {S : List Value} {z : Int32} (hd : decode c.code pc = .ok (.ireturn, 1)) (hk : cells ≤ k) (hn : slots ≤ n)
    (hP : ∀ L, Fr n0 L → P (some (.int z)) h0 L) : Rt p e below s k n P (T.setTop (mkF m pc Ls (.int z :: S))) := by
  obtain ⟨locs, X, N, eh⟩ := X
  obtain ⟨fs, hr, hrun, hended, hW, hsame⟩ := X.leave (v := some (.int z)) (fun h => by rw [hret] at h; cases h) hlk
  exact ⟨_, _, Jvm.RoadKit.retI X hx hret hd hr, hrun, hended, _, _, rfl, by show P _ T.heap _; rw [eh]; exact hP _ N, ⟨_, rfl⟩, hW, hsame.mono hk hn⟩
theorem Rt.retJ (X : Sd p l e R s m args below meth c T n0 cells slots h0) (hx : p.tables.exec = Jvm.exec) (hlk : meth.locks = false) (hret : meth.sig.returnType = some .long) {pc : Nat} {Ls : Array Slot} {z : Int64} (hd : decode c.code pc = .ok (.lreturn, 1)) (hk : cells ≤ k) (hn : slots ≤ n)
    (hP : ∀ L, Fr n0 L → P (some (.long z)) h0 L) : Rt p e below s k n P (T.setTop (mkF m pc Ls [.long z])) := by
  obtain ⟨locs, X, N, eh⟩ := X
  obtain ⟨fs, hr, hrun, hended, hW, hsame⟩ := X.leave (v := some (.long z)) (fun h => by rw [hret] at h; cases h) hlk
  exact ⟨_, _, X.lreturnOut hx hret hd hr, hrun, hended, _, _, rfl, by show P _ T.heap _; rw [eh]; exact hP _ N, ⟨_, rfl⟩, hW, hsame.mono hk hn⟩
theorem Rt.retA (X : Sd p l e R s m args below meth c T n0 cells slots h0) (hx : p.tables.exec = Jvm.exec) (hlk : meth.locks = false) {t : FieldType} (ht : t.isReference = true) (hret : meth.sig.returnType = some t) {pc : Nat} {Ls : Array Slot} {v : Value} (hv : v.isRef = true) (hd : decode c.code pc = .ok (.areturn, 1)) (hk : cells ≤ k) (hn : slots ≤ n)
    (hP : ∀ L, Fr n0 L → P (some v) h0 L) : Rt p e below s k n P (T.setTop (mkF m pc Ls [v])) := by
  obtain ⟨locs, X, N, eh⟩ := X
  obtain ⟨fs, hr, hrun, hended, hW, hsame⟩ := X.leave (v := some v) (fun h => by rw [hret] at h; cases h) hlk
  exact ⟨_, _, Jvm.RoadKit.retA X hx ht hv hret hd hr, hrun, hended, _, _, rfl, by show P _ T.heap _; rw [eh]; exact hP _ N, ⟨_, rfl⟩, hW, hsame.mono hk hn⟩
theorem Rt.retV (X : Sd p l e R s m args below meth c T n0 cells slots h0) (hx : p.tables.exec = Jvm.exec) (hlk : meth.locks = false) (hret : meth.sig.returnType = none) {pc : Nat} {Ls : Array Slot}  (hd : decode c.code pc = .ok (.return_, 1)) (hk : cells ≤ k) (hn : slots ≤ n)
    (hP : ∀ L, Fr n0 L → P none h0 L) : Rt p e below s k n P (T.setTop (mkF m pc Ls [])) := by
  obtain ⟨locs, X, N, eh⟩ := X
  obtain ⟨fs, hr, hrun, hended, hW, hsame⟩ := X.leave (v := none) (fun _ => rfl) hlk
  exact ⟨_, _, X.returnOut hx hret hd hr, hrun, hended, _, _, rfl, by show P _ T.heap _; rw [eh]; exact hP _ N, ⟨_, rfl⟩, hW, hsame.mono hk hn⟩
theorem Rt.ldcInt (X : Sd p l e R s m args below meth c T n0 cells slots h0) (hx : p.tables.exec = Jvm.exec) {Z : State} {a0 : Array Value} (hZ : Z.Warmed39 s.vm) {own : String} {index : Nat} {v : Int32} (hown : s.vm.findClass own = some m.cls) (w : (Cond.constant own index v).before a0 Z = true) {pc pc' : Nat} {Ls : Array Slot} {S : List Value} (hd : decode c.code pc = .ok (.ldc index, 2)) (hp : pc + 2 = pc')
    (h : Rt p e below s k n P (T.setTop (mkF m pc' Ls (.int v :: S)))) : Rt p e below s k n P (T.setTop (mkF m pc Ls S)) := by
  subst hp; obtain ⟨_, X, _, _⟩ := X; exact Rt.go (X.ldcInt hx hown (mvT hZ w) (g := mkF m pc Ls S) rfl hd) h
theorem Rt.ldcwInt (X : Sd p l e R s m args below meth c T n0 cells slots h0) (hx : p.tables.exec = Jvm.exec) {Z : State} {a0 : Array Value} (hZ : Z.Warmed39 s.vm) {own : String} {index : Nat} {v : Int32} (hown : s.vm.findClass own = some m.cls) (w : (Cond.constant own index v).before a0 Z = true) {pc pc' : Nat} {Ls : Array Slot} {S : List Value} (hd : decode c.code pc = .ok (.ldc_w index, 3)) (hp : pc + 3 = pc')
    (h : Rt p e below s k n P (T.setTop (mkF m pc' Ls (.int v :: S)))) : Rt p e below s k n P (T.setTop (mkF m pc Ls S)) := by
  subst hp; obtain ⟨_, X, _, _⟩ := X; exact Rt.go (X.ldcwInt hx hown (mvT hZ w) (g := mkF m pc Ls S) rfl hd) h
theorem Rt.ldc2Long (X : Sd p l e R s m args below meth c T n0 cells slots h0) (hx : p.tables.exec = Jvm.exec) {Z : State} {a0 : Array Value} (hZ : Z.Warmed39 s.vm) {own : String} {index : Nat} {v : Int64} (hown : s.vm.findClass own = some m.cls) (w : (Cond.constantLong own index v).before a0 Z = true) {pc pc' : Nat} {Ls : Array Slot} {S : List Value} (hd : decode c.code pc = .ok (.ldc2_w index, 3)) (hp : pc + 3 = pc')
    (h : Rt p e below s k n P (T.setTop (mkF m pc' Ls (.long v :: S)))) : Rt p e below s k n P (T.setTop (mkF m pc Ls S)) := by
  subst hp; obtain ⟨_, X, _, _⟩ := X; exact Rt.go (X.ldc2Long hx hown (mvT hZ w) (g := mkF m pc Ls S) rfl hd) h
theorem ltl {x y : Int64} (h : x < y) : ifCond.holds .lt (lcmpW x y) = true ∧ ifCond.holds .ge (lcmpW x y) = false := ⟨(if0 _ _).trans (tlt ((lw_lt x y).mpr h)).1, (if0 _ _).trans (tlt ((lw_lt x y).mpr h)).2.1⟩
theorem lfl {x y : Int64} (h : ¬ x < y) : ifCond.holds .lt (lcmpW x y) = false ∧ ifCond.holds .ge (lcmpW x y) = true := ⟨(if0 _ _).trans (flt (fun q => h ((lw_lt x y).mp q))).1, (if0 _ _).trans (flt (fun q => h ((lw_lt x y).mp q))).2.1⟩
theorem gtl {x y : Int64} (h : y < x) : ifCond.holds .gt (lcmpW x y) = true ∧ ifCond.holds .le (lcmpW x y) = false := ⟨(if0 _ _).trans (tlt ((lw_gt x y).mpr h)).2.2.1, (if0 _ _).trans (tlt ((lw_gt x y).mpr h)).2.2.2⟩
theorem gfl {x y : Int64} (h : ¬ y < x) : ifCond.holds .gt (lcmpW x y) = false ∧ ifCond.holds .le (lcmpW x y) = true := ⟨(if0 _ _).trans (flt (fun q => h ((lw_gt x y).mp q))).2.2.1, (if0 _ _).trans (flt (fun q => h ((lw_gt x y).mp q))).2.2.2⟩
theorem etl {x y : Int64} (h : x = y) : ifCond.holds .eq (lcmpW x y) = true ∧ ifCond.holds .ne (lcmpW x y) = false := ⟨(if0 _ _).trans (teq ((lw_eq x y).mpr h)).1, (if0 _ _).trans (teq ((lw_eq x y).mpr h)).2⟩
theorem efl {x y : Int64} (h : ¬ x = y) : ifCond.holds .eq (lcmpW x y) = false ∧ ifCond.holds .ne (lcmpW x y) = true := ⟨(if0 _ _).trans (feq (fun q => h ((lw_eq x y).mp q))).1, (if0 _ _).trans (feq (fun q => h ((lw_eq x y).mp q))).2⟩
/-- what a method leaves: its contract's form -/
abbrev Mt (l : Launch) (Z : State) (y : MethodName) (ws : List Jvm.Cond) (rm : Room) (as' : Array Value) (h : Heap) (Q : Option Value → Heap → List Loc → Prop) : Prop :=
  MetFree l y (head1 ws rm) (fun a U => a = as' ∧ Z.Warmed39 U.vm ∧ U.heap = h) (fun _ _ _ _ _ => True) (fun _ U o U' => ∃ v L, o = .returned v ∧ Q v U'.heap L ∧ FrameEnd U o U' L rm.cells rm.slots)
/-- from a body's walk to its contract -/
theorem Mt.of {Z : State} {y : MethodName} {bytes : ByteArray} {maxL : Nat} {ret : Option FieldType} {ws : List Jvm.Cond} {rm : Room} {as' : Array Value} {h : Heap} {Q : Option Value → Heap → List Loc → Prop} (n0 : Nat) (hpl : plainFor y = true)
    (body : ∀ (p : Program) (e : Env) (s : State) (m : MethodId) (below : List Frame) (meth : Method) (c : Code) (T : State), Sd p l e rm s m as' below meth c T n0 0 0 h → p.tables.exec = Jvm.exec → Z.Warmed39 s.vm → c.code = bytes → c.maxLocals = maxL → s.vm.findClass y.cls = some m.cls → meth.sig.returnType = ret → meth.locks = false → meth.name = y.name → s.heap = h →
      Rt p e below s rm.cells rm.slots Q (T.setTop (entryFrame m as' maxL))) : Mt l Z y (Jvm.Cond.code y bytes maxL ret :: ws) rm as' h Q := by
  refine MetFree.of_bodySF hpl hisR ?_
  intro p e s m args below meth c s₁ Bd hml0 hP hK
  obtain ⟨rfl, hZ, hh⟩ := hP
  have e0 : s₁.heap = h := by rw [← hh, Bd.state]; rfl
  obtain ⟨s₂, o, h1, h2, h3, v, L, h4, h5, h6⟩ := body p e s m below meth c s₁ ⟨[], Stand.of_body Bd, Fr.nil n0, e0⟩ Bd.exec hZ Bd.bytes hml0 (findClass_of_methodNamed Bd.named) Bd.returns (BodyLoose.notSynchronized Bd) (name_of_methodNamed Bd.named Bd.method).1 hh
  exact ⟨s₂, o, h1, h2, h3, v, L, h4, h5, h6⟩
theorem Rt.callS (X : Sd p l e R s m args below meth c T n0 cells slots h0) (hx : p.tables.exec = Jvm.exec) {Z : State} {a0 : Array Value} (hZ : Z.Warmed39 s.vm) {own : String} {index : Nat} {y : MethodName} {bytes : ByteArray} {maxL W : Nat} {ret : Option FieldType} {rm : Room} {as' : Array Value} {Q : Option Value → Heap → List Loc → Prop}
    (hown : s.vm.findClass own = some m.cls) (w1 : (Cond.methodLink own index y).before a0 Z = true) (w2 : (Cond.static y).before a0 Z = true) (w3 : (Cond.initialized y.cls).before a0 Z = true) (w4 : (Cond.code y bytes maxL ret).before a0 Z = true) (hy : y.cls ≠ "java/lang/invoke/MethodHandle" ∧ y.cls ≠ "java/lang/invoke/VarHandle")
    (hM : Mt l Z y [Cond.code y bytes maxL ret] rm as' h0 Q) (hF : ∀ v h L, Q v h L → Fr n0 L) (hf : rm.frames + 1 ≤ R.frames) (hl : W + (maxL + 11) + rm.locals ≤ R.locals) (hc : cells + rm.cells ≤ R.cells) (hs : slots + rm.slots ≤ R.slots)
    {pc pc' : Nat} {Ls : Array Slot} {S argsL rest : List Value} (hsize : Ls.size = c.maxLocals) (hlen : ∀ sig, parseMethodDescriptor y.desc = some sig → argsL.length = sig.parameters.length) (hst : S = argsL.reverse ++ rest) (has : argsL.toArray = as') (hW : (rest.map fun v => v.category).sum ≤ W) (hd : decode c.code pc = .ok (.invokestatic index, 3)) (hp : pc + 3 = pc')
    (hh : ∀ v T' h' L, Sd p l e R s m args below meth c T' n0 (cells + rm.cells) (slots + rm.slots) h' → Q v h' L → Rt p e below s k n P (T'.setTop (mkF m pc' Ls (v.toList ++ rest)))) : Rt p e below s k n P (T.setTop (mkF m pc Ls S)) := by
  subst hp has
  obtain ⟨locs, X, N, eT⟩ := X
  obtain ⟨v, _, ⟨T', L', k', n'⟩, -, X', ⟨Lc, hQ, l', y', z'⟩, st⟩ := Jvm.LawKit.callS X hx (y := y) hown (mvT hZ w1) (mvT hZ w2) (mvT hZ w3) (mvT hZ w4) hy (backOf (W := W) hM hZ w4 w3 hf hl) (g := mkF m pc Ls S) rfl hsize (argsL := argsL) (rest := rest) hlen hst (by show 2 * 0 + _ ≤ _; omega) hd (fun _ _ => ⟨rfl, eT, hc, hs⟩)
  dsimp only [Pt.U, Pt.locs, Pt.cells, Pt.slots] at X' l' y' z' st hQ
  subst l' y' z'
  exact Rt.go st (hh v T' _ Lc ⟨_, X', Fr.app N (hF _ _ _ hQ), rfl⟩ hQ)
/-- a static method that writes nothing -/
theorem Rt.callP (X : Sd p l e R s m args below meth c T n0 cells slots h0) (hx : p.tables.exec = Jvm.exec) {Z : State} {a0 : Array Value} (hZ : Z.Warmed39 s.vm) {own : String} {index : Nat} {y : MethodName} {bytes : ByteArray} {maxL W : Nat} {ret : Option FieldType} {rm : Room} {as' : Array Value} {r : Value}
    (hown : s.vm.findClass own = some m.cls) (w1 : (Cond.methodLink own index y).before a0 Z = true) (w2 : (Cond.static y).before a0 Z = true) (w3 : (Cond.initialized y.cls).before a0 Z = true) (w4 : (Cond.code y bytes maxL ret).before a0 Z = true) (hy : y.cls ≠ "java/lang/invoke/MethodHandle" ∧ y.cls ≠ "java/lang/invoke/VarHandle")
    (hM : Mt l Z y [Cond.code y bytes maxL ret] rm as' h0 (fun v h L => v = some r ∧ Fr n0 L ∧ h = h0)) (hf : rm.frames + 1 ≤ R.frames) (hl : W + (maxL + 11) + rm.locals ≤ R.locals) (hc : cells + rm.cells ≤ R.cells) (hs : slots + rm.slots ≤ R.slots) (hc0 : rm.cells = 0) (hs0 : rm.slots = 0)
    {pc pc' : Nat} {Ls : Array Slot} {S argsL rest : List Value} (hsize : Ls.size = c.maxLocals) (hlen : ∀ sig, parseMethodDescriptor y.desc = some sig → argsL.length = sig.parameters.length) (hst : S = argsL.reverse ++ rest) (has : argsL.toArray = as') (hW : (rest.map fun v => v.category).sum ≤ W) (hd : decode c.code pc = .ok (.invokestatic index, 3)) (hp : pc + 3 = pc')
    (hh : ∀ T', Sd p l e R s m args below meth c T' n0 cells slots h0 → Rt p e below s k n P (T'.setTop (mkF m pc' Ls (r :: rest)))) : Rt p e below s k n P (T.setTop (mkF m pc Ls S)) := by
  refine Rt.callS X hx hZ hown w1 w2 w3 w4 hy hM (fun _ _ _ q => q.2.1) hf hl hc hs hsize hlen hst has hW hd hp ?_
  rintro v T' h' L X' ⟨rfl, _, rfl⟩
  rw [hc0, hs0, Nat.add_zero, Nat.add_zero] at X'
  exact hh T' X'
/-- an instance method, by the contract of the body that the receiver's class selects -/
theorem Rt.callV (X : Sd p l e R s m args below meth c T n0 cells slots h0) (hx : p.tables.exec = Jvm.exec) {Z : State} {a0 : Array Value} (hZ : Z.Warmed39 s.vm) {own : String} {index : Nat} {y : MethodName} {bytes : ByteArray} {maxL W : Nat} {ret : Option FieldType} {rm : Room} {as' : Array Value} {Q : Option Value → Heap → List Loc → Prop} {K : String} {yz : MethodName}
    (hown : s.vm.findClass own = some m.cls) (w1 : (Cond.methodLink own index y).before a0 Z = true) (w2 : (Cond.declares y).before a0 Z = true) (hnf : NotFace s y) (w5 : (Cond.selects K y yz).before a0 Z = true) (w6 : (Cond.instanceMethod yz).before a0 Z = true) (w3 : (Cond.initialized yz.cls).before a0 Z = true) (w4 : (Cond.code yz bytes maxL ret).before a0 Z = true) (hy : y.cls ≠ "java/lang/invoke/MethodHandle" ∧ y.cls ≠ "java/lang/invoke/VarHandle")
    {a : Addr} (E : Exa Z h0 a K) (hM : Mt l Z yz [Cond.code yz bytes maxL ret] rm as' h0 Q) (hF : ∀ v h L, Q v h L → Fr n0 L) (hf : rm.frames + 1 ≤ R.frames) (hl : W + (maxL + 11) + rm.locals ≤ R.locals) (hc : cells + rm.cells ≤ R.cells) (hs : slots + rm.slots ≤ R.slots)
    {pc pc' : Nat} {Ls : Array Slot} {S argsL rest : List Value} (hsize : Ls.size = c.maxLocals) (hlen : ∀ sig, parseMethodDescriptor y.desc = some sig → argsL.length = sig.parameters.length) (hst : S = argsL.reverse ++ .ref a :: rest) (has : (.ref a :: argsL).toArray = as') (hW : (rest.map fun v => v.category).sum ≤ W) (hd : decode c.code pc = .ok (.invokevirtual index, 3)) (hp : pc + 3 = pc')
    (hh : ∀ v T' h' L, Sd p l e R s m args below meth c T' n0 (cells + rm.cells) (slots + rm.slots) h' → Q v h' L → Rt p e below s k n P (T'.setTop (mkF m pc' Ls (v.toList ++ rest)))) : Rt p e below s k n P (T.setTop (mkF m pc Ls S)) := by
  subst hp has
  obtain ⟨locs, X, N, eT⟩ := X
  obtain ⟨cq, kq, qa, qb, qc⟩ := isOf hZ eT E
  obtain ⟨v, _, ⟨T', L', k', n'⟩, -, X', ⟨Lc, hQ, l', y', z'⟩, st⟩ := X.virtualBack hx (y := y) (z := yz) hown (mvT hZ w1) (mvT hZ w2) hnf (mvT hZ w5) (mvT hZ w6) hy (backOf (W := W) hM hZ w4 w3 hf hl) qa qc (g := mkF m pc Ls S) rfl hsize (Steps.refl _) (argsL := argsL) (rest := rest) hlen hst (by show 2 * 0 + _ ≤ _; omega) hd (fun _ _ => ⟨rfl, eT, hc, hs⟩)
  dsimp only [Pt.U, Pt.locs, Pt.cells, Pt.slots] at X' l' y' z' st hQ
  subst l' y' z'
  exact Rt.go (fun _ q => st.trans q) (hh v T' _ Lc ⟨_, X', Fr.app N (hF _ _ _ hQ), rfl⟩ hQ)
/-- a constructor by its contract -/
theorem Rt.callI (X : Sd p l e R s m args below meth c T n0 cells slots h0) (hx : p.tables.exec = Jvm.exec) {Z : State} {a0 : Array Value} (hZ : Z.Warmed39 s.vm) {own : String} {index : Nat} {y : MethodName} {bytes : ByteArray} {maxL W : Nat} {rm : Room} {as' : Array Value} {Q : Option Value → Heap → List Loc → Prop} (hy1 : y.name = "<init>")
    (hown : s.vm.findClass own = some m.cls) (w1 : (Cond.methodLink own index y).before a0 Z = true) (w2 : (Cond.instanceMethod y).before a0 Z = true) (w3 : (Cond.initialized y.cls).before a0 Z = true) (w4 : (Cond.code y bytes maxL none).before a0 Z = true) (hy : y.cls ≠ "java/lang/invoke/MethodHandle" ∧ y.cls ≠ "java/lang/invoke/VarHandle")
    {a : Addr} (hM : Mt l Z y [Cond.code y bytes maxL none] rm as' h0 Q) (hF : ∀ v h L, Q v h L → Fr n0 L) (hf : rm.frames + 1 ≤ R.frames) (hl : W + (maxL + 11) + rm.locals ≤ R.locals) (hc : cells + rm.cells ≤ R.cells) (hs : slots + rm.slots ≤ R.slots)
    {pc pc' : Nat} {Ls : Array Slot} {S argsL rest : List Value} (hsize : Ls.size = c.maxLocals) (hlen : ∀ sig, parseMethodDescriptor y.desc = some sig → argsL.length = sig.parameters.length) (hst : S = argsL.reverse ++ .ref a :: rest) (has : (.ref a :: argsL).toArray = as') (hW : (rest.map fun v => v.category).sum ≤ W) (hd : decode c.code pc = .ok (.invokespecial index, 3)) (hp : pc + 3 = pc')
    (hh : ∀ v T' h' L, Sd p l e R s m args below meth c T' n0 (cells + rm.cells) (slots + rm.slots) h' → Q v h' L → Rt p e below s k n P (T'.setTop (mkF m pc' Ls (v.toList ++ rest)))) : Rt p e below s k n P (T.setTop (mkF m pc Ls S)) := by
  subst hp has
  obtain ⟨locs, X, N, eT⟩ := X
  obtain ⟨v, _, ⟨T', L', k', n'⟩, -, X', ⟨Lc, hQ, l', y', z'⟩, st⟩ := X.specialBack hx (y := y) hy1 hown (mvT hZ w1) (mvT hZ w2) (mvT hZ w4) hy (backOf (W := W) hM hZ w4 w3 hf hl) (g := mkF m pc Ls S) rfl hsize (Steps.refl _) (a := a) (argsL := argsL) (rest := rest) hlen hst (by show 2 * 0 + _ ≤ _; omega) hd (fun _ _ => ⟨rfl, eT, hc, hs⟩)
  dsimp only [Pt.U, Pt.locs, Pt.cells, Pt.slots] at X' l' y' z' st hQ
  subst l' y' z'
  exact Rt.go (fun _ q => st.trans q) (hh v T' _ Lc ⟨_, X', Fr.app N (hF _ _ _ hQ), rfl⟩ hQ)
/-- a private instance method by its contract -/
theorem Rt.callPr (X : Sd p l e R s m args below meth c T n0 cells slots h0) (hx : p.tables.exec = Jvm.exec) {Z : State} {a0 : Array Value} (hZ : Z.Warmed39 s.vm) {own : String} {index : Nat} {y : MethodName} {bytes : ByteArray} {maxL W : Nat} {ret : Option FieldType} {rm : Room} {as' : Array Value} {Q : Option Value → Heap → List Loc → Prop} {K : String} {nf : Nat}
    (hown : s.vm.findClass own = some m.cls) (w1 : (Cond.methodLink own index y).before a0 Z = true) (w2 : (Cond.instanceMethod y).before a0 Z = true) (w5 : (Cond.privateMethod y).before a0 Z = true) (wi : (Cond.instantiable y.cls nf).before a0 Z = true) (w3 : (Cond.initialized y.cls).before a0 Z = true) (w4 : (Cond.code y bytes maxL ret).before a0 Z = true) (hy : y.cls ≠ "java/lang/invoke/MethodHandle" ∧ y.cls ≠ "java/lang/invoke/VarHandle")
    {a : Addr} (E : Exa Z h0 a K) (hM : Mt l Z y [Cond.code y bytes maxL ret] rm as' h0 Q) (hF : ∀ v h L, Q v h L → Fr n0 L) (hf : rm.frames + 1 ≤ R.frames) (hl : W + (maxL + 11) + rm.locals ≤ R.locals) (hc : cells + rm.cells ≤ R.cells) (hs : slots + rm.slots ≤ R.slots)
    {pc pc' : Nat} {Ls : Array Slot} {S argsL rest : List Value} (hsize : Ls.size = c.maxLocals) (hlen : ∀ sig, parseMethodDescriptor y.desc = some sig → argsL.length = sig.parameters.length) (hst : S = argsL.reverse ++ .ref a :: rest) (has : (.ref a :: argsL).toArray = as') (hW : (rest.map fun v => v.category).sum ≤ W) (hd : decode c.code pc = .ok (.invokevirtual index, 3)) (hp : pc + 3 = pc')
    (hh : ∀ v T' h' L, Sd p l e R s m args below meth c T' n0 (cells + rm.cells) (slots + rm.slots) h' → Q v h' L → Rt p e below s k n P (T'.setTop (mkF m pc' Ls (v.toList ++ rest)))) : Rt p e below s k n P (T.setTop (mkF m pc Ls S)) := by
  subst hp has
  obtain ⟨locs, X, N, eT⟩ := X
  obtain ⟨ce, q1, q2⟩ := E.cell
  obtain ⟨cc, kc, i1, i2, -, i4, -⟩ := Cond.instantiable_spec (mvT hZ wi (args := args))
  have hpv := Cond.privateMethod_at (mvP hZ w5 (args := #[]))
  have hni : kc.isInterface = false := by simp only [Bool.or_eq_false_iff] at i4; exact i4.1
  obtain ⟨v, _, ⟨T', L', k', n'⟩, -, X', ⟨Lc, hQ, l', y', z'⟩, st⟩ := X.privateBack hx (y := y) hown (mvT hZ w1) (mvT hZ w2) (selects_self_of_private i1 i2 hni hpv (mvT hZ w2) hy) hpv (mvT hZ w4) hy (backOf (W := W) hM hZ w4 w3 hf hl) (g := mkF m pc Ls S) rfl hsize (Steps.refl _) (a := a) (by rw [eT]; exact q1) q2 (argsL := argsL) (rest := rest) hlen hst (by show 2 * 0 + _ ≤ _; omega) hd (fun _ _ => ⟨rfl, eT, hc, hs⟩)
  dsimp only [Pt.U, Pt.locs, Pt.cells, Pt.slots] at X' l' y' z' st hQ
  subst l' y' z'
  exact Rt.go (fun _ q => st.trans q) (hh v T' _ Lc ⟨_, X', Fr.app N (hF _ _ _ hQ), rfl⟩ hQ)
theorem Rt.initO (X : Sd p l e R s m args below meth c T n0 cells slots h0) (hx : p.tables.exec = Jvm.exec) {Z : State} {a0 : Array Value} (hZ : Z.Warmed39 s.vm) {own : String} {index : Nat} (hown : s.vm.findClass own = some m.cls) (w1 : (Cond.methodLink own index Lib.objectInit).before a0 Z = true) (w2 : (Cond.instanceMethod Lib.objectInit).before a0 Z = true) (w3 : (Cond.code Lib.objectInit ⟨#[0xb1]⟩ 1 none).before a0 Z = true)
    {pc pc' W : Nat} {Ls : Array Slot} {rest : List Value} {a : Addr} (hsize : Ls.size = c.maxLocals) (hd : decode c.code pc = .ok (.invokespecial index, 3)) (hf : 1 ≤ R.frames) (hW : (rest.map fun v => v.category).sum ≤ W) (hl : W + 12 ≤ R.locals) (hp : pc + 3 = pc')
    (hh : ∀ T', Sd p l e R s m args below meth c T' n0 cells slots h0 → Rt p e below s k n P (T'.setTop (mkF m pc' Ls rest))) : Rt p e below s k n P (T.setTop (mkF m pc Ls (.ref a :: rest))) := by
  subst hp
  obtain ⟨locs, X, N, eT⟩ := X
  obtain ⟨T', X', e', st⟩ := Jvm.RoadKit.initO X hx hZ hown w1 w2 w3 eT (g := mkF m pc Ls (.ref a :: rest)) rfl hsize rfl hd hf (W := W) (by show 2 * 0 + _ ≤ _; omega) hl
  exact Rt.go st (hh T' ⟨_, X', N, e'⟩)
theorem Rt.getS (X : Sd p l e R s m args below meth c T n0 cells slots h0) (hx : p.tables.exec = Jvm.exec) {Z : State} {a0 : Array Value} (hZ : Z.Warmed39 s.vm) {own K f d host : String} {index : Nat} (hown : s.vm.findClass own = some m.cls) (w : (Cond.fieldLink own index K f d).before a0 Z = true ∨ (Cond.fieldLinkNest own index K f d host).before a0 Z = true) {v : Value} (F : Sta Z h0 K f d v) {pc pc' : Nat} {Ls : Array Slot} {S : List Value} (hd : decode c.code pc = .ok (.getstatic index, 3)) (hp : pc + 3 = pc')
    (hh : ∀ T', Sd p l e R s m args below meth c T' n0 cells slots h0 → Rt p e below s k n P (T'.setTop (mkF m pc' Ls (v :: S)))) : Rt p e below s k n P (T.setTop (mkF m pc Ls S)) := by
  subst hp
  obtain ⟨locs, X, N, eT⟩ := X
  obtain ⟨T', X', e', st⟩ := getS2 X hx hZ hown (host := host) w Via.refl eT F (g := mkF m pc Ls S) rfl hd
  exact Rt.go st (hh T' ⟨_, X', N, e'⟩)
theorem Rt.getF (X : Sd p l e R s m args below meth c T n0 cells slots h0) (hx : p.tables.exec = Jvm.exec) {Z : State} {a0 : Array Value} (hZ : Z.Warmed39 s.vm) {own K f d host : String} {index : Nat} (hown : s.vm.findClass own = some m.cls) (w : (Cond.fieldLink own index K f d).before a0 Z = true ∨ (Cond.fieldLinkNest own index K f d host).before a0 Z = true) {v : Value} {a : Addr} (F : Fld Z h0 a K f d v) {pc pc' : Nat} {Ls : Array Slot} {S : List Value} (hd : decode c.code pc = .ok (.getfield index, 3)) (hp : pc + 3 = pc')
    (hh : ∀ T', Sd p l e R s m args below meth c T' n0 cells slots h0 → Rt p e below s k n P (T'.setTop (mkF m pc' Ls (v :: S)))) : Rt p e below s k n P (T.setTop (mkF m pc Ls (.ref a :: S))) := by
  subst hp
  obtain ⟨locs, X, N, eT⟩ := X
  obtain ⟨T', X', e', st⟩ := Jvm.RoadKit.getF X hx hZ hown (host := host) w Via.refl eT F (g := mkF m pc Ls (.ref a :: S)) rfl rfl hd
  exact Rt.go st (hh T' ⟨_, X', N, e'⟩)
theorem Rt.putF (X : Sd p l e R s m args below meth c T n0 cells slots h0) (hx : p.tables.exec = Jvm.exec) {Z : State} {a0 : Array Value} (hZ : Z.Warmed39 s.vm) {own K f d C' host : String} {index kk : Nat} {ty : FieldType} (hown : s.vm.findClass own = some m.cls) (w : (Cond.fieldLink own index K f d).before a0 Z = true ∨ (Cond.fieldLinkNest own index K f d host).before a0 Z = true) {v old : Value} {a : Addr} (F : Fld Z h0 a K f d old) (E : Exa Z h0 a C') (L : (Cond.lays C' K f d).before a0 Z = true ∨ ((Cond.laysFinal C' K f d).before a0 Z = true ∧ own = K ∧ meth.name = "<init>")) (wi : (Cond.instantiable C' kk).before a0 Z = true) (hty : parseFieldDescriptor d = some ty) (hn : narrow ty v = v) (hf : fits ty v = true) (ga : n0 ≤ a) {pc pc' : Nat} {Ls : Array Slot} {S : List Value} (hd : decode c.code pc = .ok (.putfield index, 3)) (hp : pc + 3 = pc')
    (hh : ∀ T' h', Sd p l e R s m args below meth c T' n0 cells slots h' → Wr h0 h' a (Jvm.RoadKit.slotOf Z K f d) v → Fld Z h' a K f d v → Rt p e below s k n P (T'.setTop (mkF m pc' Ls S))) : Rt p e below s k n P (T.setTop (mkF m pc Ls (v :: .ref a :: S))) := by
  subst hp
  obtain ⟨locs, X, N, eT⟩ := X
  obtain ⟨T', h', X', e', W', st⟩ := Jvm.RoadKit.putF X hx hZ hown (host := host) w Via.refl eT F E L wi hty hn hf (g := mkF m pc Ls (v :: .ref a :: S)) rfl rfl hd
  exact Rt.go st (hh T' h' ⟨_, X', Fr.snoc X' N ga, e'⟩ W' (F.same W'))
theorem Rt.newO (X : Sd p l e R s m args below meth c T n0 cells slots h0) (hx : p.tables.exec = Jvm.exec) {Z : State} {a0 : Array Value} (hZ : Z.Warmed39 s.vm) {own K : String} {index nf : Nat} (hown : s.vm.findClass own = some m.cls) (w : (Cond.classLink own index K).before a0 Z = true) (wi : (Cond.instantiable K nf).before a0 Z = true) (wz : (Cond.initialized K).before a0 Z = true) {pc pc' : Nat} {Ls : Array Slot} {S : List Value} (hd : decode c.code pc = .ok (.new index, 3)) (hc : cells + 1 ≤ R.cells) (hl : slots + nf ≤ R.slots) (hp : pc + 3 = pc')
    (hh : ∀ T' h' a, a = h0.size → Sd p l e R s m args below meth c T' n0 (cells + 1) (slots + nf) h' → Ext h0 h' → Exa Z h' a K → (∀ {O nm d : String} {ty : FieldType}, Laid Z a0 K O nm d → parseFieldDescriptor d = some ty → Fld Z h' a O nm d (defaultValue ty)) → Rt p e below s k n P (T'.setTop (mkF m pc' Ls (.ref a :: S)))) : Rt p e below s k n P (T.setTop (mkF m pc Ls S)) := by
  subst hp
  obtain ⟨locs, X, N, eT⟩ := X
  obtain ⟨T', h', X', e', E', A', D', -, st⟩ := Jvm.RoadKit.newO X hx hZ hown w wi wz eT (g := mkF m pc Ls S) rfl hd hc hl
  exact Rt.go st (hh T' h' _ rfl ⟨_, X', N, e'⟩ E' A' D')
theorem Rt.castY (X : Sd p l e R s m args below meth c T n0 cells slots h0) (hx : p.tables.exec = Jvm.exec) {Z : State} {a0 : Array Value} (hZ : Z.Warmed39 s.vm) {own K : String} {index : Nat} (hown : s.vm.findClass own = some m.cls) (w : (Cond.classLink own index K).before a0 Z = true) {a : Addr} (F : Ins Z h0 a K true) {pc pc' : Nat} {Ls : Array Slot} {S : List Value} (hd : decode c.code pc = .ok (.checkcast index, 3)) (hp : pc + 3 = pc')
    (hh : ∀ T', Sd p l e R s m args below meth c T' n0 cells slots h0 → Rt p e below s k n P (T'.setTop (mkF m pc' Ls (.ref a :: S)))) : Rt p e below s k n P (T.setTop (mkF m pc Ls (.ref a :: S))) := by
  subst hp
  obtain ⟨locs, X, N, eT⟩ := X
  obtain ⟨T', X', e', st⟩ := Jvm.RoadKit.castY X hx hZ hown w eT F (g := mkF m pc Ls (.ref a :: S)) rfl rfl hd
  exact Rt.go st (hh T' ⟨_, X', N, e'⟩)
theorem Rt.instY (X : Sd p l e R s m args below meth c T n0 cells slots h0) (hx : p.tables.exec = Jvm.exec) {Z : State} {a0 : Array Value} (hZ : Z.Warmed39 s.vm) {own K : String} {index : Nat} (hown : s.vm.findClass own = some m.cls) (w : (Cond.classLink own index K).before a0 Z = true) {a : Addr} (F : Ins Z h0 a K true) {pc pc' : Nat} {Ls : Array Slot} {S : List Value} (hd : decode c.code pc = .ok (.instanceof index, 3)) (hp : pc + 3 = pc')
    (hh : ∀ T', Sd p l e R s m args below meth c T' n0 cells slots h0 → Rt p e below s k n P (T'.setTop (mkF m pc' Ls (.int 1 :: S)))) : Rt p e below s k n P (T.setTop (mkF m pc Ls (.ref a :: S))) := by
  subst hp
  obtain ⟨locs, X, N, eT⟩ := X
  obtain ⟨T', X', e', st⟩ := Jvm.RoadKit.instY X hx hZ hown w eT F (g := mkF m pc Ls (.ref a :: S)) rfl rfl hd
  exact Rt.go st (hh T' ⟨_, X', N, e'⟩)
theorem Rt.instNo (X : Sd p l e R s m args below meth c T n0 cells slots h0) (hx : p.tables.exec = Jvm.exec) {Z : State} {a0 : Array Value} (hZ : Z.Warmed39 s.vm) {own K C' : String} {index : Nat} (hown : s.vm.findClass own = some m.cls) (w : (Cond.classLink own index K).before a0 Z = true) (hs0 : s.heap = h0) {a : Addr} (F : Ins Z h0 a K false) (E : Exa Z h0 a C') {pc pc' : Nat} {Ls : Array Slot} {S : List Value} (hd : decode c.code pc = .ok (.instanceof index, 3)) (hp : pc + 3 = pc')
    (hh : ∀ T', Sd p l e R s m args below meth c T' n0 cells slots h0 → Rt p e below s k n P (T'.setTop (mkF m pc' Ls (.int 0 :: S)))) : Rt p e below s k n P (T.setTop (mkF m pc Ls (.ref a :: S))) := by
  subst hp hs0
  obtain ⟨locs, X, N, eT⟩ := X
  obtain ⟨T', X', e', st⟩ := Jvm.RoadKit.instN X hx hZ hown w eT F E (g := mkF m pc Ls (.ref a :: S)) rfl rfl hd
  exact Rt.go st (hh T' ⟨_, X', N, e'⟩)
theorem Rt.instNull (X : Sd p l e R s m args below meth c T n0 cells slots h0) (hx : p.tables.exec = Jvm.exec) {index : Nat} {pc pc' : Nat} {Ls : Array Slot} {S : List Value} (hd : decode c.code pc = .ok (.instanceof index, 3)) (hp : pc + 3 = pc')
    (h : Rt p e below s k n P (T.setTop (mkF m pc' Ls (.int 0 :: S)))) : Rt p e below s k n P (T.setTop (mkF m pc Ls (.null :: S))) := by
  subst hp
  obtain ⟨locs, X, N, eT⟩ := X
  exact Rt.go (X.instanceofNull hx (g := mkF m pc Ls (.null :: S)) rfl rfl hd) h
theorem own_cat {v : Value} (h : v.isRef = true) : v.category = 1 := by rcases ref_cases h with rfl | ⟨_, rfl⟩ <;> rfl
theorem staK {Z : State} {h h' : Heap} {K f d : String} {v : Value} (F : Sta Z h K f d v) (Kp : Keep h h' []) : Sta Z h' K f d v := by
  obtain ⟨cf, i, k, f, st, cell, h1, h2, h3, h4, h5, r⟩ := F; exact ⟨cf, i, k, f, st, cell, h1, h2, h3, h4, Kp.2.1 _ _ h5 nin0, r⟩
/-- an array of values -/
def IA (Z : State) (h : Heap) (a : Addr) (ty : FieldType) (vs : List Value) : Prop := ∃ cl : Cell, Arr Z h a cl ty ∧ cl.slots = vs.toArray ∧ vs.length < 2 ^ 31
section Arrays
variable {Z : State} {h h' : Heap} {a b : Addr} {ty : FieldType} {vs : List Value}
theorem IA.lt (F : IA Z h a ty vs) : a < h.size := by obtain ⟨_, A, -⟩ := F; exact A.lt
theorem IA.ext (F : IA Z h a ty vs) (E : Ext h h') : IA Z h' a ty vs := by obtain ⟨c, A, r⟩ := F; exact ⟨c, A.ext E, r⟩
theorem IA.other {sl : Nat} {v : Value} (F : IA Z h a ty vs) (W : Wr h h' b sl v) (q : a ≠ b) : IA Z h' a ty vs := by obtain ⟨c, A, r⟩ := F; exact ⟨c, A.other W q, r⟩
theorem IA.keep {ws : List Addr} (F : IA Z h a ty vs) (K : Keep h h' ws) (q : a ∉ ws) : IA Z h' a ty vs := by obtain ⟨c, A, r⟩ := F; exact ⟨c, ⟨K.2.1 a c A.1 q, A.2⟩, r⟩
theorem IA.set {i : Nat} {v : Value} (F : IA Z h a ty vs) (W : Wr h h' a i v) : IA Z h' a ty (vs.set i v) := by
  obtain ⟨c, A, r, q⟩ := F
  refine ⟨_, A.same W, ?_, by rw [List.length_set]; exact q⟩
  show (c.slots.setIfInBounds i v) = _
  rw [r]; simp
theorem IA.new {k : ClassId} {z : Int32} {i : Nat} (A : Arr Z h a (newA k ty z) ty) (hz : z.toNatClampNeg = i) : IA Z h a ty (List.replicate i (defaultValue ty)) := by
  refine ⟨_, A, ?_, ?_⟩
  · show Array.replicate _ _ = _
    rw [hz]; simp
  · rw [List.length_replicate, ← hz]
    have := z.toInt_lt
    simp only [Int32.toNatClampNeg]; omega
theorem inA {cl : Cell} {j : Int32} {i : Nat} (r : cl.slots = vs.toArray) (hj : ¬ j < 0) (hi : j.toNatClampNeg = i) (hv : i < vs.length) : ¬ (j < 0 ∨ cl.slots.size ≤ j.toNatClampNeg) := by
  rintro (q | q)
  · exact hj q
  · rw [r, hi] at q; simp at q; omega
end Arrays
theorem Rt.newP (X : Sd p l e R s m args below meth c T n0 cells slots h0) (hx : p.tables.exec = Jvm.exec) {Z : State} {a0 : Array Value} (hZ : Z.Warmed39 s.vm) {aty : ArrayType} {ty : FieldType} (hty : newarray.typeOf aty = ty) (w : (Cond.arrayClass ty).before a0 Z = true) {z : Int32} {i : Nat} (hz : z.toNatClampNeg = i) (hn : ¬ z < 0) {cap : Nat} (hcap : i ≤ cap) (hb : cap * 8 ≤ 536870912) {pc pc' : Nat} {Ls : Array Slot} {S : List Value} (hd : decode c.code pc = .ok (.newarray aty, 2)) (hc : cells + 1 ≤ R.cells) (hl : slots + cap ≤ R.slots) (hp : pc + 2 = pc')
    (hh : ∀ T' h' a, a = h0.size → Sd p l e R s m args below meth c T' n0 (cells + 1) (slots + cap) h' → Ext h0 h' → IA Z h' a ty (List.replicate i (defaultValue ty)) → Rt p e below s k n P (T'.setTop (mkF m pc' Ls (.ref a :: S)))) : Rt p e below s k n P (T.setTop (mkF m pc Ls (.int z :: S))) := by
  subst hp hty
  obtain ⟨locs, X, N, eT⟩ := X
  obtain ⟨T', h', cA, X', e', E', A', st⟩ := Jvm.RoadKit.newP X hx hZ w eT (g := mkF m pc Ls (.int z :: S)) rfl hd rfl hn (cap := cap) (by rw [hz]; exact hcap) hb hc hl
  exact Rt.go st (hh T' h' _ rfl ⟨_, X', N, e'⟩ E' (IA.new A' hz))
theorem Rt.arraylength (X : Sd p l e R s m args below meth c T n0 cells slots h0) (hx : p.tables.exec = Jvm.exec) {Z : State} (hZ : Z.Warmed39 s.vm) {ty : FieldType} {a : Addr} {vs : List Value} (F : IA Z h0 a ty vs) {v : Int32} (hv : vs.length.toInt32 = v) {pc pc' : Nat} {Ls : Array Slot} {S : List Value} (hd : decode c.code pc = .ok (.arraylength, 1)) (hp : pc + 1 = pc')
    (h : Rt p e below s k n P (T.setTop (mkF m pc' Ls (.int v :: S)))) : Rt p e below s k n P (T.setTop (mkF m pc Ls (.ref a :: S))) := by
  subst hp hv
  obtain ⟨locs, X, N, eT⟩ := X
  obtain ⟨cl, A, r, q⟩ := F
  have e1 : vs.length = cl.slots.size := by rw [r]; simp
  rw [e1] at h
  exact Rt.go (X.arraylength hx (by rw [eT]; exact A.1) (State.isArrayOf_alike hZ.alike A.2.1) (g := mkF m pc Ls (.ref a :: S)) rfl rfl hd) h

theorem Rt.iaload (X : Sd p l e R s m args below meth c T n0 cells slots h0) (hx : p.tables.exec = Jvm.exec) {Z : State} (hZ : Z.Warmed39 s.vm) {a : Addr} {vs : List Value} (F : IA Z h0 a .int vs) {j : Int32} {i : Nat} (hi : j.toNatClampNeg = i) (hj : ¬ j < 0) {v : Value} (hv : vs[i]? = some v) {pc pc' : Nat} {Ls : Array Slot} {S : List Value} (hd : decode c.code pc = .ok (.iaload, 1)) (hp : pc + 1 = pc')
    (h : Rt p e below s k n P (T.setTop (mkF m pc' Ls (v :: S)))) : Rt p e below s k n P (T.setTop (mkF m pc Ls (.int j :: .ref a :: S))) := by
  subst hp
  obtain ⟨locs, X, N, eT⟩ := X
  obtain ⟨cl, A, r, q⟩ := F
  exact Rt.go (X.iaload hx (j := j) (v := v) (by rw [eT]; exact A.1) (State.isArrayOf_alike hZ.alike A.2.1) A.2.2 (inA r hj hi (List.getElem?_eq_some_iff.mp hv).1) (by rw [r, hi]; simpa using hv) (g := mkF m pc Ls (.int j :: .ref a :: S)) rfl rfl hd) h
theorem Rt.laload (X : Sd p l e R s m args below meth c T n0 cells slots h0) (hx : p.tables.exec = Jvm.exec) {Z : State} (hZ : Z.Warmed39 s.vm) {a : Addr} {vs : List Value} (F : IA Z h0 a .long vs) {j : Int32} {i : Nat} (hi : j.toNatClampNeg = i) (hj : ¬ j < 0) {v : Value} (hv : vs[i]? = some v) {pc pc' : Nat} {Ls : Array Slot} {S : List Value} (hd : decode c.code pc = .ok (.laload, 1)) (hp : pc + 1 = pc')
    (h : Rt p e below s k n P (T.setTop (mkF m pc' Ls (v :: S)))) : Rt p e below s k n P (T.setTop (mkF m pc Ls (.int j :: .ref a :: S))) := by
  subst hp
  obtain ⟨locs, X, N, eT⟩ := X
  obtain ⟨cl, A, r, q⟩ := F
  exact Rt.go (X.laload hx (j := j) (v := v) (by rw [eT]; exact A.1) (State.isArrayOf_alike hZ.alike A.2.1) A.2.2 (inA r hj hi (List.getElem?_eq_some_iff.mp hv).1) (by rw [r, hi]; simpa using hv) (g := mkF m pc Ls (.int j :: .ref a :: S)) rfl rfl hd) h
theorem Rt.baload (X : Sd p l e R s m args below meth c T n0 cells slots h0) (hx : p.tables.exec = Jvm.exec) {Z : State} (hZ : Z.Warmed39 s.vm) {a : Addr} {vs : List Value} (F : IA Z h0 a .byte vs) {j : Int32} {i : Nat} (hi : j.toNatClampNeg = i) (hj : ¬ j < 0) {v : Value} (hv : vs[i]? = some v) {pc pc' : Nat} {Ls : Array Slot} {S : List Value} (hd : decode c.code pc = .ok (.baload, 1)) (hp : pc + 1 = pc')
    (h : Rt p e below s k n P (T.setTop (mkF m pc' Ls (v :: S)))) : Rt p e below s k n P (T.setTop (mkF m pc Ls (.int j :: .ref a :: S))) := by
  subst hp
  obtain ⟨locs, X, N, eT⟩ := X
  obtain ⟨cl, A, r, q⟩ := F
  exact Rt.go (X.baloadBytes hx (j := j) (v := v) (by rw [eT]; exact A.1) (State.isArrayOf_alike hZ.alike A.2.1) A.2.2 (inA r hj hi (List.getElem?_eq_some_iff.mp hv).1) (by rw [r, hi]; simpa using hv) (g := mkF m pc Ls (.int j :: .ref a :: S)) rfl rfl hd) h
theorem Rt.zaload (X : Sd p l e R s m args below meth c T n0 cells slots h0) (hx : p.tables.exec = Jvm.exec) {Z : State} (hZ : Z.Warmed39 s.vm) {a : Addr} {vs : List Value} (F : IA Z h0 a .boolean vs) {j : Int32} {i : Nat} (hi : j.toNatClampNeg = i) (hj : ¬ j < 0) {v : Value} (hv : vs[i]? = some v) {pc pc' : Nat} {Ls : Array Slot} {S : List Value} (hd : decode c.code pc = .ok (.baload, 1)) (hp : pc + 1 = pc')
    (h : Rt p e below s k n P (T.setTop (mkF m pc' Ls (v :: S)))) : Rt p e below s k n P (T.setTop (mkF m pc Ls (.int j :: .ref a :: S))) := by
  subst hp
  obtain ⟨locs, X, N, eT⟩ := X
  obtain ⟨cl, A, r, q⟩ := F
  exact Rt.go (X.baloadBooleans hx (j := j) (v := v) (by rw [eT]; exact A.1) (State.isArrayOf_alike hZ.alike A.2.1) A.2.2 (inA r hj hi (List.getElem?_eq_some_iff.mp hv).1) (by rw [r, hi]; simpa using hv) (g := mkF m pc Ls (.int j :: .ref a :: S)) rfl rfl hd) h
theorem Rt.caload (X : Sd p l e R s m args below meth c T n0 cells slots h0) (hx : p.tables.exec = Jvm.exec) {Z : State} (hZ : Z.Warmed39 s.vm) {a : Addr} {vs : List Value} (F : IA Z h0 a .char vs) {j : Int32} {i : Nat} (hi : j.toNatClampNeg = i) (hj : ¬ j < 0) {v : Value} (hv : vs[i]? = some v) {pc pc' : Nat} {Ls : Array Slot} {S : List Value} (hd : decode c.code pc = .ok (.caload, 1)) (hp : pc + 1 = pc')
    (h : Rt p e below s k n P (T.setTop (mkF m pc' Ls (v :: S)))) : Rt p e below s k n P (T.setTop (mkF m pc Ls (.int j :: .ref a :: S))) := by
  subst hp
  obtain ⟨locs, X, N, eT⟩ := X
  obtain ⟨cl, A, r, q⟩ := F
  exact Rt.go (X.caload hx (j := j) (v := v) (by rw [eT]; exact A.1) (State.isArrayOf_alike hZ.alike A.2.1) A.2.2 (inA r hj hi (List.getElem?_eq_some_iff.mp hv).1) (by rw [r, hi]; simpa using hv) (g := mkF m pc Ls (.int j :: .ref a :: S)) rfl rfl hd) h
theorem Rt.aaload (X : Sd p l e R s m args below meth c T n0 cells slots h0) (hx : p.tables.exec = Jvm.exec) {Z : State} (hZ : Z.Warmed39 s.vm) {ty : FieldType} (hty : ty.isReference = true) {a : Addr} {vs : List Value} (F : IA Z h0 a ty vs) {j : Int32} {i : Nat} (hi : j.toNatClampNeg = i) (hj : ¬ j < 0) {v : Value} (hv : vs[i]? = some v) {pc pc' : Nat} {Ls : Array Slot} {S : List Value} (hd : decode c.code pc = .ok (.aaload, 1)) (hp : pc + 1 = pc')
    (h : Rt p e below s k n P (T.setTop (mkF m pc' Ls (v :: S)))) : Rt p e below s k n P (T.setTop (mkF m pc Ls (.int j :: .ref a :: S))) := by
  subst hp
  obtain ⟨locs, X, N, eT⟩ := X
  obtain ⟨cl, A, r, q⟩ := F
  exact Rt.go (X.aaload hx (j := j) (v := v) (by rw [eT]; exact A.1) (State.isArrayOf_alike hZ.alike A.2.1) hty A.2.2 (inA r hj hi (List.getElem?_eq_some_iff.mp hv).1) (by rw [r, hi]; simpa using hv) (g := mkF m pc Ls (.int j :: .ref a :: S)) rfl rfl hd) h
theorem Rt.iastore (X : Sd p l e R s m args below meth c T n0 cells slots h0) (hx : p.tables.exec = Jvm.exec) {Z : State} (hZ : Z.Warmed39 s.vm) {a : Addr} {vs : List Value} (F : IA Z h0 a .int vs) {j : Int32} {i : Nat} (hi : j.toNatClampNeg = i) (hj : ¬ j < 0) (hv : i < vs.length) {x : Int32} {w : Value} (hw : .int x = w) (ga : n0 ≤ a) {pc pc' : Nat} {Ls : Array Slot} {S : List Value} (hd : decode c.code pc = .ok (.iastore, 1)) (hp : pc + 1 = pc')
    (hh : ∀ T' h', Sd p l e R s m args below meth c T' n0 cells slots h' → Wr h0 h' a i w → IA Z h' a .int (vs.set i w) → Rt p e below s k n P (T'.setTop (mkF m pc' Ls S))) : Rt p e below s k n P (T.setTop (mkF m pc Ls (.int x :: .int j :: .ref a :: S))) := by
  subst hp hw
  obtain ⟨locs, X, N, eT⟩ := X
  obtain ⟨cl, A, r, q⟩ := id F
  obtain ⟨T', h', X', e', W', st⟩ := stI X hx hZ eT A (j := j) (inA r hj hi hv) (g := mkF m pc Ls (.int x :: .int j :: .ref a :: S)) rfl rfl hd
  rw [hi] at W'
  exact Rt.go st (hh T' h' ⟨_, X', Fr.snoc X' N ga, e'⟩ W' (F.set W'))
theorem Rt.lastore (X : Sd p l e R s m args below meth c T n0 cells slots h0) (hx : p.tables.exec = Jvm.exec) {Z : State} (hZ : Z.Warmed39 s.vm) {a : Addr} {vs : List Value} (F : IA Z h0 a .long vs) {j : Int32} {i : Nat} (hi : j.toNatClampNeg = i) (hj : ¬ j < 0) (hv : i < vs.length) {x : Int64} {w : Value} (hw : .long x = w) (ga : n0 ≤ a) {pc pc' : Nat} {Ls : Array Slot} {S : List Value} (hd : decode c.code pc = .ok (.lastore, 1)) (hp : pc + 1 = pc')
    (hh : ∀ T' h', Sd p l e R s m args below meth c T' n0 cells slots h' → Wr h0 h' a i w → IA Z h' a .long (vs.set i w) → Rt p e below s k n P (T'.setTop (mkF m pc' Ls S))) : Rt p e below s k n P (T.setTop (mkF m pc Ls (.long x :: .int j :: .ref a :: S))) := by
  subst hp hw
  obtain ⟨locs, X, N, eT⟩ := X
  obtain ⟨cl, A, r, q⟩ := id F
  obtain ⟨T', h', X', e', W', st⟩ := stJ X hx hZ eT A (j := j) (inA r hj hi hv) (g := mkF m pc Ls (.long x :: .int j :: .ref a :: S)) rfl rfl hd
  rw [hi] at W'
  exact Rt.go st (hh T' h' ⟨_, X', Fr.snoc X' N ga, e'⟩ W' (F.set W'))
theorem Rt.bastore (X : Sd p l e R s m args below meth c T n0 cells slots h0) (hx : p.tables.exec = Jvm.exec) {Z : State} (hZ : Z.Warmed39 s.vm) {a : Addr} {vs : List Value} (F : IA Z h0 a .byte vs) {j : Int32} {i : Nat} (hi : j.toNatClampNeg = i) (hj : ¬ j < 0) (hv : i < vs.length) {x : Int32} {w : Value} (hw : .int (nar .byte x) = w) (ga : n0 ≤ a) {pc pc' : Nat} {Ls : Array Slot} {S : List Value} (hd : decode c.code pc = .ok (.bastore, 1)) (hp : pc + 1 = pc')
    (hh : ∀ T' h', Sd p l e R s m args below meth c T' n0 cells slots h' → Wr h0 h' a i w → IA Z h' a .byte (vs.set i w) → Rt p e below s k n P (T'.setTop (mkF m pc' Ls S))) : Rt p e below s k n P (T.setTop (mkF m pc Ls (.int x :: .int j :: .ref a :: S))) := by
  subst hp hw
  obtain ⟨locs, X, N, eT⟩ := X
  obtain ⟨cl, A, r, q⟩ := id F
  obtain ⟨T', h', X', e', W', st⟩ := stB X hx hZ eT A (j := j) (inA r hj hi hv) (g := mkF m pc Ls (.int x :: .int j :: .ref a :: S)) rfl rfl hd
  rw [hi] at W'
  exact Rt.go st (hh T' h' ⟨_, X', Fr.snoc X' N ga, e'⟩ W' (F.set W'))
theorem Rt.zastore (X : Sd p l e R s m args below meth c T n0 cells slots h0) (hx : p.tables.exec = Jvm.exec) {Z : State} (hZ : Z.Warmed39 s.vm) {a : Addr} {vs : List Value} (F : IA Z h0 a .boolean vs) {j : Int32} {i : Nat} (hi : j.toNatClampNeg = i) (hj : ¬ j < 0) (hv : i < vs.length) {x : Int32} {w : Value} (hw : .int (nar .boolean x) = w) (ga : n0 ≤ a) {pc pc' : Nat} {Ls : Array Slot} {S : List Value} (hd : decode c.code pc = .ok (.bastore, 1)) (hp : pc + 1 = pc')
    (hh : ∀ T' h', Sd p l e R s m args below meth c T' n0 cells slots h' → Wr h0 h' a i w → IA Z h' a .boolean (vs.set i w) → Rt p e below s k n P (T'.setTop (mkF m pc' Ls S))) : Rt p e below s k n P (T.setTop (mkF m pc Ls (.int x :: .int j :: .ref a :: S))) := by
  subst hp hw
  obtain ⟨locs, X, N, eT⟩ := X
  obtain ⟨cl, A, r, q⟩ := id F
  obtain ⟨T', h', X', e', W', st⟩ := stZ X hx hZ eT A (j := j) (inA r hj hi hv) (g := mkF m pc Ls (.int x :: .int j :: .ref a :: S)) rfl rfl hd
  rw [hi] at W'
  exact Rt.go st (hh T' h' ⟨_, X', Fr.snoc X' N ga, e'⟩ W' (F.set W'))
theorem Rt.castore (X : Sd p l e R s m args below meth c T n0 cells slots h0) (hx : p.tables.exec = Jvm.exec) {Z : State} (hZ : Z.Warmed39 s.vm) {a : Addr} {vs : List Value} (F : IA Z h0 a .char vs) {j : Int32} {i : Nat} (hi : j.toNatClampNeg = i) (hj : ¬ j < 0) (hv : i < vs.length) {x : Int32} {w : Value} (hw : .int (nar .char x) = w) (ga : n0 ≤ a) {pc pc' : Nat} {Ls : Array Slot} {S : List Value} (hd : decode c.code pc = .ok (.castore, 1)) (hp : pc + 1 = pc')
    (hh : ∀ T' h', Sd p l e R s m args below meth c T' n0 cells slots h' → Wr h0 h' a i w → IA Z h' a .char (vs.set i w) → Rt p e below s k n P (T'.setTop (mkF m pc' Ls S))) : Rt p e below s k n P (T.setTop (mkF m pc Ls (.int x :: .int j :: .ref a :: S))) := by
  subst hp hw
  obtain ⟨locs, X, N, eT⟩ := X
  obtain ⟨cl, A, r, q⟩ := id F
  obtain ⟨T', h', X', e', W', st⟩ := stC X hx hZ eT A (j := j) (inA r hj hi hv) (g := mkF m pc Ls (.int x :: .int j :: .ref a :: S)) rfl rfl hd
  rw [hi] at W'
  exact Rt.go st (hh T' h' ⟨_, X', Fr.snoc X' N ga, e'⟩ W' (F.set W'))
/-- an array of so many elements -/
def IL (Z : State) (h : Heap) (a : Addr) (ty : FieldType) (N : Nat) : Prop := ∃ vs, IA Z h a ty vs ∧ vs.length = N
section Arrays
variable {Z : State} {h h' : Heap} {a b : Addr} {ty : FieldType} {N : Nat}
theorem IL.lt (F : IL Z h a ty N) : a < h.size := by obtain ⟨_, A, -⟩ := F; exact A.lt
theorem IL.ext (F : IL Z h a ty N) (E : Ext h h') : IL Z h' a ty N := by obtain ⟨c, A, r⟩ := F; exact ⟨c, A.ext E, r⟩
theorem IL.other {sl : Nat} {v : Value} (F : IL Z h a ty N) (W : Wr h h' b sl v) (q : a ≠ b) : IL Z h' a ty N := by obtain ⟨c, A, r⟩ := F; exact ⟨c, A.other W q, r⟩
theorem IL.wr {sl : Nat} {v : Value} (F : IL Z h a ty N) (W : Wr h h' b sl v) : IL Z h' a ty N := by
  obtain ⟨vs, A, r⟩ := F
  by_cases q : a = b
  · subst q; exact ⟨_, A.set W, by rw [List.length_set]; exact r⟩
  · exact ⟨vs, A.other W q, r⟩
theorem IL.keep {ws : List Addr} (F : IL Z h a ty N) (K : Keep h h' ws) : IL Z h' a ty N := by
  obtain ⟨vs, ⟨c, ⟨A1, ⟨A2, A3⟩, A4⟩, r1, r2⟩, r⟩ := F
  obtain ⟨c', q, e1, e2, e3⟩ := K.2.2 a c A1
  refine ⟨c'.slots.toList, ⟨c', ⟨q, ⟨?_, ?_⟩, by rw [e2]; exact A4⟩, by simp, ?_⟩, ?_⟩
  · rw [e2]; exact A2
  · rw [e1]; exact A3
  · rw [Array.length_toList, e3, r1]; simpa using r2
  · rw [Array.length_toList, e3, r1]; simpa using r
end Arrays
theorem Rt.arraylengthL (X : Sd p l e R s m args below meth c T n0 cells slots h0) (hx : p.tables.exec = Jvm.exec) {Z : State} (hZ : Z.Warmed39 s.vm) {ty : FieldType} {a : Addr} {N : Nat} (F : IL Z h0 a ty N) {v : Int32} (hv : N.toInt32 = v) {pc pc' : Nat} {Ls : Array Slot} {S : List Value} (hd : decode c.code pc = .ok (.arraylength, 1)) (hp : pc + 1 = pc')
    (h : Rt p e below s k n P (T.setTop (mkF m pc' Ls (.int v :: S)))) : Rt p e below s k n P (T.setTop (mkF m pc Ls (.ref a :: S))) := by
  obtain ⟨vs, F, rfl⟩ := F
  exact Rt.arraylength X hx hZ F hv hd hp h
theorem Rt.iastoreL (X : Sd p l e R s m args below meth c T n0 cells slots h0) (hx : p.tables.exec = Jvm.exec) {Z : State} (hZ : Z.Warmed39 s.vm) {a : Addr} {N : Nat} (F : IL Z h0 a .int N) {j : Int32} {i : Nat} (hi : j.toNatClampNeg = i) (hj : ¬ j < 0) (hv : i < N) {x : Int32} (ga : n0 ≤ a) {pc pc' : Nat} {Ls : Array Slot} {S : List Value} (hd : decode c.code pc = .ok (.iastore, 1)) (hp : pc + 1 = pc')
    (hh : ∀ T' h', Sd p l e R s m args below meth c T' n0 cells slots h' → ∀ w, Wr h0 h' a i w → IL Z h' a .int N → Rt p e below s k n P (T'.setTop (mkF m pc' Ls S))) : Rt p e below s k n P (T.setTop (mkF m pc Ls (.int x :: .int j :: .ref a :: S))) := by
  obtain ⟨vs, F, rfl⟩ := F
  exact Rt.iastore X hx hZ F hi hj hv rfl ga hd hp fun T' h' X' W' F' => hh T' h' X' _ W' ⟨_, F', List.length_set⟩
theorem Rt.lastoreL (X : Sd p l e R s m args below meth c T n0 cells slots h0) (hx : p.tables.exec = Jvm.exec) {Z : State} (hZ : Z.Warmed39 s.vm) {a : Addr} {N : Nat} (F : IL Z h0 a .long N) {j : Int32} {i : Nat} (hi : j.toNatClampNeg = i) (hj : ¬ j < 0) (hv : i < N) {x : Int64} (ga : n0 ≤ a) {pc pc' : Nat} {Ls : Array Slot} {S : List Value} (hd : decode c.code pc = .ok (.lastore, 1)) (hp : pc + 1 = pc')
    (hh : ∀ T' h', Sd p l e R s m args below meth c T' n0 cells slots h' → ∀ w, Wr h0 h' a i w → IL Z h' a .long N → Rt p e below s k n P (T'.setTop (mkF m pc' Ls S))) : Rt p e below s k n P (T.setTop (mkF m pc Ls (.long x :: .int j :: .ref a :: S))) := by
  obtain ⟨vs, F, rfl⟩ := F
  exact Rt.lastore X hx hZ F hi hj hv rfl ga hd hp fun T' h' X' W' F' => hh T' h' X' _ W' ⟨_, F', List.length_set⟩
theorem Rt.bastoreL (X : Sd p l e R s m args below meth c T n0 cells slots h0) (hx : p.tables.exec = Jvm.exec) {Z : State} (hZ : Z.Warmed39 s.vm) {a : Addr} {N : Nat} (F : IL Z h0 a .byte N) {j : Int32} {i : Nat} (hi : j.toNatClampNeg = i) (hj : ¬ j < 0) (hv : i < N) {x : Int32} (ga : n0 ≤ a) {pc pc' : Nat} {Ls : Array Slot} {S : List Value} (hd : decode c.code pc = .ok (.bastore, 1)) (hp : pc + 1 = pc')
    (hh : ∀ T' h', Sd p l e R s m args below meth c T' n0 cells slots h' → ∀ w, Wr h0 h' a i w → IL Z h' a .byte N → Rt p e below s k n P (T'.setTop (mkF m pc' Ls S))) : Rt p e below s k n P (T.setTop (mkF m pc Ls (.int x :: .int j :: .ref a :: S))) := by
  obtain ⟨vs, F, rfl⟩ := F
  exact Rt.bastore X hx hZ F hi hj hv rfl ga hd hp fun T' h' X' W' F' => hh T' h' X' _ W' ⟨_, F', List.length_set⟩
theorem Rt.zastoreL (X : Sd p l e R s m args below meth c T n0 cells slots h0) (hx : p.tables.exec = Jvm.exec) {Z : State} (hZ : Z.Warmed39 s.vm) {a : Addr} {N : Nat} (F : IL Z h0 a .boolean N) {j : Int32} {i : Nat} (hi : j.toNatClampNeg = i) (hj : ¬ j < 0) (hv : i < N) {x : Int32} (ga : n0 ≤ a) {pc pc' : Nat} {Ls : Array Slot} {S : List Value} (hd : decode c.code pc = .ok (.bastore, 1)) (hp : pc + 1 = pc')
    (hh : ∀ T' h', Sd p l e R s m args below meth c T' n0 cells slots h' → ∀ w, Wr h0 h' a i w → IL Z h' a .boolean N → Rt p e below s k n P (T'.setTop (mkF m pc' Ls S))) : Rt p e below s k n P (T.setTop (mkF m pc Ls (.int x :: .int j :: .ref a :: S))) := by
  obtain ⟨vs, F, rfl⟩ := F
  exact Rt.zastore X hx hZ F hi hj hv rfl ga hd hp fun T' h' X' W' F' => hh T' h' X' _ W' ⟨_, F', List.length_set⟩
theorem Rt.castoreL (X : Sd p l e R s m args below meth c T n0 cells slots h0) (hx : p.tables.exec = Jvm.exec) {Z : State} (hZ : Z.Warmed39 s.vm) {a : Addr} {N : Nat} (F : IL Z h0 a .char N) {j : Int32} {i : Nat} (hi : j.toNatClampNeg = i) (hj : ¬ j < 0) (hv : i < N) {x : Int32} (ga : n0 ≤ a) {pc pc' : Nat} {Ls : Array Slot} {S : List Value} (hd : decode c.code pc = .ok (.castore, 1)) (hp : pc + 1 = pc')
    (hh : ∀ T' h', Sd p l e R s m args below meth c T' n0 cells slots h' → ∀ w, Wr h0 h' a i w → IL Z h' a .char N → Rt p e below s k n P (T'.setTop (mkF m pc' Ls S))) : Rt p e below s k n P (T.setTop (mkF m pc Ls (.int x :: .int j :: .ref a :: S))) := by
  obtain ⟨vs, F, rfl⟩ := F
  exact Rt.castore X hx hZ F hi hj hv rfl ga hd hp fun T' h' X' W' F' => hh T' h' X' _ W' ⟨_, F', List.length_set⟩
/-- a field whose pool entry is resolved already -/
theorem Rt.getFR (X : Sd p l e R s m args below meth c T n0 cells slots h0) (hx : p.tables.exec = Jvm.exec) {Z : State} {a0 : Array Value} (hZ : Z.Warmed39 s.vm) {own K f d : String} {index : Nat} (hown : s.vm.findClass own = some m.cls) (w : (Cond.fieldRef own index K f d).before a0 Z = true) {v : Value} {a : Addr} (F : Fld Z h0 a K f d v) {pc pc' : Nat} {Ls : Array Slot} {S : List Value} (hd : decode c.code pc = .ok (.getfield index, 3)) (hp : pc + 3 = pc')
    (hh : ∀ T', Sd p l e R s m args below meth c T' n0 cells slots h0 → Rt p e below s k n P (T'.setTop (mkF m pc' Ls (v :: S)))) : Rt p e below s k n P (T.setTop (mkF m pc Ls (.ref a :: S))) := by
  subst hp
  have hX := X
  obtain ⟨locs, X, N, eT⟩ := X
  have hZT : Z.Warmed39 T.vm := wtrans hZ X.warmed
  obtain ⟨cell, cf, kf, i, fl, g1, g2, g3, g4, -, -, g7⟩ := F
  have hw := Cond.fieldRef_warmed39 hZT w
  have hownZ : (Z.setVm T.vm).vm.findClass own = some m.cls := by
    show T.vm.findClass own = some m.cls
    rw [X.warmed.alike.findClass]; exact hown
  obtain ⟨c2, k2, i2, f2, q1, q2⟩ := Cond.fieldRef_spec hownZ hw
  obtain ⟨k', hi, -⟩ := State.fieldFound?_setVm (s := Z) hZT.alike g2
  cases hi.symm.trans q1
  have hst : ∀ target, Steps p.tables e below (T.setTop (mkF m (pc + 3) Ls (v :: S))) target → Steps p.tables e below (T.setTop (mkF m pc Ls (.ref a :: S))) target := by
    intro target hrest
    jvm_step X.here [hx, hd, getfield.wp_ready (e := e) (s := T) (f := mkF m pc Ls (.ref a :: S)) X.here.top q2 g3 rfl (show T.heap[a]? = some cell by rw [eT]; exact g1) g4 g7]
    exact hrest
  exact Rt.go hst (hh T hX)
/-- a nest mate's constructor by its contract -/
theorem Rt.callIN (X : Sd p l e R s m args below meth c T n0 cells slots h0) (hx : p.tables.exec = Jvm.exec) {Z : State} {a0 : Array Value} (hZ : Z.Warmed39 s.vm) {own : String} {index : Nat} {y : MethodName} {bytes : ByteArray} {maxL W : Nat} {rm : Room} {as' : Array Value} {Q : Option Value → Heap → List Loc → Prop} {host : String} (hy1 : y.name = "<init>")
    (hown : s.vm.findClass own = some m.cls) (w1 : (Cond.methodLinkNest own index y host).before a0 Z = true) (w2 : (Cond.instanceMethod y).before a0 Z = true) (w3 : (Cond.initialized y.cls).before a0 Z = true) (w4 : (Cond.code y bytes maxL none).before a0 Z = true) (hy : y.cls ≠ "java/lang/invoke/MethodHandle" ∧ y.cls ≠ "java/lang/invoke/VarHandle")
    {a : Addr} (hM : Mt l Z y [Cond.code y bytes maxL none] rm as' h0 Q) (hF : ∀ v h L, Q v h L → Fr n0 L) (hf : rm.frames + 1 ≤ R.frames) (hl : W + (maxL + 11) + rm.locals ≤ R.locals) (hc : cells + rm.cells ≤ R.cells) (hs : slots + rm.slots ≤ R.slots)
    {pc pc' : Nat} {Ls : Array Slot} {S argsL rest : List Value} (hsize : Ls.size = c.maxLocals) (hlen : ∀ sig, parseMethodDescriptor y.desc = some sig → argsL.length = sig.parameters.length) (hst : S = argsL.reverse ++ .ref a :: rest) (has : (.ref a :: argsL).toArray = as') (hW : (rest.map fun v => v.category).sum ≤ W) (hd : decode c.code pc = .ok (.invokespecial index, 3)) (hp : pc + 3 = pc')
    (hh : ∀ v T' h' L, Sd p l e R s m args below meth c T' n0 (cells + rm.cells) (slots + rm.slots) h' → Q v h' L → Rt p e below s k n P (T'.setTop (mkF m pc' Ls (v.toList ++ rest)))) : Rt p e below s k n P (T.setTop (mkF m pc Ls S)) := by
  subst hp has
  obtain ⟨locs, X, N, eT⟩ := X
  have w1' : (Cond.methodLinkNest own index y host).before args s = true := by
    have q := Cond.methodLinkNest_wide hZ w1
    simp only [Cond.before, Cond.holds, Cond.value] at q ⊢
    exact q
  obtain ⟨v, _, ⟨T', L', k', n'⟩, -, X', ⟨Lc, hQ, l', y', z'⟩, st⟩ := X.specialBackNest hx (y := y) hy1 hown w1' (mvT hZ w2) (mvT hZ w4) hy (backOf (W := W) hM hZ w4 w3 hf hl) (g := mkF m pc Ls S) rfl hsize (Steps.refl _) (a := a) (argsL := argsL) (rest := rest) hlen hst (by show 2 * 0 + _ ≤ _; omega) hd (fun _ _ => ⟨rfl, eT, hc, hs⟩)
  dsimp only [Pt.U, Pt.locs, Pt.cells, Pt.slots] at X' l' y' z' st hQ
  subst l' y' z'
  exact Rt.go (fun _ q => st.trans q) (hh v T' _ Lc ⟨_, X', Fr.app N (hF _ _ _ hQ), rfl⟩ hQ)
end Own
abbrev nm1 : String := "com/example/tightfold/tightfold/FocusFiltering$Run"
abbrev nm2 : String := "com/example/tightfold/tightfold/FocusFiltering$PartialCover"
abbrev nm3 : String := "Lcom/example/tightfold/tightfold/FocusFiltering$Run;"
abbrev nm4 : String := "com/example/tightfold/tightfold/FocusFiltering"
abbrev mt1 : MethodName := ⟨"java/lang/Math", "min", "(II)I"⟩
abbrev mt2 : MethodName := ⟨"java/lang/Math", "max", "(II)I"⟩
abbrev mt3 : MethodName := ⟨"com/example/tightfold/tightfold/FocusFiltering$Run", "<init>", "()V"⟩
abbrev mt4 : MethodName := ⟨"com/example/tightfold/tightfold/FocusFiltering$Run", "clear", "(I)V"⟩
abbrev mt5 : MethodName := ⟨"com/example/tightfold/tightfold/FocusFiltering$Run", "offer", "(III)V"⟩
abbrev mt6 : MethodName := ⟨"com/example/tightfold/tightfold/FocusFiltering$PartialCover", "fewest", "()I"⟩
abbrev mt7 : MethodName := ⟨"com/example/tightfold/tightfold/FocusFiltering$PartialCover", "offerExtension", "(Lcom/example/tightfold/tightfold/FocusFiltering$Run;Lcom/example/tightfold/tightfold/FocusFiltering$Run;II)V"⟩
abbrev mt8 : MethodName := ⟨"com/example/tightfold/tightfold/FocusFiltering$PartialCover", "extend", "(ZZI)V"⟩
abbrev mt9 : MethodName := ⟨"com/example/tightfold/tightfold/FocusFiltering$PartialCover", "<init>", "(II)V"⟩
abbrev mt10 : MethodName := ⟨"com/example/tightfold/tightfold/FocusFiltering", "<init>", "(II)V"⟩
abbrev mt11 : MethodName := ⟨"com/example/tightfold/tightfold/FocusFiltering", "fewestRuns", "([Z[ZI)I"⟩
abbrev mt12 : MethodName := ⟨"com/example/tightfold/tightfold/FocusFilteringFewestRunsPinLaw", "hi", "(II)Z"⟩
abbrev mt13 : MethodName := ⟨"com/example/tightfold/tightfold/FocusFilteringFewestRunsPinLaw", "pre", "(II)I"⟩
abbrev mt14 : MethodName := ⟨"com/example/tightfold/tightfold/FocusFilteringFewestRunsPinLaw", "fits", "(IIIII)Z"⟩
abbrev mt15 : MethodName := ⟨"com/example/tightfold/tightfold/FocusFilteringFewestRunsPinLaw", "c", "(IIIIII)I"⟩
abbrev mt16 : MethodName := ⟨"com/example/tightfold/tightfold/FocusFilteringFewestRunsPinLaw", "cost", "(III)I"⟩
abbrev mt17 : MethodName := ⟨"com/example/tightfold/tightfold/FocusFilteringFewestRunsPinLaw", "val", "(IIIII)I"⟩
theorem d10_0 : decode jdk_29_method_69_code 0 = .ok (.iload_n 0, 1) := by decide +kernel
theorem d10_1 : decode jdk_29_method_69_code 1 = .ok (.iload_n 1, 1) := by decide +kernel
theorem d10_2 : decode jdk_29_method_69_code 2 = .ok (.if_icmp .gt 7, 3) := by decide +kernel
theorem d10_9 : decode jdk_29_method_69_code 9 = .ok (.iload_n 1, 1) := by decide +kernel
theorem d10_10 : decode jdk_29_method_69_code 10 = .ok (.ireturn, 1) := by decide +kernel
theorem d10_5 : decode jdk_29_method_69_code 5 = .ok (.iload_n 0, 1) := by decide +kernel
theorem d10_6 : decode jdk_29_method_69_code 6 = .ok (.goto 4, 3) := by decide +kernel
def f10 (p1 : Int32) (p2 : Int32) : Int32 := (if p2 < p1 then p2 else p1)
def Q10 (p1 : Int32) (p2 : Int32) (h0 : Heap) (n0 : Nat) (v : Option Value) (h : Heap) (L : List Loc) : Prop := v = some (.int (f10 p1 p2)) ∧ Fr n0 L ∧ h = h0
def rmR10 : Room := { frames := 0, cells := 0, slots := 0, locals := 0 }
theorem ef_10 (m : MethodId) (p1 : Int32) (p2 : Int32) : entryFrame m #[(.int p1), (.int p2)] 2 = mkF m 0 #[.val (.int p1), .val (.int p2)] [] := by first | (simp [entryFrame, mkF, argsToLocals, Value.category]; done) | rfl
set_option maxRecDepth 65536 in
set_option maxHeartbeats 40000000 in
theorem rm10 (l : Launch) (Z : State) (a0 : Array Value) (hw : ∀ d ∈ tables_1, d.before a0 Z = true) (ws : List Jvm.Cond) (p1 : Int32) (p2 : Int32) (h0 : Heap) (n0 : Nat) :
    Mt l Z mt1 (Jvm.Cond.code mt1 jdk_29_method_69_code 2 (some .int) :: ws) rmR10 #[(.int p1), (.int p2)] h0 (Q10 p1 p2 h0 n0) := by
  refine Mt.of n0 (Jvm.Free.JP.mathPlain rfl (by decide +kernel)) ?_
  intro p e s m below meth c T0 X0 hx hZ hby hml hown hret hlk hnm hs0
  have hown : s.vm.findClass "java/lang/Math" = some m.cls := hown
  rw [ef_10]
  show Rt p e below s rmR10.cells rmR10.slots (Q10 p1 p2 h0 n0) (T0.setTop (mkF m 0 #[.val (.int p1), .val (.int p2)] []))
  refine Rt.iloadN (pc' := 1) X0 hx (hb hby d10_0) rfl rfl ?_
  refine Rt.iloadN (pc' := 2) X0 hx (hb hby d10_1) rfl rfl ?_
  by_cases hc2_1 : p2 < p1
  · refine Rt.icmpY (pc' := 9) X0 hx (hb hby d10_2) (tlt hc2_1).2.2.1 (by decide) (by decide) ?_
    refine Rt.iloadN (pc' := 10) X0 hx (hb hby d10_9) rfl rfl ?_
    exact Rt.retI X0 hx hlk hret (hb hby d10_10) (by decide) (by decide) (fun L N => ⟨congrArg some (congrArg Value.int (by rw [f10, if_pos hc2_1])), N, rfl⟩)
  · refine Rt.icmpN (pc' := 5) X0 hx (hb hby d10_2) (flt hc2_1).2.2.1 rfl ?_
    refine Rt.iloadN (pc' := 6) X0 hx (hb hby d10_5) rfl rfl ?_
    refine Rt.goto (pc' := 10) X0 hx (hb hby d10_6) (by decide) (by decide) ?_
    exact Rt.retI X0 hx hlk hret (hb hby d10_10) (by decide) (by decide) (fun L N => ⟨congrArg some (congrArg Value.int (by rw [f10, if_neg hc2_1])), N, rfl⟩)
theorem d1_0 : decode jdk_29_method_65_code 0 = .ok (.iload_n 0, 1) := by decide +kernel
theorem d1_1 : decode jdk_29_method_65_code 1 = .ok (.iload_n 1, 1) := by decide +kernel
theorem d1_2 : decode jdk_29_method_65_code 2 = .ok (.if_icmp .lt 7, 3) := by decide +kernel
theorem d1_9 : decode jdk_29_method_65_code 9 = .ok (.iload_n 1, 1) := by decide +kernel
theorem d1_10 : decode jdk_29_method_65_code 10 = .ok (.ireturn, 1) := by decide +kernel
theorem d1_5 : decode jdk_29_method_65_code 5 = .ok (.iload_n 0, 1) := by decide +kernel
theorem d1_6 : decode jdk_29_method_65_code 6 = .ok (.goto 4, 3) := by decide +kernel
def f1 (p1 : Int32) (p2 : Int32) : Int32 := (if p1 < p2 then p2 else p1)
def Q1 (p1 : Int32) (p2 : Int32) (h0 : Heap) (n0 : Nat) (v : Option Value) (h : Heap) (L : List Loc) : Prop := v = some (.int (f1 p1 p2)) ∧ Fr n0 L ∧ h = h0
def rmR1 : Room := { frames := 0, cells := 0, slots := 0, locals := 0 }
theorem ef_1 (m : MethodId) (p1 : Int32) (p2 : Int32) : entryFrame m #[(.int p1), (.int p2)] 2 = mkF m 0 #[.val (.int p1), .val (.int p2)] [] := by first | (simp [entryFrame, mkF, argsToLocals, Value.category]; done) | rfl
set_option maxRecDepth 65536 in
set_option maxHeartbeats 40000000 in
theorem rm1 (l : Launch) (Z : State) (a0 : Array Value) (hw : ∀ d ∈ tables_1, d.before a0 Z = true) (ws : List Jvm.Cond) (p1 : Int32) (p2 : Int32) (h0 : Heap) (n0 : Nat) :
    Mt l Z mt2 (Jvm.Cond.code mt2 jdk_29_method_65_code 2 (some .int) :: ws) rmR1 #[(.int p1), (.int p2)] h0 (Q1 p1 p2 h0 n0) := by
  refine Mt.of n0 (Jvm.Free.JP.mathPlain rfl (by decide +kernel)) ?_
  intro p e s m below meth c T0 X0 hx hZ hby hml hown hret hlk hnm hs0
  have hown : s.vm.findClass "java/lang/Math" = some m.cls := hown
  rw [ef_1]
  show Rt p e below s rmR1.cells rmR1.slots (Q1 p1 p2 h0 n0) (T0.setTop (mkF m 0 #[.val (.int p1), .val (.int p2)] []))
  refine Rt.iloadN (pc' := 1) X0 hx (hb hby d1_0) rfl rfl ?_
  refine Rt.iloadN (pc' := 2) X0 hx (hb hby d1_1) rfl rfl ?_
  by_cases hc2_1 : p1 < p2
  · refine Rt.icmpY (pc' := 9) X0 hx (hb hby d1_2) (tlt hc2_1).1 (by decide) (by decide) ?_
    refine Rt.iloadN (pc' := 10) X0 hx (hb hby d1_9) rfl rfl ?_
    exact Rt.retI X0 hx hlk hret (hb hby d1_10) (by decide) (by decide) (fun L N => ⟨congrArg some (congrArg Value.int (by rw [f1, if_pos hc2_1])), N, rfl⟩)
  · refine Rt.icmpN (pc' := 5) X0 hx (hb hby d1_2) (flt hc2_1).1 rfl ?_
    refine Rt.iloadN (pc' := 6) X0 hx (hb hby d1_5) rfl rfl ?_
    refine Rt.goto (pc' := 10) X0 hx (hb hby d1_6) (by decide) (by decide) ?_
    exact Rt.retI X0 hx hlk hret (hb hby d1_10) (by decide) (by decide) (fun L N => ⟨congrArg some (congrArg Value.int (by rw [f1, if_neg hc2_1])), N, rfl⟩)
theorem d6_0 : decode prog_5_method_1_code 0 = .ok (.aload_n 0, 1) := by decide +kernel
theorem d6_1 : decode prog_5_method_1_code 1 = .ok (.invokespecial 1, 3) := by decide +kernel
theorem d6_4 : decode prog_5_method_1_code 4 = .ok (.return_, 1) := by decide +kernel
def Q6 (a1 : Addr) (h0 : Heap) (n0 : Nat) (v : Option Value) (h : Heap) (L : List Loc) : Prop := v = none ∧ Fr n0 L ∧ h = h0
def rmR6 : Room := { frames := 1, cells := 0, slots := 0, locals := 12 }
theorem ef_6 (m : MethodId) (a1 : Addr) : entryFrame m #[(.ref a1)] 1 = mkF m 0 #[.val (.ref a1)] [] := by first | (simp [entryFrame, mkF, argsToLocals, Value.category]; done) | rfl
theorem pn_com_example_tightfold_tightfold_FocusFiltering_Run : plainName "com/example/tightfold/tightfold/FocusFiltering$Run" = true := by first | (simp [plainName, overriddenIn]; done) | decide +kernel
set_option maxRecDepth 65536 in
set_option maxHeartbeats 40000000 in
theorem rm6 (l : Launch) (Z : State) (a0 : Array Value) (hw : ∀ d ∈ tables_1, d.before a0 Z = true) (ws : List Jvm.Cond) (a1 : Addr) (h0 : Heap) (n0 : Nat) :
    Mt l Z mt3 (Jvm.Cond.code mt3 prog_5_method_1_code 1 none :: ws) rmR6 #[(.ref a1)] h0 (Q6 a1 h0 n0) := by
  refine Mt.of n0 (plainFor_of_name pn_com_example_tightfold_tightfold_FocusFiltering_Run) ?_
  intro p e s m below meth c T0 X0 hx hZ hby hml hown hret hlk hnm hs0
  have hown : s.vm.findClass "com/example/tightfold/tightfold/FocusFiltering$Run" = some m.cls := hown
  rw [ef_6]
  show Rt p e below s rmR6.cells rmR6.slots (Q6 a1 h0 n0) (T0.setTop (mkF m 0 #[.val (.ref a1)] []))
  refine Rt.aloadN (pc' := 1) X0 hx (hb hby d6_0) rfl rfl rfl ?_
  refine Rt.initO (pc' := 4) X0 hx hZ hown (hw _ (List.mem_of_getElem? (i := 52) rfl)) (hw _ (List.mem_of_getElem? (i := 13) rfl)) (hw _ (List.mem_of_getElem? (i := 14) rfl)) (by rw [hml]; rfl) (hb hby d6_1) (by decide) (W := 0) (Nat.le_of_eq rfl) (by decide) rfl ?_
  intro T1 X1
  exact Rt.retV X1 hx hlk hret (hb hby d6_4) (by decide) (by decide) (fun L N => ⟨rfl, N, rfl⟩)
theorem d7_0 : decode prog_5_method_2_code 0 = .ok (.aload_n 0, 1) := by decide +kernel
theorem d7_1 : decode prog_5_method_2_code 1 = .ok (.iload_n 1, 1) := by decide +kernel
theorem d7_2 : decode prog_5_method_2_code 2 = .ok (.putfield 7, 3) := by decide +kernel
theorem d7_5 : decode prog_5_method_2_code 5 = .ok (.aload_n 0, 1) := by decide +kernel
theorem d7_6 : decode prog_5_method_2_code 6 = .ok (.iconst 0, 1) := by decide +kernel
theorem d7_7 : decode prog_5_method_2_code 7 = .ok (.putfield 13, 3) := by decide +kernel
theorem d7_10 : decode prog_5_method_2_code 10 = .ok (.aload_n 0, 1) := by decide +kernel
theorem d7_11 : decode prog_5_method_2_code 11 = .ok (.iconst 0, 1) := by decide +kernel
theorem d7_12 : decode prog_5_method_2_code 12 = .ok (.putfield 16, 3) := by decide +kernel
theorem d7_15 : decode prog_5_method_2_code 15 = .ok (.return_, 1) := by decide +kernel
def Q7 (Z : State) (a1 : Addr) (p2 : Int32) (x : Int32) (y : Int32) (z : Int32) (h0 : Heap) (n0 : Nat) (v : Option Value) (h : Heap) (L : List Loc) : Prop := v = none ∧ Fr n0 L ∧ Keep h0 h [a1] ∧ Exa Z h a1 nm1 ∧ Fld Z h a1 nm1 "runs" "I" (.int p2) ∧ Fld Z h a1 nm1 "length" "I" (.int (0 : Int32)) ∧ Fld Z h a1 nm1 "lows" "I" (.int (0 : Int32))
def rmR7 : Room := { frames := 0, cells := 0, slots := 0, locals := 0 }
theorem ef_7 (m : MethodId) (a1 : Addr) (p2 : Int32) : entryFrame m #[(.ref a1), (.int p2)] 2 = mkF m 0 #[.val (.ref a1), .val (.int p2)] [] := by first | (simp [entryFrame, mkF, argsToLocals, Value.category]; done) | rfl
set_option maxRecDepth 65536 in
set_option maxHeartbeats 40000000 in
theorem rm7 (l : Launch) (Z : State) (a0 : Array Value) (hw : ∀ d ∈ tables_1, d.before a0 Z = true) (ws : List Jvm.Cond) (a1 : Addr) (p2 : Int32) (x : Int32) (y : Int32) (z : Int32) (h0 : Heap) (n0 : Nat) (Z0 : n0 ≤ h0.size) (F_E_a1 : Exa Z h0 a1 nm1) (F_F_a1_runs : Fld Z h0 a1 nm1 "runs" "I" (.int x)) (F_F_a1_length : Fld Z h0 a1 nm1 "length" "I" (.int y)) (F_F_a1_lows : Fld Z h0 a1 nm1 "lows" "I" (.int z)) (g_a1 : n0 ≤ a1) :
    Mt l Z mt4 (Jvm.Cond.code mt4 prog_5_method_2_code 2 none :: ws) rmR7 #[(.ref a1), (.int p2)] h0 (Q7 Z a1 p2 x y z h0 n0) := by
  refine Mt.of n0 (plainFor_of_name pn_com_example_tightfold_tightfold_FocusFiltering_Run) ?_
  intro p e s m below meth c T0 X0 hx hZ hby hml hown hret hlk hnm hs0
  have hown : s.vm.findClass "com/example/tightfold/tightfold/FocusFiltering$Run" = some m.cls := hown
  rw [ef_7]
  show Rt p e below s rmR7.cells rmR7.slots (Q7 Z a1 p2 x y z h0 n0) (T0.setTop (mkF m 0 #[.val (.ref a1), .val (.int p2)] []))
  refine Rt.aloadN (pc' := 1) X0 hx (hb hby d7_0) rfl rfl rfl ?_
  refine Rt.iloadN (pc' := 2) X0 hx (hb hby d7_1) rfl rfl ?_
  refine Rt.putF (pc' := 5) (v := (.int p2)) X0 hx hZ hown (host := "") (Or.inl (hw _ (List.mem_of_getElem? (i := 72) rfl))) F_F_a1_runs F_E_a1 (Or.inl (hw _ (List.mem_of_getElem? (i := 73) rfl))) (hw _ (List.mem_of_getElem? (i := 47) rfl)) (ty := .int) (by decide) rfl rfl g_a1 (hb hby d7_2) rfl ?_
  intro T1 h1 X1 W1 F1
  have F2 : Exa Z h1 a1 nm1 := F_E_a1.wr W1
  have F3 : Fld Z h1 a1 nm1 "length" "I" (.int y) := F_F_a1_length.other W1 (Or.inr (slot_ne (Or.inl (hw _ (List.mem_of_getElem? (i := 75) rfl))) (Or.inl (hw _ (List.mem_of_getElem? (i := 73) rfl))) (by decide) (t := .int) (t' := .int) (by decide) (by decide)))
  have F4 : Fld Z h1 a1 nm1 "lows" "I" (.int z) := F_F_a1_lows.other W1 (Or.inr (slot_ne (Or.inl (hw _ (List.mem_of_getElem? (i := 77) rfl))) (Or.inl (hw _ (List.mem_of_getElem? (i := 73) rfl))) (by decide) (t := .int) (t' := .int) (by decide) (by decide)))
  have K5 : Keep h0 h1 [a1] := (Keep.refl h0 [a1]).wr W1 (Or.inl (List.mem_of_getElem? (i := 0) rfl))
  have Z6 : n0 ≤ h1.size := Nat.le_trans Z0 (Keep.of_wr W1).1
  refine Rt.aloadN (pc' := 6) X1 hx (hb hby d7_5) rfl rfl rfl ?_
  refine Rt.iconst (pc' := 7) (v := (0 : Int32)) X1 hx (hb hby d7_6) rfl rfl ?_
  refine Rt.putF (pc' := 10) (v := (.int (0 : Int32))) X1 hx hZ hown (host := "") (Or.inl (hw _ (List.mem_of_getElem? (i := 74) rfl))) F3 F2 (Or.inl (hw _ (List.mem_of_getElem? (i := 75) rfl))) (hw _ (List.mem_of_getElem? (i := 47) rfl)) (ty := .int) (by decide) rfl rfl g_a1 (hb hby d7_7) rfl ?_
  intro T7 h7 X7 W7 F7
  have F8 : Exa Z h7 a1 nm1 := F2.wr W7
  have F9 : Fld Z h7 a1 nm1 "runs" "I" (.int p2) := F1.other W7 (Or.inr (slot_ne (Or.inl (hw _ (List.mem_of_getElem? (i := 73) rfl))) (Or.inl (hw _ (List.mem_of_getElem? (i := 75) rfl))) (by decide) (t := .int) (t' := .int) (by decide) (by decide)))
  have F10 : Fld Z h7 a1 nm1 "lows" "I" (.int z) := F4.other W7 (Or.inr (slot_ne (Or.inl (hw _ (List.mem_of_getElem? (i := 77) rfl))) (Or.inl (hw _ (List.mem_of_getElem? (i := 75) rfl))) (by decide) (t := .int) (t' := .int) (by decide) (by decide)))
  have K11 : Keep h0 h7 [a1] := K5.wr W7 (Or.inl (List.mem_of_getElem? (i := 0) rfl))
  have Z12 : n0 ≤ h7.size := Nat.le_trans Z6 (Keep.of_wr W7).1
  refine Rt.aloadN (pc' := 11) X7 hx (hb hby d7_10) rfl rfl rfl ?_
  refine Rt.iconst (pc' := 12) (v := (0 : Int32)) X7 hx (hb hby d7_11) rfl rfl ?_
  refine Rt.putF (pc' := 15) (v := (.int (0 : Int32))) X7 hx hZ hown (host := "") (Or.inl (hw _ (List.mem_of_getElem? (i := 76) rfl))) F10 F8 (Or.inl (hw _ (List.mem_of_getElem? (i := 77) rfl))) (hw _ (List.mem_of_getElem? (i := 47) rfl)) (ty := .int) (by decide) rfl rfl g_a1 (hb hby d7_12) rfl ?_
  intro T13 h13 X13 W13 F13
  have F14 : Exa Z h13 a1 nm1 := F8.wr W13
  have F15 : Fld Z h13 a1 nm1 "runs" "I" (.int p2) := F9.other W13 (Or.inr (slot_ne (Or.inl (hw _ (List.mem_of_getElem? (i := 73) rfl))) (Or.inl (hw _ (List.mem_of_getElem? (i := 77) rfl))) (by decide) (t := .int) (t' := .int) (by decide) (by decide)))
  have F16 : Fld Z h13 a1 nm1 "length" "I" (.int (0 : Int32)) := F7.other W13 (Or.inr (slot_ne (Or.inl (hw _ (List.mem_of_getElem? (i := 75) rfl))) (Or.inl (hw _ (List.mem_of_getElem? (i := 77) rfl))) (by decide) (t := .int) (t' := .int) (by decide) (by decide)))
  have K17 : Keep h0 h13 [a1] := K11.wr W13 (Or.inl (List.mem_of_getElem? (i := 0) rfl))
  have Z18 : n0 ≤ h13.size := Nat.le_trans Z12 (Keep.of_wr W13).1
  exact Rt.retV X13 hx hlk hret (hb hby d7_15) (by decide) (by decide) (fun L N => ⟨rfl, N, K17, F14, F15, F16, F13⟩)
theorem d15_0 : decode prog_5_method_3_code 0 = .ok (.iload_n 1, 1) := by decide +kernel
theorem d15_1 : decode prog_5_method_3_code 1 = .ok (.aload_n 0, 1) := by decide +kernel
theorem d15_2 : decode prog_5_method_3_code 2 = .ok (.getfield 7, 3) := by decide +kernel
theorem d15_67 : decode prog_5_method_3_code 67 = .ok (.iload 4, 2) := by decide +kernel
theorem d15_69 : decode prog_5_method_3_code 69 = .ok (.ifCond .eq 18, 3) := by decide +kernel
theorem d15_87 : decode prog_5_method_3_code 87 = .ok (.return_, 1) := by decide +kernel
theorem d15_72 : decode prog_5_method_3_code 72 = .ok (.aload_n 0, 1) := by decide +kernel
theorem d15_73 : decode prog_5_method_3_code 73 = .ok (.iload_n 1, 1) := by decide +kernel
theorem d15_74 : decode prog_5_method_3_code 74 = .ok (.putfield 7, 3) := by decide +kernel
theorem d15_77 : decode prog_5_method_3_code 77 = .ok (.aload_n 0, 1) := by decide +kernel
theorem d15_78 : decode prog_5_method_3_code 78 = .ok (.iload_n 2, 1) := by decide +kernel
theorem d15_79 : decode prog_5_method_3_code 79 = .ok (.putfield 13, 3) := by decide +kernel
theorem d15_82 : decode prog_5_method_3_code 82 = .ok (.aload_n 0, 1) := by decide +kernel
theorem d15_83 : decode prog_5_method_3_code 83 = .ok (.iload_n 3, 1) := by decide +kernel
theorem d15_84 : decode prog_5_method_3_code 84 = .ok (.putfield 16, 3) := by decide +kernel
theorem d15_5 : decode prog_5_method_3_code 5 = .ok (.if_icmp .eq 21, 3) := by decide +kernel
theorem d15_26 : decode prog_5_method_3_code 26 = .ok (.iload_n 2, 1) := by decide +kernel
theorem d15_27 : decode prog_5_method_3_code 27 = .ok (.aload_n 0, 1) := by decide +kernel
theorem d15_28 : decode prog_5_method_3_code 28 = .ok (.getfield 13, 3) := by decide +kernel
theorem d15_31 : decode prog_5_method_3_code 31 = .ok (.if_icmp .eq 21, 3) := by decide +kernel
theorem d15_52 : decode prog_5_method_3_code 52 = .ok (.iload_n 3, 1) := by decide +kernel
theorem d15_53 : decode prog_5_method_3_code 53 = .ok (.aload_n 0, 1) := by decide +kernel
theorem d15_54 : decode prog_5_method_3_code 54 = .ok (.getfield 16, 3) := by decide +kernel
theorem d15_65 : decode prog_5_method_3_code 65 = .ok (.istore 4, 2) := by decide +kernel
theorem d15_57 : decode prog_5_method_3_code 57 = .ok (.if_icmp .ge 7, 3) := by decide +kernel
theorem d15_60 : decode prog_5_method_3_code 60 = .ok (.iconst 1, 1) := by decide +kernel
theorem d15_61 : decode prog_5_method_3_code 61 = .ok (.goto 4, 3) := by decide +kernel
theorem d15_64 : decode prog_5_method_3_code 64 = .ok (.iconst 0, 1) := by decide +kernel
theorem d15_34 : decode prog_5_method_3_code 34 = .ok (.iload_n 2, 1) := by decide +kernel
theorem d15_35 : decode prog_5_method_3_code 35 = .ok (.aload_n 0, 1) := by decide +kernel
theorem d15_36 : decode prog_5_method_3_code 36 = .ok (.getfield 13, 3) := by decide +kernel
theorem d15_47 : decode prog_5_method_3_code 47 = .ok (.istore 4, 2) := by decide +kernel
theorem d15_49 : decode prog_5_method_3_code 49 = .ok (.goto 18, 3) := by decide +kernel
theorem d15_39 : decode prog_5_method_3_code 39 = .ok (.if_icmp .ge 7, 3) := by decide +kernel
theorem d15_42 : decode prog_5_method_3_code 42 = .ok (.iconst 1, 1) := by decide +kernel
theorem d15_43 : decode prog_5_method_3_code 43 = .ok (.goto 4, 3) := by decide +kernel
theorem d15_46 : decode prog_5_method_3_code 46 = .ok (.iconst 0, 1) := by decide +kernel
theorem d15_8 : decode prog_5_method_3_code 8 = .ok (.iload_n 1, 1) := by decide +kernel
theorem d15_9 : decode prog_5_method_3_code 9 = .ok (.aload_n 0, 1) := by decide +kernel
theorem d15_10 : decode prog_5_method_3_code 10 = .ok (.getfield 7, 3) := by decide +kernel
theorem d15_21 : decode prog_5_method_3_code 21 = .ok (.istore 4, 2) := by decide +kernel
theorem d15_23 : decode prog_5_method_3_code 23 = .ok (.goto 44, 3) := by decide +kernel
theorem d15_13 : decode prog_5_method_3_code 13 = .ok (.if_icmp .ge 7, 3) := by decide +kernel
theorem d15_16 : decode prog_5_method_3_code 16 = .ok (.iconst 1, 1) := by decide +kernel
theorem d15_17 : decode prog_5_method_3_code 17 = .ok (.goto 4, 3) := by decide +kernel
theorem d15_20 : decode prog_5_method_3_code 20 = .ok (.iconst 0, 1) := by decide +kernel
def f15_j65_s0 (p4 : Int32) (z : Int32) : Int32 := (if p4 < z then (1 : Int32) else (0 : Int32))
def f15_j47_s0 (p3 : Int32) (y : Int32) : Int32 := (if p3 < y then (1 : Int32) else (0 : Int32))
def f15_j21_s0 (p2 : Int32) (x : Int32) : Int32 := (if p2 < x then (1 : Int32) else (0 : Int32))
def f15_j67_l4 (p2 : Int32) (p3 : Int32) (p4 : Int32) (x : Int32) (y : Int32) (z : Int32) : Int32 := (if p2 = x then (if p3 = y then (f15_j65_s0 p4 z) else (f15_j47_s0 p3 y)) else (f15_j21_s0 p2 x))
def f15_o_F_a1_runs_0 (p2 : Int32) (p3 : Int32) (p4 : Int32) (x : Int32) (y : Int32) (z : Int32) : Int32 := (if (f15_j67_l4 p2 p3 p4 x y z) = (0 : Int32) then x else p2)
def f15_o_F_a1_length_0 (p2 : Int32) (p3 : Int32) (p4 : Int32) (x : Int32) (y : Int32) (z : Int32) : Int32 := (if (f15_j67_l4 p2 p3 p4 x y z) = (0 : Int32) then y else p3)
def f15_o_F_a1_lows_0 (p2 : Int32) (p3 : Int32) (p4 : Int32) (x : Int32) (y : Int32) (z : Int32) : Int32 := (if (f15_j67_l4 p2 p3 p4 x y z) = (0 : Int32) then z else p4)
def Q15 (Z : State) (a1 : Addr) (p2 : Int32) (p3 : Int32) (p4 : Int32) (x : Int32) (y : Int32) (z : Int32) (h0 : Heap) (n0 : Nat) (v : Option Value) (h : Heap) (L : List Loc) : Prop := v = none ∧ Fr n0 L ∧ Keep h0 h [a1] ∧ Exa Z h a1 nm1 ∧ Fld Z h a1 nm1 "runs" "I" (.int (f15_o_F_a1_runs_0 p2 p3 p4 x y z)) ∧ Fld Z h a1 nm1 "length" "I" (.int (f15_o_F_a1_length_0 p2 p3 p4 x y z)) ∧ Fld Z h a1 nm1 "lows" "I" (.int (f15_o_F_a1_lows_0 p2 p3 p4 x y z))
def rmR15 : Room := { frames := 0, cells := 0, slots := 0, locals := 0 }
theorem ef_15 (m : MethodId) (a1 : Addr) (p2 : Int32) (p3 : Int32) (p4 : Int32) : entryFrame m #[(.ref a1), (.int p2), (.int p3), (.int p4)] 5 = mkF m 0 #[.val (.ref a1), .val (.int p2), .val (.int p3), .val (.int p4), .unset] [] := by first | (simp [entryFrame, mkF, argsToLocals, Value.category]; done) | rfl
set_option maxRecDepth 65536 in
set_option maxHeartbeats 40000000 in
theorem rm15 (l : Launch) (Z : State) (a0 : Array Value) (hw : ∀ d ∈ tables_1, d.before a0 Z = true) (ws : List Jvm.Cond) (a1 : Addr) (p2 : Int32) (p3 : Int32) (p4 : Int32) (x : Int32) (y : Int32) (z : Int32) (h0 : Heap) (n0 : Nat) (Z0 : n0 ≤ h0.size) (F_E_a1 : Exa Z h0 a1 nm1) (F_F_a1_runs : Fld Z h0 a1 nm1 "runs" "I" (.int x)) (F_F_a1_length : Fld Z h0 a1 nm1 "length" "I" (.int y)) (F_F_a1_lows : Fld Z h0 a1 nm1 "lows" "I" (.int z)) (g_a1 : n0 ≤ a1) :
    Mt l Z mt5 (Jvm.Cond.code mt5 prog_5_method_3_code 5 none :: ws) rmR15 #[(.ref a1), (.int p2), (.int p3), (.int p4)] h0 (Q15 Z a1 p2 p3 p4 x y z h0 n0) := by
  refine Mt.of n0 (plainFor_of_name pn_com_example_tightfold_tightfold_FocusFiltering_Run) ?_
  intro p e s m below meth c T0 X0 hx hZ hby hml hown hret hlk hnm hs0
  have hown : s.vm.findClass "com/example/tightfold/tightfold/FocusFiltering$Run" = some m.cls := hown
  rw [ef_15]
  show Rt p e below s rmR15.cells rmR15.slots (Q15 Z a1 p2 p3 p4 x y z h0 n0) (T0.setTop (mkF m 0 #[.val (.ref a1), .val (.int p2), .val (.int p3), .val (.int p4), .unset] []))
  refine Rt.iloadN (pc' := 1) X0 hx (hb hby d15_0) rfl rfl ?_
  refine Rt.aloadN (pc' := 2) X0 hx (hb hby d15_1) rfl rfl rfl ?_
  refine Rt.getF (pc' := 5) (v := (.int x)) X0 hx hZ hown (host := "") (Or.inl (hw _ (List.mem_of_getElem? (i := 72) rfl))) F_F_a1_runs (hb hby d15_2) rfl ?_
  intro T1 X1
  have J5_2 : ∀ T2  , Sd p l e rmR15 s m #[(.ref a1), (.int p2), (.int p3), (.int p4)] below meth c T2 n0 0 0 h0 → Rt p e below s rmR15.cells rmR15.slots (Q15 Z a1 p2 p3 p4 x y z h0 n0) (T2.setTop (mkF m 67 #[.val (.ref a1), .val (.int p2), .val (.int p3), .val (.int p4), .val (.int (f15_j67_l4 p2 p3 p4 x y z))] [])) := by
    intro T2   X2 
    refine Rt.iload (pc' := 69) X2 hx (hb hby d15_67) rfl rfl ?_
    by_cases hc69_3 : (f15_j67_l4 p2 p3 p4 x y z) = (0 : Int32)
    · refine Rt.ifY (pc' := 87) X2 hx (hb hby d15_69) ((if0 _ _).trans (teq hc69_3).1) (by decide) (by decide) ?_
      have F4 : Fld Z h0 a1 nm1 "runs" "I" (.int (f15_o_F_a1_runs_0 p2 p3 p4 x y z)) := by rw [show (f15_o_F_a1_runs_0 p2 p3 p4 x y z) = x from by rw [f15_o_F_a1_runs_0, if_pos hc69_3]]; exact F_F_a1_runs
      have F5 : Fld Z h0 a1 nm1 "length" "I" (.int (f15_o_F_a1_length_0 p2 p3 p4 x y z)) := by rw [show (f15_o_F_a1_length_0 p2 p3 p4 x y z) = y from by rw [f15_o_F_a1_length_0, if_pos hc69_3]]; exact F_F_a1_length
      have F6 : Fld Z h0 a1 nm1 "lows" "I" (.int (f15_o_F_a1_lows_0 p2 p3 p4 x y z)) := by rw [show (f15_o_F_a1_lows_0 p2 p3 p4 x y z) = z from by rw [f15_o_F_a1_lows_0, if_pos hc69_3]]; exact F_F_a1_lows
      exact Rt.retV X2 hx hlk hret (hb hby d15_87) (by decide) (by decide) (fun L N => ⟨rfl, N, (Keep.refl h0 [a1]), F_E_a1, F4, F5, F6⟩)
    · refine Rt.ifN (pc' := 72) X2 hx (hb hby d15_69) ((if0 _ _).trans (feq hc69_3).1) rfl ?_
      refine Rt.aloadN (pc' := 73) X2 hx (hb hby d15_72) rfl rfl rfl ?_
      refine Rt.iloadN (pc' := 74) X2 hx (hb hby d15_73) rfl rfl ?_
      refine Rt.putF (pc' := 77) (v := (.int p2)) X2 hx hZ hown (host := "") (Or.inl (hw _ (List.mem_of_getElem? (i := 72) rfl))) F_F_a1_runs F_E_a1 (Or.inl (hw _ (List.mem_of_getElem? (i := 73) rfl))) (hw _ (List.mem_of_getElem? (i := 47) rfl)) (ty := .int) (by decide) rfl rfl g_a1 (hb hby d15_74) rfl ?_
      intro T7 h7 X7 W7 F7
      have F8 : Exa Z h7 a1 nm1 := F_E_a1.wr W7
      have F9 : Fld Z h7 a1 nm1 "length" "I" (.int y) := F_F_a1_length.other W7 (Or.inr (slot_ne (Or.inl (hw _ (List.mem_of_getElem? (i := 75) rfl))) (Or.inl (hw _ (List.mem_of_getElem? (i := 73) rfl))) (by decide) (t := .int) (t' := .int) (by decide) (by decide)))
      have F10 : Fld Z h7 a1 nm1 "lows" "I" (.int z) := F_F_a1_lows.other W7 (Or.inr (slot_ne (Or.inl (hw _ (List.mem_of_getElem? (i := 77) rfl))) (Or.inl (hw _ (List.mem_of_getElem? (i := 73) rfl))) (by decide) (t := .int) (t' := .int) (by decide) (by decide)))
      have K11 : Keep h0 h7 [a1] := (Keep.refl h0 [a1]).wr W7 (Or.inl (List.mem_of_getElem? (i := 0) rfl))
      have Z12 : n0 ≤ h7.size := Nat.le_trans Z0 (Keep.of_wr W7).1
      refine Rt.aloadN (pc' := 78) X7 hx (hb hby d15_77) rfl rfl rfl ?_
      refine Rt.iloadN (pc' := 79) X7 hx (hb hby d15_78) rfl rfl ?_
      refine Rt.putF (pc' := 82) (v := (.int p3)) X7 hx hZ hown (host := "") (Or.inl (hw _ (List.mem_of_getElem? (i := 74) rfl))) F9 F8 (Or.inl (hw _ (List.mem_of_getElem? (i := 75) rfl))) (hw _ (List.mem_of_getElem? (i := 47) rfl)) (ty := .int) (by decide) rfl rfl g_a1 (hb hby d15_79) rfl ?_
      intro T13 h13 X13 W13 F13
      have F14 : Exa Z h13 a1 nm1 := F8.wr W13
      have F15 : Fld Z h13 a1 nm1 "runs" "I" (.int p2) := F7.other W13 (Or.inr (slot_ne (Or.inl (hw _ (List.mem_of_getElem? (i := 73) rfl))) (Or.inl (hw _ (List.mem_of_getElem? (i := 75) rfl))) (by decide) (t := .int) (t' := .int) (by decide) (by decide)))
      have F16 : Fld Z h13 a1 nm1 "lows" "I" (.int z) := F10.other W13 (Or.inr (slot_ne (Or.inl (hw _ (List.mem_of_getElem? (i := 77) rfl))) (Or.inl (hw _ (List.mem_of_getElem? (i := 75) rfl))) (by decide) (t := .int) (t' := .int) (by decide) (by decide)))
      have K17 : Keep h0 h13 [a1] := K11.wr W13 (Or.inl (List.mem_of_getElem? (i := 0) rfl))
      have Z18 : n0 ≤ h13.size := Nat.le_trans Z12 (Keep.of_wr W13).1
      refine Rt.aloadN (pc' := 83) X13 hx (hb hby d15_82) rfl rfl rfl ?_
      refine Rt.iloadN (pc' := 84) X13 hx (hb hby d15_83) rfl rfl ?_
      refine Rt.putF (pc' := 87) (v := (.int p4)) X13 hx hZ hown (host := "") (Or.inl (hw _ (List.mem_of_getElem? (i := 76) rfl))) F16 F14 (Or.inl (hw _ (List.mem_of_getElem? (i := 77) rfl))) (hw _ (List.mem_of_getElem? (i := 47) rfl)) (ty := .int) (by decide) rfl rfl g_a1 (hb hby d15_84) rfl ?_
      intro T19 h19 X19 W19 F19
      have F20 : Exa Z h19 a1 nm1 := F14.wr W19
      have F21 : Fld Z h19 a1 nm1 "runs" "I" (.int p2) := F15.other W19 (Or.inr (slot_ne (Or.inl (hw _ (List.mem_of_getElem? (i := 73) rfl))) (Or.inl (hw _ (List.mem_of_getElem? (i := 77) rfl))) (by decide) (t := .int) (t' := .int) (by decide) (by decide)))
      have F22 : Fld Z h19 a1 nm1 "length" "I" (.int p3) := F13.other W19 (Or.inr (slot_ne (Or.inl (hw _ (List.mem_of_getElem? (i := 75) rfl))) (Or.inl (hw _ (List.mem_of_getElem? (i := 77) rfl))) (by decide) (t := .int) (t' := .int) (by decide) (by decide)))
      have K23 : Keep h0 h19 [a1] := K17.wr W19 (Or.inl (List.mem_of_getElem? (i := 0) rfl))
      have Z24 : n0 ≤ h19.size := Nat.le_trans Z18 (Keep.of_wr W19).1
      have F25 : Fld Z h19 a1 nm1 "runs" "I" (.int (f15_o_F_a1_runs_0 p2 p3 p4 x y z)) := by rw [show (f15_o_F_a1_runs_0 p2 p3 p4 x y z) = p2 from by rw [f15_o_F_a1_runs_0, if_neg hc69_3]]; exact F21
      have F26 : Fld Z h19 a1 nm1 "length" "I" (.int (f15_o_F_a1_length_0 p2 p3 p4 x y z)) := by rw [show (f15_o_F_a1_length_0 p2 p3 p4 x y z) = p3 from by rw [f15_o_F_a1_length_0, if_neg hc69_3]]; exact F22
      have F27 : Fld Z h19 a1 nm1 "lows" "I" (.int (f15_o_F_a1_lows_0 p2 p3 p4 x y z)) := by rw [show (f15_o_F_a1_lows_0 p2 p3 p4 x y z) = p4 from by rw [f15_o_F_a1_lows_0, if_neg hc69_3]]; exact F19
      exact Rt.retV X19 hx hlk hret (hb hby d15_87) (by decide) (by decide) (fun L N => ⟨rfl, N, K23, F20, F25, F26, F27⟩)
  by_cases hc5_28 : p2 = x
  · refine Rt.icmpY (pc' := 26) X1 hx (hb hby d15_5) (teq hc5_28).1 (by decide) (by decide) ?_
    refine Rt.iloadN (pc' := 27) X1 hx (hb hby d15_26) rfl rfl ?_
    refine Rt.aloadN (pc' := 28) X1 hx (hb hby d15_27) rfl rfl rfl ?_
    refine Rt.getF (pc' := 31) (v := (.int y)) X1 hx hZ hown (host := "") (Or.inl (hw _ (List.mem_of_getElem? (i := 74) rfl))) F_F_a1_length (hb hby d15_28) rfl ?_
    intro T29 X29
    by_cases hc31_30 : p3 = y
    · refine Rt.icmpY (pc' := 52) X29 hx (hb hby d15_31) (teq hc31_30).1 (by decide) (by decide) ?_
      refine Rt.iloadN (pc' := 53) X29 hx (hb hby d15_52) rfl rfl ?_
      refine Rt.aloadN (pc' := 54) X29 hx (hb hby d15_53) rfl rfl rfl ?_
      refine Rt.getF (pc' := 57) (v := (.int z)) X29 hx hZ hown (host := "") (Or.inl (hw _ (List.mem_of_getElem? (i := 76) rfl))) F_F_a1_lows (hb hby d15_54) rfl ?_
      intro T31 X31
      have J57_32 : ∀ T32  , Sd p l e rmR15 s m #[(.ref a1), (.int p2), (.int p3), (.int p4)] below meth c T32 n0 0 0 h0 → Rt p e below s rmR15.cells rmR15.slots (Q15 Z a1 p2 p3 p4 x y z h0 n0) (T32.setTop (mkF m 65 #[.val (.ref a1), .val (.int p2), .val (.int p3), .val (.int p4), .unset] [(.int (f15_j65_s0 p4 z))])) := by
        intro T32   X32 
        refine Rt.istore (pc' := 67) (v := (f15_j65_s0 p4 z)) (l' := #[.val (.ref a1), .val (.int p2), .val (.int p3), .val (.int p4), .val (.int (f15_j65_s0 p4 z))]) X32 hx (hb hby d15_65) rfl rfl ?_
        have q := J5_2 T32   X32
        rw [show (f15_j67_l4 p2 p3 p4 x y z) = (f15_j65_s0 p4 z) from by rw [f15_j67_l4, if_pos hc5_28, if_pos hc31_30]] at q
        exact q
      by_cases hc57_33 : p4 < z
      · refine Rt.icmpN (pc' := 60) X31 hx (hb hby d15_57) (tlt hc57_33).2.1 rfl ?_
        refine Rt.iconst (pc' := 61) (v := (1 : Int32)) X31 hx (hb hby d15_60) rfl rfl ?_
        refine Rt.goto (pc' := 65) X31 hx (hb hby d15_61) (by decide) (by decide) ?_
        have q := J57_32 T31   X31
        rw [show (f15_j65_s0 p4 z) = (1 : Int32) from by rw [f15_j65_s0, if_pos hc57_33]] at q
        exact q
      · refine Rt.icmpY (pc' := 64) X31 hx (hb hby d15_57) (flt hc57_33).2.1 (by decide) (by decide) ?_
        refine Rt.iconst (pc' := 65) (v := (0 : Int32)) X31 hx (hb hby d15_64) rfl rfl ?_
        have q := J57_32 T31   X31
        rw [show (f15_j65_s0 p4 z) = (0 : Int32) from by rw [f15_j65_s0, if_neg hc57_33]] at q
        exact q
    · refine Rt.icmpN (pc' := 34) X29 hx (hb hby d15_31) (feq hc31_30).1 rfl ?_
      refine Rt.iloadN (pc' := 35) X29 hx (hb hby d15_34) rfl rfl ?_
      refine Rt.aloadN (pc' := 36) X29 hx (hb hby d15_35) rfl rfl rfl ?_
      refine Rt.getF (pc' := 39) (v := (.int y)) X29 hx hZ hown (host := "") (Or.inl (hw _ (List.mem_of_getElem? (i := 74) rfl))) F_F_a1_length (hb hby d15_36) rfl ?_
      intro T34 X34
      have J39_35 : ∀ T35  , Sd p l e rmR15 s m #[(.ref a1), (.int p2), (.int p3), (.int p4)] below meth c T35 n0 0 0 h0 → Rt p e below s rmR15.cells rmR15.slots (Q15 Z a1 p2 p3 p4 x y z h0 n0) (T35.setTop (mkF m 47 #[.val (.ref a1), .val (.int p2), .val (.int p3), .val (.int p4), .unset] [(.int (f15_j47_s0 p3 y))])) := by
        intro T35   X35 
        refine Rt.istore (pc' := 49) (v := (f15_j47_s0 p3 y)) (l' := #[.val (.ref a1), .val (.int p2), .val (.int p3), .val (.int p4), .val (.int (f15_j47_s0 p3 y))]) X35 hx (hb hby d15_47) rfl rfl ?_
        refine Rt.goto (pc' := 67) X35 hx (hb hby d15_49) (by decide) (by decide) ?_
        have q := J5_2 T35   X35
        rw [show (f15_j67_l4 p2 p3 p4 x y z) = (f15_j47_s0 p3 y) from by rw [f15_j67_l4, if_pos hc5_28, if_neg hc31_30]] at q
        exact q
      by_cases hc39_36 : p3 < y
      · refine Rt.icmpN (pc' := 42) X34 hx (hb hby d15_39) (tlt hc39_36).2.1 rfl ?_
        refine Rt.iconst (pc' := 43) (v := (1 : Int32)) X34 hx (hb hby d15_42) rfl rfl ?_
        refine Rt.goto (pc' := 47) X34 hx (hb hby d15_43) (by decide) (by decide) ?_
        have q := J39_35 T34   X34
        rw [show (f15_j47_s0 p3 y) = (1 : Int32) from by rw [f15_j47_s0, if_pos hc39_36]] at q
        exact q
      · refine Rt.icmpY (pc' := 46) X34 hx (hb hby d15_39) (flt hc39_36).2.1 (by decide) (by decide) ?_
        refine Rt.iconst (pc' := 47) (v := (0 : Int32)) X34 hx (hb hby d15_46) rfl rfl ?_
        have q := J39_35 T34   X34
        rw [show (f15_j47_s0 p3 y) = (0 : Int32) from by rw [f15_j47_s0, if_neg hc39_36]] at q
        exact q
  · refine Rt.icmpN (pc' := 8) X1 hx (hb hby d15_5) (feq hc5_28).1 rfl ?_
    refine Rt.iloadN (pc' := 9) X1 hx (hb hby d15_8) rfl rfl ?_
    refine Rt.aloadN (pc' := 10) X1 hx (hb hby d15_9) rfl rfl rfl ?_
    refine Rt.getF (pc' := 13) (v := (.int x)) X1 hx hZ hown (host := "") (Or.inl (hw _ (List.mem_of_getElem? (i := 72) rfl))) F_F_a1_runs (hb hby d15_10) rfl ?_
    intro T37 X37
    have J13_38 : ∀ T38  , Sd p l e rmR15 s m #[(.ref a1), (.int p2), (.int p3), (.int p4)] below meth c T38 n0 0 0 h0 → Rt p e below s rmR15.cells rmR15.slots (Q15 Z a1 p2 p3 p4 x y z h0 n0) (T38.setTop (mkF m 21 #[.val (.ref a1), .val (.int p2), .val (.int p3), .val (.int p4), .unset] [(.int (f15_j21_s0 p2 x))])) := by
      intro T38   X38 
      refine Rt.istore (pc' := 23) (v := (f15_j21_s0 p2 x)) (l' := #[.val (.ref a1), .val (.int p2), .val (.int p3), .val (.int p4), .val (.int (f15_j21_s0 p2 x))]) X38 hx (hb hby d15_21) rfl rfl ?_
      refine Rt.goto (pc' := 67) X38 hx (hb hby d15_23) (by decide) (by decide) ?_
      have q := J5_2 T38   X38
      rw [show (f15_j67_l4 p2 p3 p4 x y z) = (f15_j21_s0 p2 x) from by rw [f15_j67_l4, if_neg hc5_28]] at q
      exact q
    by_cases hc13_39 : p2 < x
    · refine Rt.icmpN (pc' := 16) X37 hx (hb hby d15_13) (tlt hc13_39).2.1 rfl ?_
      refine Rt.iconst (pc' := 17) (v := (1 : Int32)) X37 hx (hb hby d15_16) rfl rfl ?_
      refine Rt.goto (pc' := 21) X37 hx (hb hby d15_17) (by decide) (by decide) ?_
      have q := J13_38 T37   X37
      rw [show (f15_j21_s0 p2 x) = (1 : Int32) from by rw [f15_j21_s0, if_pos hc13_39]] at q
      exact q
    · refine Rt.icmpY (pc' := 20) X37 hx (hb hby d15_13) (flt hc13_39).2.1 (by decide) (by decide) ?_
      refine Rt.iconst (pc' := 21) (v := (0 : Int32)) X37 hx (hb hby d15_20) rfl rfl ?_
      have q := J13_38 T37   X37
      rw [show (f15_j21_s0 p2 x) = (0 : Int32) from by rw [f15_j21_s0, if_neg hc13_39]] at q
      exact q
theorem d9_0 : decode prog_4_method_2_code 0 = .ok (.aload_n 0, 1) := by decide +kernel
theorem d9_1 : decode prog_4_method_2_code 1 = .ok (.getfield 32, 3) := by decide +kernel
theorem d9_4 : decode prog_4_method_2_code 4 = .ok (.aload_n 0, 1) := by decide +kernel
theorem d9_5 : decode prog_4_method_2_code 5 = .ok (.getfield 16, 3) := by decide +kernel
theorem d9_8 : decode prog_4_method_2_code 8 = .ok (.getfield 39, 3) := by decide +kernel
theorem pd_0 : parseMethodDescriptor "(II)I" = some ⟨[.int, .int], some .int⟩ := by decide +kernel
theorem d9_11 : decode prog_4_method_2_code 11 = .ok (.invokestatic 42, 3) := by decide +kernel
theorem d9_14 : decode prog_4_method_2_code 14 = .ok (.ireturn, 1) := by decide +kernel
def f9 (lo : Int32) (x2 : Int32) : Int32 := (f10 lo x2)
def Q9 (a1 : Addr) (lo : Int32) (r2 : Addr) (x2 : Int32) (h0 : Heap) (n0 : Nat) (v : Option Value) (h : Heap) (L : List Loc) : Prop := v = some (.int (f9 lo x2)) ∧ Fr n0 L ∧ h = h0
def rmR9 : Room := { frames := 1, cells := 0, slots := 0, locals := 13 }
theorem ef_9 (m : MethodId) (a1 : Addr) : entryFrame m #[(.ref a1)] 1 = mkF m 0 #[.val (.ref a1)] [] := by first | (simp [entryFrame, mkF, argsToLocals, Value.category]; done) | rfl
theorem pn_com_example_tightfold_tightfold_FocusFiltering_PartialCover : plainName "com/example/tightfold/tightfold/FocusFiltering$PartialCover" = true := by first | (simp [plainName, overriddenIn]; done) | decide +kernel
set_option maxRecDepth 65536 in
set_option maxHeartbeats 40000000 in
theorem rm9 (l : Launch) (Z : State) (a0 : Array Value) (hw : ∀ d ∈ tables_1, d.before a0 Z = true) (ws : List Jvm.Cond) (a1 : Addr) (lo : Int32) (r2 : Addr) (x2 : Int32) (h0 : Heap) (n0 : Nat) (F_F_a1_lowOut : Fld Z h0 a1 nm2 "lowOut" "I" (.int lo)) (F_F_a1_high : Fld Z h0 a1 nm2 "high" nm3 (.ref r2)) (F_F_r2_runs : Fld Z h0 r2 nm1 "runs" "I" (.int x2)) :
    Mt l Z mt6 (Jvm.Cond.code mt6 prog_4_method_2_code 1 (some .int) :: ws) rmR9 #[(.ref a1)] h0 (Q9 a1 lo r2 x2 h0 n0) := by
  refine Mt.of n0 (plainFor_of_name pn_com_example_tightfold_tightfold_FocusFiltering_PartialCover) ?_
  intro p e s m below meth c T0 X0 hx hZ hby hml hown hret hlk hnm hs0
  have hown : s.vm.findClass "com/example/tightfold/tightfold/FocusFiltering$PartialCover" = some m.cls := hown
  rw [ef_9]
  show Rt p e below s rmR9.cells rmR9.slots (Q9 a1 lo r2 x2 h0 n0) (T0.setTop (mkF m 0 #[.val (.ref a1)] []))
  refine Rt.aloadN (pc' := 1) X0 hx (hb hby d9_0) rfl rfl rfl ?_
  refine Rt.getF (pc' := 4) (v := (.int lo)) X0 hx hZ hown (host := "") (Or.inl (hw _ (List.mem_of_getElem? (i := 65) rfl))) F_F_a1_lowOut (hb hby d9_1) rfl ?_
  intro T1 X1
  refine Rt.aloadN (pc' := 5) X1 hx (hb hby d9_4) rfl rfl rfl ?_
  refine Rt.getF (pc' := 8) (v := (.ref r2)) X1 hx hZ hown (host := "") (Or.inl (hw _ (List.mem_of_getElem? (i := 55) rfl))) F_F_a1_high (hb hby d9_5) rfl ?_
  intro T2 X2
  refine Rt.getF (pc' := 11) (v := (.int x2)) X2 hx hZ hown (Or.inr (hw _ (List.mem_of_getElem? (i := 88) rfl))) F_F_r2_runs (hb hby d9_8) rfl ?_
  intro T3 X3
  refine Rt.callP (pc' := 14) (r := (.int (f10 lo x2))) X3 hx hZ (y := mt1) hown (hw _ (List.mem_of_getElem? (i := 89) rfl)) (hw _ (List.mem_of_getElem? (i := 90) rfl)) (hw _ (List.mem_of_getElem? (i := 3) rfl)) (hw _ (List.mem_of_getElem? (i := 91) rfl)) (by decide) (rm10 l Z a0 hw [] lo x2 h0 n0) (W := 0) (by decide) (by decide) (by decide) (by decide) rfl rfl (argsL := [(.int lo), (.int x2)]) (rest := []) (by rw [hml]; rfl) (lenOf pd_0 rfl) rfl rfl (Nat.le_of_eq rfl) (hb hby d9_11) rfl ?_
  intro T4 X4
  exact Rt.retI X4 hx hlk hret (hb hby d9_14) (by decide) (by decide) (fun L N => ⟨congrArg some (congrArg Value.int (by rw [f9])), N, rfl⟩)
theorem d11_0 : decode prog_4_method_4_code 0 = .ok (.aload_n 2, 1) := by decide +kernel
theorem d11_1 : decode prog_4_method_4_code 1 = .ok (.getfield 39, 3) := by decide +kernel
theorem d11_4 : decode prog_4_method_4_code 4 = .ok (.aload_n 0, 1) := by decide +kernel
theorem d11_5 : decode prog_4_method_4_code 5 = .ok (.getfield 25, 3) := by decide +kernel
theorem d11_8 : decode prog_4_method_4_code 8 = .ok (.if_icmp .eq 46, 3) := by decide +kernel
theorem d11_54 : decode prog_4_method_4_code 54 = .ok (.return_, 1) := by decide +kernel
theorem d11_11 : decode prog_4_method_4_code 11 = .ok (.aload_n 2, 1) := by decide +kernel
theorem d11_12 : decode prog_4_method_4_code 12 = .ok (.getfield 60, 3) := by decide +kernel
theorem d11_15 : decode prog_4_method_4_code 15 = .ok (.iload_n 3, 1) := by decide +kernel
theorem d11_16 : decode prog_4_method_4_code 16 = .ok (.if_icmp .ge 38, 3) := by decide +kernel
theorem d11_19 : decode prog_4_method_4_code 19 = .ok (.aload_n 2, 1) := by decide +kernel
theorem d11_20 : decode prog_4_method_4_code 20 = .ok (.getfield 63, 3) := by decide +kernel
theorem d11_23 : decode prog_4_method_4_code 23 = .ok (.iload 4, 2) := by decide +kernel
theorem d11_25 : decode prog_4_method_4_code 25 = .ok (.iadd, 1) := by decide +kernel
theorem d11_26 : decode prog_4_method_4_code 26 = .ok (.aload_n 0, 1) := by decide +kernel
theorem d11_27 : decode prog_4_method_4_code 27 = .ok (.getfield 29, 3) := by decide +kernel
theorem d11_30 : decode prog_4_method_4_code 30 = .ok (.if_icmp .gt 24, 3) := by decide +kernel
theorem d11_33 : decode prog_4_method_4_code 33 = .ok (.aload_n 1, 1) := by decide +kernel
theorem d11_34 : decode prog_4_method_4_code 34 = .ok (.aload_n 2, 1) := by decide +kernel
theorem d11_35 : decode prog_4_method_4_code 35 = .ok (.getfield 39, 3) := by decide +kernel
theorem d11_38 : decode prog_4_method_4_code 38 = .ok (.aload_n 2, 1) := by decide +kernel
theorem d11_39 : decode prog_4_method_4_code 39 = .ok (.getfield 60, 3) := by decide +kernel
theorem d11_42 : decode prog_4_method_4_code 42 = .ok (.iconst 1, 1) := by decide +kernel
theorem d11_43 : decode prog_4_method_4_code 43 = .ok (.iadd, 1) := by decide +kernel
theorem d11_44 : decode prog_4_method_4_code 44 = .ok (.aload_n 2, 1) := by decide +kernel
theorem d11_45 : decode prog_4_method_4_code 45 = .ok (.getfield 63, 3) := by decide +kernel
theorem d11_48 : decode prog_4_method_4_code 48 = .ok (.iload 4, 2) := by decide +kernel
theorem d11_50 : decode prog_4_method_4_code 50 = .ok (.iadd, 1) := by decide +kernel
theorem pd_1 : parseMethodDescriptor "(III)V" = some ⟨[.int, .int, .int], none⟩ := by decide +kernel
theorem d11_51 : decode prog_4_method_4_code 51 = .ok (.invokevirtual 56, 3) := by decide +kernel
def f11_a51_1 (y3 : Int32) : Int32 := (y3 + (1 : Int32))
def f11_c51_a2_runs0 (p5 : Int32) (x2 : Int32) (y2 : Int32) (z2 : Int32) (x3 : Int32) (y3 : Int32) (z3 : Int32) : Int32 := (f15_o_F_a1_runs_0 x3 (f11_a51_1 y3) (z3 + p5) x2 y2 z2)
def f11_c51_a2_length0 (p5 : Int32) (x2 : Int32) (y2 : Int32) (z2 : Int32) (x3 : Int32) (y3 : Int32) (z3 : Int32) : Int32 := (f15_o_F_a1_length_0 x3 (f11_a51_1 y3) (z3 + p5) x2 y2 z2)
def f11_c51_a2_lows0 (p5 : Int32) (x2 : Int32) (y2 : Int32) (z2 : Int32) (x3 : Int32) (y3 : Int32) (z3 : Int32) : Int32 := (f15_o_F_a1_lows_0 x3 (f11_a51_1 y3) (z3 + p5) x2 y2 z2)
def f11_o_F_a2_runs_0 (p4 : Int32) (p5 : Int32) (imp : Int32) (hm : Int32) (x2 : Int32) (y2 : Int32) (z2 : Int32) (x3 : Int32) (y3 : Int32) (z3 : Int32) : Int32 := (if x3 = imp then x2 else (if y3 < p4 then (if hm < (z3 + p5) then x2 else (f11_c51_a2_runs0 p5 x2 y2 z2 x3 y3 z3)) else x2))
def f11_o_F_a2_length_0 (p4 : Int32) (p5 : Int32) (imp : Int32) (hm : Int32) (x2 : Int32) (y2 : Int32) (z2 : Int32) (x3 : Int32) (y3 : Int32) (z3 : Int32) : Int32 := (if x3 = imp then y2 else (if y3 < p4 then (if hm < (z3 + p5) then y2 else (f11_c51_a2_length0 p5 x2 y2 z2 x3 y3 z3)) else y2))
def f11_o_F_a2_lows_0 (p4 : Int32) (p5 : Int32) (imp : Int32) (hm : Int32) (x2 : Int32) (y2 : Int32) (z2 : Int32) (x3 : Int32) (y3 : Int32) (z3 : Int32) : Int32 := (if x3 = imp then z2 else (if y3 < p4 then (if hm < (z3 + p5) then z2 else (f11_c51_a2_lows0 p5 x2 y2 z2 x3 y3 z3)) else z2))
def Q11 (Z : State) (a1 : Addr) (a2 : Addr) (a3 : Addr) (p4 : Int32) (p5 : Int32) (imp : Int32) (hm : Int32) (x2 : Int32) (y2 : Int32) (z2 : Int32) (x3 : Int32) (y3 : Int32) (z3 : Int32) (h0 : Heap) (n0 : Nat) (v : Option Value) (h : Heap) (L : List Loc) : Prop := v = none ∧ Fr n0 L ∧ Keep h0 h [a2] ∧ Exa Z h a2 nm1 ∧ Fld Z h a2 nm1 "runs" "I" (.int (f11_o_F_a2_runs_0 p4 p5 imp hm x2 y2 z2 x3 y3 z3)) ∧ Fld Z h a2 nm1 "length" "I" (.int (f11_o_F_a2_length_0 p4 p5 imp hm x2 y2 z2 x3 y3 z3)) ∧ Fld Z h a2 nm1 "lows" "I" (.int (f11_o_F_a2_lows_0 p4 p5 imp hm x2 y2 z2 x3 y3 z3))
def rmR11 : Room := { frames := 1, cells := 0, slots := 0, locals := 16 }
theorem ef_11 (m : MethodId) (a1 : Addr) (a2 : Addr) (a3 : Addr) (p4 : Int32) (p5 : Int32) : entryFrame m #[(.ref a1), (.ref a2), (.ref a3), (.int p4), (.int p5)] 5 = mkF m 0 #[.val (.ref a1), .val (.ref a2), .val (.ref a3), .val (.int p4), .val (.int p5)] [] := by first | (simp [entryFrame, mkF, argsToLocals, Value.category]; done) | rfl
set_option maxRecDepth 65536 in
set_option maxHeartbeats 40000000 in
theorem rm11 (l : Launch) (Z : State) (a0 : Array Value) (hw : ∀ d ∈ tables_1, d.before a0 Z = true) (ws : List Jvm.Cond) (a1 : Addr) (a2 : Addr) (a3 : Addr) (p4 : Int32) (p5 : Int32) (imp : Int32) (hm : Int32) (x2 : Int32) (y2 : Int32) (z2 : Int32) (x3 : Int32) (y3 : Int32) (z3 : Int32) (h0 : Heap) (n0 : Nat) (Z0 : n0 ≤ h0.size) (F_E_a1 : Exa Z h0 a1 nm2) (F_F_a1_impossible : Fld Z h0 a1 nm2 "impossible" "I" (.int imp)) (F_F_a1_h : Fld Z h0 a1 nm2 "h" "I" (.int hm)) (F_E_a2 : Exa Z h0 a2 nm1) (F_F_a2_runs : Fld Z h0 a2 nm1 "runs" "I" (.int x2)) (F_F_a2_length : Fld Z h0 a2 nm1 "length" "I" (.int y2)) (F_F_a2_lows : Fld Z h0 a2 nm1 "lows" "I" (.int z2)) (F_F_a3_runs : Fld Z h0 a3 nm1 "runs" "I" (.int x3)) (F_F_a3_length : Fld Z h0 a3 nm1 "length" "I" (.int y3)) (F_F_a3_lows : Fld Z h0 a3 nm1 "lows" "I" (.int z3)) (g_a2 : n0 ≤ a2) (ne_a2_a3 : a2 ≠ a3) (ne_a1_a2 : a1 ≠ a2) :
    Mt l Z mt7 (Jvm.Cond.code mt7 prog_4_method_4_code 5 none :: ws) rmR11 #[(.ref a1), (.ref a2), (.ref a3), (.int p4), (.int p5)] h0 (Q11 Z a1 a2 a3 p4 p5 imp hm x2 y2 z2 x3 y3 z3 h0 n0) := by
  refine Mt.of n0 (plainFor_of_name pn_com_example_tightfold_tightfold_FocusFiltering_PartialCover) ?_
  intro p e s m below meth c T0 X0 hx hZ hby hml hown hret hlk hnm hs0
  have hown : s.vm.findClass "com/example/tightfold/tightfold/FocusFiltering$PartialCover" = some m.cls := hown
  rw [ef_11]
  show Rt p e below s rmR11.cells rmR11.slots (Q11 Z a1 a2 a3 p4 p5 imp hm x2 y2 z2 x3 y3 z3 h0 n0) (T0.setTop (mkF m 0 #[.val (.ref a1), .val (.ref a2), .val (.ref a3), .val (.int p4), .val (.int p5)] []))
  refine Rt.aloadN (pc' := 1) X0 hx (hb hby d11_0) rfl rfl rfl ?_
  refine Rt.getF (pc' := 4) (v := (.int x3)) X0 hx hZ hown (Or.inr (hw _ (List.mem_of_getElem? (i := 88) rfl))) F_F_a3_runs (hb hby d11_1) rfl ?_
  intro T1 X1
  refine Rt.aloadN (pc' := 5) X1 hx (hb hby d11_4) rfl rfl rfl ?_
  refine Rt.getF (pc' := 8) (v := (.int imp)) X1 hx hZ hown (host := "") (Or.inl (hw _ (List.mem_of_getElem? (i := 61) rfl))) F_F_a1_impossible (hb hby d11_5) rfl ?_
  intro T2 X2
  by_cases hc8_3 : x3 = imp
  · refine Rt.icmpY (pc' := 54) X2 hx (hb hby d11_8) (teq hc8_3).1 (by decide) (by decide) ?_
    have F4 : Fld Z h0 a2 nm1 "runs" "I" (.int (f11_o_F_a2_runs_0 p4 p5 imp hm x2 y2 z2 x3 y3 z3)) := by rw [show (f11_o_F_a2_runs_0 p4 p5 imp hm x2 y2 z2 x3 y3 z3) = x2 from by rw [f11_o_F_a2_runs_0, if_pos hc8_3]]; exact F_F_a2_runs
    have F5 : Fld Z h0 a2 nm1 "length" "I" (.int (f11_o_F_a2_length_0 p4 p5 imp hm x2 y2 z2 x3 y3 z3)) := by rw [show (f11_o_F_a2_length_0 p4 p5 imp hm x2 y2 z2 x3 y3 z3) = y2 from by rw [f11_o_F_a2_length_0, if_pos hc8_3]]; exact F_F_a2_length
    have F6 : Fld Z h0 a2 nm1 "lows" "I" (.int (f11_o_F_a2_lows_0 p4 p5 imp hm x2 y2 z2 x3 y3 z3)) := by rw [show (f11_o_F_a2_lows_0 p4 p5 imp hm x2 y2 z2 x3 y3 z3) = z2 from by rw [f11_o_F_a2_lows_0, if_pos hc8_3]]; exact F_F_a2_lows
    exact Rt.retV X2 hx hlk hret (hb hby d11_54) (by decide) (by decide) (fun L N => ⟨rfl, N, (Keep.refl h0 [a2]), F_E_a2, F4, F5, F6⟩)
  · refine Rt.icmpN (pc' := 11) X2 hx (hb hby d11_8) (feq hc8_3).1 rfl ?_
    refine Rt.aloadN (pc' := 12) X2 hx (hb hby d11_11) rfl rfl rfl ?_
    refine Rt.getF (pc' := 15) (v := (.int y3)) X2 hx hZ hown (Or.inr (hw _ (List.mem_of_getElem? (i := 119) rfl))) F_F_a3_length (hb hby d11_12) rfl ?_
    intro T7 X7
    refine Rt.iloadN (pc' := 16) X7 hx (hb hby d11_15) rfl rfl ?_
    by_cases hc16_8 : y3 < p4
    · refine Rt.icmpN (pc' := 19) X7 hx (hb hby d11_16) (tlt hc16_8).2.1 rfl ?_
      refine Rt.aloadN (pc' := 20) X7 hx (hb hby d11_19) rfl rfl rfl ?_
      refine Rt.getF (pc' := 23) (v := (.int z3)) X7 hx hZ hown (Or.inr (hw _ (List.mem_of_getElem? (i := 120) rfl))) F_F_a3_lows (hb hby d11_20) rfl ?_
      intro T9 X9
      refine Rt.iload (pc' := 25) X9 hx (hb hby d11_23) rfl rfl ?_
      refine Rt.iadd (pc' := 26) (r := (z3 + p5)) X9 hx (hb hby d11_25) rfl rfl ?_
      refine Rt.aloadN (pc' := 27) X9 hx (hb hby d11_26) rfl rfl rfl ?_
      refine Rt.getF (pc' := 30) (v := (.int hm)) X9 hx hZ hown (host := "") (Or.inl (hw _ (List.mem_of_getElem? (i := 63) rfl))) F_F_a1_h (hb hby d11_27) rfl ?_
      intro T10 X10
      by_cases hc30_11 : hm < (z3 + p5)
      · refine Rt.icmpY (pc' := 54) X10 hx (hb hby d11_30) (tlt hc30_11).2.2.1 (by decide) (by decide) ?_
        have F12 : Fld Z h0 a2 nm1 "runs" "I" (.int (f11_o_F_a2_runs_0 p4 p5 imp hm x2 y2 z2 x3 y3 z3)) := by rw [show (f11_o_F_a2_runs_0 p4 p5 imp hm x2 y2 z2 x3 y3 z3) = x2 from by rw [f11_o_F_a2_runs_0, if_neg hc8_3, if_pos hc16_8, if_pos hc30_11]]; exact F_F_a2_runs
        have F13 : Fld Z h0 a2 nm1 "length" "I" (.int (f11_o_F_a2_length_0 p4 p5 imp hm x2 y2 z2 x3 y3 z3)) := by rw [show (f11_o_F_a2_length_0 p4 p5 imp hm x2 y2 z2 x3 y3 z3) = y2 from by rw [f11_o_F_a2_length_0, if_neg hc8_3, if_pos hc16_8, if_pos hc30_11]]; exact F_F_a2_length
        have F14 : Fld Z h0 a2 nm1 "lows" "I" (.int (f11_o_F_a2_lows_0 p4 p5 imp hm x2 y2 z2 x3 y3 z3)) := by rw [show (f11_o_F_a2_lows_0 p4 p5 imp hm x2 y2 z2 x3 y3 z3) = z2 from by rw [f11_o_F_a2_lows_0, if_neg hc8_3, if_pos hc16_8, if_pos hc30_11]]; exact F_F_a2_lows
        exact Rt.retV X10 hx hlk hret (hb hby d11_54) (by decide) (by decide) (fun L N => ⟨rfl, N, (Keep.refl h0 [a2]), F_E_a2, F12, F13, F14⟩)
      · refine Rt.icmpN (pc' := 33) X10 hx (hb hby d11_30) (flt hc30_11).2.2.1 rfl ?_
        refine Rt.aloadN (pc' := 34) X10 hx (hb hby d11_33) rfl rfl rfl ?_
        refine Rt.aloadN (pc' := 35) X10 hx (hb hby d11_34) rfl rfl rfl ?_
        refine Rt.getF (pc' := 38) (v := (.int x3)) X10 hx hZ hown (Or.inr (hw _ (List.mem_of_getElem? (i := 88) rfl))) F_F_a3_runs (hb hby d11_35) rfl ?_
        intro T15 X15
        refine Rt.aloadN (pc' := 39) X15 hx (hb hby d11_38) rfl rfl rfl ?_
        refine Rt.getF (pc' := 42) (v := (.int y3)) X15 hx hZ hown (Or.inr (hw _ (List.mem_of_getElem? (i := 119) rfl))) F_F_a3_length (hb hby d11_39) rfl ?_
        intro T16 X16
        refine Rt.iconst (pc' := 43) (v := (1 : Int32)) X16 hx (hb hby d11_42) rfl rfl ?_
        refine Rt.iadd (pc' := 44) (r := (y3 + (1 : Int32))) X16 hx (hb hby d11_43) rfl rfl ?_
        refine Rt.aloadN (pc' := 45) X16 hx (hb hby d11_44) rfl rfl rfl ?_
        refine Rt.getF (pc' := 48) (v := (.int z3)) X16 hx hZ hown (Or.inr (hw _ (List.mem_of_getElem? (i := 120) rfl))) F_F_a3_lows (hb hby d11_45) rfl ?_
        intro T17 X17
        refine Rt.iload (pc' := 50) X17 hx (hb hby d11_48) rfl rfl ?_
        refine Rt.iadd (pc' := 51) (r := (z3 + p5)) X17 hx (hb hby d11_50) rfl rfl ?_
        refine Rt.callV (pc' := 54) X17 hx hZ (y := mt5) (yz := mt5) hown (hw _ (List.mem_of_getElem? (i := 114) rfl)) (hw _ (List.mem_of_getElem? (i := 115) rfl)) (notFace_of_selects (args := #[]) (mvT hZ (hw _ (List.mem_of_getElem? (i := 117) rfl)))) (hw _ (List.mem_of_getElem? (i := 117) rfl)) (hw _ (List.mem_of_getElem? (i := 116) rfl)) (hw _ (List.mem_of_getElem? (i := 48) rfl)) (hw _ (List.mem_of_getElem? (i := 118) rfl)) (by decide) F_E_a2 (rm15 l Z a0 hw [] a2 x3 (f11_a51_1 y3) (z3 + p5) x2 y2 z2 h0 n0 Z0 F_E_a2 F_F_a2_runs F_F_a2_length F_F_a2_lows g_a2) (fun _ _ _ q => q.2.1) (W := 0) (by decide) (by decide) (by decide) (by decide) (argsL := [(.int x3), (.int (f11_a51_1 y3)), (.int (z3 + p5))]) (rest := []) (by rw [hml]; rfl) (lenOf pd_1 rfl) rfl rfl (Nat.le_of_eq rfl) (hb hby d11_51) rfl ?_
        rintro _ T18 h18 L18 X18 ⟨rfl, N18, K18, F19, F20, F21, F22⟩
        have F23 : Exa Z h18 a1 nm2 := F_E_a1.keep K18
        have F24 : Fld Z h18 a1 nm2 "impossible" "I" (.int imp) := F_F_a1_impossible.keep K18 (ninS ne_a1_a2 nin0)
        have F25 : Fld Z h18 a1 nm2 "h" "I" (.int hm) := F_F_a1_h.keep K18 (ninS ne_a1_a2 nin0)
        have F26 : Exa Z h18 a2 nm1 := F_E_a2.keep K18
        have F27 : Fld Z h18 a3 nm1 "runs" "I" (.int x3) := F_F_a3_runs.keep K18 (ninS (Ne.symm ne_a2_a3) nin0)
        have F28 : Fld Z h18 a3 nm1 "length" "I" (.int y3) := F_F_a3_length.keep K18 (ninS (Ne.symm ne_a2_a3) nin0)
        have F29 : Fld Z h18 a3 nm1 "lows" "I" (.int z3) := F_F_a3_lows.keep K18 (ninS (Ne.symm ne_a2_a3) nin0)
        have K30 : Keep h0 h18 [a2] := (Keep.refl h0 [a2]).trans K18 (allS (Or.inl (List.mem_of_getElem? (i := 0) rfl)) all0)
        have Z31 : n0 ≤ h18.size := Nat.le_trans Z0 K18.1
        have F32 : Fld Z h18 a2 nm1 "runs" "I" (.int (f11_c51_a2_runs0 p5 x2 y2 z2 x3 y3 z3)) := F20
        have F33 : Fld Z h18 a2 nm1 "length" "I" (.int (f11_c51_a2_length0 p5 x2 y2 z2 x3 y3 z3)) := F21
        have F34 : Fld Z h18 a2 nm1 "lows" "I" (.int (f11_c51_a2_lows0 p5 x2 y2 z2 x3 y3 z3)) := F22
        show Rt _ _ _ _ _ _ _ (T18.setTop (mkF m 54 #[.val (.ref a1), .val (.ref a2), .val (.ref a3), .val (.int p4), .val (.int p5)] []))
        have F35 : Fld Z h18 a2 nm1 "runs" "I" (.int (f11_o_F_a2_runs_0 p4 p5 imp hm x2 y2 z2 x3 y3 z3)) := by rw [show (f11_o_F_a2_runs_0 p4 p5 imp hm x2 y2 z2 x3 y3 z3) = (f11_c51_a2_runs0 p5 x2 y2 z2 x3 y3 z3) from by rw [f11_o_F_a2_runs_0, if_neg hc8_3, if_pos hc16_8, if_neg hc30_11]]; exact F32
        have F36 : Fld Z h18 a2 nm1 "length" "I" (.int (f11_o_F_a2_length_0 p4 p5 imp hm x2 y2 z2 x3 y3 z3)) := by rw [show (f11_o_F_a2_length_0 p4 p5 imp hm x2 y2 z2 x3 y3 z3) = (f11_c51_a2_length0 p5 x2 y2 z2 x3 y3 z3) from by rw [f11_o_F_a2_length_0, if_neg hc8_3, if_pos hc16_8, if_neg hc30_11]]; exact F33
        have F37 : Fld Z h18 a2 nm1 "lows" "I" (.int (f11_o_F_a2_lows_0 p4 p5 imp hm x2 y2 z2 x3 y3 z3)) := by rw [show (f11_o_F_a2_lows_0 p4 p5 imp hm x2 y2 z2 x3 y3 z3) = (f11_c51_a2_lows0 p5 x2 y2 z2 x3 y3 z3) from by rw [f11_o_F_a2_lows_0, if_neg hc8_3, if_pos hc16_8, if_neg hc30_11]]; exact F34
        exact Rt.retV X18 hx hlk hret (hb hby d11_54) (by decide) (by decide) (fun L N => ⟨rfl, N, K30, F19, F35, F36, F37⟩)
    · refine Rt.icmpY (pc' := 54) X7 hx (hb hby d11_16) (flt hc16_8).2.1 (by decide) (by decide) ?_
      have F38 : Fld Z h0 a2 nm1 "runs" "I" (.int (f11_o_F_a2_runs_0 p4 p5 imp hm x2 y2 z2 x3 y3 z3)) := by rw [show (f11_o_F_a2_runs_0 p4 p5 imp hm x2 y2 z2 x3 y3 z3) = x2 from by rw [f11_o_F_a2_runs_0, if_neg hc8_3, if_neg hc16_8]]; exact F_F_a2_runs
      have F39 : Fld Z h0 a2 nm1 "length" "I" (.int (f11_o_F_a2_length_0 p4 p5 imp hm x2 y2 z2 x3 y3 z3)) := by rw [show (f11_o_F_a2_length_0 p4 p5 imp hm x2 y2 z2 x3 y3 z3) = y2 from by rw [f11_o_F_a2_length_0, if_neg hc8_3, if_neg hc16_8]]; exact F_F_a2_length
      have F40 : Fld Z h0 a2 nm1 "lows" "I" (.int (f11_o_F_a2_lows_0 p4 p5 imp hm x2 y2 z2 x3 y3 z3)) := by rw [show (f11_o_F_a2_lows_0 p4 p5 imp hm x2 y2 z2 x3 y3 z3) = z2 from by rw [f11_o_F_a2_lows_0, if_neg hc8_3, if_neg hc16_8]]; exact F_F_a2_lows
      exact Rt.retV X7 hx hlk hret (hb hby d11_54) (by decide) (by decide) (fun L N => ⟨rfl, N, (Keep.refl h0 [a2]), F_E_a2, F38, F39, F40⟩)
theorem d8_0 : decode prog_4_method_3_code 0 = .ok (.aload_n 0, 1) := by decide +kernel
theorem pd_2 : parseMethodDescriptor "()I" = some ⟨[], some .int⟩ := by decide +kernel
theorem d8_1 : decode prog_4_method_3_code 1 = .ok (.invokevirtual 48, 3) := by decide +kernel
theorem d8_4 : decode prog_4_method_3_code 4 = .ok (.istore 4, 2) := by decide +kernel
theorem d8_6 : decode prog_4_method_3_code 6 = .ok (.aload_n 0, 1) := by decide +kernel
theorem d8_7 : decode prog_4_method_3_code 7 = .ok (.getfield 19, 3) := by decide +kernel
theorem d8_10 : decode prog_4_method_3_code 10 = .ok (.aload_n 0, 1) := by decide +kernel
theorem d8_11 : decode prog_4_method_3_code 11 = .ok (.getfield 25, 3) := by decide +kernel
theorem pd_3 : parseMethodDescriptor "(I)V" = some ⟨[.int], none⟩ := by decide +kernel
theorem d8_14 : decode prog_4_method_3_code 14 = .ok (.invokevirtual 35, 3) := by decide +kernel
theorem d8_17 : decode prog_4_method_3_code 17 = .ok (.aload_n 0, 1) := by decide +kernel
theorem d8_18 : decode prog_4_method_3_code 18 = .ok (.getfield 22, 3) := by decide +kernel
theorem d8_21 : decode prog_4_method_3_code 21 = .ok (.aload_n 0, 1) := by decide +kernel
theorem d8_22 : decode prog_4_method_3_code 22 = .ok (.getfield 25, 3) := by decide +kernel
theorem d8_25 : decode prog_4_method_3_code 25 = .ok (.invokevirtual 35, 3) := by decide +kernel
theorem d8_28 : decode prog_4_method_3_code 28 = .ok (.iload_n 1, 1) := by decide +kernel
theorem d8_64 : decode prog_4_method_3_code 64 = .ok (.iload_n 2, 1) := by decide +kernel
theorem d8_109 : decode prog_4_method_3_code 109 = .ok (.aload_n 0, 1) := by decide +kernel
theorem d8_110 : decode prog_4_method_3_code 110 = .ok (.iload_n 1, 1) := by decide +kernel
theorem d8_123 : decode prog_4_method_3_code 123 = .ok (.putfield 32, 3) := by decide +kernel
theorem d8_126 : decode prog_4_method_3_code 126 = .ok (.aload_n 0, 1) := by decide +kernel
theorem d8_127 : decode prog_4_method_3_code 127 = .ok (.getfield 10, 3) := by decide +kernel
theorem d8_130 : decode prog_4_method_3_code 130 = .ok (.astore 5, 2) := by decide +kernel
theorem d8_132 : decode prog_4_method_3_code 132 = .ok (.aload_n 0, 1) := by decide +kernel
theorem d8_133 : decode prog_4_method_3_code 133 = .ok (.aload_n 0, 1) := by decide +kernel
theorem d8_134 : decode prog_4_method_3_code 134 = .ok (.getfield 19, 3) := by decide +kernel
theorem d8_137 : decode prog_4_method_3_code 137 = .ok (.putfield 10, 3) := by decide +kernel
theorem d8_140 : decode prog_4_method_3_code 140 = .ok (.aload_n 0, 1) := by decide +kernel
theorem d8_141 : decode prog_4_method_3_code 141 = .ok (.aload 5, 2) := by decide +kernel
theorem d8_143 : decode prog_4_method_3_code 143 = .ok (.putfield 19, 3) := by decide +kernel
theorem d8_146 : decode prog_4_method_3_code 146 = .ok (.aload_n 0, 1) := by decide +kernel
theorem d8_147 : decode prog_4_method_3_code 147 = .ok (.getfield 16, 3) := by decide +kernel
theorem d8_150 : decode prog_4_method_3_code 150 = .ok (.astore 6, 2) := by decide +kernel
theorem d8_152 : decode prog_4_method_3_code 152 = .ok (.aload_n 0, 1) := by decide +kernel
theorem d8_153 : decode prog_4_method_3_code 153 = .ok (.aload_n 0, 1) := by decide +kernel
theorem d8_154 : decode prog_4_method_3_code 154 = .ok (.getfield 22, 3) := by decide +kernel
theorem d8_157 : decode prog_4_method_3_code 157 = .ok (.putfield 16, 3) := by decide +kernel
theorem d8_160 : decode prog_4_method_3_code 160 = .ok (.aload_n 0, 1) := by decide +kernel
theorem d8_161 : decode prog_4_method_3_code 161 = .ok (.aload 6, 2) := by decide +kernel
theorem d8_163 : decode prog_4_method_3_code 163 = .ok (.putfield 22, 3) := by decide +kernel
theorem d8_166 : decode prog_4_method_3_code 166 = .ok (.return_, 1) := by decide +kernel
theorem d8_111 : decode prog_4_method_3_code 111 = .ok (.ifCond .eq 8, 3) := by decide +kernel
theorem d8_119 : decode prog_4_method_3_code 119 = .ok (.aload_n 0, 1) := by decide +kernel
theorem d8_120 : decode prog_4_method_3_code 120 = .ok (.getfield 25, 3) := by decide +kernel
theorem d8_114 : decode prog_4_method_3_code 114 = .ok (.iload 4, 2) := by decide +kernel
theorem d8_116 : decode prog_4_method_3_code 116 = .ok (.goto 7, 3) := by decide +kernel
theorem d8_65 : decode prog_4_method_3_code 65 = .ok (.ifCond .eq 44, 3) := by decide +kernel
theorem d8_68 : decode prog_4_method_3_code 68 = .ok (.aload_n 0, 1) := by decide +kernel
theorem d8_69 : decode prog_4_method_3_code 69 = .ok (.aload_n 0, 1) := by decide +kernel
theorem d8_70 : decode prog_4_method_3_code 70 = .ok (.getfield 22, 3) := by decide +kernel
theorem d8_73 : decode prog_4_method_3_code 73 = .ok (.aload_n 0, 1) := by decide +kernel
theorem d8_74 : decode prog_4_method_3_code 74 = .ok (.getfield 10, 3) := by decide +kernel
theorem d8_77 : decode prog_4_method_3_code 77 = .ok (.iload_n 3, 1) := by decide +kernel
theorem d8_78 : decode prog_4_method_3_code 78 = .ok (.iconst 0, 1) := by decide +kernel
theorem pd_4 : parseMethodDescriptor "(Lcom/example/tightfold/tightfold/FocusFiltering$Run;Lcom/example/tightfold/tightfold/FocusFiltering$Run;II)V" = some ⟨[(.object "com/example/tightfold/tightfold/FocusFiltering$Run"), (.object "com/example/tightfold/tightfold/FocusFiltering$Run"), .int, .int], none⟩ := by decide +kernel
theorem d8_79 : decode prog_4_method_3_code 79 = .ok (.invokevirtual 52, 3) := by decide +kernel
theorem d8_82 : decode prog_4_method_3_code 82 = .ok (.aload_n 0, 1) := by decide +kernel
theorem d8_83 : decode prog_4_method_3_code 83 = .ok (.aload_n 0, 1) := by decide +kernel
theorem d8_84 : decode prog_4_method_3_code 84 = .ok (.getfield 22, 3) := by decide +kernel
theorem d8_87 : decode prog_4_method_3_code 87 = .ok (.aload_n 0, 1) := by decide +kernel
theorem d8_88 : decode prog_4_method_3_code 88 = .ok (.getfield 16, 3) := by decide +kernel
theorem d8_91 : decode prog_4_method_3_code 91 = .ok (.iload_n 3, 1) := by decide +kernel
theorem d8_92 : decode prog_4_method_3_code 92 = .ok (.iconst 0, 1) := by decide +kernel
theorem d8_93 : decode prog_4_method_3_code 93 = .ok (.invokevirtual 52, 3) := by decide +kernel
theorem d8_96 : decode prog_4_method_3_code 96 = .ok (.aload_n 0, 1) := by decide +kernel
theorem d8_97 : decode prog_4_method_3_code 97 = .ok (.getfield 22, 3) := by decide +kernel
theorem d8_100 : decode prog_4_method_3_code 100 = .ok (.iload 4, 2) := by decide +kernel
theorem d8_102 : decode prog_4_method_3_code 102 = .ok (.iconst 1, 1) := by decide +kernel
theorem d8_103 : decode prog_4_method_3_code 103 = .ok (.iadd, 1) := by decide +kernel
theorem d8_104 : decode prog_4_method_3_code 104 = .ok (.iconst 1, 1) := by decide +kernel
theorem d8_105 : decode prog_4_method_3_code 105 = .ok (.iconst 0, 1) := by decide +kernel
theorem d8_106 : decode prog_4_method_3_code 106 = .ok (.invokevirtual 56, 3) := by decide +kernel
theorem d8_29 : decode prog_4_method_3_code 29 = .ok (.ifCond .eq 35, 3) := by decide +kernel
theorem d8_32 : decode prog_4_method_3_code 32 = .ok (.aload_n 0, 1) := by decide +kernel
theorem d8_33 : decode prog_4_method_3_code 33 = .ok (.aload_n 0, 1) := by decide +kernel
theorem d8_34 : decode prog_4_method_3_code 34 = .ok (.getfield 19, 3) := by decide +kernel
theorem d8_37 : decode prog_4_method_3_code 37 = .ok (.aload_n 0, 1) := by decide +kernel
theorem d8_38 : decode prog_4_method_3_code 38 = .ok (.getfield 10, 3) := by decide +kernel
theorem d8_41 : decode prog_4_method_3_code 41 = .ok (.iload_n 3, 1) := by decide +kernel
theorem d8_42 : decode prog_4_method_3_code 42 = .ok (.iconst 1, 1) := by decide +kernel
theorem d8_43 : decode prog_4_method_3_code 43 = .ok (.isub, 1) := by decide +kernel
theorem d8_44 : decode prog_4_method_3_code 44 = .ok (.iconst 1, 1) := by decide +kernel
theorem d8_45 : decode prog_4_method_3_code 45 = .ok (.invokevirtual 52, 3) := by decide +kernel
theorem d8_48 : decode prog_4_method_3_code 48 = .ok (.aload_n 0, 1) := by decide +kernel
theorem d8_49 : decode prog_4_method_3_code 49 = .ok (.aload_n 0, 1) := by decide +kernel
theorem d8_50 : decode prog_4_method_3_code 50 = .ok (.getfield 19, 3) := by decide +kernel
theorem d8_53 : decode prog_4_method_3_code 53 = .ok (.aload_n 0, 1) := by decide +kernel
theorem d8_54 : decode prog_4_method_3_code 54 = .ok (.getfield 16, 3) := by decide +kernel
theorem d8_57 : decode prog_4_method_3_code 57 = .ok (.iload_n 3, 1) := by decide +kernel
theorem d8_58 : decode prog_4_method_3_code 58 = .ok (.iconst 1, 1) := by decide +kernel
theorem d8_59 : decode prog_4_method_3_code 59 = .ok (.isub, 1) := by decide +kernel
theorem d8_60 : decode prog_4_method_3_code 60 = .ok (.iconst 1, 1) := by decide +kernel
theorem d8_61 : decode prog_4_method_3_code 61 = .ok (.invokevirtual 52, 3) := by decide +kernel
def f8_a45_2 (p4 : Int32) : Int32 := (p4 - (1 : Int32))
def f8_c45_r3_runs0 (p4 : Int32) (imp : Int32) (hm : Int32) (x1 : Int32) (y1 : Int32) (z1 : Int32) : Int32 := (f11_o_F_a2_runs_0 (f8_a45_2 p4) (1 : Int32) imp hm imp (0 : Int32) (0 : Int32) x1 y1 z1)
def f8_c45_r3_length0 (p4 : Int32) (imp : Int32) (hm : Int32) (x1 : Int32) (y1 : Int32) (z1 : Int32) : Int32 := (f11_o_F_a2_length_0 (f8_a45_2 p4) (1 : Int32) imp hm imp (0 : Int32) (0 : Int32) x1 y1 z1)
def f8_c45_r3_lows0 (p4 : Int32) (imp : Int32) (hm : Int32) (x1 : Int32) (y1 : Int32) (z1 : Int32) : Int32 := (f11_o_F_a2_lows_0 (f8_a45_2 p4) (1 : Int32) imp hm imp (0 : Int32) (0 : Int32) x1 y1 z1)
def f8_a61_2 (p4 : Int32) : Int32 := (p4 - (1 : Int32))
def f8_c61_r3_runs0 (p4 : Int32) (imp : Int32) (hm : Int32) (x1 : Int32) (y1 : Int32) (z1 : Int32) (x2 : Int32) (y2 : Int32) (z2 : Int32) : Int32 := (f11_o_F_a2_runs_0 (f8_a61_2 p4) (1 : Int32) imp hm (f8_c45_r3_runs0 p4 imp hm x1 y1 z1) (f8_c45_r3_length0 p4 imp hm x1 y1 z1) (f8_c45_r3_lows0 p4 imp hm x1 y1 z1) x2 y2 z2)
def f8_c61_r3_length0 (p4 : Int32) (imp : Int32) (hm : Int32) (x1 : Int32) (y1 : Int32) (z1 : Int32) (x2 : Int32) (y2 : Int32) (z2 : Int32) : Int32 := (f11_o_F_a2_length_0 (f8_a61_2 p4) (1 : Int32) imp hm (f8_c45_r3_runs0 p4 imp hm x1 y1 z1) (f8_c45_r3_length0 p4 imp hm x1 y1 z1) (f8_c45_r3_lows0 p4 imp hm x1 y1 z1) x2 y2 z2)
def f8_c61_r3_lows0 (p4 : Int32) (imp : Int32) (hm : Int32) (x1 : Int32) (y1 : Int32) (z1 : Int32) (x2 : Int32) (y2 : Int32) (z2 : Int32) : Int32 := (f11_o_F_a2_lows_0 (f8_a61_2 p4) (1 : Int32) imp hm (f8_c45_r3_runs0 p4 imp hm x1 y1 z1) (f8_c45_r3_length0 p4 imp hm x1 y1 z1) (f8_c45_r3_lows0 p4 imp hm x1 y1 z1) x2 y2 z2)
def f8_j64_F_r3_runs_0 (p2 : Int32) (p4 : Int32) (imp : Int32) (hm : Int32) (x1 : Int32) (y1 : Int32) (z1 : Int32) (x2 : Int32) (y2 : Int32) (z2 : Int32) : Int32 := (if p2 = (0 : Int32) then imp else (f8_c61_r3_runs0 p4 imp hm x1 y1 z1 x2 y2 z2))
def f8_j64_F_r3_length_0 (p2 : Int32) (p4 : Int32) (imp : Int32) (hm : Int32) (x1 : Int32) (y1 : Int32) (z1 : Int32) (x2 : Int32) (y2 : Int32) (z2 : Int32) : Int32 := (if p2 = (0 : Int32) then (0 : Int32) else (f8_c61_r3_length0 p4 imp hm x1 y1 z1 x2 y2 z2))
def f8_j64_F_r3_lows_0 (p2 : Int32) (p4 : Int32) (imp : Int32) (hm : Int32) (x1 : Int32) (y1 : Int32) (z1 : Int32) (x2 : Int32) (y2 : Int32) (z2 : Int32) : Int32 := (if p2 = (0 : Int32) then (0 : Int32) else (f8_c61_r3_lows0 p4 imp hm x1 y1 z1 x2 y2 z2))
def f8_c79_r4_runs0 (p4 : Int32) (imp : Int32) (hm : Int32) (x1 : Int32) (y1 : Int32) (z1 : Int32) : Int32 := (f11_o_F_a2_runs_0 p4 (0 : Int32) imp hm imp (0 : Int32) (0 : Int32) x1 y1 z1)
def f8_c79_r4_length0 (p4 : Int32) (imp : Int32) (hm : Int32) (x1 : Int32) (y1 : Int32) (z1 : Int32) : Int32 := (f11_o_F_a2_length_0 p4 (0 : Int32) imp hm imp (0 : Int32) (0 : Int32) x1 y1 z1)
def f8_c79_r4_lows0 (p4 : Int32) (imp : Int32) (hm : Int32) (x1 : Int32) (y1 : Int32) (z1 : Int32) : Int32 := (f11_o_F_a2_lows_0 p4 (0 : Int32) imp hm imp (0 : Int32) (0 : Int32) x1 y1 z1)
def f8_c93_r4_runs0 (p4 : Int32) (imp : Int32) (hm : Int32) (x1 : Int32) (y1 : Int32) (z1 : Int32) (x2 : Int32) (y2 : Int32) (z2 : Int32) : Int32 := (f11_o_F_a2_runs_0 p4 (0 : Int32) imp hm (f8_c79_r4_runs0 p4 imp hm x1 y1 z1) (f8_c79_r4_length0 p4 imp hm x1 y1 z1) (f8_c79_r4_lows0 p4 imp hm x1 y1 z1) x2 y2 z2)
def f8_c93_r4_length0 (p4 : Int32) (imp : Int32) (hm : Int32) (x1 : Int32) (y1 : Int32) (z1 : Int32) (x2 : Int32) (y2 : Int32) (z2 : Int32) : Int32 := (f11_o_F_a2_length_0 p4 (0 : Int32) imp hm (f8_c79_r4_runs0 p4 imp hm x1 y1 z1) (f8_c79_r4_length0 p4 imp hm x1 y1 z1) (f8_c79_r4_lows0 p4 imp hm x1 y1 z1) x2 y2 z2)
def f8_c93_r4_lows0 (p4 : Int32) (imp : Int32) (hm : Int32) (x1 : Int32) (y1 : Int32) (z1 : Int32) (x2 : Int32) (y2 : Int32) (z2 : Int32) : Int32 := (f11_o_F_a2_lows_0 p4 (0 : Int32) imp hm (f8_c79_r4_runs0 p4 imp hm x1 y1 z1) (f8_c79_r4_length0 p4 imp hm x1 y1 z1) (f8_c79_r4_lows0 p4 imp hm x1 y1 z1) x2 y2 z2)
def f8_a106_0 (lo : Int32) (x2 : Int32) : Int32 := ((f9 lo x2) + (1 : Int32))
def f8_c106_r4_runs0 (p4 : Int32) (imp : Int32) (hm : Int32) (lo : Int32) (x1 : Int32) (y1 : Int32) (z1 : Int32) (x2 : Int32) (y2 : Int32) (z2 : Int32) : Int32 := (f15_o_F_a1_runs_0 (f8_a106_0 lo x2) (1 : Int32) (0 : Int32) (f8_c93_r4_runs0 p4 imp hm x1 y1 z1 x2 y2 z2) (f8_c93_r4_length0 p4 imp hm x1 y1 z1 x2 y2 z2) (f8_c93_r4_lows0 p4 imp hm x1 y1 z1 x2 y2 z2))
def f8_c106_r4_length0 (p4 : Int32) (imp : Int32) (hm : Int32) (lo : Int32) (x1 : Int32) (y1 : Int32) (z1 : Int32) (x2 : Int32) (y2 : Int32) (z2 : Int32) : Int32 := (f15_o_F_a1_length_0 (f8_a106_0 lo x2) (1 : Int32) (0 : Int32) (f8_c93_r4_runs0 p4 imp hm x1 y1 z1 x2 y2 z2) (f8_c93_r4_length0 p4 imp hm x1 y1 z1 x2 y2 z2) (f8_c93_r4_lows0 p4 imp hm x1 y1 z1 x2 y2 z2))
def f8_c106_r4_lows0 (p4 : Int32) (imp : Int32) (hm : Int32) (lo : Int32) (x1 : Int32) (y1 : Int32) (z1 : Int32) (x2 : Int32) (y2 : Int32) (z2 : Int32) : Int32 := (f15_o_F_a1_lows_0 (f8_a106_0 lo x2) (1 : Int32) (0 : Int32) (f8_c93_r4_runs0 p4 imp hm x1 y1 z1 x2 y2 z2) (f8_c93_r4_length0 p4 imp hm x1 y1 z1 x2 y2 z2) (f8_c93_r4_lows0 p4 imp hm x1 y1 z1 x2 y2 z2))
def f8_j109_F_r4_runs_0 (p3 : Int32) (p4 : Int32) (imp : Int32) (hm : Int32) (lo : Int32) (x1 : Int32) (y1 : Int32) (z1 : Int32) (x2 : Int32) (y2 : Int32) (z2 : Int32) : Int32 := (if p3 = (0 : Int32) then imp else (f8_c106_r4_runs0 p4 imp hm lo x1 y1 z1 x2 y2 z2))
def f8_j109_F_r4_length_0 (p3 : Int32) (p4 : Int32) (imp : Int32) (hm : Int32) (lo : Int32) (x1 : Int32) (y1 : Int32) (z1 : Int32) (x2 : Int32) (y2 : Int32) (z2 : Int32) : Int32 := (if p3 = (0 : Int32) then (0 : Int32) else (f8_c106_r4_length0 p4 imp hm lo x1 y1 z1 x2 y2 z2))
def f8_j109_F_r4_lows_0 (p3 : Int32) (p4 : Int32) (imp : Int32) (hm : Int32) (lo : Int32) (x1 : Int32) (y1 : Int32) (z1 : Int32) (x2 : Int32) (y2 : Int32) (z2 : Int32) : Int32 := (if p3 = (0 : Int32) then (0 : Int32) else (f8_c106_r4_lows0 p4 imp hm lo x1 y1 z1 x2 y2 z2))
def f8_j123_s0 (p2 : Int32) (imp : Int32) (lo : Int32) (x2 : Int32) : Int32 := (if p2 = (0 : Int32) then imp else (f9 lo x2))
def Q8 (Z : State) (a1 : Addr) (p2 : Int32) (p3 : Int32) (p4 : Int32) (imp : Int32) (hm : Int32) (lo : Int32) (r1 : Addr) (r2 : Addr) (r3 : Addr) (r4 : Addr) (x1 : Int32) (y1 : Int32) (z1 : Int32) (x2 : Int32) (y2 : Int32) (z2 : Int32) (x3 : Int32) (y3 : Int32) (z3 : Int32) (x4 : Int32) (y4 : Int32) (z4 : Int32) (h0 : Heap) (n0 : Nat) (v : Option Value) (h : Heap) (L : List Loc) : Prop := v = none ∧ Fr n0 L ∧ Keep h0 h [a1, r3, r4] ∧ Exa Z h a1 nm2 ∧ Fld Z h a1 nm2 "impossible" "I" (.int imp) ∧ Fld Z h a1 nm2 "h" "I" (.int hm) ∧ Fld Z h a1 nm2 "lowOut" "I" (.int (f8_j123_s0 p2 imp lo x2)) ∧ Fld Z h a1 nm2 "lowIn" nm3 (.ref r3) ∧ Fld Z h a1 nm2 "high" nm3 (.ref r4) ∧ Fld Z h a1 nm2 "nextLowIn" nm3 (.ref r1) ∧ Fld Z h a1 nm2 "nextHigh" nm3 (.ref r2) ∧ Exa Z h r3 nm1 ∧ Exa Z h r4 nm1 ∧ Fld Z h r3 nm1 "runs" "I" (.int (f8_j64_F_r3_runs_0 p2 p4 imp hm x1 y1 z1 x2 y2 z2)) ∧ Fld Z h r3 nm1 "length" "I" (.int (f8_j64_F_r3_length_0 p2 p4 imp hm x1 y1 z1 x2 y2 z2)) ∧ Fld Z h r3 nm1 "lows" "I" (.int (f8_j64_F_r3_lows_0 p2 p4 imp hm x1 y1 z1 x2 y2 z2)) ∧ Fld Z h r4 nm1 "runs" "I" (.int (f8_j109_F_r4_runs_0 p3 p4 imp hm lo x1 y1 z1 x2 y2 z2)) ∧ Fld Z h r4 nm1 "length" "I" (.int (f8_j109_F_r4_length_0 p3 p4 imp hm lo x1 y1 z1 x2 y2 z2)) ∧ Fld Z h r4 nm1 "lows" "I" (.int (f8_j109_F_r4_lows_0 p3 p4 imp hm lo x1 y1 z1 x2 y2 z2))
def rmR8 : Room := { frames := 2, cells := 0, slots := 0, locals := 32 }
theorem ef_8 (m : MethodId) (a1 : Addr) (p2 : Int32) (p3 : Int32) (p4 : Int32) : entryFrame m #[(.ref a1), (.int p2), (.int p3), (.int p4)] 7 = mkF m 0 #[.val (.ref a1), .val (.int p2), .val (.int p3), .val (.int p4), .unset, .unset, .unset] [] := by first | (simp [entryFrame, mkF, argsToLocals, Value.category]; done) | rfl
set_option maxRecDepth 65536 in
set_option maxHeartbeats 40000000 in
theorem rm8 (l : Launch) (Z : State) (a0 : Array Value) (hw : ∀ d ∈ tables_1, d.before a0 Z = true) (ws : List Jvm.Cond) (a1 : Addr) (p2 : Int32) (p3 : Int32) (p4 : Int32) (imp : Int32) (hm : Int32) (lo : Int32) (r1 : Addr) (r2 : Addr) (r3 : Addr) (r4 : Addr) (x1 : Int32) (y1 : Int32) (z1 : Int32) (x2 : Int32) (y2 : Int32) (z2 : Int32) (x3 : Int32) (y3 : Int32) (z3 : Int32) (x4 : Int32) (y4 : Int32) (z4 : Int32) (h0 : Heap) (n0 : Nat) (Z0 : n0 ≤ h0.size) (F_E_a1 : Exa Z h0 a1 nm2) (F_F_a1_impossible : Fld Z h0 a1 nm2 "impossible" "I" (.int imp)) (F_F_a1_h : Fld Z h0 a1 nm2 "h" "I" (.int hm)) (F_F_a1_lowOut : Fld Z h0 a1 nm2 "lowOut" "I" (.int lo)) (F_F_a1_lowIn : Fld Z h0 a1 nm2 "lowIn" nm3 (.ref r1)) (F_F_a1_high : Fld Z h0 a1 nm2 "high" nm3 (.ref r2)) (F_F_a1_nextLowIn : Fld Z h0 a1 nm2 "nextLowIn" nm3 (.ref r3)) (F_F_a1_nextHigh : Fld Z h0 a1 nm2 "nextHigh" nm3 (.ref r4)) (F_E_r1 : Exa Z h0 r1 nm1) (F_F_r1_runs : Fld Z h0 r1 nm1 "runs" "I" (.int x1)) (F_F_r1_length : Fld Z h0 r1 nm1 "length" "I" (.int y1)) (F_F_r1_lows : Fld Z h0 r1 nm1 "lows" "I" (.int z1)) (F_E_r2 : Exa Z h0 r2 nm1) (F_F_r2_runs : Fld Z h0 r2 nm1 "runs" "I" (.int x2)) (F_F_r2_length : Fld Z h0 r2 nm1 "length" "I" (.int y2)) (F_F_r2_lows : Fld Z h0 r2 nm1 "lows" "I" (.int z2)) (F_E_r3 : Exa Z h0 r3 nm1) (F_F_r3_runs : Fld Z h0 r3 nm1 "runs" "I" (.int x3)) (F_F_r3_length : Fld Z h0 r3 nm1 "length" "I" (.int y3)) (F_F_r3_lows : Fld Z h0 r3 nm1 "lows" "I" (.int z3)) (F_E_r4 : Exa Z h0 r4 nm1) (F_F_r4_runs : Fld Z h0 r4 nm1 "runs" "I" (.int x4)) (F_F_r4_length : Fld Z h0 r4 nm1 "length" "I" (.int y4)) (F_F_r4_lows : Fld Z h0 r4 nm1 "lows" "I" (.int z4)) (g_a1 : n0 ≤ a1) (g_r3 : n0 ≤ r3) (g_r4 : n0 ≤ r4) (ne_a1_r1 : a1 ≠ r1) (ne_a1_r2 : a1 ≠ r2) (ne_a1_r3 : a1 ≠ r3) (ne_a1_r4 : a1 ≠ r4) (ne_r1_r2 : r1 ≠ r2) (ne_r1_r3 : r1 ≠ r3) (ne_r1_r4 : r1 ≠ r4) (ne_r2_r3 : r2 ≠ r3) (ne_r2_r4 : r2 ≠ r4) (ne_r3_r4 : r3 ≠ r4) :
    Mt l Z mt8 (Jvm.Cond.code mt8 prog_4_method_3_code 7 none :: ws) rmR8 #[(.ref a1), (.int p2), (.int p3), (.int p4)] h0 (Q8 Z a1 p2 p3 p4 imp hm lo r1 r2 r3 r4 x1 y1 z1 x2 y2 z2 x3 y3 z3 x4 y4 z4 h0 n0) := by
  refine Mt.of n0 (plainFor_of_name pn_com_example_tightfold_tightfold_FocusFiltering_PartialCover) ?_
  intro p e s m below meth c T0 X0 hx hZ hby hml hown hret hlk hnm hs0
  have hown : s.vm.findClass "com/example/tightfold/tightfold/FocusFiltering$PartialCover" = some m.cls := hown
  rw [ef_8]
  show Rt p e below s rmR8.cells rmR8.slots (Q8 Z a1 p2 p3 p4 imp hm lo r1 r2 r3 r4 x1 y1 z1 x2 y2 z2 x3 y3 z3 x4 y4 z4 h0 n0) (T0.setTop (mkF m 0 #[.val (.ref a1), .val (.int p2), .val (.int p3), .val (.int p4), .unset, .unset, .unset] []))
  refine Rt.aloadN (pc' := 1) X0 hx (hb hby d8_0) rfl rfl rfl ?_
  refine Rt.callV (pc' := 4) X0 hx hZ (y := mt6) (yz := mt6) hown (hw _ (List.mem_of_getElem? (i := 83) rfl)) (hw _ (List.mem_of_getElem? (i := 84) rfl)) (notFace_of_selects (args := #[]) (mvT hZ (hw _ (List.mem_of_getElem? (i := 86) rfl)))) (hw _ (List.mem_of_getElem? (i := 86) rfl)) (hw _ (List.mem_of_getElem? (i := 85) rfl)) (hw _ (List.mem_of_getElem? (i := 41) rfl)) (hw _ (List.mem_of_getElem? (i := 87) rfl)) (by decide) F_E_a1 (rm9 l Z a0 hw [] a1 lo r2 x2 h0 n0 F_F_a1_lowOut F_F_a1_high F_F_r2_runs) (fun _ _ _ q => q.2.1) (W := 0) (by decide) (by decide) (by decide) (by decide) (argsL := []) (rest := []) (by rw [hml]; rfl) (lenOf pd_2 rfl) rfl rfl (Nat.le_of_eq rfl) (hb hby d8_1) rfl ?_
  rintro _ T1 h1 L1 X1 ⟨rfl, N1, e1⟩
  rw [e1] at X1
  show Rt _ _ _ _ _ _ _ (T1.setTop (mkF m 4 #[.val (.ref a1), .val (.int p2), .val (.int p3), .val (.int p4), .unset, .unset, .unset] [(.int (f9 lo x2))]))
  refine Rt.istore (pc' := 6) (v := (f9 lo x2)) (l' := #[.val (.ref a1), .val (.int p2), .val (.int p3), .val (.int p4), .val (.int (f9 lo x2)), .unset, .unset]) X1 hx (hb hby d8_4) rfl rfl ?_
  refine Rt.aloadN (pc' := 7) X1 hx (hb hby d8_6) rfl rfl rfl ?_
  refine Rt.getF (pc' := 10) (v := (.ref r3)) X1 hx hZ hown (host := "") (Or.inl (hw _ (List.mem_of_getElem? (i := 57) rfl))) F_F_a1_nextLowIn (hb hby d8_7) rfl ?_
  intro T2 X2
  refine Rt.aloadN (pc' := 11) X2 hx (hb hby d8_10) rfl rfl rfl ?_
  refine Rt.getF (pc' := 14) (v := (.int imp)) X2 hx hZ hown (host := "") (Or.inl (hw _ (List.mem_of_getElem? (i := 61) rfl))) F_F_a1_impossible (hb hby d8_11) rfl ?_
  intro T3 X3
  refine Rt.callV (pc' := 17) X3 hx hZ (y := mt4) (yz := mt4) hown (hw _ (List.mem_of_getElem? (i := 67) rfl)) (hw _ (List.mem_of_getElem? (i := 68) rfl)) (notFace_of_selects (args := #[]) (mvT hZ (hw _ (List.mem_of_getElem? (i := 70) rfl)))) (hw _ (List.mem_of_getElem? (i := 70) rfl)) (hw _ (List.mem_of_getElem? (i := 69) rfl)) (hw _ (List.mem_of_getElem? (i := 48) rfl)) (hw _ (List.mem_of_getElem? (i := 71) rfl)) (by decide) F_E_r3 (rm7 l Z a0 hw [] r3 imp x3 y3 z3 h0 n0 Z0 F_E_r3 F_F_r3_runs F_F_r3_length F_F_r3_lows g_r3) (fun _ _ _ q => q.2.1) (W := 0) (by decide) (by decide) (by decide) (by decide) (argsL := [(.int imp)]) (rest := []) (by rw [hml]; rfl) (lenOf pd_3 rfl) rfl rfl (Nat.le_of_eq rfl) (hb hby d8_14) rfl ?_
  rintro _ T4 h4 L4 X4 ⟨rfl, N4, K4, F5, F6, F7, F8⟩
  have F9 : Exa Z h4 a1 nm2 := F_E_a1.keep K4
  have F10 : Fld Z h4 a1 nm2 "impossible" "I" (.int imp) := F_F_a1_impossible.keep K4 (ninS ne_a1_r3 nin0)
  have F11 : Fld Z h4 a1 nm2 "h" "I" (.int hm) := F_F_a1_h.keep K4 (ninS ne_a1_r3 nin0)
  have F12 : Fld Z h4 a1 nm2 "lowOut" "I" (.int lo) := F_F_a1_lowOut.keep K4 (ninS ne_a1_r3 nin0)
  have F13 : Fld Z h4 a1 nm2 "lowIn" nm3 (.ref r1) := F_F_a1_lowIn.keep K4 (ninS ne_a1_r3 nin0)
  have F14 : Fld Z h4 a1 nm2 "high" nm3 (.ref r2) := F_F_a1_high.keep K4 (ninS ne_a1_r3 nin0)
  have F15 : Fld Z h4 a1 nm2 "nextLowIn" nm3 (.ref r3) := F_F_a1_nextLowIn.keep K4 (ninS ne_a1_r3 nin0)
  have F16 : Fld Z h4 a1 nm2 "nextHigh" nm3 (.ref r4) := F_F_a1_nextHigh.keep K4 (ninS ne_a1_r3 nin0)
  have F17 : Exa Z h4 r1 nm1 := F_E_r1.keep K4
  have F18 : Fld Z h4 r1 nm1 "runs" "I" (.int x1) := F_F_r1_runs.keep K4 (ninS ne_r1_r3 nin0)
  have F19 : Fld Z h4 r1 nm1 "length" "I" (.int y1) := F_F_r1_length.keep K4 (ninS ne_r1_r3 nin0)
  have F20 : Fld Z h4 r1 nm1 "lows" "I" (.int z1) := F_F_r1_lows.keep K4 (ninS ne_r1_r3 nin0)
  have F21 : Exa Z h4 r2 nm1 := F_E_r2.keep K4
  have F22 : Fld Z h4 r2 nm1 "runs" "I" (.int x2) := F_F_r2_runs.keep K4 (ninS ne_r2_r3 nin0)
  have F23 : Fld Z h4 r2 nm1 "length" "I" (.int y2) := F_F_r2_length.keep K4 (ninS ne_r2_r3 nin0)
  have F24 : Fld Z h4 r2 nm1 "lows" "I" (.int z2) := F_F_r2_lows.keep K4 (ninS ne_r2_r3 nin0)
  have F25 : Exa Z h4 r3 nm1 := F_E_r3.keep K4
  have F26 : Exa Z h4 r4 nm1 := F_E_r4.keep K4
  have F27 : Fld Z h4 r4 nm1 "runs" "I" (.int x4) := F_F_r4_runs.keep K4 (ninS (Ne.symm ne_r3_r4) nin0)
  have F28 : Fld Z h4 r4 nm1 "length" "I" (.int y4) := F_F_r4_length.keep K4 (ninS (Ne.symm ne_r3_r4) nin0)
  have F29 : Fld Z h4 r4 nm1 "lows" "I" (.int z4) := F_F_r4_lows.keep K4 (ninS (Ne.symm ne_r3_r4) nin0)
  have K30 : Keep h0 h4 [a1, r3, r4] := (Keep.refl h0 [a1, r3, r4]).trans K4 (allS (Or.inl (List.mem_of_getElem? (i := 1) rfl)) all0)
  have Z31 : n0 ≤ h4.size := Nat.le_trans Z0 K4.1
  show Rt _ _ _ _ _ _ _ (T4.setTop (mkF m 17 #[.val (.ref a1), .val (.int p2), .val (.int p3), .val (.int p4), .val (.int (f9 lo x2)), .unset, .unset] []))
  refine Rt.aloadN (pc' := 18) X4 hx (hb hby d8_17) rfl rfl rfl ?_
  refine Rt.getF (pc' := 21) (v := (.ref r4)) X4 hx hZ hown (host := "") (Or.inl (hw _ (List.mem_of_getElem? (i := 59) rfl))) F16 (hb hby d8_18) rfl ?_
  intro T32 X32
  refine Rt.aloadN (pc' := 22) X32 hx (hb hby d8_21) rfl rfl rfl ?_
  refine Rt.getF (pc' := 25) (v := (.int imp)) X32 hx hZ hown (host := "") (Or.inl (hw _ (List.mem_of_getElem? (i := 61) rfl))) F10 (hb hby d8_22) rfl ?_
  intro T33 X33
  refine Rt.callV (pc' := 28) X33 hx hZ (y := mt4) (yz := mt4) hown (hw _ (List.mem_of_getElem? (i := 67) rfl)) (hw _ (List.mem_of_getElem? (i := 68) rfl)) (notFace_of_selects (args := #[]) (mvT hZ (hw _ (List.mem_of_getElem? (i := 70) rfl)))) (hw _ (List.mem_of_getElem? (i := 70) rfl)) (hw _ (List.mem_of_getElem? (i := 69) rfl)) (hw _ (List.mem_of_getElem? (i := 48) rfl)) (hw _ (List.mem_of_getElem? (i := 71) rfl)) (by decide) F26 (rm7 l Z a0 hw [] r4 imp x4 y4 z4 h4 n0 Z31 F26 F27 F28 F29 g_r4) (fun _ _ _ q => q.2.1) (W := 0) (by decide) (by decide) (by decide) (by decide) (argsL := [(.int imp)]) (rest := []) (by rw [hml]; rfl) (lenOf pd_3 rfl) rfl rfl (Nat.le_of_eq rfl) (hb hby d8_25) rfl ?_
  rintro _ T34 h34 L34 X34 ⟨rfl, N34, K34, F35, F36, F37, F38⟩
  have F39 : Exa Z h34 a1 nm2 := F9.keep K34
  have F40 : Fld Z h34 a1 nm2 "impossible" "I" (.int imp) := F10.keep K34 (ninS ne_a1_r4 nin0)
  have F41 : Fld Z h34 a1 nm2 "h" "I" (.int hm) := F11.keep K34 (ninS ne_a1_r4 nin0)
  have F42 : Fld Z h34 a1 nm2 "lowOut" "I" (.int lo) := F12.keep K34 (ninS ne_a1_r4 nin0)
  have F43 : Fld Z h34 a1 nm2 "lowIn" nm3 (.ref r1) := F13.keep K34 (ninS ne_a1_r4 nin0)
  have F44 : Fld Z h34 a1 nm2 "high" nm3 (.ref r2) := F14.keep K34 (ninS ne_a1_r4 nin0)
  have F45 : Fld Z h34 a1 nm2 "nextLowIn" nm3 (.ref r3) := F15.keep K34 (ninS ne_a1_r4 nin0)
  have F46 : Fld Z h34 a1 nm2 "nextHigh" nm3 (.ref r4) := F16.keep K34 (ninS ne_a1_r4 nin0)
  have F47 : Exa Z h34 r1 nm1 := F17.keep K34
  have F48 : Fld Z h34 r1 nm1 "runs" "I" (.int x1) := F18.keep K34 (ninS ne_r1_r4 nin0)
  have F49 : Fld Z h34 r1 nm1 "length" "I" (.int y1) := F19.keep K34 (ninS ne_r1_r4 nin0)
  have F50 : Fld Z h34 r1 nm1 "lows" "I" (.int z1) := F20.keep K34 (ninS ne_r1_r4 nin0)
  have F51 : Exa Z h34 r2 nm1 := F21.keep K34
  have F52 : Fld Z h34 r2 nm1 "runs" "I" (.int x2) := F22.keep K34 (ninS ne_r2_r4 nin0)
  have F53 : Fld Z h34 r2 nm1 "length" "I" (.int y2) := F23.keep K34 (ninS ne_r2_r4 nin0)
  have F54 : Fld Z h34 r2 nm1 "lows" "I" (.int z2) := F24.keep K34 (ninS ne_r2_r4 nin0)
  have F55 : Exa Z h34 r3 nm1 := F5.keep K34
  have F56 : Exa Z h34 r4 nm1 := F26.keep K34
  have F57 : Fld Z h34 r3 nm1 "runs" "I" (.int imp) := F6.keep K34 (ninS ne_r3_r4 nin0)
  have F58 : Fld Z h34 r3 nm1 "length" "I" (.int (0 : Int32)) := F7.keep K34 (ninS ne_r3_r4 nin0)
  have F59 : Fld Z h34 r3 nm1 "lows" "I" (.int (0 : Int32)) := F8.keep K34 (ninS ne_r3_r4 nin0)
  have K60 : Keep h0 h34 [a1, r3, r4] := K30.trans K34 (allS (Or.inl (List.mem_of_getElem? (i := 2) rfl)) all0)
  have Z61 : n0 ≤ h34.size := Nat.le_trans Z31 K34.1
  show Rt _ _ _ _ _ _ _ (T34.setTop (mkF m 28 #[.val (.ref a1), .val (.int p2), .val (.int p3), .val (.int p4), .val (.int (f9 lo x2)), .unset, .unset] []))
  refine Rt.iloadN (pc' := 29) X34 hx (hb hby d8_28) rfl rfl ?_
  have J29_62 : ∀ T62 (h62 : Heap) , Sd p l e rmR8 s m #[(.ref a1), (.int p2), (.int p3), (.int p4)] below meth c T62 n0 0 0 h62 → n0 ≤ h62.size → Keep h0 h62 [a1, r3, r4] → Exa Z h62 a1 nm2 → Fld Z h62 a1 nm2 "impossible" "I" (.int imp) → Fld Z h62 a1 nm2 "h" "I" (.int hm) → Fld Z h62 a1 nm2 "lowOut" "I" (.int lo) → Fld Z h62 a1 nm2 "lowIn" nm3 (.ref r1) → Fld Z h62 a1 nm2 "high" nm3 (.ref r2) → Fld Z h62 a1 nm2 "nextLowIn" nm3 (.ref r3) → Fld Z h62 a1 nm2 "nextHigh" nm3 (.ref r4) → Exa Z h62 r1 nm1 → Fld Z h62 r1 nm1 "runs" "I" (.int x1) → Fld Z h62 r1 nm1 "length" "I" (.int y1) → Fld Z h62 r1 nm1 "lows" "I" (.int z1) → Exa Z h62 r2 nm1 → Fld Z h62 r2 nm1 "runs" "I" (.int x2) → Fld Z h62 r2 nm1 "length" "I" (.int y2) → Fld Z h62 r2 nm1 "lows" "I" (.int z2) → Exa Z h62 r3 nm1 → Exa Z h62 r4 nm1 → Fld Z h62 r3 nm1 "runs" "I" (.int (f8_j64_F_r3_runs_0 p2 p4 imp hm x1 y1 z1 x2 y2 z2)) → Fld Z h62 r3 nm1 "length" "I" (.int (f8_j64_F_r3_length_0 p2 p4 imp hm x1 y1 z1 x2 y2 z2)) → Fld Z h62 r3 nm1 "lows" "I" (.int (f8_j64_F_r3_lows_0 p2 p4 imp hm x1 y1 z1 x2 y2 z2)) → Fld Z h62 r4 nm1 "runs" "I" (.int imp) → Fld Z h62 r4 nm1 "length" "I" (.int (0 : Int32)) → Fld Z h62 r4 nm1 "lows" "I" (.int (0 : Int32)) → Rt p e below s rmR8.cells rmR8.slots (Q8 Z a1 p2 p3 p4 imp hm lo r1 r2 r3 r4 x1 y1 z1 x2 y2 z2 x3 y3 z3 x4 y4 z4 h0 n0) (T62.setTop (mkF m 64 #[.val (.ref a1), .val (.int p2), .val (.int p3), .val (.int p4), .val (.int (f9 lo x2)), .unset, .unset] [])) := by
    intro T62 h62  X62 Z62 K62 F63 F64 F65 F66 F67 F68 F69 F70 F71 F72 F73 F74 F75 F76 F77 F78 F79 F80 F81 F82 F83 F84 F85 F86
    refine Rt.iloadN (pc' := 65) X62 hx (hb hby d8_64) rfl rfl ?_
    have J65_87 : ∀ T87 (h87 : Heap) , Sd p l e rmR8 s m #[(.ref a1), (.int p2), (.int p3), (.int p4)] below meth c T87 n0 0 0 h87 → n0 ≤ h87.size → Keep h0 h87 [a1, r3, r4] → Exa Z h87 a1 nm2 → Fld Z h87 a1 nm2 "impossible" "I" (.int imp) → Fld Z h87 a1 nm2 "h" "I" (.int hm) → Fld Z h87 a1 nm2 "lowOut" "I" (.int lo) → Fld Z h87 a1 nm2 "lowIn" nm3 (.ref r1) → Fld Z h87 a1 nm2 "high" nm3 (.ref r2) → Fld Z h87 a1 nm2 "nextLowIn" nm3 (.ref r3) → Fld Z h87 a1 nm2 "nextHigh" nm3 (.ref r4) → Exa Z h87 r1 nm1 → Fld Z h87 r1 nm1 "runs" "I" (.int x1) → Fld Z h87 r1 nm1 "length" "I" (.int y1) → Fld Z h87 r1 nm1 "lows" "I" (.int z1) → Exa Z h87 r2 nm1 → Fld Z h87 r2 nm1 "runs" "I" (.int x2) → Fld Z h87 r2 nm1 "length" "I" (.int y2) → Fld Z h87 r2 nm1 "lows" "I" (.int z2) → Exa Z h87 r3 nm1 → Exa Z h87 r4 nm1 → Fld Z h87 r3 nm1 "runs" "I" (.int (f8_j64_F_r3_runs_0 p2 p4 imp hm x1 y1 z1 x2 y2 z2)) → Fld Z h87 r3 nm1 "length" "I" (.int (f8_j64_F_r3_length_0 p2 p4 imp hm x1 y1 z1 x2 y2 z2)) → Fld Z h87 r3 nm1 "lows" "I" (.int (f8_j64_F_r3_lows_0 p2 p4 imp hm x1 y1 z1 x2 y2 z2)) → Fld Z h87 r4 nm1 "runs" "I" (.int (f8_j109_F_r4_runs_0 p3 p4 imp hm lo x1 y1 z1 x2 y2 z2)) → Fld Z h87 r4 nm1 "length" "I" (.int (f8_j109_F_r4_length_0 p3 p4 imp hm lo x1 y1 z1 x2 y2 z2)) → Fld Z h87 r4 nm1 "lows" "I" (.int (f8_j109_F_r4_lows_0 p3 p4 imp hm lo x1 y1 z1 x2 y2 z2)) → Rt p e below s rmR8.cells rmR8.slots (Q8 Z a1 p2 p3 p4 imp hm lo r1 r2 r3 r4 x1 y1 z1 x2 y2 z2 x3 y3 z3 x4 y4 z4 h0 n0) (T87.setTop (mkF m 109 #[.val (.ref a1), .val (.int p2), .val (.int p3), .val (.int p4), .val (.int (f9 lo x2)), .unset, .unset] [])) := by
      intro T87 h87  X87 Z87 K87 F88 F89 F90 F91 F92 F93 F94 F95 F96 F97 F98 F99 F100 F101 F102 F103 F104 F105 F106 F107 F108 F109 F110 F111
      refine Rt.aloadN (pc' := 110) X87 hx (hb hby d8_109) rfl rfl rfl ?_
      refine Rt.iloadN (pc' := 111) X87 hx (hb hby d8_110) rfl rfl ?_
      have J111_112 : ∀ T112  , Sd p l e rmR8 s m #[(.ref a1), (.int p2), (.int p3), (.int p4)] below meth c T112 n0 0 0 h87 → Rt p e below s rmR8.cells rmR8.slots (Q8 Z a1 p2 p3 p4 imp hm lo r1 r2 r3 r4 x1 y1 z1 x2 y2 z2 x3 y3 z3 x4 y4 z4 h0 n0) (T112.setTop (mkF m 123 #[.val (.ref a1), .val (.int p2), .val (.int p3), .val (.int p4), .val (.int (f9 lo x2)), .unset, .unset] [(.int (f8_j123_s0 p2 imp lo x2)), (.ref a1)])) := by
        intro T112   X112 
        refine Rt.putF (pc' := 126) (v := (.int (f8_j123_s0 p2 imp lo x2))) X112 hx hZ hown (host := "") (Or.inl (hw _ (List.mem_of_getElem? (i := 65) rfl))) F91 F88 (Or.inl (hw _ (List.mem_of_getElem? (i := 66) rfl))) (hw _ (List.mem_of_getElem? (i := 40) rfl)) (ty := .int) (by decide) rfl rfl g_a1 (hb hby d8_123) rfl ?_
        intro T113 h113 X113 W113 F113
        have F114 : Exa Z h113 a1 nm2 := F88.wr W113
        have F115 : Fld Z h113 a1 nm2 "impossible" "I" (.int imp) := F89.other W113 (Or.inr (slot_ne (Or.inr (hw _ (List.mem_of_getElem? (i := 62) rfl))) (Or.inl (hw _ (List.mem_of_getElem? (i := 66) rfl))) (by decide) (t := .int) (t' := .int) (by decide) (by decide)))
        have F116 : Fld Z h113 a1 nm2 "h" "I" (.int hm) := F90.other W113 (Or.inr (slot_ne (Or.inr (hw _ (List.mem_of_getElem? (i := 64) rfl))) (Or.inl (hw _ (List.mem_of_getElem? (i := 66) rfl))) (by decide) (t := .int) (t' := .int) (by decide) (by decide)))
        have F117 : Fld Z h113 a1 nm2 "lowIn" nm3 (.ref r1) := F92.other W113 (Or.inr (slot_ne (Or.inl (hw _ (List.mem_of_getElem? (i := 54) rfl))) (Or.inl (hw _ (List.mem_of_getElem? (i := 66) rfl))) (by decide) (t := (.object "com/example/tightfold/tightfold/FocusFiltering$Run")) (t' := .int) (by decide) (by decide)))
        have F118 : Fld Z h113 a1 nm2 "high" nm3 (.ref r2) := F93.other W113 (Or.inr (slot_ne (Or.inl (hw _ (List.mem_of_getElem? (i := 56) rfl))) (Or.inl (hw _ (List.mem_of_getElem? (i := 66) rfl))) (by decide) (t := (.object "com/example/tightfold/tightfold/FocusFiltering$Run")) (t' := .int) (by decide) (by decide)))
        have F119 : Fld Z h113 a1 nm2 "nextLowIn" nm3 (.ref r3) := F94.other W113 (Or.inr (slot_ne (Or.inl (hw _ (List.mem_of_getElem? (i := 58) rfl))) (Or.inl (hw _ (List.mem_of_getElem? (i := 66) rfl))) (by decide) (t := (.object "com/example/tightfold/tightfold/FocusFiltering$Run")) (t' := .int) (by decide) (by decide)))
        have F120 : Fld Z h113 a1 nm2 "nextHigh" nm3 (.ref r4) := F95.other W113 (Or.inr (slot_ne (Or.inl (hw _ (List.mem_of_getElem? (i := 60) rfl))) (Or.inl (hw _ (List.mem_of_getElem? (i := 66) rfl))) (by decide) (t := (.object "com/example/tightfold/tightfold/FocusFiltering$Run")) (t' := .int) (by decide) (by decide)))
        have F121 : Exa Z h113 r1 nm1 := F96.wr W113
        have F122 : Fld Z h113 r1 nm1 "runs" "I" (.int x1) := F97.other W113 (Or.inl (Ne.symm ne_a1_r1))
        have F123 : Fld Z h113 r1 nm1 "length" "I" (.int y1) := F98.other W113 (Or.inl (Ne.symm ne_a1_r1))
        have F124 : Fld Z h113 r1 nm1 "lows" "I" (.int z1) := F99.other W113 (Or.inl (Ne.symm ne_a1_r1))
        have F125 : Exa Z h113 r2 nm1 := F100.wr W113
        have F126 : Fld Z h113 r2 nm1 "runs" "I" (.int x2) := F101.other W113 (Or.inl (Ne.symm ne_a1_r2))
        have F127 : Fld Z h113 r2 nm1 "length" "I" (.int y2) := F102.other W113 (Or.inl (Ne.symm ne_a1_r2))
        have F128 : Fld Z h113 r2 nm1 "lows" "I" (.int z2) := F103.other W113 (Or.inl (Ne.symm ne_a1_r2))
        have F129 : Exa Z h113 r3 nm1 := F104.wr W113
        have F130 : Exa Z h113 r4 nm1 := F105.wr W113
        have F131 : Fld Z h113 r3 nm1 "runs" "I" (.int (f8_j64_F_r3_runs_0 p2 p4 imp hm x1 y1 z1 x2 y2 z2)) := F106.other W113 (Or.inl (Ne.symm ne_a1_r3))
        have F132 : Fld Z h113 r3 nm1 "length" "I" (.int (f8_j64_F_r3_length_0 p2 p4 imp hm x1 y1 z1 x2 y2 z2)) := F107.other W113 (Or.inl (Ne.symm ne_a1_r3))
        have F133 : Fld Z h113 r3 nm1 "lows" "I" (.int (f8_j64_F_r3_lows_0 p2 p4 imp hm x1 y1 z1 x2 y2 z2)) := F108.other W113 (Or.inl (Ne.symm ne_a1_r3))
        have F134 : Fld Z h113 r4 nm1 "runs" "I" (.int (f8_j109_F_r4_runs_0 p3 p4 imp hm lo x1 y1 z1 x2 y2 z2)) := F109.other W113 (Or.inl (Ne.symm ne_a1_r4))
        have F135 : Fld Z h113 r4 nm1 "length" "I" (.int (f8_j109_F_r4_length_0 p3 p4 imp hm lo x1 y1 z1 x2 y2 z2)) := F110.other W113 (Or.inl (Ne.symm ne_a1_r4))
        have F136 : Fld Z h113 r4 nm1 "lows" "I" (.int (f8_j109_F_r4_lows_0 p3 p4 imp hm lo x1 y1 z1 x2 y2 z2)) := F111.other W113 (Or.inl (Ne.symm ne_a1_r4))
        have K137 : Keep h0 h113 [a1, r3, r4] := K87.wr W113 (Or.inl (List.mem_of_getElem? (i := 0) rfl))
        have Z138 : n0 ≤ h113.size := Nat.le_trans Z87 (Keep.of_wr W113).1
        refine Rt.aloadN (pc' := 127) X113 hx (hb hby d8_126) rfl rfl rfl ?_
        refine Rt.getF (pc' := 130) (v := (.ref r1)) X113 hx hZ hown (host := "") (Or.inl (hw _ (List.mem_of_getElem? (i := 53) rfl))) F117 (hb hby d8_127) rfl ?_
        intro T139 X139
        refine Rt.astore (pc' := 132) (v := (.ref r1)) (l' := #[.val (.ref a1), .val (.int p2), .val (.int p3), .val (.int p4), .val (.int (f9 lo x2)), .val (.ref r1), .unset]) X139 hx (hb hby d8_130) rfl rfl rfl ?_
        refine Rt.aloadN (pc' := 133) X139 hx (hb hby d8_132) rfl rfl rfl ?_
        refine Rt.aloadN (pc' := 134) X139 hx (hb hby d8_133) rfl rfl rfl ?_
        refine Rt.getF (pc' := 137) (v := (.ref r3)) X139 hx hZ hown (host := "") (Or.inl (hw _ (List.mem_of_getElem? (i := 57) rfl))) F119 (hb hby d8_134) rfl ?_
        intro T140 X140
        refine Rt.putF (pc' := 140) (v := (.ref r3)) X140 hx hZ hown (host := "") (Or.inl (hw _ (List.mem_of_getElem? (i := 53) rfl))) F117 F114 (Or.inl (hw _ (List.mem_of_getElem? (i := 54) rfl))) (hw _ (List.mem_of_getElem? (i := 40) rfl)) (ty := (.object "com/example/tightfold/tightfold/FocusFiltering$Run")) (by decide) rfl rfl g_a1 (hb hby d8_137) rfl ?_
        intro T141 h141 X141 W141 F141
        have F142 : Exa Z h141 a1 nm2 := F114.wr W141
        have F143 : Fld Z h141 a1 nm2 "impossible" "I" (.int imp) := F115.other W141 (Or.inr (slot_ne (Or.inr (hw _ (List.mem_of_getElem? (i := 62) rfl))) (Or.inl (hw _ (List.mem_of_getElem? (i := 54) rfl))) (by decide) (t := .int) (t' := (.object "com/example/tightfold/tightfold/FocusFiltering$Run")) (by decide) (by decide)))
        have F144 : Fld Z h141 a1 nm2 "h" "I" (.int hm) := F116.other W141 (Or.inr (slot_ne (Or.inr (hw _ (List.mem_of_getElem? (i := 64) rfl))) (Or.inl (hw _ (List.mem_of_getElem? (i := 54) rfl))) (by decide) (t := .int) (t' := (.object "com/example/tightfold/tightfold/FocusFiltering$Run")) (by decide) (by decide)))
        have F145 : Fld Z h141 a1 nm2 "lowOut" "I" (.int (f8_j123_s0 p2 imp lo x2)) := F113.other W141 (Or.inr (slot_ne (Or.inl (hw _ (List.mem_of_getElem? (i := 66) rfl))) (Or.inl (hw _ (List.mem_of_getElem? (i := 54) rfl))) (by decide) (t := .int) (t' := (.object "com/example/tightfold/tightfold/FocusFiltering$Run")) (by decide) (by decide)))
        have F146 : Fld Z h141 a1 nm2 "high" nm3 (.ref r2) := F118.other W141 (Or.inr (slot_ne (Or.inl (hw _ (List.mem_of_getElem? (i := 56) rfl))) (Or.inl (hw _ (List.mem_of_getElem? (i := 54) rfl))) (by decide) (t := (.object "com/example/tightfold/tightfold/FocusFiltering$Run")) (t' := (.object "com/example/tightfold/tightfold/FocusFiltering$Run")) (by decide) (by decide)))
        have F147 : Fld Z h141 a1 nm2 "nextLowIn" nm3 (.ref r3) := F119.other W141 (Or.inr (slot_ne (Or.inl (hw _ (List.mem_of_getElem? (i := 58) rfl))) (Or.inl (hw _ (List.mem_of_getElem? (i := 54) rfl))) (by decide) (t := (.object "com/example/tightfold/tightfold/FocusFiltering$Run")) (t' := (.object "com/example/tightfold/tightfold/FocusFiltering$Run")) (by decide) (by decide)))
        have F148 : Fld Z h141 a1 nm2 "nextHigh" nm3 (.ref r4) := F120.other W141 (Or.inr (slot_ne (Or.inl (hw _ (List.mem_of_getElem? (i := 60) rfl))) (Or.inl (hw _ (List.mem_of_getElem? (i := 54) rfl))) (by decide) (t := (.object "com/example/tightfold/tightfold/FocusFiltering$Run")) (t' := (.object "com/example/tightfold/tightfold/FocusFiltering$Run")) (by decide) (by decide)))
        have F149 : Exa Z h141 r1 nm1 := F121.wr W141
        have F150 : Fld Z h141 r1 nm1 "runs" "I" (.int x1) := F122.other W141 (Or.inl (Ne.symm ne_a1_r1))
        have F151 : Fld Z h141 r1 nm1 "length" "I" (.int y1) := F123.other W141 (Or.inl (Ne.symm ne_a1_r1))
        have F152 : Fld Z h141 r1 nm1 "lows" "I" (.int z1) := F124.other W141 (Or.inl (Ne.symm ne_a1_r1))
        have F153 : Exa Z h141 r2 nm1 := F125.wr W141
        have F154 : Fld Z h141 r2 nm1 "runs" "I" (.int x2) := F126.other W141 (Or.inl (Ne.symm ne_a1_r2))
        have F155 : Fld Z h141 r2 nm1 "length" "I" (.int y2) := F127.other W141 (Or.inl (Ne.symm ne_a1_r2))
        have F156 : Fld Z h141 r2 nm1 "lows" "I" (.int z2) := F128.other W141 (Or.inl (Ne.symm ne_a1_r2))
        have F157 : Exa Z h141 r3 nm1 := F129.wr W141
        have F158 : Exa Z h141 r4 nm1 := F130.wr W141
        have F159 : Fld Z h141 r3 nm1 "runs" "I" (.int (f8_j64_F_r3_runs_0 p2 p4 imp hm x1 y1 z1 x2 y2 z2)) := F131.other W141 (Or.inl (Ne.symm ne_a1_r3))
        have F160 : Fld Z h141 r3 nm1 "length" "I" (.int (f8_j64_F_r3_length_0 p2 p4 imp hm x1 y1 z1 x2 y2 z2)) := F132.other W141 (Or.inl (Ne.symm ne_a1_r3))
        have F161 : Fld Z h141 r3 nm1 "lows" "I" (.int (f8_j64_F_r3_lows_0 p2 p4 imp hm x1 y1 z1 x2 y2 z2)) := F133.other W141 (Or.inl (Ne.symm ne_a1_r3))
        have F162 : Fld Z h141 r4 nm1 "runs" "I" (.int (f8_j109_F_r4_runs_0 p3 p4 imp hm lo x1 y1 z1 x2 y2 z2)) := F134.other W141 (Or.inl (Ne.symm ne_a1_r4))
        have F163 : Fld Z h141 r4 nm1 "length" "I" (.int (f8_j109_F_r4_length_0 p3 p4 imp hm lo x1 y1 z1 x2 y2 z2)) := F135.other W141 (Or.inl (Ne.symm ne_a1_r4))
        have F164 : Fld Z h141 r4 nm1 "lows" "I" (.int (f8_j109_F_r4_lows_0 p3 p4 imp hm lo x1 y1 z1 x2 y2 z2)) := F136.other W141 (Or.inl (Ne.symm ne_a1_r4))
        have K165 : Keep h0 h141 [a1, r3, r4] := K137.wr W141 (Or.inl (List.mem_of_getElem? (i := 0) rfl))
        have Z166 : n0 ≤ h141.size := Nat.le_trans Z138 (Keep.of_wr W141).1
        refine Rt.aloadN (pc' := 141) X141 hx (hb hby d8_140) rfl rfl rfl ?_
        refine Rt.aload (pc' := 143) X141 hx (hb hby d8_141) rfl rfl rfl ?_
        refine Rt.putF (pc' := 146) (v := (.ref r1)) X141 hx hZ hown (host := "") (Or.inl (hw _ (List.mem_of_getElem? (i := 57) rfl))) F147 F142 (Or.inl (hw _ (List.mem_of_getElem? (i := 58) rfl))) (hw _ (List.mem_of_getElem? (i := 40) rfl)) (ty := (.object "com/example/tightfold/tightfold/FocusFiltering$Run")) (by decide) rfl rfl g_a1 (hb hby d8_143) rfl ?_
        intro T167 h167 X167 W167 F167
        have F168 : Exa Z h167 a1 nm2 := F142.wr W167
        have F169 : Fld Z h167 a1 nm2 "impossible" "I" (.int imp) := F143.other W167 (Or.inr (slot_ne (Or.inr (hw _ (List.mem_of_getElem? (i := 62) rfl))) (Or.inl (hw _ (List.mem_of_getElem? (i := 58) rfl))) (by decide) (t := .int) (t' := (.object "com/example/tightfold/tightfold/FocusFiltering$Run")) (by decide) (by decide)))
        have F170 : Fld Z h167 a1 nm2 "h" "I" (.int hm) := F144.other W167 (Or.inr (slot_ne (Or.inr (hw _ (List.mem_of_getElem? (i := 64) rfl))) (Or.inl (hw _ (List.mem_of_getElem? (i := 58) rfl))) (by decide) (t := .int) (t' := (.object "com/example/tightfold/tightfold/FocusFiltering$Run")) (by decide) (by decide)))
        have F171 : Fld Z h167 a1 nm2 "lowOut" "I" (.int (f8_j123_s0 p2 imp lo x2)) := F145.other W167 (Or.inr (slot_ne (Or.inl (hw _ (List.mem_of_getElem? (i := 66) rfl))) (Or.inl (hw _ (List.mem_of_getElem? (i := 58) rfl))) (by decide) (t := .int) (t' := (.object "com/example/tightfold/tightfold/FocusFiltering$Run")) (by decide) (by decide)))
        have F172 : Fld Z h167 a1 nm2 "lowIn" nm3 (.ref r3) := F141.other W167 (Or.inr (slot_ne (Or.inl (hw _ (List.mem_of_getElem? (i := 54) rfl))) (Or.inl (hw _ (List.mem_of_getElem? (i := 58) rfl))) (by decide) (t := (.object "com/example/tightfold/tightfold/FocusFiltering$Run")) (t' := (.object "com/example/tightfold/tightfold/FocusFiltering$Run")) (by decide) (by decide)))
        have F173 : Fld Z h167 a1 nm2 "high" nm3 (.ref r2) := F146.other W167 (Or.inr (slot_ne (Or.inl (hw _ (List.mem_of_getElem? (i := 56) rfl))) (Or.inl (hw _ (List.mem_of_getElem? (i := 58) rfl))) (by decide) (t := (.object "com/example/tightfold/tightfold/FocusFiltering$Run")) (t' := (.object "com/example/tightfold/tightfold/FocusFiltering$Run")) (by decide) (by decide)))
        have F174 : Fld Z h167 a1 nm2 "nextHigh" nm3 (.ref r4) := F148.other W167 (Or.inr (slot_ne (Or.inl (hw _ (List.mem_of_getElem? (i := 60) rfl))) (Or.inl (hw _ (List.mem_of_getElem? (i := 58) rfl))) (by decide) (t := (.object "com/example/tightfold/tightfold/FocusFiltering$Run")) (t' := (.object "com/example/tightfold/tightfold/FocusFiltering$Run")) (by decide) (by decide)))
        have F175 : Exa Z h167 r1 nm1 := F149.wr W167
        have F176 : Fld Z h167 r1 nm1 "runs" "I" (.int x1) := F150.other W167 (Or.inl (Ne.symm ne_a1_r1))
        have F177 : Fld Z h167 r1 nm1 "length" "I" (.int y1) := F151.other W167 (Or.inl (Ne.symm ne_a1_r1))
        have F178 : Fld Z h167 r1 nm1 "lows" "I" (.int z1) := F152.other W167 (Or.inl (Ne.symm ne_a1_r1))
        have F179 : Exa Z h167 r2 nm1 := F153.wr W167
        have F180 : Fld Z h167 r2 nm1 "runs" "I" (.int x2) := F154.other W167 (Or.inl (Ne.symm ne_a1_r2))
        have F181 : Fld Z h167 r2 nm1 "length" "I" (.int y2) := F155.other W167 (Or.inl (Ne.symm ne_a1_r2))
        have F182 : Fld Z h167 r2 nm1 "lows" "I" (.int z2) := F156.other W167 (Or.inl (Ne.symm ne_a1_r2))
        have F183 : Exa Z h167 r3 nm1 := F157.wr W167
        have F184 : Exa Z h167 r4 nm1 := F158.wr W167
        have F185 : Fld Z h167 r3 nm1 "runs" "I" (.int (f8_j64_F_r3_runs_0 p2 p4 imp hm x1 y1 z1 x2 y2 z2)) := F159.other W167 (Or.inl (Ne.symm ne_a1_r3))
        have F186 : Fld Z h167 r3 nm1 "length" "I" (.int (f8_j64_F_r3_length_0 p2 p4 imp hm x1 y1 z1 x2 y2 z2)) := F160.other W167 (Or.inl (Ne.symm ne_a1_r3))
        have F187 : Fld Z h167 r3 nm1 "lows" "I" (.int (f8_j64_F_r3_lows_0 p2 p4 imp hm x1 y1 z1 x2 y2 z2)) := F161.other W167 (Or.inl (Ne.symm ne_a1_r3))
        have F188 : Fld Z h167 r4 nm1 "runs" "I" (.int (f8_j109_F_r4_runs_0 p3 p4 imp hm lo x1 y1 z1 x2 y2 z2)) := F162.other W167 (Or.inl (Ne.symm ne_a1_r4))
        have F189 : Fld Z h167 r4 nm1 "length" "I" (.int (f8_j109_F_r4_length_0 p3 p4 imp hm lo x1 y1 z1 x2 y2 z2)) := F163.other W167 (Or.inl (Ne.symm ne_a1_r4))
        have F190 : Fld Z h167 r4 nm1 "lows" "I" (.int (f8_j109_F_r4_lows_0 p3 p4 imp hm lo x1 y1 z1 x2 y2 z2)) := F164.other W167 (Or.inl (Ne.symm ne_a1_r4))
        have K191 : Keep h0 h167 [a1, r3, r4] := K165.wr W167 (Or.inl (List.mem_of_getElem? (i := 0) rfl))
        have Z192 : n0 ≤ h167.size := Nat.le_trans Z166 (Keep.of_wr W167).1
        refine Rt.aloadN (pc' := 147) X167 hx (hb hby d8_146) rfl rfl rfl ?_
        refine Rt.getF (pc' := 150) (v := (.ref r2)) X167 hx hZ hown (host := "") (Or.inl (hw _ (List.mem_of_getElem? (i := 55) rfl))) F173 (hb hby d8_147) rfl ?_
        intro T193 X193
        refine Rt.astore (pc' := 152) (v := (.ref r2)) (l' := #[.val (.ref a1), .val (.int p2), .val (.int p3), .val (.int p4), .val (.int (f9 lo x2)), .val (.ref r1), .val (.ref r2)]) X193 hx (hb hby d8_150) rfl rfl rfl ?_
        refine Rt.aloadN (pc' := 153) X193 hx (hb hby d8_152) rfl rfl rfl ?_
        refine Rt.aloadN (pc' := 154) X193 hx (hb hby d8_153) rfl rfl rfl ?_
        refine Rt.getF (pc' := 157) (v := (.ref r4)) X193 hx hZ hown (host := "") (Or.inl (hw _ (List.mem_of_getElem? (i := 59) rfl))) F174 (hb hby d8_154) rfl ?_
        intro T194 X194
        refine Rt.putF (pc' := 160) (v := (.ref r4)) X194 hx hZ hown (host := "") (Or.inl (hw _ (List.mem_of_getElem? (i := 55) rfl))) F173 F168 (Or.inl (hw _ (List.mem_of_getElem? (i := 56) rfl))) (hw _ (List.mem_of_getElem? (i := 40) rfl)) (ty := (.object "com/example/tightfold/tightfold/FocusFiltering$Run")) (by decide) rfl rfl g_a1 (hb hby d8_157) rfl ?_
        intro T195 h195 X195 W195 F195
        have F196 : Exa Z h195 a1 nm2 := F168.wr W195
        have F197 : Fld Z h195 a1 nm2 "impossible" "I" (.int imp) := F169.other W195 (Or.inr (slot_ne (Or.inr (hw _ (List.mem_of_getElem? (i := 62) rfl))) (Or.inl (hw _ (List.mem_of_getElem? (i := 56) rfl))) (by decide) (t := .int) (t' := (.object "com/example/tightfold/tightfold/FocusFiltering$Run")) (by decide) (by decide)))
        have F198 : Fld Z h195 a1 nm2 "h" "I" (.int hm) := F170.other W195 (Or.inr (slot_ne (Or.inr (hw _ (List.mem_of_getElem? (i := 64) rfl))) (Or.inl (hw _ (List.mem_of_getElem? (i := 56) rfl))) (by decide) (t := .int) (t' := (.object "com/example/tightfold/tightfold/FocusFiltering$Run")) (by decide) (by decide)))
        have F199 : Fld Z h195 a1 nm2 "lowOut" "I" (.int (f8_j123_s0 p2 imp lo x2)) := F171.other W195 (Or.inr (slot_ne (Or.inl (hw _ (List.mem_of_getElem? (i := 66) rfl))) (Or.inl (hw _ (List.mem_of_getElem? (i := 56) rfl))) (by decide) (t := .int) (t' := (.object "com/example/tightfold/tightfold/FocusFiltering$Run")) (by decide) (by decide)))
        have F200 : Fld Z h195 a1 nm2 "lowIn" nm3 (.ref r3) := F172.other W195 (Or.inr (slot_ne (Or.inl (hw _ (List.mem_of_getElem? (i := 54) rfl))) (Or.inl (hw _ (List.mem_of_getElem? (i := 56) rfl))) (by decide) (t := (.object "com/example/tightfold/tightfold/FocusFiltering$Run")) (t' := (.object "com/example/tightfold/tightfold/FocusFiltering$Run")) (by decide) (by decide)))
        have F201 : Fld Z h195 a1 nm2 "nextLowIn" nm3 (.ref r1) := F167.other W195 (Or.inr (slot_ne (Or.inl (hw _ (List.mem_of_getElem? (i := 58) rfl))) (Or.inl (hw _ (List.mem_of_getElem? (i := 56) rfl))) (by decide) (t := (.object "com/example/tightfold/tightfold/FocusFiltering$Run")) (t' := (.object "com/example/tightfold/tightfold/FocusFiltering$Run")) (by decide) (by decide)))
        have F202 : Fld Z h195 a1 nm2 "nextHigh" nm3 (.ref r4) := F174.other W195 (Or.inr (slot_ne (Or.inl (hw _ (List.mem_of_getElem? (i := 60) rfl))) (Or.inl (hw _ (List.mem_of_getElem? (i := 56) rfl))) (by decide) (t := (.object "com/example/tightfold/tightfold/FocusFiltering$Run")) (t' := (.object "com/example/tightfold/tightfold/FocusFiltering$Run")) (by decide) (by decide)))
        have F203 : Exa Z h195 r1 nm1 := F175.wr W195
        have F204 : Fld Z h195 r1 nm1 "runs" "I" (.int x1) := F176.other W195 (Or.inl (Ne.symm ne_a1_r1))
        have F205 : Fld Z h195 r1 nm1 "length" "I" (.int y1) := F177.other W195 (Or.inl (Ne.symm ne_a1_r1))
        have F206 : Fld Z h195 r1 nm1 "lows" "I" (.int z1) := F178.other W195 (Or.inl (Ne.symm ne_a1_r1))
        have F207 : Exa Z h195 r2 nm1 := F179.wr W195
        have F208 : Fld Z h195 r2 nm1 "runs" "I" (.int x2) := F180.other W195 (Or.inl (Ne.symm ne_a1_r2))
        have F209 : Fld Z h195 r2 nm1 "length" "I" (.int y2) := F181.other W195 (Or.inl (Ne.symm ne_a1_r2))
        have F210 : Fld Z h195 r2 nm1 "lows" "I" (.int z2) := F182.other W195 (Or.inl (Ne.symm ne_a1_r2))
        have F211 : Exa Z h195 r3 nm1 := F183.wr W195
        have F212 : Exa Z h195 r4 nm1 := F184.wr W195
        have F213 : Fld Z h195 r3 nm1 "runs" "I" (.int (f8_j64_F_r3_runs_0 p2 p4 imp hm x1 y1 z1 x2 y2 z2)) := F185.other W195 (Or.inl (Ne.symm ne_a1_r3))
        have F214 : Fld Z h195 r3 nm1 "length" "I" (.int (f8_j64_F_r3_length_0 p2 p4 imp hm x1 y1 z1 x2 y2 z2)) := F186.other W195 (Or.inl (Ne.symm ne_a1_r3))
        have F215 : Fld Z h195 r3 nm1 "lows" "I" (.int (f8_j64_F_r3_lows_0 p2 p4 imp hm x1 y1 z1 x2 y2 z2)) := F187.other W195 (Or.inl (Ne.symm ne_a1_r3))
        have F216 : Fld Z h195 r4 nm1 "runs" "I" (.int (f8_j109_F_r4_runs_0 p3 p4 imp hm lo x1 y1 z1 x2 y2 z2)) := F188.other W195 (Or.inl (Ne.symm ne_a1_r4))
        have F217 : Fld Z h195 r4 nm1 "length" "I" (.int (f8_j109_F_r4_length_0 p3 p4 imp hm lo x1 y1 z1 x2 y2 z2)) := F189.other W195 (Or.inl (Ne.symm ne_a1_r4))
        have F218 : Fld Z h195 r4 nm1 "lows" "I" (.int (f8_j109_F_r4_lows_0 p3 p4 imp hm lo x1 y1 z1 x2 y2 z2)) := F190.other W195 (Or.inl (Ne.symm ne_a1_r4))
        have K219 : Keep h0 h195 [a1, r3, r4] := K191.wr W195 (Or.inl (List.mem_of_getElem? (i := 0) rfl))
        have Z220 : n0 ≤ h195.size := Nat.le_trans Z192 (Keep.of_wr W195).1
        refine Rt.aloadN (pc' := 161) X195 hx (hb hby d8_160) rfl rfl rfl ?_
        refine Rt.aload (pc' := 163) X195 hx (hb hby d8_161) rfl rfl rfl ?_
        refine Rt.putF (pc' := 166) (v := (.ref r2)) X195 hx hZ hown (host := "") (Or.inl (hw _ (List.mem_of_getElem? (i := 59) rfl))) F202 F196 (Or.inl (hw _ (List.mem_of_getElem? (i := 60) rfl))) (hw _ (List.mem_of_getElem? (i := 40) rfl)) (ty := (.object "com/example/tightfold/tightfold/FocusFiltering$Run")) (by decide) rfl rfl g_a1 (hb hby d8_163) rfl ?_
        intro T221 h221 X221 W221 F221
        have F222 : Exa Z h221 a1 nm2 := F196.wr W221
        have F223 : Fld Z h221 a1 nm2 "impossible" "I" (.int imp) := F197.other W221 (Or.inr (slot_ne (Or.inr (hw _ (List.mem_of_getElem? (i := 62) rfl))) (Or.inl (hw _ (List.mem_of_getElem? (i := 60) rfl))) (by decide) (t := .int) (t' := (.object "com/example/tightfold/tightfold/FocusFiltering$Run")) (by decide) (by decide)))
        have F224 : Fld Z h221 a1 nm2 "h" "I" (.int hm) := F198.other W221 (Or.inr (slot_ne (Or.inr (hw _ (List.mem_of_getElem? (i := 64) rfl))) (Or.inl (hw _ (List.mem_of_getElem? (i := 60) rfl))) (by decide) (t := .int) (t' := (.object "com/example/tightfold/tightfold/FocusFiltering$Run")) (by decide) (by decide)))
        have F225 : Fld Z h221 a1 nm2 "lowOut" "I" (.int (f8_j123_s0 p2 imp lo x2)) := F199.other W221 (Or.inr (slot_ne (Or.inl (hw _ (List.mem_of_getElem? (i := 66) rfl))) (Or.inl (hw _ (List.mem_of_getElem? (i := 60) rfl))) (by decide) (t := .int) (t' := (.object "com/example/tightfold/tightfold/FocusFiltering$Run")) (by decide) (by decide)))
        have F226 : Fld Z h221 a1 nm2 "lowIn" nm3 (.ref r3) := F200.other W221 (Or.inr (slot_ne (Or.inl (hw _ (List.mem_of_getElem? (i := 54) rfl))) (Or.inl (hw _ (List.mem_of_getElem? (i := 60) rfl))) (by decide) (t := (.object "com/example/tightfold/tightfold/FocusFiltering$Run")) (t' := (.object "com/example/tightfold/tightfold/FocusFiltering$Run")) (by decide) (by decide)))
        have F227 : Fld Z h221 a1 nm2 "high" nm3 (.ref r4) := F195.other W221 (Or.inr (slot_ne (Or.inl (hw _ (List.mem_of_getElem? (i := 56) rfl))) (Or.inl (hw _ (List.mem_of_getElem? (i := 60) rfl))) (by decide) (t := (.object "com/example/tightfold/tightfold/FocusFiltering$Run")) (t' := (.object "com/example/tightfold/tightfold/FocusFiltering$Run")) (by decide) (by decide)))
        have F228 : Fld Z h221 a1 nm2 "nextLowIn" nm3 (.ref r1) := F201.other W221 (Or.inr (slot_ne (Or.inl (hw _ (List.mem_of_getElem? (i := 58) rfl))) (Or.inl (hw _ (List.mem_of_getElem? (i := 60) rfl))) (by decide) (t := (.object "com/example/tightfold/tightfold/FocusFiltering$Run")) (t' := (.object "com/example/tightfold/tightfold/FocusFiltering$Run")) (by decide) (by decide)))
        have F229 : Exa Z h221 r1 nm1 := F203.wr W221
        have F230 : Fld Z h221 r1 nm1 "runs" "I" (.int x1) := F204.other W221 (Or.inl (Ne.symm ne_a1_r1))
        have F231 : Fld Z h221 r1 nm1 "length" "I" (.int y1) := F205.other W221 (Or.inl (Ne.symm ne_a1_r1))
        have F232 : Fld Z h221 r1 nm1 "lows" "I" (.int z1) := F206.other W221 (Or.inl (Ne.symm ne_a1_r1))
        have F233 : Exa Z h221 r2 nm1 := F207.wr W221
        have F234 : Fld Z h221 r2 nm1 "runs" "I" (.int x2) := F208.other W221 (Or.inl (Ne.symm ne_a1_r2))
        have F235 : Fld Z h221 r2 nm1 "length" "I" (.int y2) := F209.other W221 (Or.inl (Ne.symm ne_a1_r2))
        have F236 : Fld Z h221 r2 nm1 "lows" "I" (.int z2) := F210.other W221 (Or.inl (Ne.symm ne_a1_r2))
        have F237 : Exa Z h221 r3 nm1 := F211.wr W221
        have F238 : Exa Z h221 r4 nm1 := F212.wr W221
        have F239 : Fld Z h221 r3 nm1 "runs" "I" (.int (f8_j64_F_r3_runs_0 p2 p4 imp hm x1 y1 z1 x2 y2 z2)) := F213.other W221 (Or.inl (Ne.symm ne_a1_r3))
        have F240 : Fld Z h221 r3 nm1 "length" "I" (.int (f8_j64_F_r3_length_0 p2 p4 imp hm x1 y1 z1 x2 y2 z2)) := F214.other W221 (Or.inl (Ne.symm ne_a1_r3))
        have F241 : Fld Z h221 r3 nm1 "lows" "I" (.int (f8_j64_F_r3_lows_0 p2 p4 imp hm x1 y1 z1 x2 y2 z2)) := F215.other W221 (Or.inl (Ne.symm ne_a1_r3))
        have F242 : Fld Z h221 r4 nm1 "runs" "I" (.int (f8_j109_F_r4_runs_0 p3 p4 imp hm lo x1 y1 z1 x2 y2 z2)) := F216.other W221 (Or.inl (Ne.symm ne_a1_r4))
        have F243 : Fld Z h221 r4 nm1 "length" "I" (.int (f8_j109_F_r4_length_0 p3 p4 imp hm lo x1 y1 z1 x2 y2 z2)) := F217.other W221 (Or.inl (Ne.symm ne_a1_r4))
        have F244 : Fld Z h221 r4 nm1 "lows" "I" (.int (f8_j109_F_r4_lows_0 p3 p4 imp hm lo x1 y1 z1 x2 y2 z2)) := F218.other W221 (Or.inl (Ne.symm ne_a1_r4))
        have K245 : Keep h0 h221 [a1, r3, r4] := K219.wr W221 (Or.inl (List.mem_of_getElem? (i := 0) rfl))
        have Z246 : n0 ≤ h221.size := Nat.le_trans Z220 (Keep.of_wr W221).1
        exact Rt.retV X221 hx hlk hret (hb hby d8_166) (by decide) (by decide) (fun L N => ⟨rfl, N, K245, F222, F223, F224, F225, F226, F227, F228, F221, F237, F238, F239, F240, F241, F242, F243, F244⟩)
      by_cases hc111_247 : p2 = (0 : Int32)
      · refine Rt.ifY (pc' := 119) X87 hx (hb hby d8_111) ((if0 _ _).trans (teq hc111_247).1) (by decide) (by decide) ?_
        refine Rt.aloadN (pc' := 120) X87 hx (hb hby d8_119) rfl rfl rfl ?_
        refine Rt.getF (pc' := 123) (v := (.int imp)) X87 hx hZ hown (host := "") (Or.inl (hw _ (List.mem_of_getElem? (i := 61) rfl))) F89 (hb hby d8_120) rfl ?_
        intro T248 X248
        have q := J111_112 T248   X248
        rw [show (f8_j123_s0 p2 imp lo x2) = imp from by rw [f8_j123_s0, if_pos hc111_247]] at q
        exact q
      · refine Rt.ifN (pc' := 114) X87 hx (hb hby d8_111) ((if0 _ _).trans (feq hc111_247).1) rfl ?_
        refine Rt.iload (pc' := 116) X87 hx (hb hby d8_114) rfl rfl ?_
        refine Rt.goto (pc' := 123) X87 hx (hb hby d8_116) (by decide) (by decide) ?_
        have q := J111_112 T87   X87
        rw [show (f8_j123_s0 p2 imp lo x2) = (f9 lo x2) from by rw [f8_j123_s0, if_neg hc111_247]] at q
        exact q
    by_cases hc65_249 : p3 = (0 : Int32)
    · refine Rt.ifY (pc' := 109) X62 hx (hb hby d8_65) ((if0 _ _).trans (teq hc65_249).1) (by decide) (by decide) ?_
      have q := J65_87 T62 h62  X62
      rw [show (f8_j109_F_r4_runs_0 p3 p4 imp hm lo x1 y1 z1 x2 y2 z2) = imp from by rw [f8_j109_F_r4_runs_0, if_pos hc65_249]] at q
      rw [show (f8_j109_F_r4_length_0 p3 p4 imp hm lo x1 y1 z1 x2 y2 z2) = (0 : Int32) from by rw [f8_j109_F_r4_length_0, if_pos hc65_249]] at q
      rw [show (f8_j109_F_r4_lows_0 p3 p4 imp hm lo x1 y1 z1 x2 y2 z2) = (0 : Int32) from by rw [f8_j109_F_r4_lows_0, if_pos hc65_249]] at q
      exact q Z62 K62 F63 F64 F65 F66 F67 F68 F69 F70 F71 F72 F73 F74 F75 F76 F77 F78 F79 F80 F81 F82 F83 F84 F85 F86
    · refine Rt.ifN (pc' := 68) X62 hx (hb hby d8_65) ((if0 _ _).trans (feq hc65_249).1) rfl ?_
      refine Rt.aloadN (pc' := 69) X62 hx (hb hby d8_68) rfl rfl rfl ?_
      refine Rt.aloadN (pc' := 70) X62 hx (hb hby d8_69) rfl rfl rfl ?_
      refine Rt.getF (pc' := 73) (v := (.ref r4)) X62 hx hZ hown (host := "") (Or.inl (hw _ (List.mem_of_getElem? (i := 59) rfl))) F70 (hb hby d8_70) rfl ?_
      intro T250 X250
      refine Rt.aloadN (pc' := 74) X250 hx (hb hby d8_73) rfl rfl rfl ?_
      refine Rt.getF (pc' := 77) (v := (.ref r1)) X250 hx hZ hown (host := "") (Or.inl (hw _ (List.mem_of_getElem? (i := 53) rfl))) F67 (hb hby d8_74) rfl ?_
      intro T251 X251
      refine Rt.iloadN (pc' := 78) X251 hx (hb hby d8_77) rfl rfl ?_
      refine Rt.iconst (pc' := 79) (v := (0 : Int32)) X251 hx (hb hby d8_78) rfl rfl ?_
      refine Rt.callPr (pc' := 82) X251 hx hZ (y := mt7) hown (hw _ (List.mem_of_getElem? (i := 92) rfl)) (hw _ (List.mem_of_getElem? (i := 93) rfl)) (hw _ (List.mem_of_getElem? (i := 94) rfl)) (hw _ (List.mem_of_getElem? (i := 40) rfl)) (hw _ (List.mem_of_getElem? (i := 41) rfl)) (hw _ (List.mem_of_getElem? (i := 95) rfl)) (by decide) F63 (rm11 l Z a0 hw [] a1 r4 r1 p4 (0 : Int32) imp hm imp (0 : Int32) (0 : Int32) x1 y1 z1 h62 n0 Z62 F63 F64 F65 F80 F84 F85 F86 F72 F73 F74 g_r4 (Ne.symm ne_r1_r4) ne_a1_r4) (fun _ _ _ q => q.2.1) (W := 0) (by decide) (by decide) (by decide) (by decide) (argsL := [(.ref r4), (.ref r1), (.int p4), (.int (0 : Int32))]) (rest := []) (by rw [hml]; rfl) (lenOf pd_4 rfl) rfl rfl (Nat.le_of_eq rfl) (hb hby d8_79) rfl ?_
      rintro _ T252 h252 L252 X252 ⟨rfl, N252, K252, F253, F254, F255, F256⟩
      have F257 : Exa Z h252 a1 nm2 := F63.keep K252
      have F258 : Fld Z h252 a1 nm2 "impossible" "I" (.int imp) := F64.keep K252 (ninS ne_a1_r4 nin0)
      have F259 : Fld Z h252 a1 nm2 "h" "I" (.int hm) := F65.keep K252 (ninS ne_a1_r4 nin0)
      have F260 : Fld Z h252 a1 nm2 "lowOut" "I" (.int lo) := F66.keep K252 (ninS ne_a1_r4 nin0)
      have F261 : Fld Z h252 a1 nm2 "lowIn" nm3 (.ref r1) := F67.keep K252 (ninS ne_a1_r4 nin0)
      have F262 : Fld Z h252 a1 nm2 "high" nm3 (.ref r2) := F68.keep K252 (ninS ne_a1_r4 nin0)
      have F263 : Fld Z h252 a1 nm2 "nextLowIn" nm3 (.ref r3) := F69.keep K252 (ninS ne_a1_r4 nin0)
      have F264 : Fld Z h252 a1 nm2 "nextHigh" nm3 (.ref r4) := F70.keep K252 (ninS ne_a1_r4 nin0)
      have F265 : Exa Z h252 r1 nm1 := F71.keep K252
      have F266 : Fld Z h252 r1 nm1 "runs" "I" (.int x1) := F72.keep K252 (ninS ne_r1_r4 nin0)
      have F267 : Fld Z h252 r1 nm1 "length" "I" (.int y1) := F73.keep K252 (ninS ne_r1_r4 nin0)
      have F268 : Fld Z h252 r1 nm1 "lows" "I" (.int z1) := F74.keep K252 (ninS ne_r1_r4 nin0)
      have F269 : Exa Z h252 r2 nm1 := F75.keep K252
      have F270 : Fld Z h252 r2 nm1 "runs" "I" (.int x2) := F76.keep K252 (ninS ne_r2_r4 nin0)
      have F271 : Fld Z h252 r2 nm1 "length" "I" (.int y2) := F77.keep K252 (ninS ne_r2_r4 nin0)
      have F272 : Fld Z h252 r2 nm1 "lows" "I" (.int z2) := F78.keep K252 (ninS ne_r2_r4 nin0)
      have F273 : Exa Z h252 r3 nm1 := F79.keep K252
      have F274 : Exa Z h252 r4 nm1 := F80.keep K252
      have F275 : Fld Z h252 r3 nm1 "runs" "I" (.int (f8_j64_F_r3_runs_0 p2 p4 imp hm x1 y1 z1 x2 y2 z2)) := F81.keep K252 (ninS ne_r3_r4 nin0)
      have F276 : Fld Z h252 r3 nm1 "length" "I" (.int (f8_j64_F_r3_length_0 p2 p4 imp hm x1 y1 z1 x2 y2 z2)) := F82.keep K252 (ninS ne_r3_r4 nin0)
      have F277 : Fld Z h252 r3 nm1 "lows" "I" (.int (f8_j64_F_r3_lows_0 p2 p4 imp hm x1 y1 z1 x2 y2 z2)) := F83.keep K252 (ninS ne_r3_r4 nin0)
      have K278 : Keep h0 h252 [a1, r3, r4] := K62.trans K252 (allS (Or.inl (List.mem_of_getElem? (i := 2) rfl)) all0)
      have Z279 : n0 ≤ h252.size := Nat.le_trans Z62 K252.1
      have F280 : Fld Z h252 r4 nm1 "runs" "I" (.int (f8_c79_r4_runs0 p4 imp hm x1 y1 z1)) := F254
      have F281 : Fld Z h252 r4 nm1 "length" "I" (.int (f8_c79_r4_length0 p4 imp hm x1 y1 z1)) := F255
      have F282 : Fld Z h252 r4 nm1 "lows" "I" (.int (f8_c79_r4_lows0 p4 imp hm x1 y1 z1)) := F256
      show Rt _ _ _ _ _ _ _ (T252.setTop (mkF m 82 #[.val (.ref a1), .val (.int p2), .val (.int p3), .val (.int p4), .val (.int (f9 lo x2)), .unset, .unset] []))
      refine Rt.aloadN (pc' := 83) X252 hx (hb hby d8_82) rfl rfl rfl ?_
      refine Rt.aloadN (pc' := 84) X252 hx (hb hby d8_83) rfl rfl rfl ?_
      refine Rt.getF (pc' := 87) (v := (.ref r4)) X252 hx hZ hown (host := "") (Or.inl (hw _ (List.mem_of_getElem? (i := 59) rfl))) F264 (hb hby d8_84) rfl ?_
      intro T283 X283
      refine Rt.aloadN (pc' := 88) X283 hx (hb hby d8_87) rfl rfl rfl ?_
      refine Rt.getF (pc' := 91) (v := (.ref r2)) X283 hx hZ hown (host := "") (Or.inl (hw _ (List.mem_of_getElem? (i := 55) rfl))) F262 (hb hby d8_88) rfl ?_
      intro T284 X284
      refine Rt.iloadN (pc' := 92) X284 hx (hb hby d8_91) rfl rfl ?_
      refine Rt.iconst (pc' := 93) (v := (0 : Int32)) X284 hx (hb hby d8_92) rfl rfl ?_
      refine Rt.callPr (pc' := 96) X284 hx hZ (y := mt7) hown (hw _ (List.mem_of_getElem? (i := 92) rfl)) (hw _ (List.mem_of_getElem? (i := 93) rfl)) (hw _ (List.mem_of_getElem? (i := 94) rfl)) (hw _ (List.mem_of_getElem? (i := 40) rfl)) (hw _ (List.mem_of_getElem? (i := 41) rfl)) (hw _ (List.mem_of_getElem? (i := 95) rfl)) (by decide) F257 (rm11 l Z a0 hw [] a1 r4 r2 p4 (0 : Int32) imp hm (f8_c79_r4_runs0 p4 imp hm x1 y1 z1) (f8_c79_r4_length0 p4 imp hm x1 y1 z1) (f8_c79_r4_lows0 p4 imp hm x1 y1 z1) x2 y2 z2 h252 n0 Z279 F257 F258 F259 F253 F280 F281 F282 F270 F271 F272 g_r4 (Ne.symm ne_r2_r4) ne_a1_r4) (fun _ _ _ q => q.2.1) (W := 0) (by decide) (by decide) (by decide) (by decide) (argsL := [(.ref r4), (.ref r2), (.int p4), (.int (0 : Int32))]) (rest := []) (by rw [hml]; rfl) (lenOf pd_4 rfl) rfl rfl (Nat.le_of_eq rfl) (hb hby d8_93) rfl ?_
      rintro _ T285 h285 L285 X285 ⟨rfl, N285, K285, F286, F287, F288, F289⟩
      have F290 : Exa Z h285 a1 nm2 := F257.keep K285
      have F291 : Fld Z h285 a1 nm2 "impossible" "I" (.int imp) := F258.keep K285 (ninS ne_a1_r4 nin0)
      have F292 : Fld Z h285 a1 nm2 "h" "I" (.int hm) := F259.keep K285 (ninS ne_a1_r4 nin0)
      have F293 : Fld Z h285 a1 nm2 "lowOut" "I" (.int lo) := F260.keep K285 (ninS ne_a1_r4 nin0)
      have F294 : Fld Z h285 a1 nm2 "lowIn" nm3 (.ref r1) := F261.keep K285 (ninS ne_a1_r4 nin0)
      have F295 : Fld Z h285 a1 nm2 "high" nm3 (.ref r2) := F262.keep K285 (ninS ne_a1_r4 nin0)
      have F296 : Fld Z h285 a1 nm2 "nextLowIn" nm3 (.ref r3) := F263.keep K285 (ninS ne_a1_r4 nin0)
      have F297 : Fld Z h285 a1 nm2 "nextHigh" nm3 (.ref r4) := F264.keep K285 (ninS ne_a1_r4 nin0)
      have F298 : Exa Z h285 r1 nm1 := F265.keep K285
      have F299 : Fld Z h285 r1 nm1 "runs" "I" (.int x1) := F266.keep K285 (ninS ne_r1_r4 nin0)
      have F300 : Fld Z h285 r1 nm1 "length" "I" (.int y1) := F267.keep K285 (ninS ne_r1_r4 nin0)
      have F301 : Fld Z h285 r1 nm1 "lows" "I" (.int z1) := F268.keep K285 (ninS ne_r1_r4 nin0)
      have F302 : Exa Z h285 r2 nm1 := F269.keep K285
      have F303 : Fld Z h285 r2 nm1 "runs" "I" (.int x2) := F270.keep K285 (ninS ne_r2_r4 nin0)
      have F304 : Fld Z h285 r2 nm1 "length" "I" (.int y2) := F271.keep K285 (ninS ne_r2_r4 nin0)
      have F305 : Fld Z h285 r2 nm1 "lows" "I" (.int z2) := F272.keep K285 (ninS ne_r2_r4 nin0)
      have F306 : Exa Z h285 r3 nm1 := F273.keep K285
      have F307 : Exa Z h285 r4 nm1 := F253.keep K285
      have F308 : Fld Z h285 r3 nm1 "runs" "I" (.int (f8_j64_F_r3_runs_0 p2 p4 imp hm x1 y1 z1 x2 y2 z2)) := F275.keep K285 (ninS ne_r3_r4 nin0)
      have F309 : Fld Z h285 r3 nm1 "length" "I" (.int (f8_j64_F_r3_length_0 p2 p4 imp hm x1 y1 z1 x2 y2 z2)) := F276.keep K285 (ninS ne_r3_r4 nin0)
      have F310 : Fld Z h285 r3 nm1 "lows" "I" (.int (f8_j64_F_r3_lows_0 p2 p4 imp hm x1 y1 z1 x2 y2 z2)) := F277.keep K285 (ninS ne_r3_r4 nin0)
      have K311 : Keep h0 h285 [a1, r3, r4] := K278.trans K285 (allS (Or.inl (List.mem_of_getElem? (i := 2) rfl)) all0)
      have Z312 : n0 ≤ h285.size := Nat.le_trans Z279 K285.1
      have F313 : Fld Z h285 r4 nm1 "runs" "I" (.int (f8_c93_r4_runs0 p4 imp hm x1 y1 z1 x2 y2 z2)) := F287
      have F314 : Fld Z h285 r4 nm1 "length" "I" (.int (f8_c93_r4_length0 p4 imp hm x1 y1 z1 x2 y2 z2)) := F288
      have F315 : Fld Z h285 r4 nm1 "lows" "I" (.int (f8_c93_r4_lows0 p4 imp hm x1 y1 z1 x2 y2 z2)) := F289
      show Rt _ _ _ _ _ _ _ (T285.setTop (mkF m 96 #[.val (.ref a1), .val (.int p2), .val (.int p3), .val (.int p4), .val (.int (f9 lo x2)), .unset, .unset] []))
      refine Rt.aloadN (pc' := 97) X285 hx (hb hby d8_96) rfl rfl rfl ?_
      refine Rt.getF (pc' := 100) (v := (.ref r4)) X285 hx hZ hown (host := "") (Or.inl (hw _ (List.mem_of_getElem? (i := 59) rfl))) F297 (hb hby d8_97) rfl ?_
      intro T316 X316
      refine Rt.iload (pc' := 102) X316 hx (hb hby d8_100) rfl rfl ?_
      refine Rt.iconst (pc' := 103) (v := (1 : Int32)) X316 hx (hb hby d8_102) rfl rfl ?_
      refine Rt.iadd (pc' := 104) (r := ((f9 lo x2) + (1 : Int32))) X316 hx (hb hby d8_103) rfl rfl ?_
      refine Rt.iconst (pc' := 105) (v := (1 : Int32)) X316 hx (hb hby d8_104) rfl rfl ?_
      refine Rt.iconst (pc' := 106) (v := (0 : Int32)) X316 hx (hb hby d8_105) rfl rfl ?_
      refine Rt.callV (pc' := 109) X316 hx hZ (y := mt5) (yz := mt5) hown (hw _ (List.mem_of_getElem? (i := 114) rfl)) (hw _ (List.mem_of_getElem? (i := 115) rfl)) (notFace_of_selects (args := #[]) (mvT hZ (hw _ (List.mem_of_getElem? (i := 117) rfl)))) (hw _ (List.mem_of_getElem? (i := 117) rfl)) (hw _ (List.mem_of_getElem? (i := 116) rfl)) (hw _ (List.mem_of_getElem? (i := 48) rfl)) (hw _ (List.mem_of_getElem? (i := 118) rfl)) (by decide) F286 (rm15 l Z a0 hw [] r4 (f8_a106_0 lo x2) (1 : Int32) (0 : Int32) (f8_c93_r4_runs0 p4 imp hm x1 y1 z1 x2 y2 z2) (f8_c93_r4_length0 p4 imp hm x1 y1 z1 x2 y2 z2) (f8_c93_r4_lows0 p4 imp hm x1 y1 z1 x2 y2 z2) h285 n0 Z312 F286 F313 F314 F315 g_r4) (fun _ _ _ q => q.2.1) (W := 0) (by decide) (by decide) (by decide) (by decide) (argsL := [(.int (f8_a106_0 lo x2)), (.int (1 : Int32)), (.int (0 : Int32))]) (rest := []) (by rw [hml]; rfl) (lenOf pd_1 rfl) rfl rfl (Nat.le_of_eq rfl) (hb hby d8_106) rfl ?_
      rintro _ T317 h317 L317 X317 ⟨rfl, N317, K317, F318, F319, F320, F321⟩
      have F322 : Exa Z h317 a1 nm2 := F290.keep K317
      have F323 : Fld Z h317 a1 nm2 "impossible" "I" (.int imp) := F291.keep K317 (ninS ne_a1_r4 nin0)
      have F324 : Fld Z h317 a1 nm2 "h" "I" (.int hm) := F292.keep K317 (ninS ne_a1_r4 nin0)
      have F325 : Fld Z h317 a1 nm2 "lowOut" "I" (.int lo) := F293.keep K317 (ninS ne_a1_r4 nin0)
      have F326 : Fld Z h317 a1 nm2 "lowIn" nm3 (.ref r1) := F294.keep K317 (ninS ne_a1_r4 nin0)
      have F327 : Fld Z h317 a1 nm2 "high" nm3 (.ref r2) := F295.keep K317 (ninS ne_a1_r4 nin0)
      have F328 : Fld Z h317 a1 nm2 "nextLowIn" nm3 (.ref r3) := F296.keep K317 (ninS ne_a1_r4 nin0)
      have F329 : Fld Z h317 a1 nm2 "nextHigh" nm3 (.ref r4) := F297.keep K317 (ninS ne_a1_r4 nin0)
      have F330 : Exa Z h317 r1 nm1 := F298.keep K317
      have F331 : Fld Z h317 r1 nm1 "runs" "I" (.int x1) := F299.keep K317 (ninS ne_r1_r4 nin0)
      have F332 : Fld Z h317 r1 nm1 "length" "I" (.int y1) := F300.keep K317 (ninS ne_r1_r4 nin0)
      have F333 : Fld Z h317 r1 nm1 "lows" "I" (.int z1) := F301.keep K317 (ninS ne_r1_r4 nin0)
      have F334 : Exa Z h317 r2 nm1 := F302.keep K317
      have F335 : Fld Z h317 r2 nm1 "runs" "I" (.int x2) := F303.keep K317 (ninS ne_r2_r4 nin0)
      have F336 : Fld Z h317 r2 nm1 "length" "I" (.int y2) := F304.keep K317 (ninS ne_r2_r4 nin0)
      have F337 : Fld Z h317 r2 nm1 "lows" "I" (.int z2) := F305.keep K317 (ninS ne_r2_r4 nin0)
      have F338 : Exa Z h317 r3 nm1 := F306.keep K317
      have F339 : Exa Z h317 r4 nm1 := F286.keep K317
      have F340 : Fld Z h317 r3 nm1 "runs" "I" (.int (f8_j64_F_r3_runs_0 p2 p4 imp hm x1 y1 z1 x2 y2 z2)) := F308.keep K317 (ninS ne_r3_r4 nin0)
      have F341 : Fld Z h317 r3 nm1 "length" "I" (.int (f8_j64_F_r3_length_0 p2 p4 imp hm x1 y1 z1 x2 y2 z2)) := F309.keep K317 (ninS ne_r3_r4 nin0)
      have F342 : Fld Z h317 r3 nm1 "lows" "I" (.int (f8_j64_F_r3_lows_0 p2 p4 imp hm x1 y1 z1 x2 y2 z2)) := F310.keep K317 (ninS ne_r3_r4 nin0)
      have K343 : Keep h0 h317 [a1, r3, r4] := K311.trans K317 (allS (Or.inl (List.mem_of_getElem? (i := 2) rfl)) all0)
      have Z344 : n0 ≤ h317.size := Nat.le_trans Z312 K317.1
      have F345 : Fld Z h317 r4 nm1 "runs" "I" (.int (f8_c106_r4_runs0 p4 imp hm lo x1 y1 z1 x2 y2 z2)) := F319
      have F346 : Fld Z h317 r4 nm1 "length" "I" (.int (f8_c106_r4_length0 p4 imp hm lo x1 y1 z1 x2 y2 z2)) := F320
      have F347 : Fld Z h317 r4 nm1 "lows" "I" (.int (f8_c106_r4_lows0 p4 imp hm lo x1 y1 z1 x2 y2 z2)) := F321
      show Rt _ _ _ _ _ _ _ (T317.setTop (mkF m 109 #[.val (.ref a1), .val (.int p2), .val (.int p3), .val (.int p4), .val (.int (f9 lo x2)), .unset, .unset] []))
      have q := J65_87 T317 h317  X317
      rw [show (f8_j109_F_r4_runs_0 p3 p4 imp hm lo x1 y1 z1 x2 y2 z2) = (f8_c106_r4_runs0 p4 imp hm lo x1 y1 z1 x2 y2 z2) from by rw [f8_j109_F_r4_runs_0, if_neg hc65_249]] at q
      rw [show (f8_j109_F_r4_length_0 p3 p4 imp hm lo x1 y1 z1 x2 y2 z2) = (f8_c106_r4_length0 p4 imp hm lo x1 y1 z1 x2 y2 z2) from by rw [f8_j109_F_r4_length_0, if_neg hc65_249]] at q
      rw [show (f8_j109_F_r4_lows_0 p3 p4 imp hm lo x1 y1 z1 x2 y2 z2) = (f8_c106_r4_lows0 p4 imp hm lo x1 y1 z1 x2 y2 z2) from by rw [f8_j109_F_r4_lows_0, if_neg hc65_249]] at q
      exact q Z344 K343 F322 F323 F324 F325 F326 F327 F328 F329 F330 F331 F332 F333 F334 F335 F336 F337 F338 F318 F340 F341 F342 F345 F346 F347
  by_cases hc29_348 : p2 = (0 : Int32)
  · refine Rt.ifY (pc' := 64) X34 hx (hb hby d8_29) ((if0 _ _).trans (teq hc29_348).1) (by decide) (by decide) ?_
    have q := J29_62 T34 h34  X34
    rw [show (f8_j64_F_r3_runs_0 p2 p4 imp hm x1 y1 z1 x2 y2 z2) = imp from by rw [f8_j64_F_r3_runs_0, if_pos hc29_348]] at q
    rw [show (f8_j64_F_r3_length_0 p2 p4 imp hm x1 y1 z1 x2 y2 z2) = (0 : Int32) from by rw [f8_j64_F_r3_length_0, if_pos hc29_348]] at q
    rw [show (f8_j64_F_r3_lows_0 p2 p4 imp hm x1 y1 z1 x2 y2 z2) = (0 : Int32) from by rw [f8_j64_F_r3_lows_0, if_pos hc29_348]] at q
    exact q Z61 K60 F39 F40 F41 F42 F43 F44 F45 F46 F47 F48 F49 F50 F51 F52 F53 F54 F55 F35 F57 F58 F59 F36 F37 F38
  · refine Rt.ifN (pc' := 32) X34 hx (hb hby d8_29) ((if0 _ _).trans (feq hc29_348).1) rfl ?_
    refine Rt.aloadN (pc' := 33) X34 hx (hb hby d8_32) rfl rfl rfl ?_
    refine Rt.aloadN (pc' := 34) X34 hx (hb hby d8_33) rfl rfl rfl ?_
    refine Rt.getF (pc' := 37) (v := (.ref r3)) X34 hx hZ hown (host := "") (Or.inl (hw _ (List.mem_of_getElem? (i := 57) rfl))) F45 (hb hby d8_34) rfl ?_
    intro T349 X349
    refine Rt.aloadN (pc' := 38) X349 hx (hb hby d8_37) rfl rfl rfl ?_
    refine Rt.getF (pc' := 41) (v := (.ref r1)) X349 hx hZ hown (host := "") (Or.inl (hw _ (List.mem_of_getElem? (i := 53) rfl))) F43 (hb hby d8_38) rfl ?_
    intro T350 X350
    refine Rt.iloadN (pc' := 42) X350 hx (hb hby d8_41) rfl rfl ?_
    refine Rt.iconst (pc' := 43) (v := (1 : Int32)) X350 hx (hb hby d8_42) rfl rfl ?_
    refine Rt.isub (pc' := 44) (r := (p4 - (1 : Int32))) X350 hx (hb hby d8_43) rfl rfl ?_
    refine Rt.iconst (pc' := 45) (v := (1 : Int32)) X350 hx (hb hby d8_44) rfl rfl ?_
    refine Rt.callPr (pc' := 48) X350 hx hZ (y := mt7) hown (hw _ (List.mem_of_getElem? (i := 92) rfl)) (hw _ (List.mem_of_getElem? (i := 93) rfl)) (hw _ (List.mem_of_getElem? (i := 94) rfl)) (hw _ (List.mem_of_getElem? (i := 40) rfl)) (hw _ (List.mem_of_getElem? (i := 41) rfl)) (hw _ (List.mem_of_getElem? (i := 95) rfl)) (by decide) F39 (rm11 l Z a0 hw [] a1 r3 r1 (f8_a45_2 p4) (1 : Int32) imp hm imp (0 : Int32) (0 : Int32) x1 y1 z1 h34 n0 Z61 F39 F40 F41 F55 F57 F58 F59 F48 F49 F50 g_r3 (Ne.symm ne_r1_r3) ne_a1_r3) (fun _ _ _ q => q.2.1) (W := 0) (by decide) (by decide) (by decide) (by decide) (argsL := [(.ref r3), (.ref r1), (.int (f8_a45_2 p4)), (.int (1 : Int32))]) (rest := []) (by rw [hml]; rfl) (lenOf pd_4 rfl) rfl rfl (Nat.le_of_eq rfl) (hb hby d8_45) rfl ?_
    rintro _ T351 h351 L351 X351 ⟨rfl, N351, K351, F352, F353, F354, F355⟩
    have F356 : Exa Z h351 a1 nm2 := F39.keep K351
    have F357 : Fld Z h351 a1 nm2 "impossible" "I" (.int imp) := F40.keep K351 (ninS ne_a1_r3 nin0)
    have F358 : Fld Z h351 a1 nm2 "h" "I" (.int hm) := F41.keep K351 (ninS ne_a1_r3 nin0)
    have F359 : Fld Z h351 a1 nm2 "lowOut" "I" (.int lo) := F42.keep K351 (ninS ne_a1_r3 nin0)
    have F360 : Fld Z h351 a1 nm2 "lowIn" nm3 (.ref r1) := F43.keep K351 (ninS ne_a1_r3 nin0)
    have F361 : Fld Z h351 a1 nm2 "high" nm3 (.ref r2) := F44.keep K351 (ninS ne_a1_r3 nin0)
    have F362 : Fld Z h351 a1 nm2 "nextLowIn" nm3 (.ref r3) := F45.keep K351 (ninS ne_a1_r3 nin0)
    have F363 : Fld Z h351 a1 nm2 "nextHigh" nm3 (.ref r4) := F46.keep K351 (ninS ne_a1_r3 nin0)
    have F364 : Exa Z h351 r1 nm1 := F47.keep K351
    have F365 : Fld Z h351 r1 nm1 "runs" "I" (.int x1) := F48.keep K351 (ninS ne_r1_r3 nin0)
    have F366 : Fld Z h351 r1 nm1 "length" "I" (.int y1) := F49.keep K351 (ninS ne_r1_r3 nin0)
    have F367 : Fld Z h351 r1 nm1 "lows" "I" (.int z1) := F50.keep K351 (ninS ne_r1_r3 nin0)
    have F368 : Exa Z h351 r2 nm1 := F51.keep K351
    have F369 : Fld Z h351 r2 nm1 "runs" "I" (.int x2) := F52.keep K351 (ninS ne_r2_r3 nin0)
    have F370 : Fld Z h351 r2 nm1 "length" "I" (.int y2) := F53.keep K351 (ninS ne_r2_r3 nin0)
    have F371 : Fld Z h351 r2 nm1 "lows" "I" (.int z2) := F54.keep K351 (ninS ne_r2_r3 nin0)
    have F372 : Exa Z h351 r3 nm1 := F55.keep K351
    have F373 : Exa Z h351 r4 nm1 := F35.keep K351
    have F374 : Fld Z h351 r4 nm1 "runs" "I" (.int imp) := F36.keep K351 (ninS (Ne.symm ne_r3_r4) nin0)
    have F375 : Fld Z h351 r4 nm1 "length" "I" (.int (0 : Int32)) := F37.keep K351 (ninS (Ne.symm ne_r3_r4) nin0)
    have F376 : Fld Z h351 r4 nm1 "lows" "I" (.int (0 : Int32)) := F38.keep K351 (ninS (Ne.symm ne_r3_r4) nin0)
    have K377 : Keep h0 h351 [a1, r3, r4] := K60.trans K351 (allS (Or.inl (List.mem_of_getElem? (i := 1) rfl)) all0)
    have Z378 : n0 ≤ h351.size := Nat.le_trans Z61 K351.1
    have F379 : Fld Z h351 r3 nm1 "runs" "I" (.int (f8_c45_r3_runs0 p4 imp hm x1 y1 z1)) := F353
    have F380 : Fld Z h351 r3 nm1 "length" "I" (.int (f8_c45_r3_length0 p4 imp hm x1 y1 z1)) := F354
    have F381 : Fld Z h351 r3 nm1 "lows" "I" (.int (f8_c45_r3_lows0 p4 imp hm x1 y1 z1)) := F355
    show Rt _ _ _ _ _ _ _ (T351.setTop (mkF m 48 #[.val (.ref a1), .val (.int p2), .val (.int p3), .val (.int p4), .val (.int (f9 lo x2)), .unset, .unset] []))
    refine Rt.aloadN (pc' := 49) X351 hx (hb hby d8_48) rfl rfl rfl ?_
    refine Rt.aloadN (pc' := 50) X351 hx (hb hby d8_49) rfl rfl rfl ?_
    refine Rt.getF (pc' := 53) (v := (.ref r3)) X351 hx hZ hown (host := "") (Or.inl (hw _ (List.mem_of_getElem? (i := 57) rfl))) F362 (hb hby d8_50) rfl ?_
    intro T382 X382
    refine Rt.aloadN (pc' := 54) X382 hx (hb hby d8_53) rfl rfl rfl ?_
    refine Rt.getF (pc' := 57) (v := (.ref r2)) X382 hx hZ hown (host := "") (Or.inl (hw _ (List.mem_of_getElem? (i := 55) rfl))) F361 (hb hby d8_54) rfl ?_
    intro T383 X383
    refine Rt.iloadN (pc' := 58) X383 hx (hb hby d8_57) rfl rfl ?_
    refine Rt.iconst (pc' := 59) (v := (1 : Int32)) X383 hx (hb hby d8_58) rfl rfl ?_
    refine Rt.isub (pc' := 60) (r := (p4 - (1 : Int32))) X383 hx (hb hby d8_59) rfl rfl ?_
    refine Rt.iconst (pc' := 61) (v := (1 : Int32)) X383 hx (hb hby d8_60) rfl rfl ?_
    refine Rt.callPr (pc' := 64) X383 hx hZ (y := mt7) hown (hw _ (List.mem_of_getElem? (i := 92) rfl)) (hw _ (List.mem_of_getElem? (i := 93) rfl)) (hw _ (List.mem_of_getElem? (i := 94) rfl)) (hw _ (List.mem_of_getElem? (i := 40) rfl)) (hw _ (List.mem_of_getElem? (i := 41) rfl)) (hw _ (List.mem_of_getElem? (i := 95) rfl)) (by decide) F356 (rm11 l Z a0 hw [] a1 r3 r2 (f8_a61_2 p4) (1 : Int32) imp hm (f8_c45_r3_runs0 p4 imp hm x1 y1 z1) (f8_c45_r3_length0 p4 imp hm x1 y1 z1) (f8_c45_r3_lows0 p4 imp hm x1 y1 z1) x2 y2 z2 h351 n0 Z378 F356 F357 F358 F352 F379 F380 F381 F369 F370 F371 g_r3 (Ne.symm ne_r2_r3) ne_a1_r3) (fun _ _ _ q => q.2.1) (W := 0) (by decide) (by decide) (by decide) (by decide) (argsL := [(.ref r3), (.ref r2), (.int (f8_a61_2 p4)), (.int (1 : Int32))]) (rest := []) (by rw [hml]; rfl) (lenOf pd_4 rfl) rfl rfl (Nat.le_of_eq rfl) (hb hby d8_61) rfl ?_
    rintro _ T384 h384 L384 X384 ⟨rfl, N384, K384, F385, F386, F387, F388⟩
    have F389 : Exa Z h384 a1 nm2 := F356.keep K384
    have F390 : Fld Z h384 a1 nm2 "impossible" "I" (.int imp) := F357.keep K384 (ninS ne_a1_r3 nin0)
    have F391 : Fld Z h384 a1 nm2 "h" "I" (.int hm) := F358.keep K384 (ninS ne_a1_r3 nin0)
    have F392 : Fld Z h384 a1 nm2 "lowOut" "I" (.int lo) := F359.keep K384 (ninS ne_a1_r3 nin0)
    have F393 : Fld Z h384 a1 nm2 "lowIn" nm3 (.ref r1) := F360.keep K384 (ninS ne_a1_r3 nin0)
    have F394 : Fld Z h384 a1 nm2 "high" nm3 (.ref r2) := F361.keep K384 (ninS ne_a1_r3 nin0)
    have F395 : Fld Z h384 a1 nm2 "nextLowIn" nm3 (.ref r3) := F362.keep K384 (ninS ne_a1_r3 nin0)
    have F396 : Fld Z h384 a1 nm2 "nextHigh" nm3 (.ref r4) := F363.keep K384 (ninS ne_a1_r3 nin0)
    have F397 : Exa Z h384 r1 nm1 := F364.keep K384
    have F398 : Fld Z h384 r1 nm1 "runs" "I" (.int x1) := F365.keep K384 (ninS ne_r1_r3 nin0)
    have F399 : Fld Z h384 r1 nm1 "length" "I" (.int y1) := F366.keep K384 (ninS ne_r1_r3 nin0)
    have F400 : Fld Z h384 r1 nm1 "lows" "I" (.int z1) := F367.keep K384 (ninS ne_r1_r3 nin0)
    have F401 : Exa Z h384 r2 nm1 := F368.keep K384
    have F402 : Fld Z h384 r2 nm1 "runs" "I" (.int x2) := F369.keep K384 (ninS ne_r2_r3 nin0)
    have F403 : Fld Z h384 r2 nm1 "length" "I" (.int y2) := F370.keep K384 (ninS ne_r2_r3 nin0)
    have F404 : Fld Z h384 r2 nm1 "lows" "I" (.int z2) := F371.keep K384 (ninS ne_r2_r3 nin0)
    have F405 : Exa Z h384 r3 nm1 := F352.keep K384
    have F406 : Exa Z h384 r4 nm1 := F373.keep K384
    have F407 : Fld Z h384 r4 nm1 "runs" "I" (.int imp) := F374.keep K384 (ninS (Ne.symm ne_r3_r4) nin0)
    have F408 : Fld Z h384 r4 nm1 "length" "I" (.int (0 : Int32)) := F375.keep K384 (ninS (Ne.symm ne_r3_r4) nin0)
    have F409 : Fld Z h384 r4 nm1 "lows" "I" (.int (0 : Int32)) := F376.keep K384 (ninS (Ne.symm ne_r3_r4) nin0)
    have K410 : Keep h0 h384 [a1, r3, r4] := K377.trans K384 (allS (Or.inl (List.mem_of_getElem? (i := 1) rfl)) all0)
    have Z411 : n0 ≤ h384.size := Nat.le_trans Z378 K384.1
    have F412 : Fld Z h384 r3 nm1 "runs" "I" (.int (f8_c61_r3_runs0 p4 imp hm x1 y1 z1 x2 y2 z2)) := F386
    have F413 : Fld Z h384 r3 nm1 "length" "I" (.int (f8_c61_r3_length0 p4 imp hm x1 y1 z1 x2 y2 z2)) := F387
    have F414 : Fld Z h384 r3 nm1 "lows" "I" (.int (f8_c61_r3_lows0 p4 imp hm x1 y1 z1 x2 y2 z2)) := F388
    show Rt _ _ _ _ _ _ _ (T384.setTop (mkF m 64 #[.val (.ref a1), .val (.int p2), .val (.int p3), .val (.int p4), .val (.int (f9 lo x2)), .unset, .unset] []))
    have q := J29_62 T384 h384  X384
    rw [show (f8_j64_F_r3_runs_0 p2 p4 imp hm x1 y1 z1 x2 y2 z2) = (f8_c61_r3_runs0 p4 imp hm x1 y1 z1 x2 y2 z2) from by rw [f8_j64_F_r3_runs_0, if_neg hc29_348]] at q
    rw [show (f8_j64_F_r3_length_0 p2 p4 imp hm x1 y1 z1 x2 y2 z2) = (f8_c61_r3_length0 p4 imp hm x1 y1 z1 x2 y2 z2) from by rw [f8_j64_F_r3_length_0, if_neg hc29_348]] at q
    rw [show (f8_j64_F_r3_lows_0 p2 p4 imp hm x1 y1 z1 x2 y2 z2) = (f8_c61_r3_lows0 p4 imp hm x1 y1 z1 x2 y2 z2) from by rw [f8_j64_F_r3_lows_0, if_neg hc29_348]] at q
    exact q Z411 K410 F389 F390 F391 F392 F393 F394 F395 F396 F397 F398 F399 F400 F401 F402 F403 F404 F385 F406 F412 F413 F414 F407 F408 F409
theorem d5_0 : decode prog_4_method_1_code 0 = .ok (.aload_n 0, 1) := by decide +kernel
theorem d5_1 : decode prog_4_method_1_code 1 = .ok (.invokespecial 1, 3) := by decide +kernel
theorem d5_4 : decode prog_4_method_1_code 4 = .ok (.aload_n 0, 1) := by decide +kernel
theorem d5_5 : decode prog_4_method_1_code 5 = .ok (.new 7, 3) := by decide +kernel
theorem d5_8 : decode prog_4_method_1_code 8 = .ok (.dup, 1) := by decide +kernel
theorem pd_5 : parseMethodDescriptor "()V" = some ⟨[], none⟩ := by decide +kernel
theorem d5_9 : decode prog_4_method_1_code 9 = .ok (.invokespecial 9, 3) := by decide +kernel
theorem d5_12 : decode prog_4_method_1_code 12 = .ok (.putfield 10, 3) := by decide +kernel
theorem d5_15 : decode prog_4_method_1_code 15 = .ok (.aload_n 0, 1) := by decide +kernel
theorem d5_16 : decode prog_4_method_1_code 16 = .ok (.new 7, 3) := by decide +kernel
theorem d5_19 : decode prog_4_method_1_code 19 = .ok (.dup, 1) := by decide +kernel
theorem d5_20 : decode prog_4_method_1_code 20 = .ok (.invokespecial 9, 3) := by decide +kernel
theorem d5_23 : decode prog_4_method_1_code 23 = .ok (.putfield 16, 3) := by decide +kernel
theorem d5_26 : decode prog_4_method_1_code 26 = .ok (.aload_n 0, 1) := by decide +kernel
theorem d5_27 : decode prog_4_method_1_code 27 = .ok (.new 7, 3) := by decide +kernel
theorem d5_30 : decode prog_4_method_1_code 30 = .ok (.dup, 1) := by decide +kernel
theorem d5_31 : decode prog_4_method_1_code 31 = .ok (.invokespecial 9, 3) := by decide +kernel
theorem d5_34 : decode prog_4_method_1_code 34 = .ok (.putfield 19, 3) := by decide +kernel
theorem d5_37 : decode prog_4_method_1_code 37 = .ok (.aload_n 0, 1) := by decide +kernel
theorem d5_38 : decode prog_4_method_1_code 38 = .ok (.new 7, 3) := by decide +kernel
theorem d5_41 : decode prog_4_method_1_code 41 = .ok (.dup, 1) := by decide +kernel
theorem d5_42 : decode prog_4_method_1_code 42 = .ok (.invokespecial 9, 3) := by decide +kernel
theorem d5_45 : decode prog_4_method_1_code 45 = .ok (.putfield 22, 3) := by decide +kernel
theorem d5_48 : decode prog_4_method_1_code 48 = .ok (.aload_n 0, 1) := by decide +kernel
theorem d5_49 : decode prog_4_method_1_code 49 = .ok (.iload_n 1, 1) := by decide +kernel
theorem d5_50 : decode prog_4_method_1_code 50 = .ok (.putfield 25, 3) := by decide +kernel
theorem d5_53 : decode prog_4_method_1_code 53 = .ok (.aload_n 0, 1) := by decide +kernel
theorem d5_54 : decode prog_4_method_1_code 54 = .ok (.iload_n 2, 1) := by decide +kernel
theorem d5_55 : decode prog_4_method_1_code 55 = .ok (.putfield 29, 3) := by decide +kernel
theorem d5_58 : decode prog_4_method_1_code 58 = .ok (.aload_n 0, 1) := by decide +kernel
theorem d5_59 : decode prog_4_method_1_code 59 = .ok (.iconst 0, 1) := by decide +kernel
theorem d5_60 : decode prog_4_method_1_code 60 = .ok (.putfield 32, 3) := by decide +kernel
theorem d5_63 : decode prog_4_method_1_code 63 = .ok (.aload_n 0, 1) := by decide +kernel
theorem d5_64 : decode prog_4_method_1_code 64 = .ok (.getfield 10, 3) := by decide +kernel
theorem d5_67 : decode prog_4_method_1_code 67 = .ok (.iload_n 1, 1) := by decide +kernel
theorem d5_68 : decode prog_4_method_1_code 68 = .ok (.invokevirtual 35, 3) := by decide +kernel
theorem d5_71 : decode prog_4_method_1_code 71 = .ok (.aload_n 0, 1) := by decide +kernel
theorem d5_72 : decode prog_4_method_1_code 72 = .ok (.getfield 16, 3) := by decide +kernel
theorem d5_75 : decode prog_4_method_1_code 75 = .ok (.iload_n 1, 1) := by decide +kernel
theorem d5_76 : decode prog_4_method_1_code 76 = .ok (.invokevirtual 35, 3) := by decide +kernel
theorem d5_79 : decode prog_4_method_1_code 79 = .ok (.return_, 1) := by decide +kernel
def Q5 (Z : State) (a1 : Addr) (p2 : Int32) (p3 : Int32) (h0 : Heap) (n0 : Nat) (v : Option Value) (h : Heap) (L : List Loc) : Prop := ∃ nr1 : Addr, ∃ nr2 : Addr, ∃ nr3 : Addr, ∃ nr4 : Addr, h0.size ≤ nr1 ∧ h0.size ≤ nr2 ∧ h0.size ≤ nr3 ∧ h0.size ≤ nr4 ∧ nr1 ≠ nr2 ∧ nr1 ≠ nr3 ∧ nr1 ≠ nr4 ∧ nr2 ≠ nr3 ∧ nr2 ≠ nr4 ∧ nr3 ≠ nr4 ∧ v = none ∧ Fr n0 L ∧ Keep h0 h [a1] ∧ Exa Z h a1 nm2 ∧ Fld Z h a1 nm2 "impossible" "I" (.int p2) ∧ Fld Z h a1 nm2 "h" "I" (.int p3) ∧ Fld Z h a1 nm2 "lowOut" "I" (.int (0 : Int32)) ∧ Fld Z h a1 nm2 "lowIn" nm3 (.ref nr1) ∧ Fld Z h a1 nm2 "high" nm3 (.ref nr2) ∧ Fld Z h a1 nm2 "nextLowIn" nm3 (.ref nr3) ∧ Fld Z h a1 nm2 "nextHigh" nm3 (.ref nr4) ∧ Exa Z h nr1 nm1 ∧ Exa Z h nr2 nm1 ∧ Exa Z h nr3 nm1 ∧ Fld Z h nr3 nm1 "runs" "I" (.int (0 : Int32)) ∧ Fld Z h nr3 nm1 "length" "I" (.int (0 : Int32)) ∧ Fld Z h nr3 nm1 "lows" "I" (.int (0 : Int32)) ∧ Exa Z h nr4 nm1 ∧ Fld Z h nr4 nm1 "runs" "I" (.int (0 : Int32)) ∧ Fld Z h nr4 nm1 "length" "I" (.int (0 : Int32)) ∧ Fld Z h nr4 nm1 "lows" "I" (.int (0 : Int32)) ∧ Fld Z h nr1 nm1 "runs" "I" (.int p2) ∧ Fld Z h nr1 nm1 "length" "I" (.int (0 : Int32)) ∧ Fld Z h nr1 nm1 "lows" "I" (.int (0 : Int32)) ∧ Fld Z h nr2 nm1 "runs" "I" (.int p2) ∧ Fld Z h nr2 nm1 "length" "I" (.int (0 : Int32)) ∧ Fld Z h nr2 nm1 "lows" "I" (.int (0 : Int32))
def rmR5 : Room := { frames := 2, cells := 4, slots := 12, locals := 26 }
theorem ef_5 (m : MethodId) (a1 : Addr) (p2 : Int32) (p3 : Int32) : entryFrame m #[(.ref a1), (.int p2), (.int p3)] 3 = mkF m 0 #[.val (.ref a1), .val (.int p2), .val (.int p3)] [] := by first | (simp [entryFrame, mkF, argsToLocals, Value.category]; done) | rfl
set_option maxRecDepth 65536 in
set_option maxHeartbeats 40000000 in
theorem rm5 (l : Launch) (Z : State) (a0 : Array Value) (hw : ∀ d ∈ tables_1, d.before a0 Z = true) (ws : List Jvm.Cond) (a1 : Addr) (p2 : Int32) (p3 : Int32) (h0 : Heap) (n0 : Nat) (Z0 : n0 ≤ h0.size) (F_E_a1 : Exa Z h0 a1 nm2) (F_F_a1_impossible : Fld Z h0 a1 nm2 "impossible" "I" (.int (0 : Int32))) (F_F_a1_h : Fld Z h0 a1 nm2 "h" "I" (.int (0 : Int32))) (F_F_a1_lowOut : Fld Z h0 a1 nm2 "lowOut" "I" (.int (0 : Int32))) (F_F_a1_lowIn : Fld Z h0 a1 nm2 "lowIn" nm3 .null) (F_F_a1_high : Fld Z h0 a1 nm2 "high" nm3 .null) (F_F_a1_nextLowIn : Fld Z h0 a1 nm2 "nextLowIn" nm3 .null) (F_F_a1_nextHigh : Fld Z h0 a1 nm2 "nextHigh" nm3 .null) (g_a1 : n0 ≤ a1) :
    Mt l Z mt9 (Jvm.Cond.code mt9 prog_4_method_1_code 3 none :: ws) rmR5 #[(.ref a1), (.int p2), (.int p3)] h0 (Q5 Z a1 p2 p3 h0 n0) := by
  refine Mt.of n0 (plainFor_of_name pn_com_example_tightfold_tightfold_FocusFiltering_PartialCover) ?_
  intro p e s m below meth c T0 X0 hx hZ hby hml hown hret hlk hnm hs0
  have hown : s.vm.findClass "com/example/tightfold/tightfold/FocusFiltering$PartialCover" = some m.cls := hown
  rw [ef_5]
  show Rt p e below s rmR5.cells rmR5.slots (Q5 Z a1 p2 p3 h0 n0) (T0.setTop (mkF m 0 #[.val (.ref a1), .val (.int p2), .val (.int p3)] []))
  refine Rt.aloadN (pc' := 1) X0 hx (hb hby d5_0) rfl rfl rfl ?_
  refine Rt.initO (pc' := 4) X0 hx hZ hown (hw _ (List.mem_of_getElem? (i := 45) rfl)) (hw _ (List.mem_of_getElem? (i := 13) rfl)) (hw _ (List.mem_of_getElem? (i := 14) rfl)) (by rw [hml]; rfl) (hb hby d5_1) (by decide) (W := 0) (Nat.le_of_eq rfl) (by decide) rfl ?_
  intro T1 X1
  refine Rt.aloadN (pc' := 5) X1 hx (hb hby d5_4) rfl rfl rfl ?_
  refine Rt.newO (pc' := 8) X1 hx hZ hown (hw _ (List.mem_of_getElem? (i := 46) rfl)) (hw _ (List.mem_of_getElem? (i := 47) rfl)) (hw _ (List.mem_of_getElem? (i := 48) rfl)) (hb hby d5_5) (by decide) (by decide) rfl ?_
  intro T2 h2 b5 ha2 X2 E2 A2 D2
  have g3 : n0 ≤ b5 := by rw [ha2]; exact Z0
  have s4 : h0.size ≤ b5 := by rw [ha2]; exact (Keep.refl h0 [a1]).1
  have ne5 : a1 ≠ b5 := by rw [ha2]; exact Nat.ne_of_lt F_E_a1.lt
  have F6 : Exa Z h2 a1 nm2 := F_E_a1.ext E2
  have F7 : Fld Z h2 a1 nm2 "impossible" "I" (.int (0 : Int32)) := F_F_a1_impossible.ext E2
  have F8 : Fld Z h2 a1 nm2 "h" "I" (.int (0 : Int32)) := F_F_a1_h.ext E2
  have F9 : Fld Z h2 a1 nm2 "lowOut" "I" (.int (0 : Int32)) := F_F_a1_lowOut.ext E2
  have F10 : Fld Z h2 a1 nm2 "lowIn" nm3 .null := F_F_a1_lowIn.ext E2
  have F11 : Fld Z h2 a1 nm2 "high" nm3 .null := F_F_a1_high.ext E2
  have F12 : Fld Z h2 a1 nm2 "nextLowIn" nm3 .null := F_F_a1_nextLowIn.ext E2
  have F13 : Fld Z h2 a1 nm2 "nextHigh" nm3 .null := F_F_a1_nextHigh.ext E2
  have K14 : Keep h0 h2 [a1] := (Keep.refl h0 [a1]).ext E2
  have Z15 : n0 ≤ h2.size := Nat.le_trans Z0 E2.1
  have F16 : Fld Z h2 b5 nm1 "runs" "I" (.int (0 : Int32)) := D2 (Or.inl (hw _ (List.mem_of_getElem? (i := 73) rfl))) (ty := .int) (by decide)
  have F17 : Fld Z h2 b5 nm1 "length" "I" (.int (0 : Int32)) := D2 (Or.inl (hw _ (List.mem_of_getElem? (i := 75) rfl))) (ty := .int) (by decide)
  have F18 : Fld Z h2 b5 nm1 "lows" "I" (.int (0 : Int32)) := D2 (Or.inl (hw _ (List.mem_of_getElem? (i := 77) rfl))) (ty := .int) (by decide)
  refine Rt.dup (pc' := 9) X2 hx (hb hby d5_8) rfl rfl ?_
  refine Rt.callIN (pc' := 12) X2 hx hZ (y := mt3) rfl hown (hw _ (List.mem_of_getElem? (i := 49) rfl)) (hw _ (List.mem_of_getElem? (i := 50) rfl)) (hw _ (List.mem_of_getElem? (i := 48) rfl)) (hw _ (List.mem_of_getElem? (i := 51) rfl)) (by decide) (rm6 l Z a0 hw [] b5 h2 n0) (fun _ _ _ q => q.2.1) (W := 2) (by decide) (by decide) (by decide) (by decide) (argsL := []) (rest := [(.ref b5), (.ref a1)]) (by rw [hml]; rfl) (lenOf pd_5 rfl) rfl rfl (Nat.le_of_eq rfl) (hb hby d5_9) rfl ?_
  rintro _ T19 h19 L19 X19 ⟨rfl, N19, e19⟩
  rw [e19] at X19
  show Rt _ _ _ _ _ _ _ (T19.setTop (mkF m 12 #[.val (.ref a1), .val (.int p2), .val (.int p3)] [(.ref b5), (.ref a1)]))
  refine Rt.putF (pc' := 15) (v := (.ref b5)) X19 hx hZ hown (host := "") (Or.inl (hw _ (List.mem_of_getElem? (i := 53) rfl))) F10 F6 (Or.inl (hw _ (List.mem_of_getElem? (i := 54) rfl))) (hw _ (List.mem_of_getElem? (i := 40) rfl)) (ty := (.object "com/example/tightfold/tightfold/FocusFiltering$Run")) (by decide) rfl rfl g_a1 (hb hby d5_12) rfl ?_
  intro T20 h20 X20 W20 F20
  have F21 : Exa Z h20 a1 nm2 := F6.wr W20
  have F22 : Fld Z h20 a1 nm2 "impossible" "I" (.int (0 : Int32)) := F7.other W20 (Or.inr (slot_ne (Or.inr (hw _ (List.mem_of_getElem? (i := 62) rfl))) (Or.inl (hw _ (List.mem_of_getElem? (i := 54) rfl))) (by decide) (t := .int) (t' := (.object "com/example/tightfold/tightfold/FocusFiltering$Run")) (by decide) (by decide)))
  have F23 : Fld Z h20 a1 nm2 "h" "I" (.int (0 : Int32)) := F8.other W20 (Or.inr (slot_ne (Or.inr (hw _ (List.mem_of_getElem? (i := 64) rfl))) (Or.inl (hw _ (List.mem_of_getElem? (i := 54) rfl))) (by decide) (t := .int) (t' := (.object "com/example/tightfold/tightfold/FocusFiltering$Run")) (by decide) (by decide)))
  have F24 : Fld Z h20 a1 nm2 "lowOut" "I" (.int (0 : Int32)) := F9.other W20 (Or.inr (slot_ne (Or.inl (hw _ (List.mem_of_getElem? (i := 66) rfl))) (Or.inl (hw _ (List.mem_of_getElem? (i := 54) rfl))) (by decide) (t := .int) (t' := (.object "com/example/tightfold/tightfold/FocusFiltering$Run")) (by decide) (by decide)))
  have F25 : Fld Z h20 a1 nm2 "high" nm3 .null := F11.other W20 (Or.inr (slot_ne (Or.inl (hw _ (List.mem_of_getElem? (i := 56) rfl))) (Or.inl (hw _ (List.mem_of_getElem? (i := 54) rfl))) (by decide) (t := (.object "com/example/tightfold/tightfold/FocusFiltering$Run")) (t' := (.object "com/example/tightfold/tightfold/FocusFiltering$Run")) (by decide) (by decide)))
  have F26 : Fld Z h20 a1 nm2 "nextLowIn" nm3 .null := F12.other W20 (Or.inr (slot_ne (Or.inl (hw _ (List.mem_of_getElem? (i := 58) rfl))) (Or.inl (hw _ (List.mem_of_getElem? (i := 54) rfl))) (by decide) (t := (.object "com/example/tightfold/tightfold/FocusFiltering$Run")) (t' := (.object "com/example/tightfold/tightfold/FocusFiltering$Run")) (by decide) (by decide)))
  have F27 : Fld Z h20 a1 nm2 "nextHigh" nm3 .null := F13.other W20 (Or.inr (slot_ne (Or.inl (hw _ (List.mem_of_getElem? (i := 60) rfl))) (Or.inl (hw _ (List.mem_of_getElem? (i := 54) rfl))) (by decide) (t := (.object "com/example/tightfold/tightfold/FocusFiltering$Run")) (t' := (.object "com/example/tightfold/tightfold/FocusFiltering$Run")) (by decide) (by decide)))
  have F28 : Exa Z h20 b5 nm1 := A2.wr W20
  have F29 : Fld Z h20 b5 nm1 "runs" "I" (.int (0 : Int32)) := F16.other W20 (Or.inl (Ne.symm ne5))
  have F30 : Fld Z h20 b5 nm1 "length" "I" (.int (0 : Int32)) := F17.other W20 (Or.inl (Ne.symm ne5))
  have F31 : Fld Z h20 b5 nm1 "lows" "I" (.int (0 : Int32)) := F18.other W20 (Or.inl (Ne.symm ne5))
  have K32 : Keep h0 h20 [a1] := K14.wr W20 (Or.inl (List.mem_of_getElem? (i := 0) rfl))
  have Z33 : n0 ≤ h20.size := Nat.le_trans Z15 (Keep.of_wr W20).1
  refine Rt.aloadN (pc' := 16) X20 hx (hb hby d5_15) rfl rfl rfl ?_
  refine Rt.newO (pc' := 19) X20 hx hZ hown (hw _ (List.mem_of_getElem? (i := 46) rfl)) (hw _ (List.mem_of_getElem? (i := 47) rfl)) (hw _ (List.mem_of_getElem? (i := 48) rfl)) (hb hby d5_16) (by decide) (by decide) rfl ?_
  intro T34 h34 b16 ha34 X34 E34 A34 D34
  have g35 : n0 ≤ b16 := by rw [ha34]; exact Z33
  have s36 : h0.size ≤ b16 := by rw [ha34]; exact K32.1
  have ne37 : a1 ≠ b16 := by rw [ha34]; exact Nat.ne_of_lt F21.lt
  have ne38 : b5 ≠ b16 := by rw [ha34]; exact Nat.ne_of_lt F28.lt
  have F39 : Exa Z h34 a1 nm2 := F21.ext E34
  have F40 : Fld Z h34 a1 nm2 "impossible" "I" (.int (0 : Int32)) := F22.ext E34
  have F41 : Fld Z h34 a1 nm2 "h" "I" (.int (0 : Int32)) := F23.ext E34
  have F42 : Fld Z h34 a1 nm2 "lowOut" "I" (.int (0 : Int32)) := F24.ext E34
  have F43 : Fld Z h34 a1 nm2 "lowIn" nm3 (.ref b5) := F20.ext E34
  have F44 : Fld Z h34 a1 nm2 "high" nm3 .null := F25.ext E34
  have F45 : Fld Z h34 a1 nm2 "nextLowIn" nm3 .null := F26.ext E34
  have F46 : Fld Z h34 a1 nm2 "nextHigh" nm3 .null := F27.ext E34
  have F47 : Exa Z h34 b5 nm1 := F28.ext E34
  have F48 : Fld Z h34 b5 nm1 "runs" "I" (.int (0 : Int32)) := F29.ext E34
  have F49 : Fld Z h34 b5 nm1 "length" "I" (.int (0 : Int32)) := F30.ext E34
  have F50 : Fld Z h34 b5 nm1 "lows" "I" (.int (0 : Int32)) := F31.ext E34
  have K51 : Keep h0 h34 [a1] := K32.ext E34
  have Z52 : n0 ≤ h34.size := Nat.le_trans Z33 E34.1
  have F53 : Fld Z h34 b16 nm1 "runs" "I" (.int (0 : Int32)) := D34 (Or.inl (hw _ (List.mem_of_getElem? (i := 73) rfl))) (ty := .int) (by decide)
  have F54 : Fld Z h34 b16 nm1 "length" "I" (.int (0 : Int32)) := D34 (Or.inl (hw _ (List.mem_of_getElem? (i := 75) rfl))) (ty := .int) (by decide)
  have F55 : Fld Z h34 b16 nm1 "lows" "I" (.int (0 : Int32)) := D34 (Or.inl (hw _ (List.mem_of_getElem? (i := 77) rfl))) (ty := .int) (by decide)
  refine Rt.dup (pc' := 20) X34 hx (hb hby d5_19) rfl rfl ?_
  refine Rt.callIN (pc' := 23) X34 hx hZ (y := mt3) rfl hown (hw _ (List.mem_of_getElem? (i := 49) rfl)) (hw _ (List.mem_of_getElem? (i := 50) rfl)) (hw _ (List.mem_of_getElem? (i := 48) rfl)) (hw _ (List.mem_of_getElem? (i := 51) rfl)) (by decide) (rm6 l Z a0 hw [] b16 h34 n0) (fun _ _ _ q => q.2.1) (W := 2) (by decide) (by decide) (by decide) (by decide) (argsL := []) (rest := [(.ref b16), (.ref a1)]) (by rw [hml]; rfl) (lenOf pd_5 rfl) rfl rfl (Nat.le_of_eq rfl) (hb hby d5_20) rfl ?_
  rintro _ T56 h56 L56 X56 ⟨rfl, N56, e56⟩
  rw [e56] at X56
  show Rt _ _ _ _ _ _ _ (T56.setTop (mkF m 23 #[.val (.ref a1), .val (.int p2), .val (.int p3)] [(.ref b16), (.ref a1)]))
  refine Rt.putF (pc' := 26) (v := (.ref b16)) X56 hx hZ hown (host := "") (Or.inl (hw _ (List.mem_of_getElem? (i := 55) rfl))) F44 F39 (Or.inl (hw _ (List.mem_of_getElem? (i := 56) rfl))) (hw _ (List.mem_of_getElem? (i := 40) rfl)) (ty := (.object "com/example/tightfold/tightfold/FocusFiltering$Run")) (by decide) rfl rfl g_a1 (hb hby d5_23) rfl ?_
  intro T57 h57 X57 W57 F57
  have F58 : Exa Z h57 a1 nm2 := F39.wr W57
  have F59 : Fld Z h57 a1 nm2 "impossible" "I" (.int (0 : Int32)) := F40.other W57 (Or.inr (slot_ne (Or.inr (hw _ (List.mem_of_getElem? (i := 62) rfl))) (Or.inl (hw _ (List.mem_of_getElem? (i := 56) rfl))) (by decide) (t := .int) (t' := (.object "com/example/tightfold/tightfold/FocusFiltering$Run")) (by decide) (by decide)))
  have F60 : Fld Z h57 a1 nm2 "h" "I" (.int (0 : Int32)) := F41.other W57 (Or.inr (slot_ne (Or.inr (hw _ (List.mem_of_getElem? (i := 64) rfl))) (Or.inl (hw _ (List.mem_of_getElem? (i := 56) rfl))) (by decide) (t := .int) (t' := (.object "com/example/tightfold/tightfold/FocusFiltering$Run")) (by decide) (by decide)))
  have F61 : Fld Z h57 a1 nm2 "lowOut" "I" (.int (0 : Int32)) := F42.other W57 (Or.inr (slot_ne (Or.inl (hw _ (List.mem_of_getElem? (i := 66) rfl))) (Or.inl (hw _ (List.mem_of_getElem? (i := 56) rfl))) (by decide) (t := .int) (t' := (.object "com/example/tightfold/tightfold/FocusFiltering$Run")) (by decide) (by decide)))
  have F62 : Fld Z h57 a1 nm2 "lowIn" nm3 (.ref b5) := F43.other W57 (Or.inr (slot_ne (Or.inl (hw _ (List.mem_of_getElem? (i := 54) rfl))) (Or.inl (hw _ (List.mem_of_getElem? (i := 56) rfl))) (by decide) (t := (.object "com/example/tightfold/tightfold/FocusFiltering$Run")) (t' := (.object "com/example/tightfold/tightfold/FocusFiltering$Run")) (by decide) (by decide)))
  have F63 : Fld Z h57 a1 nm2 "nextLowIn" nm3 .null := F45.other W57 (Or.inr (slot_ne (Or.inl (hw _ (List.mem_of_getElem? (i := 58) rfl))) (Or.inl (hw _ (List.mem_of_getElem? (i := 56) rfl))) (by decide) (t := (.object "com/example/tightfold/tightfold/FocusFiltering$Run")) (t' := (.object "com/example/tightfold/tightfold/FocusFiltering$Run")) (by decide) (by decide)))
  have F64 : Fld Z h57 a1 nm2 "nextHigh" nm3 .null := F46.other W57 (Or.inr (slot_ne (Or.inl (hw _ (List.mem_of_getElem? (i := 60) rfl))) (Or.inl (hw _ (List.mem_of_getElem? (i := 56) rfl))) (by decide) (t := (.object "com/example/tightfold/tightfold/FocusFiltering$Run")) (t' := (.object "com/example/tightfold/tightfold/FocusFiltering$Run")) (by decide) (by decide)))
  have F65 : Exa Z h57 b5 nm1 := F47.wr W57
  have F66 : Fld Z h57 b5 nm1 "runs" "I" (.int (0 : Int32)) := F48.other W57 (Or.inl (Ne.symm ne5))
  have F67 : Fld Z h57 b5 nm1 "length" "I" (.int (0 : Int32)) := F49.other W57 (Or.inl (Ne.symm ne5))
  have F68 : Fld Z h57 b5 nm1 "lows" "I" (.int (0 : Int32)) := F50.other W57 (Or.inl (Ne.symm ne5))
  have F69 : Exa Z h57 b16 nm1 := A34.wr W57
  have F70 : Fld Z h57 b16 nm1 "runs" "I" (.int (0 : Int32)) := F53.other W57 (Or.inl (Ne.symm ne37))
  have F71 : Fld Z h57 b16 nm1 "length" "I" (.int (0 : Int32)) := F54.other W57 (Or.inl (Ne.symm ne37))
  have F72 : Fld Z h57 b16 nm1 "lows" "I" (.int (0 : Int32)) := F55.other W57 (Or.inl (Ne.symm ne37))
  have K73 : Keep h0 h57 [a1] := K51.wr W57 (Or.inl (List.mem_of_getElem? (i := 0) rfl))
  have Z74 : n0 ≤ h57.size := Nat.le_trans Z52 (Keep.of_wr W57).1
  refine Rt.aloadN (pc' := 27) X57 hx (hb hby d5_26) rfl rfl rfl ?_
  refine Rt.newO (pc' := 30) X57 hx hZ hown (hw _ (List.mem_of_getElem? (i := 46) rfl)) (hw _ (List.mem_of_getElem? (i := 47) rfl)) (hw _ (List.mem_of_getElem? (i := 48) rfl)) (hb hby d5_27) (by decide) (by decide) rfl ?_
  intro T75 h75 b27 ha75 X75 E75 A75 D75
  have g76 : n0 ≤ b27 := by rw [ha75]; exact Z74
  have s77 : h0.size ≤ b27 := by rw [ha75]; exact K73.1
  have ne78 : a1 ≠ b27 := by rw [ha75]; exact Nat.ne_of_lt F58.lt
  have ne79 : b5 ≠ b27 := by rw [ha75]; exact Nat.ne_of_lt F65.lt
  have ne80 : b16 ≠ b27 := by rw [ha75]; exact Nat.ne_of_lt F69.lt
  have F81 : Exa Z h75 a1 nm2 := F58.ext E75
  have F82 : Fld Z h75 a1 nm2 "impossible" "I" (.int (0 : Int32)) := F59.ext E75
  have F83 : Fld Z h75 a1 nm2 "h" "I" (.int (0 : Int32)) := F60.ext E75
  have F84 : Fld Z h75 a1 nm2 "lowOut" "I" (.int (0 : Int32)) := F61.ext E75
  have F85 : Fld Z h75 a1 nm2 "lowIn" nm3 (.ref b5) := F62.ext E75
  have F86 : Fld Z h75 a1 nm2 "high" nm3 (.ref b16) := F57.ext E75
  have F87 : Fld Z h75 a1 nm2 "nextLowIn" nm3 .null := F63.ext E75
  have F88 : Fld Z h75 a1 nm2 "nextHigh" nm3 .null := F64.ext E75
  have F89 : Exa Z h75 b5 nm1 := F65.ext E75
  have F90 : Fld Z h75 b5 nm1 "runs" "I" (.int (0 : Int32)) := F66.ext E75
  have F91 : Fld Z h75 b5 nm1 "length" "I" (.int (0 : Int32)) := F67.ext E75
  have F92 : Fld Z h75 b5 nm1 "lows" "I" (.int (0 : Int32)) := F68.ext E75
  have F93 : Exa Z h75 b16 nm1 := F69.ext E75
  have F94 : Fld Z h75 b16 nm1 "runs" "I" (.int (0 : Int32)) := F70.ext E75
  have F95 : Fld Z h75 b16 nm1 "length" "I" (.int (0 : Int32)) := F71.ext E75
  have F96 : Fld Z h75 b16 nm1 "lows" "I" (.int (0 : Int32)) := F72.ext E75
  have K97 : Keep h0 h75 [a1] := K73.ext E75
  have Z98 : n0 ≤ h75.size := Nat.le_trans Z74 E75.1
  have F99 : Fld Z h75 b27 nm1 "runs" "I" (.int (0 : Int32)) := D75 (Or.inl (hw _ (List.mem_of_getElem? (i := 73) rfl))) (ty := .int) (by decide)
  have F100 : Fld Z h75 b27 nm1 "length" "I" (.int (0 : Int32)) := D75 (Or.inl (hw _ (List.mem_of_getElem? (i := 75) rfl))) (ty := .int) (by decide)
  have F101 : Fld Z h75 b27 nm1 "lows" "I" (.int (0 : Int32)) := D75 (Or.inl (hw _ (List.mem_of_getElem? (i := 77) rfl))) (ty := .int) (by decide)
  refine Rt.dup (pc' := 31) X75 hx (hb hby d5_30) rfl rfl ?_
  refine Rt.callIN (pc' := 34) X75 hx hZ (y := mt3) rfl hown (hw _ (List.mem_of_getElem? (i := 49) rfl)) (hw _ (List.mem_of_getElem? (i := 50) rfl)) (hw _ (List.mem_of_getElem? (i := 48) rfl)) (hw _ (List.mem_of_getElem? (i := 51) rfl)) (by decide) (rm6 l Z a0 hw [] b27 h75 n0) (fun _ _ _ q => q.2.1) (W := 2) (by decide) (by decide) (by decide) (by decide) (argsL := []) (rest := [(.ref b27), (.ref a1)]) (by rw [hml]; rfl) (lenOf pd_5 rfl) rfl rfl (Nat.le_of_eq rfl) (hb hby d5_31) rfl ?_
  rintro _ T102 h102 L102 X102 ⟨rfl, N102, e102⟩
  rw [e102] at X102
  show Rt _ _ _ _ _ _ _ (T102.setTop (mkF m 34 #[.val (.ref a1), .val (.int p2), .val (.int p3)] [(.ref b27), (.ref a1)]))
  refine Rt.putF (pc' := 37) (v := (.ref b27)) X102 hx hZ hown (host := "") (Or.inl (hw _ (List.mem_of_getElem? (i := 57) rfl))) F87 F81 (Or.inl (hw _ (List.mem_of_getElem? (i := 58) rfl))) (hw _ (List.mem_of_getElem? (i := 40) rfl)) (ty := (.object "com/example/tightfold/tightfold/FocusFiltering$Run")) (by decide) rfl rfl g_a1 (hb hby d5_34) rfl ?_
  intro T103 h103 X103 W103 F103
  have F104 : Exa Z h103 a1 nm2 := F81.wr W103
  have F105 : Fld Z h103 a1 nm2 "impossible" "I" (.int (0 : Int32)) := F82.other W103 (Or.inr (slot_ne (Or.inr (hw _ (List.mem_of_getElem? (i := 62) rfl))) (Or.inl (hw _ (List.mem_of_getElem? (i := 58) rfl))) (by decide) (t := .int) (t' := (.object "com/example/tightfold/tightfold/FocusFiltering$Run")) (by decide) (by decide)))
  have F106 : Fld Z h103 a1 nm2 "h" "I" (.int (0 : Int32)) := F83.other W103 (Or.inr (slot_ne (Or.inr (hw _ (List.mem_of_getElem? (i := 64) rfl))) (Or.inl (hw _ (List.mem_of_getElem? (i := 58) rfl))) (by decide) (t := .int) (t' := (.object "com/example/tightfold/tightfold/FocusFiltering$Run")) (by decide) (by decide)))
  have F107 : Fld Z h103 a1 nm2 "lowOut" "I" (.int (0 : Int32)) := F84.other W103 (Or.inr (slot_ne (Or.inl (hw _ (List.mem_of_getElem? (i := 66) rfl))) (Or.inl (hw _ (List.mem_of_getElem? (i := 58) rfl))) (by decide) (t := .int) (t' := (.object "com/example/tightfold/tightfold/FocusFiltering$Run")) (by decide) (by decide)))
  have F108 : Fld Z h103 a1 nm2 "lowIn" nm3 (.ref b5) := F85.other W103 (Or.inr (slot_ne (Or.inl (hw _ (List.mem_of_getElem? (i := 54) rfl))) (Or.inl (hw _ (List.mem_of_getElem? (i := 58) rfl))) (by decide) (t := (.object "com/example/tightfold/tightfold/FocusFiltering$Run")) (t' := (.object "com/example/tightfold/tightfold/FocusFiltering$Run")) (by decide) (by decide)))
  have F109 : Fld Z h103 a1 nm2 "high" nm3 (.ref b16) := F86.other W103 (Or.inr (slot_ne (Or.inl (hw _ (List.mem_of_getElem? (i := 56) rfl))) (Or.inl (hw _ (List.mem_of_getElem? (i := 58) rfl))) (by decide) (t := (.object "com/example/tightfold/tightfold/FocusFiltering$Run")) (t' := (.object "com/example/tightfold/tightfold/FocusFiltering$Run")) (by decide) (by decide)))
  have F110 : Fld Z h103 a1 nm2 "nextHigh" nm3 .null := F88.other W103 (Or.inr (slot_ne (Or.inl (hw _ (List.mem_of_getElem? (i := 60) rfl))) (Or.inl (hw _ (List.mem_of_getElem? (i := 58) rfl))) (by decide) (t := (.object "com/example/tightfold/tightfold/FocusFiltering$Run")) (t' := (.object "com/example/tightfold/tightfold/FocusFiltering$Run")) (by decide) (by decide)))
  have F111 : Exa Z h103 b5 nm1 := F89.wr W103
  have F112 : Fld Z h103 b5 nm1 "runs" "I" (.int (0 : Int32)) := F90.other W103 (Or.inl (Ne.symm ne5))
  have F113 : Fld Z h103 b5 nm1 "length" "I" (.int (0 : Int32)) := F91.other W103 (Or.inl (Ne.symm ne5))
  have F114 : Fld Z h103 b5 nm1 "lows" "I" (.int (0 : Int32)) := F92.other W103 (Or.inl (Ne.symm ne5))
  have F115 : Exa Z h103 b16 nm1 := F93.wr W103
  have F116 : Fld Z h103 b16 nm1 "runs" "I" (.int (0 : Int32)) := F94.other W103 (Or.inl (Ne.symm ne37))
  have F117 : Fld Z h103 b16 nm1 "length" "I" (.int (0 : Int32)) := F95.other W103 (Or.inl (Ne.symm ne37))
  have F118 : Fld Z h103 b16 nm1 "lows" "I" (.int (0 : Int32)) := F96.other W103 (Or.inl (Ne.symm ne37))
  have F119 : Exa Z h103 b27 nm1 := A75.wr W103
  have F120 : Fld Z h103 b27 nm1 "runs" "I" (.int (0 : Int32)) := F99.other W103 (Or.inl (Ne.symm ne78))
  have F121 : Fld Z h103 b27 nm1 "length" "I" (.int (0 : Int32)) := F100.other W103 (Or.inl (Ne.symm ne78))
  have F122 : Fld Z h103 b27 nm1 "lows" "I" (.int (0 : Int32)) := F101.other W103 (Or.inl (Ne.symm ne78))
  have K123 : Keep h0 h103 [a1] := K97.wr W103 (Or.inl (List.mem_of_getElem? (i := 0) rfl))
  have Z124 : n0 ≤ h103.size := Nat.le_trans Z98 (Keep.of_wr W103).1
  refine Rt.aloadN (pc' := 38) X103 hx (hb hby d5_37) rfl rfl rfl ?_
  refine Rt.newO (pc' := 41) X103 hx hZ hown (hw _ (List.mem_of_getElem? (i := 46) rfl)) (hw _ (List.mem_of_getElem? (i := 47) rfl)) (hw _ (List.mem_of_getElem? (i := 48) rfl)) (hb hby d5_38) (by decide) (by decide) rfl ?_
  intro T125 h125 b38 ha125 X125 E125 A125 D125
  have g126 : n0 ≤ b38 := by rw [ha125]; exact Z124
  have s127 : h0.size ≤ b38 := by rw [ha125]; exact K123.1
  have ne128 : a1 ≠ b38 := by rw [ha125]; exact Nat.ne_of_lt F104.lt
  have ne129 : b5 ≠ b38 := by rw [ha125]; exact Nat.ne_of_lt F111.lt
  have ne130 : b16 ≠ b38 := by rw [ha125]; exact Nat.ne_of_lt F115.lt
  have ne131 : b27 ≠ b38 := by rw [ha125]; exact Nat.ne_of_lt F119.lt
  have F132 : Exa Z h125 a1 nm2 := F104.ext E125
  have F133 : Fld Z h125 a1 nm2 "impossible" "I" (.int (0 : Int32)) := F105.ext E125
  have F134 : Fld Z h125 a1 nm2 "h" "I" (.int (0 : Int32)) := F106.ext E125
  have F135 : Fld Z h125 a1 nm2 "lowOut" "I" (.int (0 : Int32)) := F107.ext E125
  have F136 : Fld Z h125 a1 nm2 "lowIn" nm3 (.ref b5) := F108.ext E125
  have F137 : Fld Z h125 a1 nm2 "high" nm3 (.ref b16) := F109.ext E125
  have F138 : Fld Z h125 a1 nm2 "nextLowIn" nm3 (.ref b27) := F103.ext E125
  have F139 : Fld Z h125 a1 nm2 "nextHigh" nm3 .null := F110.ext E125
  have F140 : Exa Z h125 b5 nm1 := F111.ext E125
  have F141 : Fld Z h125 b5 nm1 "runs" "I" (.int (0 : Int32)) := F112.ext E125
  have F142 : Fld Z h125 b5 nm1 "length" "I" (.int (0 : Int32)) := F113.ext E125
  have F143 : Fld Z h125 b5 nm1 "lows" "I" (.int (0 : Int32)) := F114.ext E125
  have F144 : Exa Z h125 b16 nm1 := F115.ext E125
  have F145 : Fld Z h125 b16 nm1 "runs" "I" (.int (0 : Int32)) := F116.ext E125
  have F146 : Fld Z h125 b16 nm1 "length" "I" (.int (0 : Int32)) := F117.ext E125
  have F147 : Fld Z h125 b16 nm1 "lows" "I" (.int (0 : Int32)) := F118.ext E125
  have F148 : Exa Z h125 b27 nm1 := F119.ext E125
  have F149 : Fld Z h125 b27 nm1 "runs" "I" (.int (0 : Int32)) := F120.ext E125
  have F150 : Fld Z h125 b27 nm1 "length" "I" (.int (0 : Int32)) := F121.ext E125
  have F151 : Fld Z h125 b27 nm1 "lows" "I" (.int (0 : Int32)) := F122.ext E125
  have K152 : Keep h0 h125 [a1] := K123.ext E125
  have Z153 : n0 ≤ h125.size := Nat.le_trans Z124 E125.1
  have F154 : Fld Z h125 b38 nm1 "runs" "I" (.int (0 : Int32)) := D125 (Or.inl (hw _ (List.mem_of_getElem? (i := 73) rfl))) (ty := .int) (by decide)
  have F155 : Fld Z h125 b38 nm1 "length" "I" (.int (0 : Int32)) := D125 (Or.inl (hw _ (List.mem_of_getElem? (i := 75) rfl))) (ty := .int) (by decide)
  have F156 : Fld Z h125 b38 nm1 "lows" "I" (.int (0 : Int32)) := D125 (Or.inl (hw _ (List.mem_of_getElem? (i := 77) rfl))) (ty := .int) (by decide)
  refine Rt.dup (pc' := 42) X125 hx (hb hby d5_41) rfl rfl ?_
  refine Rt.callIN (pc' := 45) X125 hx hZ (y := mt3) rfl hown (hw _ (List.mem_of_getElem? (i := 49) rfl)) (hw _ (List.mem_of_getElem? (i := 50) rfl)) (hw _ (List.mem_of_getElem? (i := 48) rfl)) (hw _ (List.mem_of_getElem? (i := 51) rfl)) (by decide) (rm6 l Z a0 hw [] b38 h125 n0) (fun _ _ _ q => q.2.1) (W := 2) (by decide) (by decide) (by decide) (by decide) (argsL := []) (rest := [(.ref b38), (.ref a1)]) (by rw [hml]; rfl) (lenOf pd_5 rfl) rfl rfl (Nat.le_of_eq rfl) (hb hby d5_42) rfl ?_
  rintro _ T157 h157 L157 X157 ⟨rfl, N157, e157⟩
  rw [e157] at X157
  show Rt _ _ _ _ _ _ _ (T157.setTop (mkF m 45 #[.val (.ref a1), .val (.int p2), .val (.int p3)] [(.ref b38), (.ref a1)]))
  refine Rt.putF (pc' := 48) (v := (.ref b38)) X157 hx hZ hown (host := "") (Or.inl (hw _ (List.mem_of_getElem? (i := 59) rfl))) F139 F132 (Or.inl (hw _ (List.mem_of_getElem? (i := 60) rfl))) (hw _ (List.mem_of_getElem? (i := 40) rfl)) (ty := (.object "com/example/tightfold/tightfold/FocusFiltering$Run")) (by decide) rfl rfl g_a1 (hb hby d5_45) rfl ?_
  intro T158 h158 X158 W158 F158
  have F159 : Exa Z h158 a1 nm2 := F132.wr W158
  have F160 : Fld Z h158 a1 nm2 "impossible" "I" (.int (0 : Int32)) := F133.other W158 (Or.inr (slot_ne (Or.inr (hw _ (List.mem_of_getElem? (i := 62) rfl))) (Or.inl (hw _ (List.mem_of_getElem? (i := 60) rfl))) (by decide) (t := .int) (t' := (.object "com/example/tightfold/tightfold/FocusFiltering$Run")) (by decide) (by decide)))
  have F161 : Fld Z h158 a1 nm2 "h" "I" (.int (0 : Int32)) := F134.other W158 (Or.inr (slot_ne (Or.inr (hw _ (List.mem_of_getElem? (i := 64) rfl))) (Or.inl (hw _ (List.mem_of_getElem? (i := 60) rfl))) (by decide) (t := .int) (t' := (.object "com/example/tightfold/tightfold/FocusFiltering$Run")) (by decide) (by decide)))
  have F162 : Fld Z h158 a1 nm2 "lowOut" "I" (.int (0 : Int32)) := F135.other W158 (Or.inr (slot_ne (Or.inl (hw _ (List.mem_of_getElem? (i := 66) rfl))) (Or.inl (hw _ (List.mem_of_getElem? (i := 60) rfl))) (by decide) (t := .int) (t' := (.object "com/example/tightfold/tightfold/FocusFiltering$Run")) (by decide) (by decide)))
  have F163 : Fld Z h158 a1 nm2 "lowIn" nm3 (.ref b5) := F136.other W158 (Or.inr (slot_ne (Or.inl (hw _ (List.mem_of_getElem? (i := 54) rfl))) (Or.inl (hw _ (List.mem_of_getElem? (i := 60) rfl))) (by decide) (t := (.object "com/example/tightfold/tightfold/FocusFiltering$Run")) (t' := (.object "com/example/tightfold/tightfold/FocusFiltering$Run")) (by decide) (by decide)))
  have F164 : Fld Z h158 a1 nm2 "high" nm3 (.ref b16) := F137.other W158 (Or.inr (slot_ne (Or.inl (hw _ (List.mem_of_getElem? (i := 56) rfl))) (Or.inl (hw _ (List.mem_of_getElem? (i := 60) rfl))) (by decide) (t := (.object "com/example/tightfold/tightfold/FocusFiltering$Run")) (t' := (.object "com/example/tightfold/tightfold/FocusFiltering$Run")) (by decide) (by decide)))
  have F165 : Fld Z h158 a1 nm2 "nextLowIn" nm3 (.ref b27) := F138.other W158 (Or.inr (slot_ne (Or.inl (hw _ (List.mem_of_getElem? (i := 58) rfl))) (Or.inl (hw _ (List.mem_of_getElem? (i := 60) rfl))) (by decide) (t := (.object "com/example/tightfold/tightfold/FocusFiltering$Run")) (t' := (.object "com/example/tightfold/tightfold/FocusFiltering$Run")) (by decide) (by decide)))
  have F166 : Exa Z h158 b5 nm1 := F140.wr W158
  have F167 : Fld Z h158 b5 nm1 "runs" "I" (.int (0 : Int32)) := F141.other W158 (Or.inl (Ne.symm ne5))
  have F168 : Fld Z h158 b5 nm1 "length" "I" (.int (0 : Int32)) := F142.other W158 (Or.inl (Ne.symm ne5))
  have F169 : Fld Z h158 b5 nm1 "lows" "I" (.int (0 : Int32)) := F143.other W158 (Or.inl (Ne.symm ne5))
  have F170 : Exa Z h158 b16 nm1 := F144.wr W158
  have F171 : Fld Z h158 b16 nm1 "runs" "I" (.int (0 : Int32)) := F145.other W158 (Or.inl (Ne.symm ne37))
  have F172 : Fld Z h158 b16 nm1 "length" "I" (.int (0 : Int32)) := F146.other W158 (Or.inl (Ne.symm ne37))
  have F173 : Fld Z h158 b16 nm1 "lows" "I" (.int (0 : Int32)) := F147.other W158 (Or.inl (Ne.symm ne37))
  have F174 : Exa Z h158 b27 nm1 := F148.wr W158
  have F175 : Fld Z h158 b27 nm1 "runs" "I" (.int (0 : Int32)) := F149.other W158 (Or.inl (Ne.symm ne78))
  have F176 : Fld Z h158 b27 nm1 "length" "I" (.int (0 : Int32)) := F150.other W158 (Or.inl (Ne.symm ne78))
  have F177 : Fld Z h158 b27 nm1 "lows" "I" (.int (0 : Int32)) := F151.other W158 (Or.inl (Ne.symm ne78))
  have F178 : Exa Z h158 b38 nm1 := A125.wr W158
  have F179 : Fld Z h158 b38 nm1 "runs" "I" (.int (0 : Int32)) := F154.other W158 (Or.inl (Ne.symm ne128))
  have F180 : Fld Z h158 b38 nm1 "length" "I" (.int (0 : Int32)) := F155.other W158 (Or.inl (Ne.symm ne128))
  have F181 : Fld Z h158 b38 nm1 "lows" "I" (.int (0 : Int32)) := F156.other W158 (Or.inl (Ne.symm ne128))
  have K182 : Keep h0 h158 [a1] := K152.wr W158 (Or.inl (List.mem_of_getElem? (i := 0) rfl))
  have Z183 : n0 ≤ h158.size := Nat.le_trans Z153 (Keep.of_wr W158).1
  refine Rt.aloadN (pc' := 49) X158 hx (hb hby d5_48) rfl rfl rfl ?_
  refine Rt.iloadN (pc' := 50) X158 hx (hb hby d5_49) rfl rfl ?_
  refine Rt.putF (pc' := 53) (v := (.int p2)) X158 hx hZ hown (host := "") (Or.inl (hw _ (List.mem_of_getElem? (i := 61) rfl))) F160 F159 (Or.inr ⟨(hw _ (List.mem_of_getElem? (i := 62) rfl)), rfl, hnm⟩) (hw _ (List.mem_of_getElem? (i := 40) rfl)) (ty := .int) (by decide) rfl rfl g_a1 (hb hby d5_50) rfl ?_
  intro T184 h184 X184 W184 F184
  have F185 : Exa Z h184 a1 nm2 := F159.wr W184
  have F186 : Fld Z h184 a1 nm2 "h" "I" (.int (0 : Int32)) := F161.other W184 (Or.inr (slot_ne (Or.inr (hw _ (List.mem_of_getElem? (i := 64) rfl))) (Or.inr (hw _ (List.mem_of_getElem? (i := 62) rfl))) (by decide) (t := .int) (t' := .int) (by decide) (by decide)))
  have F187 : Fld Z h184 a1 nm2 "lowOut" "I" (.int (0 : Int32)) := F162.other W184 (Or.inr (slot_ne (Or.inl (hw _ (List.mem_of_getElem? (i := 66) rfl))) (Or.inr (hw _ (List.mem_of_getElem? (i := 62) rfl))) (by decide) (t := .int) (t' := .int) (by decide) (by decide)))
  have F188 : Fld Z h184 a1 nm2 "lowIn" nm3 (.ref b5) := F163.other W184 (Or.inr (slot_ne (Or.inl (hw _ (List.mem_of_getElem? (i := 54) rfl))) (Or.inr (hw _ (List.mem_of_getElem? (i := 62) rfl))) (by decide) (t := (.object "com/example/tightfold/tightfold/FocusFiltering$Run")) (t' := .int) (by decide) (by decide)))
  have F189 : Fld Z h184 a1 nm2 "high" nm3 (.ref b16) := F164.other W184 (Or.inr (slot_ne (Or.inl (hw _ (List.mem_of_getElem? (i := 56) rfl))) (Or.inr (hw _ (List.mem_of_getElem? (i := 62) rfl))) (by decide) (t := (.object "com/example/tightfold/tightfold/FocusFiltering$Run")) (t' := .int) (by decide) (by decide)))
  have F190 : Fld Z h184 a1 nm2 "nextLowIn" nm3 (.ref b27) := F165.other W184 (Or.inr (slot_ne (Or.inl (hw _ (List.mem_of_getElem? (i := 58) rfl))) (Or.inr (hw _ (List.mem_of_getElem? (i := 62) rfl))) (by decide) (t := (.object "com/example/tightfold/tightfold/FocusFiltering$Run")) (t' := .int) (by decide) (by decide)))
  have F191 : Fld Z h184 a1 nm2 "nextHigh" nm3 (.ref b38) := F158.other W184 (Or.inr (slot_ne (Or.inl (hw _ (List.mem_of_getElem? (i := 60) rfl))) (Or.inr (hw _ (List.mem_of_getElem? (i := 62) rfl))) (by decide) (t := (.object "com/example/tightfold/tightfold/FocusFiltering$Run")) (t' := .int) (by decide) (by decide)))
  have F192 : Exa Z h184 b5 nm1 := F166.wr W184
  have F193 : Fld Z h184 b5 nm1 "runs" "I" (.int (0 : Int32)) := F167.other W184 (Or.inl (Ne.symm ne5))
  have F194 : Fld Z h184 b5 nm1 "length" "I" (.int (0 : Int32)) := F168.other W184 (Or.inl (Ne.symm ne5))
  have F195 : Fld Z h184 b5 nm1 "lows" "I" (.int (0 : Int32)) := F169.other W184 (Or.inl (Ne.symm ne5))
  have F196 : Exa Z h184 b16 nm1 := F170.wr W184
  have F197 : Fld Z h184 b16 nm1 "runs" "I" (.int (0 : Int32)) := F171.other W184 (Or.inl (Ne.symm ne37))
  have F198 : Fld Z h184 b16 nm1 "length" "I" (.int (0 : Int32)) := F172.other W184 (Or.inl (Ne.symm ne37))
  have F199 : Fld Z h184 b16 nm1 "lows" "I" (.int (0 : Int32)) := F173.other W184 (Or.inl (Ne.symm ne37))
  have F200 : Exa Z h184 b27 nm1 := F174.wr W184
  have F201 : Fld Z h184 b27 nm1 "runs" "I" (.int (0 : Int32)) := F175.other W184 (Or.inl (Ne.symm ne78))
  have F202 : Fld Z h184 b27 nm1 "length" "I" (.int (0 : Int32)) := F176.other W184 (Or.inl (Ne.symm ne78))
  have F203 : Fld Z h184 b27 nm1 "lows" "I" (.int (0 : Int32)) := F177.other W184 (Or.inl (Ne.symm ne78))
  have F204 : Exa Z h184 b38 nm1 := F178.wr W184
  have F205 : Fld Z h184 b38 nm1 "runs" "I" (.int (0 : Int32)) := F179.other W184 (Or.inl (Ne.symm ne128))
  have F206 : Fld Z h184 b38 nm1 "length" "I" (.int (0 : Int32)) := F180.other W184 (Or.inl (Ne.symm ne128))
  have F207 : Fld Z h184 b38 nm1 "lows" "I" (.int (0 : Int32)) := F181.other W184 (Or.inl (Ne.symm ne128))
  have K208 : Keep h0 h184 [a1] := K182.wr W184 (Or.inl (List.mem_of_getElem? (i := 0) rfl))
  have Z209 : n0 ≤ h184.size := Nat.le_trans Z183 (Keep.of_wr W184).1
  refine Rt.aloadN (pc' := 54) X184 hx (hb hby d5_53) rfl rfl rfl ?_
  refine Rt.iloadN (pc' := 55) X184 hx (hb hby d5_54) rfl rfl ?_
  refine Rt.putF (pc' := 58) (v := (.int p3)) X184 hx hZ hown (host := "") (Or.inl (hw _ (List.mem_of_getElem? (i := 63) rfl))) F186 F185 (Or.inr ⟨(hw _ (List.mem_of_getElem? (i := 64) rfl)), rfl, hnm⟩) (hw _ (List.mem_of_getElem? (i := 40) rfl)) (ty := .int) (by decide) rfl rfl g_a1 (hb hby d5_55) rfl ?_
  intro T210 h210 X210 W210 F210
  have F211 : Exa Z h210 a1 nm2 := F185.wr W210
  have F212 : Fld Z h210 a1 nm2 "impossible" "I" (.int p2) := F184.other W210 (Or.inr (slot_ne (Or.inr (hw _ (List.mem_of_getElem? (i := 62) rfl))) (Or.inr (hw _ (List.mem_of_getElem? (i := 64) rfl))) (by decide) (t := .int) (t' := .int) (by decide) (by decide)))
  have F213 : Fld Z h210 a1 nm2 "lowOut" "I" (.int (0 : Int32)) := F187.other W210 (Or.inr (slot_ne (Or.inl (hw _ (List.mem_of_getElem? (i := 66) rfl))) (Or.inr (hw _ (List.mem_of_getElem? (i := 64) rfl))) (by decide) (t := .int) (t' := .int) (by decide) (by decide)))
  have F214 : Fld Z h210 a1 nm2 "lowIn" nm3 (.ref b5) := F188.other W210 (Or.inr (slot_ne (Or.inl (hw _ (List.mem_of_getElem? (i := 54) rfl))) (Or.inr (hw _ (List.mem_of_getElem? (i := 64) rfl))) (by decide) (t := (.object "com/example/tightfold/tightfold/FocusFiltering$Run")) (t' := .int) (by decide) (by decide)))
  have F215 : Fld Z h210 a1 nm2 "high" nm3 (.ref b16) := F189.other W210 (Or.inr (slot_ne (Or.inl (hw _ (List.mem_of_getElem? (i := 56) rfl))) (Or.inr (hw _ (List.mem_of_getElem? (i := 64) rfl))) (by decide) (t := (.object "com/example/tightfold/tightfold/FocusFiltering$Run")) (t' := .int) (by decide) (by decide)))
  have F216 : Fld Z h210 a1 nm2 "nextLowIn" nm3 (.ref b27) := F190.other W210 (Or.inr (slot_ne (Or.inl (hw _ (List.mem_of_getElem? (i := 58) rfl))) (Or.inr (hw _ (List.mem_of_getElem? (i := 64) rfl))) (by decide) (t := (.object "com/example/tightfold/tightfold/FocusFiltering$Run")) (t' := .int) (by decide) (by decide)))
  have F217 : Fld Z h210 a1 nm2 "nextHigh" nm3 (.ref b38) := F191.other W210 (Or.inr (slot_ne (Or.inl (hw _ (List.mem_of_getElem? (i := 60) rfl))) (Or.inr (hw _ (List.mem_of_getElem? (i := 64) rfl))) (by decide) (t := (.object "com/example/tightfold/tightfold/FocusFiltering$Run")) (t' := .int) (by decide) (by decide)))
  have F218 : Exa Z h210 b5 nm1 := F192.wr W210
  have F219 : Fld Z h210 b5 nm1 "runs" "I" (.int (0 : Int32)) := F193.other W210 (Or.inl (Ne.symm ne5))
  have F220 : Fld Z h210 b5 nm1 "length" "I" (.int (0 : Int32)) := F194.other W210 (Or.inl (Ne.symm ne5))
  have F221 : Fld Z h210 b5 nm1 "lows" "I" (.int (0 : Int32)) := F195.other W210 (Or.inl (Ne.symm ne5))
  have F222 : Exa Z h210 b16 nm1 := F196.wr W210
  have F223 : Fld Z h210 b16 nm1 "runs" "I" (.int (0 : Int32)) := F197.other W210 (Or.inl (Ne.symm ne37))
  have F224 : Fld Z h210 b16 nm1 "length" "I" (.int (0 : Int32)) := F198.other W210 (Or.inl (Ne.symm ne37))
  have F225 : Fld Z h210 b16 nm1 "lows" "I" (.int (0 : Int32)) := F199.other W210 (Or.inl (Ne.symm ne37))
  have F226 : Exa Z h210 b27 nm1 := F200.wr W210
  have F227 : Fld Z h210 b27 nm1 "runs" "I" (.int (0 : Int32)) := F201.other W210 (Or.inl (Ne.symm ne78))
  have F228 : Fld Z h210 b27 nm1 "length" "I" (.int (0 : Int32)) := F202.other W210 (Or.inl (Ne.symm ne78))
  have F229 : Fld Z h210 b27 nm1 "lows" "I" (.int (0 : Int32)) := F203.other W210 (Or.inl (Ne.symm ne78))
  have F230 : Exa Z h210 b38 nm1 := F204.wr W210
  have F231 : Fld Z h210 b38 nm1 "runs" "I" (.int (0 : Int32)) := F205.other W210 (Or.inl (Ne.symm ne128))
  have F232 : Fld Z h210 b38 nm1 "length" "I" (.int (0 : Int32)) := F206.other W210 (Or.inl (Ne.symm ne128))
  have F233 : Fld Z h210 b38 nm1 "lows" "I" (.int (0 : Int32)) := F207.other W210 (Or.inl (Ne.symm ne128))
  have K234 : Keep h0 h210 [a1] := K208.wr W210 (Or.inl (List.mem_of_getElem? (i := 0) rfl))
  have Z235 : n0 ≤ h210.size := Nat.le_trans Z209 (Keep.of_wr W210).1
  refine Rt.aloadN (pc' := 59) X210 hx (hb hby d5_58) rfl rfl rfl ?_
  refine Rt.iconst (pc' := 60) (v := (0 : Int32)) X210 hx (hb hby d5_59) rfl rfl ?_
  refine Rt.putF (pc' := 63) (v := (.int (0 : Int32))) X210 hx hZ hown (host := "") (Or.inl (hw _ (List.mem_of_getElem? (i := 65) rfl))) F213 F211 (Or.inl (hw _ (List.mem_of_getElem? (i := 66) rfl))) (hw _ (List.mem_of_getElem? (i := 40) rfl)) (ty := .int) (by decide) rfl rfl g_a1 (hb hby d5_60) rfl ?_
  intro T236 h236 X236 W236 F236
  have F237 : Exa Z h236 a1 nm2 := F211.wr W236
  have F238 : Fld Z h236 a1 nm2 "impossible" "I" (.int p2) := F212.other W236 (Or.inr (slot_ne (Or.inr (hw _ (List.mem_of_getElem? (i := 62) rfl))) (Or.inl (hw _ (List.mem_of_getElem? (i := 66) rfl))) (by decide) (t := .int) (t' := .int) (by decide) (by decide)))
  have F239 : Fld Z h236 a1 nm2 "h" "I" (.int p3) := F210.other W236 (Or.inr (slot_ne (Or.inr (hw _ (List.mem_of_getElem? (i := 64) rfl))) (Or.inl (hw _ (List.mem_of_getElem? (i := 66) rfl))) (by decide) (t := .int) (t' := .int) (by decide) (by decide)))
  have F240 : Fld Z h236 a1 nm2 "lowIn" nm3 (.ref b5) := F214.other W236 (Or.inr (slot_ne (Or.inl (hw _ (List.mem_of_getElem? (i := 54) rfl))) (Or.inl (hw _ (List.mem_of_getElem? (i := 66) rfl))) (by decide) (t := (.object "com/example/tightfold/tightfold/FocusFiltering$Run")) (t' := .int) (by decide) (by decide)))
  have F241 : Fld Z h236 a1 nm2 "high" nm3 (.ref b16) := F215.other W236 (Or.inr (slot_ne (Or.inl (hw _ (List.mem_of_getElem? (i := 56) rfl))) (Or.inl (hw _ (List.mem_of_getElem? (i := 66) rfl))) (by decide) (t := (.object "com/example/tightfold/tightfold/FocusFiltering$Run")) (t' := .int) (by decide) (by decide)))
  have F242 : Fld Z h236 a1 nm2 "nextLowIn" nm3 (.ref b27) := F216.other W236 (Or.inr (slot_ne (Or.inl (hw _ (List.mem_of_getElem? (i := 58) rfl))) (Or.inl (hw _ (List.mem_of_getElem? (i := 66) rfl))) (by decide) (t := (.object "com/example/tightfold/tightfold/FocusFiltering$Run")) (t' := .int) (by decide) (by decide)))
  have F243 : Fld Z h236 a1 nm2 "nextHigh" nm3 (.ref b38) := F217.other W236 (Or.inr (slot_ne (Or.inl (hw _ (List.mem_of_getElem? (i := 60) rfl))) (Or.inl (hw _ (List.mem_of_getElem? (i := 66) rfl))) (by decide) (t := (.object "com/example/tightfold/tightfold/FocusFiltering$Run")) (t' := .int) (by decide) (by decide)))
  have F244 : Exa Z h236 b5 nm1 := F218.wr W236
  have F245 : Fld Z h236 b5 nm1 "runs" "I" (.int (0 : Int32)) := F219.other W236 (Or.inl (Ne.symm ne5))
  have F246 : Fld Z h236 b5 nm1 "length" "I" (.int (0 : Int32)) := F220.other W236 (Or.inl (Ne.symm ne5))
  have F247 : Fld Z h236 b5 nm1 "lows" "I" (.int (0 : Int32)) := F221.other W236 (Or.inl (Ne.symm ne5))
  have F248 : Exa Z h236 b16 nm1 := F222.wr W236
  have F249 : Fld Z h236 b16 nm1 "runs" "I" (.int (0 : Int32)) := F223.other W236 (Or.inl (Ne.symm ne37))
  have F250 : Fld Z h236 b16 nm1 "length" "I" (.int (0 : Int32)) := F224.other W236 (Or.inl (Ne.symm ne37))
  have F251 : Fld Z h236 b16 nm1 "lows" "I" (.int (0 : Int32)) := F225.other W236 (Or.inl (Ne.symm ne37))
  have F252 : Exa Z h236 b27 nm1 := F226.wr W236
  have F253 : Fld Z h236 b27 nm1 "runs" "I" (.int (0 : Int32)) := F227.other W236 (Or.inl (Ne.symm ne78))
  have F254 : Fld Z h236 b27 nm1 "length" "I" (.int (0 : Int32)) := F228.other W236 (Or.inl (Ne.symm ne78))
  have F255 : Fld Z h236 b27 nm1 "lows" "I" (.int (0 : Int32)) := F229.other W236 (Or.inl (Ne.symm ne78))
  have F256 : Exa Z h236 b38 nm1 := F230.wr W236
  have F257 : Fld Z h236 b38 nm1 "runs" "I" (.int (0 : Int32)) := F231.other W236 (Or.inl (Ne.symm ne128))
  have F258 : Fld Z h236 b38 nm1 "length" "I" (.int (0 : Int32)) := F232.other W236 (Or.inl (Ne.symm ne128))
  have F259 : Fld Z h236 b38 nm1 "lows" "I" (.int (0 : Int32)) := F233.other W236 (Or.inl (Ne.symm ne128))
  have K260 : Keep h0 h236 [a1] := K234.wr W236 (Or.inl (List.mem_of_getElem? (i := 0) rfl))
  have Z261 : n0 ≤ h236.size := Nat.le_trans Z235 (Keep.of_wr W236).1
  refine Rt.aloadN (pc' := 64) X236 hx (hb hby d5_63) rfl rfl rfl ?_
  refine Rt.getF (pc' := 67) (v := (.ref b5)) X236 hx hZ hown (host := "") (Or.inl (hw _ (List.mem_of_getElem? (i := 53) rfl))) F240 (hb hby d5_64) rfl ?_
  intro T262 X262
  refine Rt.iloadN (pc' := 68) X262 hx (hb hby d5_67) rfl rfl ?_
  refine Rt.callV (pc' := 71) X262 hx hZ (y := mt4) (yz := mt4) hown (hw _ (List.mem_of_getElem? (i := 67) rfl)) (hw _ (List.mem_of_getElem? (i := 68) rfl)) (notFace_of_selects (args := #[]) (mvT hZ (hw _ (List.mem_of_getElem? (i := 70) rfl)))) (hw _ (List.mem_of_getElem? (i := 70) rfl)) (hw _ (List.mem_of_getElem? (i := 69) rfl)) (hw _ (List.mem_of_getElem? (i := 48) rfl)) (hw _ (List.mem_of_getElem? (i := 71) rfl)) (by decide) F244 (rm7 l Z a0 hw [] b5 p2 (0 : Int32) (0 : Int32) (0 : Int32) h236 n0 Z261 F244 F245 F246 F247 g3) (fun _ _ _ q => q.2.1) (W := 0) (by decide) (by decide) (by decide) (by decide) (argsL := [(.int p2)]) (rest := []) (by rw [hml]; rfl) (lenOf pd_3 rfl) rfl rfl (Nat.le_of_eq rfl) (hb hby d5_68) rfl ?_
  rintro _ T263 h263 L263 X263 ⟨rfl, N263, K263, F264, F265, F266, F267⟩
  have F268 : Exa Z h263 a1 nm2 := F237.keep K263
  have F269 : Fld Z h263 a1 nm2 "impossible" "I" (.int p2) := F238.keep K263 (ninS ne5 nin0)
  have F270 : Fld Z h263 a1 nm2 "h" "I" (.int p3) := F239.keep K263 (ninS ne5 nin0)
  have F271 : Fld Z h263 a1 nm2 "lowOut" "I" (.int (0 : Int32)) := F236.keep K263 (ninS ne5 nin0)
  have F272 : Fld Z h263 a1 nm2 "lowIn" nm3 (.ref b5) := F240.keep K263 (ninS ne5 nin0)
  have F273 : Fld Z h263 a1 nm2 "high" nm3 (.ref b16) := F241.keep K263 (ninS ne5 nin0)
  have F274 : Fld Z h263 a1 nm2 "nextLowIn" nm3 (.ref b27) := F242.keep K263 (ninS ne5 nin0)
  have F275 : Fld Z h263 a1 nm2 "nextHigh" nm3 (.ref b38) := F243.keep K263 (ninS ne5 nin0)
  have F276 : Exa Z h263 b5 nm1 := F244.keep K263
  have F277 : Exa Z h263 b16 nm1 := F248.keep K263
  have F278 : Fld Z h263 b16 nm1 "runs" "I" (.int (0 : Int32)) := F249.keep K263 (ninS (Ne.symm ne38) nin0)
  have F279 : Fld Z h263 b16 nm1 "length" "I" (.int (0 : Int32)) := F250.keep K263 (ninS (Ne.symm ne38) nin0)
  have F280 : Fld Z h263 b16 nm1 "lows" "I" (.int (0 : Int32)) := F251.keep K263 (ninS (Ne.symm ne38) nin0)
  have F281 : Exa Z h263 b27 nm1 := F252.keep K263
  have F282 : Fld Z h263 b27 nm1 "runs" "I" (.int (0 : Int32)) := F253.keep K263 (ninS (Ne.symm ne79) nin0)
  have F283 : Fld Z h263 b27 nm1 "length" "I" (.int (0 : Int32)) := F254.keep K263 (ninS (Ne.symm ne79) nin0)
  have F284 : Fld Z h263 b27 nm1 "lows" "I" (.int (0 : Int32)) := F255.keep K263 (ninS (Ne.symm ne79) nin0)
  have F285 : Exa Z h263 b38 nm1 := F256.keep K263
  have F286 : Fld Z h263 b38 nm1 "runs" "I" (.int (0 : Int32)) := F257.keep K263 (ninS (Ne.symm ne129) nin0)
  have F287 : Fld Z h263 b38 nm1 "length" "I" (.int (0 : Int32)) := F258.keep K263 (ninS (Ne.symm ne129) nin0)
  have F288 : Fld Z h263 b38 nm1 "lows" "I" (.int (0 : Int32)) := F259.keep K263 (ninS (Ne.symm ne129) nin0)
  have K289 : Keep h0 h263 [a1] := K260.trans K263 (allS (Or.inr s4) all0)
  have Z290 : n0 ≤ h263.size := Nat.le_trans Z261 K263.1
  show Rt _ _ _ _ _ _ _ (T263.setTop (mkF m 71 #[.val (.ref a1), .val (.int p2), .val (.int p3)] []))
  refine Rt.aloadN (pc' := 72) X263 hx (hb hby d5_71) rfl rfl rfl ?_
  refine Rt.getF (pc' := 75) (v := (.ref b16)) X263 hx hZ hown (host := "") (Or.inl (hw _ (List.mem_of_getElem? (i := 55) rfl))) F273 (hb hby d5_72) rfl ?_
  intro T291 X291
  refine Rt.iloadN (pc' := 76) X291 hx (hb hby d5_75) rfl rfl ?_
  refine Rt.callV (pc' := 79) X291 hx hZ (y := mt4) (yz := mt4) hown (hw _ (List.mem_of_getElem? (i := 67) rfl)) (hw _ (List.mem_of_getElem? (i := 68) rfl)) (notFace_of_selects (args := #[]) (mvT hZ (hw _ (List.mem_of_getElem? (i := 70) rfl)))) (hw _ (List.mem_of_getElem? (i := 70) rfl)) (hw _ (List.mem_of_getElem? (i := 69) rfl)) (hw _ (List.mem_of_getElem? (i := 48) rfl)) (hw _ (List.mem_of_getElem? (i := 71) rfl)) (by decide) F277 (rm7 l Z a0 hw [] b16 p2 (0 : Int32) (0 : Int32) (0 : Int32) h263 n0 Z290 F277 F278 F279 F280 g35) (fun _ _ _ q => q.2.1) (W := 0) (by decide) (by decide) (by decide) (by decide) (argsL := [(.int p2)]) (rest := []) (by rw [hml]; rfl) (lenOf pd_3 rfl) rfl rfl (Nat.le_of_eq rfl) (hb hby d5_76) rfl ?_
  rintro _ T292 h292 L292 X292 ⟨rfl, N292, K292, F293, F294, F295, F296⟩
  have F297 : Exa Z h292 a1 nm2 := F268.keep K292
  have F298 : Fld Z h292 a1 nm2 "impossible" "I" (.int p2) := F269.keep K292 (ninS ne37 nin0)
  have F299 : Fld Z h292 a1 nm2 "h" "I" (.int p3) := F270.keep K292 (ninS ne37 nin0)
  have F300 : Fld Z h292 a1 nm2 "lowOut" "I" (.int (0 : Int32)) := F271.keep K292 (ninS ne37 nin0)
  have F301 : Fld Z h292 a1 nm2 "lowIn" nm3 (.ref b5) := F272.keep K292 (ninS ne37 nin0)
  have F302 : Fld Z h292 a1 nm2 "high" nm3 (.ref b16) := F273.keep K292 (ninS ne37 nin0)
  have F303 : Fld Z h292 a1 nm2 "nextLowIn" nm3 (.ref b27) := F274.keep K292 (ninS ne37 nin0)
  have F304 : Fld Z h292 a1 nm2 "nextHigh" nm3 (.ref b38) := F275.keep K292 (ninS ne37 nin0)
  have F305 : Exa Z h292 b5 nm1 := F264.keep K292
  have F306 : Exa Z h292 b16 nm1 := F277.keep K292
  have F307 : Exa Z h292 b27 nm1 := F281.keep K292
  have F308 : Fld Z h292 b27 nm1 "runs" "I" (.int (0 : Int32)) := F282.keep K292 (ninS (Ne.symm ne80) nin0)
  have F309 : Fld Z h292 b27 nm1 "length" "I" (.int (0 : Int32)) := F283.keep K292 (ninS (Ne.symm ne80) nin0)
  have F310 : Fld Z h292 b27 nm1 "lows" "I" (.int (0 : Int32)) := F284.keep K292 (ninS (Ne.symm ne80) nin0)
  have F311 : Exa Z h292 b38 nm1 := F285.keep K292
  have F312 : Fld Z h292 b38 nm1 "runs" "I" (.int (0 : Int32)) := F286.keep K292 (ninS (Ne.symm ne130) nin0)
  have F313 : Fld Z h292 b38 nm1 "length" "I" (.int (0 : Int32)) := F287.keep K292 (ninS (Ne.symm ne130) nin0)
  have F314 : Fld Z h292 b38 nm1 "lows" "I" (.int (0 : Int32)) := F288.keep K292 (ninS (Ne.symm ne130) nin0)
  have F315 : Fld Z h292 b5 nm1 "runs" "I" (.int p2) := F265.keep K292 (ninS ne38 nin0)
  have F316 : Fld Z h292 b5 nm1 "length" "I" (.int (0 : Int32)) := F266.keep K292 (ninS ne38 nin0)
  have F317 : Fld Z h292 b5 nm1 "lows" "I" (.int (0 : Int32)) := F267.keep K292 (ninS ne38 nin0)
  have K318 : Keep h0 h292 [a1] := K289.trans K292 (allS (Or.inr s36) all0)
  have Z319 : n0 ≤ h292.size := Nat.le_trans Z290 K292.1
  show Rt _ _ _ _ _ _ _ (T292.setTop (mkF m 79 #[.val (.ref a1), .val (.int p2), .val (.int p3)] []))
  exact Rt.retV X292 hx hlk hret (hb hby d5_79) (by decide) (by decide) (fun L N => ⟨b5, b16, b27, b38, s4, s36, s77, s127, ne38, ne79, ne129, ne80, ne130, ne131, rfl, N, K318, F297, F298, F299, F300, F301, F302, F303, F304, F305, F293, F307, F308, F309, F310, F311, F312, F313, F314, F315, F316, F317, F294, F295, F296⟩)
theorem d2_0 : decode prog_3_method_1_code 0 = .ok (.aload_n 0, 1) := by decide +kernel
theorem d2_1 : decode prog_3_method_1_code 1 = .ok (.invokespecial 1, 3) := by decide +kernel
theorem d2_4 : decode prog_3_method_1_code 4 = .ok (.aload_n 0, 1) := by decide +kernel
theorem d2_5 : decode prog_3_method_1_code 5 = .ok (.iload_n 1, 1) := by decide +kernel
theorem d2_6 : decode prog_3_method_1_code 6 = .ok (.iconst 1, 1) := by decide +kernel
theorem d2_7 : decode prog_3_method_1_code 7 = .ok (.iadd, 1) := by decide +kernel
theorem d2_8 : decode prog_3_method_1_code 8 = .ok (.putfield 7, 3) := by decide +kernel
theorem d2_11 : decode prog_3_method_1_code 11 = .ok (.aload_n 0, 1) := by decide +kernel
theorem d2_12 : decode prog_3_method_1_code 12 = .ok (.iload_n 2, 1) := by decide +kernel
theorem d2_13 : decode prog_3_method_1_code 13 = .ok (.putfield 13, 3) := by decide +kernel
theorem d2_16 : decode prog_3_method_1_code 16 = .ok (.aload_n 0, 1) := by decide +kernel
theorem d2_17 : decode prog_3_method_1_code 17 = .ok (.iload_n 1, 1) := by decide +kernel
theorem d2_18 : decode prog_3_method_1_code 18 = .ok (.newarray .int, 2) := by decide +kernel
theorem d2_20 : decode prog_3_method_1_code 20 = .ok (.putfield 16, 3) := by decide +kernel
theorem d2_23 : decode prog_3_method_1_code 23 = .ok (.aload_n 0, 1) := by decide +kernel
theorem d2_24 : decode prog_3_method_1_code 24 = .ok (.iload_n 1, 1) := by decide +kernel
theorem d2_25 : decode prog_3_method_1_code 25 = .ok (.newarray .int, 2) := by decide +kernel
theorem d2_27 : decode prog_3_method_1_code 27 = .ok (.putfield 20, 3) := by decide +kernel
theorem d2_30 : decode prog_3_method_1_code 30 = .ok (.aload_n 0, 1) := by decide +kernel
theorem d2_31 : decode prog_3_method_1_code 31 = .ok (.iload_n 1, 1) := by decide +kernel
theorem d2_32 : decode prog_3_method_1_code 32 = .ok (.newarray .int, 2) := by decide +kernel
theorem d2_34 : decode prog_3_method_1_code 34 = .ok (.putfield 23, 3) := by decide +kernel
theorem d2_37 : decode prog_3_method_1_code 37 = .ok (.aload_n 0, 1) := by decide +kernel
theorem d2_38 : decode prog_3_method_1_code 38 = .ok (.iload_n 1, 1) := by decide +kernel
theorem d2_39 : decode prog_3_method_1_code 39 = .ok (.newarray .int, 2) := by decide +kernel
theorem d2_41 : decode prog_3_method_1_code 41 = .ok (.putfield 26, 3) := by decide +kernel
theorem d2_44 : decode prog_3_method_1_code 44 = .ok (.aload_n 0, 1) := by decide +kernel
theorem d2_45 : decode prog_3_method_1_code 45 = .ok (.iload_n 1, 1) := by decide +kernel
theorem d2_46 : decode prog_3_method_1_code 46 = .ok (.newarray .int, 2) := by decide +kernel
theorem d2_48 : decode prog_3_method_1_code 48 = .ok (.putfield 29, 3) := by decide +kernel
theorem d2_51 : decode prog_3_method_1_code 51 = .ok (.aload_n 0, 1) := by decide +kernel
theorem d2_52 : decode prog_3_method_1_code 52 = .ok (.iload_n 1, 1) := by decide +kernel
theorem d2_53 : decode prog_3_method_1_code 53 = .ok (.newarray .int, 2) := by decide +kernel
theorem d2_55 : decode prog_3_method_1_code 55 = .ok (.putfield 32, 3) := by decide +kernel
theorem d2_58 : decode prog_3_method_1_code 58 = .ok (.aload_n 0, 1) := by decide +kernel
theorem d2_59 : decode prog_3_method_1_code 59 = .ok (.iload_n 1, 1) := by decide +kernel
theorem d2_60 : decode prog_3_method_1_code 60 = .ok (.newarray .int, 2) := by decide +kernel
theorem d2_62 : decode prog_3_method_1_code 62 = .ok (.putfield 35, 3) := by decide +kernel
theorem d2_65 : decode prog_3_method_1_code 65 = .ok (.return_, 1) := by decide +kernel
def Q2 (Z : State) (a1 : Addr) (p3 : Int32) (h0 : Heap) (n0 : Nat) (v : Option Value) (h : Heap) (L : List Loc) : Prop := ∃ na1 : Addr, ∃ na2 : Addr, ∃ na3 : Addr, ∃ na4 : Addr, ∃ na5 : Addr, ∃ na6 : Addr, ∃ na7 : Addr, h0.size ≤ na1 ∧ h0.size ≤ na2 ∧ h0.size ≤ na3 ∧ h0.size ≤ na4 ∧ h0.size ≤ na5 ∧ h0.size ≤ na6 ∧ h0.size ≤ na7 ∧ na1 ≠ na2 ∧ na1 ≠ na3 ∧ na1 ≠ na4 ∧ na1 ≠ na5 ∧ na1 ≠ na6 ∧ na1 ≠ na7 ∧ na2 ≠ na3 ∧ na2 ≠ na4 ∧ na2 ≠ na5 ∧ na2 ≠ na6 ∧ na2 ≠ na7 ∧ na3 ≠ na4 ∧ na3 ≠ na5 ∧ na3 ≠ na6 ∧ na3 ≠ na7 ∧ na4 ≠ na5 ∧ na4 ≠ na6 ∧ na4 ≠ na7 ∧ na5 ≠ na6 ∧ na5 ≠ na7 ∧ na6 ≠ na7 ∧ v = none ∧ Fr n0 L ∧ Keep h0 h [a1] ∧ Exa Z h a1 nm4 ∧ Fld Z h a1 nm4 "impossible" "I" (.int (5 : Int32)) ∧ Fld Z h a1 nm4 "h" "I" (.int p3) ∧ Fld Z h a1 nm4 "lowOut" "[I" (.ref na1) ∧ Fld Z h a1 nm4 "lowIn" "[I" (.ref na2) ∧ Fld Z h a1 nm4 "lowInLength" "[I" (.ref na3) ∧ Fld Z h a1 nm4 "lowInLows" "[I" (.ref na4) ∧ Fld Z h a1 nm4 "high" "[I" (.ref na5) ∧ Fld Z h a1 nm4 "highLength" "[I" (.ref na6) ∧ Fld Z h a1 nm4 "highLows" "[I" (.ref na7) ∧ IL Z h na1 .int 4 ∧ IL Z h na2 .int 4 ∧ IL Z h na3 .int 4 ∧ IL Z h na4 .int 4 ∧ IL Z h na5 .int 4 ∧ IL Z h na6 .int 4 ∧ IL Z h na7 .int 4
def rmR2 : Room := { frames := 1, cells := 7, slots := 28, locals := 12 }
theorem ef_2 (m : MethodId) (a1 : Addr) (p3 : Int32) : entryFrame m #[(.ref a1), (.int (4 : Int32)), (.int p3)] 3 = mkF m 0 #[.val (.ref a1), .val (.int (4 : Int32)), .val (.int p3)] [] := by first | (simp [entryFrame, mkF, argsToLocals, Value.category]; done) | rfl
theorem pn_com_example_tightfold_tightfold_FocusFiltering : plainName "com/example/tightfold/tightfold/FocusFiltering" = true := by first | (simp [plainName, overriddenIn]; done) | decide +kernel
set_option maxRecDepth 65536 in
set_option maxHeartbeats 40000000 in
theorem rm2 (l : Launch) (Z : State) (a0 : Array Value) (hw : ∀ d ∈ tables_1, d.before a0 Z = true) (ws : List Jvm.Cond) (a1 : Addr) (p3 : Int32) (h0 : Heap) (n0 : Nat) (Z0 : n0 ≤ h0.size) (F_E_a1 : Exa Z h0 a1 nm4) (F_F_a1_impossible : Fld Z h0 a1 nm4 "impossible" "I" (.int (0 : Int32))) (F_F_a1_h : Fld Z h0 a1 nm4 "h" "I" (.int (0 : Int32))) (F_F_a1_lowOut : Fld Z h0 a1 nm4 "lowOut" "[I" .null) (F_F_a1_lowIn : Fld Z h0 a1 nm4 "lowIn" "[I" .null) (F_F_a1_lowInLength : Fld Z h0 a1 nm4 "lowInLength" "[I" .null) (F_F_a1_lowInLows : Fld Z h0 a1 nm4 "lowInLows" "[I" .null) (F_F_a1_high : Fld Z h0 a1 nm4 "high" "[I" .null) (F_F_a1_highLength : Fld Z h0 a1 nm4 "highLength" "[I" .null) (F_F_a1_highLows : Fld Z h0 a1 nm4 "highLows" "[I" .null) (g_a1 : n0 ≤ a1) :
    Mt l Z mt10 (Jvm.Cond.code mt10 prog_3_method_1_code 3 none :: ws) rmR2 #[(.ref a1), (.int (4 : Int32)), (.int p3)] h0 (Q2 Z a1 p3 h0 n0) := by
  refine Mt.of n0 (plainFor_of_name pn_com_example_tightfold_tightfold_FocusFiltering) ?_
  intro p e s m below meth c T0 X0 hx hZ hby hml hown hret hlk hnm hs0
  have hown : s.vm.findClass "com/example/tightfold/tightfold/FocusFiltering" = some m.cls := hown
  rw [ef_2]
  show Rt p e below s rmR2.cells rmR2.slots (Q2 Z a1 p3 h0 n0) (T0.setTop (mkF m 0 #[.val (.ref a1), .val (.int (4 : Int32)), .val (.int p3)] []))
  refine Rt.aloadN (pc' := 1) X0 hx (hb hby d2_0) rfl rfl rfl ?_
  refine Rt.initO (pc' := 4) X0 hx hZ hown (hw _ (List.mem_of_getElem? (i := 12) rfl)) (hw _ (List.mem_of_getElem? (i := 13) rfl)) (hw _ (List.mem_of_getElem? (i := 14) rfl)) (by rw [hml]; rfl) (hb hby d2_1) (by decide) (W := 0) (Nat.le_of_eq rfl) (by decide) rfl ?_
  intro T1 X1
  refine Rt.aloadN (pc' := 5) X1 hx (hb hby d2_4) rfl rfl rfl ?_
  refine Rt.iloadN (pc' := 6) X1 hx (hb hby d2_5) rfl rfl ?_
  refine Rt.iconst (pc' := 7) (v := (1 : Int32)) X1 hx (hb hby d2_6) rfl rfl ?_
  refine Rt.iadd (pc' := 8) (r := (5 : Int32)) X1 hx (hb hby d2_7) (by decide) rfl ?_
  refine Rt.putF (pc' := 11) (v := (.int (5 : Int32))) X1 hx hZ hown (host := "") (Or.inl (hw _ (List.mem_of_getElem? (i := 15) rfl))) F_F_a1_impossible F_E_a1 (Or.inr ⟨(hw _ (List.mem_of_getElem? (i := 16) rfl)), rfl, hnm⟩) (hw _ (List.mem_of_getElem? (i := 7) rfl)) (ty := .int) (by decide) rfl rfl g_a1 (hb hby d2_8) rfl ?_
  intro T2 h2 X2 W2 F2
  have F3 : Exa Z h2 a1 nm4 := F_E_a1.wr W2
  have F4 : Fld Z h2 a1 nm4 "h" "I" (.int (0 : Int32)) := F_F_a1_h.other W2 (Or.inr (slot_ne (Or.inr (hw _ (List.mem_of_getElem? (i := 18) rfl))) (Or.inr (hw _ (List.mem_of_getElem? (i := 16) rfl))) (by decide) (t := .int) (t' := .int) (by decide) (by decide)))
  have F5 : Fld Z h2 a1 nm4 "lowOut" "[I" .null := F_F_a1_lowOut.other W2 (Or.inr (slot_ne (Or.inr (hw _ (List.mem_of_getElem? (i := 21) rfl))) (Or.inr (hw _ (List.mem_of_getElem? (i := 16) rfl))) (by decide) (t := (.array .int)) (t' := .int) (by decide) (by decide)))
  have F6 : Fld Z h2 a1 nm4 "lowIn" "[I" .null := F_F_a1_lowIn.other W2 (Or.inr (slot_ne (Or.inr (hw _ (List.mem_of_getElem? (i := 23) rfl))) (Or.inr (hw _ (List.mem_of_getElem? (i := 16) rfl))) (by decide) (t := (.array .int)) (t' := .int) (by decide) (by decide)))
  have F7 : Fld Z h2 a1 nm4 "lowInLength" "[I" .null := F_F_a1_lowInLength.other W2 (Or.inr (slot_ne (Or.inr (hw _ (List.mem_of_getElem? (i := 25) rfl))) (Or.inr (hw _ (List.mem_of_getElem? (i := 16) rfl))) (by decide) (t := (.array .int)) (t' := .int) (by decide) (by decide)))
  have F8 : Fld Z h2 a1 nm4 "lowInLows" "[I" .null := F_F_a1_lowInLows.other W2 (Or.inr (slot_ne (Or.inr (hw _ (List.mem_of_getElem? (i := 27) rfl))) (Or.inr (hw _ (List.mem_of_getElem? (i := 16) rfl))) (by decide) (t := (.array .int)) (t' := .int) (by decide) (by decide)))
  have F9 : Fld Z h2 a1 nm4 "high" "[I" .null := F_F_a1_high.other W2 (Or.inr (slot_ne (Or.inr (hw _ (List.mem_of_getElem? (i := 29) rfl))) (Or.inr (hw _ (List.mem_of_getElem? (i := 16) rfl))) (by decide) (t := (.array .int)) (t' := .int) (by decide) (by decide)))
  have F10 : Fld Z h2 a1 nm4 "highLength" "[I" .null := F_F_a1_highLength.other W2 (Or.inr (slot_ne (Or.inr (hw _ (List.mem_of_getElem? (i := 31) rfl))) (Or.inr (hw _ (List.mem_of_getElem? (i := 16) rfl))) (by decide) (t := (.array .int)) (t' := .int) (by decide) (by decide)))
  have F11 : Fld Z h2 a1 nm4 "highLows" "[I" .null := F_F_a1_highLows.other W2 (Or.inr (slot_ne (Or.inr (hw _ (List.mem_of_getElem? (i := 33) rfl))) (Or.inr (hw _ (List.mem_of_getElem? (i := 16) rfl))) (by decide) (t := (.array .int)) (t' := .int) (by decide) (by decide)))
  have K12 : Keep h0 h2 [a1] := (Keep.refl h0 [a1]).wr W2 (Or.inl (List.mem_of_getElem? (i := 0) rfl))
  have Z13 : n0 ≤ h2.size := Nat.le_trans Z0 (Keep.of_wr W2).1
  refine Rt.aloadN (pc' := 12) X2 hx (hb hby d2_11) rfl rfl rfl ?_
  refine Rt.iloadN (pc' := 13) X2 hx (hb hby d2_12) rfl rfl ?_
  refine Rt.putF (pc' := 16) (v := (.int p3)) X2 hx hZ hown (host := "") (Or.inl (hw _ (List.mem_of_getElem? (i := 17) rfl))) F4 F3 (Or.inr ⟨(hw _ (List.mem_of_getElem? (i := 18) rfl)), rfl, hnm⟩) (hw _ (List.mem_of_getElem? (i := 7) rfl)) (ty := .int) (by decide) rfl rfl g_a1 (hb hby d2_13) rfl ?_
  intro T14 h14 X14 W14 F14
  have F15 : Exa Z h14 a1 nm4 := F3.wr W14
  have F16 : Fld Z h14 a1 nm4 "impossible" "I" (.int (5 : Int32)) := F2.other W14 (Or.inr (slot_ne (Or.inr (hw _ (List.mem_of_getElem? (i := 16) rfl))) (Or.inr (hw _ (List.mem_of_getElem? (i := 18) rfl))) (by decide) (t := .int) (t' := .int) (by decide) (by decide)))
  have F17 : Fld Z h14 a1 nm4 "lowOut" "[I" .null := F5.other W14 (Or.inr (slot_ne (Or.inr (hw _ (List.mem_of_getElem? (i := 21) rfl))) (Or.inr (hw _ (List.mem_of_getElem? (i := 18) rfl))) (by decide) (t := (.array .int)) (t' := .int) (by decide) (by decide)))
  have F18 : Fld Z h14 a1 nm4 "lowIn" "[I" .null := F6.other W14 (Or.inr (slot_ne (Or.inr (hw _ (List.mem_of_getElem? (i := 23) rfl))) (Or.inr (hw _ (List.mem_of_getElem? (i := 18) rfl))) (by decide) (t := (.array .int)) (t' := .int) (by decide) (by decide)))
  have F19 : Fld Z h14 a1 nm4 "lowInLength" "[I" .null := F7.other W14 (Or.inr (slot_ne (Or.inr (hw _ (List.mem_of_getElem? (i := 25) rfl))) (Or.inr (hw _ (List.mem_of_getElem? (i := 18) rfl))) (by decide) (t := (.array .int)) (t' := .int) (by decide) (by decide)))
  have F20 : Fld Z h14 a1 nm4 "lowInLows" "[I" .null := F8.other W14 (Or.inr (slot_ne (Or.inr (hw _ (List.mem_of_getElem? (i := 27) rfl))) (Or.inr (hw _ (List.mem_of_getElem? (i := 18) rfl))) (by decide) (t := (.array .int)) (t' := .int) (by decide) (by decide)))
  have F21 : Fld Z h14 a1 nm4 "high" "[I" .null := F9.other W14 (Or.inr (slot_ne (Or.inr (hw _ (List.mem_of_getElem? (i := 29) rfl))) (Or.inr (hw _ (List.mem_of_getElem? (i := 18) rfl))) (by decide) (t := (.array .int)) (t' := .int) (by decide) (by decide)))
  have F22 : Fld Z h14 a1 nm4 "highLength" "[I" .null := F10.other W14 (Or.inr (slot_ne (Or.inr (hw _ (List.mem_of_getElem? (i := 31) rfl))) (Or.inr (hw _ (List.mem_of_getElem? (i := 18) rfl))) (by decide) (t := (.array .int)) (t' := .int) (by decide) (by decide)))
  have F23 : Fld Z h14 a1 nm4 "highLows" "[I" .null := F11.other W14 (Or.inr (slot_ne (Or.inr (hw _ (List.mem_of_getElem? (i := 33) rfl))) (Or.inr (hw _ (List.mem_of_getElem? (i := 18) rfl))) (by decide) (t := (.array .int)) (t' := .int) (by decide) (by decide)))
  have K24 : Keep h0 h14 [a1] := K12.wr W14 (Or.inl (List.mem_of_getElem? (i := 0) rfl))
  have Z25 : n0 ≤ h14.size := Nat.le_trans Z13 (Keep.of_wr W14).1
  refine Rt.aloadN (pc' := 17) X14 hx (hb hby d2_16) rfl rfl rfl ?_
  refine Rt.iloadN (pc' := 18) X14 hx (hb hby d2_17) rfl rfl ?_
  refine Rt.newP (pc' := 20) X14 hx hZ (ty := .int) rfl (hw _ (List.mem_of_getElem? (i := 19) rfl)) (z := (4 : Int32)) (i := 4) (by decide) (by decide) (cap := 4) (by decide) (by decide) (hb hby d2_18) (by decide) (by decide) rfl ?_
  intro T26 h26 b18 ha26 X26 E26 A26
  have g27 : n0 ≤ b18 := by rw [ha26]; exact Z25
  have s28 : h0.size ≤ b18 := by rw [ha26]; exact K24.1
  have ne29 : a1 ≠ b18 := by rw [ha26]; exact Nat.ne_of_lt F15.lt
  have F30 : Exa Z h26 a1 nm4 := F15.ext E26
  have F31 : Fld Z h26 a1 nm4 "impossible" "I" (.int (5 : Int32)) := F16.ext E26
  have F32 : Fld Z h26 a1 nm4 "h" "I" (.int p3) := F14.ext E26
  have F33 : Fld Z h26 a1 nm4 "lowOut" "[I" .null := F17.ext E26
  have F34 : Fld Z h26 a1 nm4 "lowIn" "[I" .null := F18.ext E26
  have F35 : Fld Z h26 a1 nm4 "lowInLength" "[I" .null := F19.ext E26
  have F36 : Fld Z h26 a1 nm4 "lowInLows" "[I" .null := F20.ext E26
  have F37 : Fld Z h26 a1 nm4 "high" "[I" .null := F21.ext E26
  have F38 : Fld Z h26 a1 nm4 "highLength" "[I" .null := F22.ext E26
  have F39 : Fld Z h26 a1 nm4 "highLows" "[I" .null := F23.ext E26
  have K40 : Keep h0 h26 [a1] := K24.ext E26
  have Z41 : n0 ≤ h26.size := Nat.le_trans Z25 E26.1
  have A26 : IL Z h26 b18 .int 4 := ⟨_, A26, rfl⟩
  refine Rt.putF (pc' := 23) (v := (.ref b18)) X26 hx hZ hown (host := "") (Or.inl (hw _ (List.mem_of_getElem? (i := 20) rfl))) F33 F30 (Or.inr ⟨(hw _ (List.mem_of_getElem? (i := 21) rfl)), rfl, hnm⟩) (hw _ (List.mem_of_getElem? (i := 7) rfl)) (ty := (.array .int)) (by decide) rfl rfl g_a1 (hb hby d2_20) rfl ?_
  intro T42 h42 X42 W42 F42
  have F43 : Exa Z h42 a1 nm4 := F30.wr W42
  have F44 : Fld Z h42 a1 nm4 "impossible" "I" (.int (5 : Int32)) := F31.other W42 (Or.inr (slot_ne (Or.inr (hw _ (List.mem_of_getElem? (i := 16) rfl))) (Or.inr (hw _ (List.mem_of_getElem? (i := 21) rfl))) (by decide) (t := .int) (t' := (.array .int)) (by decide) (by decide)))
  have F45 : Fld Z h42 a1 nm4 "h" "I" (.int p3) := F32.other W42 (Or.inr (slot_ne (Or.inr (hw _ (List.mem_of_getElem? (i := 18) rfl))) (Or.inr (hw _ (List.mem_of_getElem? (i := 21) rfl))) (by decide) (t := .int) (t' := (.array .int)) (by decide) (by decide)))
  have F46 : Fld Z h42 a1 nm4 "lowIn" "[I" .null := F34.other W42 (Or.inr (slot_ne (Or.inr (hw _ (List.mem_of_getElem? (i := 23) rfl))) (Or.inr (hw _ (List.mem_of_getElem? (i := 21) rfl))) (by decide) (t := (.array .int)) (t' := (.array .int)) (by decide) (by decide)))
  have F47 : Fld Z h42 a1 nm4 "lowInLength" "[I" .null := F35.other W42 (Or.inr (slot_ne (Or.inr (hw _ (List.mem_of_getElem? (i := 25) rfl))) (Or.inr (hw _ (List.mem_of_getElem? (i := 21) rfl))) (by decide) (t := (.array .int)) (t' := (.array .int)) (by decide) (by decide)))
  have F48 : Fld Z h42 a1 nm4 "lowInLows" "[I" .null := F36.other W42 (Or.inr (slot_ne (Or.inr (hw _ (List.mem_of_getElem? (i := 27) rfl))) (Or.inr (hw _ (List.mem_of_getElem? (i := 21) rfl))) (by decide) (t := (.array .int)) (t' := (.array .int)) (by decide) (by decide)))
  have F49 : Fld Z h42 a1 nm4 "high" "[I" .null := F37.other W42 (Or.inr (slot_ne (Or.inr (hw _ (List.mem_of_getElem? (i := 29) rfl))) (Or.inr (hw _ (List.mem_of_getElem? (i := 21) rfl))) (by decide) (t := (.array .int)) (t' := (.array .int)) (by decide) (by decide)))
  have F50 : Fld Z h42 a1 nm4 "highLength" "[I" .null := F38.other W42 (Or.inr (slot_ne (Or.inr (hw _ (List.mem_of_getElem? (i := 31) rfl))) (Or.inr (hw _ (List.mem_of_getElem? (i := 21) rfl))) (by decide) (t := (.array .int)) (t' := (.array .int)) (by decide) (by decide)))
  have F51 : Fld Z h42 a1 nm4 "highLows" "[I" .null := F39.other W42 (Or.inr (slot_ne (Or.inr (hw _ (List.mem_of_getElem? (i := 33) rfl))) (Or.inr (hw _ (List.mem_of_getElem? (i := 21) rfl))) (by decide) (t := (.array .int)) (t' := (.array .int)) (by decide) (by decide)))
  have F52 : IL Z h42 b18 .int 4 := A26.wr W42
  have K53 : Keep h0 h42 [a1] := K40.wr W42 (Or.inl (List.mem_of_getElem? (i := 0) rfl))
  have Z54 : n0 ≤ h42.size := Nat.le_trans Z41 (Keep.of_wr W42).1
  refine Rt.aloadN (pc' := 24) X42 hx (hb hby d2_23) rfl rfl rfl ?_
  refine Rt.iloadN (pc' := 25) X42 hx (hb hby d2_24) rfl rfl ?_
  refine Rt.newP (pc' := 27) X42 hx hZ (ty := .int) rfl (hw _ (List.mem_of_getElem? (i := 19) rfl)) (z := (4 : Int32)) (i := 4) (by decide) (by decide) (cap := 4) (by decide) (by decide) (hb hby d2_25) (by decide) (by decide) rfl ?_
  intro T55 h55 b25 ha55 X55 E55 A55
  have g56 : n0 ≤ b25 := by rw [ha55]; exact Z54
  have s57 : h0.size ≤ b25 := by rw [ha55]; exact K53.1
  have ne58 : a1 ≠ b25 := by rw [ha55]; exact Nat.ne_of_lt F43.lt
  have ne59 : b18 ≠ b25 := by rw [ha55]; exact Nat.ne_of_lt F52.lt
  have F60 : Exa Z h55 a1 nm4 := F43.ext E55
  have F61 : Fld Z h55 a1 nm4 "impossible" "I" (.int (5 : Int32)) := F44.ext E55
  have F62 : Fld Z h55 a1 nm4 "h" "I" (.int p3) := F45.ext E55
  have F63 : Fld Z h55 a1 nm4 "lowOut" "[I" (.ref b18) := F42.ext E55
  have F64 : Fld Z h55 a1 nm4 "lowIn" "[I" .null := F46.ext E55
  have F65 : Fld Z h55 a1 nm4 "lowInLength" "[I" .null := F47.ext E55
  have F66 : Fld Z h55 a1 nm4 "lowInLows" "[I" .null := F48.ext E55
  have F67 : Fld Z h55 a1 nm4 "high" "[I" .null := F49.ext E55
  have F68 : Fld Z h55 a1 nm4 "highLength" "[I" .null := F50.ext E55
  have F69 : Fld Z h55 a1 nm4 "highLows" "[I" .null := F51.ext E55
  have F70 : IL Z h55 b18 .int 4 := F52.ext E55
  have K71 : Keep h0 h55 [a1] := K53.ext E55
  have Z72 : n0 ≤ h55.size := Nat.le_trans Z54 E55.1
  have A55 : IL Z h55 b25 .int 4 := ⟨_, A55, rfl⟩
  refine Rt.putF (pc' := 30) (v := (.ref b25)) X55 hx hZ hown (host := "") (Or.inl (hw _ (List.mem_of_getElem? (i := 22) rfl))) F64 F60 (Or.inr ⟨(hw _ (List.mem_of_getElem? (i := 23) rfl)), rfl, hnm⟩) (hw _ (List.mem_of_getElem? (i := 7) rfl)) (ty := (.array .int)) (by decide) rfl rfl g_a1 (hb hby d2_27) rfl ?_
  intro T73 h73 X73 W73 F73
  have F74 : Exa Z h73 a1 nm4 := F60.wr W73
  have F75 : Fld Z h73 a1 nm4 "impossible" "I" (.int (5 : Int32)) := F61.other W73 (Or.inr (slot_ne (Or.inr (hw _ (List.mem_of_getElem? (i := 16) rfl))) (Or.inr (hw _ (List.mem_of_getElem? (i := 23) rfl))) (by decide) (t := .int) (t' := (.array .int)) (by decide) (by decide)))
  have F76 : Fld Z h73 a1 nm4 "h" "I" (.int p3) := F62.other W73 (Or.inr (slot_ne (Or.inr (hw _ (List.mem_of_getElem? (i := 18) rfl))) (Or.inr (hw _ (List.mem_of_getElem? (i := 23) rfl))) (by decide) (t := .int) (t' := (.array .int)) (by decide) (by decide)))
  have F77 : Fld Z h73 a1 nm4 "lowOut" "[I" (.ref b18) := F63.other W73 (Or.inr (slot_ne (Or.inr (hw _ (List.mem_of_getElem? (i := 21) rfl))) (Or.inr (hw _ (List.mem_of_getElem? (i := 23) rfl))) (by decide) (t := (.array .int)) (t' := (.array .int)) (by decide) (by decide)))
  have F78 : Fld Z h73 a1 nm4 "lowInLength" "[I" .null := F65.other W73 (Or.inr (slot_ne (Or.inr (hw _ (List.mem_of_getElem? (i := 25) rfl))) (Or.inr (hw _ (List.mem_of_getElem? (i := 23) rfl))) (by decide) (t := (.array .int)) (t' := (.array .int)) (by decide) (by decide)))
  have F79 : Fld Z h73 a1 nm4 "lowInLows" "[I" .null := F66.other W73 (Or.inr (slot_ne (Or.inr (hw _ (List.mem_of_getElem? (i := 27) rfl))) (Or.inr (hw _ (List.mem_of_getElem? (i := 23) rfl))) (by decide) (t := (.array .int)) (t' := (.array .int)) (by decide) (by decide)))
  have F80 : Fld Z h73 a1 nm4 "high" "[I" .null := F67.other W73 (Or.inr (slot_ne (Or.inr (hw _ (List.mem_of_getElem? (i := 29) rfl))) (Or.inr (hw _ (List.mem_of_getElem? (i := 23) rfl))) (by decide) (t := (.array .int)) (t' := (.array .int)) (by decide) (by decide)))
  have F81 : Fld Z h73 a1 nm4 "highLength" "[I" .null := F68.other W73 (Or.inr (slot_ne (Or.inr (hw _ (List.mem_of_getElem? (i := 31) rfl))) (Or.inr (hw _ (List.mem_of_getElem? (i := 23) rfl))) (by decide) (t := (.array .int)) (t' := (.array .int)) (by decide) (by decide)))
  have F82 : Fld Z h73 a1 nm4 "highLows" "[I" .null := F69.other W73 (Or.inr (slot_ne (Or.inr (hw _ (List.mem_of_getElem? (i := 33) rfl))) (Or.inr (hw _ (List.mem_of_getElem? (i := 23) rfl))) (by decide) (t := (.array .int)) (t' := (.array .int)) (by decide) (by decide)))
  have F83 : IL Z h73 b18 .int 4 := F70.wr W73
  have F84 : IL Z h73 b25 .int 4 := A55.wr W73
  have K85 : Keep h0 h73 [a1] := K71.wr W73 (Or.inl (List.mem_of_getElem? (i := 0) rfl))
  have Z86 : n0 ≤ h73.size := Nat.le_trans Z72 (Keep.of_wr W73).1
  refine Rt.aloadN (pc' := 31) X73 hx (hb hby d2_30) rfl rfl rfl ?_
  refine Rt.iloadN (pc' := 32) X73 hx (hb hby d2_31) rfl rfl ?_
  refine Rt.newP (pc' := 34) X73 hx hZ (ty := .int) rfl (hw _ (List.mem_of_getElem? (i := 19) rfl)) (z := (4 : Int32)) (i := 4) (by decide) (by decide) (cap := 4) (by decide) (by decide) (hb hby d2_32) (by decide) (by decide) rfl ?_
  intro T87 h87 b32 ha87 X87 E87 A87
  have g88 : n0 ≤ b32 := by rw [ha87]; exact Z86
  have s89 : h0.size ≤ b32 := by rw [ha87]; exact K85.1
  have ne90 : a1 ≠ b32 := by rw [ha87]; exact Nat.ne_of_lt F74.lt
  have ne91 : b18 ≠ b32 := by rw [ha87]; exact Nat.ne_of_lt F83.lt
  have ne92 : b25 ≠ b32 := by rw [ha87]; exact Nat.ne_of_lt F84.lt
  have F93 : Exa Z h87 a1 nm4 := F74.ext E87
  have F94 : Fld Z h87 a1 nm4 "impossible" "I" (.int (5 : Int32)) := F75.ext E87
  have F95 : Fld Z h87 a1 nm4 "h" "I" (.int p3) := F76.ext E87
  have F96 : Fld Z h87 a1 nm4 "lowOut" "[I" (.ref b18) := F77.ext E87
  have F97 : Fld Z h87 a1 nm4 "lowIn" "[I" (.ref b25) := F73.ext E87
  have F98 : Fld Z h87 a1 nm4 "lowInLength" "[I" .null := F78.ext E87
  have F99 : Fld Z h87 a1 nm4 "lowInLows" "[I" .null := F79.ext E87
  have F100 : Fld Z h87 a1 nm4 "high" "[I" .null := F80.ext E87
  have F101 : Fld Z h87 a1 nm4 "highLength" "[I" .null := F81.ext E87
  have F102 : Fld Z h87 a1 nm4 "highLows" "[I" .null := F82.ext E87
  have F103 : IL Z h87 b18 .int 4 := F83.ext E87
  have F104 : IL Z h87 b25 .int 4 := F84.ext E87
  have K105 : Keep h0 h87 [a1] := K85.ext E87
  have Z106 : n0 ≤ h87.size := Nat.le_trans Z86 E87.1
  have A87 : IL Z h87 b32 .int 4 := ⟨_, A87, rfl⟩
  refine Rt.putF (pc' := 37) (v := (.ref b32)) X87 hx hZ hown (host := "") (Or.inl (hw _ (List.mem_of_getElem? (i := 24) rfl))) F98 F93 (Or.inr ⟨(hw _ (List.mem_of_getElem? (i := 25) rfl)), rfl, hnm⟩) (hw _ (List.mem_of_getElem? (i := 7) rfl)) (ty := (.array .int)) (by decide) rfl rfl g_a1 (hb hby d2_34) rfl ?_
  intro T107 h107 X107 W107 F107
  have F108 : Exa Z h107 a1 nm4 := F93.wr W107
  have F109 : Fld Z h107 a1 nm4 "impossible" "I" (.int (5 : Int32)) := F94.other W107 (Or.inr (slot_ne (Or.inr (hw _ (List.mem_of_getElem? (i := 16) rfl))) (Or.inr (hw _ (List.mem_of_getElem? (i := 25) rfl))) (by decide) (t := .int) (t' := (.array .int)) (by decide) (by decide)))
  have F110 : Fld Z h107 a1 nm4 "h" "I" (.int p3) := F95.other W107 (Or.inr (slot_ne (Or.inr (hw _ (List.mem_of_getElem? (i := 18) rfl))) (Or.inr (hw _ (List.mem_of_getElem? (i := 25) rfl))) (by decide) (t := .int) (t' := (.array .int)) (by decide) (by decide)))
  have F111 : Fld Z h107 a1 nm4 "lowOut" "[I" (.ref b18) := F96.other W107 (Or.inr (slot_ne (Or.inr (hw _ (List.mem_of_getElem? (i := 21) rfl))) (Or.inr (hw _ (List.mem_of_getElem? (i := 25) rfl))) (by decide) (t := (.array .int)) (t' := (.array .int)) (by decide) (by decide)))
  have F112 : Fld Z h107 a1 nm4 "lowIn" "[I" (.ref b25) := F97.other W107 (Or.inr (slot_ne (Or.inr (hw _ (List.mem_of_getElem? (i := 23) rfl))) (Or.inr (hw _ (List.mem_of_getElem? (i := 25) rfl))) (by decide) (t := (.array .int)) (t' := (.array .int)) (by decide) (by decide)))
  have F113 : Fld Z h107 a1 nm4 "lowInLows" "[I" .null := F99.other W107 (Or.inr (slot_ne (Or.inr (hw _ (List.mem_of_getElem? (i := 27) rfl))) (Or.inr (hw _ (List.mem_of_getElem? (i := 25) rfl))) (by decide) (t := (.array .int)) (t' := (.array .int)) (by decide) (by decide)))
  have F114 : Fld Z h107 a1 nm4 "high" "[I" .null := F100.other W107 (Or.inr (slot_ne (Or.inr (hw _ (List.mem_of_getElem? (i := 29) rfl))) (Or.inr (hw _ (List.mem_of_getElem? (i := 25) rfl))) (by decide) (t := (.array .int)) (t' := (.array .int)) (by decide) (by decide)))
  have F115 : Fld Z h107 a1 nm4 "highLength" "[I" .null := F101.other W107 (Or.inr (slot_ne (Or.inr (hw _ (List.mem_of_getElem? (i := 31) rfl))) (Or.inr (hw _ (List.mem_of_getElem? (i := 25) rfl))) (by decide) (t := (.array .int)) (t' := (.array .int)) (by decide) (by decide)))
  have F116 : Fld Z h107 a1 nm4 "highLows" "[I" .null := F102.other W107 (Or.inr (slot_ne (Or.inr (hw _ (List.mem_of_getElem? (i := 33) rfl))) (Or.inr (hw _ (List.mem_of_getElem? (i := 25) rfl))) (by decide) (t := (.array .int)) (t' := (.array .int)) (by decide) (by decide)))
  have F117 : IL Z h107 b18 .int 4 := F103.wr W107
  have F118 : IL Z h107 b25 .int 4 := F104.wr W107
  have F119 : IL Z h107 b32 .int 4 := A87.wr W107
  have K120 : Keep h0 h107 [a1] := K105.wr W107 (Or.inl (List.mem_of_getElem? (i := 0) rfl))
  have Z121 : n0 ≤ h107.size := Nat.le_trans Z106 (Keep.of_wr W107).1
  refine Rt.aloadN (pc' := 38) X107 hx (hb hby d2_37) rfl rfl rfl ?_
  refine Rt.iloadN (pc' := 39) X107 hx (hb hby d2_38) rfl rfl ?_
  refine Rt.newP (pc' := 41) X107 hx hZ (ty := .int) rfl (hw _ (List.mem_of_getElem? (i := 19) rfl)) (z := (4 : Int32)) (i := 4) (by decide) (by decide) (cap := 4) (by decide) (by decide) (hb hby d2_39) (by decide) (by decide) rfl ?_
  intro T122 h122 b39 ha122 X122 E122 A122
  have g123 : n0 ≤ b39 := by rw [ha122]; exact Z121
  have s124 : h0.size ≤ b39 := by rw [ha122]; exact K120.1
  have ne125 : a1 ≠ b39 := by rw [ha122]; exact Nat.ne_of_lt F108.lt
  have ne126 : b18 ≠ b39 := by rw [ha122]; exact Nat.ne_of_lt F117.lt
  have ne127 : b25 ≠ b39 := by rw [ha122]; exact Nat.ne_of_lt F118.lt
  have ne128 : b32 ≠ b39 := by rw [ha122]; exact Nat.ne_of_lt F119.lt
  have F129 : Exa Z h122 a1 nm4 := F108.ext E122
  have F130 : Fld Z h122 a1 nm4 "impossible" "I" (.int (5 : Int32)) := F109.ext E122
  have F131 : Fld Z h122 a1 nm4 "h" "I" (.int p3) := F110.ext E122
  have F132 : Fld Z h122 a1 nm4 "lowOut" "[I" (.ref b18) := F111.ext E122
  have F133 : Fld Z h122 a1 nm4 "lowIn" "[I" (.ref b25) := F112.ext E122
  have F134 : Fld Z h122 a1 nm4 "lowInLength" "[I" (.ref b32) := F107.ext E122
  have F135 : Fld Z h122 a1 nm4 "lowInLows" "[I" .null := F113.ext E122
  have F136 : Fld Z h122 a1 nm4 "high" "[I" .null := F114.ext E122
  have F137 : Fld Z h122 a1 nm4 "highLength" "[I" .null := F115.ext E122
  have F138 : Fld Z h122 a1 nm4 "highLows" "[I" .null := F116.ext E122
  have F139 : IL Z h122 b18 .int 4 := F117.ext E122
  have F140 : IL Z h122 b25 .int 4 := F118.ext E122
  have F141 : IL Z h122 b32 .int 4 := F119.ext E122
  have K142 : Keep h0 h122 [a1] := K120.ext E122
  have Z143 : n0 ≤ h122.size := Nat.le_trans Z121 E122.1
  have A122 : IL Z h122 b39 .int 4 := ⟨_, A122, rfl⟩
  refine Rt.putF (pc' := 44) (v := (.ref b39)) X122 hx hZ hown (host := "") (Or.inl (hw _ (List.mem_of_getElem? (i := 26) rfl))) F135 F129 (Or.inr ⟨(hw _ (List.mem_of_getElem? (i := 27) rfl)), rfl, hnm⟩) (hw _ (List.mem_of_getElem? (i := 7) rfl)) (ty := (.array .int)) (by decide) rfl rfl g_a1 (hb hby d2_41) rfl ?_
  intro T144 h144 X144 W144 F144
  have F145 : Exa Z h144 a1 nm4 := F129.wr W144
  have F146 : Fld Z h144 a1 nm4 "impossible" "I" (.int (5 : Int32)) := F130.other W144 (Or.inr (slot_ne (Or.inr (hw _ (List.mem_of_getElem? (i := 16) rfl))) (Or.inr (hw _ (List.mem_of_getElem? (i := 27) rfl))) (by decide) (t := .int) (t' := (.array .int)) (by decide) (by decide)))
  have F147 : Fld Z h144 a1 nm4 "h" "I" (.int p3) := F131.other W144 (Or.inr (slot_ne (Or.inr (hw _ (List.mem_of_getElem? (i := 18) rfl))) (Or.inr (hw _ (List.mem_of_getElem? (i := 27) rfl))) (by decide) (t := .int) (t' := (.array .int)) (by decide) (by decide)))
  have F148 : Fld Z h144 a1 nm4 "lowOut" "[I" (.ref b18) := F132.other W144 (Or.inr (slot_ne (Or.inr (hw _ (List.mem_of_getElem? (i := 21) rfl))) (Or.inr (hw _ (List.mem_of_getElem? (i := 27) rfl))) (by decide) (t := (.array .int)) (t' := (.array .int)) (by decide) (by decide)))
  have F149 : Fld Z h144 a1 nm4 "lowIn" "[I" (.ref b25) := F133.other W144 (Or.inr (slot_ne (Or.inr (hw _ (List.mem_of_getElem? (i := 23) rfl))) (Or.inr (hw _ (List.mem_of_getElem? (i := 27) rfl))) (by decide) (t := (.array .int)) (t' := (.array .int)) (by decide) (by decide)))
  have F150 : Fld Z h144 a1 nm4 "lowInLength" "[I" (.ref b32) := F134.other W144 (Or.inr (slot_ne (Or.inr (hw _ (List.mem_of_getElem? (i := 25) rfl))) (Or.inr (hw _ (List.mem_of_getElem? (i := 27) rfl))) (by decide) (t := (.array .int)) (t' := (.array .int)) (by decide) (by decide)))
  have F151 : Fld Z h144 a1 nm4 "high" "[I" .null := F136.other W144 (Or.inr (slot_ne (Or.inr (hw _ (List.mem_of_getElem? (i := 29) rfl))) (Or.inr (hw _ (List.mem_of_getElem? (i := 27) rfl))) (by decide) (t := (.array .int)) (t' := (.array .int)) (by decide) (by decide)))
  have F152 : Fld Z h144 a1 nm4 "highLength" "[I" .null := F137.other W144 (Or.inr (slot_ne (Or.inr (hw _ (List.mem_of_getElem? (i := 31) rfl))) (Or.inr (hw _ (List.mem_of_getElem? (i := 27) rfl))) (by decide) (t := (.array .int)) (t' := (.array .int)) (by decide) (by decide)))
  have F153 : Fld Z h144 a1 nm4 "highLows" "[I" .null := F138.other W144 (Or.inr (slot_ne (Or.inr (hw _ (List.mem_of_getElem? (i := 33) rfl))) (Or.inr (hw _ (List.mem_of_getElem? (i := 27) rfl))) (by decide) (t := (.array .int)) (t' := (.array .int)) (by decide) (by decide)))
  have F154 : IL Z h144 b18 .int 4 := F139.wr W144
  have F155 : IL Z h144 b25 .int 4 := F140.wr W144
  have F156 : IL Z h144 b32 .int 4 := F141.wr W144
  have F157 : IL Z h144 b39 .int 4 := A122.wr W144
  have K158 : Keep h0 h144 [a1] := K142.wr W144 (Or.inl (List.mem_of_getElem? (i := 0) rfl))
  have Z159 : n0 ≤ h144.size := Nat.le_trans Z143 (Keep.of_wr W144).1
  refine Rt.aloadN (pc' := 45) X144 hx (hb hby d2_44) rfl rfl rfl ?_
  refine Rt.iloadN (pc' := 46) X144 hx (hb hby d2_45) rfl rfl ?_
  refine Rt.newP (pc' := 48) X144 hx hZ (ty := .int) rfl (hw _ (List.mem_of_getElem? (i := 19) rfl)) (z := (4 : Int32)) (i := 4) (by decide) (by decide) (cap := 4) (by decide) (by decide) (hb hby d2_46) (by decide) (by decide) rfl ?_
  intro T160 h160 b46 ha160 X160 E160 A160
  have g161 : n0 ≤ b46 := by rw [ha160]; exact Z159
  have s162 : h0.size ≤ b46 := by rw [ha160]; exact K158.1
  have ne163 : a1 ≠ b46 := by rw [ha160]; exact Nat.ne_of_lt F145.lt
  have ne164 : b18 ≠ b46 := by rw [ha160]; exact Nat.ne_of_lt F154.lt
  have ne165 : b25 ≠ b46 := by rw [ha160]; exact Nat.ne_of_lt F155.lt
  have ne166 : b32 ≠ b46 := by rw [ha160]; exact Nat.ne_of_lt F156.lt
  have ne167 : b39 ≠ b46 := by rw [ha160]; exact Nat.ne_of_lt F157.lt
  have F168 : Exa Z h160 a1 nm4 := F145.ext E160
  have F169 : Fld Z h160 a1 nm4 "impossible" "I" (.int (5 : Int32)) := F146.ext E160
  have F170 : Fld Z h160 a1 nm4 "h" "I" (.int p3) := F147.ext E160
  have F171 : Fld Z h160 a1 nm4 "lowOut" "[I" (.ref b18) := F148.ext E160
  have F172 : Fld Z h160 a1 nm4 "lowIn" "[I" (.ref b25) := F149.ext E160
  have F173 : Fld Z h160 a1 nm4 "lowInLength" "[I" (.ref b32) := F150.ext E160
  have F174 : Fld Z h160 a1 nm4 "lowInLows" "[I" (.ref b39) := F144.ext E160
  have F175 : Fld Z h160 a1 nm4 "high" "[I" .null := F151.ext E160
  have F176 : Fld Z h160 a1 nm4 "highLength" "[I" .null := F152.ext E160
  have F177 : Fld Z h160 a1 nm4 "highLows" "[I" .null := F153.ext E160
  have F178 : IL Z h160 b18 .int 4 := F154.ext E160
  have F179 : IL Z h160 b25 .int 4 := F155.ext E160
  have F180 : IL Z h160 b32 .int 4 := F156.ext E160
  have F181 : IL Z h160 b39 .int 4 := F157.ext E160
  have K182 : Keep h0 h160 [a1] := K158.ext E160
  have Z183 : n0 ≤ h160.size := Nat.le_trans Z159 E160.1
  have A160 : IL Z h160 b46 .int 4 := ⟨_, A160, rfl⟩
  refine Rt.putF (pc' := 51) (v := (.ref b46)) X160 hx hZ hown (host := "") (Or.inl (hw _ (List.mem_of_getElem? (i := 28) rfl))) F175 F168 (Or.inr ⟨(hw _ (List.mem_of_getElem? (i := 29) rfl)), rfl, hnm⟩) (hw _ (List.mem_of_getElem? (i := 7) rfl)) (ty := (.array .int)) (by decide) rfl rfl g_a1 (hb hby d2_48) rfl ?_
  intro T184 h184 X184 W184 F184
  have F185 : Exa Z h184 a1 nm4 := F168.wr W184
  have F186 : Fld Z h184 a1 nm4 "impossible" "I" (.int (5 : Int32)) := F169.other W184 (Or.inr (slot_ne (Or.inr (hw _ (List.mem_of_getElem? (i := 16) rfl))) (Or.inr (hw _ (List.mem_of_getElem? (i := 29) rfl))) (by decide) (t := .int) (t' := (.array .int)) (by decide) (by decide)))
  have F187 : Fld Z h184 a1 nm4 "h" "I" (.int p3) := F170.other W184 (Or.inr (slot_ne (Or.inr (hw _ (List.mem_of_getElem? (i := 18) rfl))) (Or.inr (hw _ (List.mem_of_getElem? (i := 29) rfl))) (by decide) (t := .int) (t' := (.array .int)) (by decide) (by decide)))
  have F188 : Fld Z h184 a1 nm4 "lowOut" "[I" (.ref b18) := F171.other W184 (Or.inr (slot_ne (Or.inr (hw _ (List.mem_of_getElem? (i := 21) rfl))) (Or.inr (hw _ (List.mem_of_getElem? (i := 29) rfl))) (by decide) (t := (.array .int)) (t' := (.array .int)) (by decide) (by decide)))
  have F189 : Fld Z h184 a1 nm4 "lowIn" "[I" (.ref b25) := F172.other W184 (Or.inr (slot_ne (Or.inr (hw _ (List.mem_of_getElem? (i := 23) rfl))) (Or.inr (hw _ (List.mem_of_getElem? (i := 29) rfl))) (by decide) (t := (.array .int)) (t' := (.array .int)) (by decide) (by decide)))
  have F190 : Fld Z h184 a1 nm4 "lowInLength" "[I" (.ref b32) := F173.other W184 (Or.inr (slot_ne (Or.inr (hw _ (List.mem_of_getElem? (i := 25) rfl))) (Or.inr (hw _ (List.mem_of_getElem? (i := 29) rfl))) (by decide) (t := (.array .int)) (t' := (.array .int)) (by decide) (by decide)))
  have F191 : Fld Z h184 a1 nm4 "lowInLows" "[I" (.ref b39) := F174.other W184 (Or.inr (slot_ne (Or.inr (hw _ (List.mem_of_getElem? (i := 27) rfl))) (Or.inr (hw _ (List.mem_of_getElem? (i := 29) rfl))) (by decide) (t := (.array .int)) (t' := (.array .int)) (by decide) (by decide)))
  have F192 : Fld Z h184 a1 nm4 "highLength" "[I" .null := F176.other W184 (Or.inr (slot_ne (Or.inr (hw _ (List.mem_of_getElem? (i := 31) rfl))) (Or.inr (hw _ (List.mem_of_getElem? (i := 29) rfl))) (by decide) (t := (.array .int)) (t' := (.array .int)) (by decide) (by decide)))
  have F193 : Fld Z h184 a1 nm4 "highLows" "[I" .null := F177.other W184 (Or.inr (slot_ne (Or.inr (hw _ (List.mem_of_getElem? (i := 33) rfl))) (Or.inr (hw _ (List.mem_of_getElem? (i := 29) rfl))) (by decide) (t := (.array .int)) (t' := (.array .int)) (by decide) (by decide)))
  have F194 : IL Z h184 b18 .int 4 := F178.wr W184
  have F195 : IL Z h184 b25 .int 4 := F179.wr W184
  have F196 : IL Z h184 b32 .int 4 := F180.wr W184
  have F197 : IL Z h184 b39 .int 4 := F181.wr W184
  have F198 : IL Z h184 b46 .int 4 := A160.wr W184
  have K199 : Keep h0 h184 [a1] := K182.wr W184 (Or.inl (List.mem_of_getElem? (i := 0) rfl))
  have Z200 : n0 ≤ h184.size := Nat.le_trans Z183 (Keep.of_wr W184).1
  refine Rt.aloadN (pc' := 52) X184 hx (hb hby d2_51) rfl rfl rfl ?_
  refine Rt.iloadN (pc' := 53) X184 hx (hb hby d2_52) rfl rfl ?_
  refine Rt.newP (pc' := 55) X184 hx hZ (ty := .int) rfl (hw _ (List.mem_of_getElem? (i := 19) rfl)) (z := (4 : Int32)) (i := 4) (by decide) (by decide) (cap := 4) (by decide) (by decide) (hb hby d2_53) (by decide) (by decide) rfl ?_
  intro T201 h201 b53 ha201 X201 E201 A201
  have g202 : n0 ≤ b53 := by rw [ha201]; exact Z200
  have s203 : h0.size ≤ b53 := by rw [ha201]; exact K199.1
  have ne204 : a1 ≠ b53 := by rw [ha201]; exact Nat.ne_of_lt F185.lt
  have ne205 : b18 ≠ b53 := by rw [ha201]; exact Nat.ne_of_lt F194.lt
  have ne206 : b25 ≠ b53 := by rw [ha201]; exact Nat.ne_of_lt F195.lt
  have ne207 : b32 ≠ b53 := by rw [ha201]; exact Nat.ne_of_lt F196.lt
  have ne208 : b39 ≠ b53 := by rw [ha201]; exact Nat.ne_of_lt F197.lt
  have ne209 : b46 ≠ b53 := by rw [ha201]; exact Nat.ne_of_lt F198.lt
  have F210 : Exa Z h201 a1 nm4 := F185.ext E201
  have F211 : Fld Z h201 a1 nm4 "impossible" "I" (.int (5 : Int32)) := F186.ext E201
  have F212 : Fld Z h201 a1 nm4 "h" "I" (.int p3) := F187.ext E201
  have F213 : Fld Z h201 a1 nm4 "lowOut" "[I" (.ref b18) := F188.ext E201
  have F214 : Fld Z h201 a1 nm4 "lowIn" "[I" (.ref b25) := F189.ext E201
  have F215 : Fld Z h201 a1 nm4 "lowInLength" "[I" (.ref b32) := F190.ext E201
  have F216 : Fld Z h201 a1 nm4 "lowInLows" "[I" (.ref b39) := F191.ext E201
  have F217 : Fld Z h201 a1 nm4 "high" "[I" (.ref b46) := F184.ext E201
  have F218 : Fld Z h201 a1 nm4 "highLength" "[I" .null := F192.ext E201
  have F219 : Fld Z h201 a1 nm4 "highLows" "[I" .null := F193.ext E201
  have F220 : IL Z h201 b18 .int 4 := F194.ext E201
  have F221 : IL Z h201 b25 .int 4 := F195.ext E201
  have F222 : IL Z h201 b32 .int 4 := F196.ext E201
  have F223 : IL Z h201 b39 .int 4 := F197.ext E201
  have F224 : IL Z h201 b46 .int 4 := F198.ext E201
  have K225 : Keep h0 h201 [a1] := K199.ext E201
  have Z226 : n0 ≤ h201.size := Nat.le_trans Z200 E201.1
  have A201 : IL Z h201 b53 .int 4 := ⟨_, A201, rfl⟩
  refine Rt.putF (pc' := 58) (v := (.ref b53)) X201 hx hZ hown (host := "") (Or.inl (hw _ (List.mem_of_getElem? (i := 30) rfl))) F218 F210 (Or.inr ⟨(hw _ (List.mem_of_getElem? (i := 31) rfl)), rfl, hnm⟩) (hw _ (List.mem_of_getElem? (i := 7) rfl)) (ty := (.array .int)) (by decide) rfl rfl g_a1 (hb hby d2_55) rfl ?_
  intro T227 h227 X227 W227 F227
  have F228 : Exa Z h227 a1 nm4 := F210.wr W227
  have F229 : Fld Z h227 a1 nm4 "impossible" "I" (.int (5 : Int32)) := F211.other W227 (Or.inr (slot_ne (Or.inr (hw _ (List.mem_of_getElem? (i := 16) rfl))) (Or.inr (hw _ (List.mem_of_getElem? (i := 31) rfl))) (by decide) (t := .int) (t' := (.array .int)) (by decide) (by decide)))
  have F230 : Fld Z h227 a1 nm4 "h" "I" (.int p3) := F212.other W227 (Or.inr (slot_ne (Or.inr (hw _ (List.mem_of_getElem? (i := 18) rfl))) (Or.inr (hw _ (List.mem_of_getElem? (i := 31) rfl))) (by decide) (t := .int) (t' := (.array .int)) (by decide) (by decide)))
  have F231 : Fld Z h227 a1 nm4 "lowOut" "[I" (.ref b18) := F213.other W227 (Or.inr (slot_ne (Or.inr (hw _ (List.mem_of_getElem? (i := 21) rfl))) (Or.inr (hw _ (List.mem_of_getElem? (i := 31) rfl))) (by decide) (t := (.array .int)) (t' := (.array .int)) (by decide) (by decide)))
  have F232 : Fld Z h227 a1 nm4 "lowIn" "[I" (.ref b25) := F214.other W227 (Or.inr (slot_ne (Or.inr (hw _ (List.mem_of_getElem? (i := 23) rfl))) (Or.inr (hw _ (List.mem_of_getElem? (i := 31) rfl))) (by decide) (t := (.array .int)) (t' := (.array .int)) (by decide) (by decide)))
  have F233 : Fld Z h227 a1 nm4 "lowInLength" "[I" (.ref b32) := F215.other W227 (Or.inr (slot_ne (Or.inr (hw _ (List.mem_of_getElem? (i := 25) rfl))) (Or.inr (hw _ (List.mem_of_getElem? (i := 31) rfl))) (by decide) (t := (.array .int)) (t' := (.array .int)) (by decide) (by decide)))
  have F234 : Fld Z h227 a1 nm4 "lowInLows" "[I" (.ref b39) := F216.other W227 (Or.inr (slot_ne (Or.inr (hw _ (List.mem_of_getElem? (i := 27) rfl))) (Or.inr (hw _ (List.mem_of_getElem? (i := 31) rfl))) (by decide) (t := (.array .int)) (t' := (.array .int)) (by decide) (by decide)))
  have F235 : Fld Z h227 a1 nm4 "high" "[I" (.ref b46) := F217.other W227 (Or.inr (slot_ne (Or.inr (hw _ (List.mem_of_getElem? (i := 29) rfl))) (Or.inr (hw _ (List.mem_of_getElem? (i := 31) rfl))) (by decide) (t := (.array .int)) (t' := (.array .int)) (by decide) (by decide)))
  have F236 : Fld Z h227 a1 nm4 "highLows" "[I" .null := F219.other W227 (Or.inr (slot_ne (Or.inr (hw _ (List.mem_of_getElem? (i := 33) rfl))) (Or.inr (hw _ (List.mem_of_getElem? (i := 31) rfl))) (by decide) (t := (.array .int)) (t' := (.array .int)) (by decide) (by decide)))
  have F237 : IL Z h227 b18 .int 4 := F220.wr W227
  have F238 : IL Z h227 b25 .int 4 := F221.wr W227
  have F239 : IL Z h227 b32 .int 4 := F222.wr W227
  have F240 : IL Z h227 b39 .int 4 := F223.wr W227
  have F241 : IL Z h227 b46 .int 4 := F224.wr W227
  have F242 : IL Z h227 b53 .int 4 := A201.wr W227
  have K243 : Keep h0 h227 [a1] := K225.wr W227 (Or.inl (List.mem_of_getElem? (i := 0) rfl))
  have Z244 : n0 ≤ h227.size := Nat.le_trans Z226 (Keep.of_wr W227).1
  refine Rt.aloadN (pc' := 59) X227 hx (hb hby d2_58) rfl rfl rfl ?_
  refine Rt.iloadN (pc' := 60) X227 hx (hb hby d2_59) rfl rfl ?_
  refine Rt.newP (pc' := 62) X227 hx hZ (ty := .int) rfl (hw _ (List.mem_of_getElem? (i := 19) rfl)) (z := (4 : Int32)) (i := 4) (by decide) (by decide) (cap := 4) (by decide) (by decide) (hb hby d2_60) (by decide) (by decide) rfl ?_
  intro T245 h245 b60 ha245 X245 E245 A245
  have g246 : n0 ≤ b60 := by rw [ha245]; exact Z244
  have s247 : h0.size ≤ b60 := by rw [ha245]; exact K243.1
  have ne248 : a1 ≠ b60 := by rw [ha245]; exact Nat.ne_of_lt F228.lt
  have ne249 : b18 ≠ b60 := by rw [ha245]; exact Nat.ne_of_lt F237.lt
  have ne250 : b25 ≠ b60 := by rw [ha245]; exact Nat.ne_of_lt F238.lt
  have ne251 : b32 ≠ b60 := by rw [ha245]; exact Nat.ne_of_lt F239.lt
  have ne252 : b39 ≠ b60 := by rw [ha245]; exact Nat.ne_of_lt F240.lt
  have ne253 : b46 ≠ b60 := by rw [ha245]; exact Nat.ne_of_lt F241.lt
  have ne254 : b53 ≠ b60 := by rw [ha245]; exact Nat.ne_of_lt F242.lt
  have F255 : Exa Z h245 a1 nm4 := F228.ext E245
  have F256 : Fld Z h245 a1 nm4 "impossible" "I" (.int (5 : Int32)) := F229.ext E245
  have F257 : Fld Z h245 a1 nm4 "h" "I" (.int p3) := F230.ext E245
  have F258 : Fld Z h245 a1 nm4 "lowOut" "[I" (.ref b18) := F231.ext E245
  have F259 : Fld Z h245 a1 nm4 "lowIn" "[I" (.ref b25) := F232.ext E245
  have F260 : Fld Z h245 a1 nm4 "lowInLength" "[I" (.ref b32) := F233.ext E245
  have F261 : Fld Z h245 a1 nm4 "lowInLows" "[I" (.ref b39) := F234.ext E245
  have F262 : Fld Z h245 a1 nm4 "high" "[I" (.ref b46) := F235.ext E245
  have F263 : Fld Z h245 a1 nm4 "highLength" "[I" (.ref b53) := F227.ext E245
  have F264 : Fld Z h245 a1 nm4 "highLows" "[I" .null := F236.ext E245
  have F265 : IL Z h245 b18 .int 4 := F237.ext E245
  have F266 : IL Z h245 b25 .int 4 := F238.ext E245
  have F267 : IL Z h245 b32 .int 4 := F239.ext E245
  have F268 : IL Z h245 b39 .int 4 := F240.ext E245
  have F269 : IL Z h245 b46 .int 4 := F241.ext E245
  have F270 : IL Z h245 b53 .int 4 := F242.ext E245
  have K271 : Keep h0 h245 [a1] := K243.ext E245
  have Z272 : n0 ≤ h245.size := Nat.le_trans Z244 E245.1
  have A245 : IL Z h245 b60 .int 4 := ⟨_, A245, rfl⟩
  refine Rt.putF (pc' := 65) (v := (.ref b60)) X245 hx hZ hown (host := "") (Or.inl (hw _ (List.mem_of_getElem? (i := 32) rfl))) F264 F255 (Or.inr ⟨(hw _ (List.mem_of_getElem? (i := 33) rfl)), rfl, hnm⟩) (hw _ (List.mem_of_getElem? (i := 7) rfl)) (ty := (.array .int)) (by decide) rfl rfl g_a1 (hb hby d2_62) rfl ?_
  intro T273 h273 X273 W273 F273
  have F274 : Exa Z h273 a1 nm4 := F255.wr W273
  have F275 : Fld Z h273 a1 nm4 "impossible" "I" (.int (5 : Int32)) := F256.other W273 (Or.inr (slot_ne (Or.inr (hw _ (List.mem_of_getElem? (i := 16) rfl))) (Or.inr (hw _ (List.mem_of_getElem? (i := 33) rfl))) (by decide) (t := .int) (t' := (.array .int)) (by decide) (by decide)))
  have F276 : Fld Z h273 a1 nm4 "h" "I" (.int p3) := F257.other W273 (Or.inr (slot_ne (Or.inr (hw _ (List.mem_of_getElem? (i := 18) rfl))) (Or.inr (hw _ (List.mem_of_getElem? (i := 33) rfl))) (by decide) (t := .int) (t' := (.array .int)) (by decide) (by decide)))
  have F277 : Fld Z h273 a1 nm4 "lowOut" "[I" (.ref b18) := F258.other W273 (Or.inr (slot_ne (Or.inr (hw _ (List.mem_of_getElem? (i := 21) rfl))) (Or.inr (hw _ (List.mem_of_getElem? (i := 33) rfl))) (by decide) (t := (.array .int)) (t' := (.array .int)) (by decide) (by decide)))
  have F278 : Fld Z h273 a1 nm4 "lowIn" "[I" (.ref b25) := F259.other W273 (Or.inr (slot_ne (Or.inr (hw _ (List.mem_of_getElem? (i := 23) rfl))) (Or.inr (hw _ (List.mem_of_getElem? (i := 33) rfl))) (by decide) (t := (.array .int)) (t' := (.array .int)) (by decide) (by decide)))
  have F279 : Fld Z h273 a1 nm4 "lowInLength" "[I" (.ref b32) := F260.other W273 (Or.inr (slot_ne (Or.inr (hw _ (List.mem_of_getElem? (i := 25) rfl))) (Or.inr (hw _ (List.mem_of_getElem? (i := 33) rfl))) (by decide) (t := (.array .int)) (t' := (.array .int)) (by decide) (by decide)))
  have F280 : Fld Z h273 a1 nm4 "lowInLows" "[I" (.ref b39) := F261.other W273 (Or.inr (slot_ne (Or.inr (hw _ (List.mem_of_getElem? (i := 27) rfl))) (Or.inr (hw _ (List.mem_of_getElem? (i := 33) rfl))) (by decide) (t := (.array .int)) (t' := (.array .int)) (by decide) (by decide)))
  have F281 : Fld Z h273 a1 nm4 "high" "[I" (.ref b46) := F262.other W273 (Or.inr (slot_ne (Or.inr (hw _ (List.mem_of_getElem? (i := 29) rfl))) (Or.inr (hw _ (List.mem_of_getElem? (i := 33) rfl))) (by decide) (t := (.array .int)) (t' := (.array .int)) (by decide) (by decide)))
  have F282 : Fld Z h273 a1 nm4 "highLength" "[I" (.ref b53) := F263.other W273 (Or.inr (slot_ne (Or.inr (hw _ (List.mem_of_getElem? (i := 31) rfl))) (Or.inr (hw _ (List.mem_of_getElem? (i := 33) rfl))) (by decide) (t := (.array .int)) (t' := (.array .int)) (by decide) (by decide)))
  have F283 : IL Z h273 b18 .int 4 := F265.wr W273
  have F284 : IL Z h273 b25 .int 4 := F266.wr W273
  have F285 : IL Z h273 b32 .int 4 := F267.wr W273
  have F286 : IL Z h273 b39 .int 4 := F268.wr W273
  have F287 : IL Z h273 b46 .int 4 := F269.wr W273
  have F288 : IL Z h273 b53 .int 4 := F270.wr W273
  have F289 : IL Z h273 b60 .int 4 := A245.wr W273
  have K290 : Keep h0 h273 [a1] := K271.wr W273 (Or.inl (List.mem_of_getElem? (i := 0) rfl))
  have Z291 : n0 ≤ h273.size := Nat.le_trans Z272 (Keep.of_wr W273).1
  exact Rt.retV X273 hx hlk hret (hb hby d2_65) (by decide) (by decide) (fun L N => ⟨b18, b25, b32, b39, b46, b53, b60, s28, s57, s89, s124, s162, s203, s247, ne59, ne91, ne126, ne164, ne205, ne249, ne92, ne127, ne165, ne206, ne250, ne128, ne166, ne207, ne251, ne167, ne208, ne252, ne209, ne253, ne254, rfl, N, K290, F274, F275, F276, F277, F278, F279, F280, F281, F282, F273, F283, F284, F285, F286, F287, F288, F289⟩)
theorem d4_0 : decode prog_3_method_2_code 0 = .ok (.new 38, 3) := by decide +kernel
theorem d4_3 : decode prog_3_method_2_code 3 = .ok (.dup, 1) := by decide +kernel
theorem d4_4 : decode prog_3_method_2_code 4 = .ok (.aload_n 0, 1) := by decide +kernel
theorem d4_5 : decode prog_3_method_2_code 5 = .ok (.getfield 7, 3) := by decide +kernel
theorem d4_8 : decode prog_3_method_2_code 8 = .ok (.aload_n 0, 1) := by decide +kernel
theorem d4_9 : decode prog_3_method_2_code 9 = .ok (.getfield 13, 3) := by decide +kernel
theorem pd_6 : parseMethodDescriptor "(II)V" = some ⟨[.int, .int], none⟩ := by decide +kernel
theorem d4_12 : decode prog_3_method_2_code 12 = .ok (.invokespecial 40, 3) := by decide +kernel
theorem d4_15 : decode prog_3_method_2_code 15 = .ok (.astore 4, 2) := by decide +kernel
theorem d4_17 : decode prog_3_method_2_code 17 = .ok (.iconst 0, 1) := by decide +kernel
theorem d4_18 : decode prog_3_method_2_code 18 = .ok (.istore 5, 2) := by decide +kernel
theorem d4_20 : decode prog_3_method_2_code 20 = .ok (.iload 5, 2) := by decide +kernel
theorem d4_22 : decode prog_3_method_2_code 22 = .ok (.aload_n 0, 1) := by decide +kernel
theorem d4_23 : decode prog_3_method_2_code 23 = .ok (.getfield 16, 3) := by decide +kernel
theorem d4_26 : decode prog_3_method_2_code 26 = .ok (.arraylength, 1) := by decide +kernel
theorem d4_27 : decode prog_3_method_2_code 27 = .ok (.if_icmp .ge 125, 3) := by decide +kernel
theorem d4_30 : decode prog_3_method_2_code 30 = .ok (.aload 4, 2) := by decide +kernel
theorem d4_32 : decode prog_3_method_2_code 32 = .ok (.aload_n 1, 1) := by decide +kernel
theorem d4_33 : decode prog_3_method_2_code 33 = .ok (.iload 5, 2) := by decide +kernel
theorem d4_35 : decode prog_3_method_2_code 35 = .ok (.baload, 1) := by decide +kernel
theorem d4_36 : decode prog_3_method_2_code 36 = .ok (.aload_n 2, 1) := by decide +kernel
theorem d4_37 : decode prog_3_method_2_code 37 = .ok (.iload 5, 2) := by decide +kernel
theorem d4_39 : decode prog_3_method_2_code 39 = .ok (.baload, 1) := by decide +kernel
theorem d4_40 : decode prog_3_method_2_code 40 = .ok (.iload_n 3, 1) := by decide +kernel
theorem pd_7 : parseMethodDescriptor "(ZZI)V" = some ⟨[.boolean, .boolean, .int], none⟩ := by decide +kernel
theorem d4_41 : decode prog_3_method_2_code 41 = .ok (.invokevirtual 43, 3) := by decide +kernel
theorem d4_44 : decode prog_3_method_2_code 44 = .ok (.aload_n 0, 1) := by decide +kernel
theorem d4_45 : decode prog_3_method_2_code 45 = .ok (.getfield 16, 3) := by decide +kernel
theorem d4_48 : decode prog_3_method_2_code 48 = .ok (.iload 5, 2) := by decide +kernel
theorem d4_50 : decode prog_3_method_2_code 50 = .ok (.aload 4, 2) := by decide +kernel
theorem d4_52 : decode prog_3_method_2_code 52 = .ok (.getfield 47, 3) := by decide +kernel
theorem d4_55 : decode prog_3_method_2_code 55 = .ok (.iastore, 1) := by decide +kernel
theorem d4_56 : decode prog_3_method_2_code 56 = .ok (.aload_n 0, 1) := by decide +kernel
theorem d4_57 : decode prog_3_method_2_code 57 = .ok (.getfield 20, 3) := by decide +kernel
theorem d4_60 : decode prog_3_method_2_code 60 = .ok (.iload 5, 2) := by decide +kernel
theorem d4_62 : decode prog_3_method_2_code 62 = .ok (.aload 4, 2) := by decide +kernel
theorem d4_64 : decode prog_3_method_2_code 64 = .ok (.getfield 49, 3) := by decide +kernel
theorem d4_67 : decode prog_3_method_2_code 67 = .ok (.getfield 52, 3) := by decide +kernel
theorem d4_70 : decode prog_3_method_2_code 70 = .ok (.iastore, 1) := by decide +kernel
theorem d4_71 : decode prog_3_method_2_code 71 = .ok (.aload_n 0, 1) := by decide +kernel
theorem d4_72 : decode prog_3_method_2_code 72 = .ok (.getfield 23, 3) := by decide +kernel
theorem d4_75 : decode prog_3_method_2_code 75 = .ok (.iload 5, 2) := by decide +kernel
theorem d4_77 : decode prog_3_method_2_code 77 = .ok (.aload 4, 2) := by decide +kernel
theorem d4_79 : decode prog_3_method_2_code 79 = .ok (.getfield 49, 3) := by decide +kernel
theorem d4_82 : decode prog_3_method_2_code 82 = .ok (.getfield 57, 3) := by decide +kernel
theorem d4_85 : decode prog_3_method_2_code 85 = .ok (.iastore, 1) := by decide +kernel
theorem d4_86 : decode prog_3_method_2_code 86 = .ok (.aload_n 0, 1) := by decide +kernel
theorem d4_87 : decode prog_3_method_2_code 87 = .ok (.getfield 26, 3) := by decide +kernel
theorem d4_90 : decode prog_3_method_2_code 90 = .ok (.iload 5, 2) := by decide +kernel
theorem d4_92 : decode prog_3_method_2_code 92 = .ok (.aload 4, 2) := by decide +kernel
theorem d4_94 : decode prog_3_method_2_code 94 = .ok (.getfield 49, 3) := by decide +kernel
theorem d4_97 : decode prog_3_method_2_code 97 = .ok (.getfield 60, 3) := by decide +kernel
theorem d4_100 : decode prog_3_method_2_code 100 = .ok (.iastore, 1) := by decide +kernel
theorem d4_101 : decode prog_3_method_2_code 101 = .ok (.aload_n 0, 1) := by decide +kernel
theorem d4_102 : decode prog_3_method_2_code 102 = .ok (.getfield 29, 3) := by decide +kernel
theorem d4_105 : decode prog_3_method_2_code 105 = .ok (.iload 5, 2) := by decide +kernel
theorem d4_107 : decode prog_3_method_2_code 107 = .ok (.aload 4, 2) := by decide +kernel
theorem d4_109 : decode prog_3_method_2_code 109 = .ok (.getfield 63, 3) := by decide +kernel
theorem d4_112 : decode prog_3_method_2_code 112 = .ok (.getfield 52, 3) := by decide +kernel
theorem d4_115 : decode prog_3_method_2_code 115 = .ok (.iastore, 1) := by decide +kernel
theorem d4_116 : decode prog_3_method_2_code 116 = .ok (.aload_n 0, 1) := by decide +kernel
theorem d4_117 : decode prog_3_method_2_code 117 = .ok (.getfield 32, 3) := by decide +kernel
theorem d4_120 : decode prog_3_method_2_code 120 = .ok (.iload 5, 2) := by decide +kernel
theorem d4_122 : decode prog_3_method_2_code 122 = .ok (.aload 4, 2) := by decide +kernel
theorem d4_124 : decode prog_3_method_2_code 124 = .ok (.getfield 63, 3) := by decide +kernel
theorem d4_127 : decode prog_3_method_2_code 127 = .ok (.getfield 57, 3) := by decide +kernel
theorem d4_130 : decode prog_3_method_2_code 130 = .ok (.iastore, 1) := by decide +kernel
theorem d4_131 : decode prog_3_method_2_code 131 = .ok (.aload_n 0, 1) := by decide +kernel
theorem d4_132 : decode prog_3_method_2_code 132 = .ok (.getfield 35, 3) := by decide +kernel
theorem d4_135 : decode prog_3_method_2_code 135 = .ok (.iload 5, 2) := by decide +kernel
theorem d4_137 : decode prog_3_method_2_code 137 = .ok (.aload 4, 2) := by decide +kernel
theorem d4_139 : decode prog_3_method_2_code 139 = .ok (.getfield 63, 3) := by decide +kernel
theorem d4_142 : decode prog_3_method_2_code 142 = .ok (.getfield 60, 3) := by decide +kernel
theorem d4_145 : decode prog_3_method_2_code 145 = .ok (.iastore, 1) := by decide +kernel
theorem d4_146 : decode prog_3_method_2_code 146 = .ok (.iinc 5 1, 3) := by decide +kernel
theorem d4_149 : decode prog_3_method_2_code 149 = .ok (.goto (-129), 3) := by decide +kernel
theorem d4_152 : decode prog_3_method_2_code 152 = .ok (.aload 4, 2) := by decide +kernel
theorem d4_154 : decode prog_3_method_2_code 154 = .ok (.invokevirtual 65, 3) := by decide +kernel
theorem d4_157 : decode prog_3_method_2_code 157 = .ok (.ireturn, 1) := by decide +kernel
def f4_c41_b0_lowOut0 (cl0 : Int32) : Int32 := (f8_j123_s0 cl0 (5 : Int32) (0 : Int32) (5 : Int32))
def f4_c41_b12nr3_runs0 (p4 : Int32) (hm : Int32) (cl0 : Int32) : Int32 := (f8_j64_F_r3_runs_0 cl0 p4 (5 : Int32) hm (5 : Int32) (0 : Int32) (0 : Int32) (5 : Int32) (0 : Int32) (0 : Int32))
def f4_c41_b12nr3_length0 (p4 : Int32) (hm : Int32) (cl0 : Int32) : Int32 := (f8_j64_F_r3_length_0 cl0 p4 (5 : Int32) hm (5 : Int32) (0 : Int32) (0 : Int32) (5 : Int32) (0 : Int32) (0 : Int32))
def f4_c41_b12nr3_lows0 (p4 : Int32) (hm : Int32) (cl0 : Int32) : Int32 := (f8_j64_F_r3_lows_0 cl0 p4 (5 : Int32) hm (5 : Int32) (0 : Int32) (0 : Int32) (5 : Int32) (0 : Int32) (0 : Int32))
def f4_c41_b12nr4_runs0 (p4 : Int32) (hm : Int32) (ch0 : Int32) : Int32 := (f8_j109_F_r4_runs_0 ch0 p4 (5 : Int32) hm (0 : Int32) (5 : Int32) (0 : Int32) (0 : Int32) (5 : Int32) (0 : Int32) (0 : Int32))
def f4_c41_b12nr4_length0 (p4 : Int32) (hm : Int32) (ch0 : Int32) : Int32 := (f8_j109_F_r4_length_0 ch0 p4 (5 : Int32) hm (0 : Int32) (5 : Int32) (0 : Int32) (0 : Int32) (5 : Int32) (0 : Int32) (0 : Int32))
def f4_c41_b12nr4_lows0 (p4 : Int32) (hm : Int32) (ch0 : Int32) : Int32 := (f8_j109_F_r4_lows_0 ch0 p4 (5 : Int32) hm (0 : Int32) (5 : Int32) (0 : Int32) (0 : Int32) (5 : Int32) (0 : Int32) (0 : Int32))
def f4_c41_b0_lowOut0_1 (p4 : Int32) (hm : Int32) (cl0 : Int32) (cl1 : Int32) (ch0 : Int32) : Int32 := (f8_j123_s0 cl1 (5 : Int32) (f4_c41_b0_lowOut0 cl0) (f4_c41_b12nr4_runs0 p4 hm ch0))
def f4_c41_b12nr1_runs0 (p4 : Int32) (hm : Int32) (cl0 : Int32) (cl1 : Int32) (ch0 : Int32) : Int32 := (f8_j64_F_r3_runs_0 cl1 p4 (5 : Int32) hm (f4_c41_b12nr3_runs0 p4 hm cl0) (f4_c41_b12nr3_length0 p4 hm cl0) (f4_c41_b12nr3_lows0 p4 hm cl0) (f4_c41_b12nr4_runs0 p4 hm ch0) (f4_c41_b12nr4_length0 p4 hm ch0) (f4_c41_b12nr4_lows0 p4 hm ch0))
def f4_c41_b12nr1_length0 (p4 : Int32) (hm : Int32) (cl0 : Int32) (cl1 : Int32) (ch0 : Int32) : Int32 := (f8_j64_F_r3_length_0 cl1 p4 (5 : Int32) hm (f4_c41_b12nr3_runs0 p4 hm cl0) (f4_c41_b12nr3_length0 p4 hm cl0) (f4_c41_b12nr3_lows0 p4 hm cl0) (f4_c41_b12nr4_runs0 p4 hm ch0) (f4_c41_b12nr4_length0 p4 hm ch0) (f4_c41_b12nr4_lows0 p4 hm ch0))
def f4_c41_b12nr1_lows0 (p4 : Int32) (hm : Int32) (cl0 : Int32) (cl1 : Int32) (ch0 : Int32) : Int32 := (f8_j64_F_r3_lows_0 cl1 p4 (5 : Int32) hm (f4_c41_b12nr3_runs0 p4 hm cl0) (f4_c41_b12nr3_length0 p4 hm cl0) (f4_c41_b12nr3_lows0 p4 hm cl0) (f4_c41_b12nr4_runs0 p4 hm ch0) (f4_c41_b12nr4_length0 p4 hm ch0) (f4_c41_b12nr4_lows0 p4 hm ch0))
def f4_c41_b12nr2_runs0 (p4 : Int32) (hm : Int32) (cl0 : Int32) (ch0 : Int32) (ch1 : Int32) : Int32 := (f8_j109_F_r4_runs_0 ch1 p4 (5 : Int32) hm (f4_c41_b0_lowOut0 cl0) (f4_c41_b12nr3_runs0 p4 hm cl0) (f4_c41_b12nr3_length0 p4 hm cl0) (f4_c41_b12nr3_lows0 p4 hm cl0) (f4_c41_b12nr4_runs0 p4 hm ch0) (f4_c41_b12nr4_length0 p4 hm ch0) (f4_c41_b12nr4_lows0 p4 hm ch0))
def f4_c41_b12nr2_length0 (p4 : Int32) (hm : Int32) (cl0 : Int32) (ch0 : Int32) (ch1 : Int32) : Int32 := (f8_j109_F_r4_length_0 ch1 p4 (5 : Int32) hm (f4_c41_b0_lowOut0 cl0) (f4_c41_b12nr3_runs0 p4 hm cl0) (f4_c41_b12nr3_length0 p4 hm cl0) (f4_c41_b12nr3_lows0 p4 hm cl0) (f4_c41_b12nr4_runs0 p4 hm ch0) (f4_c41_b12nr4_length0 p4 hm ch0) (f4_c41_b12nr4_lows0 p4 hm ch0))
def f4_c41_b12nr2_lows0 (p4 : Int32) (hm : Int32) (cl0 : Int32) (ch0 : Int32) (ch1 : Int32) : Int32 := (f8_j109_F_r4_lows_0 ch1 p4 (5 : Int32) hm (f4_c41_b0_lowOut0 cl0) (f4_c41_b12nr3_runs0 p4 hm cl0) (f4_c41_b12nr3_length0 p4 hm cl0) (f4_c41_b12nr3_lows0 p4 hm cl0) (f4_c41_b12nr4_runs0 p4 hm ch0) (f4_c41_b12nr4_length0 p4 hm ch0) (f4_c41_b12nr4_lows0 p4 hm ch0))
def f4_c41_b0_lowOut0_2 (p4 : Int32) (hm : Int32) (cl0 : Int32) (cl1 : Int32) (cl2 : Int32) (ch0 : Int32) (ch1 : Int32) : Int32 := (f8_j123_s0 cl2 (5 : Int32) (f4_c41_b0_lowOut0_1 p4 hm cl0 cl1 ch0) (f4_c41_b12nr2_runs0 p4 hm cl0 ch0 ch1))
def f4_c41_b12nr3_runs0_1 (p4 : Int32) (hm : Int32) (cl0 : Int32) (cl1 : Int32) (cl2 : Int32) (ch0 : Int32) (ch1 : Int32) : Int32 := (f8_j64_F_r3_runs_0 cl2 p4 (5 : Int32) hm (f4_c41_b12nr1_runs0 p4 hm cl0 cl1 ch0) (f4_c41_b12nr1_length0 p4 hm cl0 cl1 ch0) (f4_c41_b12nr1_lows0 p4 hm cl0 cl1 ch0) (f4_c41_b12nr2_runs0 p4 hm cl0 ch0 ch1) (f4_c41_b12nr2_length0 p4 hm cl0 ch0 ch1) (f4_c41_b12nr2_lows0 p4 hm cl0 ch0 ch1))
def f4_c41_b12nr3_length0_1 (p4 : Int32) (hm : Int32) (cl0 : Int32) (cl1 : Int32) (cl2 : Int32) (ch0 : Int32) (ch1 : Int32) : Int32 := (f8_j64_F_r3_length_0 cl2 p4 (5 : Int32) hm (f4_c41_b12nr1_runs0 p4 hm cl0 cl1 ch0) (f4_c41_b12nr1_length0 p4 hm cl0 cl1 ch0) (f4_c41_b12nr1_lows0 p4 hm cl0 cl1 ch0) (f4_c41_b12nr2_runs0 p4 hm cl0 ch0 ch1) (f4_c41_b12nr2_length0 p4 hm cl0 ch0 ch1) (f4_c41_b12nr2_lows0 p4 hm cl0 ch0 ch1))
def f4_c41_b12nr3_lows0_1 (p4 : Int32) (hm : Int32) (cl0 : Int32) (cl1 : Int32) (cl2 : Int32) (ch0 : Int32) (ch1 : Int32) : Int32 := (f8_j64_F_r3_lows_0 cl2 p4 (5 : Int32) hm (f4_c41_b12nr1_runs0 p4 hm cl0 cl1 ch0) (f4_c41_b12nr1_length0 p4 hm cl0 cl1 ch0) (f4_c41_b12nr1_lows0 p4 hm cl0 cl1 ch0) (f4_c41_b12nr2_runs0 p4 hm cl0 ch0 ch1) (f4_c41_b12nr2_length0 p4 hm cl0 ch0 ch1) (f4_c41_b12nr2_lows0 p4 hm cl0 ch0 ch1))
def f4_c41_b12nr4_runs0_1 (p4 : Int32) (hm : Int32) (cl0 : Int32) (cl1 : Int32) (ch0 : Int32) (ch1 : Int32) (ch2 : Int32) : Int32 := (f8_j109_F_r4_runs_0 ch2 p4 (5 : Int32) hm (f4_c41_b0_lowOut0_1 p4 hm cl0 cl1 ch0) (f4_c41_b12nr1_runs0 p4 hm cl0 cl1 ch0) (f4_c41_b12nr1_length0 p4 hm cl0 cl1 ch0) (f4_c41_b12nr1_lows0 p4 hm cl0 cl1 ch0) (f4_c41_b12nr2_runs0 p4 hm cl0 ch0 ch1) (f4_c41_b12nr2_length0 p4 hm cl0 ch0 ch1) (f4_c41_b12nr2_lows0 p4 hm cl0 ch0 ch1))
def f4_c41_b12nr4_length0_1 (p4 : Int32) (hm : Int32) (cl0 : Int32) (cl1 : Int32) (ch0 : Int32) (ch1 : Int32) (ch2 : Int32) : Int32 := (f8_j109_F_r4_length_0 ch2 p4 (5 : Int32) hm (f4_c41_b0_lowOut0_1 p4 hm cl0 cl1 ch0) (f4_c41_b12nr1_runs0 p4 hm cl0 cl1 ch0) (f4_c41_b12nr1_length0 p4 hm cl0 cl1 ch0) (f4_c41_b12nr1_lows0 p4 hm cl0 cl1 ch0) (f4_c41_b12nr2_runs0 p4 hm cl0 ch0 ch1) (f4_c41_b12nr2_length0 p4 hm cl0 ch0 ch1) (f4_c41_b12nr2_lows0 p4 hm cl0 ch0 ch1))
def f4_c41_b12nr4_lows0_1 (p4 : Int32) (hm : Int32) (cl0 : Int32) (cl1 : Int32) (ch0 : Int32) (ch1 : Int32) (ch2 : Int32) : Int32 := (f8_j109_F_r4_lows_0 ch2 p4 (5 : Int32) hm (f4_c41_b0_lowOut0_1 p4 hm cl0 cl1 ch0) (f4_c41_b12nr1_runs0 p4 hm cl0 cl1 ch0) (f4_c41_b12nr1_length0 p4 hm cl0 cl1 ch0) (f4_c41_b12nr1_lows0 p4 hm cl0 cl1 ch0) (f4_c41_b12nr2_runs0 p4 hm cl0 ch0 ch1) (f4_c41_b12nr2_length0 p4 hm cl0 ch0 ch1) (f4_c41_b12nr2_lows0 p4 hm cl0 ch0 ch1))
def f4_c41_b0_lowOut0_3 (p4 : Int32) (hm : Int32) (cl0 : Int32) (cl1 : Int32) (cl2 : Int32) (cl3 : Int32) (ch0 : Int32) (ch1 : Int32) (ch2 : Int32) : Int32 := (f8_j123_s0 cl3 (5 : Int32) (f4_c41_b0_lowOut0_2 p4 hm cl0 cl1 cl2 ch0 ch1) (f4_c41_b12nr4_runs0_1 p4 hm cl0 cl1 ch0 ch1 ch2))
def f4_c41_b12nr1_runs0_1 (p4 : Int32) (hm : Int32) (cl0 : Int32) (cl1 : Int32) (cl2 : Int32) (cl3 : Int32) (ch0 : Int32) (ch1 : Int32) (ch2 : Int32) : Int32 := (f8_j64_F_r3_runs_0 cl3 p4 (5 : Int32) hm (f4_c41_b12nr3_runs0_1 p4 hm cl0 cl1 cl2 ch0 ch1) (f4_c41_b12nr3_length0_1 p4 hm cl0 cl1 cl2 ch0 ch1) (f4_c41_b12nr3_lows0_1 p4 hm cl0 cl1 cl2 ch0 ch1) (f4_c41_b12nr4_runs0_1 p4 hm cl0 cl1 ch0 ch1 ch2) (f4_c41_b12nr4_length0_1 p4 hm cl0 cl1 ch0 ch1 ch2) (f4_c41_b12nr4_lows0_1 p4 hm cl0 cl1 ch0 ch1 ch2))
def f4_c41_b12nr1_length0_1 (p4 : Int32) (hm : Int32) (cl0 : Int32) (cl1 : Int32) (cl2 : Int32) (cl3 : Int32) (ch0 : Int32) (ch1 : Int32) (ch2 : Int32) : Int32 := (f8_j64_F_r3_length_0 cl3 p4 (5 : Int32) hm (f4_c41_b12nr3_runs0_1 p4 hm cl0 cl1 cl2 ch0 ch1) (f4_c41_b12nr3_length0_1 p4 hm cl0 cl1 cl2 ch0 ch1) (f4_c41_b12nr3_lows0_1 p4 hm cl0 cl1 cl2 ch0 ch1) (f4_c41_b12nr4_runs0_1 p4 hm cl0 cl1 ch0 ch1 ch2) (f4_c41_b12nr4_length0_1 p4 hm cl0 cl1 ch0 ch1 ch2) (f4_c41_b12nr4_lows0_1 p4 hm cl0 cl1 ch0 ch1 ch2))
def f4_c41_b12nr1_lows0_1 (p4 : Int32) (hm : Int32) (cl0 : Int32) (cl1 : Int32) (cl2 : Int32) (cl3 : Int32) (ch0 : Int32) (ch1 : Int32) (ch2 : Int32) : Int32 := (f8_j64_F_r3_lows_0 cl3 p4 (5 : Int32) hm (f4_c41_b12nr3_runs0_1 p4 hm cl0 cl1 cl2 ch0 ch1) (f4_c41_b12nr3_length0_1 p4 hm cl0 cl1 cl2 ch0 ch1) (f4_c41_b12nr3_lows0_1 p4 hm cl0 cl1 cl2 ch0 ch1) (f4_c41_b12nr4_runs0_1 p4 hm cl0 cl1 ch0 ch1 ch2) (f4_c41_b12nr4_length0_1 p4 hm cl0 cl1 ch0 ch1 ch2) (f4_c41_b12nr4_lows0_1 p4 hm cl0 cl1 ch0 ch1 ch2))
def f4_c41_b12nr2_runs0_1 (p4 : Int32) (hm : Int32) (cl0 : Int32) (cl1 : Int32) (cl2 : Int32) (ch0 : Int32) (ch1 : Int32) (ch2 : Int32) (ch3 : Int32) : Int32 := (f8_j109_F_r4_runs_0 ch3 p4 (5 : Int32) hm (f4_c41_b0_lowOut0_2 p4 hm cl0 cl1 cl2 ch0 ch1) (f4_c41_b12nr3_runs0_1 p4 hm cl0 cl1 cl2 ch0 ch1) (f4_c41_b12nr3_length0_1 p4 hm cl0 cl1 cl2 ch0 ch1) (f4_c41_b12nr3_lows0_1 p4 hm cl0 cl1 cl2 ch0 ch1) (f4_c41_b12nr4_runs0_1 p4 hm cl0 cl1 ch0 ch1 ch2) (f4_c41_b12nr4_length0_1 p4 hm cl0 cl1 ch0 ch1 ch2) (f4_c41_b12nr4_lows0_1 p4 hm cl0 cl1 ch0 ch1 ch2))
def f4_c41_b12nr2_length0_1 (p4 : Int32) (hm : Int32) (cl0 : Int32) (cl1 : Int32) (cl2 : Int32) (ch0 : Int32) (ch1 : Int32) (ch2 : Int32) (ch3 : Int32) : Int32 := (f8_j109_F_r4_length_0 ch3 p4 (5 : Int32) hm (f4_c41_b0_lowOut0_2 p4 hm cl0 cl1 cl2 ch0 ch1) (f4_c41_b12nr3_runs0_1 p4 hm cl0 cl1 cl2 ch0 ch1) (f4_c41_b12nr3_length0_1 p4 hm cl0 cl1 cl2 ch0 ch1) (f4_c41_b12nr3_lows0_1 p4 hm cl0 cl1 cl2 ch0 ch1) (f4_c41_b12nr4_runs0_1 p4 hm cl0 cl1 ch0 ch1 ch2) (f4_c41_b12nr4_length0_1 p4 hm cl0 cl1 ch0 ch1 ch2) (f4_c41_b12nr4_lows0_1 p4 hm cl0 cl1 ch0 ch1 ch2))
def f4_c41_b12nr2_lows0_1 (p4 : Int32) (hm : Int32) (cl0 : Int32) (cl1 : Int32) (cl2 : Int32) (ch0 : Int32) (ch1 : Int32) (ch2 : Int32) (ch3 : Int32) : Int32 := (f8_j109_F_r4_lows_0 ch3 p4 (5 : Int32) hm (f4_c41_b0_lowOut0_2 p4 hm cl0 cl1 cl2 ch0 ch1) (f4_c41_b12nr3_runs0_1 p4 hm cl0 cl1 cl2 ch0 ch1) (f4_c41_b12nr3_length0_1 p4 hm cl0 cl1 cl2 ch0 ch1) (f4_c41_b12nr3_lows0_1 p4 hm cl0 cl1 cl2 ch0 ch1) (f4_c41_b12nr4_runs0_1 p4 hm cl0 cl1 ch0 ch1 ch2) (f4_c41_b12nr4_length0_1 p4 hm cl0 cl1 ch0 ch1 ch2) (f4_c41_b12nr4_lows0_1 p4 hm cl0 cl1 ch0 ch1 ch2))
def f4 (p4 : Int32) (hm : Int32) (cl0 : Int32) (cl1 : Int32) (cl2 : Int32) (cl3 : Int32) (ch0 : Int32) (ch1 : Int32) (ch2 : Int32) (ch3 : Int32) : Int32 := (f9 (f4_c41_b0_lowOut0_3 p4 hm cl0 cl1 cl2 cl3 ch0 ch1 ch2) (f4_c41_b12nr2_runs0_1 p4 hm cl0 cl1 cl2 ch0 ch1 ch2 ch3))
def Q4 (Z : State) (a1 : Addr) (a2 : Addr) (a3 : Addr) (p4 : Int32) (m1 : Addr) (m2 : Addr) (m3 : Addr) (m4 : Addr) (m5 : Addr) (m6 : Addr) (m7 : Addr) (hm : Int32) (cl0 : Int32) (cl1 : Int32) (cl2 : Int32) (cl3 : Int32) (ch0 : Int32) (ch1 : Int32) (ch2 : Int32) (ch3 : Int32) (h0 : Heap) (n0 : Nat) (v : Option Value) (h : Heap) (L : List Loc) : Prop := v = some (.int (f4 p4 hm cl0 cl1 cl2 cl3 ch0 ch1 ch2 ch3)) ∧ Fr n0 L ∧ Keep h0 h [m1, m2, m3, m4, m5, m6, m7] ∧ IL Z h m1 .int 4 ∧ IL Z h m2 .int 4 ∧ IL Z h m3 .int 4 ∧ IL Z h m4 .int 4 ∧ IL Z h m5 .int 4 ∧ IL Z h m6 .int 4 ∧ IL Z h m7 .int 4
def rmR4 : Room := { frames := 3, cells := 5, slots := 19, locals := 50 }
theorem ef_4 (m : MethodId) (a1 : Addr) (a2 : Addr) (a3 : Addr) (p4 : Int32) : entryFrame m #[(.ref a1), (.ref a2), (.ref a3), (.int p4)] 6 = mkF m 0 #[.val (.ref a1), .val (.ref a2), .val (.ref a3), .val (.int p4), .unset, .unset] [] := by first | (simp [entryFrame, mkF, argsToLocals, Value.category]; done) | rfl
set_option maxRecDepth 65536 in
set_option maxHeartbeats 40000000 in
theorem rm4 (l : Launch) (Z : State) (a0 : Array Value) (hw : ∀ d ∈ tables_1, d.before a0 Z = true) (ws : List Jvm.Cond) (a1 : Addr) (a2 : Addr) (a3 : Addr) (p4 : Int32) (m1 : Addr) (m2 : Addr) (m3 : Addr) (m4 : Addr) (m5 : Addr) (m6 : Addr) (m7 : Addr) (hm : Int32) (cl0 : Int32) (cl1 : Int32) (cl2 : Int32) (cl3 : Int32) (ch0 : Int32) (ch1 : Int32) (ch2 : Int32) (ch3 : Int32) (h0 : Heap) (n0 : Nat) (Z0 : n0 ≤ h0.size) (F_E_a1 : Exa Z h0 a1 nm4) (F_F_a1_impossible : Fld Z h0 a1 nm4 "impossible" "I" (.int (5 : Int32))) (F_F_a1_h : Fld Z h0 a1 nm4 "h" "I" (.int hm)) (F_F_a1_lowOut : Fld Z h0 a1 nm4 "lowOut" "[I" (.ref m1)) (F_F_a1_lowIn : Fld Z h0 a1 nm4 "lowIn" "[I" (.ref m2)) (F_F_a1_lowInLength : Fld Z h0 a1 nm4 "lowInLength" "[I" (.ref m3)) (F_F_a1_lowInLows : Fld Z h0 a1 nm4 "lowInLows" "[I" (.ref m4)) (F_F_a1_high : Fld Z h0 a1 nm4 "high" "[I" (.ref m5)) (F_F_a1_highLength : Fld Z h0 a1 nm4 "highLength" "[I" (.ref m6)) (F_F_a1_highLows : Fld Z h0 a1 nm4 "highLows" "[I" (.ref m7)) (F_N_m1 : IL Z h0 m1 .int 4) (F_N_m2 : IL Z h0 m2 .int 4) (F_N_m3 : IL Z h0 m3 .int 4) (F_N_m4 : IL Z h0 m4 .int 4) (F_N_m5 : IL Z h0 m5 .int 4) (F_N_m6 : IL Z h0 m6 .int 4) (F_N_m7 : IL Z h0 m7 .int 4) (F_A_a2 : IA Z h0 a2 .boolean [(.int cl0), (.int cl1), (.int cl2), (.int cl3)]) (F_A_a3 : IA Z h0 a3 .boolean [(.int ch0), (.int ch1), (.int ch2), (.int ch3)]) (g_m1 : n0 ≤ m1) (g_m2 : n0 ≤ m2) (g_m3 : n0 ≤ m3) (g_m4 : n0 ≤ m4) (g_m5 : n0 ≤ m5) (g_m6 : n0 ≤ m6) (g_m7 : n0 ≤ m7) (ne_a1_m1 : a1 ≠ m1) (ne_a2_m1 : a2 ≠ m1) (ne_a3_m1 : a3 ≠ m1) (ne_a1_m2 : a1 ≠ m2) (ne_a2_m2 : a2 ≠ m2) (ne_a3_m2 : a3 ≠ m2) (ne_a1_m3 : a1 ≠ m3) (ne_a2_m3 : a2 ≠ m3) (ne_a3_m3 : a3 ≠ m3) (ne_a1_m4 : a1 ≠ m4) (ne_a2_m4 : a2 ≠ m4) (ne_a3_m4 : a3 ≠ m4) (ne_a1_m5 : a1 ≠ m5) (ne_a2_m5 : a2 ≠ m5) (ne_a3_m5 : a3 ≠ m5) (ne_a1_m6 : a1 ≠ m6) (ne_a2_m6 : a2 ≠ m6) (ne_a3_m6 : a3 ≠ m6) (ne_a1_m7 : a1 ≠ m7) (ne_a2_m7 : a2 ≠ m7) (ne_a3_m7 : a3 ≠ m7) :
    Mt l Z mt11 (Jvm.Cond.code mt11 prog_3_method_2_code 6 (some .int) :: ws) rmR4 #[(.ref a1), (.ref a2), (.ref a3), (.int p4)] h0 (Q4 Z a1 a2 a3 p4 m1 m2 m3 m4 m5 m6 m7 hm cl0 cl1 cl2 cl3 ch0 ch1 ch2 ch3 h0 n0) := by
  refine Mt.of n0 (plainFor_of_name pn_com_example_tightfold_tightfold_FocusFiltering) ?_
  intro p e s m below meth c T0 X0 hx hZ hby hml hown hret hlk hnm hs0
  have hown : s.vm.findClass "com/example/tightfold/tightfold/FocusFiltering" = some m.cls := hown
  rw [ef_4]
  show Rt p e below s rmR4.cells rmR4.slots (Q4 Z a1 a2 a3 p4 m1 m2 m3 m4 m5 m6 m7 hm cl0 cl1 cl2 cl3 ch0 ch1 ch2 ch3 h0 n0) (T0.setTop (mkF m 0 #[.val (.ref a1), .val (.ref a2), .val (.ref a3), .val (.int p4), .unset, .unset] []))
  refine Rt.newO (pc' := 3) X0 hx hZ hown (hw _ (List.mem_of_getElem? (i := 39) rfl)) (hw _ (List.mem_of_getElem? (i := 40) rfl)) (hw _ (List.mem_of_getElem? (i := 41) rfl)) (hb hby d4_0) (by decide) (by decide) rfl ?_
  intro T1 h1 b0 ha1 X1 E1 A1 D1
  have g2 : n0 ≤ b0 := by rw [ha1]; exact Z0
  have s3 : h0.size ≤ b0 := by rw [ha1]; exact (Keep.refl h0 [m1, m2, m3, m4, m5, m6, m7]).1
  have ne4 : a1 ≠ b0 := by rw [ha1]; exact Nat.ne_of_lt F_E_a1.lt
  have ne5 : m1 ≠ b0 := by rw [ha1]; exact Nat.ne_of_lt F_N_m1.lt
  have ne6 : m2 ≠ b0 := by rw [ha1]; exact Nat.ne_of_lt F_N_m2.lt
  have ne7 : m3 ≠ b0 := by rw [ha1]; exact Nat.ne_of_lt F_N_m3.lt
  have ne8 : m4 ≠ b0 := by rw [ha1]; exact Nat.ne_of_lt F_N_m4.lt
  have ne9 : m5 ≠ b0 := by rw [ha1]; exact Nat.ne_of_lt F_N_m5.lt
  have ne10 : m6 ≠ b0 := by rw [ha1]; exact Nat.ne_of_lt F_N_m6.lt
  have ne11 : m7 ≠ b0 := by rw [ha1]; exact Nat.ne_of_lt F_N_m7.lt
  have ne12 : a2 ≠ b0 := by rw [ha1]; exact Nat.ne_of_lt F_A_a2.lt
  have ne13 : a3 ≠ b0 := by rw [ha1]; exact Nat.ne_of_lt F_A_a3.lt
  have F14 : Exa Z h1 a1 nm4 := F_E_a1.ext E1
  have F15 : Fld Z h1 a1 nm4 "impossible" "I" (.int (5 : Int32)) := F_F_a1_impossible.ext E1
  have F16 : Fld Z h1 a1 nm4 "h" "I" (.int hm) := F_F_a1_h.ext E1
  have F17 : Fld Z h1 a1 nm4 "lowOut" "[I" (.ref m1) := F_F_a1_lowOut.ext E1
  have F18 : Fld Z h1 a1 nm4 "lowIn" "[I" (.ref m2) := F_F_a1_lowIn.ext E1
  have F19 : Fld Z h1 a1 nm4 "lowInLength" "[I" (.ref m3) := F_F_a1_lowInLength.ext E1
  have F20 : Fld Z h1 a1 nm4 "lowInLows" "[I" (.ref m4) := F_F_a1_lowInLows.ext E1
  have F21 : Fld Z h1 a1 nm4 "high" "[I" (.ref m5) := F_F_a1_high.ext E1
  have F22 : Fld Z h1 a1 nm4 "highLength" "[I" (.ref m6) := F_F_a1_highLength.ext E1
  have F23 : Fld Z h1 a1 nm4 "highLows" "[I" (.ref m7) := F_F_a1_highLows.ext E1
  have F24 : IL Z h1 m1 .int 4 := F_N_m1.ext E1
  have F25 : IL Z h1 m2 .int 4 := F_N_m2.ext E1
  have F26 : IL Z h1 m3 .int 4 := F_N_m3.ext E1
  have F27 : IL Z h1 m4 .int 4 := F_N_m4.ext E1
  have F28 : IL Z h1 m5 .int 4 := F_N_m5.ext E1
  have F29 : IL Z h1 m6 .int 4 := F_N_m6.ext E1
  have F30 : IL Z h1 m7 .int 4 := F_N_m7.ext E1
  have F31 : IA Z h1 a2 .boolean [(.int cl0), (.int cl1), (.int cl2), (.int cl3)] := F_A_a2.ext E1
  have F32 : IA Z h1 a3 .boolean [(.int ch0), (.int ch1), (.int ch2), (.int ch3)] := F_A_a3.ext E1
  have K33 : Keep h0 h1 [m1, m2, m3, m4, m5, m6, m7] := (Keep.refl h0 [m1, m2, m3, m4, m5, m6, m7]).ext E1
  have Z34 : n0 ≤ h1.size := Nat.le_trans Z0 E1.1
  have F35 : Fld Z h1 b0 nm2 "lowIn" nm3 .null := D1 (Or.inl (hw _ (List.mem_of_getElem? (i := 54) rfl))) (ty := (.object "com/example/tightfold/tightfold/FocusFiltering$Run")) (by decide)
  have F36 : Fld Z h1 b0 nm2 "high" nm3 .null := D1 (Or.inl (hw _ (List.mem_of_getElem? (i := 56) rfl))) (ty := (.object "com/example/tightfold/tightfold/FocusFiltering$Run")) (by decide)
  have F37 : Fld Z h1 b0 nm2 "nextLowIn" nm3 .null := D1 (Or.inl (hw _ (List.mem_of_getElem? (i := 58) rfl))) (ty := (.object "com/example/tightfold/tightfold/FocusFiltering$Run")) (by decide)
  have F38 : Fld Z h1 b0 nm2 "nextHigh" nm3 .null := D1 (Or.inl (hw _ (List.mem_of_getElem? (i := 60) rfl))) (ty := (.object "com/example/tightfold/tightfold/FocusFiltering$Run")) (by decide)
  have F39 : Fld Z h1 b0 nm2 "impossible" "I" (.int (0 : Int32)) := D1 (Or.inr (hw _ (List.mem_of_getElem? (i := 62) rfl))) (ty := .int) (by decide)
  have F40 : Fld Z h1 b0 nm2 "h" "I" (.int (0 : Int32)) := D1 (Or.inr (hw _ (List.mem_of_getElem? (i := 64) rfl))) (ty := .int) (by decide)
  have F41 : Fld Z h1 b0 nm2 "lowOut" "I" (.int (0 : Int32)) := D1 (Or.inl (hw _ (List.mem_of_getElem? (i := 66) rfl))) (ty := .int) (by decide)
  refine Rt.dup (pc' := 4) X1 hx (hb hby d4_3) rfl rfl ?_
  refine Rt.aloadN (pc' := 5) X1 hx (hb hby d4_4) rfl rfl rfl ?_
  refine Rt.getF (pc' := 8) (v := (.int (5 : Int32))) X1 hx hZ hown (host := "") (Or.inl (hw _ (List.mem_of_getElem? (i := 15) rfl))) F15 (hb hby d4_5) rfl ?_
  intro T42 X42
  refine Rt.aloadN (pc' := 9) X42 hx (hb hby d4_8) rfl rfl rfl ?_
  refine Rt.getF (pc' := 12) (v := (.int hm)) X42 hx hZ hown (host := "") (Or.inl (hw _ (List.mem_of_getElem? (i := 17) rfl))) F16 (hb hby d4_9) rfl ?_
  intro T43 X43
  refine Rt.callI (pc' := 15) X43 hx hZ (y := mt9) rfl hown (hw _ (List.mem_of_getElem? (i := 42) rfl)) (hw _ (List.mem_of_getElem? (i := 43) rfl)) (hw _ (List.mem_of_getElem? (i := 41) rfl)) (hw _ (List.mem_of_getElem? (i := 44) rfl)) (by decide) (rm5 l Z a0 hw [] b0 (5 : Int32) hm h1 n0 Z34 A1 F39 F40 F41 F35 F36 F37 F38 g2) (fun _ _ _ q => (by obtain ⟨_, _, _, _, _, _, _, _, _, _, _, _, _, _, _, q, _⟩ := q; exact q)) (W := 1) (by decide) (by decide) (by decide) (by decide) (argsL := [(.int (5 : Int32)), (.int hm)]) (rest := [(.ref b0)]) (by rw [hml]; rfl) (lenOf pd_6 rfl) rfl rfl (Nat.le_of_eq rfl) (hb hby d4_12) rfl ?_
  rintro _ T44 h44 L44 X44 ⟨b12nr1, b12nr2, b12nr3, b12nr4, sb12nr1, sb12nr2, sb12nr3, sb12nr4, ne69, ne70, ne71, ne72, ne73, ne74, rfl, N44, K44, F45, F46, F47, F48, F49, F50, F51, F52, F53, F54, F55, F56, F57, F58, F59, F60, F61, F62, F63, F64, F65, F66, F67, F68⟩
  have g75 : n0 ≤ b12nr1 := Nat.le_trans Z34 sb12nr1
  have s76 : h0.size ≤ b12nr1 := Nat.le_trans K33.1 sb12nr1
  have ne77 : a1 ≠ b12nr1 := Nat.ne_of_lt (Nat.lt_of_lt_of_le F14.lt sb12nr1)
  have ne78 : m1 ≠ b12nr1 := Nat.ne_of_lt (Nat.lt_of_lt_of_le F24.lt sb12nr1)
  have ne79 : m2 ≠ b12nr1 := Nat.ne_of_lt (Nat.lt_of_lt_of_le F25.lt sb12nr1)
  have ne80 : m3 ≠ b12nr1 := Nat.ne_of_lt (Nat.lt_of_lt_of_le F26.lt sb12nr1)
  have ne81 : m4 ≠ b12nr1 := Nat.ne_of_lt (Nat.lt_of_lt_of_le F27.lt sb12nr1)
  have ne82 : m5 ≠ b12nr1 := Nat.ne_of_lt (Nat.lt_of_lt_of_le F28.lt sb12nr1)
  have ne83 : m6 ≠ b12nr1 := Nat.ne_of_lt (Nat.lt_of_lt_of_le F29.lt sb12nr1)
  have ne84 : m7 ≠ b12nr1 := Nat.ne_of_lt (Nat.lt_of_lt_of_le F30.lt sb12nr1)
  have ne85 : a2 ≠ b12nr1 := Nat.ne_of_lt (Nat.lt_of_lt_of_le F31.lt sb12nr1)
  have ne86 : a3 ≠ b12nr1 := Nat.ne_of_lt (Nat.lt_of_lt_of_le F32.lt sb12nr1)
  have ne87 : b0 ≠ b12nr1 := Nat.ne_of_lt (Nat.lt_of_lt_of_le A1.lt sb12nr1)
  have g88 : n0 ≤ b12nr2 := Nat.le_trans Z34 sb12nr2
  have s89 : h0.size ≤ b12nr2 := Nat.le_trans K33.1 sb12nr2
  have ne90 : a1 ≠ b12nr2 := Nat.ne_of_lt (Nat.lt_of_lt_of_le F14.lt sb12nr2)
  have ne91 : m1 ≠ b12nr2 := Nat.ne_of_lt (Nat.lt_of_lt_of_le F24.lt sb12nr2)
  have ne92 : m2 ≠ b12nr2 := Nat.ne_of_lt (Nat.lt_of_lt_of_le F25.lt sb12nr2)
  have ne93 : m3 ≠ b12nr2 := Nat.ne_of_lt (Nat.lt_of_lt_of_le F26.lt sb12nr2)
  have ne94 : m4 ≠ b12nr2 := Nat.ne_of_lt (Nat.lt_of_lt_of_le F27.lt sb12nr2)
  have ne95 : m5 ≠ b12nr2 := Nat.ne_of_lt (Nat.lt_of_lt_of_le F28.lt sb12nr2)
  have ne96 : m6 ≠ b12nr2 := Nat.ne_of_lt (Nat.lt_of_lt_of_le F29.lt sb12nr2)
  have ne97 : m7 ≠ b12nr2 := Nat.ne_of_lt (Nat.lt_of_lt_of_le F30.lt sb12nr2)
  have ne98 : a2 ≠ b12nr2 := Nat.ne_of_lt (Nat.lt_of_lt_of_le F31.lt sb12nr2)
  have ne99 : a3 ≠ b12nr2 := Nat.ne_of_lt (Nat.lt_of_lt_of_le F32.lt sb12nr2)
  have ne100 : b0 ≠ b12nr2 := Nat.ne_of_lt (Nat.lt_of_lt_of_le A1.lt sb12nr2)
  have g101 : n0 ≤ b12nr3 := Nat.le_trans Z34 sb12nr3
  have s102 : h0.size ≤ b12nr3 := Nat.le_trans K33.1 sb12nr3
  have ne103 : a1 ≠ b12nr3 := Nat.ne_of_lt (Nat.lt_of_lt_of_le F14.lt sb12nr3)
  have ne104 : m1 ≠ b12nr3 := Nat.ne_of_lt (Nat.lt_of_lt_of_le F24.lt sb12nr3)
  have ne105 : m2 ≠ b12nr3 := Nat.ne_of_lt (Nat.lt_of_lt_of_le F25.lt sb12nr3)
  have ne106 : m3 ≠ b12nr3 := Nat.ne_of_lt (Nat.lt_of_lt_of_le F26.lt sb12nr3)
  have ne107 : m4 ≠ b12nr3 := Nat.ne_of_lt (Nat.lt_of_lt_of_le F27.lt sb12nr3)
  have ne108 : m5 ≠ b12nr3 := Nat.ne_of_lt (Nat.lt_of_lt_of_le F28.lt sb12nr3)
  have ne109 : m6 ≠ b12nr3 := Nat.ne_of_lt (Nat.lt_of_lt_of_le F29.lt sb12nr3)
  have ne110 : m7 ≠ b12nr3 := Nat.ne_of_lt (Nat.lt_of_lt_of_le F30.lt sb12nr3)
  have ne111 : a2 ≠ b12nr3 := Nat.ne_of_lt (Nat.lt_of_lt_of_le F31.lt sb12nr3)
  have ne112 : a3 ≠ b12nr3 := Nat.ne_of_lt (Nat.lt_of_lt_of_le F32.lt sb12nr3)
  have ne113 : b0 ≠ b12nr3 := Nat.ne_of_lt (Nat.lt_of_lt_of_le A1.lt sb12nr3)
  have g114 : n0 ≤ b12nr4 := Nat.le_trans Z34 sb12nr4
  have s115 : h0.size ≤ b12nr4 := Nat.le_trans K33.1 sb12nr4
  have ne116 : a1 ≠ b12nr4 := Nat.ne_of_lt (Nat.lt_of_lt_of_le F14.lt sb12nr4)
  have ne117 : m1 ≠ b12nr4 := Nat.ne_of_lt (Nat.lt_of_lt_of_le F24.lt sb12nr4)
  have ne118 : m2 ≠ b12nr4 := Nat.ne_of_lt (Nat.lt_of_lt_of_le F25.lt sb12nr4)
  have ne119 : m3 ≠ b12nr4 := Nat.ne_of_lt (Nat.lt_of_lt_of_le F26.lt sb12nr4)
  have ne120 : m4 ≠ b12nr4 := Nat.ne_of_lt (Nat.lt_of_lt_of_le F27.lt sb12nr4)
  have ne121 : m5 ≠ b12nr4 := Nat.ne_of_lt (Nat.lt_of_lt_of_le F28.lt sb12nr4)
  have ne122 : m6 ≠ b12nr4 := Nat.ne_of_lt (Nat.lt_of_lt_of_le F29.lt sb12nr4)
  have ne123 : m7 ≠ b12nr4 := Nat.ne_of_lt (Nat.lt_of_lt_of_le F30.lt sb12nr4)
  have ne124 : a2 ≠ b12nr4 := Nat.ne_of_lt (Nat.lt_of_lt_of_le F31.lt sb12nr4)
  have ne125 : a3 ≠ b12nr4 := Nat.ne_of_lt (Nat.lt_of_lt_of_le F32.lt sb12nr4)
  have ne126 : b0 ≠ b12nr4 := Nat.ne_of_lt (Nat.lt_of_lt_of_le A1.lt sb12nr4)
  have F127 : Exa Z h44 a1 nm4 := F14.keep K44
  have F128 : Fld Z h44 a1 nm4 "impossible" "I" (.int (5 : Int32)) := F15.keep K44 (ninS ne4 nin0)
  have F129 : Fld Z h44 a1 nm4 "h" "I" (.int hm) := F16.keep K44 (ninS ne4 nin0)
  have F130 : Fld Z h44 a1 nm4 "lowOut" "[I" (.ref m1) := F17.keep K44 (ninS ne4 nin0)
  have F131 : Fld Z h44 a1 nm4 "lowIn" "[I" (.ref m2) := F18.keep K44 (ninS ne4 nin0)
  have F132 : Fld Z h44 a1 nm4 "lowInLength" "[I" (.ref m3) := F19.keep K44 (ninS ne4 nin0)
  have F133 : Fld Z h44 a1 nm4 "lowInLows" "[I" (.ref m4) := F20.keep K44 (ninS ne4 nin0)
  have F134 : Fld Z h44 a1 nm4 "high" "[I" (.ref m5) := F21.keep K44 (ninS ne4 nin0)
  have F135 : Fld Z h44 a1 nm4 "highLength" "[I" (.ref m6) := F22.keep K44 (ninS ne4 nin0)
  have F136 : Fld Z h44 a1 nm4 "highLows" "[I" (.ref m7) := F23.keep K44 (ninS ne4 nin0)
  have F137 : IL Z h44 m1 .int 4 := F24.keep K44
  have F138 : IL Z h44 m2 .int 4 := F25.keep K44
  have F139 : IL Z h44 m3 .int 4 := F26.keep K44
  have F140 : IL Z h44 m4 .int 4 := F27.keep K44
  have F141 : IL Z h44 m5 .int 4 := F28.keep K44
  have F142 : IL Z h44 m6 .int 4 := F29.keep K44
  have F143 : IL Z h44 m7 .int 4 := F30.keep K44
  have F144 : IA Z h44 a2 .boolean [(.int cl0), (.int cl1), (.int cl2), (.int cl3)] := F31.keep K44 (ninS ne12 nin0)
  have F145 : IA Z h44 a3 .boolean [(.int ch0), (.int ch1), (.int ch2), (.int ch3)] := F32.keep K44 (ninS ne13 nin0)
  have F146 : Exa Z h44 b0 nm2 := A1.keep K44
  have K147 : Keep h0 h44 [m1, m2, m3, m4, m5, m6, m7] := K33.trans K44 (allS (Or.inr s3) all0)
  have Z148 : n0 ≤ h44.size := Nat.le_trans Z34 K44.1
  show Rt _ _ _ _ _ _ _ (T44.setTop (mkF m 15 #[.val (.ref a1), .val (.ref a2), .val (.ref a3), .val (.int p4), .unset, .unset] [(.ref b0)]))
  refine Rt.astore (pc' := 17) (v := (.ref b0)) (l' := #[.val (.ref a1), .val (.ref a2), .val (.ref a3), .val (.int p4), .val (.ref b0), .unset]) X44 hx (hb hby d4_15) rfl rfl rfl ?_
  refine Rt.iconst (pc' := 18) (v := (0 : Int32)) X44 hx (hb hby d4_17) rfl rfl ?_
  refine Rt.istore (pc' := 20) (v := (0 : Int32)) (l' := #[.val (.ref a1), .val (.ref a2), .val (.ref a3), .val (.int p4), .val (.ref b0), .val (.int (0 : Int32))]) X44 hx (hb hby d4_18) rfl rfl ?_
  refine Rt.iload (pc' := 22) X44 hx (hb hby d4_20) rfl rfl ?_
  refine Rt.aloadN (pc' := 23) X44 hx (hb hby d4_22) rfl rfl rfl ?_
  refine Rt.getF (pc' := 26) (v := (.ref m1)) X44 hx hZ hown (host := "") (Or.inl (hw _ (List.mem_of_getElem? (i := 20) rfl))) F130 (hb hby d4_23) rfl ?_
  intro T149 X149
  refine Rt.arraylengthL (pc' := 27) X149 hx hZ F137 (v := (4 : Int32)) (by decide) (hb hby d4_26) rfl ?_
  refine Rt.icmpN (pc' := 30) X149 hx (hb hby d4_27) (tlt (by decide : (0 : Int32) < (4 : Int32))).2.1 rfl ?_
  refine Rt.aload (pc' := 32) X149 hx (hb hby d4_30) rfl rfl rfl ?_
  refine Rt.aloadN (pc' := 33) X149 hx (hb hby d4_32) rfl rfl rfl ?_
  refine Rt.iload (pc' := 35) X149 hx (hb hby d4_33) rfl rfl ?_
  refine Rt.zaload (pc' := 36) X149 hx hZ F144 (i := 0) (by decide) (by decide) (v := (.int cl0)) rfl (hb hby d4_35) rfl ?_
  refine Rt.aloadN (pc' := 37) X149 hx (hb hby d4_36) rfl rfl rfl ?_
  refine Rt.iload (pc' := 39) X149 hx (hb hby d4_37) rfl rfl ?_
  refine Rt.zaload (pc' := 40) X149 hx hZ F145 (i := 0) (by decide) (by decide) (v := (.int ch0)) rfl (hb hby d4_39) rfl ?_
  refine Rt.iloadN (pc' := 41) X149 hx (hb hby d4_40) rfl rfl ?_
  refine Rt.callV (pc' := 44) X149 hx hZ (y := mt8) (yz := mt8) hown (hw _ (List.mem_of_getElem? (i := 78) rfl)) (hw _ (List.mem_of_getElem? (i := 79) rfl)) (notFace_of_selects (args := #[]) (mvT hZ (hw _ (List.mem_of_getElem? (i := 81) rfl)))) (hw _ (List.mem_of_getElem? (i := 81) rfl)) (hw _ (List.mem_of_getElem? (i := 80) rfl)) (hw _ (List.mem_of_getElem? (i := 41) rfl)) (hw _ (List.mem_of_getElem? (i := 82) rfl)) (by decide) F45 (rm8 l Z a0 hw [] b0 cl0 ch0 p4 (5 : Int32) hm (0 : Int32) b12nr1 b12nr2 b12nr3 b12nr4 (5 : Int32) (0 : Int32) (0 : Int32) (5 : Int32) (0 : Int32) (0 : Int32) (0 : Int32) (0 : Int32) (0 : Int32) (0 : Int32) (0 : Int32) (0 : Int32) h44 n0 Z148 F45 F46 F47 F48 F49 F50 F51 F52 F53 F63 F64 F65 F54 F66 F67 F68 F55 F56 F57 F58 F59 F60 F61 F62 g2 g101 g114 ne87 ne100 ne113 ne126 ne69 ne70 ne71 ne72 ne73 ne74) (fun _ _ _ q => q.2.1) (W := 0) (by decide) (by decide) (by decide) (by decide) (argsL := [(.int cl0), (.int ch0), (.int p4)]) (rest := []) (by rw [hml]; rfl) (lenOf pd_7 rfl) rfl rfl (Nat.le_of_eq rfl) (hb hby d4_41) rfl ?_
  rintro _ T150 h150 L150 X150 ⟨rfl, N150, K150, F151, F152, F153, F154, F155, F156, F157, F158, F159, F160, F161, F162, F163, F164, F165, F166⟩
  have F167 : Exa Z h150 a1 nm4 := F127.keep K150
  have F168 : Fld Z h150 a1 nm4 "impossible" "I" (.int (5 : Int32)) := F128.keep K150 (ninS ne4 (ninS ne103 (ninS ne116 nin0)))
  have F169 : Fld Z h150 a1 nm4 "h" "I" (.int hm) := F129.keep K150 (ninS ne4 (ninS ne103 (ninS ne116 nin0)))
  have F170 : Fld Z h150 a1 nm4 "lowOut" "[I" (.ref m1) := F130.keep K150 (ninS ne4 (ninS ne103 (ninS ne116 nin0)))
  have F171 : Fld Z h150 a1 nm4 "lowIn" "[I" (.ref m2) := F131.keep K150 (ninS ne4 (ninS ne103 (ninS ne116 nin0)))
  have F172 : Fld Z h150 a1 nm4 "lowInLength" "[I" (.ref m3) := F132.keep K150 (ninS ne4 (ninS ne103 (ninS ne116 nin0)))
  have F173 : Fld Z h150 a1 nm4 "lowInLows" "[I" (.ref m4) := F133.keep K150 (ninS ne4 (ninS ne103 (ninS ne116 nin0)))
  have F174 : Fld Z h150 a1 nm4 "high" "[I" (.ref m5) := F134.keep K150 (ninS ne4 (ninS ne103 (ninS ne116 nin0)))
  have F175 : Fld Z h150 a1 nm4 "highLength" "[I" (.ref m6) := F135.keep K150 (ninS ne4 (ninS ne103 (ninS ne116 nin0)))
  have F176 : Fld Z h150 a1 nm4 "highLows" "[I" (.ref m7) := F136.keep K150 (ninS ne4 (ninS ne103 (ninS ne116 nin0)))
  have F177 : IL Z h150 m1 .int 4 := F137.keep K150
  have F178 : IL Z h150 m2 .int 4 := F138.keep K150
  have F179 : IL Z h150 m3 .int 4 := F139.keep K150
  have F180 : IL Z h150 m4 .int 4 := F140.keep K150
  have F181 : IL Z h150 m5 .int 4 := F141.keep K150
  have F182 : IL Z h150 m6 .int 4 := F142.keep K150
  have F183 : IL Z h150 m7 .int 4 := F143.keep K150
  have F184 : IA Z h150 a2 .boolean [(.int cl0), (.int cl1), (.int cl2), (.int cl3)] := F144.keep K150 (ninS ne12 (ninS ne111 (ninS ne124 nin0)))
  have F185 : IA Z h150 a3 .boolean [(.int ch0), (.int ch1), (.int ch2), (.int ch3)] := F145.keep K150 (ninS ne13 (ninS ne112 (ninS ne125 nin0)))
  have F186 : Exa Z h150 b0 nm2 := F45.keep K150
  have F187 : Exa Z h150 b12nr1 nm1 := F53.keep K150
  have F188 : Exa Z h150 b12nr2 nm1 := F54.keep K150
  have F189 : Exa Z h150 b12nr3 nm1 := F55.keep K150
  have F190 : Exa Z h150 b12nr4 nm1 := F59.keep K150
  have F191 : Fld Z h150 b12nr1 nm1 "runs" "I" (.int (5 : Int32)) := F63.keep K150 (ninS (Ne.symm ne87) (ninS ne70 (ninS ne71 nin0)))
  have F192 : Fld Z h150 b12nr1 nm1 "length" "I" (.int (0 : Int32)) := F64.keep K150 (ninS (Ne.symm ne87) (ninS ne70 (ninS ne71 nin0)))
  have F193 : Fld Z h150 b12nr1 nm1 "lows" "I" (.int (0 : Int32)) := F65.keep K150 (ninS (Ne.symm ne87) (ninS ne70 (ninS ne71 nin0)))
  have F194 : Fld Z h150 b12nr2 nm1 "runs" "I" (.int (5 : Int32)) := F66.keep K150 (ninS (Ne.symm ne100) (ninS ne72 (ninS ne73 nin0)))
  have F195 : Fld Z h150 b12nr2 nm1 "length" "I" (.int (0 : Int32)) := F67.keep K150 (ninS (Ne.symm ne100) (ninS ne72 (ninS ne73 nin0)))
  have F196 : Fld Z h150 b12nr2 nm1 "lows" "I" (.int (0 : Int32)) := F68.keep K150 (ninS (Ne.symm ne100) (ninS ne72 (ninS ne73 nin0)))
  have K197 : Keep h0 h150 [m1, m2, m3, m4, m5, m6, m7] := K147.trans K150 (allS (Or.inr s3) (allS (Or.inr s102) (allS (Or.inr s115) all0)))
  have Z198 : n0 ≤ h150.size := Nat.le_trans Z148 K150.1
  have F199 : Fld Z h150 b0 nm2 "lowOut" "I" (.int (f4_c41_b0_lowOut0 cl0)) := F154
  have F200 : Fld Z h150 b12nr3 nm1 "runs" "I" (.int (f4_c41_b12nr3_runs0 p4 hm cl0)) := F161
  have F201 : Fld Z h150 b12nr3 nm1 "length" "I" (.int (f4_c41_b12nr3_length0 p4 hm cl0)) := F162
  have F202 : Fld Z h150 b12nr3 nm1 "lows" "I" (.int (f4_c41_b12nr3_lows0 p4 hm cl0)) := F163
  have F203 : Fld Z h150 b12nr4 nm1 "runs" "I" (.int (f4_c41_b12nr4_runs0 p4 hm ch0)) := F164
  have F204 : Fld Z h150 b12nr4 nm1 "length" "I" (.int (f4_c41_b12nr4_length0 p4 hm ch0)) := F165
  have F205 : Fld Z h150 b12nr4 nm1 "lows" "I" (.int (f4_c41_b12nr4_lows0 p4 hm ch0)) := F166
  show Rt _ _ _ _ _ _ _ (T150.setTop (mkF m 44 #[.val (.ref a1), .val (.ref a2), .val (.ref a3), .val (.int p4), .val (.ref b0), .val (.int (0 : Int32))] []))
  refine Rt.aloadN (pc' := 45) X150 hx (hb hby d4_44) rfl rfl rfl ?_
  refine Rt.getF (pc' := 48) (v := (.ref m1)) X150 hx hZ hown (host := "") (Or.inl (hw _ (List.mem_of_getElem? (i := 20) rfl))) F170 (hb hby d4_45) rfl ?_
  intro T206 X206
  refine Rt.iload (pc' := 50) X206 hx (hb hby d4_48) rfl rfl ?_
  refine Rt.aload (pc' := 52) X206 hx (hb hby d4_50) rfl rfl rfl ?_
  refine Rt.getFR (pc' := 55) (v := (.int (f4_c41_b0_lowOut0 cl0))) X206 hx hZ hown (hw _ (List.mem_of_getElem? (i := 96) rfl)) F199 (hb hby d4_52) rfl ?_
  intro T207 X207
  refine Rt.iastoreL (pc' := 56) X207 hx hZ F177 (i := 0) (by decide) (by decide) (by decide) g_m1 (hb hby d4_55) rfl ?_
  intro T208 h208 X208 v208 W208 F208
  have F209 : Exa Z h208 a1 nm4 := F167.wr W208
  have F210 : Fld Z h208 a1 nm4 "impossible" "I" (.int (5 : Int32)) := F168.other W208 (Or.inl ne_a1_m1)
  have F211 : Fld Z h208 a1 nm4 "h" "I" (.int hm) := F169.other W208 (Or.inl ne_a1_m1)
  have F212 : Fld Z h208 a1 nm4 "lowOut" "[I" (.ref m1) := F170.other W208 (Or.inl ne_a1_m1)
  have F213 : Fld Z h208 a1 nm4 "lowIn" "[I" (.ref m2) := F171.other W208 (Or.inl ne_a1_m1)
  have F214 : Fld Z h208 a1 nm4 "lowInLength" "[I" (.ref m3) := F172.other W208 (Or.inl ne_a1_m1)
  have F215 : Fld Z h208 a1 nm4 "lowInLows" "[I" (.ref m4) := F173.other W208 (Or.inl ne_a1_m1)
  have F216 : Fld Z h208 a1 nm4 "high" "[I" (.ref m5) := F174.other W208 (Or.inl ne_a1_m1)
  have F217 : Fld Z h208 a1 nm4 "highLength" "[I" (.ref m6) := F175.other W208 (Or.inl ne_a1_m1)
  have F218 : Fld Z h208 a1 nm4 "highLows" "[I" (.ref m7) := F176.other W208 (Or.inl ne_a1_m1)
  have F219 : IL Z h208 m2 .int 4 := F178.wr W208
  have F220 : IL Z h208 m3 .int 4 := F179.wr W208
  have F221 : IL Z h208 m4 .int 4 := F180.wr W208
  have F222 : IL Z h208 m5 .int 4 := F181.wr W208
  have F223 : IL Z h208 m6 .int 4 := F182.wr W208
  have F224 : IL Z h208 m7 .int 4 := F183.wr W208
  have F225 : IA Z h208 a2 .boolean [(.int cl0), (.int cl1), (.int cl2), (.int cl3)] := F184.other W208 ne_a2_m1
  have F226 : IA Z h208 a3 .boolean [(.int ch0), (.int ch1), (.int ch2), (.int ch3)] := F185.other W208 ne_a3_m1
  have F227 : Exa Z h208 b0 nm2 := F151.wr W208
  have F228 : Exa Z h208 b12nr1 nm1 := F187.wr W208
  have F229 : Exa Z h208 b12nr2 nm1 := F188.wr W208
  have F230 : Exa Z h208 b12nr3 nm1 := F159.wr W208
  have F231 : Exa Z h208 b12nr4 nm1 := F160.wr W208
  have F232 : Fld Z h208 b12nr1 nm1 "runs" "I" (.int (5 : Int32)) := F191.other W208 (Or.inl (Ne.symm ne78))
  have F233 : Fld Z h208 b12nr1 nm1 "length" "I" (.int (0 : Int32)) := F192.other W208 (Or.inl (Ne.symm ne78))
  have F234 : Fld Z h208 b12nr1 nm1 "lows" "I" (.int (0 : Int32)) := F193.other W208 (Or.inl (Ne.symm ne78))
  have F235 : Fld Z h208 b12nr2 nm1 "runs" "I" (.int (5 : Int32)) := F194.other W208 (Or.inl (Ne.symm ne91))
  have F236 : Fld Z h208 b12nr2 nm1 "length" "I" (.int (0 : Int32)) := F195.other W208 (Or.inl (Ne.symm ne91))
  have F237 : Fld Z h208 b12nr2 nm1 "lows" "I" (.int (0 : Int32)) := F196.other W208 (Or.inl (Ne.symm ne91))
  have F238 : Fld Z h208 b0 nm2 "impossible" "I" (.int (5 : Int32)) := F152.other W208 (Or.inl (Ne.symm ne5))
  have F239 : Fld Z h208 b0 nm2 "h" "I" (.int hm) := F153.other W208 (Or.inl (Ne.symm ne5))
  have F240 : Fld Z h208 b0 nm2 "lowOut" "I" (.int (f4_c41_b0_lowOut0 cl0)) := F199.other W208 (Or.inl (Ne.symm ne5))
  have F241 : Fld Z h208 b0 nm2 "lowIn" nm3 (.ref b12nr3) := F155.other W208 (Or.inl (Ne.symm ne5))
  have F242 : Fld Z h208 b0 nm2 "high" nm3 (.ref b12nr4) := F156.other W208 (Or.inl (Ne.symm ne5))
  have F243 : Fld Z h208 b0 nm2 "nextLowIn" nm3 (.ref b12nr1) := F157.other W208 (Or.inl (Ne.symm ne5))
  have F244 : Fld Z h208 b0 nm2 "nextHigh" nm3 (.ref b12nr2) := F158.other W208 (Or.inl (Ne.symm ne5))
  have F245 : Fld Z h208 b12nr3 nm1 "runs" "I" (.int (f4_c41_b12nr3_runs0 p4 hm cl0)) := F200.other W208 (Or.inl (Ne.symm ne104))
  have F246 : Fld Z h208 b12nr3 nm1 "length" "I" (.int (f4_c41_b12nr3_length0 p4 hm cl0)) := F201.other W208 (Or.inl (Ne.symm ne104))
  have F247 : Fld Z h208 b12nr3 nm1 "lows" "I" (.int (f4_c41_b12nr3_lows0 p4 hm cl0)) := F202.other W208 (Or.inl (Ne.symm ne104))
  have F248 : Fld Z h208 b12nr4 nm1 "runs" "I" (.int (f4_c41_b12nr4_runs0 p4 hm ch0)) := F203.other W208 (Or.inl (Ne.symm ne117))
  have F249 : Fld Z h208 b12nr4 nm1 "length" "I" (.int (f4_c41_b12nr4_length0 p4 hm ch0)) := F204.other W208 (Or.inl (Ne.symm ne117))
  have F250 : Fld Z h208 b12nr4 nm1 "lows" "I" (.int (f4_c41_b12nr4_lows0 p4 hm ch0)) := F205.other W208 (Or.inl (Ne.symm ne117))
  have K251 : Keep h0 h208 [m1, m2, m3, m4, m5, m6, m7] := K197.wr W208 (Or.inl (List.mem_of_getElem? (i := 0) rfl))
  have Z252 : n0 ≤ h208.size := Nat.le_trans Z198 (Keep.of_wr W208).1
  refine Rt.aloadN (pc' := 57) X208 hx (hb hby d4_56) rfl rfl rfl ?_
  refine Rt.getF (pc' := 60) (v := (.ref m2)) X208 hx hZ hown (host := "") (Or.inl (hw _ (List.mem_of_getElem? (i := 22) rfl))) F213 (hb hby d4_57) rfl ?_
  intro T253 X253
  refine Rt.iload (pc' := 62) X253 hx (hb hby d4_60) rfl rfl ?_
  refine Rt.aload (pc' := 64) X253 hx (hb hby d4_62) rfl rfl rfl ?_
  refine Rt.getFR (pc' := 67) (v := (.ref b12nr3)) X253 hx hZ hown (hw _ (List.mem_of_getElem? (i := 97) rfl)) F241 (hb hby d4_64) rfl ?_
  intro T254 X254
  refine Rt.getFR (pc' := 70) (v := (.int (f4_c41_b12nr3_runs0 p4 hm cl0))) X254 hx hZ hown (hw _ (List.mem_of_getElem? (i := 98) rfl)) F245 (hb hby d4_67) rfl ?_
  intro T255 X255
  refine Rt.iastoreL (pc' := 71) X255 hx hZ F219 (i := 0) (by decide) (by decide) (by decide) g_m2 (hb hby d4_70) rfl ?_
  intro T256 h256 X256 v256 W256 F256
  have F257 : Exa Z h256 a1 nm4 := F209.wr W256
  have F258 : Fld Z h256 a1 nm4 "impossible" "I" (.int (5 : Int32)) := F210.other W256 (Or.inl ne_a1_m2)
  have F259 : Fld Z h256 a1 nm4 "h" "I" (.int hm) := F211.other W256 (Or.inl ne_a1_m2)
  have F260 : Fld Z h256 a1 nm4 "lowOut" "[I" (.ref m1) := F212.other W256 (Or.inl ne_a1_m2)
  have F261 : Fld Z h256 a1 nm4 "lowIn" "[I" (.ref m2) := F213.other W256 (Or.inl ne_a1_m2)
  have F262 : Fld Z h256 a1 nm4 "lowInLength" "[I" (.ref m3) := F214.other W256 (Or.inl ne_a1_m2)
  have F263 : Fld Z h256 a1 nm4 "lowInLows" "[I" (.ref m4) := F215.other W256 (Or.inl ne_a1_m2)
  have F264 : Fld Z h256 a1 nm4 "high" "[I" (.ref m5) := F216.other W256 (Or.inl ne_a1_m2)
  have F265 : Fld Z h256 a1 nm4 "highLength" "[I" (.ref m6) := F217.other W256 (Or.inl ne_a1_m2)
  have F266 : Fld Z h256 a1 nm4 "highLows" "[I" (.ref m7) := F218.other W256 (Or.inl ne_a1_m2)
  have F267 : IL Z h256 m1 .int 4 := F208.wr W256
  have F268 : IL Z h256 m3 .int 4 := F220.wr W256
  have F269 : IL Z h256 m4 .int 4 := F221.wr W256
  have F270 : IL Z h256 m5 .int 4 := F222.wr W256
  have F271 : IL Z h256 m6 .int 4 := F223.wr W256
  have F272 : IL Z h256 m7 .int 4 := F224.wr W256
  have F273 : IA Z h256 a2 .boolean [(.int cl0), (.int cl1), (.int cl2), (.int cl3)] := F225.other W256 ne_a2_m2
  have F274 : IA Z h256 a3 .boolean [(.int ch0), (.int ch1), (.int ch2), (.int ch3)] := F226.other W256 ne_a3_m2
  have F275 : Exa Z h256 b0 nm2 := F227.wr W256
  have F276 : Exa Z h256 b12nr1 nm1 := F228.wr W256
  have F277 : Exa Z h256 b12nr2 nm1 := F229.wr W256
  have F278 : Exa Z h256 b12nr3 nm1 := F230.wr W256
  have F279 : Exa Z h256 b12nr4 nm1 := F231.wr W256
  have F280 : Fld Z h256 b12nr1 nm1 "runs" "I" (.int (5 : Int32)) := F232.other W256 (Or.inl (Ne.symm ne79))
  have F281 : Fld Z h256 b12nr1 nm1 "length" "I" (.int (0 : Int32)) := F233.other W256 (Or.inl (Ne.symm ne79))
  have F282 : Fld Z h256 b12nr1 nm1 "lows" "I" (.int (0 : Int32)) := F234.other W256 (Or.inl (Ne.symm ne79))
  have F283 : Fld Z h256 b12nr2 nm1 "runs" "I" (.int (5 : Int32)) := F235.other W256 (Or.inl (Ne.symm ne92))
  have F284 : Fld Z h256 b12nr2 nm1 "length" "I" (.int (0 : Int32)) := F236.other W256 (Or.inl (Ne.symm ne92))
  have F285 : Fld Z h256 b12nr2 nm1 "lows" "I" (.int (0 : Int32)) := F237.other W256 (Or.inl (Ne.symm ne92))
  have F286 : Fld Z h256 b0 nm2 "impossible" "I" (.int (5 : Int32)) := F238.other W256 (Or.inl (Ne.symm ne6))
  have F287 : Fld Z h256 b0 nm2 "h" "I" (.int hm) := F239.other W256 (Or.inl (Ne.symm ne6))
  have F288 : Fld Z h256 b0 nm2 "lowOut" "I" (.int (f4_c41_b0_lowOut0 cl0)) := F240.other W256 (Or.inl (Ne.symm ne6))
  have F289 : Fld Z h256 b0 nm2 "lowIn" nm3 (.ref b12nr3) := F241.other W256 (Or.inl (Ne.symm ne6))
  have F290 : Fld Z h256 b0 nm2 "high" nm3 (.ref b12nr4) := F242.other W256 (Or.inl (Ne.symm ne6))
  have F291 : Fld Z h256 b0 nm2 "nextLowIn" nm3 (.ref b12nr1) := F243.other W256 (Or.inl (Ne.symm ne6))
  have F292 : Fld Z h256 b0 nm2 "nextHigh" nm3 (.ref b12nr2) := F244.other W256 (Or.inl (Ne.symm ne6))
  have F293 : Fld Z h256 b12nr3 nm1 "runs" "I" (.int (f4_c41_b12nr3_runs0 p4 hm cl0)) := F245.other W256 (Or.inl (Ne.symm ne105))
  have F294 : Fld Z h256 b12nr3 nm1 "length" "I" (.int (f4_c41_b12nr3_length0 p4 hm cl0)) := F246.other W256 (Or.inl (Ne.symm ne105))
  have F295 : Fld Z h256 b12nr3 nm1 "lows" "I" (.int (f4_c41_b12nr3_lows0 p4 hm cl0)) := F247.other W256 (Or.inl (Ne.symm ne105))
  have F296 : Fld Z h256 b12nr4 nm1 "runs" "I" (.int (f4_c41_b12nr4_runs0 p4 hm ch0)) := F248.other W256 (Or.inl (Ne.symm ne118))
  have F297 : Fld Z h256 b12nr4 nm1 "length" "I" (.int (f4_c41_b12nr4_length0 p4 hm ch0)) := F249.other W256 (Or.inl (Ne.symm ne118))
  have F298 : Fld Z h256 b12nr4 nm1 "lows" "I" (.int (f4_c41_b12nr4_lows0 p4 hm ch0)) := F250.other W256 (Or.inl (Ne.symm ne118))
  have K299 : Keep h0 h256 [m1, m2, m3, m4, m5, m6, m7] := K251.wr W256 (Or.inl (List.mem_of_getElem? (i := 1) rfl))
  have Z300 : n0 ≤ h256.size := Nat.le_trans Z252 (Keep.of_wr W256).1
  refine Rt.aloadN (pc' := 72) X256 hx (hb hby d4_71) rfl rfl rfl ?_
  refine Rt.getF (pc' := 75) (v := (.ref m3)) X256 hx hZ hown (host := "") (Or.inl (hw _ (List.mem_of_getElem? (i := 24) rfl))) F262 (hb hby d4_72) rfl ?_
  intro T301 X301
  refine Rt.iload (pc' := 77) X301 hx (hb hby d4_75) rfl rfl ?_
  refine Rt.aload (pc' := 79) X301 hx (hb hby d4_77) rfl rfl rfl ?_
  refine Rt.getFR (pc' := 82) (v := (.ref b12nr3)) X301 hx hZ hown (hw _ (List.mem_of_getElem? (i := 97) rfl)) F289 (hb hby d4_79) rfl ?_
  intro T302 X302
  refine Rt.getFR (pc' := 85) (v := (.int (f4_c41_b12nr3_length0 p4 hm cl0))) X302 hx hZ hown (hw _ (List.mem_of_getElem? (i := 99) rfl)) F294 (hb hby d4_82) rfl ?_
  intro T303 X303
  refine Rt.iastoreL (pc' := 86) X303 hx hZ F268 (i := 0) (by decide) (by decide) (by decide) g_m3 (hb hby d4_85) rfl ?_
  intro T304 h304 X304 v304 W304 F304
  have F305 : Exa Z h304 a1 nm4 := F257.wr W304
  have F306 : Fld Z h304 a1 nm4 "impossible" "I" (.int (5 : Int32)) := F258.other W304 (Or.inl ne_a1_m3)
  have F307 : Fld Z h304 a1 nm4 "h" "I" (.int hm) := F259.other W304 (Or.inl ne_a1_m3)
  have F308 : Fld Z h304 a1 nm4 "lowOut" "[I" (.ref m1) := F260.other W304 (Or.inl ne_a1_m3)
  have F309 : Fld Z h304 a1 nm4 "lowIn" "[I" (.ref m2) := F261.other W304 (Or.inl ne_a1_m3)
  have F310 : Fld Z h304 a1 nm4 "lowInLength" "[I" (.ref m3) := F262.other W304 (Or.inl ne_a1_m3)
  have F311 : Fld Z h304 a1 nm4 "lowInLows" "[I" (.ref m4) := F263.other W304 (Or.inl ne_a1_m3)
  have F312 : Fld Z h304 a1 nm4 "high" "[I" (.ref m5) := F264.other W304 (Or.inl ne_a1_m3)
  have F313 : Fld Z h304 a1 nm4 "highLength" "[I" (.ref m6) := F265.other W304 (Or.inl ne_a1_m3)
  have F314 : Fld Z h304 a1 nm4 "highLows" "[I" (.ref m7) := F266.other W304 (Or.inl ne_a1_m3)
  have F315 : IL Z h304 m1 .int 4 := F267.wr W304
  have F316 : IL Z h304 m2 .int 4 := F256.wr W304
  have F317 : IL Z h304 m4 .int 4 := F269.wr W304
  have F318 : IL Z h304 m5 .int 4 := F270.wr W304
  have F319 : IL Z h304 m6 .int 4 := F271.wr W304
  have F320 : IL Z h304 m7 .int 4 := F272.wr W304
  have F321 : IA Z h304 a2 .boolean [(.int cl0), (.int cl1), (.int cl2), (.int cl3)] := F273.other W304 ne_a2_m3
  have F322 : IA Z h304 a3 .boolean [(.int ch0), (.int ch1), (.int ch2), (.int ch3)] := F274.other W304 ne_a3_m3
  have F323 : Exa Z h304 b0 nm2 := F275.wr W304
  have F324 : Exa Z h304 b12nr1 nm1 := F276.wr W304
  have F325 : Exa Z h304 b12nr2 nm1 := F277.wr W304
  have F326 : Exa Z h304 b12nr3 nm1 := F278.wr W304
  have F327 : Exa Z h304 b12nr4 nm1 := F279.wr W304
  have F328 : Fld Z h304 b12nr1 nm1 "runs" "I" (.int (5 : Int32)) := F280.other W304 (Or.inl (Ne.symm ne80))
  have F329 : Fld Z h304 b12nr1 nm1 "length" "I" (.int (0 : Int32)) := F281.other W304 (Or.inl (Ne.symm ne80))
  have F330 : Fld Z h304 b12nr1 nm1 "lows" "I" (.int (0 : Int32)) := F282.other W304 (Or.inl (Ne.symm ne80))
  have F331 : Fld Z h304 b12nr2 nm1 "runs" "I" (.int (5 : Int32)) := F283.other W304 (Or.inl (Ne.symm ne93))
  have F332 : Fld Z h304 b12nr2 nm1 "length" "I" (.int (0 : Int32)) := F284.other W304 (Or.inl (Ne.symm ne93))
  have F333 : Fld Z h304 b12nr2 nm1 "lows" "I" (.int (0 : Int32)) := F285.other W304 (Or.inl (Ne.symm ne93))
  have F334 : Fld Z h304 b0 nm2 "impossible" "I" (.int (5 : Int32)) := F286.other W304 (Or.inl (Ne.symm ne7))
  have F335 : Fld Z h304 b0 nm2 "h" "I" (.int hm) := F287.other W304 (Or.inl (Ne.symm ne7))
  have F336 : Fld Z h304 b0 nm2 "lowOut" "I" (.int (f4_c41_b0_lowOut0 cl0)) := F288.other W304 (Or.inl (Ne.symm ne7))
  have F337 : Fld Z h304 b0 nm2 "lowIn" nm3 (.ref b12nr3) := F289.other W304 (Or.inl (Ne.symm ne7))
  have F338 : Fld Z h304 b0 nm2 "high" nm3 (.ref b12nr4) := F290.other W304 (Or.inl (Ne.symm ne7))
  have F339 : Fld Z h304 b0 nm2 "nextLowIn" nm3 (.ref b12nr1) := F291.other W304 (Or.inl (Ne.symm ne7))
  have F340 : Fld Z h304 b0 nm2 "nextHigh" nm3 (.ref b12nr2) := F292.other W304 (Or.inl (Ne.symm ne7))
  have F341 : Fld Z h304 b12nr3 nm1 "runs" "I" (.int (f4_c41_b12nr3_runs0 p4 hm cl0)) := F293.other W304 (Or.inl (Ne.symm ne106))
  have F342 : Fld Z h304 b12nr3 nm1 "length" "I" (.int (f4_c41_b12nr3_length0 p4 hm cl0)) := F294.other W304 (Or.inl (Ne.symm ne106))
  have F343 : Fld Z h304 b12nr3 nm1 "lows" "I" (.int (f4_c41_b12nr3_lows0 p4 hm cl0)) := F295.other W304 (Or.inl (Ne.symm ne106))
  have F344 : Fld Z h304 b12nr4 nm1 "runs" "I" (.int (f4_c41_b12nr4_runs0 p4 hm ch0)) := F296.other W304 (Or.inl (Ne.symm ne119))
  have F345 : Fld Z h304 b12nr4 nm1 "length" "I" (.int (f4_c41_b12nr4_length0 p4 hm ch0)) := F297.other W304 (Or.inl (Ne.symm ne119))
  have F346 : Fld Z h304 b12nr4 nm1 "lows" "I" (.int (f4_c41_b12nr4_lows0 p4 hm ch0)) := F298.other W304 (Or.inl (Ne.symm ne119))
  have K347 : Keep h0 h304 [m1, m2, m3, m4, m5, m6, m7] := K299.wr W304 (Or.inl (List.mem_of_getElem? (i := 2) rfl))
  have Z348 : n0 ≤ h304.size := Nat.le_trans Z300 (Keep.of_wr W304).1
  refine Rt.aloadN (pc' := 87) X304 hx (hb hby d4_86) rfl rfl rfl ?_
  refine Rt.getF (pc' := 90) (v := (.ref m4)) X304 hx hZ hown (host := "") (Or.inl (hw _ (List.mem_of_getElem? (i := 26) rfl))) F311 (hb hby d4_87) rfl ?_
  intro T349 X349
  refine Rt.iload (pc' := 92) X349 hx (hb hby d4_90) rfl rfl ?_
  refine Rt.aload (pc' := 94) X349 hx (hb hby d4_92) rfl rfl rfl ?_
  refine Rt.getFR (pc' := 97) (v := (.ref b12nr3)) X349 hx hZ hown (hw _ (List.mem_of_getElem? (i := 97) rfl)) F337 (hb hby d4_94) rfl ?_
  intro T350 X350
  refine Rt.getFR (pc' := 100) (v := (.int (f4_c41_b12nr3_lows0 p4 hm cl0))) X350 hx hZ hown (hw _ (List.mem_of_getElem? (i := 100) rfl)) F343 (hb hby d4_97) rfl ?_
  intro T351 X351
  refine Rt.iastoreL (pc' := 101) X351 hx hZ F317 (i := 0) (by decide) (by decide) (by decide) g_m4 (hb hby d4_100) rfl ?_
  intro T352 h352 X352 v352 W352 F352
  have F353 : Exa Z h352 a1 nm4 := F305.wr W352
  have F354 : Fld Z h352 a1 nm4 "impossible" "I" (.int (5 : Int32)) := F306.other W352 (Or.inl ne_a1_m4)
  have F355 : Fld Z h352 a1 nm4 "h" "I" (.int hm) := F307.other W352 (Or.inl ne_a1_m4)
  have F356 : Fld Z h352 a1 nm4 "lowOut" "[I" (.ref m1) := F308.other W352 (Or.inl ne_a1_m4)
  have F357 : Fld Z h352 a1 nm4 "lowIn" "[I" (.ref m2) := F309.other W352 (Or.inl ne_a1_m4)
  have F358 : Fld Z h352 a1 nm4 "lowInLength" "[I" (.ref m3) := F310.other W352 (Or.inl ne_a1_m4)
  have F359 : Fld Z h352 a1 nm4 "lowInLows" "[I" (.ref m4) := F311.other W352 (Or.inl ne_a1_m4)
  have F360 : Fld Z h352 a1 nm4 "high" "[I" (.ref m5) := F312.other W352 (Or.inl ne_a1_m4)
  have F361 : Fld Z h352 a1 nm4 "highLength" "[I" (.ref m6) := F313.other W352 (Or.inl ne_a1_m4)
  have F362 : Fld Z h352 a1 nm4 "highLows" "[I" (.ref m7) := F314.other W352 (Or.inl ne_a1_m4)
  have F363 : IL Z h352 m1 .int 4 := F315.wr W352
  have F364 : IL Z h352 m2 .int 4 := F316.wr W352
  have F365 : IL Z h352 m3 .int 4 := F304.wr W352
  have F366 : IL Z h352 m5 .int 4 := F318.wr W352
  have F367 : IL Z h352 m6 .int 4 := F319.wr W352
  have F368 : IL Z h352 m7 .int 4 := F320.wr W352
  have F369 : IA Z h352 a2 .boolean [(.int cl0), (.int cl1), (.int cl2), (.int cl3)] := F321.other W352 ne_a2_m4
  have F370 : IA Z h352 a3 .boolean [(.int ch0), (.int ch1), (.int ch2), (.int ch3)] := F322.other W352 ne_a3_m4
  have F371 : Exa Z h352 b0 nm2 := F323.wr W352
  have F372 : Exa Z h352 b12nr1 nm1 := F324.wr W352
  have F373 : Exa Z h352 b12nr2 nm1 := F325.wr W352
  have F374 : Exa Z h352 b12nr3 nm1 := F326.wr W352
  have F375 : Exa Z h352 b12nr4 nm1 := F327.wr W352
  have F376 : Fld Z h352 b12nr1 nm1 "runs" "I" (.int (5 : Int32)) := F328.other W352 (Or.inl (Ne.symm ne81))
  have F377 : Fld Z h352 b12nr1 nm1 "length" "I" (.int (0 : Int32)) := F329.other W352 (Or.inl (Ne.symm ne81))
  have F378 : Fld Z h352 b12nr1 nm1 "lows" "I" (.int (0 : Int32)) := F330.other W352 (Or.inl (Ne.symm ne81))
  have F379 : Fld Z h352 b12nr2 nm1 "runs" "I" (.int (5 : Int32)) := F331.other W352 (Or.inl (Ne.symm ne94))
  have F380 : Fld Z h352 b12nr2 nm1 "length" "I" (.int (0 : Int32)) := F332.other W352 (Or.inl (Ne.symm ne94))
  have F381 : Fld Z h352 b12nr2 nm1 "lows" "I" (.int (0 : Int32)) := F333.other W352 (Or.inl (Ne.symm ne94))
  have F382 : Fld Z h352 b0 nm2 "impossible" "I" (.int (5 : Int32)) := F334.other W352 (Or.inl (Ne.symm ne8))
  have F383 : Fld Z h352 b0 nm2 "h" "I" (.int hm) := F335.other W352 (Or.inl (Ne.symm ne8))
  have F384 : Fld Z h352 b0 nm2 "lowOut" "I" (.int (f4_c41_b0_lowOut0 cl0)) := F336.other W352 (Or.inl (Ne.symm ne8))
  have F385 : Fld Z h352 b0 nm2 "lowIn" nm3 (.ref b12nr3) := F337.other W352 (Or.inl (Ne.symm ne8))
  have F386 : Fld Z h352 b0 nm2 "high" nm3 (.ref b12nr4) := F338.other W352 (Or.inl (Ne.symm ne8))
  have F387 : Fld Z h352 b0 nm2 "nextLowIn" nm3 (.ref b12nr1) := F339.other W352 (Or.inl (Ne.symm ne8))
  have F388 : Fld Z h352 b0 nm2 "nextHigh" nm3 (.ref b12nr2) := F340.other W352 (Or.inl (Ne.symm ne8))
  have F389 : Fld Z h352 b12nr3 nm1 "runs" "I" (.int (f4_c41_b12nr3_runs0 p4 hm cl0)) := F341.other W352 (Or.inl (Ne.symm ne107))
  have F390 : Fld Z h352 b12nr3 nm1 "length" "I" (.int (f4_c41_b12nr3_length0 p4 hm cl0)) := F342.other W352 (Or.inl (Ne.symm ne107))
  have F391 : Fld Z h352 b12nr3 nm1 "lows" "I" (.int (f4_c41_b12nr3_lows0 p4 hm cl0)) := F343.other W352 (Or.inl (Ne.symm ne107))
  have F392 : Fld Z h352 b12nr4 nm1 "runs" "I" (.int (f4_c41_b12nr4_runs0 p4 hm ch0)) := F344.other W352 (Or.inl (Ne.symm ne120))
  have F393 : Fld Z h352 b12nr4 nm1 "length" "I" (.int (f4_c41_b12nr4_length0 p4 hm ch0)) := F345.other W352 (Or.inl (Ne.symm ne120))
  have F394 : Fld Z h352 b12nr4 nm1 "lows" "I" (.int (f4_c41_b12nr4_lows0 p4 hm ch0)) := F346.other W352 (Or.inl (Ne.symm ne120))
  have K395 : Keep h0 h352 [m1, m2, m3, m4, m5, m6, m7] := K347.wr W352 (Or.inl (List.mem_of_getElem? (i := 3) rfl))
  have Z396 : n0 ≤ h352.size := Nat.le_trans Z348 (Keep.of_wr W352).1
  refine Rt.aloadN (pc' := 102) X352 hx (hb hby d4_101) rfl rfl rfl ?_
  refine Rt.getF (pc' := 105) (v := (.ref m5)) X352 hx hZ hown (host := "") (Or.inl (hw _ (List.mem_of_getElem? (i := 28) rfl))) F360 (hb hby d4_102) rfl ?_
  intro T397 X397
  refine Rt.iload (pc' := 107) X397 hx (hb hby d4_105) rfl rfl ?_
  refine Rt.aload (pc' := 109) X397 hx (hb hby d4_107) rfl rfl rfl ?_
  refine Rt.getFR (pc' := 112) (v := (.ref b12nr4)) X397 hx hZ hown (hw _ (List.mem_of_getElem? (i := 101) rfl)) F386 (hb hby d4_109) rfl ?_
  intro T398 X398
  refine Rt.getFR (pc' := 115) (v := (.int (f4_c41_b12nr4_runs0 p4 hm ch0))) X398 hx hZ hown (hw _ (List.mem_of_getElem? (i := 98) rfl)) F392 (hb hby d4_112) rfl ?_
  intro T399 X399
  refine Rt.iastoreL (pc' := 116) X399 hx hZ F366 (i := 0) (by decide) (by decide) (by decide) g_m5 (hb hby d4_115) rfl ?_
  intro T400 h400 X400 v400 W400 F400
  have F401 : Exa Z h400 a1 nm4 := F353.wr W400
  have F402 : Fld Z h400 a1 nm4 "impossible" "I" (.int (5 : Int32)) := F354.other W400 (Or.inl ne_a1_m5)
  have F403 : Fld Z h400 a1 nm4 "h" "I" (.int hm) := F355.other W400 (Or.inl ne_a1_m5)
  have F404 : Fld Z h400 a1 nm4 "lowOut" "[I" (.ref m1) := F356.other W400 (Or.inl ne_a1_m5)
  have F405 : Fld Z h400 a1 nm4 "lowIn" "[I" (.ref m2) := F357.other W400 (Or.inl ne_a1_m5)
  have F406 : Fld Z h400 a1 nm4 "lowInLength" "[I" (.ref m3) := F358.other W400 (Or.inl ne_a1_m5)
  have F407 : Fld Z h400 a1 nm4 "lowInLows" "[I" (.ref m4) := F359.other W400 (Or.inl ne_a1_m5)
  have F408 : Fld Z h400 a1 nm4 "high" "[I" (.ref m5) := F360.other W400 (Or.inl ne_a1_m5)
  have F409 : Fld Z h400 a1 nm4 "highLength" "[I" (.ref m6) := F361.other W400 (Or.inl ne_a1_m5)
  have F410 : Fld Z h400 a1 nm4 "highLows" "[I" (.ref m7) := F362.other W400 (Or.inl ne_a1_m5)
  have F411 : IL Z h400 m1 .int 4 := F363.wr W400
  have F412 : IL Z h400 m2 .int 4 := F364.wr W400
  have F413 : IL Z h400 m3 .int 4 := F365.wr W400
  have F414 : IL Z h400 m4 .int 4 := F352.wr W400
  have F415 : IL Z h400 m6 .int 4 := F367.wr W400
  have F416 : IL Z h400 m7 .int 4 := F368.wr W400
  have F417 : IA Z h400 a2 .boolean [(.int cl0), (.int cl1), (.int cl2), (.int cl3)] := F369.other W400 ne_a2_m5
  have F418 : IA Z h400 a3 .boolean [(.int ch0), (.int ch1), (.int ch2), (.int ch3)] := F370.other W400 ne_a3_m5
  have F419 : Exa Z h400 b0 nm2 := F371.wr W400
  have F420 : Exa Z h400 b12nr1 nm1 := F372.wr W400
  have F421 : Exa Z h400 b12nr2 nm1 := F373.wr W400
  have F422 : Exa Z h400 b12nr3 nm1 := F374.wr W400
  have F423 : Exa Z h400 b12nr4 nm1 := F375.wr W400
  have F424 : Fld Z h400 b12nr1 nm1 "runs" "I" (.int (5 : Int32)) := F376.other W400 (Or.inl (Ne.symm ne82))
  have F425 : Fld Z h400 b12nr1 nm1 "length" "I" (.int (0 : Int32)) := F377.other W400 (Or.inl (Ne.symm ne82))
  have F426 : Fld Z h400 b12nr1 nm1 "lows" "I" (.int (0 : Int32)) := F378.other W400 (Or.inl (Ne.symm ne82))
  have F427 : Fld Z h400 b12nr2 nm1 "runs" "I" (.int (5 : Int32)) := F379.other W400 (Or.inl (Ne.symm ne95))
  have F428 : Fld Z h400 b12nr2 nm1 "length" "I" (.int (0 : Int32)) := F380.other W400 (Or.inl (Ne.symm ne95))
  have F429 : Fld Z h400 b12nr2 nm1 "lows" "I" (.int (0 : Int32)) := F381.other W400 (Or.inl (Ne.symm ne95))
  have F430 : Fld Z h400 b0 nm2 "impossible" "I" (.int (5 : Int32)) := F382.other W400 (Or.inl (Ne.symm ne9))
  have F431 : Fld Z h400 b0 nm2 "h" "I" (.int hm) := F383.other W400 (Or.inl (Ne.symm ne9))
  have F432 : Fld Z h400 b0 nm2 "lowOut" "I" (.int (f4_c41_b0_lowOut0 cl0)) := F384.other W400 (Or.inl (Ne.symm ne9))
  have F433 : Fld Z h400 b0 nm2 "lowIn" nm3 (.ref b12nr3) := F385.other W400 (Or.inl (Ne.symm ne9))
  have F434 : Fld Z h400 b0 nm2 "high" nm3 (.ref b12nr4) := F386.other W400 (Or.inl (Ne.symm ne9))
  have F435 : Fld Z h400 b0 nm2 "nextLowIn" nm3 (.ref b12nr1) := F387.other W400 (Or.inl (Ne.symm ne9))
  have F436 : Fld Z h400 b0 nm2 "nextHigh" nm3 (.ref b12nr2) := F388.other W400 (Or.inl (Ne.symm ne9))
  have F437 : Fld Z h400 b12nr3 nm1 "runs" "I" (.int (f4_c41_b12nr3_runs0 p4 hm cl0)) := F389.other W400 (Or.inl (Ne.symm ne108))
  have F438 : Fld Z h400 b12nr3 nm1 "length" "I" (.int (f4_c41_b12nr3_length0 p4 hm cl0)) := F390.other W400 (Or.inl (Ne.symm ne108))
  have F439 : Fld Z h400 b12nr3 nm1 "lows" "I" (.int (f4_c41_b12nr3_lows0 p4 hm cl0)) := F391.other W400 (Or.inl (Ne.symm ne108))
  have F440 : Fld Z h400 b12nr4 nm1 "runs" "I" (.int (f4_c41_b12nr4_runs0 p4 hm ch0)) := F392.other W400 (Or.inl (Ne.symm ne121))
  have F441 : Fld Z h400 b12nr4 nm1 "length" "I" (.int (f4_c41_b12nr4_length0 p4 hm ch0)) := F393.other W400 (Or.inl (Ne.symm ne121))
  have F442 : Fld Z h400 b12nr4 nm1 "lows" "I" (.int (f4_c41_b12nr4_lows0 p4 hm ch0)) := F394.other W400 (Or.inl (Ne.symm ne121))
  have K443 : Keep h0 h400 [m1, m2, m3, m4, m5, m6, m7] := K395.wr W400 (Or.inl (List.mem_of_getElem? (i := 4) rfl))
  have Z444 : n0 ≤ h400.size := Nat.le_trans Z396 (Keep.of_wr W400).1
  refine Rt.aloadN (pc' := 117) X400 hx (hb hby d4_116) rfl rfl rfl ?_
  refine Rt.getF (pc' := 120) (v := (.ref m6)) X400 hx hZ hown (host := "") (Or.inl (hw _ (List.mem_of_getElem? (i := 30) rfl))) F409 (hb hby d4_117) rfl ?_
  intro T445 X445
  refine Rt.iload (pc' := 122) X445 hx (hb hby d4_120) rfl rfl ?_
  refine Rt.aload (pc' := 124) X445 hx (hb hby d4_122) rfl rfl rfl ?_
  refine Rt.getFR (pc' := 127) (v := (.ref b12nr4)) X445 hx hZ hown (hw _ (List.mem_of_getElem? (i := 101) rfl)) F434 (hb hby d4_124) rfl ?_
  intro T446 X446
  refine Rt.getFR (pc' := 130) (v := (.int (f4_c41_b12nr4_length0 p4 hm ch0))) X446 hx hZ hown (hw _ (List.mem_of_getElem? (i := 99) rfl)) F441 (hb hby d4_127) rfl ?_
  intro T447 X447
  refine Rt.iastoreL (pc' := 131) X447 hx hZ F415 (i := 0) (by decide) (by decide) (by decide) g_m6 (hb hby d4_130) rfl ?_
  intro T448 h448 X448 v448 W448 F448
  have F449 : Exa Z h448 a1 nm4 := F401.wr W448
  have F450 : Fld Z h448 a1 nm4 "impossible" "I" (.int (5 : Int32)) := F402.other W448 (Or.inl ne_a1_m6)
  have F451 : Fld Z h448 a1 nm4 "h" "I" (.int hm) := F403.other W448 (Or.inl ne_a1_m6)
  have F452 : Fld Z h448 a1 nm4 "lowOut" "[I" (.ref m1) := F404.other W448 (Or.inl ne_a1_m6)
  have F453 : Fld Z h448 a1 nm4 "lowIn" "[I" (.ref m2) := F405.other W448 (Or.inl ne_a1_m6)
  have F454 : Fld Z h448 a1 nm4 "lowInLength" "[I" (.ref m3) := F406.other W448 (Or.inl ne_a1_m6)
  have F455 : Fld Z h448 a1 nm4 "lowInLows" "[I" (.ref m4) := F407.other W448 (Or.inl ne_a1_m6)
  have F456 : Fld Z h448 a1 nm4 "high" "[I" (.ref m5) := F408.other W448 (Or.inl ne_a1_m6)
  have F457 : Fld Z h448 a1 nm4 "highLength" "[I" (.ref m6) := F409.other W448 (Or.inl ne_a1_m6)
  have F458 : Fld Z h448 a1 nm4 "highLows" "[I" (.ref m7) := F410.other W448 (Or.inl ne_a1_m6)
  have F459 : IL Z h448 m1 .int 4 := F411.wr W448
  have F460 : IL Z h448 m2 .int 4 := F412.wr W448
  have F461 : IL Z h448 m3 .int 4 := F413.wr W448
  have F462 : IL Z h448 m4 .int 4 := F414.wr W448
  have F463 : IL Z h448 m5 .int 4 := F400.wr W448
  have F464 : IL Z h448 m7 .int 4 := F416.wr W448
  have F465 : IA Z h448 a2 .boolean [(.int cl0), (.int cl1), (.int cl2), (.int cl3)] := F417.other W448 ne_a2_m6
  have F466 : IA Z h448 a3 .boolean [(.int ch0), (.int ch1), (.int ch2), (.int ch3)] := F418.other W448 ne_a3_m6
  have F467 : Exa Z h448 b0 nm2 := F419.wr W448
  have F468 : Exa Z h448 b12nr1 nm1 := F420.wr W448
  have F469 : Exa Z h448 b12nr2 nm1 := F421.wr W448
  have F470 : Exa Z h448 b12nr3 nm1 := F422.wr W448
  have F471 : Exa Z h448 b12nr4 nm1 := F423.wr W448
  have F472 : Fld Z h448 b12nr1 nm1 "runs" "I" (.int (5 : Int32)) := F424.other W448 (Or.inl (Ne.symm ne83))
  have F473 : Fld Z h448 b12nr1 nm1 "length" "I" (.int (0 : Int32)) := F425.other W448 (Or.inl (Ne.symm ne83))
  have F474 : Fld Z h448 b12nr1 nm1 "lows" "I" (.int (0 : Int32)) := F426.other W448 (Or.inl (Ne.symm ne83))
  have F475 : Fld Z h448 b12nr2 nm1 "runs" "I" (.int (5 : Int32)) := F427.other W448 (Or.inl (Ne.symm ne96))
  have F476 : Fld Z h448 b12nr2 nm1 "length" "I" (.int (0 : Int32)) := F428.other W448 (Or.inl (Ne.symm ne96))
  have F477 : Fld Z h448 b12nr2 nm1 "lows" "I" (.int (0 : Int32)) := F429.other W448 (Or.inl (Ne.symm ne96))
  have F478 : Fld Z h448 b0 nm2 "impossible" "I" (.int (5 : Int32)) := F430.other W448 (Or.inl (Ne.symm ne10))
  have F479 : Fld Z h448 b0 nm2 "h" "I" (.int hm) := F431.other W448 (Or.inl (Ne.symm ne10))
  have F480 : Fld Z h448 b0 nm2 "lowOut" "I" (.int (f4_c41_b0_lowOut0 cl0)) := F432.other W448 (Or.inl (Ne.symm ne10))
  have F481 : Fld Z h448 b0 nm2 "lowIn" nm3 (.ref b12nr3) := F433.other W448 (Or.inl (Ne.symm ne10))
  have F482 : Fld Z h448 b0 nm2 "high" nm3 (.ref b12nr4) := F434.other W448 (Or.inl (Ne.symm ne10))
  have F483 : Fld Z h448 b0 nm2 "nextLowIn" nm3 (.ref b12nr1) := F435.other W448 (Or.inl (Ne.symm ne10))
  have F484 : Fld Z h448 b0 nm2 "nextHigh" nm3 (.ref b12nr2) := F436.other W448 (Or.inl (Ne.symm ne10))
  have F485 : Fld Z h448 b12nr3 nm1 "runs" "I" (.int (f4_c41_b12nr3_runs0 p4 hm cl0)) := F437.other W448 (Or.inl (Ne.symm ne109))
  have F486 : Fld Z h448 b12nr3 nm1 "length" "I" (.int (f4_c41_b12nr3_length0 p4 hm cl0)) := F438.other W448 (Or.inl (Ne.symm ne109))
  have F487 : Fld Z h448 b12nr3 nm1 "lows" "I" (.int (f4_c41_b12nr3_lows0 p4 hm cl0)) := F439.other W448 (Or.inl (Ne.symm ne109))
  have F488 : Fld Z h448 b12nr4 nm1 "runs" "I" (.int (f4_c41_b12nr4_runs0 p4 hm ch0)) := F440.other W448 (Or.inl (Ne.symm ne122))
  have F489 : Fld Z h448 b12nr4 nm1 "length" "I" (.int (f4_c41_b12nr4_length0 p4 hm ch0)) := F441.other W448 (Or.inl (Ne.symm ne122))
  have F490 : Fld Z h448 b12nr4 nm1 "lows" "I" (.int (f4_c41_b12nr4_lows0 p4 hm ch0)) := F442.other W448 (Or.inl (Ne.symm ne122))
  have K491 : Keep h0 h448 [m1, m2, m3, m4, m5, m6, m7] := K443.wr W448 (Or.inl (List.mem_of_getElem? (i := 5) rfl))
  have Z492 : n0 ≤ h448.size := Nat.le_trans Z444 (Keep.of_wr W448).1
  refine Rt.aloadN (pc' := 132) X448 hx (hb hby d4_131) rfl rfl rfl ?_
  refine Rt.getF (pc' := 135) (v := (.ref m7)) X448 hx hZ hown (host := "") (Or.inl (hw _ (List.mem_of_getElem? (i := 32) rfl))) F458 (hb hby d4_132) rfl ?_
  intro T493 X493
  refine Rt.iload (pc' := 137) X493 hx (hb hby d4_135) rfl rfl ?_
  refine Rt.aload (pc' := 139) X493 hx (hb hby d4_137) rfl rfl rfl ?_
  refine Rt.getFR (pc' := 142) (v := (.ref b12nr4)) X493 hx hZ hown (hw _ (List.mem_of_getElem? (i := 101) rfl)) F482 (hb hby d4_139) rfl ?_
  intro T494 X494
  refine Rt.getFR (pc' := 145) (v := (.int (f4_c41_b12nr4_lows0 p4 hm ch0))) X494 hx hZ hown (hw _ (List.mem_of_getElem? (i := 100) rfl)) F490 (hb hby d4_142) rfl ?_
  intro T495 X495
  refine Rt.iastoreL (pc' := 146) X495 hx hZ F464 (i := 0) (by decide) (by decide) (by decide) g_m7 (hb hby d4_145) rfl ?_
  intro T496 h496 X496 v496 W496 F496
  have F497 : Exa Z h496 a1 nm4 := F449.wr W496
  have F498 : Fld Z h496 a1 nm4 "impossible" "I" (.int (5 : Int32)) := F450.other W496 (Or.inl ne_a1_m7)
  have F499 : Fld Z h496 a1 nm4 "h" "I" (.int hm) := F451.other W496 (Or.inl ne_a1_m7)
  have F500 : Fld Z h496 a1 nm4 "lowOut" "[I" (.ref m1) := F452.other W496 (Or.inl ne_a1_m7)
  have F501 : Fld Z h496 a1 nm4 "lowIn" "[I" (.ref m2) := F453.other W496 (Or.inl ne_a1_m7)
  have F502 : Fld Z h496 a1 nm4 "lowInLength" "[I" (.ref m3) := F454.other W496 (Or.inl ne_a1_m7)
  have F503 : Fld Z h496 a1 nm4 "lowInLows" "[I" (.ref m4) := F455.other W496 (Or.inl ne_a1_m7)
  have F504 : Fld Z h496 a1 nm4 "high" "[I" (.ref m5) := F456.other W496 (Or.inl ne_a1_m7)
  have F505 : Fld Z h496 a1 nm4 "highLength" "[I" (.ref m6) := F457.other W496 (Or.inl ne_a1_m7)
  have F506 : Fld Z h496 a1 nm4 "highLows" "[I" (.ref m7) := F458.other W496 (Or.inl ne_a1_m7)
  have F507 : IL Z h496 m1 .int 4 := F459.wr W496
  have F508 : IL Z h496 m2 .int 4 := F460.wr W496
  have F509 : IL Z h496 m3 .int 4 := F461.wr W496
  have F510 : IL Z h496 m4 .int 4 := F462.wr W496
  have F511 : IL Z h496 m5 .int 4 := F463.wr W496
  have F512 : IL Z h496 m6 .int 4 := F448.wr W496
  have F513 : IA Z h496 a2 .boolean [(.int cl0), (.int cl1), (.int cl2), (.int cl3)] := F465.other W496 ne_a2_m7
  have F514 : IA Z h496 a3 .boolean [(.int ch0), (.int ch1), (.int ch2), (.int ch3)] := F466.other W496 ne_a3_m7
  have F515 : Exa Z h496 b0 nm2 := F467.wr W496
  have F516 : Exa Z h496 b12nr1 nm1 := F468.wr W496
  have F517 : Exa Z h496 b12nr2 nm1 := F469.wr W496
  have F518 : Exa Z h496 b12nr3 nm1 := F470.wr W496
  have F519 : Exa Z h496 b12nr4 nm1 := F471.wr W496
  have F520 : Fld Z h496 b12nr1 nm1 "runs" "I" (.int (5 : Int32)) := F472.other W496 (Or.inl (Ne.symm ne84))
  have F521 : Fld Z h496 b12nr1 nm1 "length" "I" (.int (0 : Int32)) := F473.other W496 (Or.inl (Ne.symm ne84))
  have F522 : Fld Z h496 b12nr1 nm1 "lows" "I" (.int (0 : Int32)) := F474.other W496 (Or.inl (Ne.symm ne84))
  have F523 : Fld Z h496 b12nr2 nm1 "runs" "I" (.int (5 : Int32)) := F475.other W496 (Or.inl (Ne.symm ne97))
  have F524 : Fld Z h496 b12nr2 nm1 "length" "I" (.int (0 : Int32)) := F476.other W496 (Or.inl (Ne.symm ne97))
  have F525 : Fld Z h496 b12nr2 nm1 "lows" "I" (.int (0 : Int32)) := F477.other W496 (Or.inl (Ne.symm ne97))
  have F526 : Fld Z h496 b0 nm2 "impossible" "I" (.int (5 : Int32)) := F478.other W496 (Or.inl (Ne.symm ne11))
  have F527 : Fld Z h496 b0 nm2 "h" "I" (.int hm) := F479.other W496 (Or.inl (Ne.symm ne11))
  have F528 : Fld Z h496 b0 nm2 "lowOut" "I" (.int (f4_c41_b0_lowOut0 cl0)) := F480.other W496 (Or.inl (Ne.symm ne11))
  have F529 : Fld Z h496 b0 nm2 "lowIn" nm3 (.ref b12nr3) := F481.other W496 (Or.inl (Ne.symm ne11))
  have F530 : Fld Z h496 b0 nm2 "high" nm3 (.ref b12nr4) := F482.other W496 (Or.inl (Ne.symm ne11))
  have F531 : Fld Z h496 b0 nm2 "nextLowIn" nm3 (.ref b12nr1) := F483.other W496 (Or.inl (Ne.symm ne11))
  have F532 : Fld Z h496 b0 nm2 "nextHigh" nm3 (.ref b12nr2) := F484.other W496 (Or.inl (Ne.symm ne11))
  have F533 : Fld Z h496 b12nr3 nm1 "runs" "I" (.int (f4_c41_b12nr3_runs0 p4 hm cl0)) := F485.other W496 (Or.inl (Ne.symm ne110))
  have F534 : Fld Z h496 b12nr3 nm1 "length" "I" (.int (f4_c41_b12nr3_length0 p4 hm cl0)) := F486.other W496 (Or.inl (Ne.symm ne110))
  have F535 : Fld Z h496 b12nr3 nm1 "lows" "I" (.int (f4_c41_b12nr3_lows0 p4 hm cl0)) := F487.other W496 (Or.inl (Ne.symm ne110))
  have F536 : Fld Z h496 b12nr4 nm1 "runs" "I" (.int (f4_c41_b12nr4_runs0 p4 hm ch0)) := F488.other W496 (Or.inl (Ne.symm ne123))
  have F537 : Fld Z h496 b12nr4 nm1 "length" "I" (.int (f4_c41_b12nr4_length0 p4 hm ch0)) := F489.other W496 (Or.inl (Ne.symm ne123))
  have F538 : Fld Z h496 b12nr4 nm1 "lows" "I" (.int (f4_c41_b12nr4_lows0 p4 hm ch0)) := F490.other W496 (Or.inl (Ne.symm ne123))
  have K539 : Keep h0 h496 [m1, m2, m3, m4, m5, m6, m7] := K491.wr W496 (Or.inl (List.mem_of_getElem? (i := 6) rfl))
  have Z540 : n0 ≤ h496.size := Nat.le_trans Z492 (Keep.of_wr W496).1
  refine Rt.iinc (pc' := 149) (r := (1 : Int32)) (l' := #[.val (.ref a1), .val (.ref a2), .val (.ref a3), .val (.int p4), .val (.ref b0), .val (.int (1 : Int32))]) X496 hx (hb hby d4_146) rfl (by decide) rfl rfl ?_
  refine Rt.goto (pc' := 20) X496 hx (hb hby d4_149) (by decide) (by decide) ?_
  refine Rt.iload (pc' := 22) X496 hx (hb hby d4_20) rfl rfl ?_
  refine Rt.aloadN (pc' := 23) X496 hx (hb hby d4_22) rfl rfl rfl ?_
  refine Rt.getF (pc' := 26) (v := (.ref m1)) X496 hx hZ hown (host := "") (Or.inl (hw _ (List.mem_of_getElem? (i := 20) rfl))) F500 (hb hby d4_23) rfl ?_
  intro T541 X541
  refine Rt.arraylengthL (pc' := 27) X541 hx hZ F507 (v := (4 : Int32)) (by decide) (hb hby d4_26) rfl ?_
  refine Rt.icmpN (pc' := 30) X541 hx (hb hby d4_27) (tlt (by decide : (1 : Int32) < (4 : Int32))).2.1 rfl ?_
  refine Rt.aload (pc' := 32) X541 hx (hb hby d4_30) rfl rfl rfl ?_
  refine Rt.aloadN (pc' := 33) X541 hx (hb hby d4_32) rfl rfl rfl ?_
  refine Rt.iload (pc' := 35) X541 hx (hb hby d4_33) rfl rfl ?_
  refine Rt.zaload (pc' := 36) X541 hx hZ F513 (i := 1) (by decide) (by decide) (v := (.int cl1)) rfl (hb hby d4_35) rfl ?_
  refine Rt.aloadN (pc' := 37) X541 hx (hb hby d4_36) rfl rfl rfl ?_
  refine Rt.iload (pc' := 39) X541 hx (hb hby d4_37) rfl rfl ?_
  refine Rt.zaload (pc' := 40) X541 hx hZ F514 (i := 1) (by decide) (by decide) (v := (.int ch1)) rfl (hb hby d4_39) rfl ?_
  refine Rt.iloadN (pc' := 41) X541 hx (hb hby d4_40) rfl rfl ?_
  refine Rt.callV (pc' := 44) X541 hx hZ (y := mt8) (yz := mt8) hown (hw _ (List.mem_of_getElem? (i := 78) rfl)) (hw _ (List.mem_of_getElem? (i := 79) rfl)) (notFace_of_selects (args := #[]) (mvT hZ (hw _ (List.mem_of_getElem? (i := 81) rfl)))) (hw _ (List.mem_of_getElem? (i := 81) rfl)) (hw _ (List.mem_of_getElem? (i := 80) rfl)) (hw _ (List.mem_of_getElem? (i := 41) rfl)) (hw _ (List.mem_of_getElem? (i := 82) rfl)) (by decide) F515 (rm8 l Z a0 hw [] b0 cl1 ch1 p4 (5 : Int32) hm (f4_c41_b0_lowOut0 cl0) b12nr3 b12nr4 b12nr1 b12nr2 (f4_c41_b12nr3_runs0 p4 hm cl0) (f4_c41_b12nr3_length0 p4 hm cl0) (f4_c41_b12nr3_lows0 p4 hm cl0) (f4_c41_b12nr4_runs0 p4 hm ch0) (f4_c41_b12nr4_length0 p4 hm ch0) (f4_c41_b12nr4_lows0 p4 hm ch0) (5 : Int32) (0 : Int32) (0 : Int32) (5 : Int32) (0 : Int32) (0 : Int32) h496 n0 Z540 F515 F526 F527 F528 F529 F530 F531 F532 F518 F533 F534 F535 F519 F536 F537 F538 F516 F520 F521 F522 F517 F523 F524 F525 g2 g75 g88 ne113 ne126 ne87 ne100 ne74 (Ne.symm ne70) (Ne.symm ne72) (Ne.symm ne71) (Ne.symm ne73) ne69) (fun _ _ _ q => q.2.1) (W := 0) (by decide) (by decide) (by decide) (by decide) (argsL := [(.int cl1), (.int ch1), (.int p4)]) (rest := []) (by rw [hml]; rfl) (lenOf pd_7 rfl) rfl rfl (Nat.le_of_eq rfl) (hb hby d4_41) rfl ?_
  rintro _ T542 h542 L542 X542 ⟨rfl, N542, K542, F543, F544, F545, F546, F547, F548, F549, F550, F551, F552, F553, F554, F555, F556, F557, F558⟩
  have F559 : Exa Z h542 a1 nm4 := F497.keep K542
  have F560 : Fld Z h542 a1 nm4 "impossible" "I" (.int (5 : Int32)) := F498.keep K542 (ninS ne4 (ninS ne77 (ninS ne90 nin0)))
  have F561 : Fld Z h542 a1 nm4 "h" "I" (.int hm) := F499.keep K542 (ninS ne4 (ninS ne77 (ninS ne90 nin0)))
  have F562 : Fld Z h542 a1 nm4 "lowOut" "[I" (.ref m1) := F500.keep K542 (ninS ne4 (ninS ne77 (ninS ne90 nin0)))
  have F563 : Fld Z h542 a1 nm4 "lowIn" "[I" (.ref m2) := F501.keep K542 (ninS ne4 (ninS ne77 (ninS ne90 nin0)))
  have F564 : Fld Z h542 a1 nm4 "lowInLength" "[I" (.ref m3) := F502.keep K542 (ninS ne4 (ninS ne77 (ninS ne90 nin0)))
  have F565 : Fld Z h542 a1 nm4 "lowInLows" "[I" (.ref m4) := F503.keep K542 (ninS ne4 (ninS ne77 (ninS ne90 nin0)))
  have F566 : Fld Z h542 a1 nm4 "high" "[I" (.ref m5) := F504.keep K542 (ninS ne4 (ninS ne77 (ninS ne90 nin0)))
  have F567 : Fld Z h542 a1 nm4 "highLength" "[I" (.ref m6) := F505.keep K542 (ninS ne4 (ninS ne77 (ninS ne90 nin0)))
  have F568 : Fld Z h542 a1 nm4 "highLows" "[I" (.ref m7) := F506.keep K542 (ninS ne4 (ninS ne77 (ninS ne90 nin0)))
  have F569 : IL Z h542 m1 .int 4 := F507.keep K542
  have F570 : IL Z h542 m2 .int 4 := F508.keep K542
  have F571 : IL Z h542 m3 .int 4 := F509.keep K542
  have F572 : IL Z h542 m4 .int 4 := F510.keep K542
  have F573 : IL Z h542 m5 .int 4 := F511.keep K542
  have F574 : IL Z h542 m6 .int 4 := F512.keep K542
  have F575 : IL Z h542 m7 .int 4 := F496.keep K542
  have F576 : IA Z h542 a2 .boolean [(.int cl0), (.int cl1), (.int cl2), (.int cl3)] := F513.keep K542 (ninS ne12 (ninS ne85 (ninS ne98 nin0)))
  have F577 : IA Z h542 a3 .boolean [(.int ch0), (.int ch1), (.int ch2), (.int ch3)] := F514.keep K542 (ninS ne13 (ninS ne86 (ninS ne99 nin0)))
  have F578 : Exa Z h542 b0 nm2 := F515.keep K542
  have F579 : Exa Z h542 b12nr1 nm1 := F516.keep K542
  have F580 : Exa Z h542 b12nr2 nm1 := F517.keep K542
  have F581 : Exa Z h542 b12nr3 nm1 := F518.keep K542
  have F582 : Exa Z h542 b12nr4 nm1 := F519.keep K542
  have F583 : Fld Z h542 b12nr3 nm1 "runs" "I" (.int (f4_c41_b12nr3_runs0 p4 hm cl0)) := F533.keep K542 (ninS (Ne.symm ne113) (ninS (Ne.symm ne70) (ninS (Ne.symm ne72) nin0)))
  have F584 : Fld Z h542 b12nr3 nm1 "length" "I" (.int (f4_c41_b12nr3_length0 p4 hm cl0)) := F534.keep K542 (ninS (Ne.symm ne113) (ninS (Ne.symm ne70) (ninS (Ne.symm ne72) nin0)))
  have F585 : Fld Z h542 b12nr3 nm1 "lows" "I" (.int (f4_c41_b12nr3_lows0 p4 hm cl0)) := F535.keep K542 (ninS (Ne.symm ne113) (ninS (Ne.symm ne70) (ninS (Ne.symm ne72) nin0)))
  have F586 : Fld Z h542 b12nr4 nm1 "runs" "I" (.int (f4_c41_b12nr4_runs0 p4 hm ch0)) := F536.keep K542 (ninS (Ne.symm ne126) (ninS (Ne.symm ne71) (ninS (Ne.symm ne73) nin0)))
  have F587 : Fld Z h542 b12nr4 nm1 "length" "I" (.int (f4_c41_b12nr4_length0 p4 hm ch0)) := F537.keep K542 (ninS (Ne.symm ne126) (ninS (Ne.symm ne71) (ninS (Ne.symm ne73) nin0)))
  have F588 : Fld Z h542 b12nr4 nm1 "lows" "I" (.int (f4_c41_b12nr4_lows0 p4 hm ch0)) := F538.keep K542 (ninS (Ne.symm ne126) (ninS (Ne.symm ne71) (ninS (Ne.symm ne73) nin0)))
  have K589 : Keep h0 h542 [m1, m2, m3, m4, m5, m6, m7] := K539.trans K542 (allS (Or.inr s3) (allS (Or.inr s76) (allS (Or.inr s89) all0)))
  have Z590 : n0 ≤ h542.size := Nat.le_trans Z540 K542.1
  have F591 : Fld Z h542 b0 nm2 "lowOut" "I" (.int (f4_c41_b0_lowOut0_1 p4 hm cl0 cl1 ch0)) := F546
  have F592 : Fld Z h542 b12nr1 nm1 "runs" "I" (.int (f4_c41_b12nr1_runs0 p4 hm cl0 cl1 ch0)) := F553
  have F593 : Fld Z h542 b12nr1 nm1 "length" "I" (.int (f4_c41_b12nr1_length0 p4 hm cl0 cl1 ch0)) := F554
  have F594 : Fld Z h542 b12nr1 nm1 "lows" "I" (.int (f4_c41_b12nr1_lows0 p4 hm cl0 cl1 ch0)) := F555
  have F595 : Fld Z h542 b12nr2 nm1 "runs" "I" (.int (f4_c41_b12nr2_runs0 p4 hm cl0 ch0 ch1)) := F556
  have F596 : Fld Z h542 b12nr2 nm1 "length" "I" (.int (f4_c41_b12nr2_length0 p4 hm cl0 ch0 ch1)) := F557
  have F597 : Fld Z h542 b12nr2 nm1 "lows" "I" (.int (f4_c41_b12nr2_lows0 p4 hm cl0 ch0 ch1)) := F558
  show Rt _ _ _ _ _ _ _ (T542.setTop (mkF m 44 #[.val (.ref a1), .val (.ref a2), .val (.ref a3), .val (.int p4), .val (.ref b0), .val (.int (1 : Int32))] []))
  refine Rt.aloadN (pc' := 45) X542 hx (hb hby d4_44) rfl rfl rfl ?_
  refine Rt.getF (pc' := 48) (v := (.ref m1)) X542 hx hZ hown (host := "") (Or.inl (hw _ (List.mem_of_getElem? (i := 20) rfl))) F562 (hb hby d4_45) rfl ?_
  intro T598 X598
  refine Rt.iload (pc' := 50) X598 hx (hb hby d4_48) rfl rfl ?_
  refine Rt.aload (pc' := 52) X598 hx (hb hby d4_50) rfl rfl rfl ?_
  refine Rt.getFR (pc' := 55) (v := (.int (f4_c41_b0_lowOut0_1 p4 hm cl0 cl1 ch0))) X598 hx hZ hown (hw _ (List.mem_of_getElem? (i := 96) rfl)) F591 (hb hby d4_52) rfl ?_
  intro T599 X599
  refine Rt.iastoreL (pc' := 56) X599 hx hZ F569 (i := 1) (by decide) (by decide) (by decide) g_m1 (hb hby d4_55) rfl ?_
  intro T600 h600 X600 v600 W600 F600
  have F601 : Exa Z h600 a1 nm4 := F559.wr W600
  have F602 : Fld Z h600 a1 nm4 "impossible" "I" (.int (5 : Int32)) := F560.other W600 (Or.inl ne_a1_m1)
  have F603 : Fld Z h600 a1 nm4 "h" "I" (.int hm) := F561.other W600 (Or.inl ne_a1_m1)
  have F604 : Fld Z h600 a1 nm4 "lowOut" "[I" (.ref m1) := F562.other W600 (Or.inl ne_a1_m1)
  have F605 : Fld Z h600 a1 nm4 "lowIn" "[I" (.ref m2) := F563.other W600 (Or.inl ne_a1_m1)
  have F606 : Fld Z h600 a1 nm4 "lowInLength" "[I" (.ref m3) := F564.other W600 (Or.inl ne_a1_m1)
  have F607 : Fld Z h600 a1 nm4 "lowInLows" "[I" (.ref m4) := F565.other W600 (Or.inl ne_a1_m1)
  have F608 : Fld Z h600 a1 nm4 "high" "[I" (.ref m5) := F566.other W600 (Or.inl ne_a1_m1)
  have F609 : Fld Z h600 a1 nm4 "highLength" "[I" (.ref m6) := F567.other W600 (Or.inl ne_a1_m1)
  have F610 : Fld Z h600 a1 nm4 "highLows" "[I" (.ref m7) := F568.other W600 (Or.inl ne_a1_m1)
  have F611 : IL Z h600 m2 .int 4 := F570.wr W600
  have F612 : IL Z h600 m3 .int 4 := F571.wr W600
  have F613 : IL Z h600 m4 .int 4 := F572.wr W600
  have F614 : IL Z h600 m5 .int 4 := F573.wr W600
  have F615 : IL Z h600 m6 .int 4 := F574.wr W600
  have F616 : IL Z h600 m7 .int 4 := F575.wr W600
  have F617 : IA Z h600 a2 .boolean [(.int cl0), (.int cl1), (.int cl2), (.int cl3)] := F576.other W600 ne_a2_m1
  have F618 : IA Z h600 a3 .boolean [(.int ch0), (.int ch1), (.int ch2), (.int ch3)] := F577.other W600 ne_a3_m1
  have F619 : Exa Z h600 b0 nm2 := F543.wr W600
  have F620 : Exa Z h600 b12nr1 nm1 := F551.wr W600
  have F621 : Exa Z h600 b12nr2 nm1 := F552.wr W600
  have F622 : Exa Z h600 b12nr3 nm1 := F581.wr W600
  have F623 : Exa Z h600 b12nr4 nm1 := F582.wr W600
  have F624 : Fld Z h600 b12nr3 nm1 "runs" "I" (.int (f4_c41_b12nr3_runs0 p4 hm cl0)) := F583.other W600 (Or.inl (Ne.symm ne104))
  have F625 : Fld Z h600 b12nr3 nm1 "length" "I" (.int (f4_c41_b12nr3_length0 p4 hm cl0)) := F584.other W600 (Or.inl (Ne.symm ne104))
  have F626 : Fld Z h600 b12nr3 nm1 "lows" "I" (.int (f4_c41_b12nr3_lows0 p4 hm cl0)) := F585.other W600 (Or.inl (Ne.symm ne104))
  have F627 : Fld Z h600 b12nr4 nm1 "runs" "I" (.int (f4_c41_b12nr4_runs0 p4 hm ch0)) := F586.other W600 (Or.inl (Ne.symm ne117))
  have F628 : Fld Z h600 b12nr4 nm1 "length" "I" (.int (f4_c41_b12nr4_length0 p4 hm ch0)) := F587.other W600 (Or.inl (Ne.symm ne117))
  have F629 : Fld Z h600 b12nr4 nm1 "lows" "I" (.int (f4_c41_b12nr4_lows0 p4 hm ch0)) := F588.other W600 (Or.inl (Ne.symm ne117))
  have F630 : Fld Z h600 b0 nm2 "impossible" "I" (.int (5 : Int32)) := F544.other W600 (Or.inl (Ne.symm ne5))
  have F631 : Fld Z h600 b0 nm2 "h" "I" (.int hm) := F545.other W600 (Or.inl (Ne.symm ne5))
  have F632 : Fld Z h600 b0 nm2 "lowOut" "I" (.int (f4_c41_b0_lowOut0_1 p4 hm cl0 cl1 ch0)) := F591.other W600 (Or.inl (Ne.symm ne5))
  have F633 : Fld Z h600 b0 nm2 "lowIn" nm3 (.ref b12nr1) := F547.other W600 (Or.inl (Ne.symm ne5))
  have F634 : Fld Z h600 b0 nm2 "high" nm3 (.ref b12nr2) := F548.other W600 (Or.inl (Ne.symm ne5))
  have F635 : Fld Z h600 b0 nm2 "nextLowIn" nm3 (.ref b12nr3) := F549.other W600 (Or.inl (Ne.symm ne5))
  have F636 : Fld Z h600 b0 nm2 "nextHigh" nm3 (.ref b12nr4) := F550.other W600 (Or.inl (Ne.symm ne5))
  have F637 : Fld Z h600 b12nr1 nm1 "runs" "I" (.int (f4_c41_b12nr1_runs0 p4 hm cl0 cl1 ch0)) := F592.other W600 (Or.inl (Ne.symm ne78))
  have F638 : Fld Z h600 b12nr1 nm1 "length" "I" (.int (f4_c41_b12nr1_length0 p4 hm cl0 cl1 ch0)) := F593.other W600 (Or.inl (Ne.symm ne78))
  have F639 : Fld Z h600 b12nr1 nm1 "lows" "I" (.int (f4_c41_b12nr1_lows0 p4 hm cl0 cl1 ch0)) := F594.other W600 (Or.inl (Ne.symm ne78))
  have F640 : Fld Z h600 b12nr2 nm1 "runs" "I" (.int (f4_c41_b12nr2_runs0 p4 hm cl0 ch0 ch1)) := F595.other W600 (Or.inl (Ne.symm ne91))
  have F641 : Fld Z h600 b12nr2 nm1 "length" "I" (.int (f4_c41_b12nr2_length0 p4 hm cl0 ch0 ch1)) := F596.other W600 (Or.inl (Ne.symm ne91))
  have F642 : Fld Z h600 b12nr2 nm1 "lows" "I" (.int (f4_c41_b12nr2_lows0 p4 hm cl0 ch0 ch1)) := F597.other W600 (Or.inl (Ne.symm ne91))
  have K643 : Keep h0 h600 [m1, m2, m3, m4, m5, m6, m7] := K589.wr W600 (Or.inl (List.mem_of_getElem? (i := 0) rfl))
  have Z644 : n0 ≤ h600.size := Nat.le_trans Z590 (Keep.of_wr W600).1
  refine Rt.aloadN (pc' := 57) X600 hx (hb hby d4_56) rfl rfl rfl ?_
  refine Rt.getF (pc' := 60) (v := (.ref m2)) X600 hx hZ hown (host := "") (Or.inl (hw _ (List.mem_of_getElem? (i := 22) rfl))) F605 (hb hby d4_57) rfl ?_
  intro T645 X645
  refine Rt.iload (pc' := 62) X645 hx (hb hby d4_60) rfl rfl ?_
  refine Rt.aload (pc' := 64) X645 hx (hb hby d4_62) rfl rfl rfl ?_
  refine Rt.getFR (pc' := 67) (v := (.ref b12nr1)) X645 hx hZ hown (hw _ (List.mem_of_getElem? (i := 97) rfl)) F633 (hb hby d4_64) rfl ?_
  intro T646 X646
  refine Rt.getFR (pc' := 70) (v := (.int (f4_c41_b12nr1_runs0 p4 hm cl0 cl1 ch0))) X646 hx hZ hown (hw _ (List.mem_of_getElem? (i := 98) rfl)) F637 (hb hby d4_67) rfl ?_
  intro T647 X647
  refine Rt.iastoreL (pc' := 71) X647 hx hZ F611 (i := 1) (by decide) (by decide) (by decide) g_m2 (hb hby d4_70) rfl ?_
  intro T648 h648 X648 v648 W648 F648
  have F649 : Exa Z h648 a1 nm4 := F601.wr W648
  have F650 : Fld Z h648 a1 nm4 "impossible" "I" (.int (5 : Int32)) := F602.other W648 (Or.inl ne_a1_m2)
  have F651 : Fld Z h648 a1 nm4 "h" "I" (.int hm) := F603.other W648 (Or.inl ne_a1_m2)
  have F652 : Fld Z h648 a1 nm4 "lowOut" "[I" (.ref m1) := F604.other W648 (Or.inl ne_a1_m2)
  have F653 : Fld Z h648 a1 nm4 "lowIn" "[I" (.ref m2) := F605.other W648 (Or.inl ne_a1_m2)
  have F654 : Fld Z h648 a1 nm4 "lowInLength" "[I" (.ref m3) := F606.other W648 (Or.inl ne_a1_m2)
  have F655 : Fld Z h648 a1 nm4 "lowInLows" "[I" (.ref m4) := F607.other W648 (Or.inl ne_a1_m2)
  have F656 : Fld Z h648 a1 nm4 "high" "[I" (.ref m5) := F608.other W648 (Or.inl ne_a1_m2)
  have F657 : Fld Z h648 a1 nm4 "highLength" "[I" (.ref m6) := F609.other W648 (Or.inl ne_a1_m2)
  have F658 : Fld Z h648 a1 nm4 "highLows" "[I" (.ref m7) := F610.other W648 (Or.inl ne_a1_m2)
  have F659 : IL Z h648 m1 .int 4 := F600.wr W648
  have F660 : IL Z h648 m3 .int 4 := F612.wr W648
  have F661 : IL Z h648 m4 .int 4 := F613.wr W648
  have F662 : IL Z h648 m5 .int 4 := F614.wr W648
  have F663 : IL Z h648 m6 .int 4 := F615.wr W648
  have F664 : IL Z h648 m7 .int 4 := F616.wr W648
  have F665 : IA Z h648 a2 .boolean [(.int cl0), (.int cl1), (.int cl2), (.int cl3)] := F617.other W648 ne_a2_m2
  have F666 : IA Z h648 a3 .boolean [(.int ch0), (.int ch1), (.int ch2), (.int ch3)] := F618.other W648 ne_a3_m2
  have F667 : Exa Z h648 b0 nm2 := F619.wr W648
  have F668 : Exa Z h648 b12nr1 nm1 := F620.wr W648
  have F669 : Exa Z h648 b12nr2 nm1 := F621.wr W648
  have F670 : Exa Z h648 b12nr3 nm1 := F622.wr W648
  have F671 : Exa Z h648 b12nr4 nm1 := F623.wr W648
  have F672 : Fld Z h648 b12nr3 nm1 "runs" "I" (.int (f4_c41_b12nr3_runs0 p4 hm cl0)) := F624.other W648 (Or.inl (Ne.symm ne105))
  have F673 : Fld Z h648 b12nr3 nm1 "length" "I" (.int (f4_c41_b12nr3_length0 p4 hm cl0)) := F625.other W648 (Or.inl (Ne.symm ne105))
  have F674 : Fld Z h648 b12nr3 nm1 "lows" "I" (.int (f4_c41_b12nr3_lows0 p4 hm cl0)) := F626.other W648 (Or.inl (Ne.symm ne105))
  have F675 : Fld Z h648 b12nr4 nm1 "runs" "I" (.int (f4_c41_b12nr4_runs0 p4 hm ch0)) := F627.other W648 (Or.inl (Ne.symm ne118))
  have F676 : Fld Z h648 b12nr4 nm1 "length" "I" (.int (f4_c41_b12nr4_length0 p4 hm ch0)) := F628.other W648 (Or.inl (Ne.symm ne118))
  have F677 : Fld Z h648 b12nr4 nm1 "lows" "I" (.int (f4_c41_b12nr4_lows0 p4 hm ch0)) := F629.other W648 (Or.inl (Ne.symm ne118))
  have F678 : Fld Z h648 b0 nm2 "impossible" "I" (.int (5 : Int32)) := F630.other W648 (Or.inl (Ne.symm ne6))
  have F679 : Fld Z h648 b0 nm2 "h" "I" (.int hm) := F631.other W648 (Or.inl (Ne.symm ne6))
  have F680 : Fld Z h648 b0 nm2 "lowOut" "I" (.int (f4_c41_b0_lowOut0_1 p4 hm cl0 cl1 ch0)) := F632.other W648 (Or.inl (Ne.symm ne6))
  have F681 : Fld Z h648 b0 nm2 "lowIn" nm3 (.ref b12nr1) := F633.other W648 (Or.inl (Ne.symm ne6))
  have F682 : Fld Z h648 b0 nm2 "high" nm3 (.ref b12nr2) := F634.other W648 (Or.inl (Ne.symm ne6))
  have F683 : Fld Z h648 b0 nm2 "nextLowIn" nm3 (.ref b12nr3) := F635.other W648 (Or.inl (Ne.symm ne6))
  have F684 : Fld Z h648 b0 nm2 "nextHigh" nm3 (.ref b12nr4) := F636.other W648 (Or.inl (Ne.symm ne6))
  have F685 : Fld Z h648 b12nr1 nm1 "runs" "I" (.int (f4_c41_b12nr1_runs0 p4 hm cl0 cl1 ch0)) := F637.other W648 (Or.inl (Ne.symm ne79))
  have F686 : Fld Z h648 b12nr1 nm1 "length" "I" (.int (f4_c41_b12nr1_length0 p4 hm cl0 cl1 ch0)) := F638.other W648 (Or.inl (Ne.symm ne79))
  have F687 : Fld Z h648 b12nr1 nm1 "lows" "I" (.int (f4_c41_b12nr1_lows0 p4 hm cl0 cl1 ch0)) := F639.other W648 (Or.inl (Ne.symm ne79))
  have F688 : Fld Z h648 b12nr2 nm1 "runs" "I" (.int (f4_c41_b12nr2_runs0 p4 hm cl0 ch0 ch1)) := F640.other W648 (Or.inl (Ne.symm ne92))
  have F689 : Fld Z h648 b12nr2 nm1 "length" "I" (.int (f4_c41_b12nr2_length0 p4 hm cl0 ch0 ch1)) := F641.other W648 (Or.inl (Ne.symm ne92))
  have F690 : Fld Z h648 b12nr2 nm1 "lows" "I" (.int (f4_c41_b12nr2_lows0 p4 hm cl0 ch0 ch1)) := F642.other W648 (Or.inl (Ne.symm ne92))
  have K691 : Keep h0 h648 [m1, m2, m3, m4, m5, m6, m7] := K643.wr W648 (Or.inl (List.mem_of_getElem? (i := 1) rfl))
  have Z692 : n0 ≤ h648.size := Nat.le_trans Z644 (Keep.of_wr W648).1
  refine Rt.aloadN (pc' := 72) X648 hx (hb hby d4_71) rfl rfl rfl ?_
  refine Rt.getF (pc' := 75) (v := (.ref m3)) X648 hx hZ hown (host := "") (Or.inl (hw _ (List.mem_of_getElem? (i := 24) rfl))) F654 (hb hby d4_72) rfl ?_
  intro T693 X693
  refine Rt.iload (pc' := 77) X693 hx (hb hby d4_75) rfl rfl ?_
  refine Rt.aload (pc' := 79) X693 hx (hb hby d4_77) rfl rfl rfl ?_
  refine Rt.getFR (pc' := 82) (v := (.ref b12nr1)) X693 hx hZ hown (hw _ (List.mem_of_getElem? (i := 97) rfl)) F681 (hb hby d4_79) rfl ?_
  intro T694 X694
  refine Rt.getFR (pc' := 85) (v := (.int (f4_c41_b12nr1_length0 p4 hm cl0 cl1 ch0))) X694 hx hZ hown (hw _ (List.mem_of_getElem? (i := 99) rfl)) F686 (hb hby d4_82) rfl ?_
  intro T695 X695
  refine Rt.iastoreL (pc' := 86) X695 hx hZ F660 (i := 1) (by decide) (by decide) (by decide) g_m3 (hb hby d4_85) rfl ?_
  intro T696 h696 X696 v696 W696 F696
  have F697 : Exa Z h696 a1 nm4 := F649.wr W696
  have F698 : Fld Z h696 a1 nm4 "impossible" "I" (.int (5 : Int32)) := F650.other W696 (Or.inl ne_a1_m3)
  have F699 : Fld Z h696 a1 nm4 "h" "I" (.int hm) := F651.other W696 (Or.inl ne_a1_m3)
  have F700 : Fld Z h696 a1 nm4 "lowOut" "[I" (.ref m1) := F652.other W696 (Or.inl ne_a1_m3)
  have F701 : Fld Z h696 a1 nm4 "lowIn" "[I" (.ref m2) := F653.other W696 (Or.inl ne_a1_m3)
  have F702 : Fld Z h696 a1 nm4 "lowInLength" "[I" (.ref m3) := F654.other W696 (Or.inl ne_a1_m3)
  have F703 : Fld Z h696 a1 nm4 "lowInLows" "[I" (.ref m4) := F655.other W696 (Or.inl ne_a1_m3)
  have F704 : Fld Z h696 a1 nm4 "high" "[I" (.ref m5) := F656.other W696 (Or.inl ne_a1_m3)
  have F705 : Fld Z h696 a1 nm4 "highLength" "[I" (.ref m6) := F657.other W696 (Or.inl ne_a1_m3)
  have F706 : Fld Z h696 a1 nm4 "highLows" "[I" (.ref m7) := F658.other W696 (Or.inl ne_a1_m3)
  have F707 : IL Z h696 m1 .int 4 := F659.wr W696
  have F708 : IL Z h696 m2 .int 4 := F648.wr W696
  have F709 : IL Z h696 m4 .int 4 := F661.wr W696
  have F710 : IL Z h696 m5 .int 4 := F662.wr W696
  have F711 : IL Z h696 m6 .int 4 := F663.wr W696
  have F712 : IL Z h696 m7 .int 4 := F664.wr W696
  have F713 : IA Z h696 a2 .boolean [(.int cl0), (.int cl1), (.int cl2), (.int cl3)] := F665.other W696 ne_a2_m3
  have F714 : IA Z h696 a3 .boolean [(.int ch0), (.int ch1), (.int ch2), (.int ch3)] := F666.other W696 ne_a3_m3
  have F715 : Exa Z h696 b0 nm2 := F667.wr W696
  have F716 : Exa Z h696 b12nr1 nm1 := F668.wr W696
  have F717 : Exa Z h696 b12nr2 nm1 := F669.wr W696
  have F718 : Exa Z h696 b12nr3 nm1 := F670.wr W696
  have F719 : Exa Z h696 b12nr4 nm1 := F671.wr W696
  have F720 : Fld Z h696 b12nr3 nm1 "runs" "I" (.int (f4_c41_b12nr3_runs0 p4 hm cl0)) := F672.other W696 (Or.inl (Ne.symm ne106))
  have F721 : Fld Z h696 b12nr3 nm1 "length" "I" (.int (f4_c41_b12nr3_length0 p4 hm cl0)) := F673.other W696 (Or.inl (Ne.symm ne106))
  have F722 : Fld Z h696 b12nr3 nm1 "lows" "I" (.int (f4_c41_b12nr3_lows0 p4 hm cl0)) := F674.other W696 (Or.inl (Ne.symm ne106))
  have F723 : Fld Z h696 b12nr4 nm1 "runs" "I" (.int (f4_c41_b12nr4_runs0 p4 hm ch0)) := F675.other W696 (Or.inl (Ne.symm ne119))
  have F724 : Fld Z h696 b12nr4 nm1 "length" "I" (.int (f4_c41_b12nr4_length0 p4 hm ch0)) := F676.other W696 (Or.inl (Ne.symm ne119))
  have F725 : Fld Z h696 b12nr4 nm1 "lows" "I" (.int (f4_c41_b12nr4_lows0 p4 hm ch0)) := F677.other W696 (Or.inl (Ne.symm ne119))
  have F726 : Fld Z h696 b0 nm2 "impossible" "I" (.int (5 : Int32)) := F678.other W696 (Or.inl (Ne.symm ne7))
  have F727 : Fld Z h696 b0 nm2 "h" "I" (.int hm) := F679.other W696 (Or.inl (Ne.symm ne7))
  have F728 : Fld Z h696 b0 nm2 "lowOut" "I" (.int (f4_c41_b0_lowOut0_1 p4 hm cl0 cl1 ch0)) := F680.other W696 (Or.inl (Ne.symm ne7))
  have F729 : Fld Z h696 b0 nm2 "lowIn" nm3 (.ref b12nr1) := F681.other W696 (Or.inl (Ne.symm ne7))
  have F730 : Fld Z h696 b0 nm2 "high" nm3 (.ref b12nr2) := F682.other W696 (Or.inl (Ne.symm ne7))
  have F731 : Fld Z h696 b0 nm2 "nextLowIn" nm3 (.ref b12nr3) := F683.other W696 (Or.inl (Ne.symm ne7))
  have F732 : Fld Z h696 b0 nm2 "nextHigh" nm3 (.ref b12nr4) := F684.other W696 (Or.inl (Ne.symm ne7))
  have F733 : Fld Z h696 b12nr1 nm1 "runs" "I" (.int (f4_c41_b12nr1_runs0 p4 hm cl0 cl1 ch0)) := F685.other W696 (Or.inl (Ne.symm ne80))
  have F734 : Fld Z h696 b12nr1 nm1 "length" "I" (.int (f4_c41_b12nr1_length0 p4 hm cl0 cl1 ch0)) := F686.other W696 (Or.inl (Ne.symm ne80))
  have F735 : Fld Z h696 b12nr1 nm1 "lows" "I" (.int (f4_c41_b12nr1_lows0 p4 hm cl0 cl1 ch0)) := F687.other W696 (Or.inl (Ne.symm ne80))
  have F736 : Fld Z h696 b12nr2 nm1 "runs" "I" (.int (f4_c41_b12nr2_runs0 p4 hm cl0 ch0 ch1)) := F688.other W696 (Or.inl (Ne.symm ne93))
  have F737 : Fld Z h696 b12nr2 nm1 "length" "I" (.int (f4_c41_b12nr2_length0 p4 hm cl0 ch0 ch1)) := F689.other W696 (Or.inl (Ne.symm ne93))
  have F738 : Fld Z h696 b12nr2 nm1 "lows" "I" (.int (f4_c41_b12nr2_lows0 p4 hm cl0 ch0 ch1)) := F690.other W696 (Or.inl (Ne.symm ne93))
  have K739 : Keep h0 h696 [m1, m2, m3, m4, m5, m6, m7] := K691.wr W696 (Or.inl (List.mem_of_getElem? (i := 2) rfl))
  have Z740 : n0 ≤ h696.size := Nat.le_trans Z692 (Keep.of_wr W696).1
  refine Rt.aloadN (pc' := 87) X696 hx (hb hby d4_86) rfl rfl rfl ?_
  refine Rt.getF (pc' := 90) (v := (.ref m4)) X696 hx hZ hown (host := "") (Or.inl (hw _ (List.mem_of_getElem? (i := 26) rfl))) F703 (hb hby d4_87) rfl ?_
  intro T741 X741
  refine Rt.iload (pc' := 92) X741 hx (hb hby d4_90) rfl rfl ?_
  refine Rt.aload (pc' := 94) X741 hx (hb hby d4_92) rfl rfl rfl ?_
  refine Rt.getFR (pc' := 97) (v := (.ref b12nr1)) X741 hx hZ hown (hw _ (List.mem_of_getElem? (i := 97) rfl)) F729 (hb hby d4_94) rfl ?_
  intro T742 X742
  refine Rt.getFR (pc' := 100) (v := (.int (f4_c41_b12nr1_lows0 p4 hm cl0 cl1 ch0))) X742 hx hZ hown (hw _ (List.mem_of_getElem? (i := 100) rfl)) F735 (hb hby d4_97) rfl ?_
  intro T743 X743
  refine Rt.iastoreL (pc' := 101) X743 hx hZ F709 (i := 1) (by decide) (by decide) (by decide) g_m4 (hb hby d4_100) rfl ?_
  intro T744 h744 X744 v744 W744 F744
  have F745 : Exa Z h744 a1 nm4 := F697.wr W744
  have F746 : Fld Z h744 a1 nm4 "impossible" "I" (.int (5 : Int32)) := F698.other W744 (Or.inl ne_a1_m4)
  have F747 : Fld Z h744 a1 nm4 "h" "I" (.int hm) := F699.other W744 (Or.inl ne_a1_m4)
  have F748 : Fld Z h744 a1 nm4 "lowOut" "[I" (.ref m1) := F700.other W744 (Or.inl ne_a1_m4)
  have F749 : Fld Z h744 a1 nm4 "lowIn" "[I" (.ref m2) := F701.other W744 (Or.inl ne_a1_m4)
  have F750 : Fld Z h744 a1 nm4 "lowInLength" "[I" (.ref m3) := F702.other W744 (Or.inl ne_a1_m4)
  have F751 : Fld Z h744 a1 nm4 "lowInLows" "[I" (.ref m4) := F703.other W744 (Or.inl ne_a1_m4)
  have F752 : Fld Z h744 a1 nm4 "high" "[I" (.ref m5) := F704.other W744 (Or.inl ne_a1_m4)
  have F753 : Fld Z h744 a1 nm4 "highLength" "[I" (.ref m6) := F705.other W744 (Or.inl ne_a1_m4)
  have F754 : Fld Z h744 a1 nm4 "highLows" "[I" (.ref m7) := F706.other W744 (Or.inl ne_a1_m4)
  have F755 : IL Z h744 m1 .int 4 := F707.wr W744
  have F756 : IL Z h744 m2 .int 4 := F708.wr W744
  have F757 : IL Z h744 m3 .int 4 := F696.wr W744
  have F758 : IL Z h744 m5 .int 4 := F710.wr W744
  have F759 : IL Z h744 m6 .int 4 := F711.wr W744
  have F760 : IL Z h744 m7 .int 4 := F712.wr W744
  have F761 : IA Z h744 a2 .boolean [(.int cl0), (.int cl1), (.int cl2), (.int cl3)] := F713.other W744 ne_a2_m4
  have F762 : IA Z h744 a3 .boolean [(.int ch0), (.int ch1), (.int ch2), (.int ch3)] := F714.other W744 ne_a3_m4
  have F763 : Exa Z h744 b0 nm2 := F715.wr W744
  have F764 : Exa Z h744 b12nr1 nm1 := F716.wr W744
  have F765 : Exa Z h744 b12nr2 nm1 := F717.wr W744
  have F766 : Exa Z h744 b12nr3 nm1 := F718.wr W744
  have F767 : Exa Z h744 b12nr4 nm1 := F719.wr W744
  have F768 : Fld Z h744 b12nr3 nm1 "runs" "I" (.int (f4_c41_b12nr3_runs0 p4 hm cl0)) := F720.other W744 (Or.inl (Ne.symm ne107))
  have F769 : Fld Z h744 b12nr3 nm1 "length" "I" (.int (f4_c41_b12nr3_length0 p4 hm cl0)) := F721.other W744 (Or.inl (Ne.symm ne107))
  have F770 : Fld Z h744 b12nr3 nm1 "lows" "I" (.int (f4_c41_b12nr3_lows0 p4 hm cl0)) := F722.other W744 (Or.inl (Ne.symm ne107))
  have F771 : Fld Z h744 b12nr4 nm1 "runs" "I" (.int (f4_c41_b12nr4_runs0 p4 hm ch0)) := F723.other W744 (Or.inl (Ne.symm ne120))
  have F772 : Fld Z h744 b12nr4 nm1 "length" "I" (.int (f4_c41_b12nr4_length0 p4 hm ch0)) := F724.other W744 (Or.inl (Ne.symm ne120))
  have F773 : Fld Z h744 b12nr4 nm1 "lows" "I" (.int (f4_c41_b12nr4_lows0 p4 hm ch0)) := F725.other W744 (Or.inl (Ne.symm ne120))
  have F774 : Fld Z h744 b0 nm2 "impossible" "I" (.int (5 : Int32)) := F726.other W744 (Or.inl (Ne.symm ne8))
  have F775 : Fld Z h744 b0 nm2 "h" "I" (.int hm) := F727.other W744 (Or.inl (Ne.symm ne8))
  have F776 : Fld Z h744 b0 nm2 "lowOut" "I" (.int (f4_c41_b0_lowOut0_1 p4 hm cl0 cl1 ch0)) := F728.other W744 (Or.inl (Ne.symm ne8))
  have F777 : Fld Z h744 b0 nm2 "lowIn" nm3 (.ref b12nr1) := F729.other W744 (Or.inl (Ne.symm ne8))
  have F778 : Fld Z h744 b0 nm2 "high" nm3 (.ref b12nr2) := F730.other W744 (Or.inl (Ne.symm ne8))
  have F779 : Fld Z h744 b0 nm2 "nextLowIn" nm3 (.ref b12nr3) := F731.other W744 (Or.inl (Ne.symm ne8))
  have F780 : Fld Z h744 b0 nm2 "nextHigh" nm3 (.ref b12nr4) := F732.other W744 (Or.inl (Ne.symm ne8))
  have F781 : Fld Z h744 b12nr1 nm1 "runs" "I" (.int (f4_c41_b12nr1_runs0 p4 hm cl0 cl1 ch0)) := F733.other W744 (Or.inl (Ne.symm ne81))
  have F782 : Fld Z h744 b12nr1 nm1 "length" "I" (.int (f4_c41_b12nr1_length0 p4 hm cl0 cl1 ch0)) := F734.other W744 (Or.inl (Ne.symm ne81))
  have F783 : Fld Z h744 b12nr1 nm1 "lows" "I" (.int (f4_c41_b12nr1_lows0 p4 hm cl0 cl1 ch0)) := F735.other W744 (Or.inl (Ne.symm ne81))
  have F784 : Fld Z h744 b12nr2 nm1 "runs" "I" (.int (f4_c41_b12nr2_runs0 p4 hm cl0 ch0 ch1)) := F736.other W744 (Or.inl (Ne.symm ne94))
  have F785 : Fld Z h744 b12nr2 nm1 "length" "I" (.int (f4_c41_b12nr2_length0 p4 hm cl0 ch0 ch1)) := F737.other W744 (Or.inl (Ne.symm ne94))
  have F786 : Fld Z h744 b12nr2 nm1 "lows" "I" (.int (f4_c41_b12nr2_lows0 p4 hm cl0 ch0 ch1)) := F738.other W744 (Or.inl (Ne.symm ne94))
  have K787 : Keep h0 h744 [m1, m2, m3, m4, m5, m6, m7] := K739.wr W744 (Or.inl (List.mem_of_getElem? (i := 3) rfl))
  have Z788 : n0 ≤ h744.size := Nat.le_trans Z740 (Keep.of_wr W744).1
  refine Rt.aloadN (pc' := 102) X744 hx (hb hby d4_101) rfl rfl rfl ?_
  refine Rt.getF (pc' := 105) (v := (.ref m5)) X744 hx hZ hown (host := "") (Or.inl (hw _ (List.mem_of_getElem? (i := 28) rfl))) F752 (hb hby d4_102) rfl ?_
  intro T789 X789
  refine Rt.iload (pc' := 107) X789 hx (hb hby d4_105) rfl rfl ?_
  refine Rt.aload (pc' := 109) X789 hx (hb hby d4_107) rfl rfl rfl ?_
  refine Rt.getFR (pc' := 112) (v := (.ref b12nr2)) X789 hx hZ hown (hw _ (List.mem_of_getElem? (i := 101) rfl)) F778 (hb hby d4_109) rfl ?_
  intro T790 X790
  refine Rt.getFR (pc' := 115) (v := (.int (f4_c41_b12nr2_runs0 p4 hm cl0 ch0 ch1))) X790 hx hZ hown (hw _ (List.mem_of_getElem? (i := 98) rfl)) F784 (hb hby d4_112) rfl ?_
  intro T791 X791
  refine Rt.iastoreL (pc' := 116) X791 hx hZ F758 (i := 1) (by decide) (by decide) (by decide) g_m5 (hb hby d4_115) rfl ?_
  intro T792 h792 X792 v792 W792 F792
  have F793 : Exa Z h792 a1 nm4 := F745.wr W792
  have F794 : Fld Z h792 a1 nm4 "impossible" "I" (.int (5 : Int32)) := F746.other W792 (Or.inl ne_a1_m5)
  have F795 : Fld Z h792 a1 nm4 "h" "I" (.int hm) := F747.other W792 (Or.inl ne_a1_m5)
  have F796 : Fld Z h792 a1 nm4 "lowOut" "[I" (.ref m1) := F748.other W792 (Or.inl ne_a1_m5)
  have F797 : Fld Z h792 a1 nm4 "lowIn" "[I" (.ref m2) := F749.other W792 (Or.inl ne_a1_m5)
  have F798 : Fld Z h792 a1 nm4 "lowInLength" "[I" (.ref m3) := F750.other W792 (Or.inl ne_a1_m5)
  have F799 : Fld Z h792 a1 nm4 "lowInLows" "[I" (.ref m4) := F751.other W792 (Or.inl ne_a1_m5)
  have F800 : Fld Z h792 a1 nm4 "high" "[I" (.ref m5) := F752.other W792 (Or.inl ne_a1_m5)
  have F801 : Fld Z h792 a1 nm4 "highLength" "[I" (.ref m6) := F753.other W792 (Or.inl ne_a1_m5)
  have F802 : Fld Z h792 a1 nm4 "highLows" "[I" (.ref m7) := F754.other W792 (Or.inl ne_a1_m5)
  have F803 : IL Z h792 m1 .int 4 := F755.wr W792
  have F804 : IL Z h792 m2 .int 4 := F756.wr W792
  have F805 : IL Z h792 m3 .int 4 := F757.wr W792
  have F806 : IL Z h792 m4 .int 4 := F744.wr W792
  have F807 : IL Z h792 m6 .int 4 := F759.wr W792
  have F808 : IL Z h792 m7 .int 4 := F760.wr W792
  have F809 : IA Z h792 a2 .boolean [(.int cl0), (.int cl1), (.int cl2), (.int cl3)] := F761.other W792 ne_a2_m5
  have F810 : IA Z h792 a3 .boolean [(.int ch0), (.int ch1), (.int ch2), (.int ch3)] := F762.other W792 ne_a3_m5
  have F811 : Exa Z h792 b0 nm2 := F763.wr W792
  have F812 : Exa Z h792 b12nr1 nm1 := F764.wr W792
  have F813 : Exa Z h792 b12nr2 nm1 := F765.wr W792
  have F814 : Exa Z h792 b12nr3 nm1 := F766.wr W792
  have F815 : Exa Z h792 b12nr4 nm1 := F767.wr W792
  have F816 : Fld Z h792 b12nr3 nm1 "runs" "I" (.int (f4_c41_b12nr3_runs0 p4 hm cl0)) := F768.other W792 (Or.inl (Ne.symm ne108))
  have F817 : Fld Z h792 b12nr3 nm1 "length" "I" (.int (f4_c41_b12nr3_length0 p4 hm cl0)) := F769.other W792 (Or.inl (Ne.symm ne108))
  have F818 : Fld Z h792 b12nr3 nm1 "lows" "I" (.int (f4_c41_b12nr3_lows0 p4 hm cl0)) := F770.other W792 (Or.inl (Ne.symm ne108))
  have F819 : Fld Z h792 b12nr4 nm1 "runs" "I" (.int (f4_c41_b12nr4_runs0 p4 hm ch0)) := F771.other W792 (Or.inl (Ne.symm ne121))
  have F820 : Fld Z h792 b12nr4 nm1 "length" "I" (.int (f4_c41_b12nr4_length0 p4 hm ch0)) := F772.other W792 (Or.inl (Ne.symm ne121))
  have F821 : Fld Z h792 b12nr4 nm1 "lows" "I" (.int (f4_c41_b12nr4_lows0 p4 hm ch0)) := F773.other W792 (Or.inl (Ne.symm ne121))
  have F822 : Fld Z h792 b0 nm2 "impossible" "I" (.int (5 : Int32)) := F774.other W792 (Or.inl (Ne.symm ne9))
  have F823 : Fld Z h792 b0 nm2 "h" "I" (.int hm) := F775.other W792 (Or.inl (Ne.symm ne9))
  have F824 : Fld Z h792 b0 nm2 "lowOut" "I" (.int (f4_c41_b0_lowOut0_1 p4 hm cl0 cl1 ch0)) := F776.other W792 (Or.inl (Ne.symm ne9))
  have F825 : Fld Z h792 b0 nm2 "lowIn" nm3 (.ref b12nr1) := F777.other W792 (Or.inl (Ne.symm ne9))
  have F826 : Fld Z h792 b0 nm2 "high" nm3 (.ref b12nr2) := F778.other W792 (Or.inl (Ne.symm ne9))
  have F827 : Fld Z h792 b0 nm2 "nextLowIn" nm3 (.ref b12nr3) := F779.other W792 (Or.inl (Ne.symm ne9))
  have F828 : Fld Z h792 b0 nm2 "nextHigh" nm3 (.ref b12nr4) := F780.other W792 (Or.inl (Ne.symm ne9))
  have F829 : Fld Z h792 b12nr1 nm1 "runs" "I" (.int (f4_c41_b12nr1_runs0 p4 hm cl0 cl1 ch0)) := F781.other W792 (Or.inl (Ne.symm ne82))
  have F830 : Fld Z h792 b12nr1 nm1 "length" "I" (.int (f4_c41_b12nr1_length0 p4 hm cl0 cl1 ch0)) := F782.other W792 (Or.inl (Ne.symm ne82))
  have F831 : Fld Z h792 b12nr1 nm1 "lows" "I" (.int (f4_c41_b12nr1_lows0 p4 hm cl0 cl1 ch0)) := F783.other W792 (Or.inl (Ne.symm ne82))
  have F832 : Fld Z h792 b12nr2 nm1 "runs" "I" (.int (f4_c41_b12nr2_runs0 p4 hm cl0 ch0 ch1)) := F784.other W792 (Or.inl (Ne.symm ne95))
  have F833 : Fld Z h792 b12nr2 nm1 "length" "I" (.int (f4_c41_b12nr2_length0 p4 hm cl0 ch0 ch1)) := F785.other W792 (Or.inl (Ne.symm ne95))
  have F834 : Fld Z h792 b12nr2 nm1 "lows" "I" (.int (f4_c41_b12nr2_lows0 p4 hm cl0 ch0 ch1)) := F786.other W792 (Or.inl (Ne.symm ne95))
  have K835 : Keep h0 h792 [m1, m2, m3, m4, m5, m6, m7] := K787.wr W792 (Or.inl (List.mem_of_getElem? (i := 4) rfl))
  have Z836 : n0 ≤ h792.size := Nat.le_trans Z788 (Keep.of_wr W792).1
  refine Rt.aloadN (pc' := 117) X792 hx (hb hby d4_116) rfl rfl rfl ?_
  refine Rt.getF (pc' := 120) (v := (.ref m6)) X792 hx hZ hown (host := "") (Or.inl (hw _ (List.mem_of_getElem? (i := 30) rfl))) F801 (hb hby d4_117) rfl ?_
  intro T837 X837
  refine Rt.iload (pc' := 122) X837 hx (hb hby d4_120) rfl rfl ?_
  refine Rt.aload (pc' := 124) X837 hx (hb hby d4_122) rfl rfl rfl ?_
  refine Rt.getFR (pc' := 127) (v := (.ref b12nr2)) X837 hx hZ hown (hw _ (List.mem_of_getElem? (i := 101) rfl)) F826 (hb hby d4_124) rfl ?_
  intro T838 X838
  refine Rt.getFR (pc' := 130) (v := (.int (f4_c41_b12nr2_length0 p4 hm cl0 ch0 ch1))) X838 hx hZ hown (hw _ (List.mem_of_getElem? (i := 99) rfl)) F833 (hb hby d4_127) rfl ?_
  intro T839 X839
  refine Rt.iastoreL (pc' := 131) X839 hx hZ F807 (i := 1) (by decide) (by decide) (by decide) g_m6 (hb hby d4_130) rfl ?_
  intro T840 h840 X840 v840 W840 F840
  have F841 : Exa Z h840 a1 nm4 := F793.wr W840
  have F842 : Fld Z h840 a1 nm4 "impossible" "I" (.int (5 : Int32)) := F794.other W840 (Or.inl ne_a1_m6)
  have F843 : Fld Z h840 a1 nm4 "h" "I" (.int hm) := F795.other W840 (Or.inl ne_a1_m6)
  have F844 : Fld Z h840 a1 nm4 "lowOut" "[I" (.ref m1) := F796.other W840 (Or.inl ne_a1_m6)
  have F845 : Fld Z h840 a1 nm4 "lowIn" "[I" (.ref m2) := F797.other W840 (Or.inl ne_a1_m6)
  have F846 : Fld Z h840 a1 nm4 "lowInLength" "[I" (.ref m3) := F798.other W840 (Or.inl ne_a1_m6)
  have F847 : Fld Z h840 a1 nm4 "lowInLows" "[I" (.ref m4) := F799.other W840 (Or.inl ne_a1_m6)
  have F848 : Fld Z h840 a1 nm4 "high" "[I" (.ref m5) := F800.other W840 (Or.inl ne_a1_m6)
  have F849 : Fld Z h840 a1 nm4 "highLength" "[I" (.ref m6) := F801.other W840 (Or.inl ne_a1_m6)
  have F850 : Fld Z h840 a1 nm4 "highLows" "[I" (.ref m7) := F802.other W840 (Or.inl ne_a1_m6)
  have F851 : IL Z h840 m1 .int 4 := F803.wr W840
  have F852 : IL Z h840 m2 .int 4 := F804.wr W840
  have F853 : IL Z h840 m3 .int 4 := F805.wr W840
  have F854 : IL Z h840 m4 .int 4 := F806.wr W840
  have F855 : IL Z h840 m5 .int 4 := F792.wr W840
  have F856 : IL Z h840 m7 .int 4 := F808.wr W840
  have F857 : IA Z h840 a2 .boolean [(.int cl0), (.int cl1), (.int cl2), (.int cl3)] := F809.other W840 ne_a2_m6
  have F858 : IA Z h840 a3 .boolean [(.int ch0), (.int ch1), (.int ch2), (.int ch3)] := F810.other W840 ne_a3_m6
  have F859 : Exa Z h840 b0 nm2 := F811.wr W840
  have F860 : Exa Z h840 b12nr1 nm1 := F812.wr W840
  have F861 : Exa Z h840 b12nr2 nm1 := F813.wr W840
  have F862 : Exa Z h840 b12nr3 nm1 := F814.wr W840
  have F863 : Exa Z h840 b12nr4 nm1 := F815.wr W840
  have F864 : Fld Z h840 b12nr3 nm1 "runs" "I" (.int (f4_c41_b12nr3_runs0 p4 hm cl0)) := F816.other W840 (Or.inl (Ne.symm ne109))
  have F865 : Fld Z h840 b12nr3 nm1 "length" "I" (.int (f4_c41_b12nr3_length0 p4 hm cl0)) := F817.other W840 (Or.inl (Ne.symm ne109))
  have F866 : Fld Z h840 b12nr3 nm1 "lows" "I" (.int (f4_c41_b12nr3_lows0 p4 hm cl0)) := F818.other W840 (Or.inl (Ne.symm ne109))
  have F867 : Fld Z h840 b12nr4 nm1 "runs" "I" (.int (f4_c41_b12nr4_runs0 p4 hm ch0)) := F819.other W840 (Or.inl (Ne.symm ne122))
  have F868 : Fld Z h840 b12nr4 nm1 "length" "I" (.int (f4_c41_b12nr4_length0 p4 hm ch0)) := F820.other W840 (Or.inl (Ne.symm ne122))
  have F869 : Fld Z h840 b12nr4 nm1 "lows" "I" (.int (f4_c41_b12nr4_lows0 p4 hm ch0)) := F821.other W840 (Or.inl (Ne.symm ne122))
  have F870 : Fld Z h840 b0 nm2 "impossible" "I" (.int (5 : Int32)) := F822.other W840 (Or.inl (Ne.symm ne10))
  have F871 : Fld Z h840 b0 nm2 "h" "I" (.int hm) := F823.other W840 (Or.inl (Ne.symm ne10))
  have F872 : Fld Z h840 b0 nm2 "lowOut" "I" (.int (f4_c41_b0_lowOut0_1 p4 hm cl0 cl1 ch0)) := F824.other W840 (Or.inl (Ne.symm ne10))
  have F873 : Fld Z h840 b0 nm2 "lowIn" nm3 (.ref b12nr1) := F825.other W840 (Or.inl (Ne.symm ne10))
  have F874 : Fld Z h840 b0 nm2 "high" nm3 (.ref b12nr2) := F826.other W840 (Or.inl (Ne.symm ne10))
  have F875 : Fld Z h840 b0 nm2 "nextLowIn" nm3 (.ref b12nr3) := F827.other W840 (Or.inl (Ne.symm ne10))
  have F876 : Fld Z h840 b0 nm2 "nextHigh" nm3 (.ref b12nr4) := F828.other W840 (Or.inl (Ne.symm ne10))
  have F877 : Fld Z h840 b12nr1 nm1 "runs" "I" (.int (f4_c41_b12nr1_runs0 p4 hm cl0 cl1 ch0)) := F829.other W840 (Or.inl (Ne.symm ne83))
  have F878 : Fld Z h840 b12nr1 nm1 "length" "I" (.int (f4_c41_b12nr1_length0 p4 hm cl0 cl1 ch0)) := F830.other W840 (Or.inl (Ne.symm ne83))
  have F879 : Fld Z h840 b12nr1 nm1 "lows" "I" (.int (f4_c41_b12nr1_lows0 p4 hm cl0 cl1 ch0)) := F831.other W840 (Or.inl (Ne.symm ne83))
  have F880 : Fld Z h840 b12nr2 nm1 "runs" "I" (.int (f4_c41_b12nr2_runs0 p4 hm cl0 ch0 ch1)) := F832.other W840 (Or.inl (Ne.symm ne96))
  have F881 : Fld Z h840 b12nr2 nm1 "length" "I" (.int (f4_c41_b12nr2_length0 p4 hm cl0 ch0 ch1)) := F833.other W840 (Or.inl (Ne.symm ne96))
  have F882 : Fld Z h840 b12nr2 nm1 "lows" "I" (.int (f4_c41_b12nr2_lows0 p4 hm cl0 ch0 ch1)) := F834.other W840 (Or.inl (Ne.symm ne96))
  have K883 : Keep h0 h840 [m1, m2, m3, m4, m5, m6, m7] := K835.wr W840 (Or.inl (List.mem_of_getElem? (i := 5) rfl))
  have Z884 : n0 ≤ h840.size := Nat.le_trans Z836 (Keep.of_wr W840).1
  refine Rt.aloadN (pc' := 132) X840 hx (hb hby d4_131) rfl rfl rfl ?_
  refine Rt.getF (pc' := 135) (v := (.ref m7)) X840 hx hZ hown (host := "") (Or.inl (hw _ (List.mem_of_getElem? (i := 32) rfl))) F850 (hb hby d4_132) rfl ?_
  intro T885 X885
  refine Rt.iload (pc' := 137) X885 hx (hb hby d4_135) rfl rfl ?_
  refine Rt.aload (pc' := 139) X885 hx (hb hby d4_137) rfl rfl rfl ?_
  refine Rt.getFR (pc' := 142) (v := (.ref b12nr2)) X885 hx hZ hown (hw _ (List.mem_of_getElem? (i := 101) rfl)) F874 (hb hby d4_139) rfl ?_
  intro T886 X886
  refine Rt.getFR (pc' := 145) (v := (.int (f4_c41_b12nr2_lows0 p4 hm cl0 ch0 ch1))) X886 hx hZ hown (hw _ (List.mem_of_getElem? (i := 100) rfl)) F882 (hb hby d4_142) rfl ?_
  intro T887 X887
  refine Rt.iastoreL (pc' := 146) X887 hx hZ F856 (i := 1) (by decide) (by decide) (by decide) g_m7 (hb hby d4_145) rfl ?_
  intro T888 h888 X888 v888 W888 F888
  have F889 : Exa Z h888 a1 nm4 := F841.wr W888
  have F890 : Fld Z h888 a1 nm4 "impossible" "I" (.int (5 : Int32)) := F842.other W888 (Or.inl ne_a1_m7)
  have F891 : Fld Z h888 a1 nm4 "h" "I" (.int hm) := F843.other W888 (Or.inl ne_a1_m7)
  have F892 : Fld Z h888 a1 nm4 "lowOut" "[I" (.ref m1) := F844.other W888 (Or.inl ne_a1_m7)
  have F893 : Fld Z h888 a1 nm4 "lowIn" "[I" (.ref m2) := F845.other W888 (Or.inl ne_a1_m7)
  have F894 : Fld Z h888 a1 nm4 "lowInLength" "[I" (.ref m3) := F846.other W888 (Or.inl ne_a1_m7)
  have F895 : Fld Z h888 a1 nm4 "lowInLows" "[I" (.ref m4) := F847.other W888 (Or.inl ne_a1_m7)
  have F896 : Fld Z h888 a1 nm4 "high" "[I" (.ref m5) := F848.other W888 (Or.inl ne_a1_m7)
  have F897 : Fld Z h888 a1 nm4 "highLength" "[I" (.ref m6) := F849.other W888 (Or.inl ne_a1_m7)
  have F898 : Fld Z h888 a1 nm4 "highLows" "[I" (.ref m7) := F850.other W888 (Or.inl ne_a1_m7)
  have F899 : IL Z h888 m1 .int 4 := F851.wr W888
  have F900 : IL Z h888 m2 .int 4 := F852.wr W888
  have F901 : IL Z h888 m3 .int 4 := F853.wr W888
  have F902 : IL Z h888 m4 .int 4 := F854.wr W888
  have F903 : IL Z h888 m5 .int 4 := F855.wr W888
  have F904 : IL Z h888 m6 .int 4 := F840.wr W888
  have F905 : IA Z h888 a2 .boolean [(.int cl0), (.int cl1), (.int cl2), (.int cl3)] := F857.other W888 ne_a2_m7
  have F906 : IA Z h888 a3 .boolean [(.int ch0), (.int ch1), (.int ch2), (.int ch3)] := F858.other W888 ne_a3_m7
  have F907 : Exa Z h888 b0 nm2 := F859.wr W888
  have F908 : Exa Z h888 b12nr1 nm1 := F860.wr W888
  have F909 : Exa Z h888 b12nr2 nm1 := F861.wr W888
  have F910 : Exa Z h888 b12nr3 nm1 := F862.wr W888
  have F911 : Exa Z h888 b12nr4 nm1 := F863.wr W888
  have F912 : Fld Z h888 b12nr3 nm1 "runs" "I" (.int (f4_c41_b12nr3_runs0 p4 hm cl0)) := F864.other W888 (Or.inl (Ne.symm ne110))
  have F913 : Fld Z h888 b12nr3 nm1 "length" "I" (.int (f4_c41_b12nr3_length0 p4 hm cl0)) := F865.other W888 (Or.inl (Ne.symm ne110))
  have F914 : Fld Z h888 b12nr3 nm1 "lows" "I" (.int (f4_c41_b12nr3_lows0 p4 hm cl0)) := F866.other W888 (Or.inl (Ne.symm ne110))
  have F915 : Fld Z h888 b12nr4 nm1 "runs" "I" (.int (f4_c41_b12nr4_runs0 p4 hm ch0)) := F867.other W888 (Or.inl (Ne.symm ne123))
  have F916 : Fld Z h888 b12nr4 nm1 "length" "I" (.int (f4_c41_b12nr4_length0 p4 hm ch0)) := F868.other W888 (Or.inl (Ne.symm ne123))
  have F917 : Fld Z h888 b12nr4 nm1 "lows" "I" (.int (f4_c41_b12nr4_lows0 p4 hm ch0)) := F869.other W888 (Or.inl (Ne.symm ne123))
  have F918 : Fld Z h888 b0 nm2 "impossible" "I" (.int (5 : Int32)) := F870.other W888 (Or.inl (Ne.symm ne11))
  have F919 : Fld Z h888 b0 nm2 "h" "I" (.int hm) := F871.other W888 (Or.inl (Ne.symm ne11))
  have F920 : Fld Z h888 b0 nm2 "lowOut" "I" (.int (f4_c41_b0_lowOut0_1 p4 hm cl0 cl1 ch0)) := F872.other W888 (Or.inl (Ne.symm ne11))
  have F921 : Fld Z h888 b0 nm2 "lowIn" nm3 (.ref b12nr1) := F873.other W888 (Or.inl (Ne.symm ne11))
  have F922 : Fld Z h888 b0 nm2 "high" nm3 (.ref b12nr2) := F874.other W888 (Or.inl (Ne.symm ne11))
  have F923 : Fld Z h888 b0 nm2 "nextLowIn" nm3 (.ref b12nr3) := F875.other W888 (Or.inl (Ne.symm ne11))
  have F924 : Fld Z h888 b0 nm2 "nextHigh" nm3 (.ref b12nr4) := F876.other W888 (Or.inl (Ne.symm ne11))
  have F925 : Fld Z h888 b12nr1 nm1 "runs" "I" (.int (f4_c41_b12nr1_runs0 p4 hm cl0 cl1 ch0)) := F877.other W888 (Or.inl (Ne.symm ne84))
  have F926 : Fld Z h888 b12nr1 nm1 "length" "I" (.int (f4_c41_b12nr1_length0 p4 hm cl0 cl1 ch0)) := F878.other W888 (Or.inl (Ne.symm ne84))
  have F927 : Fld Z h888 b12nr1 nm1 "lows" "I" (.int (f4_c41_b12nr1_lows0 p4 hm cl0 cl1 ch0)) := F879.other W888 (Or.inl (Ne.symm ne84))
  have F928 : Fld Z h888 b12nr2 nm1 "runs" "I" (.int (f4_c41_b12nr2_runs0 p4 hm cl0 ch0 ch1)) := F880.other W888 (Or.inl (Ne.symm ne97))
  have F929 : Fld Z h888 b12nr2 nm1 "length" "I" (.int (f4_c41_b12nr2_length0 p4 hm cl0 ch0 ch1)) := F881.other W888 (Or.inl (Ne.symm ne97))
  have F930 : Fld Z h888 b12nr2 nm1 "lows" "I" (.int (f4_c41_b12nr2_lows0 p4 hm cl0 ch0 ch1)) := F882.other W888 (Or.inl (Ne.symm ne97))
  have K931 : Keep h0 h888 [m1, m2, m3, m4, m5, m6, m7] := K883.wr W888 (Or.inl (List.mem_of_getElem? (i := 6) rfl))
  have Z932 : n0 ≤ h888.size := Nat.le_trans Z884 (Keep.of_wr W888).1
  refine Rt.iinc (pc' := 149) (r := (2 : Int32)) (l' := #[.val (.ref a1), .val (.ref a2), .val (.ref a3), .val (.int p4), .val (.ref b0), .val (.int (2 : Int32))]) X888 hx (hb hby d4_146) rfl (by decide) rfl rfl ?_
  refine Rt.goto (pc' := 20) X888 hx (hb hby d4_149) (by decide) (by decide) ?_
  refine Rt.iload (pc' := 22) X888 hx (hb hby d4_20) rfl rfl ?_
  refine Rt.aloadN (pc' := 23) X888 hx (hb hby d4_22) rfl rfl rfl ?_
  refine Rt.getF (pc' := 26) (v := (.ref m1)) X888 hx hZ hown (host := "") (Or.inl (hw _ (List.mem_of_getElem? (i := 20) rfl))) F892 (hb hby d4_23) rfl ?_
  intro T933 X933
  refine Rt.arraylengthL (pc' := 27) X933 hx hZ F899 (v := (4 : Int32)) (by decide) (hb hby d4_26) rfl ?_
  refine Rt.icmpN (pc' := 30) X933 hx (hb hby d4_27) (tlt (by decide : (2 : Int32) < (4 : Int32))).2.1 rfl ?_
  refine Rt.aload (pc' := 32) X933 hx (hb hby d4_30) rfl rfl rfl ?_
  refine Rt.aloadN (pc' := 33) X933 hx (hb hby d4_32) rfl rfl rfl ?_
  refine Rt.iload (pc' := 35) X933 hx (hb hby d4_33) rfl rfl ?_
  refine Rt.zaload (pc' := 36) X933 hx hZ F905 (i := 2) (by decide) (by decide) (v := (.int cl2)) rfl (hb hby d4_35) rfl ?_
  refine Rt.aloadN (pc' := 37) X933 hx (hb hby d4_36) rfl rfl rfl ?_
  refine Rt.iload (pc' := 39) X933 hx (hb hby d4_37) rfl rfl ?_
  refine Rt.zaload (pc' := 40) X933 hx hZ F906 (i := 2) (by decide) (by decide) (v := (.int ch2)) rfl (hb hby d4_39) rfl ?_
  refine Rt.iloadN (pc' := 41) X933 hx (hb hby d4_40) rfl rfl ?_
  refine Rt.callV (pc' := 44) X933 hx hZ (y := mt8) (yz := mt8) hown (hw _ (List.mem_of_getElem? (i := 78) rfl)) (hw _ (List.mem_of_getElem? (i := 79) rfl)) (notFace_of_selects (args := #[]) (mvT hZ (hw _ (List.mem_of_getElem? (i := 81) rfl)))) (hw _ (List.mem_of_getElem? (i := 81) rfl)) (hw _ (List.mem_of_getElem? (i := 80) rfl)) (hw _ (List.mem_of_getElem? (i := 41) rfl)) (hw _ (List.mem_of_getElem? (i := 82) rfl)) (by decide) F907 (rm8 l Z a0 hw [] b0 cl2 ch2 p4 (5 : Int32) hm (f4_c41_b0_lowOut0_1 p4 hm cl0 cl1 ch0) b12nr1 b12nr2 b12nr3 b12nr4 (f4_c41_b12nr1_runs0 p4 hm cl0 cl1 ch0) (f4_c41_b12nr1_length0 p4 hm cl0 cl1 ch0) (f4_c41_b12nr1_lows0 p4 hm cl0 cl1 ch0) (f4_c41_b12nr2_runs0 p4 hm cl0 ch0 ch1) (f4_c41_b12nr2_length0 p4 hm cl0 ch0 ch1) (f4_c41_b12nr2_lows0 p4 hm cl0 ch0 ch1) (f4_c41_b12nr3_runs0 p4 hm cl0) (f4_c41_b12nr3_length0 p4 hm cl0) (f4_c41_b12nr3_lows0 p4 hm cl0) (f4_c41_b12nr4_runs0 p4 hm ch0) (f4_c41_b12nr4_length0 p4 hm ch0) (f4_c41_b12nr4_lows0 p4 hm ch0) h888 n0 Z932 F907 F918 F919 F920 F921 F922 F923 F924 F908 F925 F926 F927 F909 F928 F929 F930 F910 F912 F913 F914 F911 F915 F916 F917 g2 g101 g114 ne87 ne100 ne113 ne126 ne69 ne70 ne71 ne72 ne73 ne74) (fun _ _ _ q => q.2.1) (W := 0) (by decide) (by decide) (by decide) (by decide) (argsL := [(.int cl2), (.int ch2), (.int p4)]) (rest := []) (by rw [hml]; rfl) (lenOf pd_7 rfl) rfl rfl (Nat.le_of_eq rfl) (hb hby d4_41) rfl ?_
  rintro _ T934 h934 L934 X934 ⟨rfl, N934, K934, F935, F936, F937, F938, F939, F940, F941, F942, F943, F944, F945, F946, F947, F948, F949, F950⟩
  have F951 : Exa Z h934 a1 nm4 := F889.keep K934
  have F952 : Fld Z h934 a1 nm4 "impossible" "I" (.int (5 : Int32)) := F890.keep K934 (ninS ne4 (ninS ne103 (ninS ne116 nin0)))
  have F953 : Fld Z h934 a1 nm4 "h" "I" (.int hm) := F891.keep K934 (ninS ne4 (ninS ne103 (ninS ne116 nin0)))
  have F954 : Fld Z h934 a1 nm4 "lowOut" "[I" (.ref m1) := F892.keep K934 (ninS ne4 (ninS ne103 (ninS ne116 nin0)))
  have F955 : Fld Z h934 a1 nm4 "lowIn" "[I" (.ref m2) := F893.keep K934 (ninS ne4 (ninS ne103 (ninS ne116 nin0)))
  have F956 : Fld Z h934 a1 nm4 "lowInLength" "[I" (.ref m3) := F894.keep K934 (ninS ne4 (ninS ne103 (ninS ne116 nin0)))
  have F957 : Fld Z h934 a1 nm4 "lowInLows" "[I" (.ref m4) := F895.keep K934 (ninS ne4 (ninS ne103 (ninS ne116 nin0)))
  have F958 : Fld Z h934 a1 nm4 "high" "[I" (.ref m5) := F896.keep K934 (ninS ne4 (ninS ne103 (ninS ne116 nin0)))
  have F959 : Fld Z h934 a1 nm4 "highLength" "[I" (.ref m6) := F897.keep K934 (ninS ne4 (ninS ne103 (ninS ne116 nin0)))
  have F960 : Fld Z h934 a1 nm4 "highLows" "[I" (.ref m7) := F898.keep K934 (ninS ne4 (ninS ne103 (ninS ne116 nin0)))
  have F961 : IL Z h934 m1 .int 4 := F899.keep K934
  have F962 : IL Z h934 m2 .int 4 := F900.keep K934
  have F963 : IL Z h934 m3 .int 4 := F901.keep K934
  have F964 : IL Z h934 m4 .int 4 := F902.keep K934
  have F965 : IL Z h934 m5 .int 4 := F903.keep K934
  have F966 : IL Z h934 m6 .int 4 := F904.keep K934
  have F967 : IL Z h934 m7 .int 4 := F888.keep K934
  have F968 : IA Z h934 a2 .boolean [(.int cl0), (.int cl1), (.int cl2), (.int cl3)] := F905.keep K934 (ninS ne12 (ninS ne111 (ninS ne124 nin0)))
  have F969 : IA Z h934 a3 .boolean [(.int ch0), (.int ch1), (.int ch2), (.int ch3)] := F906.keep K934 (ninS ne13 (ninS ne112 (ninS ne125 nin0)))
  have F970 : Exa Z h934 b0 nm2 := F907.keep K934
  have F971 : Exa Z h934 b12nr1 nm1 := F908.keep K934
  have F972 : Exa Z h934 b12nr2 nm1 := F909.keep K934
  have F973 : Exa Z h934 b12nr3 nm1 := F910.keep K934
  have F974 : Exa Z h934 b12nr4 nm1 := F911.keep K934
  have F975 : Fld Z h934 b12nr1 nm1 "runs" "I" (.int (f4_c41_b12nr1_runs0 p4 hm cl0 cl1 ch0)) := F925.keep K934 (ninS (Ne.symm ne87) (ninS ne70 (ninS ne71 nin0)))
  have F976 : Fld Z h934 b12nr1 nm1 "length" "I" (.int (f4_c41_b12nr1_length0 p4 hm cl0 cl1 ch0)) := F926.keep K934 (ninS (Ne.symm ne87) (ninS ne70 (ninS ne71 nin0)))
  have F977 : Fld Z h934 b12nr1 nm1 "lows" "I" (.int (f4_c41_b12nr1_lows0 p4 hm cl0 cl1 ch0)) := F927.keep K934 (ninS (Ne.symm ne87) (ninS ne70 (ninS ne71 nin0)))
  have F978 : Fld Z h934 b12nr2 nm1 "runs" "I" (.int (f4_c41_b12nr2_runs0 p4 hm cl0 ch0 ch1)) := F928.keep K934 (ninS (Ne.symm ne100) (ninS ne72 (ninS ne73 nin0)))
  have F979 : Fld Z h934 b12nr2 nm1 "length" "I" (.int (f4_c41_b12nr2_length0 p4 hm cl0 ch0 ch1)) := F929.keep K934 (ninS (Ne.symm ne100) (ninS ne72 (ninS ne73 nin0)))
  have F980 : Fld Z h934 b12nr2 nm1 "lows" "I" (.int (f4_c41_b12nr2_lows0 p4 hm cl0 ch0 ch1)) := F930.keep K934 (ninS (Ne.symm ne100) (ninS ne72 (ninS ne73 nin0)))
  have K981 : Keep h0 h934 [m1, m2, m3, m4, m5, m6, m7] := K931.trans K934 (allS (Or.inr s3) (allS (Or.inr s102) (allS (Or.inr s115) all0)))
  have Z982 : n0 ≤ h934.size := Nat.le_trans Z932 K934.1
  have F983 : Fld Z h934 b0 nm2 "lowOut" "I" (.int (f4_c41_b0_lowOut0_2 p4 hm cl0 cl1 cl2 ch0 ch1)) := F938
  have F984 : Fld Z h934 b12nr3 nm1 "runs" "I" (.int (f4_c41_b12nr3_runs0_1 p4 hm cl0 cl1 cl2 ch0 ch1)) := F945
  have F985 : Fld Z h934 b12nr3 nm1 "length" "I" (.int (f4_c41_b12nr3_length0_1 p4 hm cl0 cl1 cl2 ch0 ch1)) := F946
  have F986 : Fld Z h934 b12nr3 nm1 "lows" "I" (.int (f4_c41_b12nr3_lows0_1 p4 hm cl0 cl1 cl2 ch0 ch1)) := F947
  have F987 : Fld Z h934 b12nr4 nm1 "runs" "I" (.int (f4_c41_b12nr4_runs0_1 p4 hm cl0 cl1 ch0 ch1 ch2)) := F948
  have F988 : Fld Z h934 b12nr4 nm1 "length" "I" (.int (f4_c41_b12nr4_length0_1 p4 hm cl0 cl1 ch0 ch1 ch2)) := F949
  have F989 : Fld Z h934 b12nr4 nm1 "lows" "I" (.int (f4_c41_b12nr4_lows0_1 p4 hm cl0 cl1 ch0 ch1 ch2)) := F950
  show Rt _ _ _ _ _ _ _ (T934.setTop (mkF m 44 #[.val (.ref a1), .val (.ref a2), .val (.ref a3), .val (.int p4), .val (.ref b0), .val (.int (2 : Int32))] []))
  refine Rt.aloadN (pc' := 45) X934 hx (hb hby d4_44) rfl rfl rfl ?_
  refine Rt.getF (pc' := 48) (v := (.ref m1)) X934 hx hZ hown (host := "") (Or.inl (hw _ (List.mem_of_getElem? (i := 20) rfl))) F954 (hb hby d4_45) rfl ?_
  intro T990 X990
  refine Rt.iload (pc' := 50) X990 hx (hb hby d4_48) rfl rfl ?_
  refine Rt.aload (pc' := 52) X990 hx (hb hby d4_50) rfl rfl rfl ?_
  refine Rt.getFR (pc' := 55) (v := (.int (f4_c41_b0_lowOut0_2 p4 hm cl0 cl1 cl2 ch0 ch1))) X990 hx hZ hown (hw _ (List.mem_of_getElem? (i := 96) rfl)) F983 (hb hby d4_52) rfl ?_
  intro T991 X991
  refine Rt.iastoreL (pc' := 56) X991 hx hZ F961 (i := 2) (by decide) (by decide) (by decide) g_m1 (hb hby d4_55) rfl ?_
  intro T992 h992 X992 v992 W992 F992
  have F993 : Exa Z h992 a1 nm4 := F951.wr W992
  have F994 : Fld Z h992 a1 nm4 "impossible" "I" (.int (5 : Int32)) := F952.other W992 (Or.inl ne_a1_m1)
  have F995 : Fld Z h992 a1 nm4 "h" "I" (.int hm) := F953.other W992 (Or.inl ne_a1_m1)
  have F996 : Fld Z h992 a1 nm4 "lowOut" "[I" (.ref m1) := F954.other W992 (Or.inl ne_a1_m1)
  have F997 : Fld Z h992 a1 nm4 "lowIn" "[I" (.ref m2) := F955.other W992 (Or.inl ne_a1_m1)
  have F998 : Fld Z h992 a1 nm4 "lowInLength" "[I" (.ref m3) := F956.other W992 (Or.inl ne_a1_m1)
  have F999 : Fld Z h992 a1 nm4 "lowInLows" "[I" (.ref m4) := F957.other W992 (Or.inl ne_a1_m1)
  have F1000 : Fld Z h992 a1 nm4 "high" "[I" (.ref m5) := F958.other W992 (Or.inl ne_a1_m1)
  have F1001 : Fld Z h992 a1 nm4 "highLength" "[I" (.ref m6) := F959.other W992 (Or.inl ne_a1_m1)
  have F1002 : Fld Z h992 a1 nm4 "highLows" "[I" (.ref m7) := F960.other W992 (Or.inl ne_a1_m1)
  have F1003 : IL Z h992 m2 .int 4 := F962.wr W992
  have F1004 : IL Z h992 m3 .int 4 := F963.wr W992
  have F1005 : IL Z h992 m4 .int 4 := F964.wr W992
  have F1006 : IL Z h992 m5 .int 4 := F965.wr W992
  have F1007 : IL Z h992 m6 .int 4 := F966.wr W992
  have F1008 : IL Z h992 m7 .int 4 := F967.wr W992
  have F1009 : IA Z h992 a2 .boolean [(.int cl0), (.int cl1), (.int cl2), (.int cl3)] := F968.other W992 ne_a2_m1
  have F1010 : IA Z h992 a3 .boolean [(.int ch0), (.int ch1), (.int ch2), (.int ch3)] := F969.other W992 ne_a3_m1
  have F1011 : Exa Z h992 b0 nm2 := F935.wr W992
  have F1012 : Exa Z h992 b12nr1 nm1 := F971.wr W992
  have F1013 : Exa Z h992 b12nr2 nm1 := F972.wr W992
  have F1014 : Exa Z h992 b12nr3 nm1 := F943.wr W992
  have F1015 : Exa Z h992 b12nr4 nm1 := F944.wr W992
  have F1016 : Fld Z h992 b12nr1 nm1 "runs" "I" (.int (f4_c41_b12nr1_runs0 p4 hm cl0 cl1 ch0)) := F975.other W992 (Or.inl (Ne.symm ne78))
  have F1017 : Fld Z h992 b12nr1 nm1 "length" "I" (.int (f4_c41_b12nr1_length0 p4 hm cl0 cl1 ch0)) := F976.other W992 (Or.inl (Ne.symm ne78))
  have F1018 : Fld Z h992 b12nr1 nm1 "lows" "I" (.int (f4_c41_b12nr1_lows0 p4 hm cl0 cl1 ch0)) := F977.other W992 (Or.inl (Ne.symm ne78))
  have F1019 : Fld Z h992 b12nr2 nm1 "runs" "I" (.int (f4_c41_b12nr2_runs0 p4 hm cl0 ch0 ch1)) := F978.other W992 (Or.inl (Ne.symm ne91))
  have F1020 : Fld Z h992 b12nr2 nm1 "length" "I" (.int (f4_c41_b12nr2_length0 p4 hm cl0 ch0 ch1)) := F979.other W992 (Or.inl (Ne.symm ne91))
  have F1021 : Fld Z h992 b12nr2 nm1 "lows" "I" (.int (f4_c41_b12nr2_lows0 p4 hm cl0 ch0 ch1)) := F980.other W992 (Or.inl (Ne.symm ne91))
  have F1022 : Fld Z h992 b0 nm2 "impossible" "I" (.int (5 : Int32)) := F936.other W992 (Or.inl (Ne.symm ne5))
  have F1023 : Fld Z h992 b0 nm2 "h" "I" (.int hm) := F937.other W992 (Or.inl (Ne.symm ne5))
  have F1024 : Fld Z h992 b0 nm2 "lowOut" "I" (.int (f4_c41_b0_lowOut0_2 p4 hm cl0 cl1 cl2 ch0 ch1)) := F983.other W992 (Or.inl (Ne.symm ne5))
  have F1025 : Fld Z h992 b0 nm2 "lowIn" nm3 (.ref b12nr3) := F939.other W992 (Or.inl (Ne.symm ne5))
  have F1026 : Fld Z h992 b0 nm2 "high" nm3 (.ref b12nr4) := F940.other W992 (Or.inl (Ne.symm ne5))
  have F1027 : Fld Z h992 b0 nm2 "nextLowIn" nm3 (.ref b12nr1) := F941.other W992 (Or.inl (Ne.symm ne5))
  have F1028 : Fld Z h992 b0 nm2 "nextHigh" nm3 (.ref b12nr2) := F942.other W992 (Or.inl (Ne.symm ne5))
  have F1029 : Fld Z h992 b12nr3 nm1 "runs" "I" (.int (f4_c41_b12nr3_runs0_1 p4 hm cl0 cl1 cl2 ch0 ch1)) := F984.other W992 (Or.inl (Ne.symm ne104))
  have F1030 : Fld Z h992 b12nr3 nm1 "length" "I" (.int (f4_c41_b12nr3_length0_1 p4 hm cl0 cl1 cl2 ch0 ch1)) := F985.other W992 (Or.inl (Ne.symm ne104))
  have F1031 : Fld Z h992 b12nr3 nm1 "lows" "I" (.int (f4_c41_b12nr3_lows0_1 p4 hm cl0 cl1 cl2 ch0 ch1)) := F986.other W992 (Or.inl (Ne.symm ne104))
  have F1032 : Fld Z h992 b12nr4 nm1 "runs" "I" (.int (f4_c41_b12nr4_runs0_1 p4 hm cl0 cl1 ch0 ch1 ch2)) := F987.other W992 (Or.inl (Ne.symm ne117))
  have F1033 : Fld Z h992 b12nr4 nm1 "length" "I" (.int (f4_c41_b12nr4_length0_1 p4 hm cl0 cl1 ch0 ch1 ch2)) := F988.other W992 (Or.inl (Ne.symm ne117))
  have F1034 : Fld Z h992 b12nr4 nm1 "lows" "I" (.int (f4_c41_b12nr4_lows0_1 p4 hm cl0 cl1 ch0 ch1 ch2)) := F989.other W992 (Or.inl (Ne.symm ne117))
  have K1035 : Keep h0 h992 [m1, m2, m3, m4, m5, m6, m7] := K981.wr W992 (Or.inl (List.mem_of_getElem? (i := 0) rfl))
  have Z1036 : n0 ≤ h992.size := Nat.le_trans Z982 (Keep.of_wr W992).1
  refine Rt.aloadN (pc' := 57) X992 hx (hb hby d4_56) rfl rfl rfl ?_
  refine Rt.getF (pc' := 60) (v := (.ref m2)) X992 hx hZ hown (host := "") (Or.inl (hw _ (List.mem_of_getElem? (i := 22) rfl))) F997 (hb hby d4_57) rfl ?_
  intro T1037 X1037
  refine Rt.iload (pc' := 62) X1037 hx (hb hby d4_60) rfl rfl ?_
  refine Rt.aload (pc' := 64) X1037 hx (hb hby d4_62) rfl rfl rfl ?_
  refine Rt.getFR (pc' := 67) (v := (.ref b12nr3)) X1037 hx hZ hown (hw _ (List.mem_of_getElem? (i := 97) rfl)) F1025 (hb hby d4_64) rfl ?_
  intro T1038 X1038
  refine Rt.getFR (pc' := 70) (v := (.int (f4_c41_b12nr3_runs0_1 p4 hm cl0 cl1 cl2 ch0 ch1))) X1038 hx hZ hown (hw _ (List.mem_of_getElem? (i := 98) rfl)) F1029 (hb hby d4_67) rfl ?_
  intro T1039 X1039
  refine Rt.iastoreL (pc' := 71) X1039 hx hZ F1003 (i := 2) (by decide) (by decide) (by decide) g_m2 (hb hby d4_70) rfl ?_
  intro T1040 h1040 X1040 v1040 W1040 F1040
  have F1041 : Exa Z h1040 a1 nm4 := F993.wr W1040
  have F1042 : Fld Z h1040 a1 nm4 "impossible" "I" (.int (5 : Int32)) := F994.other W1040 (Or.inl ne_a1_m2)
  have F1043 : Fld Z h1040 a1 nm4 "h" "I" (.int hm) := F995.other W1040 (Or.inl ne_a1_m2)
  have F1044 : Fld Z h1040 a1 nm4 "lowOut" "[I" (.ref m1) := F996.other W1040 (Or.inl ne_a1_m2)
  have F1045 : Fld Z h1040 a1 nm4 "lowIn" "[I" (.ref m2) := F997.other W1040 (Or.inl ne_a1_m2)
  have F1046 : Fld Z h1040 a1 nm4 "lowInLength" "[I" (.ref m3) := F998.other W1040 (Or.inl ne_a1_m2)
  have F1047 : Fld Z h1040 a1 nm4 "lowInLows" "[I" (.ref m4) := F999.other W1040 (Or.inl ne_a1_m2)
  have F1048 : Fld Z h1040 a1 nm4 "high" "[I" (.ref m5) := F1000.other W1040 (Or.inl ne_a1_m2)
  have F1049 : Fld Z h1040 a1 nm4 "highLength" "[I" (.ref m6) := F1001.other W1040 (Or.inl ne_a1_m2)
  have F1050 : Fld Z h1040 a1 nm4 "highLows" "[I" (.ref m7) := F1002.other W1040 (Or.inl ne_a1_m2)
  have F1051 : IL Z h1040 m1 .int 4 := F992.wr W1040
  have F1052 : IL Z h1040 m3 .int 4 := F1004.wr W1040
  have F1053 : IL Z h1040 m4 .int 4 := F1005.wr W1040
  have F1054 : IL Z h1040 m5 .int 4 := F1006.wr W1040
  have F1055 : IL Z h1040 m6 .int 4 := F1007.wr W1040
  have F1056 : IL Z h1040 m7 .int 4 := F1008.wr W1040
  have F1057 : IA Z h1040 a2 .boolean [(.int cl0), (.int cl1), (.int cl2), (.int cl3)] := F1009.other W1040 ne_a2_m2
  have F1058 : IA Z h1040 a3 .boolean [(.int ch0), (.int ch1), (.int ch2), (.int ch3)] := F1010.other W1040 ne_a3_m2
  have F1059 : Exa Z h1040 b0 nm2 := F1011.wr W1040
  have F1060 : Exa Z h1040 b12nr1 nm1 := F1012.wr W1040
  have F1061 : Exa Z h1040 b12nr2 nm1 := F1013.wr W1040
  have F1062 : Exa Z h1040 b12nr3 nm1 := F1014.wr W1040
  have F1063 : Exa Z h1040 b12nr4 nm1 := F1015.wr W1040
  have F1064 : Fld Z h1040 b12nr1 nm1 "runs" "I" (.int (f4_c41_b12nr1_runs0 p4 hm cl0 cl1 ch0)) := F1016.other W1040 (Or.inl (Ne.symm ne79))
  have F1065 : Fld Z h1040 b12nr1 nm1 "length" "I" (.int (f4_c41_b12nr1_length0 p4 hm cl0 cl1 ch0)) := F1017.other W1040 (Or.inl (Ne.symm ne79))
  have F1066 : Fld Z h1040 b12nr1 nm1 "lows" "I" (.int (f4_c41_b12nr1_lows0 p4 hm cl0 cl1 ch0)) := F1018.other W1040 (Or.inl (Ne.symm ne79))
  have F1067 : Fld Z h1040 b12nr2 nm1 "runs" "I" (.int (f4_c41_b12nr2_runs0 p4 hm cl0 ch0 ch1)) := F1019.other W1040 (Or.inl (Ne.symm ne92))
  have F1068 : Fld Z h1040 b12nr2 nm1 "length" "I" (.int (f4_c41_b12nr2_length0 p4 hm cl0 ch0 ch1)) := F1020.other W1040 (Or.inl (Ne.symm ne92))
  have F1069 : Fld Z h1040 b12nr2 nm1 "lows" "I" (.int (f4_c41_b12nr2_lows0 p4 hm cl0 ch0 ch1)) := F1021.other W1040 (Or.inl (Ne.symm ne92))
  have F1070 : Fld Z h1040 b0 nm2 "impossible" "I" (.int (5 : Int32)) := F1022.other W1040 (Or.inl (Ne.symm ne6))
  have F1071 : Fld Z h1040 b0 nm2 "h" "I" (.int hm) := F1023.other W1040 (Or.inl (Ne.symm ne6))
  have F1072 : Fld Z h1040 b0 nm2 "lowOut" "I" (.int (f4_c41_b0_lowOut0_2 p4 hm cl0 cl1 cl2 ch0 ch1)) := F1024.other W1040 (Or.inl (Ne.symm ne6))
  have F1073 : Fld Z h1040 b0 nm2 "lowIn" nm3 (.ref b12nr3) := F1025.other W1040 (Or.inl (Ne.symm ne6))
  have F1074 : Fld Z h1040 b0 nm2 "high" nm3 (.ref b12nr4) := F1026.other W1040 (Or.inl (Ne.symm ne6))
  have F1075 : Fld Z h1040 b0 nm2 "nextLowIn" nm3 (.ref b12nr1) := F1027.other W1040 (Or.inl (Ne.symm ne6))
  have F1076 : Fld Z h1040 b0 nm2 "nextHigh" nm3 (.ref b12nr2) := F1028.other W1040 (Or.inl (Ne.symm ne6))
  have F1077 : Fld Z h1040 b12nr3 nm1 "runs" "I" (.int (f4_c41_b12nr3_runs0_1 p4 hm cl0 cl1 cl2 ch0 ch1)) := F1029.other W1040 (Or.inl (Ne.symm ne105))
  have F1078 : Fld Z h1040 b12nr3 nm1 "length" "I" (.int (f4_c41_b12nr3_length0_1 p4 hm cl0 cl1 cl2 ch0 ch1)) := F1030.other W1040 (Or.inl (Ne.symm ne105))
  have F1079 : Fld Z h1040 b12nr3 nm1 "lows" "I" (.int (f4_c41_b12nr3_lows0_1 p4 hm cl0 cl1 cl2 ch0 ch1)) := F1031.other W1040 (Or.inl (Ne.symm ne105))
  have F1080 : Fld Z h1040 b12nr4 nm1 "runs" "I" (.int (f4_c41_b12nr4_runs0_1 p4 hm cl0 cl1 ch0 ch1 ch2)) := F1032.other W1040 (Or.inl (Ne.symm ne118))
  have F1081 : Fld Z h1040 b12nr4 nm1 "length" "I" (.int (f4_c41_b12nr4_length0_1 p4 hm cl0 cl1 ch0 ch1 ch2)) := F1033.other W1040 (Or.inl (Ne.symm ne118))
  have F1082 : Fld Z h1040 b12nr4 nm1 "lows" "I" (.int (f4_c41_b12nr4_lows0_1 p4 hm cl0 cl1 ch0 ch1 ch2)) := F1034.other W1040 (Or.inl (Ne.symm ne118))
  have K1083 : Keep h0 h1040 [m1, m2, m3, m4, m5, m6, m7] := K1035.wr W1040 (Or.inl (List.mem_of_getElem? (i := 1) rfl))
  have Z1084 : n0 ≤ h1040.size := Nat.le_trans Z1036 (Keep.of_wr W1040).1
  refine Rt.aloadN (pc' := 72) X1040 hx (hb hby d4_71) rfl rfl rfl ?_
  refine Rt.getF (pc' := 75) (v := (.ref m3)) X1040 hx hZ hown (host := "") (Or.inl (hw _ (List.mem_of_getElem? (i := 24) rfl))) F1046 (hb hby d4_72) rfl ?_
  intro T1085 X1085
  refine Rt.iload (pc' := 77) X1085 hx (hb hby d4_75) rfl rfl ?_
  refine Rt.aload (pc' := 79) X1085 hx (hb hby d4_77) rfl rfl rfl ?_
  refine Rt.getFR (pc' := 82) (v := (.ref b12nr3)) X1085 hx hZ hown (hw _ (List.mem_of_getElem? (i := 97) rfl)) F1073 (hb hby d4_79) rfl ?_
  intro T1086 X1086
  refine Rt.getFR (pc' := 85) (v := (.int (f4_c41_b12nr3_length0_1 p4 hm cl0 cl1 cl2 ch0 ch1))) X1086 hx hZ hown (hw _ (List.mem_of_getElem? (i := 99) rfl)) F1078 (hb hby d4_82) rfl ?_
  intro T1087 X1087
  refine Rt.iastoreL (pc' := 86) X1087 hx hZ F1052 (i := 2) (by decide) (by decide) (by decide) g_m3 (hb hby d4_85) rfl ?_
  intro T1088 h1088 X1088 v1088 W1088 F1088
  have F1089 : Exa Z h1088 a1 nm4 := F1041.wr W1088
  have F1090 : Fld Z h1088 a1 nm4 "impossible" "I" (.int (5 : Int32)) := F1042.other W1088 (Or.inl ne_a1_m3)
  have F1091 : Fld Z h1088 a1 nm4 "h" "I" (.int hm) := F1043.other W1088 (Or.inl ne_a1_m3)
  have F1092 : Fld Z h1088 a1 nm4 "lowOut" "[I" (.ref m1) := F1044.other W1088 (Or.inl ne_a1_m3)
  have F1093 : Fld Z h1088 a1 nm4 "lowIn" "[I" (.ref m2) := F1045.other W1088 (Or.inl ne_a1_m3)
  have F1094 : Fld Z h1088 a1 nm4 "lowInLength" "[I" (.ref m3) := F1046.other W1088 (Or.inl ne_a1_m3)
  have F1095 : Fld Z h1088 a1 nm4 "lowInLows" "[I" (.ref m4) := F1047.other W1088 (Or.inl ne_a1_m3)
  have F1096 : Fld Z h1088 a1 nm4 "high" "[I" (.ref m5) := F1048.other W1088 (Or.inl ne_a1_m3)
  have F1097 : Fld Z h1088 a1 nm4 "highLength" "[I" (.ref m6) := F1049.other W1088 (Or.inl ne_a1_m3)
  have F1098 : Fld Z h1088 a1 nm4 "highLows" "[I" (.ref m7) := F1050.other W1088 (Or.inl ne_a1_m3)
  have F1099 : IL Z h1088 m1 .int 4 := F1051.wr W1088
  have F1100 : IL Z h1088 m2 .int 4 := F1040.wr W1088
  have F1101 : IL Z h1088 m4 .int 4 := F1053.wr W1088
  have F1102 : IL Z h1088 m5 .int 4 := F1054.wr W1088
  have F1103 : IL Z h1088 m6 .int 4 := F1055.wr W1088
  have F1104 : IL Z h1088 m7 .int 4 := F1056.wr W1088
  have F1105 : IA Z h1088 a2 .boolean [(.int cl0), (.int cl1), (.int cl2), (.int cl3)] := F1057.other W1088 ne_a2_m3
  have F1106 : IA Z h1088 a3 .boolean [(.int ch0), (.int ch1), (.int ch2), (.int ch3)] := F1058.other W1088 ne_a3_m3
  have F1107 : Exa Z h1088 b0 nm2 := F1059.wr W1088
  have F1108 : Exa Z h1088 b12nr1 nm1 := F1060.wr W1088
  have F1109 : Exa Z h1088 b12nr2 nm1 := F1061.wr W1088
  have F1110 : Exa Z h1088 b12nr3 nm1 := F1062.wr W1088
  have F1111 : Exa Z h1088 b12nr4 nm1 := F1063.wr W1088
  have F1112 : Fld Z h1088 b12nr1 nm1 "runs" "I" (.int (f4_c41_b12nr1_runs0 p4 hm cl0 cl1 ch0)) := F1064.other W1088 (Or.inl (Ne.symm ne80))
  have F1113 : Fld Z h1088 b12nr1 nm1 "length" "I" (.int (f4_c41_b12nr1_length0 p4 hm cl0 cl1 ch0)) := F1065.other W1088 (Or.inl (Ne.symm ne80))
  have F1114 : Fld Z h1088 b12nr1 nm1 "lows" "I" (.int (f4_c41_b12nr1_lows0 p4 hm cl0 cl1 ch0)) := F1066.other W1088 (Or.inl (Ne.symm ne80))
  have F1115 : Fld Z h1088 b12nr2 nm1 "runs" "I" (.int (f4_c41_b12nr2_runs0 p4 hm cl0 ch0 ch1)) := F1067.other W1088 (Or.inl (Ne.symm ne93))
  have F1116 : Fld Z h1088 b12nr2 nm1 "length" "I" (.int (f4_c41_b12nr2_length0 p4 hm cl0 ch0 ch1)) := F1068.other W1088 (Or.inl (Ne.symm ne93))
  have F1117 : Fld Z h1088 b12nr2 nm1 "lows" "I" (.int (f4_c41_b12nr2_lows0 p4 hm cl0 ch0 ch1)) := F1069.other W1088 (Or.inl (Ne.symm ne93))
  have F1118 : Fld Z h1088 b0 nm2 "impossible" "I" (.int (5 : Int32)) := F1070.other W1088 (Or.inl (Ne.symm ne7))
  have F1119 : Fld Z h1088 b0 nm2 "h" "I" (.int hm) := F1071.other W1088 (Or.inl (Ne.symm ne7))
  have F1120 : Fld Z h1088 b0 nm2 "lowOut" "I" (.int (f4_c41_b0_lowOut0_2 p4 hm cl0 cl1 cl2 ch0 ch1)) := F1072.other W1088 (Or.inl (Ne.symm ne7))
  have F1121 : Fld Z h1088 b0 nm2 "lowIn" nm3 (.ref b12nr3) := F1073.other W1088 (Or.inl (Ne.symm ne7))
  have F1122 : Fld Z h1088 b0 nm2 "high" nm3 (.ref b12nr4) := F1074.other W1088 (Or.inl (Ne.symm ne7))
  have F1123 : Fld Z h1088 b0 nm2 "nextLowIn" nm3 (.ref b12nr1) := F1075.other W1088 (Or.inl (Ne.symm ne7))
  have F1124 : Fld Z h1088 b0 nm2 "nextHigh" nm3 (.ref b12nr2) := F1076.other W1088 (Or.inl (Ne.symm ne7))
  have F1125 : Fld Z h1088 b12nr3 nm1 "runs" "I" (.int (f4_c41_b12nr3_runs0_1 p4 hm cl0 cl1 cl2 ch0 ch1)) := F1077.other W1088 (Or.inl (Ne.symm ne106))
  have F1126 : Fld Z h1088 b12nr3 nm1 "length" "I" (.int (f4_c41_b12nr3_length0_1 p4 hm cl0 cl1 cl2 ch0 ch1)) := F1078.other W1088 (Or.inl (Ne.symm ne106))
  have F1127 : Fld Z h1088 b12nr3 nm1 "lows" "I" (.int (f4_c41_b12nr3_lows0_1 p4 hm cl0 cl1 cl2 ch0 ch1)) := F1079.other W1088 (Or.inl (Ne.symm ne106))
  have F1128 : Fld Z h1088 b12nr4 nm1 "runs" "I" (.int (f4_c41_b12nr4_runs0_1 p4 hm cl0 cl1 ch0 ch1 ch2)) := F1080.other W1088 (Or.inl (Ne.symm ne119))
  have F1129 : Fld Z h1088 b12nr4 nm1 "length" "I" (.int (f4_c41_b12nr4_length0_1 p4 hm cl0 cl1 ch0 ch1 ch2)) := F1081.other W1088 (Or.inl (Ne.symm ne119))
  have F1130 : Fld Z h1088 b12nr4 nm1 "lows" "I" (.int (f4_c41_b12nr4_lows0_1 p4 hm cl0 cl1 ch0 ch1 ch2)) := F1082.other W1088 (Or.inl (Ne.symm ne119))
  have K1131 : Keep h0 h1088 [m1, m2, m3, m4, m5, m6, m7] := K1083.wr W1088 (Or.inl (List.mem_of_getElem? (i := 2) rfl))
  have Z1132 : n0 ≤ h1088.size := Nat.le_trans Z1084 (Keep.of_wr W1088).1
  refine Rt.aloadN (pc' := 87) X1088 hx (hb hby d4_86) rfl rfl rfl ?_
  refine Rt.getF (pc' := 90) (v := (.ref m4)) X1088 hx hZ hown (host := "") (Or.inl (hw _ (List.mem_of_getElem? (i := 26) rfl))) F1095 (hb hby d4_87) rfl ?_
  intro T1133 X1133
  refine Rt.iload (pc' := 92) X1133 hx (hb hby d4_90) rfl rfl ?_
  refine Rt.aload (pc' := 94) X1133 hx (hb hby d4_92) rfl rfl rfl ?_
  refine Rt.getFR (pc' := 97) (v := (.ref b12nr3)) X1133 hx hZ hown (hw _ (List.mem_of_getElem? (i := 97) rfl)) F1121 (hb hby d4_94) rfl ?_
  intro T1134 X1134
  refine Rt.getFR (pc' := 100) (v := (.int (f4_c41_b12nr3_lows0_1 p4 hm cl0 cl1 cl2 ch0 ch1))) X1134 hx hZ hown (hw _ (List.mem_of_getElem? (i := 100) rfl)) F1127 (hb hby d4_97) rfl ?_
  intro T1135 X1135
  refine Rt.iastoreL (pc' := 101) X1135 hx hZ F1101 (i := 2) (by decide) (by decide) (by decide) g_m4 (hb hby d4_100) rfl ?_
  intro T1136 h1136 X1136 v1136 W1136 F1136
  have F1137 : Exa Z h1136 a1 nm4 := F1089.wr W1136
  have F1138 : Fld Z h1136 a1 nm4 "impossible" "I" (.int (5 : Int32)) := F1090.other W1136 (Or.inl ne_a1_m4)
  have F1139 : Fld Z h1136 a1 nm4 "h" "I" (.int hm) := F1091.other W1136 (Or.inl ne_a1_m4)
  have F1140 : Fld Z h1136 a1 nm4 "lowOut" "[I" (.ref m1) := F1092.other W1136 (Or.inl ne_a1_m4)
  have F1141 : Fld Z h1136 a1 nm4 "lowIn" "[I" (.ref m2) := F1093.other W1136 (Or.inl ne_a1_m4)
  have F1142 : Fld Z h1136 a1 nm4 "lowInLength" "[I" (.ref m3) := F1094.other W1136 (Or.inl ne_a1_m4)
  have F1143 : Fld Z h1136 a1 nm4 "lowInLows" "[I" (.ref m4) := F1095.other W1136 (Or.inl ne_a1_m4)
  have F1144 : Fld Z h1136 a1 nm4 "high" "[I" (.ref m5) := F1096.other W1136 (Or.inl ne_a1_m4)
  have F1145 : Fld Z h1136 a1 nm4 "highLength" "[I" (.ref m6) := F1097.other W1136 (Or.inl ne_a1_m4)
  have F1146 : Fld Z h1136 a1 nm4 "highLows" "[I" (.ref m7) := F1098.other W1136 (Or.inl ne_a1_m4)
  have F1147 : IL Z h1136 m1 .int 4 := F1099.wr W1136
  have F1148 : IL Z h1136 m2 .int 4 := F1100.wr W1136
  have F1149 : IL Z h1136 m3 .int 4 := F1088.wr W1136
  have F1150 : IL Z h1136 m5 .int 4 := F1102.wr W1136
  have F1151 : IL Z h1136 m6 .int 4 := F1103.wr W1136
  have F1152 : IL Z h1136 m7 .int 4 := F1104.wr W1136
  have F1153 : IA Z h1136 a2 .boolean [(.int cl0), (.int cl1), (.int cl2), (.int cl3)] := F1105.other W1136 ne_a2_m4
  have F1154 : IA Z h1136 a3 .boolean [(.int ch0), (.int ch1), (.int ch2), (.int ch3)] := F1106.other W1136 ne_a3_m4
  have F1155 : Exa Z h1136 b0 nm2 := F1107.wr W1136
  have F1156 : Exa Z h1136 b12nr1 nm1 := F1108.wr W1136
  have F1157 : Exa Z h1136 b12nr2 nm1 := F1109.wr W1136
  have F1158 : Exa Z h1136 b12nr3 nm1 := F1110.wr W1136
  have F1159 : Exa Z h1136 b12nr4 nm1 := F1111.wr W1136
  have F1160 : Fld Z h1136 b12nr1 nm1 "runs" "I" (.int (f4_c41_b12nr1_runs0 p4 hm cl0 cl1 ch0)) := F1112.other W1136 (Or.inl (Ne.symm ne81))
  have F1161 : Fld Z h1136 b12nr1 nm1 "length" "I" (.int (f4_c41_b12nr1_length0 p4 hm cl0 cl1 ch0)) := F1113.other W1136 (Or.inl (Ne.symm ne81))
  have F1162 : Fld Z h1136 b12nr1 nm1 "lows" "I" (.int (f4_c41_b12nr1_lows0 p4 hm cl0 cl1 ch0)) := F1114.other W1136 (Or.inl (Ne.symm ne81))
  have F1163 : Fld Z h1136 b12nr2 nm1 "runs" "I" (.int (f4_c41_b12nr2_runs0 p4 hm cl0 ch0 ch1)) := F1115.other W1136 (Or.inl (Ne.symm ne94))
  have F1164 : Fld Z h1136 b12nr2 nm1 "length" "I" (.int (f4_c41_b12nr2_length0 p4 hm cl0 ch0 ch1)) := F1116.other W1136 (Or.inl (Ne.symm ne94))
  have F1165 : Fld Z h1136 b12nr2 nm1 "lows" "I" (.int (f4_c41_b12nr2_lows0 p4 hm cl0 ch0 ch1)) := F1117.other W1136 (Or.inl (Ne.symm ne94))
  have F1166 : Fld Z h1136 b0 nm2 "impossible" "I" (.int (5 : Int32)) := F1118.other W1136 (Or.inl (Ne.symm ne8))
  have F1167 : Fld Z h1136 b0 nm2 "h" "I" (.int hm) := F1119.other W1136 (Or.inl (Ne.symm ne8))
  have F1168 : Fld Z h1136 b0 nm2 "lowOut" "I" (.int (f4_c41_b0_lowOut0_2 p4 hm cl0 cl1 cl2 ch0 ch1)) := F1120.other W1136 (Or.inl (Ne.symm ne8))
  have F1169 : Fld Z h1136 b0 nm2 "lowIn" nm3 (.ref b12nr3) := F1121.other W1136 (Or.inl (Ne.symm ne8))
  have F1170 : Fld Z h1136 b0 nm2 "high" nm3 (.ref b12nr4) := F1122.other W1136 (Or.inl (Ne.symm ne8))
  have F1171 : Fld Z h1136 b0 nm2 "nextLowIn" nm3 (.ref b12nr1) := F1123.other W1136 (Or.inl (Ne.symm ne8))
  have F1172 : Fld Z h1136 b0 nm2 "nextHigh" nm3 (.ref b12nr2) := F1124.other W1136 (Or.inl (Ne.symm ne8))
  have F1173 : Fld Z h1136 b12nr3 nm1 "runs" "I" (.int (f4_c41_b12nr3_runs0_1 p4 hm cl0 cl1 cl2 ch0 ch1)) := F1125.other W1136 (Or.inl (Ne.symm ne107))
  have F1174 : Fld Z h1136 b12nr3 nm1 "length" "I" (.int (f4_c41_b12nr3_length0_1 p4 hm cl0 cl1 cl2 ch0 ch1)) := F1126.other W1136 (Or.inl (Ne.symm ne107))
  have F1175 : Fld Z h1136 b12nr3 nm1 "lows" "I" (.int (f4_c41_b12nr3_lows0_1 p4 hm cl0 cl1 cl2 ch0 ch1)) := F1127.other W1136 (Or.inl (Ne.symm ne107))
  have F1176 : Fld Z h1136 b12nr4 nm1 "runs" "I" (.int (f4_c41_b12nr4_runs0_1 p4 hm cl0 cl1 ch0 ch1 ch2)) := F1128.other W1136 (Or.inl (Ne.symm ne120))
  have F1177 : Fld Z h1136 b12nr4 nm1 "length" "I" (.int (f4_c41_b12nr4_length0_1 p4 hm cl0 cl1 ch0 ch1 ch2)) := F1129.other W1136 (Or.inl (Ne.symm ne120))
  have F1178 : Fld Z h1136 b12nr4 nm1 "lows" "I" (.int (f4_c41_b12nr4_lows0_1 p4 hm cl0 cl1 ch0 ch1 ch2)) := F1130.other W1136 (Or.inl (Ne.symm ne120))
  have K1179 : Keep h0 h1136 [m1, m2, m3, m4, m5, m6, m7] := K1131.wr W1136 (Or.inl (List.mem_of_getElem? (i := 3) rfl))
  have Z1180 : n0 ≤ h1136.size := Nat.le_trans Z1132 (Keep.of_wr W1136).1
  refine Rt.aloadN (pc' := 102) X1136 hx (hb hby d4_101) rfl rfl rfl ?_
  refine Rt.getF (pc' := 105) (v := (.ref m5)) X1136 hx hZ hown (host := "") (Or.inl (hw _ (List.mem_of_getElem? (i := 28) rfl))) F1144 (hb hby d4_102) rfl ?_
  intro T1181 X1181
  refine Rt.iload (pc' := 107) X1181 hx (hb hby d4_105) rfl rfl ?_
  refine Rt.aload (pc' := 109) X1181 hx (hb hby d4_107) rfl rfl rfl ?_
  refine Rt.getFR (pc' := 112) (v := (.ref b12nr4)) X1181 hx hZ hown (hw _ (List.mem_of_getElem? (i := 101) rfl)) F1170 (hb hby d4_109) rfl ?_
  intro T1182 X1182
  refine Rt.getFR (pc' := 115) (v := (.int (f4_c41_b12nr4_runs0_1 p4 hm cl0 cl1 ch0 ch1 ch2))) X1182 hx hZ hown (hw _ (List.mem_of_getElem? (i := 98) rfl)) F1176 (hb hby d4_112) rfl ?_
  intro T1183 X1183
  refine Rt.iastoreL (pc' := 116) X1183 hx hZ F1150 (i := 2) (by decide) (by decide) (by decide) g_m5 (hb hby d4_115) rfl ?_
  intro T1184 h1184 X1184 v1184 W1184 F1184
  have F1185 : Exa Z h1184 a1 nm4 := F1137.wr W1184
  have F1186 : Fld Z h1184 a1 nm4 "impossible" "I" (.int (5 : Int32)) := F1138.other W1184 (Or.inl ne_a1_m5)
  have F1187 : Fld Z h1184 a1 nm4 "h" "I" (.int hm) := F1139.other W1184 (Or.inl ne_a1_m5)
  have F1188 : Fld Z h1184 a1 nm4 "lowOut" "[I" (.ref m1) := F1140.other W1184 (Or.inl ne_a1_m5)
  have F1189 : Fld Z h1184 a1 nm4 "lowIn" "[I" (.ref m2) := F1141.other W1184 (Or.inl ne_a1_m5)
  have F1190 : Fld Z h1184 a1 nm4 "lowInLength" "[I" (.ref m3) := F1142.other W1184 (Or.inl ne_a1_m5)
  have F1191 : Fld Z h1184 a1 nm4 "lowInLows" "[I" (.ref m4) := F1143.other W1184 (Or.inl ne_a1_m5)
  have F1192 : Fld Z h1184 a1 nm4 "high" "[I" (.ref m5) := F1144.other W1184 (Or.inl ne_a1_m5)
  have F1193 : Fld Z h1184 a1 nm4 "highLength" "[I" (.ref m6) := F1145.other W1184 (Or.inl ne_a1_m5)
  have F1194 : Fld Z h1184 a1 nm4 "highLows" "[I" (.ref m7) := F1146.other W1184 (Or.inl ne_a1_m5)
  have F1195 : IL Z h1184 m1 .int 4 := F1147.wr W1184
  have F1196 : IL Z h1184 m2 .int 4 := F1148.wr W1184
  have F1197 : IL Z h1184 m3 .int 4 := F1149.wr W1184
  have F1198 : IL Z h1184 m4 .int 4 := F1136.wr W1184
  have F1199 : IL Z h1184 m6 .int 4 := F1151.wr W1184
  have F1200 : IL Z h1184 m7 .int 4 := F1152.wr W1184
  have F1201 : IA Z h1184 a2 .boolean [(.int cl0), (.int cl1), (.int cl2), (.int cl3)] := F1153.other W1184 ne_a2_m5
  have F1202 : IA Z h1184 a3 .boolean [(.int ch0), (.int ch1), (.int ch2), (.int ch3)] := F1154.other W1184 ne_a3_m5
  have F1203 : Exa Z h1184 b0 nm2 := F1155.wr W1184
  have F1204 : Exa Z h1184 b12nr1 nm1 := F1156.wr W1184
  have F1205 : Exa Z h1184 b12nr2 nm1 := F1157.wr W1184
  have F1206 : Exa Z h1184 b12nr3 nm1 := F1158.wr W1184
  have F1207 : Exa Z h1184 b12nr4 nm1 := F1159.wr W1184
  have F1208 : Fld Z h1184 b12nr1 nm1 "runs" "I" (.int (f4_c41_b12nr1_runs0 p4 hm cl0 cl1 ch0)) := F1160.other W1184 (Or.inl (Ne.symm ne82))
  have F1209 : Fld Z h1184 b12nr1 nm1 "length" "I" (.int (f4_c41_b12nr1_length0 p4 hm cl0 cl1 ch0)) := F1161.other W1184 (Or.inl (Ne.symm ne82))
  have F1210 : Fld Z h1184 b12nr1 nm1 "lows" "I" (.int (f4_c41_b12nr1_lows0 p4 hm cl0 cl1 ch0)) := F1162.other W1184 (Or.inl (Ne.symm ne82))
  have F1211 : Fld Z h1184 b12nr2 nm1 "runs" "I" (.int (f4_c41_b12nr2_runs0 p4 hm cl0 ch0 ch1)) := F1163.other W1184 (Or.inl (Ne.symm ne95))
  have F1212 : Fld Z h1184 b12nr2 nm1 "length" "I" (.int (f4_c41_b12nr2_length0 p4 hm cl0 ch0 ch1)) := F1164.other W1184 (Or.inl (Ne.symm ne95))
  have F1213 : Fld Z h1184 b12nr2 nm1 "lows" "I" (.int (f4_c41_b12nr2_lows0 p4 hm cl0 ch0 ch1)) := F1165.other W1184 (Or.inl (Ne.symm ne95))
  have F1214 : Fld Z h1184 b0 nm2 "impossible" "I" (.int (5 : Int32)) := F1166.other W1184 (Or.inl (Ne.symm ne9))
  have F1215 : Fld Z h1184 b0 nm2 "h" "I" (.int hm) := F1167.other W1184 (Or.inl (Ne.symm ne9))
  have F1216 : Fld Z h1184 b0 nm2 "lowOut" "I" (.int (f4_c41_b0_lowOut0_2 p4 hm cl0 cl1 cl2 ch0 ch1)) := F1168.other W1184 (Or.inl (Ne.symm ne9))
  have F1217 : Fld Z h1184 b0 nm2 "lowIn" nm3 (.ref b12nr3) := F1169.other W1184 (Or.inl (Ne.symm ne9))
  have F1218 : Fld Z h1184 b0 nm2 "high" nm3 (.ref b12nr4) := F1170.other W1184 (Or.inl (Ne.symm ne9))
  have F1219 : Fld Z h1184 b0 nm2 "nextLowIn" nm3 (.ref b12nr1) := F1171.other W1184 (Or.inl (Ne.symm ne9))
  have F1220 : Fld Z h1184 b0 nm2 "nextHigh" nm3 (.ref b12nr2) := F1172.other W1184 (Or.inl (Ne.symm ne9))
  have F1221 : Fld Z h1184 b12nr3 nm1 "runs" "I" (.int (f4_c41_b12nr3_runs0_1 p4 hm cl0 cl1 cl2 ch0 ch1)) := F1173.other W1184 (Or.inl (Ne.symm ne108))
  have F1222 : Fld Z h1184 b12nr3 nm1 "length" "I" (.int (f4_c41_b12nr3_length0_1 p4 hm cl0 cl1 cl2 ch0 ch1)) := F1174.other W1184 (Or.inl (Ne.symm ne108))
  have F1223 : Fld Z h1184 b12nr3 nm1 "lows" "I" (.int (f4_c41_b12nr3_lows0_1 p4 hm cl0 cl1 cl2 ch0 ch1)) := F1175.other W1184 (Or.inl (Ne.symm ne108))
  have F1224 : Fld Z h1184 b12nr4 nm1 "runs" "I" (.int (f4_c41_b12nr4_runs0_1 p4 hm cl0 cl1 ch0 ch1 ch2)) := F1176.other W1184 (Or.inl (Ne.symm ne121))
  have F1225 : Fld Z h1184 b12nr4 nm1 "length" "I" (.int (f4_c41_b12nr4_length0_1 p4 hm cl0 cl1 ch0 ch1 ch2)) := F1177.other W1184 (Or.inl (Ne.symm ne121))
  have F1226 : Fld Z h1184 b12nr4 nm1 "lows" "I" (.int (f4_c41_b12nr4_lows0_1 p4 hm cl0 cl1 ch0 ch1 ch2)) := F1178.other W1184 (Or.inl (Ne.symm ne121))
  have K1227 : Keep h0 h1184 [m1, m2, m3, m4, m5, m6, m7] := K1179.wr W1184 (Or.inl (List.mem_of_getElem? (i := 4) rfl))
  have Z1228 : n0 ≤ h1184.size := Nat.le_trans Z1180 (Keep.of_wr W1184).1
  refine Rt.aloadN (pc' := 117) X1184 hx (hb hby d4_116) rfl rfl rfl ?_
  refine Rt.getF (pc' := 120) (v := (.ref m6)) X1184 hx hZ hown (host := "") (Or.inl (hw _ (List.mem_of_getElem? (i := 30) rfl))) F1193 (hb hby d4_117) rfl ?_
  intro T1229 X1229
  refine Rt.iload (pc' := 122) X1229 hx (hb hby d4_120) rfl rfl ?_
  refine Rt.aload (pc' := 124) X1229 hx (hb hby d4_122) rfl rfl rfl ?_
  refine Rt.getFR (pc' := 127) (v := (.ref b12nr4)) X1229 hx hZ hown (hw _ (List.mem_of_getElem? (i := 101) rfl)) F1218 (hb hby d4_124) rfl ?_
  intro T1230 X1230
  refine Rt.getFR (pc' := 130) (v := (.int (f4_c41_b12nr4_length0_1 p4 hm cl0 cl1 ch0 ch1 ch2))) X1230 hx hZ hown (hw _ (List.mem_of_getElem? (i := 99) rfl)) F1225 (hb hby d4_127) rfl ?_
  intro T1231 X1231
  refine Rt.iastoreL (pc' := 131) X1231 hx hZ F1199 (i := 2) (by decide) (by decide) (by decide) g_m6 (hb hby d4_130) rfl ?_
  intro T1232 h1232 X1232 v1232 W1232 F1232
  have F1233 : Exa Z h1232 a1 nm4 := F1185.wr W1232
  have F1234 : Fld Z h1232 a1 nm4 "impossible" "I" (.int (5 : Int32)) := F1186.other W1232 (Or.inl ne_a1_m6)
  have F1235 : Fld Z h1232 a1 nm4 "h" "I" (.int hm) := F1187.other W1232 (Or.inl ne_a1_m6)
  have F1236 : Fld Z h1232 a1 nm4 "lowOut" "[I" (.ref m1) := F1188.other W1232 (Or.inl ne_a1_m6)
  have F1237 : Fld Z h1232 a1 nm4 "lowIn" "[I" (.ref m2) := F1189.other W1232 (Or.inl ne_a1_m6)
  have F1238 : Fld Z h1232 a1 nm4 "lowInLength" "[I" (.ref m3) := F1190.other W1232 (Or.inl ne_a1_m6)
  have F1239 : Fld Z h1232 a1 nm4 "lowInLows" "[I" (.ref m4) := F1191.other W1232 (Or.inl ne_a1_m6)
  have F1240 : Fld Z h1232 a1 nm4 "high" "[I" (.ref m5) := F1192.other W1232 (Or.inl ne_a1_m6)
  have F1241 : Fld Z h1232 a1 nm4 "highLength" "[I" (.ref m6) := F1193.other W1232 (Or.inl ne_a1_m6)
  have F1242 : Fld Z h1232 a1 nm4 "highLows" "[I" (.ref m7) := F1194.other W1232 (Or.inl ne_a1_m6)
  have F1243 : IL Z h1232 m1 .int 4 := F1195.wr W1232
  have F1244 : IL Z h1232 m2 .int 4 := F1196.wr W1232
  have F1245 : IL Z h1232 m3 .int 4 := F1197.wr W1232
  have F1246 : IL Z h1232 m4 .int 4 := F1198.wr W1232
  have F1247 : IL Z h1232 m5 .int 4 := F1184.wr W1232
  have F1248 : IL Z h1232 m7 .int 4 := F1200.wr W1232
  have F1249 : IA Z h1232 a2 .boolean [(.int cl0), (.int cl1), (.int cl2), (.int cl3)] := F1201.other W1232 ne_a2_m6
  have F1250 : IA Z h1232 a3 .boolean [(.int ch0), (.int ch1), (.int ch2), (.int ch3)] := F1202.other W1232 ne_a3_m6
  have F1251 : Exa Z h1232 b0 nm2 := F1203.wr W1232
  have F1252 : Exa Z h1232 b12nr1 nm1 := F1204.wr W1232
  have F1253 : Exa Z h1232 b12nr2 nm1 := F1205.wr W1232
  have F1254 : Exa Z h1232 b12nr3 nm1 := F1206.wr W1232
  have F1255 : Exa Z h1232 b12nr4 nm1 := F1207.wr W1232
  have F1256 : Fld Z h1232 b12nr1 nm1 "runs" "I" (.int (f4_c41_b12nr1_runs0 p4 hm cl0 cl1 ch0)) := F1208.other W1232 (Or.inl (Ne.symm ne83))
  have F1257 : Fld Z h1232 b12nr1 nm1 "length" "I" (.int (f4_c41_b12nr1_length0 p4 hm cl0 cl1 ch0)) := F1209.other W1232 (Or.inl (Ne.symm ne83))
  have F1258 : Fld Z h1232 b12nr1 nm1 "lows" "I" (.int (f4_c41_b12nr1_lows0 p4 hm cl0 cl1 ch0)) := F1210.other W1232 (Or.inl (Ne.symm ne83))
  have F1259 : Fld Z h1232 b12nr2 nm1 "runs" "I" (.int (f4_c41_b12nr2_runs0 p4 hm cl0 ch0 ch1)) := F1211.other W1232 (Or.inl (Ne.symm ne96))
  have F1260 : Fld Z h1232 b12nr2 nm1 "length" "I" (.int (f4_c41_b12nr2_length0 p4 hm cl0 ch0 ch1)) := F1212.other W1232 (Or.inl (Ne.symm ne96))
  have F1261 : Fld Z h1232 b12nr2 nm1 "lows" "I" (.int (f4_c41_b12nr2_lows0 p4 hm cl0 ch0 ch1)) := F1213.other W1232 (Or.inl (Ne.symm ne96))
  have F1262 : Fld Z h1232 b0 nm2 "impossible" "I" (.int (5 : Int32)) := F1214.other W1232 (Or.inl (Ne.symm ne10))
  have F1263 : Fld Z h1232 b0 nm2 "h" "I" (.int hm) := F1215.other W1232 (Or.inl (Ne.symm ne10))
  have F1264 : Fld Z h1232 b0 nm2 "lowOut" "I" (.int (f4_c41_b0_lowOut0_2 p4 hm cl0 cl1 cl2 ch0 ch1)) := F1216.other W1232 (Or.inl (Ne.symm ne10))
  have F1265 : Fld Z h1232 b0 nm2 "lowIn" nm3 (.ref b12nr3) := F1217.other W1232 (Or.inl (Ne.symm ne10))
  have F1266 : Fld Z h1232 b0 nm2 "high" nm3 (.ref b12nr4) := F1218.other W1232 (Or.inl (Ne.symm ne10))
  have F1267 : Fld Z h1232 b0 nm2 "nextLowIn" nm3 (.ref b12nr1) := F1219.other W1232 (Or.inl (Ne.symm ne10))
  have F1268 : Fld Z h1232 b0 nm2 "nextHigh" nm3 (.ref b12nr2) := F1220.other W1232 (Or.inl (Ne.symm ne10))
  have F1269 : Fld Z h1232 b12nr3 nm1 "runs" "I" (.int (f4_c41_b12nr3_runs0_1 p4 hm cl0 cl1 cl2 ch0 ch1)) := F1221.other W1232 (Or.inl (Ne.symm ne109))
  have F1270 : Fld Z h1232 b12nr3 nm1 "length" "I" (.int (f4_c41_b12nr3_length0_1 p4 hm cl0 cl1 cl2 ch0 ch1)) := F1222.other W1232 (Or.inl (Ne.symm ne109))
  have F1271 : Fld Z h1232 b12nr3 nm1 "lows" "I" (.int (f4_c41_b12nr3_lows0_1 p4 hm cl0 cl1 cl2 ch0 ch1)) := F1223.other W1232 (Or.inl (Ne.symm ne109))
  have F1272 : Fld Z h1232 b12nr4 nm1 "runs" "I" (.int (f4_c41_b12nr4_runs0_1 p4 hm cl0 cl1 ch0 ch1 ch2)) := F1224.other W1232 (Or.inl (Ne.symm ne122))
  have F1273 : Fld Z h1232 b12nr4 nm1 "length" "I" (.int (f4_c41_b12nr4_length0_1 p4 hm cl0 cl1 ch0 ch1 ch2)) := F1225.other W1232 (Or.inl (Ne.symm ne122))
  have F1274 : Fld Z h1232 b12nr4 nm1 "lows" "I" (.int (f4_c41_b12nr4_lows0_1 p4 hm cl0 cl1 ch0 ch1 ch2)) := F1226.other W1232 (Or.inl (Ne.symm ne122))
  have K1275 : Keep h0 h1232 [m1, m2, m3, m4, m5, m6, m7] := K1227.wr W1232 (Or.inl (List.mem_of_getElem? (i := 5) rfl))
  have Z1276 : n0 ≤ h1232.size := Nat.le_trans Z1228 (Keep.of_wr W1232).1
  refine Rt.aloadN (pc' := 132) X1232 hx (hb hby d4_131) rfl rfl rfl ?_
  refine Rt.getF (pc' := 135) (v := (.ref m7)) X1232 hx hZ hown (host := "") (Or.inl (hw _ (List.mem_of_getElem? (i := 32) rfl))) F1242 (hb hby d4_132) rfl ?_
  intro T1277 X1277
  refine Rt.iload (pc' := 137) X1277 hx (hb hby d4_135) rfl rfl ?_
  refine Rt.aload (pc' := 139) X1277 hx (hb hby d4_137) rfl rfl rfl ?_
  refine Rt.getFR (pc' := 142) (v := (.ref b12nr4)) X1277 hx hZ hown (hw _ (List.mem_of_getElem? (i := 101) rfl)) F1266 (hb hby d4_139) rfl ?_
  intro T1278 X1278
  refine Rt.getFR (pc' := 145) (v := (.int (f4_c41_b12nr4_lows0_1 p4 hm cl0 cl1 ch0 ch1 ch2))) X1278 hx hZ hown (hw _ (List.mem_of_getElem? (i := 100) rfl)) F1274 (hb hby d4_142) rfl ?_
  intro T1279 X1279
  refine Rt.iastoreL (pc' := 146) X1279 hx hZ F1248 (i := 2) (by decide) (by decide) (by decide) g_m7 (hb hby d4_145) rfl ?_
  intro T1280 h1280 X1280 v1280 W1280 F1280
  have F1281 : Exa Z h1280 a1 nm4 := F1233.wr W1280
  have F1282 : Fld Z h1280 a1 nm4 "impossible" "I" (.int (5 : Int32)) := F1234.other W1280 (Or.inl ne_a1_m7)
  have F1283 : Fld Z h1280 a1 nm4 "h" "I" (.int hm) := F1235.other W1280 (Or.inl ne_a1_m7)
  have F1284 : Fld Z h1280 a1 nm4 "lowOut" "[I" (.ref m1) := F1236.other W1280 (Or.inl ne_a1_m7)
  have F1285 : Fld Z h1280 a1 nm4 "lowIn" "[I" (.ref m2) := F1237.other W1280 (Or.inl ne_a1_m7)
  have F1286 : Fld Z h1280 a1 nm4 "lowInLength" "[I" (.ref m3) := F1238.other W1280 (Or.inl ne_a1_m7)
  have F1287 : Fld Z h1280 a1 nm4 "lowInLows" "[I" (.ref m4) := F1239.other W1280 (Or.inl ne_a1_m7)
  have F1288 : Fld Z h1280 a1 nm4 "high" "[I" (.ref m5) := F1240.other W1280 (Or.inl ne_a1_m7)
  have F1289 : Fld Z h1280 a1 nm4 "highLength" "[I" (.ref m6) := F1241.other W1280 (Or.inl ne_a1_m7)
  have F1290 : Fld Z h1280 a1 nm4 "highLows" "[I" (.ref m7) := F1242.other W1280 (Or.inl ne_a1_m7)
  have F1291 : IL Z h1280 m1 .int 4 := F1243.wr W1280
  have F1292 : IL Z h1280 m2 .int 4 := F1244.wr W1280
  have F1293 : IL Z h1280 m3 .int 4 := F1245.wr W1280
  have F1294 : IL Z h1280 m4 .int 4 := F1246.wr W1280
  have F1295 : IL Z h1280 m5 .int 4 := F1247.wr W1280
  have F1296 : IL Z h1280 m6 .int 4 := F1232.wr W1280
  have F1297 : IA Z h1280 a2 .boolean [(.int cl0), (.int cl1), (.int cl2), (.int cl3)] := F1249.other W1280 ne_a2_m7
  have F1298 : IA Z h1280 a3 .boolean [(.int ch0), (.int ch1), (.int ch2), (.int ch3)] := F1250.other W1280 ne_a3_m7
  have F1299 : Exa Z h1280 b0 nm2 := F1251.wr W1280
  have F1300 : Exa Z h1280 b12nr1 nm1 := F1252.wr W1280
  have F1301 : Exa Z h1280 b12nr2 nm1 := F1253.wr W1280
  have F1302 : Exa Z h1280 b12nr3 nm1 := F1254.wr W1280
  have F1303 : Exa Z h1280 b12nr4 nm1 := F1255.wr W1280
  have F1304 : Fld Z h1280 b12nr1 nm1 "runs" "I" (.int (f4_c41_b12nr1_runs0 p4 hm cl0 cl1 ch0)) := F1256.other W1280 (Or.inl (Ne.symm ne84))
  have F1305 : Fld Z h1280 b12nr1 nm1 "length" "I" (.int (f4_c41_b12nr1_length0 p4 hm cl0 cl1 ch0)) := F1257.other W1280 (Or.inl (Ne.symm ne84))
  have F1306 : Fld Z h1280 b12nr1 nm1 "lows" "I" (.int (f4_c41_b12nr1_lows0 p4 hm cl0 cl1 ch0)) := F1258.other W1280 (Or.inl (Ne.symm ne84))
  have F1307 : Fld Z h1280 b12nr2 nm1 "runs" "I" (.int (f4_c41_b12nr2_runs0 p4 hm cl0 ch0 ch1)) := F1259.other W1280 (Or.inl (Ne.symm ne97))
  have F1308 : Fld Z h1280 b12nr2 nm1 "length" "I" (.int (f4_c41_b12nr2_length0 p4 hm cl0 ch0 ch1)) := F1260.other W1280 (Or.inl (Ne.symm ne97))
  have F1309 : Fld Z h1280 b12nr2 nm1 "lows" "I" (.int (f4_c41_b12nr2_lows0 p4 hm cl0 ch0 ch1)) := F1261.other W1280 (Or.inl (Ne.symm ne97))
  have F1310 : Fld Z h1280 b0 nm2 "impossible" "I" (.int (5 : Int32)) := F1262.other W1280 (Or.inl (Ne.symm ne11))
  have F1311 : Fld Z h1280 b0 nm2 "h" "I" (.int hm) := F1263.other W1280 (Or.inl (Ne.symm ne11))
  have F1312 : Fld Z h1280 b0 nm2 "lowOut" "I" (.int (f4_c41_b0_lowOut0_2 p4 hm cl0 cl1 cl2 ch0 ch1)) := F1264.other W1280 (Or.inl (Ne.symm ne11))
  have F1313 : Fld Z h1280 b0 nm2 "lowIn" nm3 (.ref b12nr3) := F1265.other W1280 (Or.inl (Ne.symm ne11))
  have F1314 : Fld Z h1280 b0 nm2 "high" nm3 (.ref b12nr4) := F1266.other W1280 (Or.inl (Ne.symm ne11))
  have F1315 : Fld Z h1280 b0 nm2 "nextLowIn" nm3 (.ref b12nr1) := F1267.other W1280 (Or.inl (Ne.symm ne11))
  have F1316 : Fld Z h1280 b0 nm2 "nextHigh" nm3 (.ref b12nr2) := F1268.other W1280 (Or.inl (Ne.symm ne11))
  have F1317 : Fld Z h1280 b12nr3 nm1 "runs" "I" (.int (f4_c41_b12nr3_runs0_1 p4 hm cl0 cl1 cl2 ch0 ch1)) := F1269.other W1280 (Or.inl (Ne.symm ne110))
  have F1318 : Fld Z h1280 b12nr3 nm1 "length" "I" (.int (f4_c41_b12nr3_length0_1 p4 hm cl0 cl1 cl2 ch0 ch1)) := F1270.other W1280 (Or.inl (Ne.symm ne110))
  have F1319 : Fld Z h1280 b12nr3 nm1 "lows" "I" (.int (f4_c41_b12nr3_lows0_1 p4 hm cl0 cl1 cl2 ch0 ch1)) := F1271.other W1280 (Or.inl (Ne.symm ne110))
  have F1320 : Fld Z h1280 b12nr4 nm1 "runs" "I" (.int (f4_c41_b12nr4_runs0_1 p4 hm cl0 cl1 ch0 ch1 ch2)) := F1272.other W1280 (Or.inl (Ne.symm ne123))
  have F1321 : Fld Z h1280 b12nr4 nm1 "length" "I" (.int (f4_c41_b12nr4_length0_1 p4 hm cl0 cl1 ch0 ch1 ch2)) := F1273.other W1280 (Or.inl (Ne.symm ne123))
  have F1322 : Fld Z h1280 b12nr4 nm1 "lows" "I" (.int (f4_c41_b12nr4_lows0_1 p4 hm cl0 cl1 ch0 ch1 ch2)) := F1274.other W1280 (Or.inl (Ne.symm ne123))
  have K1323 : Keep h0 h1280 [m1, m2, m3, m4, m5, m6, m7] := K1275.wr W1280 (Or.inl (List.mem_of_getElem? (i := 6) rfl))
  have Z1324 : n0 ≤ h1280.size := Nat.le_trans Z1276 (Keep.of_wr W1280).1
  refine Rt.iinc (pc' := 149) (r := (3 : Int32)) (l' := #[.val (.ref a1), .val (.ref a2), .val (.ref a3), .val (.int p4), .val (.ref b0), .val (.int (3 : Int32))]) X1280 hx (hb hby d4_146) rfl (by decide) rfl rfl ?_
  refine Rt.goto (pc' := 20) X1280 hx (hb hby d4_149) (by decide) (by decide) ?_
  refine Rt.iload (pc' := 22) X1280 hx (hb hby d4_20) rfl rfl ?_
  refine Rt.aloadN (pc' := 23) X1280 hx (hb hby d4_22) rfl rfl rfl ?_
  refine Rt.getF (pc' := 26) (v := (.ref m1)) X1280 hx hZ hown (host := "") (Or.inl (hw _ (List.mem_of_getElem? (i := 20) rfl))) F1284 (hb hby d4_23) rfl ?_
  intro T1325 X1325
  refine Rt.arraylengthL (pc' := 27) X1325 hx hZ F1291 (v := (4 : Int32)) (by decide) (hb hby d4_26) rfl ?_
  refine Rt.icmpN (pc' := 30) X1325 hx (hb hby d4_27) (tlt (by decide : (3 : Int32) < (4 : Int32))).2.1 rfl ?_
  refine Rt.aload (pc' := 32) X1325 hx (hb hby d4_30) rfl rfl rfl ?_
  refine Rt.aloadN (pc' := 33) X1325 hx (hb hby d4_32) rfl rfl rfl ?_
  refine Rt.iload (pc' := 35) X1325 hx (hb hby d4_33) rfl rfl ?_
  refine Rt.zaload (pc' := 36) X1325 hx hZ F1297 (i := 3) (by decide) (by decide) (v := (.int cl3)) rfl (hb hby d4_35) rfl ?_
  refine Rt.aloadN (pc' := 37) X1325 hx (hb hby d4_36) rfl rfl rfl ?_
  refine Rt.iload (pc' := 39) X1325 hx (hb hby d4_37) rfl rfl ?_
  refine Rt.zaload (pc' := 40) X1325 hx hZ F1298 (i := 3) (by decide) (by decide) (v := (.int ch3)) rfl (hb hby d4_39) rfl ?_
  refine Rt.iloadN (pc' := 41) X1325 hx (hb hby d4_40) rfl rfl ?_
  refine Rt.callV (pc' := 44) X1325 hx hZ (y := mt8) (yz := mt8) hown (hw _ (List.mem_of_getElem? (i := 78) rfl)) (hw _ (List.mem_of_getElem? (i := 79) rfl)) (notFace_of_selects (args := #[]) (mvT hZ (hw _ (List.mem_of_getElem? (i := 81) rfl)))) (hw _ (List.mem_of_getElem? (i := 81) rfl)) (hw _ (List.mem_of_getElem? (i := 80) rfl)) (hw _ (List.mem_of_getElem? (i := 41) rfl)) (hw _ (List.mem_of_getElem? (i := 82) rfl)) (by decide) F1299 (rm8 l Z a0 hw [] b0 cl3 ch3 p4 (5 : Int32) hm (f4_c41_b0_lowOut0_2 p4 hm cl0 cl1 cl2 ch0 ch1) b12nr3 b12nr4 b12nr1 b12nr2 (f4_c41_b12nr3_runs0_1 p4 hm cl0 cl1 cl2 ch0 ch1) (f4_c41_b12nr3_length0_1 p4 hm cl0 cl1 cl2 ch0 ch1) (f4_c41_b12nr3_lows0_1 p4 hm cl0 cl1 cl2 ch0 ch1) (f4_c41_b12nr4_runs0_1 p4 hm cl0 cl1 ch0 ch1 ch2) (f4_c41_b12nr4_length0_1 p4 hm cl0 cl1 ch0 ch1 ch2) (f4_c41_b12nr4_lows0_1 p4 hm cl0 cl1 ch0 ch1 ch2) (f4_c41_b12nr1_runs0 p4 hm cl0 cl1 ch0) (f4_c41_b12nr1_length0 p4 hm cl0 cl1 ch0) (f4_c41_b12nr1_lows0 p4 hm cl0 cl1 ch0) (f4_c41_b12nr2_runs0 p4 hm cl0 ch0 ch1) (f4_c41_b12nr2_length0 p4 hm cl0 ch0 ch1) (f4_c41_b12nr2_lows0 p4 hm cl0 ch0 ch1) h1280 n0 Z1324 F1299 F1310 F1311 F1312 F1313 F1314 F1315 F1316 F1302 F1317 F1318 F1319 F1303 F1320 F1321 F1322 F1300 F1304 F1305 F1306 F1301 F1307 F1308 F1309 g2 g75 g88 ne113 ne126 ne87 ne100 ne74 (Ne.symm ne70) (Ne.symm ne72) (Ne.symm ne71) (Ne.symm ne73) ne69) (fun _ _ _ q => q.2.1) (W := 0) (by decide) (by decide) (by decide) (by decide) (argsL := [(.int cl3), (.int ch3), (.int p4)]) (rest := []) (by rw [hml]; rfl) (lenOf pd_7 rfl) rfl rfl (Nat.le_of_eq rfl) (hb hby d4_41) rfl ?_
  rintro _ T1326 h1326 L1326 X1326 ⟨rfl, N1326, K1326, F1327, F1328, F1329, F1330, F1331, F1332, F1333, F1334, F1335, F1336, F1337, F1338, F1339, F1340, F1341, F1342⟩
  have F1343 : Exa Z h1326 a1 nm4 := F1281.keep K1326
  have F1344 : Fld Z h1326 a1 nm4 "impossible" "I" (.int (5 : Int32)) := F1282.keep K1326 (ninS ne4 (ninS ne77 (ninS ne90 nin0)))
  have F1345 : Fld Z h1326 a1 nm4 "h" "I" (.int hm) := F1283.keep K1326 (ninS ne4 (ninS ne77 (ninS ne90 nin0)))
  have F1346 : Fld Z h1326 a1 nm4 "lowOut" "[I" (.ref m1) := F1284.keep K1326 (ninS ne4 (ninS ne77 (ninS ne90 nin0)))
  have F1347 : Fld Z h1326 a1 nm4 "lowIn" "[I" (.ref m2) := F1285.keep K1326 (ninS ne4 (ninS ne77 (ninS ne90 nin0)))
  have F1348 : Fld Z h1326 a1 nm4 "lowInLength" "[I" (.ref m3) := F1286.keep K1326 (ninS ne4 (ninS ne77 (ninS ne90 nin0)))
  have F1349 : Fld Z h1326 a1 nm4 "lowInLows" "[I" (.ref m4) := F1287.keep K1326 (ninS ne4 (ninS ne77 (ninS ne90 nin0)))
  have F1350 : Fld Z h1326 a1 nm4 "high" "[I" (.ref m5) := F1288.keep K1326 (ninS ne4 (ninS ne77 (ninS ne90 nin0)))
  have F1351 : Fld Z h1326 a1 nm4 "highLength" "[I" (.ref m6) := F1289.keep K1326 (ninS ne4 (ninS ne77 (ninS ne90 nin0)))
  have F1352 : Fld Z h1326 a1 nm4 "highLows" "[I" (.ref m7) := F1290.keep K1326 (ninS ne4 (ninS ne77 (ninS ne90 nin0)))
  have F1353 : IL Z h1326 m1 .int 4 := F1291.keep K1326
  have F1354 : IL Z h1326 m2 .int 4 := F1292.keep K1326
  have F1355 : IL Z h1326 m3 .int 4 := F1293.keep K1326
  have F1356 : IL Z h1326 m4 .int 4 := F1294.keep K1326
  have F1357 : IL Z h1326 m5 .int 4 := F1295.keep K1326
  have F1358 : IL Z h1326 m6 .int 4 := F1296.keep K1326
  have F1359 : IL Z h1326 m7 .int 4 := F1280.keep K1326
  have F1360 : IA Z h1326 a2 .boolean [(.int cl0), (.int cl1), (.int cl2), (.int cl3)] := F1297.keep K1326 (ninS ne12 (ninS ne85 (ninS ne98 nin0)))
  have F1361 : IA Z h1326 a3 .boolean [(.int ch0), (.int ch1), (.int ch2), (.int ch3)] := F1298.keep K1326 (ninS ne13 (ninS ne86 (ninS ne99 nin0)))
  have F1362 : Exa Z h1326 b0 nm2 := F1299.keep K1326
  have F1363 : Exa Z h1326 b12nr1 nm1 := F1300.keep K1326
  have F1364 : Exa Z h1326 b12nr2 nm1 := F1301.keep K1326
  have F1365 : Exa Z h1326 b12nr3 nm1 := F1302.keep K1326
  have F1366 : Exa Z h1326 b12nr4 nm1 := F1303.keep K1326
  have F1367 : Fld Z h1326 b12nr3 nm1 "runs" "I" (.int (f4_c41_b12nr3_runs0_1 p4 hm cl0 cl1 cl2 ch0 ch1)) := F1317.keep K1326 (ninS (Ne.symm ne113) (ninS (Ne.symm ne70) (ninS (Ne.symm ne72) nin0)))
  have F1368 : Fld Z h1326 b12nr3 nm1 "length" "I" (.int (f4_c41_b12nr3_length0_1 p4 hm cl0 cl1 cl2 ch0 ch1)) := F1318.keep K1326 (ninS (Ne.symm ne113) (ninS (Ne.symm ne70) (ninS (Ne.symm ne72) nin0)))
  have F1369 : Fld Z h1326 b12nr3 nm1 "lows" "I" (.int (f4_c41_b12nr3_lows0_1 p4 hm cl0 cl1 cl2 ch0 ch1)) := F1319.keep K1326 (ninS (Ne.symm ne113) (ninS (Ne.symm ne70) (ninS (Ne.symm ne72) nin0)))
  have F1370 : Fld Z h1326 b12nr4 nm1 "runs" "I" (.int (f4_c41_b12nr4_runs0_1 p4 hm cl0 cl1 ch0 ch1 ch2)) := F1320.keep K1326 (ninS (Ne.symm ne126) (ninS (Ne.symm ne71) (ninS (Ne.symm ne73) nin0)))
  have F1371 : Fld Z h1326 b12nr4 nm1 "length" "I" (.int (f4_c41_b12nr4_length0_1 p4 hm cl0 cl1 ch0 ch1 ch2)) := F1321.keep K1326 (ninS (Ne.symm ne126) (ninS (Ne.symm ne71) (ninS (Ne.symm ne73) nin0)))
  have F1372 : Fld Z h1326 b12nr4 nm1 "lows" "I" (.int (f4_c41_b12nr4_lows0_1 p4 hm cl0 cl1 ch0 ch1 ch2)) := F1322.keep K1326 (ninS (Ne.symm ne126) (ninS (Ne.symm ne71) (ninS (Ne.symm ne73) nin0)))
  have K1373 : Keep h0 h1326 [m1, m2, m3, m4, m5, m6, m7] := K1323.trans K1326 (allS (Or.inr s3) (allS (Or.inr s76) (allS (Or.inr s89) all0)))
  have Z1374 : n0 ≤ h1326.size := Nat.le_trans Z1324 K1326.1
  have F1375 : Fld Z h1326 b0 nm2 "lowOut" "I" (.int (f4_c41_b0_lowOut0_3 p4 hm cl0 cl1 cl2 cl3 ch0 ch1 ch2)) := F1330
  have F1376 : Fld Z h1326 b12nr1 nm1 "runs" "I" (.int (f4_c41_b12nr1_runs0_1 p4 hm cl0 cl1 cl2 cl3 ch0 ch1 ch2)) := F1337
  have F1377 : Fld Z h1326 b12nr1 nm1 "length" "I" (.int (f4_c41_b12nr1_length0_1 p4 hm cl0 cl1 cl2 cl3 ch0 ch1 ch2)) := F1338
  have F1378 : Fld Z h1326 b12nr1 nm1 "lows" "I" (.int (f4_c41_b12nr1_lows0_1 p4 hm cl0 cl1 cl2 cl3 ch0 ch1 ch2)) := F1339
  have F1379 : Fld Z h1326 b12nr2 nm1 "runs" "I" (.int (f4_c41_b12nr2_runs0_1 p4 hm cl0 cl1 cl2 ch0 ch1 ch2 ch3)) := F1340
  have F1380 : Fld Z h1326 b12nr2 nm1 "length" "I" (.int (f4_c41_b12nr2_length0_1 p4 hm cl0 cl1 cl2 ch0 ch1 ch2 ch3)) := F1341
  have F1381 : Fld Z h1326 b12nr2 nm1 "lows" "I" (.int (f4_c41_b12nr2_lows0_1 p4 hm cl0 cl1 cl2 ch0 ch1 ch2 ch3)) := F1342
  show Rt _ _ _ _ _ _ _ (T1326.setTop (mkF m 44 #[.val (.ref a1), .val (.ref a2), .val (.ref a3), .val (.int p4), .val (.ref b0), .val (.int (3 : Int32))] []))
  refine Rt.aloadN (pc' := 45) X1326 hx (hb hby d4_44) rfl rfl rfl ?_
  refine Rt.getF (pc' := 48) (v := (.ref m1)) X1326 hx hZ hown (host := "") (Or.inl (hw _ (List.mem_of_getElem? (i := 20) rfl))) F1346 (hb hby d4_45) rfl ?_
  intro T1382 X1382
  refine Rt.iload (pc' := 50) X1382 hx (hb hby d4_48) rfl rfl ?_
  refine Rt.aload (pc' := 52) X1382 hx (hb hby d4_50) rfl rfl rfl ?_
  refine Rt.getFR (pc' := 55) (v := (.int (f4_c41_b0_lowOut0_3 p4 hm cl0 cl1 cl2 cl3 ch0 ch1 ch2))) X1382 hx hZ hown (hw _ (List.mem_of_getElem? (i := 96) rfl)) F1375 (hb hby d4_52) rfl ?_
  intro T1383 X1383
  refine Rt.iastoreL (pc' := 56) X1383 hx hZ F1353 (i := 3) (by decide) (by decide) (by decide) g_m1 (hb hby d4_55) rfl ?_
  intro T1384 h1384 X1384 v1384 W1384 F1384
  have F1385 : Exa Z h1384 a1 nm4 := F1343.wr W1384
  have F1386 : Fld Z h1384 a1 nm4 "impossible" "I" (.int (5 : Int32)) := F1344.other W1384 (Or.inl ne_a1_m1)
  have F1387 : Fld Z h1384 a1 nm4 "h" "I" (.int hm) := F1345.other W1384 (Or.inl ne_a1_m1)
  have F1388 : Fld Z h1384 a1 nm4 "lowOut" "[I" (.ref m1) := F1346.other W1384 (Or.inl ne_a1_m1)
  have F1389 : Fld Z h1384 a1 nm4 "lowIn" "[I" (.ref m2) := F1347.other W1384 (Or.inl ne_a1_m1)
  have F1390 : Fld Z h1384 a1 nm4 "lowInLength" "[I" (.ref m3) := F1348.other W1384 (Or.inl ne_a1_m1)
  have F1391 : Fld Z h1384 a1 nm4 "lowInLows" "[I" (.ref m4) := F1349.other W1384 (Or.inl ne_a1_m1)
  have F1392 : Fld Z h1384 a1 nm4 "high" "[I" (.ref m5) := F1350.other W1384 (Or.inl ne_a1_m1)
  have F1393 : Fld Z h1384 a1 nm4 "highLength" "[I" (.ref m6) := F1351.other W1384 (Or.inl ne_a1_m1)
  have F1394 : Fld Z h1384 a1 nm4 "highLows" "[I" (.ref m7) := F1352.other W1384 (Or.inl ne_a1_m1)
  have F1395 : IL Z h1384 m2 .int 4 := F1354.wr W1384
  have F1396 : IL Z h1384 m3 .int 4 := F1355.wr W1384
  have F1397 : IL Z h1384 m4 .int 4 := F1356.wr W1384
  have F1398 : IL Z h1384 m5 .int 4 := F1357.wr W1384
  have F1399 : IL Z h1384 m6 .int 4 := F1358.wr W1384
  have F1400 : IL Z h1384 m7 .int 4 := F1359.wr W1384
  have F1401 : IA Z h1384 a2 .boolean [(.int cl0), (.int cl1), (.int cl2), (.int cl3)] := F1360.other W1384 ne_a2_m1
  have F1402 : IA Z h1384 a3 .boolean [(.int ch0), (.int ch1), (.int ch2), (.int ch3)] := F1361.other W1384 ne_a3_m1
  have F1403 : Exa Z h1384 b0 nm2 := F1327.wr W1384
  have F1404 : Exa Z h1384 b12nr1 nm1 := F1335.wr W1384
  have F1405 : Exa Z h1384 b12nr2 nm1 := F1336.wr W1384
  have F1406 : Exa Z h1384 b12nr3 nm1 := F1365.wr W1384
  have F1407 : Exa Z h1384 b12nr4 nm1 := F1366.wr W1384
  have F1408 : Fld Z h1384 b12nr3 nm1 "runs" "I" (.int (f4_c41_b12nr3_runs0_1 p4 hm cl0 cl1 cl2 ch0 ch1)) := F1367.other W1384 (Or.inl (Ne.symm ne104))
  have F1409 : Fld Z h1384 b12nr3 nm1 "length" "I" (.int (f4_c41_b12nr3_length0_1 p4 hm cl0 cl1 cl2 ch0 ch1)) := F1368.other W1384 (Or.inl (Ne.symm ne104))
  have F1410 : Fld Z h1384 b12nr3 nm1 "lows" "I" (.int (f4_c41_b12nr3_lows0_1 p4 hm cl0 cl1 cl2 ch0 ch1)) := F1369.other W1384 (Or.inl (Ne.symm ne104))
  have F1411 : Fld Z h1384 b12nr4 nm1 "runs" "I" (.int (f4_c41_b12nr4_runs0_1 p4 hm cl0 cl1 ch0 ch1 ch2)) := F1370.other W1384 (Or.inl (Ne.symm ne117))
  have F1412 : Fld Z h1384 b12nr4 nm1 "length" "I" (.int (f4_c41_b12nr4_length0_1 p4 hm cl0 cl1 ch0 ch1 ch2)) := F1371.other W1384 (Or.inl (Ne.symm ne117))
  have F1413 : Fld Z h1384 b12nr4 nm1 "lows" "I" (.int (f4_c41_b12nr4_lows0_1 p4 hm cl0 cl1 ch0 ch1 ch2)) := F1372.other W1384 (Or.inl (Ne.symm ne117))
  have F1414 : Fld Z h1384 b0 nm2 "impossible" "I" (.int (5 : Int32)) := F1328.other W1384 (Or.inl (Ne.symm ne5))
  have F1415 : Fld Z h1384 b0 nm2 "h" "I" (.int hm) := F1329.other W1384 (Or.inl (Ne.symm ne5))
  have F1416 : Fld Z h1384 b0 nm2 "lowOut" "I" (.int (f4_c41_b0_lowOut0_3 p4 hm cl0 cl1 cl2 cl3 ch0 ch1 ch2)) := F1375.other W1384 (Or.inl (Ne.symm ne5))
  have F1417 : Fld Z h1384 b0 nm2 "lowIn" nm3 (.ref b12nr1) := F1331.other W1384 (Or.inl (Ne.symm ne5))
  have F1418 : Fld Z h1384 b0 nm2 "high" nm3 (.ref b12nr2) := F1332.other W1384 (Or.inl (Ne.symm ne5))
  have F1419 : Fld Z h1384 b0 nm2 "nextLowIn" nm3 (.ref b12nr3) := F1333.other W1384 (Or.inl (Ne.symm ne5))
  have F1420 : Fld Z h1384 b0 nm2 "nextHigh" nm3 (.ref b12nr4) := F1334.other W1384 (Or.inl (Ne.symm ne5))
  have F1421 : Fld Z h1384 b12nr1 nm1 "runs" "I" (.int (f4_c41_b12nr1_runs0_1 p4 hm cl0 cl1 cl2 cl3 ch0 ch1 ch2)) := F1376.other W1384 (Or.inl (Ne.symm ne78))
  have F1422 : Fld Z h1384 b12nr1 nm1 "length" "I" (.int (f4_c41_b12nr1_length0_1 p4 hm cl0 cl1 cl2 cl3 ch0 ch1 ch2)) := F1377.other W1384 (Or.inl (Ne.symm ne78))
  have F1423 : Fld Z h1384 b12nr1 nm1 "lows" "I" (.int (f4_c41_b12nr1_lows0_1 p4 hm cl0 cl1 cl2 cl3 ch0 ch1 ch2)) := F1378.other W1384 (Or.inl (Ne.symm ne78))
  have F1424 : Fld Z h1384 b12nr2 nm1 "runs" "I" (.int (f4_c41_b12nr2_runs0_1 p4 hm cl0 cl1 cl2 ch0 ch1 ch2 ch3)) := F1379.other W1384 (Or.inl (Ne.symm ne91))
  have F1425 : Fld Z h1384 b12nr2 nm1 "length" "I" (.int (f4_c41_b12nr2_length0_1 p4 hm cl0 cl1 cl2 ch0 ch1 ch2 ch3)) := F1380.other W1384 (Or.inl (Ne.symm ne91))
  have F1426 : Fld Z h1384 b12nr2 nm1 "lows" "I" (.int (f4_c41_b12nr2_lows0_1 p4 hm cl0 cl1 cl2 ch0 ch1 ch2 ch3)) := F1381.other W1384 (Or.inl (Ne.symm ne91))
  have K1427 : Keep h0 h1384 [m1, m2, m3, m4, m5, m6, m7] := K1373.wr W1384 (Or.inl (List.mem_of_getElem? (i := 0) rfl))
  have Z1428 : n0 ≤ h1384.size := Nat.le_trans Z1374 (Keep.of_wr W1384).1
  refine Rt.aloadN (pc' := 57) X1384 hx (hb hby d4_56) rfl rfl rfl ?_
  refine Rt.getF (pc' := 60) (v := (.ref m2)) X1384 hx hZ hown (host := "") (Or.inl (hw _ (List.mem_of_getElem? (i := 22) rfl))) F1389 (hb hby d4_57) rfl ?_
  intro T1429 X1429
  refine Rt.iload (pc' := 62) X1429 hx (hb hby d4_60) rfl rfl ?_
  refine Rt.aload (pc' := 64) X1429 hx (hb hby d4_62) rfl rfl rfl ?_
  refine Rt.getFR (pc' := 67) (v := (.ref b12nr1)) X1429 hx hZ hown (hw _ (List.mem_of_getElem? (i := 97) rfl)) F1417 (hb hby d4_64) rfl ?_
  intro T1430 X1430
  refine Rt.getFR (pc' := 70) (v := (.int (f4_c41_b12nr1_runs0_1 p4 hm cl0 cl1 cl2 cl3 ch0 ch1 ch2))) X1430 hx hZ hown (hw _ (List.mem_of_getElem? (i := 98) rfl)) F1421 (hb hby d4_67) rfl ?_
  intro T1431 X1431
  refine Rt.iastoreL (pc' := 71) X1431 hx hZ F1395 (i := 3) (by decide) (by decide) (by decide) g_m2 (hb hby d4_70) rfl ?_
  intro T1432 h1432 X1432 v1432 W1432 F1432
  have F1433 : Exa Z h1432 a1 nm4 := F1385.wr W1432
  have F1434 : Fld Z h1432 a1 nm4 "impossible" "I" (.int (5 : Int32)) := F1386.other W1432 (Or.inl ne_a1_m2)
  have F1435 : Fld Z h1432 a1 nm4 "h" "I" (.int hm) := F1387.other W1432 (Or.inl ne_a1_m2)
  have F1436 : Fld Z h1432 a1 nm4 "lowOut" "[I" (.ref m1) := F1388.other W1432 (Or.inl ne_a1_m2)
  have F1437 : Fld Z h1432 a1 nm4 "lowIn" "[I" (.ref m2) := F1389.other W1432 (Or.inl ne_a1_m2)
  have F1438 : Fld Z h1432 a1 nm4 "lowInLength" "[I" (.ref m3) := F1390.other W1432 (Or.inl ne_a1_m2)
  have F1439 : Fld Z h1432 a1 nm4 "lowInLows" "[I" (.ref m4) := F1391.other W1432 (Or.inl ne_a1_m2)
  have F1440 : Fld Z h1432 a1 nm4 "high" "[I" (.ref m5) := F1392.other W1432 (Or.inl ne_a1_m2)
  have F1441 : Fld Z h1432 a1 nm4 "highLength" "[I" (.ref m6) := F1393.other W1432 (Or.inl ne_a1_m2)
  have F1442 : Fld Z h1432 a1 nm4 "highLows" "[I" (.ref m7) := F1394.other W1432 (Or.inl ne_a1_m2)
  have F1443 : IL Z h1432 m1 .int 4 := F1384.wr W1432
  have F1444 : IL Z h1432 m3 .int 4 := F1396.wr W1432
  have F1445 : IL Z h1432 m4 .int 4 := F1397.wr W1432
  have F1446 : IL Z h1432 m5 .int 4 := F1398.wr W1432
  have F1447 : IL Z h1432 m6 .int 4 := F1399.wr W1432
  have F1448 : IL Z h1432 m7 .int 4 := F1400.wr W1432
  have F1449 : IA Z h1432 a2 .boolean [(.int cl0), (.int cl1), (.int cl2), (.int cl3)] := F1401.other W1432 ne_a2_m2
  have F1450 : IA Z h1432 a3 .boolean [(.int ch0), (.int ch1), (.int ch2), (.int ch3)] := F1402.other W1432 ne_a3_m2
  have F1451 : Exa Z h1432 b0 nm2 := F1403.wr W1432
  have F1452 : Exa Z h1432 b12nr1 nm1 := F1404.wr W1432
  have F1453 : Exa Z h1432 b12nr2 nm1 := F1405.wr W1432
  have F1454 : Exa Z h1432 b12nr3 nm1 := F1406.wr W1432
  have F1455 : Exa Z h1432 b12nr4 nm1 := F1407.wr W1432
  have F1456 : Fld Z h1432 b12nr3 nm1 "runs" "I" (.int (f4_c41_b12nr3_runs0_1 p4 hm cl0 cl1 cl2 ch0 ch1)) := F1408.other W1432 (Or.inl (Ne.symm ne105))
  have F1457 : Fld Z h1432 b12nr3 nm1 "length" "I" (.int (f4_c41_b12nr3_length0_1 p4 hm cl0 cl1 cl2 ch0 ch1)) := F1409.other W1432 (Or.inl (Ne.symm ne105))
  have F1458 : Fld Z h1432 b12nr3 nm1 "lows" "I" (.int (f4_c41_b12nr3_lows0_1 p4 hm cl0 cl1 cl2 ch0 ch1)) := F1410.other W1432 (Or.inl (Ne.symm ne105))
  have F1459 : Fld Z h1432 b12nr4 nm1 "runs" "I" (.int (f4_c41_b12nr4_runs0_1 p4 hm cl0 cl1 ch0 ch1 ch2)) := F1411.other W1432 (Or.inl (Ne.symm ne118))
  have F1460 : Fld Z h1432 b12nr4 nm1 "length" "I" (.int (f4_c41_b12nr4_length0_1 p4 hm cl0 cl1 ch0 ch1 ch2)) := F1412.other W1432 (Or.inl (Ne.symm ne118))
  have F1461 : Fld Z h1432 b12nr4 nm1 "lows" "I" (.int (f4_c41_b12nr4_lows0_1 p4 hm cl0 cl1 ch0 ch1 ch2)) := F1413.other W1432 (Or.inl (Ne.symm ne118))
  have F1462 : Fld Z h1432 b0 nm2 "impossible" "I" (.int (5 : Int32)) := F1414.other W1432 (Or.inl (Ne.symm ne6))
  have F1463 : Fld Z h1432 b0 nm2 "h" "I" (.int hm) := F1415.other W1432 (Or.inl (Ne.symm ne6))
  have F1464 : Fld Z h1432 b0 nm2 "lowOut" "I" (.int (f4_c41_b0_lowOut0_3 p4 hm cl0 cl1 cl2 cl3 ch0 ch1 ch2)) := F1416.other W1432 (Or.inl (Ne.symm ne6))
  have F1465 : Fld Z h1432 b0 nm2 "lowIn" nm3 (.ref b12nr1) := F1417.other W1432 (Or.inl (Ne.symm ne6))
  have F1466 : Fld Z h1432 b0 nm2 "high" nm3 (.ref b12nr2) := F1418.other W1432 (Or.inl (Ne.symm ne6))
  have F1467 : Fld Z h1432 b0 nm2 "nextLowIn" nm3 (.ref b12nr3) := F1419.other W1432 (Or.inl (Ne.symm ne6))
  have F1468 : Fld Z h1432 b0 nm2 "nextHigh" nm3 (.ref b12nr4) := F1420.other W1432 (Or.inl (Ne.symm ne6))
  have F1469 : Fld Z h1432 b12nr1 nm1 "runs" "I" (.int (f4_c41_b12nr1_runs0_1 p4 hm cl0 cl1 cl2 cl3 ch0 ch1 ch2)) := F1421.other W1432 (Or.inl (Ne.symm ne79))
  have F1470 : Fld Z h1432 b12nr1 nm1 "length" "I" (.int (f4_c41_b12nr1_length0_1 p4 hm cl0 cl1 cl2 cl3 ch0 ch1 ch2)) := F1422.other W1432 (Or.inl (Ne.symm ne79))
  have F1471 : Fld Z h1432 b12nr1 nm1 "lows" "I" (.int (f4_c41_b12nr1_lows0_1 p4 hm cl0 cl1 cl2 cl3 ch0 ch1 ch2)) := F1423.other W1432 (Or.inl (Ne.symm ne79))
  have F1472 : Fld Z h1432 b12nr2 nm1 "runs" "I" (.int (f4_c41_b12nr2_runs0_1 p4 hm cl0 cl1 cl2 ch0 ch1 ch2 ch3)) := F1424.other W1432 (Or.inl (Ne.symm ne92))
  have F1473 : Fld Z h1432 b12nr2 nm1 "length" "I" (.int (f4_c41_b12nr2_length0_1 p4 hm cl0 cl1 cl2 ch0 ch1 ch2 ch3)) := F1425.other W1432 (Or.inl (Ne.symm ne92))
  have F1474 : Fld Z h1432 b12nr2 nm1 "lows" "I" (.int (f4_c41_b12nr2_lows0_1 p4 hm cl0 cl1 cl2 ch0 ch1 ch2 ch3)) := F1426.other W1432 (Or.inl (Ne.symm ne92))
  have K1475 : Keep h0 h1432 [m1, m2, m3, m4, m5, m6, m7] := K1427.wr W1432 (Or.inl (List.mem_of_getElem? (i := 1) rfl))
  have Z1476 : n0 ≤ h1432.size := Nat.le_trans Z1428 (Keep.of_wr W1432).1
  refine Rt.aloadN (pc' := 72) X1432 hx (hb hby d4_71) rfl rfl rfl ?_
  refine Rt.getF (pc' := 75) (v := (.ref m3)) X1432 hx hZ hown (host := "") (Or.inl (hw _ (List.mem_of_getElem? (i := 24) rfl))) F1438 (hb hby d4_72) rfl ?_
  intro T1477 X1477
  refine Rt.iload (pc' := 77) X1477 hx (hb hby d4_75) rfl rfl ?_
  refine Rt.aload (pc' := 79) X1477 hx (hb hby d4_77) rfl rfl rfl ?_
  refine Rt.getFR (pc' := 82) (v := (.ref b12nr1)) X1477 hx hZ hown (hw _ (List.mem_of_getElem? (i := 97) rfl)) F1465 (hb hby d4_79) rfl ?_
  intro T1478 X1478
  refine Rt.getFR (pc' := 85) (v := (.int (f4_c41_b12nr1_length0_1 p4 hm cl0 cl1 cl2 cl3 ch0 ch1 ch2))) X1478 hx hZ hown (hw _ (List.mem_of_getElem? (i := 99) rfl)) F1470 (hb hby d4_82) rfl ?_
  intro T1479 X1479
  refine Rt.iastoreL (pc' := 86) X1479 hx hZ F1444 (i := 3) (by decide) (by decide) (by decide) g_m3 (hb hby d4_85) rfl ?_
  intro T1480 h1480 X1480 v1480 W1480 F1480
  have F1481 : Exa Z h1480 a1 nm4 := F1433.wr W1480
  have F1482 : Fld Z h1480 a1 nm4 "impossible" "I" (.int (5 : Int32)) := F1434.other W1480 (Or.inl ne_a1_m3)
  have F1483 : Fld Z h1480 a1 nm4 "h" "I" (.int hm) := F1435.other W1480 (Or.inl ne_a1_m3)
  have F1484 : Fld Z h1480 a1 nm4 "lowOut" "[I" (.ref m1) := F1436.other W1480 (Or.inl ne_a1_m3)
  have F1485 : Fld Z h1480 a1 nm4 "lowIn" "[I" (.ref m2) := F1437.other W1480 (Or.inl ne_a1_m3)
  have F1486 : Fld Z h1480 a1 nm4 "lowInLength" "[I" (.ref m3) := F1438.other W1480 (Or.inl ne_a1_m3)
  have F1487 : Fld Z h1480 a1 nm4 "lowInLows" "[I" (.ref m4) := F1439.other W1480 (Or.inl ne_a1_m3)
  have F1488 : Fld Z h1480 a1 nm4 "high" "[I" (.ref m5) := F1440.other W1480 (Or.inl ne_a1_m3)
  have F1489 : Fld Z h1480 a1 nm4 "highLength" "[I" (.ref m6) := F1441.other W1480 (Or.inl ne_a1_m3)
  have F1490 : Fld Z h1480 a1 nm4 "highLows" "[I" (.ref m7) := F1442.other W1480 (Or.inl ne_a1_m3)
  have F1491 : IL Z h1480 m1 .int 4 := F1443.wr W1480
  have F1492 : IL Z h1480 m2 .int 4 := F1432.wr W1480
  have F1493 : IL Z h1480 m4 .int 4 := F1445.wr W1480
  have F1494 : IL Z h1480 m5 .int 4 := F1446.wr W1480
  have F1495 : IL Z h1480 m6 .int 4 := F1447.wr W1480
  have F1496 : IL Z h1480 m7 .int 4 := F1448.wr W1480
  have F1497 : IA Z h1480 a2 .boolean [(.int cl0), (.int cl1), (.int cl2), (.int cl3)] := F1449.other W1480 ne_a2_m3
  have F1498 : IA Z h1480 a3 .boolean [(.int ch0), (.int ch1), (.int ch2), (.int ch3)] := F1450.other W1480 ne_a3_m3
  have F1499 : Exa Z h1480 b0 nm2 := F1451.wr W1480
  have F1500 : Exa Z h1480 b12nr1 nm1 := F1452.wr W1480
  have F1501 : Exa Z h1480 b12nr2 nm1 := F1453.wr W1480
  have F1502 : Exa Z h1480 b12nr3 nm1 := F1454.wr W1480
  have F1503 : Exa Z h1480 b12nr4 nm1 := F1455.wr W1480
  have F1504 : Fld Z h1480 b12nr3 nm1 "runs" "I" (.int (f4_c41_b12nr3_runs0_1 p4 hm cl0 cl1 cl2 ch0 ch1)) := F1456.other W1480 (Or.inl (Ne.symm ne106))
  have F1505 : Fld Z h1480 b12nr3 nm1 "length" "I" (.int (f4_c41_b12nr3_length0_1 p4 hm cl0 cl1 cl2 ch0 ch1)) := F1457.other W1480 (Or.inl (Ne.symm ne106))
  have F1506 : Fld Z h1480 b12nr3 nm1 "lows" "I" (.int (f4_c41_b12nr3_lows0_1 p4 hm cl0 cl1 cl2 ch0 ch1)) := F1458.other W1480 (Or.inl (Ne.symm ne106))
  have F1507 : Fld Z h1480 b12nr4 nm1 "runs" "I" (.int (f4_c41_b12nr4_runs0_1 p4 hm cl0 cl1 ch0 ch1 ch2)) := F1459.other W1480 (Or.inl (Ne.symm ne119))
  have F1508 : Fld Z h1480 b12nr4 nm1 "length" "I" (.int (f4_c41_b12nr4_length0_1 p4 hm cl0 cl1 ch0 ch1 ch2)) := F1460.other W1480 (Or.inl (Ne.symm ne119))
  have F1509 : Fld Z h1480 b12nr4 nm1 "lows" "I" (.int (f4_c41_b12nr4_lows0_1 p4 hm cl0 cl1 ch0 ch1 ch2)) := F1461.other W1480 (Or.inl (Ne.symm ne119))
  have F1510 : Fld Z h1480 b0 nm2 "impossible" "I" (.int (5 : Int32)) := F1462.other W1480 (Or.inl (Ne.symm ne7))
  have F1511 : Fld Z h1480 b0 nm2 "h" "I" (.int hm) := F1463.other W1480 (Or.inl (Ne.symm ne7))
  have F1512 : Fld Z h1480 b0 nm2 "lowOut" "I" (.int (f4_c41_b0_lowOut0_3 p4 hm cl0 cl1 cl2 cl3 ch0 ch1 ch2)) := F1464.other W1480 (Or.inl (Ne.symm ne7))
  have F1513 : Fld Z h1480 b0 nm2 "lowIn" nm3 (.ref b12nr1) := F1465.other W1480 (Or.inl (Ne.symm ne7))
  have F1514 : Fld Z h1480 b0 nm2 "high" nm3 (.ref b12nr2) := F1466.other W1480 (Or.inl (Ne.symm ne7))
  have F1515 : Fld Z h1480 b0 nm2 "nextLowIn" nm3 (.ref b12nr3) := F1467.other W1480 (Or.inl (Ne.symm ne7))
  have F1516 : Fld Z h1480 b0 nm2 "nextHigh" nm3 (.ref b12nr4) := F1468.other W1480 (Or.inl (Ne.symm ne7))
  have F1517 : Fld Z h1480 b12nr1 nm1 "runs" "I" (.int (f4_c41_b12nr1_runs0_1 p4 hm cl0 cl1 cl2 cl3 ch0 ch1 ch2)) := F1469.other W1480 (Or.inl (Ne.symm ne80))
  have F1518 : Fld Z h1480 b12nr1 nm1 "length" "I" (.int (f4_c41_b12nr1_length0_1 p4 hm cl0 cl1 cl2 cl3 ch0 ch1 ch2)) := F1470.other W1480 (Or.inl (Ne.symm ne80))
  have F1519 : Fld Z h1480 b12nr1 nm1 "lows" "I" (.int (f4_c41_b12nr1_lows0_1 p4 hm cl0 cl1 cl2 cl3 ch0 ch1 ch2)) := F1471.other W1480 (Or.inl (Ne.symm ne80))
  have F1520 : Fld Z h1480 b12nr2 nm1 "runs" "I" (.int (f4_c41_b12nr2_runs0_1 p4 hm cl0 cl1 cl2 ch0 ch1 ch2 ch3)) := F1472.other W1480 (Or.inl (Ne.symm ne93))
  have F1521 : Fld Z h1480 b12nr2 nm1 "length" "I" (.int (f4_c41_b12nr2_length0_1 p4 hm cl0 cl1 cl2 ch0 ch1 ch2 ch3)) := F1473.other W1480 (Or.inl (Ne.symm ne93))
  have F1522 : Fld Z h1480 b12nr2 nm1 "lows" "I" (.int (f4_c41_b12nr2_lows0_1 p4 hm cl0 cl1 cl2 ch0 ch1 ch2 ch3)) := F1474.other W1480 (Or.inl (Ne.symm ne93))
  have K1523 : Keep h0 h1480 [m1, m2, m3, m4, m5, m6, m7] := K1475.wr W1480 (Or.inl (List.mem_of_getElem? (i := 2) rfl))
  have Z1524 : n0 ≤ h1480.size := Nat.le_trans Z1476 (Keep.of_wr W1480).1
  refine Rt.aloadN (pc' := 87) X1480 hx (hb hby d4_86) rfl rfl rfl ?_
  refine Rt.getF (pc' := 90) (v := (.ref m4)) X1480 hx hZ hown (host := "") (Or.inl (hw _ (List.mem_of_getElem? (i := 26) rfl))) F1487 (hb hby d4_87) rfl ?_
  intro T1525 X1525
  refine Rt.iload (pc' := 92) X1525 hx (hb hby d4_90) rfl rfl ?_
  refine Rt.aload (pc' := 94) X1525 hx (hb hby d4_92) rfl rfl rfl ?_
  refine Rt.getFR (pc' := 97) (v := (.ref b12nr1)) X1525 hx hZ hown (hw _ (List.mem_of_getElem? (i := 97) rfl)) F1513 (hb hby d4_94) rfl ?_
  intro T1526 X1526
  refine Rt.getFR (pc' := 100) (v := (.int (f4_c41_b12nr1_lows0_1 p4 hm cl0 cl1 cl2 cl3 ch0 ch1 ch2))) X1526 hx hZ hown (hw _ (List.mem_of_getElem? (i := 100) rfl)) F1519 (hb hby d4_97) rfl ?_
  intro T1527 X1527
  refine Rt.iastoreL (pc' := 101) X1527 hx hZ F1493 (i := 3) (by decide) (by decide) (by decide) g_m4 (hb hby d4_100) rfl ?_
  intro T1528 h1528 X1528 v1528 W1528 F1528
  have F1529 : Exa Z h1528 a1 nm4 := F1481.wr W1528
  have F1530 : Fld Z h1528 a1 nm4 "impossible" "I" (.int (5 : Int32)) := F1482.other W1528 (Or.inl ne_a1_m4)
  have F1531 : Fld Z h1528 a1 nm4 "h" "I" (.int hm) := F1483.other W1528 (Or.inl ne_a1_m4)
  have F1532 : Fld Z h1528 a1 nm4 "lowOut" "[I" (.ref m1) := F1484.other W1528 (Or.inl ne_a1_m4)
  have F1533 : Fld Z h1528 a1 nm4 "lowIn" "[I" (.ref m2) := F1485.other W1528 (Or.inl ne_a1_m4)
  have F1534 : Fld Z h1528 a1 nm4 "lowInLength" "[I" (.ref m3) := F1486.other W1528 (Or.inl ne_a1_m4)
  have F1535 : Fld Z h1528 a1 nm4 "lowInLows" "[I" (.ref m4) := F1487.other W1528 (Or.inl ne_a1_m4)
  have F1536 : Fld Z h1528 a1 nm4 "high" "[I" (.ref m5) := F1488.other W1528 (Or.inl ne_a1_m4)
  have F1537 : Fld Z h1528 a1 nm4 "highLength" "[I" (.ref m6) := F1489.other W1528 (Or.inl ne_a1_m4)
  have F1538 : Fld Z h1528 a1 nm4 "highLows" "[I" (.ref m7) := F1490.other W1528 (Or.inl ne_a1_m4)
  have F1539 : IL Z h1528 m1 .int 4 := F1491.wr W1528
  have F1540 : IL Z h1528 m2 .int 4 := F1492.wr W1528
  have F1541 : IL Z h1528 m3 .int 4 := F1480.wr W1528
  have F1542 : IL Z h1528 m5 .int 4 := F1494.wr W1528
  have F1543 : IL Z h1528 m6 .int 4 := F1495.wr W1528
  have F1544 : IL Z h1528 m7 .int 4 := F1496.wr W1528
  have F1545 : IA Z h1528 a2 .boolean [(.int cl0), (.int cl1), (.int cl2), (.int cl3)] := F1497.other W1528 ne_a2_m4
  have F1546 : IA Z h1528 a3 .boolean [(.int ch0), (.int ch1), (.int ch2), (.int ch3)] := F1498.other W1528 ne_a3_m4
  have F1547 : Exa Z h1528 b0 nm2 := F1499.wr W1528
  have F1548 : Exa Z h1528 b12nr1 nm1 := F1500.wr W1528
  have F1549 : Exa Z h1528 b12nr2 nm1 := F1501.wr W1528
  have F1550 : Exa Z h1528 b12nr3 nm1 := F1502.wr W1528
  have F1551 : Exa Z h1528 b12nr4 nm1 := F1503.wr W1528
  have F1552 : Fld Z h1528 b12nr3 nm1 "runs" "I" (.int (f4_c41_b12nr3_runs0_1 p4 hm cl0 cl1 cl2 ch0 ch1)) := F1504.other W1528 (Or.inl (Ne.symm ne107))
  have F1553 : Fld Z h1528 b12nr3 nm1 "length" "I" (.int (f4_c41_b12nr3_length0_1 p4 hm cl0 cl1 cl2 ch0 ch1)) := F1505.other W1528 (Or.inl (Ne.symm ne107))
  have F1554 : Fld Z h1528 b12nr3 nm1 "lows" "I" (.int (f4_c41_b12nr3_lows0_1 p4 hm cl0 cl1 cl2 ch0 ch1)) := F1506.other W1528 (Or.inl (Ne.symm ne107))
  have F1555 : Fld Z h1528 b12nr4 nm1 "runs" "I" (.int (f4_c41_b12nr4_runs0_1 p4 hm cl0 cl1 ch0 ch1 ch2)) := F1507.other W1528 (Or.inl (Ne.symm ne120))
  have F1556 : Fld Z h1528 b12nr4 nm1 "length" "I" (.int (f4_c41_b12nr4_length0_1 p4 hm cl0 cl1 ch0 ch1 ch2)) := F1508.other W1528 (Or.inl (Ne.symm ne120))
  have F1557 : Fld Z h1528 b12nr4 nm1 "lows" "I" (.int (f4_c41_b12nr4_lows0_1 p4 hm cl0 cl1 ch0 ch1 ch2)) := F1509.other W1528 (Or.inl (Ne.symm ne120))
  have F1558 : Fld Z h1528 b0 nm2 "impossible" "I" (.int (5 : Int32)) := F1510.other W1528 (Or.inl (Ne.symm ne8))
  have F1559 : Fld Z h1528 b0 nm2 "h" "I" (.int hm) := F1511.other W1528 (Or.inl (Ne.symm ne8))
  have F1560 : Fld Z h1528 b0 nm2 "lowOut" "I" (.int (f4_c41_b0_lowOut0_3 p4 hm cl0 cl1 cl2 cl3 ch0 ch1 ch2)) := F1512.other W1528 (Or.inl (Ne.symm ne8))
  have F1561 : Fld Z h1528 b0 nm2 "lowIn" nm3 (.ref b12nr1) := F1513.other W1528 (Or.inl (Ne.symm ne8))
  have F1562 : Fld Z h1528 b0 nm2 "high" nm3 (.ref b12nr2) := F1514.other W1528 (Or.inl (Ne.symm ne8))
  have F1563 : Fld Z h1528 b0 nm2 "nextLowIn" nm3 (.ref b12nr3) := F1515.other W1528 (Or.inl (Ne.symm ne8))
  have F1564 : Fld Z h1528 b0 nm2 "nextHigh" nm3 (.ref b12nr4) := F1516.other W1528 (Or.inl (Ne.symm ne8))
  have F1565 : Fld Z h1528 b12nr1 nm1 "runs" "I" (.int (f4_c41_b12nr1_runs0_1 p4 hm cl0 cl1 cl2 cl3 ch0 ch1 ch2)) := F1517.other W1528 (Or.inl (Ne.symm ne81))
  have F1566 : Fld Z h1528 b12nr1 nm1 "length" "I" (.int (f4_c41_b12nr1_length0_1 p4 hm cl0 cl1 cl2 cl3 ch0 ch1 ch2)) := F1518.other W1528 (Or.inl (Ne.symm ne81))
  have F1567 : Fld Z h1528 b12nr1 nm1 "lows" "I" (.int (f4_c41_b12nr1_lows0_1 p4 hm cl0 cl1 cl2 cl3 ch0 ch1 ch2)) := F1519.other W1528 (Or.inl (Ne.symm ne81))
  have F1568 : Fld Z h1528 b12nr2 nm1 "runs" "I" (.int (f4_c41_b12nr2_runs0_1 p4 hm cl0 cl1 cl2 ch0 ch1 ch2 ch3)) := F1520.other W1528 (Or.inl (Ne.symm ne94))
  have F1569 : Fld Z h1528 b12nr2 nm1 "length" "I" (.int (f4_c41_b12nr2_length0_1 p4 hm cl0 cl1 cl2 ch0 ch1 ch2 ch3)) := F1521.other W1528 (Or.inl (Ne.symm ne94))
  have F1570 : Fld Z h1528 b12nr2 nm1 "lows" "I" (.int (f4_c41_b12nr2_lows0_1 p4 hm cl0 cl1 cl2 ch0 ch1 ch2 ch3)) := F1522.other W1528 (Or.inl (Ne.symm ne94))
  have K1571 : Keep h0 h1528 [m1, m2, m3, m4, m5, m6, m7] := K1523.wr W1528 (Or.inl (List.mem_of_getElem? (i := 3) rfl))
  have Z1572 : n0 ≤ h1528.size := Nat.le_trans Z1524 (Keep.of_wr W1528).1
  refine Rt.aloadN (pc' := 102) X1528 hx (hb hby d4_101) rfl rfl rfl ?_
  refine Rt.getF (pc' := 105) (v := (.ref m5)) X1528 hx hZ hown (host := "") (Or.inl (hw _ (List.mem_of_getElem? (i := 28) rfl))) F1536 (hb hby d4_102) rfl ?_
  intro T1573 X1573
  refine Rt.iload (pc' := 107) X1573 hx (hb hby d4_105) rfl rfl ?_
  refine Rt.aload (pc' := 109) X1573 hx (hb hby d4_107) rfl rfl rfl ?_
  refine Rt.getFR (pc' := 112) (v := (.ref b12nr2)) X1573 hx hZ hown (hw _ (List.mem_of_getElem? (i := 101) rfl)) F1562 (hb hby d4_109) rfl ?_
  intro T1574 X1574
  refine Rt.getFR (pc' := 115) (v := (.int (f4_c41_b12nr2_runs0_1 p4 hm cl0 cl1 cl2 ch0 ch1 ch2 ch3))) X1574 hx hZ hown (hw _ (List.mem_of_getElem? (i := 98) rfl)) F1568 (hb hby d4_112) rfl ?_
  intro T1575 X1575
  refine Rt.iastoreL (pc' := 116) X1575 hx hZ F1542 (i := 3) (by decide) (by decide) (by decide) g_m5 (hb hby d4_115) rfl ?_
  intro T1576 h1576 X1576 v1576 W1576 F1576
  have F1577 : Exa Z h1576 a1 nm4 := F1529.wr W1576
  have F1578 : Fld Z h1576 a1 nm4 "impossible" "I" (.int (5 : Int32)) := F1530.other W1576 (Or.inl ne_a1_m5)
  have F1579 : Fld Z h1576 a1 nm4 "h" "I" (.int hm) := F1531.other W1576 (Or.inl ne_a1_m5)
  have F1580 : Fld Z h1576 a1 nm4 "lowOut" "[I" (.ref m1) := F1532.other W1576 (Or.inl ne_a1_m5)
  have F1581 : Fld Z h1576 a1 nm4 "lowIn" "[I" (.ref m2) := F1533.other W1576 (Or.inl ne_a1_m5)
  have F1582 : Fld Z h1576 a1 nm4 "lowInLength" "[I" (.ref m3) := F1534.other W1576 (Or.inl ne_a1_m5)
  have F1583 : Fld Z h1576 a1 nm4 "lowInLows" "[I" (.ref m4) := F1535.other W1576 (Or.inl ne_a1_m5)
  have F1584 : Fld Z h1576 a1 nm4 "high" "[I" (.ref m5) := F1536.other W1576 (Or.inl ne_a1_m5)
  have F1585 : Fld Z h1576 a1 nm4 "highLength" "[I" (.ref m6) := F1537.other W1576 (Or.inl ne_a1_m5)
  have F1586 : Fld Z h1576 a1 nm4 "highLows" "[I" (.ref m7) := F1538.other W1576 (Or.inl ne_a1_m5)
  have F1587 : IL Z h1576 m1 .int 4 := F1539.wr W1576
  have F1588 : IL Z h1576 m2 .int 4 := F1540.wr W1576
  have F1589 : IL Z h1576 m3 .int 4 := F1541.wr W1576
  have F1590 : IL Z h1576 m4 .int 4 := F1528.wr W1576
  have F1591 : IL Z h1576 m6 .int 4 := F1543.wr W1576
  have F1592 : IL Z h1576 m7 .int 4 := F1544.wr W1576
  have F1593 : IA Z h1576 a2 .boolean [(.int cl0), (.int cl1), (.int cl2), (.int cl3)] := F1545.other W1576 ne_a2_m5
  have F1594 : IA Z h1576 a3 .boolean [(.int ch0), (.int ch1), (.int ch2), (.int ch3)] := F1546.other W1576 ne_a3_m5
  have F1595 : Exa Z h1576 b0 nm2 := F1547.wr W1576
  have F1596 : Exa Z h1576 b12nr1 nm1 := F1548.wr W1576
  have F1597 : Exa Z h1576 b12nr2 nm1 := F1549.wr W1576
  have F1598 : Exa Z h1576 b12nr3 nm1 := F1550.wr W1576
  have F1599 : Exa Z h1576 b12nr4 nm1 := F1551.wr W1576
  have F1600 : Fld Z h1576 b12nr3 nm1 "runs" "I" (.int (f4_c41_b12nr3_runs0_1 p4 hm cl0 cl1 cl2 ch0 ch1)) := F1552.other W1576 (Or.inl (Ne.symm ne108))
  have F1601 : Fld Z h1576 b12nr3 nm1 "length" "I" (.int (f4_c41_b12nr3_length0_1 p4 hm cl0 cl1 cl2 ch0 ch1)) := F1553.other W1576 (Or.inl (Ne.symm ne108))
  have F1602 : Fld Z h1576 b12nr3 nm1 "lows" "I" (.int (f4_c41_b12nr3_lows0_1 p4 hm cl0 cl1 cl2 ch0 ch1)) := F1554.other W1576 (Or.inl (Ne.symm ne108))
  have F1603 : Fld Z h1576 b12nr4 nm1 "runs" "I" (.int (f4_c41_b12nr4_runs0_1 p4 hm cl0 cl1 ch0 ch1 ch2)) := F1555.other W1576 (Or.inl (Ne.symm ne121))
  have F1604 : Fld Z h1576 b12nr4 nm1 "length" "I" (.int (f4_c41_b12nr4_length0_1 p4 hm cl0 cl1 ch0 ch1 ch2)) := F1556.other W1576 (Or.inl (Ne.symm ne121))
  have F1605 : Fld Z h1576 b12nr4 nm1 "lows" "I" (.int (f4_c41_b12nr4_lows0_1 p4 hm cl0 cl1 ch0 ch1 ch2)) := F1557.other W1576 (Or.inl (Ne.symm ne121))
  have F1606 : Fld Z h1576 b0 nm2 "impossible" "I" (.int (5 : Int32)) := F1558.other W1576 (Or.inl (Ne.symm ne9))
  have F1607 : Fld Z h1576 b0 nm2 "h" "I" (.int hm) := F1559.other W1576 (Or.inl (Ne.symm ne9))
  have F1608 : Fld Z h1576 b0 nm2 "lowOut" "I" (.int (f4_c41_b0_lowOut0_3 p4 hm cl0 cl1 cl2 cl3 ch0 ch1 ch2)) := F1560.other W1576 (Or.inl (Ne.symm ne9))
  have F1609 : Fld Z h1576 b0 nm2 "lowIn" nm3 (.ref b12nr1) := F1561.other W1576 (Or.inl (Ne.symm ne9))
  have F1610 : Fld Z h1576 b0 nm2 "high" nm3 (.ref b12nr2) := F1562.other W1576 (Or.inl (Ne.symm ne9))
  have F1611 : Fld Z h1576 b0 nm2 "nextLowIn" nm3 (.ref b12nr3) := F1563.other W1576 (Or.inl (Ne.symm ne9))
  have F1612 : Fld Z h1576 b0 nm2 "nextHigh" nm3 (.ref b12nr4) := F1564.other W1576 (Or.inl (Ne.symm ne9))
  have F1613 : Fld Z h1576 b12nr1 nm1 "runs" "I" (.int (f4_c41_b12nr1_runs0_1 p4 hm cl0 cl1 cl2 cl3 ch0 ch1 ch2)) := F1565.other W1576 (Or.inl (Ne.symm ne82))
  have F1614 : Fld Z h1576 b12nr1 nm1 "length" "I" (.int (f4_c41_b12nr1_length0_1 p4 hm cl0 cl1 cl2 cl3 ch0 ch1 ch2)) := F1566.other W1576 (Or.inl (Ne.symm ne82))
  have F1615 : Fld Z h1576 b12nr1 nm1 "lows" "I" (.int (f4_c41_b12nr1_lows0_1 p4 hm cl0 cl1 cl2 cl3 ch0 ch1 ch2)) := F1567.other W1576 (Or.inl (Ne.symm ne82))
  have F1616 : Fld Z h1576 b12nr2 nm1 "runs" "I" (.int (f4_c41_b12nr2_runs0_1 p4 hm cl0 cl1 cl2 ch0 ch1 ch2 ch3)) := F1568.other W1576 (Or.inl (Ne.symm ne95))
  have F1617 : Fld Z h1576 b12nr2 nm1 "length" "I" (.int (f4_c41_b12nr2_length0_1 p4 hm cl0 cl1 cl2 ch0 ch1 ch2 ch3)) := F1569.other W1576 (Or.inl (Ne.symm ne95))
  have F1618 : Fld Z h1576 b12nr2 nm1 "lows" "I" (.int (f4_c41_b12nr2_lows0_1 p4 hm cl0 cl1 cl2 ch0 ch1 ch2 ch3)) := F1570.other W1576 (Or.inl (Ne.symm ne95))
  have K1619 : Keep h0 h1576 [m1, m2, m3, m4, m5, m6, m7] := K1571.wr W1576 (Or.inl (List.mem_of_getElem? (i := 4) rfl))
  have Z1620 : n0 ≤ h1576.size := Nat.le_trans Z1572 (Keep.of_wr W1576).1
  refine Rt.aloadN (pc' := 117) X1576 hx (hb hby d4_116) rfl rfl rfl ?_
  refine Rt.getF (pc' := 120) (v := (.ref m6)) X1576 hx hZ hown (host := "") (Or.inl (hw _ (List.mem_of_getElem? (i := 30) rfl))) F1585 (hb hby d4_117) rfl ?_
  intro T1621 X1621
  refine Rt.iload (pc' := 122) X1621 hx (hb hby d4_120) rfl rfl ?_
  refine Rt.aload (pc' := 124) X1621 hx (hb hby d4_122) rfl rfl rfl ?_
  refine Rt.getFR (pc' := 127) (v := (.ref b12nr2)) X1621 hx hZ hown (hw _ (List.mem_of_getElem? (i := 101) rfl)) F1610 (hb hby d4_124) rfl ?_
  intro T1622 X1622
  refine Rt.getFR (pc' := 130) (v := (.int (f4_c41_b12nr2_length0_1 p4 hm cl0 cl1 cl2 ch0 ch1 ch2 ch3))) X1622 hx hZ hown (hw _ (List.mem_of_getElem? (i := 99) rfl)) F1617 (hb hby d4_127) rfl ?_
  intro T1623 X1623
  refine Rt.iastoreL (pc' := 131) X1623 hx hZ F1591 (i := 3) (by decide) (by decide) (by decide) g_m6 (hb hby d4_130) rfl ?_
  intro T1624 h1624 X1624 v1624 W1624 F1624
  have F1625 : Exa Z h1624 a1 nm4 := F1577.wr W1624
  have F1626 : Fld Z h1624 a1 nm4 "impossible" "I" (.int (5 : Int32)) := F1578.other W1624 (Or.inl ne_a1_m6)
  have F1627 : Fld Z h1624 a1 nm4 "h" "I" (.int hm) := F1579.other W1624 (Or.inl ne_a1_m6)
  have F1628 : Fld Z h1624 a1 nm4 "lowOut" "[I" (.ref m1) := F1580.other W1624 (Or.inl ne_a1_m6)
  have F1629 : Fld Z h1624 a1 nm4 "lowIn" "[I" (.ref m2) := F1581.other W1624 (Or.inl ne_a1_m6)
  have F1630 : Fld Z h1624 a1 nm4 "lowInLength" "[I" (.ref m3) := F1582.other W1624 (Or.inl ne_a1_m6)
  have F1631 : Fld Z h1624 a1 nm4 "lowInLows" "[I" (.ref m4) := F1583.other W1624 (Or.inl ne_a1_m6)
  have F1632 : Fld Z h1624 a1 nm4 "high" "[I" (.ref m5) := F1584.other W1624 (Or.inl ne_a1_m6)
  have F1633 : Fld Z h1624 a1 nm4 "highLength" "[I" (.ref m6) := F1585.other W1624 (Or.inl ne_a1_m6)
  have F1634 : Fld Z h1624 a1 nm4 "highLows" "[I" (.ref m7) := F1586.other W1624 (Or.inl ne_a1_m6)
  have F1635 : IL Z h1624 m1 .int 4 := F1587.wr W1624
  have F1636 : IL Z h1624 m2 .int 4 := F1588.wr W1624
  have F1637 : IL Z h1624 m3 .int 4 := F1589.wr W1624
  have F1638 : IL Z h1624 m4 .int 4 := F1590.wr W1624
  have F1639 : IL Z h1624 m5 .int 4 := F1576.wr W1624
  have F1640 : IL Z h1624 m7 .int 4 := F1592.wr W1624
  have F1641 : IA Z h1624 a2 .boolean [(.int cl0), (.int cl1), (.int cl2), (.int cl3)] := F1593.other W1624 ne_a2_m6
  have F1642 : IA Z h1624 a3 .boolean [(.int ch0), (.int ch1), (.int ch2), (.int ch3)] := F1594.other W1624 ne_a3_m6
  have F1643 : Exa Z h1624 b0 nm2 := F1595.wr W1624
  have F1644 : Exa Z h1624 b12nr1 nm1 := F1596.wr W1624
  have F1645 : Exa Z h1624 b12nr2 nm1 := F1597.wr W1624
  have F1646 : Exa Z h1624 b12nr3 nm1 := F1598.wr W1624
  have F1647 : Exa Z h1624 b12nr4 nm1 := F1599.wr W1624
  have F1648 : Fld Z h1624 b12nr3 nm1 "runs" "I" (.int (f4_c41_b12nr3_runs0_1 p4 hm cl0 cl1 cl2 ch0 ch1)) := F1600.other W1624 (Or.inl (Ne.symm ne109))
  have F1649 : Fld Z h1624 b12nr3 nm1 "length" "I" (.int (f4_c41_b12nr3_length0_1 p4 hm cl0 cl1 cl2 ch0 ch1)) := F1601.other W1624 (Or.inl (Ne.symm ne109))
  have F1650 : Fld Z h1624 b12nr3 nm1 "lows" "I" (.int (f4_c41_b12nr3_lows0_1 p4 hm cl0 cl1 cl2 ch0 ch1)) := F1602.other W1624 (Or.inl (Ne.symm ne109))
  have F1651 : Fld Z h1624 b12nr4 nm1 "runs" "I" (.int (f4_c41_b12nr4_runs0_1 p4 hm cl0 cl1 ch0 ch1 ch2)) := F1603.other W1624 (Or.inl (Ne.symm ne122))
  have F1652 : Fld Z h1624 b12nr4 nm1 "length" "I" (.int (f4_c41_b12nr4_length0_1 p4 hm cl0 cl1 ch0 ch1 ch2)) := F1604.other W1624 (Or.inl (Ne.symm ne122))
  have F1653 : Fld Z h1624 b12nr4 nm1 "lows" "I" (.int (f4_c41_b12nr4_lows0_1 p4 hm cl0 cl1 ch0 ch1 ch2)) := F1605.other W1624 (Or.inl (Ne.symm ne122))
  have F1654 : Fld Z h1624 b0 nm2 "impossible" "I" (.int (5 : Int32)) := F1606.other W1624 (Or.inl (Ne.symm ne10))
  have F1655 : Fld Z h1624 b0 nm2 "h" "I" (.int hm) := F1607.other W1624 (Or.inl (Ne.symm ne10))
  have F1656 : Fld Z h1624 b0 nm2 "lowOut" "I" (.int (f4_c41_b0_lowOut0_3 p4 hm cl0 cl1 cl2 cl3 ch0 ch1 ch2)) := F1608.other W1624 (Or.inl (Ne.symm ne10))
  have F1657 : Fld Z h1624 b0 nm2 "lowIn" nm3 (.ref b12nr1) := F1609.other W1624 (Or.inl (Ne.symm ne10))
  have F1658 : Fld Z h1624 b0 nm2 "high" nm3 (.ref b12nr2) := F1610.other W1624 (Or.inl (Ne.symm ne10))
  have F1659 : Fld Z h1624 b0 nm2 "nextLowIn" nm3 (.ref b12nr3) := F1611.other W1624 (Or.inl (Ne.symm ne10))
  have F1660 : Fld Z h1624 b0 nm2 "nextHigh" nm3 (.ref b12nr4) := F1612.other W1624 (Or.inl (Ne.symm ne10))
  have F1661 : Fld Z h1624 b12nr1 nm1 "runs" "I" (.int (f4_c41_b12nr1_runs0_1 p4 hm cl0 cl1 cl2 cl3 ch0 ch1 ch2)) := F1613.other W1624 (Or.inl (Ne.symm ne83))
  have F1662 : Fld Z h1624 b12nr1 nm1 "length" "I" (.int (f4_c41_b12nr1_length0_1 p4 hm cl0 cl1 cl2 cl3 ch0 ch1 ch2)) := F1614.other W1624 (Or.inl (Ne.symm ne83))
  have F1663 : Fld Z h1624 b12nr1 nm1 "lows" "I" (.int (f4_c41_b12nr1_lows0_1 p4 hm cl0 cl1 cl2 cl3 ch0 ch1 ch2)) := F1615.other W1624 (Or.inl (Ne.symm ne83))
  have F1664 : Fld Z h1624 b12nr2 nm1 "runs" "I" (.int (f4_c41_b12nr2_runs0_1 p4 hm cl0 cl1 cl2 ch0 ch1 ch2 ch3)) := F1616.other W1624 (Or.inl (Ne.symm ne96))
  have F1665 : Fld Z h1624 b12nr2 nm1 "length" "I" (.int (f4_c41_b12nr2_length0_1 p4 hm cl0 cl1 cl2 ch0 ch1 ch2 ch3)) := F1617.other W1624 (Or.inl (Ne.symm ne96))
  have F1666 : Fld Z h1624 b12nr2 nm1 "lows" "I" (.int (f4_c41_b12nr2_lows0_1 p4 hm cl0 cl1 cl2 ch0 ch1 ch2 ch3)) := F1618.other W1624 (Or.inl (Ne.symm ne96))
  have K1667 : Keep h0 h1624 [m1, m2, m3, m4, m5, m6, m7] := K1619.wr W1624 (Or.inl (List.mem_of_getElem? (i := 5) rfl))
  have Z1668 : n0 ≤ h1624.size := Nat.le_trans Z1620 (Keep.of_wr W1624).1
  refine Rt.aloadN (pc' := 132) X1624 hx (hb hby d4_131) rfl rfl rfl ?_
  refine Rt.getF (pc' := 135) (v := (.ref m7)) X1624 hx hZ hown (host := "") (Or.inl (hw _ (List.mem_of_getElem? (i := 32) rfl))) F1634 (hb hby d4_132) rfl ?_
  intro T1669 X1669
  refine Rt.iload (pc' := 137) X1669 hx (hb hby d4_135) rfl rfl ?_
  refine Rt.aload (pc' := 139) X1669 hx (hb hby d4_137) rfl rfl rfl ?_
  refine Rt.getFR (pc' := 142) (v := (.ref b12nr2)) X1669 hx hZ hown (hw _ (List.mem_of_getElem? (i := 101) rfl)) F1658 (hb hby d4_139) rfl ?_
  intro T1670 X1670
  refine Rt.getFR (pc' := 145) (v := (.int (f4_c41_b12nr2_lows0_1 p4 hm cl0 cl1 cl2 ch0 ch1 ch2 ch3))) X1670 hx hZ hown (hw _ (List.mem_of_getElem? (i := 100) rfl)) F1666 (hb hby d4_142) rfl ?_
  intro T1671 X1671
  refine Rt.iastoreL (pc' := 146) X1671 hx hZ F1640 (i := 3) (by decide) (by decide) (by decide) g_m7 (hb hby d4_145) rfl ?_
  intro T1672 h1672 X1672 v1672 W1672 F1672
  have F1673 : Exa Z h1672 a1 nm4 := F1625.wr W1672
  have F1674 : Fld Z h1672 a1 nm4 "impossible" "I" (.int (5 : Int32)) := F1626.other W1672 (Or.inl ne_a1_m7)
  have F1675 : Fld Z h1672 a1 nm4 "h" "I" (.int hm) := F1627.other W1672 (Or.inl ne_a1_m7)
  have F1676 : Fld Z h1672 a1 nm4 "lowOut" "[I" (.ref m1) := F1628.other W1672 (Or.inl ne_a1_m7)
  have F1677 : Fld Z h1672 a1 nm4 "lowIn" "[I" (.ref m2) := F1629.other W1672 (Or.inl ne_a1_m7)
  have F1678 : Fld Z h1672 a1 nm4 "lowInLength" "[I" (.ref m3) := F1630.other W1672 (Or.inl ne_a1_m7)
  have F1679 : Fld Z h1672 a1 nm4 "lowInLows" "[I" (.ref m4) := F1631.other W1672 (Or.inl ne_a1_m7)
  have F1680 : Fld Z h1672 a1 nm4 "high" "[I" (.ref m5) := F1632.other W1672 (Or.inl ne_a1_m7)
  have F1681 : Fld Z h1672 a1 nm4 "highLength" "[I" (.ref m6) := F1633.other W1672 (Or.inl ne_a1_m7)
  have F1682 : Fld Z h1672 a1 nm4 "highLows" "[I" (.ref m7) := F1634.other W1672 (Or.inl ne_a1_m7)
  have F1683 : IL Z h1672 m1 .int 4 := F1635.wr W1672
  have F1684 : IL Z h1672 m2 .int 4 := F1636.wr W1672
  have F1685 : IL Z h1672 m3 .int 4 := F1637.wr W1672
  have F1686 : IL Z h1672 m4 .int 4 := F1638.wr W1672
  have F1687 : IL Z h1672 m5 .int 4 := F1639.wr W1672
  have F1688 : IL Z h1672 m6 .int 4 := F1624.wr W1672
  have F1689 : IA Z h1672 a2 .boolean [(.int cl0), (.int cl1), (.int cl2), (.int cl3)] := F1641.other W1672 ne_a2_m7
  have F1690 : IA Z h1672 a3 .boolean [(.int ch0), (.int ch1), (.int ch2), (.int ch3)] := F1642.other W1672 ne_a3_m7
  have F1691 : Exa Z h1672 b0 nm2 := F1643.wr W1672
  have F1692 : Exa Z h1672 b12nr1 nm1 := F1644.wr W1672
  have F1693 : Exa Z h1672 b12nr2 nm1 := F1645.wr W1672
  have F1694 : Exa Z h1672 b12nr3 nm1 := F1646.wr W1672
  have F1695 : Exa Z h1672 b12nr4 nm1 := F1647.wr W1672
  have F1696 : Fld Z h1672 b12nr3 nm1 "runs" "I" (.int (f4_c41_b12nr3_runs0_1 p4 hm cl0 cl1 cl2 ch0 ch1)) := F1648.other W1672 (Or.inl (Ne.symm ne110))
  have F1697 : Fld Z h1672 b12nr3 nm1 "length" "I" (.int (f4_c41_b12nr3_length0_1 p4 hm cl0 cl1 cl2 ch0 ch1)) := F1649.other W1672 (Or.inl (Ne.symm ne110))
  have F1698 : Fld Z h1672 b12nr3 nm1 "lows" "I" (.int (f4_c41_b12nr3_lows0_1 p4 hm cl0 cl1 cl2 ch0 ch1)) := F1650.other W1672 (Or.inl (Ne.symm ne110))
  have F1699 : Fld Z h1672 b12nr4 nm1 "runs" "I" (.int (f4_c41_b12nr4_runs0_1 p4 hm cl0 cl1 ch0 ch1 ch2)) := F1651.other W1672 (Or.inl (Ne.symm ne123))
  have F1700 : Fld Z h1672 b12nr4 nm1 "length" "I" (.int (f4_c41_b12nr4_length0_1 p4 hm cl0 cl1 ch0 ch1 ch2)) := F1652.other W1672 (Or.inl (Ne.symm ne123))
  have F1701 : Fld Z h1672 b12nr4 nm1 "lows" "I" (.int (f4_c41_b12nr4_lows0_1 p4 hm cl0 cl1 ch0 ch1 ch2)) := F1653.other W1672 (Or.inl (Ne.symm ne123))
  have F1702 : Fld Z h1672 b0 nm2 "impossible" "I" (.int (5 : Int32)) := F1654.other W1672 (Or.inl (Ne.symm ne11))
  have F1703 : Fld Z h1672 b0 nm2 "h" "I" (.int hm) := F1655.other W1672 (Or.inl (Ne.symm ne11))
  have F1704 : Fld Z h1672 b0 nm2 "lowOut" "I" (.int (f4_c41_b0_lowOut0_3 p4 hm cl0 cl1 cl2 cl3 ch0 ch1 ch2)) := F1656.other W1672 (Or.inl (Ne.symm ne11))
  have F1705 : Fld Z h1672 b0 nm2 "lowIn" nm3 (.ref b12nr1) := F1657.other W1672 (Or.inl (Ne.symm ne11))
  have F1706 : Fld Z h1672 b0 nm2 "high" nm3 (.ref b12nr2) := F1658.other W1672 (Or.inl (Ne.symm ne11))
  have F1707 : Fld Z h1672 b0 nm2 "nextLowIn" nm3 (.ref b12nr3) := F1659.other W1672 (Or.inl (Ne.symm ne11))
  have F1708 : Fld Z h1672 b0 nm2 "nextHigh" nm3 (.ref b12nr4) := F1660.other W1672 (Or.inl (Ne.symm ne11))
  have F1709 : Fld Z h1672 b12nr1 nm1 "runs" "I" (.int (f4_c41_b12nr1_runs0_1 p4 hm cl0 cl1 cl2 cl3 ch0 ch1 ch2)) := F1661.other W1672 (Or.inl (Ne.symm ne84))
  have F1710 : Fld Z h1672 b12nr1 nm1 "length" "I" (.int (f4_c41_b12nr1_length0_1 p4 hm cl0 cl1 cl2 cl3 ch0 ch1 ch2)) := F1662.other W1672 (Or.inl (Ne.symm ne84))
  have F1711 : Fld Z h1672 b12nr1 nm1 "lows" "I" (.int (f4_c41_b12nr1_lows0_1 p4 hm cl0 cl1 cl2 cl3 ch0 ch1 ch2)) := F1663.other W1672 (Or.inl (Ne.symm ne84))
  have F1712 : Fld Z h1672 b12nr2 nm1 "runs" "I" (.int (f4_c41_b12nr2_runs0_1 p4 hm cl0 cl1 cl2 ch0 ch1 ch2 ch3)) := F1664.other W1672 (Or.inl (Ne.symm ne97))
  have F1713 : Fld Z h1672 b12nr2 nm1 "length" "I" (.int (f4_c41_b12nr2_length0_1 p4 hm cl0 cl1 cl2 ch0 ch1 ch2 ch3)) := F1665.other W1672 (Or.inl (Ne.symm ne97))
  have F1714 : Fld Z h1672 b12nr2 nm1 "lows" "I" (.int (f4_c41_b12nr2_lows0_1 p4 hm cl0 cl1 cl2 ch0 ch1 ch2 ch3)) := F1666.other W1672 (Or.inl (Ne.symm ne97))
  have K1715 : Keep h0 h1672 [m1, m2, m3, m4, m5, m6, m7] := K1667.wr W1672 (Or.inl (List.mem_of_getElem? (i := 6) rfl))
  have Z1716 : n0 ≤ h1672.size := Nat.le_trans Z1668 (Keep.of_wr W1672).1
  refine Rt.iinc (pc' := 149) (r := (4 : Int32)) (l' := #[.val (.ref a1), .val (.ref a2), .val (.ref a3), .val (.int p4), .val (.ref b0), .val (.int (4 : Int32))]) X1672 hx (hb hby d4_146) rfl (by decide) rfl rfl ?_
  refine Rt.goto (pc' := 20) X1672 hx (hb hby d4_149) (by decide) (by decide) ?_
  refine Rt.iload (pc' := 22) X1672 hx (hb hby d4_20) rfl rfl ?_
  refine Rt.aloadN (pc' := 23) X1672 hx (hb hby d4_22) rfl rfl rfl ?_
  refine Rt.getF (pc' := 26) (v := (.ref m1)) X1672 hx hZ hown (host := "") (Or.inl (hw _ (List.mem_of_getElem? (i := 20) rfl))) F1676 (hb hby d4_23) rfl ?_
  intro T1717 X1717
  refine Rt.arraylengthL (pc' := 27) X1717 hx hZ F1683 (v := (4 : Int32)) (by decide) (hb hby d4_26) rfl ?_
  refine Rt.icmpY (pc' := 152) X1717 hx (hb hby d4_27) (flt (by decide : ¬ ((4 : Int32) < (4 : Int32)))).2.1 (by decide) (by decide) ?_
  refine Rt.aload (pc' := 154) X1717 hx (hb hby d4_152) rfl rfl rfl ?_
  refine Rt.callV (pc' := 157) X1717 hx hZ (y := mt6) (yz := mt6) hown (hw _ (List.mem_of_getElem? (i := 102) rfl)) (hw _ (List.mem_of_getElem? (i := 84) rfl)) (notFace_of_selects (args := #[]) (mvT hZ (hw _ (List.mem_of_getElem? (i := 86) rfl)))) (hw _ (List.mem_of_getElem? (i := 86) rfl)) (hw _ (List.mem_of_getElem? (i := 85) rfl)) (hw _ (List.mem_of_getElem? (i := 41) rfl)) (hw _ (List.mem_of_getElem? (i := 87) rfl)) (by decide) F1691 (rm9 l Z a0 hw [] b0 (f4_c41_b0_lowOut0_3 p4 hm cl0 cl1 cl2 cl3 ch0 ch1 ch2) b12nr2 (f4_c41_b12nr2_runs0_1 p4 hm cl0 cl1 cl2 ch0 ch1 ch2 ch3) h1672 n0 F1704 F1706 F1712) (fun _ _ _ q => q.2.1) (W := 0) (by decide) (by decide) (by decide) (by decide) (argsL := []) (rest := []) (by rw [hml]; rfl) (lenOf pd_2 rfl) rfl rfl (Nat.le_of_eq rfl) (hb hby d4_154) rfl ?_
  rintro _ T1718 h1718 L1718 X1718 ⟨rfl, N1718, e1718⟩
  rw [e1718] at X1718
  show Rt _ _ _ _ _ _ _ (T1718.setTop (mkF m 157 #[.val (.ref a1), .val (.ref a2), .val (.ref a3), .val (.int p4), .val (.ref b0), .val (.int (4 : Int32))] [(.int (f9 (f4_c41_b0_lowOut0_3 p4 hm cl0 cl1 cl2 cl3 ch0 ch1 ch2) (f4_c41_b12nr2_runs0_1 p4 hm cl0 cl1 cl2 ch0 ch1 ch2 ch3)))]))
  exact Rt.retI X1718 hx hlk hret (hb hby d4_157) (by decide) (by decide) (fun L N => ⟨congrArg some (congrArg Value.int (by rw [f4])), N, K1715, F1683, F1684, F1685, F1686, F1687, F1688, F1672⟩)
theorem d14_0 : decode method_4_code 0 = .ok (.iload_n 0, 1) := by decide +kernel
theorem d14_1 : decode method_4_code 1 = .ok (.iload_n 1, 1) := by decide +kernel
theorem d14_2 : decode method_4_code 2 = .ok (.iushr, 1) := by decide +kernel
theorem d14_3 : decode method_4_code 3 = .ok (.iconst 1, 1) := by decide +kernel
theorem d14_4 : decode method_4_code 4 = .ok (.iand, 1) := by decide +kernel
theorem d14_5 : decode method_4_code 5 = .ok (.ifCond .eq 7, 3) := by decide +kernel
theorem d14_12 : decode method_4_code 12 = .ok (.iconst 0, 1) := by decide +kernel
theorem d14_13 : decode method_4_code 13 = .ok (.ireturn, 1) := by decide +kernel
theorem d14_8 : decode method_4_code 8 = .ok (.iconst 1, 1) := by decide +kernel
theorem d14_9 : decode method_4_code 9 = .ok (.goto 4, 3) := by decide +kernel
def f14 (p1 : Int32) (p2 : Int32) : Int32 := (if (((p1.toUInt32 >>> (p2 &&& 31).toUInt32).toInt32) &&& (1 : Int32)) = (0 : Int32) then (0 : Int32) else (1 : Int32))
def Q14 (p1 : Int32) (p2 : Int32) (h0 : Heap) (n0 : Nat) (v : Option Value) (h : Heap) (L : List Loc) : Prop := v = some (.int (f14 p1 p2)) ∧ Fr n0 L ∧ h = h0
def rmR14 : Room := { frames := 0, cells := 0, slots := 0, locals := 0 }
theorem ef_14 (m : MethodId) (p1 : Int32) (p2 : Int32) : entryFrame m #[(.int p1), (.int p2)] 2 = mkF m 0 #[.val (.int p1), .val (.int p2)] [] := by first | (simp [entryFrame, mkF, argsToLocals, Value.category]; done) | rfl
theorem pn_com_example_tightfold_tightfold_FocusFilteringFewestRunsPinLaw : plainName "com/example/tightfold/tightfold/FocusFilteringFewestRunsPinLaw" = true := by first | (simp [plainName, overriddenIn]; done) | decide +kernel
set_option maxRecDepth 65536 in
set_option maxHeartbeats 40000000 in
theorem rm14 (l : Launch) (Z : State) (a0 : Array Value) (hw : ∀ d ∈ tables_1, d.before a0 Z = true) (ws : List Jvm.Cond) (p1 : Int32) (p2 : Int32) (h0 : Heap) (n0 : Nat) :
    Mt l Z mt12 (Jvm.Cond.code mt12 method_4_code 2 (some .boolean) :: ws) rmR14 #[(.int p1), (.int p2)] h0 (Q14 p1 p2 h0 n0) := by
  refine Mt.of n0 (plainFor_of_name pn_com_example_tightfold_tightfold_FocusFilteringFewestRunsPinLaw) ?_
  intro p e s m below meth c T0 X0 hx hZ hby hml hown hret hlk hnm hs0
  have hown : s.vm.findClass "com/example/tightfold/tightfold/FocusFilteringFewestRunsPinLaw" = some m.cls := hown
  rw [ef_14]
  show Rt p e below s rmR14.cells rmR14.slots (Q14 p1 p2 h0 n0) (T0.setTop (mkF m 0 #[.val (.int p1), .val (.int p2)] []))
  refine Rt.iloadN (pc' := 1) X0 hx (hb hby d14_0) rfl rfl ?_
  refine Rt.iloadN (pc' := 2) X0 hx (hb hby d14_1) rfl rfl ?_
  refine Rt.iushr (pc' := 3) (r := ((p1.toUInt32 >>> (p2 &&& 31).toUInt32).toInt32)) X0 hx (hb hby d14_2) rfl rfl ?_
  refine Rt.iconst (pc' := 4) (v := (1 : Int32)) X0 hx (hb hby d14_3) rfl rfl ?_
  refine Rt.iand (pc' := 5) (r := (((p1.toUInt32 >>> (p2 &&& 31).toUInt32).toInt32) &&& (1 : Int32))) X0 hx (hb hby d14_4) rfl rfl ?_
  by_cases hc5_1 : (((p1.toUInt32 >>> (p2 &&& 31).toUInt32).toInt32) &&& (1 : Int32)) = (0 : Int32)
  · refine Rt.ifY (pc' := 12) X0 hx (hb hby d14_5) ((if0 _ _).trans (teq hc5_1).1) (by decide) (by decide) ?_
    refine Rt.iconst (pc' := 13) (v := (0 : Int32)) X0 hx (hb hby d14_12) rfl rfl ?_
    exact Rt.retZ (w := (0 : Int32)) X0 hx hlk hret (by simp) (hb hby d14_13) (by decide) (by decide) (by decide) (fun L N => ⟨congrArg some (congrArg Value.int (by rw [f14, if_pos hc5_1])), N, rfl⟩)
  · refine Rt.ifN (pc' := 8) X0 hx (hb hby d14_5) ((if0 _ _).trans (feq hc5_1).1) rfl ?_
    refine Rt.iconst (pc' := 9) (v := (1 : Int32)) X0 hx (hb hby d14_8) rfl rfl ?_
    refine Rt.goto (pc' := 13) X0 hx (hb hby d14_9) (by decide) (by decide) ?_
    exact Rt.retZ (w := (1 : Int32)) X0 hx hlk hret (by simp) (hb hby d14_13) (by decide) (by decide) (by decide) (fun L N => ⟨congrArg some (congrArg Value.int (by rw [f14, if_neg hc5_1])), N, rfl⟩)
theorem d18_0 : decode method_5_code 0 = .ok (.iconst 0, 1) := by decide +kernel
theorem d18_1 : decode method_5_code 1 = .ok (.istore_n 2, 1) := by decide +kernel
theorem d18_2 : decode method_5_code 2 = .ok (.iload_n 1, 1) := by decide +kernel
theorem d18_17 : decode method_5_code 17 = .ok (.iload_n 1, 1) := by decide +kernel
theorem d18_18 : decode method_5_code 18 = .ok (.iconst 1, 1) := by decide +kernel
theorem d18_33 : decode method_5_code 33 = .ok (.iload_n 1, 1) := by decide +kernel
theorem d18_34 : decode method_5_code 34 = .ok (.iconst 2, 1) := by decide +kernel
theorem d18_49 : decode method_5_code 49 = .ok (.iload_n 1, 1) := by decide +kernel
theorem d18_50 : decode method_5_code 50 = .ok (.iconst 3, 1) := by decide +kernel
theorem d18_65 : decode method_5_code 65 = .ok (.iload_n 2, 1) := by decide +kernel
theorem d18_66 : decode method_5_code 66 = .ok (.ireturn, 1) := by decide +kernel
theorem d18_51 : decode method_5_code 51 = .ok (.if_icmp .le 14, 3) := by decide +kernel
theorem d18_54 : decode method_5_code 54 = .ok (.iload_n 0, 1) := by decide +kernel
theorem d18_55 : decode method_5_code 55 = .ok (.iconst 3, 1) := by decide +kernel
theorem pd_8 : parseMethodDescriptor "(II)Z" = some ⟨[.int, .int], some .boolean⟩ := by decide +kernel
theorem d18_56 : decode method_5_code 56 = .ok (.invokestatic 36, 3) := by decide +kernel
theorem d18_59 : decode method_5_code 59 = .ok (.ifCond .eq 6, 3) := by decide +kernel
theorem d18_62 : decode method_5_code 62 = .ok (.iinc 2 1, 3) := by decide +kernel
theorem d18_35 : decode method_5_code 35 = .ok (.if_icmp .le 14, 3) := by decide +kernel
theorem d18_38 : decode method_5_code 38 = .ok (.iload_n 0, 1) := by decide +kernel
theorem d18_39 : decode method_5_code 39 = .ok (.iconst 2, 1) := by decide +kernel
theorem d18_40 : decode method_5_code 40 = .ok (.invokestatic 36, 3) := by decide +kernel
theorem d18_43 : decode method_5_code 43 = .ok (.ifCond .eq 6, 3) := by decide +kernel
theorem d18_46 : decode method_5_code 46 = .ok (.iinc 2 1, 3) := by decide +kernel
theorem d18_19 : decode method_5_code 19 = .ok (.if_icmp .le 14, 3) := by decide +kernel
theorem d18_22 : decode method_5_code 22 = .ok (.iload_n 0, 1) := by decide +kernel
theorem d18_23 : decode method_5_code 23 = .ok (.iconst 1, 1) := by decide +kernel
theorem d18_24 : decode method_5_code 24 = .ok (.invokestatic 36, 3) := by decide +kernel
theorem d18_27 : decode method_5_code 27 = .ok (.ifCond .eq 6, 3) := by decide +kernel
theorem d18_30 : decode method_5_code 30 = .ok (.iinc 2 1, 3) := by decide +kernel
theorem d18_3 : decode method_5_code 3 = .ok (.ifCond .le 14, 3) := by decide +kernel
theorem d18_6 : decode method_5_code 6 = .ok (.iload_n 0, 1) := by decide +kernel
theorem d18_7 : decode method_5_code 7 = .ok (.iconst 0, 1) := by decide +kernel
theorem d18_8 : decode method_5_code 8 = .ok (.invokestatic 36, 3) := by decide +kernel
theorem d18_11 : decode method_5_code 11 = .ok (.ifCond .eq 6, 3) := by decide +kernel
theorem d18_14 : decode method_5_code 14 = .ok (.iinc 2 1, 3) := by decide +kernel
def f18_j17_l2 (p1 : Int32) (p2 : Int32) : Int32 := (if (0 : Int32) < p2 then (if (f14 p1 (0 : Int32)) = (0 : Int32) then (0 : Int32) else (1 : Int32)) else (0 : Int32))
def f18_v30 (p1 : Int32) (p2 : Int32) : Int32 := ((f18_j17_l2 p1 p2) + (1 : Int32))
def f18_j33_l2 (p1 : Int32) (p2 : Int32) : Int32 := (if (1 : Int32) < p2 then (if (f14 p1 (1 : Int32)) = (0 : Int32) then (f18_j17_l2 p1 p2) else (f18_v30 p1 p2)) else (f18_j17_l2 p1 p2))
def f18_v46 (p1 : Int32) (p2 : Int32) : Int32 := ((f18_j33_l2 p1 p2) + (1 : Int32))
def f18_j49_l2 (p1 : Int32) (p2 : Int32) : Int32 := (if (2 : Int32) < p2 then (if (f14 p1 (2 : Int32)) = (0 : Int32) then (f18_j33_l2 p1 p2) else (f18_v46 p1 p2)) else (f18_j33_l2 p1 p2))
def f18_v62 (p1 : Int32) (p2 : Int32) : Int32 := ((f18_j49_l2 p1 p2) + (1 : Int32))
def f18_j65_l2 (p1 : Int32) (p2 : Int32) : Int32 := (if (3 : Int32) < p2 then (if (f14 p1 (3 : Int32)) = (0 : Int32) then (f18_j49_l2 p1 p2) else (f18_v62 p1 p2)) else (f18_j49_l2 p1 p2))
def f18 (p1 : Int32) (p2 : Int32) : Int32 := (f18_j65_l2 p1 p2)
def Q18 (p1 : Int32) (p2 : Int32) (h0 : Heap) (n0 : Nat) (v : Option Value) (h : Heap) (L : List Loc) : Prop := v = some (.int (f18 p1 p2)) ∧ Fr n0 L ∧ h = h0
def rmR18 : Room := { frames := 1, cells := 0, slots := 0, locals := 13 }
theorem ef_18 (m : MethodId) (p1 : Int32) (p2 : Int32) : entryFrame m #[(.int p1), (.int p2)] 3 = mkF m 0 #[.val (.int p1), .val (.int p2), .unset] [] := by first | (simp [entryFrame, mkF, argsToLocals, Value.category]; done) | rfl
set_option maxRecDepth 65536 in
set_option maxHeartbeats 40000000 in
theorem rm18 (l : Launch) (Z : State) (a0 : Array Value) (hw : ∀ d ∈ tables_1, d.before a0 Z = true) (ws : List Jvm.Cond) (p1 : Int32) (p2 : Int32) (h0 : Heap) (n0 : Nat) :
    Mt l Z mt13 (Jvm.Cond.code mt13 method_5_code 3 (some .int) :: ws) rmR18 #[(.int p1), (.int p2)] h0 (Q18 p1 p2 h0 n0) := by
  refine Mt.of n0 (plainFor_of_name pn_com_example_tightfold_tightfold_FocusFilteringFewestRunsPinLaw) ?_
  intro p e s m below meth c T0 X0 hx hZ hby hml hown hret hlk hnm hs0
  have hown : s.vm.findClass "com/example/tightfold/tightfold/FocusFilteringFewestRunsPinLaw" = some m.cls := hown
  rw [ef_18]
  show Rt p e below s rmR18.cells rmR18.slots (Q18 p1 p2 h0 n0) (T0.setTop (mkF m 0 #[.val (.int p1), .val (.int p2), .unset] []))
  refine Rt.iconst (pc' := 1) (v := (0 : Int32)) X0 hx (hb hby d18_0) rfl rfl ?_
  refine Rt.istoreN (pc' := 2) (v := (0 : Int32)) (l' := #[.val (.int p1), .val (.int p2), .val (.int (0 : Int32))]) X0 hx (hb hby d18_1) rfl rfl ?_
  refine Rt.iloadN (pc' := 3) X0 hx (hb hby d18_2) rfl rfl ?_
  have J3_1 : ∀ T1  , Sd p l e rmR18 s m #[(.int p1), (.int p2)] below meth c T1 n0 0 0 h0 → Rt p e below s rmR18.cells rmR18.slots (Q18 p1 p2 h0 n0) (T1.setTop (mkF m 17 #[.val (.int p1), .val (.int p2), .val (.int (f18_j17_l2 p1 p2))] [])) := by
    intro T1   X1 
    refine Rt.iloadN (pc' := 18) X1 hx (hb hby d18_17) rfl rfl ?_
    refine Rt.iconst (pc' := 19) (v := (1 : Int32)) X1 hx (hb hby d18_18) rfl rfl ?_
    have J19_2 : ∀ T2  , Sd p l e rmR18 s m #[(.int p1), (.int p2)] below meth c T2 n0 0 0 h0 → Rt p e below s rmR18.cells rmR18.slots (Q18 p1 p2 h0 n0) (T2.setTop (mkF m 33 #[.val (.int p1), .val (.int p2), .val (.int (f18_j33_l2 p1 p2))] [])) := by
      intro T2   X2 
      refine Rt.iloadN (pc' := 34) X2 hx (hb hby d18_33) rfl rfl ?_
      refine Rt.iconst (pc' := 35) (v := (2 : Int32)) X2 hx (hb hby d18_34) rfl rfl ?_
      have J35_3 : ∀ T3  , Sd p l e rmR18 s m #[(.int p1), (.int p2)] below meth c T3 n0 0 0 h0 → Rt p e below s rmR18.cells rmR18.slots (Q18 p1 p2 h0 n0) (T3.setTop (mkF m 49 #[.val (.int p1), .val (.int p2), .val (.int (f18_j49_l2 p1 p2))] [])) := by
        intro T3   X3 
        refine Rt.iloadN (pc' := 50) X3 hx (hb hby d18_49) rfl rfl ?_
        refine Rt.iconst (pc' := 51) (v := (3 : Int32)) X3 hx (hb hby d18_50) rfl rfl ?_
        have J51_4 : ∀ T4  , Sd p l e rmR18 s m #[(.int p1), (.int p2)] below meth c T4 n0 0 0 h0 → Rt p e below s rmR18.cells rmR18.slots (Q18 p1 p2 h0 n0) (T4.setTop (mkF m 65 #[.val (.int p1), .val (.int p2), .val (.int (f18_j65_l2 p1 p2))] [])) := by
          intro T4   X4 
          refine Rt.iloadN (pc' := 66) X4 hx (hb hby d18_65) rfl rfl ?_
          exact Rt.retI X4 hx hlk hret (hb hby d18_66) (by decide) (by decide) (fun L N => ⟨congrArg some (congrArg Value.int (by rw [f18])), N, rfl⟩)
        by_cases hc51_5 : (3 : Int32) < p2
        · refine Rt.icmpN (pc' := 54) X3 hx (hb hby d18_51) (tlt hc51_5).2.2.2 rfl ?_
          refine Rt.iloadN (pc' := 55) X3 hx (hb hby d18_54) rfl rfl ?_
          refine Rt.iconst (pc' := 56) (v := (3 : Int32)) X3 hx (hb hby d18_55) rfl rfl ?_
          refine Rt.callP (pc' := 59) (r := (.int (f14 p1 (3 : Int32)))) X3 hx hZ (y := mt12) hown (hw _ (List.mem_of_getElem? (i := 110) rfl)) (hw _ (List.mem_of_getElem? (i := 111) rfl)) (hw _ (List.mem_of_getElem? (i := 105) rfl)) (hw _ (List.mem_of_getElem? (i := 112) rfl)) (by decide) (rm14 l Z a0 hw [] p1 (3 : Int32) h0 n0) (W := 0) (by decide) (by decide) (by decide) (by decide) rfl rfl (argsL := [(.int p1), (.int (3 : Int32))]) (rest := []) (by rw [hml]; rfl) (lenOf pd_8 rfl) rfl rfl (Nat.le_of_eq rfl) (hb hby d18_56) rfl ?_
          intro T6 X6
          by_cases hc59_7 : (f14 p1 (3 : Int32)) = (0 : Int32)
          · refine Rt.ifY (pc' := 65) X6 hx (hb hby d18_59) ((if0 _ _).trans (teq hc59_7).1) (by decide) (by decide) ?_
            have q := J51_4 T6   X6
            rw [show (f18_j65_l2 p1 p2) = (f18_j49_l2 p1 p2) from by rw [f18_j65_l2, if_pos hc51_5, if_pos hc59_7]] at q
            exact q
          · refine Rt.ifN (pc' := 62) X6 hx (hb hby d18_59) ((if0 _ _).trans (feq hc59_7).1) rfl ?_
            refine Rt.iinc (pc' := 65) (r := (f18_v62 p1 p2)) (l' := #[.val (.int p1), .val (.int p2), .val (.int (f18_v62 p1 p2))]) X6 hx (hb hby d18_62) rfl rfl rfl rfl ?_
            have q := J51_4 T6   X6
            rw [show (f18_j65_l2 p1 p2) = (f18_v62 p1 p2) from by rw [f18_j65_l2, if_pos hc51_5, if_neg hc59_7]] at q
            exact q
        · refine Rt.icmpY (pc' := 65) X3 hx (hb hby d18_51) (flt hc51_5).2.2.2 (by decide) (by decide) ?_
          have q := J51_4 T3   X3
          rw [show (f18_j65_l2 p1 p2) = (f18_j49_l2 p1 p2) from by rw [f18_j65_l2, if_neg hc51_5]] at q
          exact q
      by_cases hc35_8 : (2 : Int32) < p2
      · refine Rt.icmpN (pc' := 38) X2 hx (hb hby d18_35) (tlt hc35_8).2.2.2 rfl ?_
        refine Rt.iloadN (pc' := 39) X2 hx (hb hby d18_38) rfl rfl ?_
        refine Rt.iconst (pc' := 40) (v := (2 : Int32)) X2 hx (hb hby d18_39) rfl rfl ?_
        refine Rt.callP (pc' := 43) (r := (.int (f14 p1 (2 : Int32)))) X2 hx hZ (y := mt12) hown (hw _ (List.mem_of_getElem? (i := 110) rfl)) (hw _ (List.mem_of_getElem? (i := 111) rfl)) (hw _ (List.mem_of_getElem? (i := 105) rfl)) (hw _ (List.mem_of_getElem? (i := 112) rfl)) (by decide) (rm14 l Z a0 hw [] p1 (2 : Int32) h0 n0) (W := 0) (by decide) (by decide) (by decide) (by decide) rfl rfl (argsL := [(.int p1), (.int (2 : Int32))]) (rest := []) (by rw [hml]; rfl) (lenOf pd_8 rfl) rfl rfl (Nat.le_of_eq rfl) (hb hby d18_40) rfl ?_
        intro T9 X9
        by_cases hc43_10 : (f14 p1 (2 : Int32)) = (0 : Int32)
        · refine Rt.ifY (pc' := 49) X9 hx (hb hby d18_43) ((if0 _ _).trans (teq hc43_10).1) (by decide) (by decide) ?_
          have q := J35_3 T9   X9
          rw [show (f18_j49_l2 p1 p2) = (f18_j33_l2 p1 p2) from by rw [f18_j49_l2, if_pos hc35_8, if_pos hc43_10]] at q
          exact q
        · refine Rt.ifN (pc' := 46) X9 hx (hb hby d18_43) ((if0 _ _).trans (feq hc43_10).1) rfl ?_
          refine Rt.iinc (pc' := 49) (r := (f18_v46 p1 p2)) (l' := #[.val (.int p1), .val (.int p2), .val (.int (f18_v46 p1 p2))]) X9 hx (hb hby d18_46) rfl rfl rfl rfl ?_
          have q := J35_3 T9   X9
          rw [show (f18_j49_l2 p1 p2) = (f18_v46 p1 p2) from by rw [f18_j49_l2, if_pos hc35_8, if_neg hc43_10]] at q
          exact q
      · refine Rt.icmpY (pc' := 49) X2 hx (hb hby d18_35) (flt hc35_8).2.2.2 (by decide) (by decide) ?_
        have q := J35_3 T2   X2
        rw [show (f18_j49_l2 p1 p2) = (f18_j33_l2 p1 p2) from by rw [f18_j49_l2, if_neg hc35_8]] at q
        exact q
    by_cases hc19_11 : (1 : Int32) < p2
    · refine Rt.icmpN (pc' := 22) X1 hx (hb hby d18_19) (tlt hc19_11).2.2.2 rfl ?_
      refine Rt.iloadN (pc' := 23) X1 hx (hb hby d18_22) rfl rfl ?_
      refine Rt.iconst (pc' := 24) (v := (1 : Int32)) X1 hx (hb hby d18_23) rfl rfl ?_
      refine Rt.callP (pc' := 27) (r := (.int (f14 p1 (1 : Int32)))) X1 hx hZ (y := mt12) hown (hw _ (List.mem_of_getElem? (i := 110) rfl)) (hw _ (List.mem_of_getElem? (i := 111) rfl)) (hw _ (List.mem_of_getElem? (i := 105) rfl)) (hw _ (List.mem_of_getElem? (i := 112) rfl)) (by decide) (rm14 l Z a0 hw [] p1 (1 : Int32) h0 n0) (W := 0) (by decide) (by decide) (by decide) (by decide) rfl rfl (argsL := [(.int p1), (.int (1 : Int32))]) (rest := []) (by rw [hml]; rfl) (lenOf pd_8 rfl) rfl rfl (Nat.le_of_eq rfl) (hb hby d18_24) rfl ?_
      intro T12 X12
      by_cases hc27_13 : (f14 p1 (1 : Int32)) = (0 : Int32)
      · refine Rt.ifY (pc' := 33) X12 hx (hb hby d18_27) ((if0 _ _).trans (teq hc27_13).1) (by decide) (by decide) ?_
        have q := J19_2 T12   X12
        rw [show (f18_j33_l2 p1 p2) = (f18_j17_l2 p1 p2) from by rw [f18_j33_l2, if_pos hc19_11, if_pos hc27_13]] at q
        exact q
      · refine Rt.ifN (pc' := 30) X12 hx (hb hby d18_27) ((if0 _ _).trans (feq hc27_13).1) rfl ?_
        refine Rt.iinc (pc' := 33) (r := (f18_v30 p1 p2)) (l' := #[.val (.int p1), .val (.int p2), .val (.int (f18_v30 p1 p2))]) X12 hx (hb hby d18_30) rfl rfl rfl rfl ?_
        have q := J19_2 T12   X12
        rw [show (f18_j33_l2 p1 p2) = (f18_v30 p1 p2) from by rw [f18_j33_l2, if_pos hc19_11, if_neg hc27_13]] at q
        exact q
    · refine Rt.icmpY (pc' := 33) X1 hx (hb hby d18_19) (flt hc19_11).2.2.2 (by decide) (by decide) ?_
      have q := J19_2 T1   X1
      rw [show (f18_j33_l2 p1 p2) = (f18_j17_l2 p1 p2) from by rw [f18_j33_l2, if_neg hc19_11]] at q
      exact q
  by_cases hc3_14 : (0 : Int32) < p2
  · refine Rt.ifN (pc' := 6) X0 hx (hb hby d18_3) ((if0 _ _).trans (tlt hc3_14).2.2.2) rfl ?_
    refine Rt.iloadN (pc' := 7) X0 hx (hb hby d18_6) rfl rfl ?_
    refine Rt.iconst (pc' := 8) (v := (0 : Int32)) X0 hx (hb hby d18_7) rfl rfl ?_
    refine Rt.callP (pc' := 11) (r := (.int (f14 p1 (0 : Int32)))) X0 hx hZ (y := mt12) hown (hw _ (List.mem_of_getElem? (i := 110) rfl)) (hw _ (List.mem_of_getElem? (i := 111) rfl)) (hw _ (List.mem_of_getElem? (i := 105) rfl)) (hw _ (List.mem_of_getElem? (i := 112) rfl)) (by decide) (rm14 l Z a0 hw [] p1 (0 : Int32) h0 n0) (W := 0) (by decide) (by decide) (by decide) (by decide) rfl rfl (argsL := [(.int p1), (.int (0 : Int32))]) (rest := []) (by rw [hml]; rfl) (lenOf pd_8 rfl) rfl rfl (Nat.le_of_eq rfl) (hb hby d18_8) rfl ?_
    intro T15 X15
    by_cases hc11_16 : (f14 p1 (0 : Int32)) = (0 : Int32)
    · refine Rt.ifY (pc' := 17) X15 hx (hb hby d18_11) ((if0 _ _).trans (teq hc11_16).1) (by decide) (by decide) ?_
      have q := J3_1 T15   X15
      rw [show (f18_j17_l2 p1 p2) = (0 : Int32) from by rw [f18_j17_l2, if_pos hc3_14, if_pos hc11_16]] at q
      exact q
    · refine Rt.ifN (pc' := 14) X15 hx (hb hby d18_11) ((if0 _ _).trans (feq hc11_16).1) rfl ?_
      refine Rt.iinc (pc' := 17) (r := (1 : Int32)) (l' := #[.val (.int p1), .val (.int p2), .val (.int (1 : Int32))]) X15 hx (hb hby d18_14) rfl (by decide) rfl rfl ?_
      have q := J3_1 T15   X15
      rw [show (f18_j17_l2 p1 p2) = (1 : Int32) from by rw [f18_j17_l2, if_pos hc3_14, if_neg hc11_16]] at q
      exact q
  · refine Rt.ifY (pc' := 17) X0 hx (hb hby d18_3) ((if0 _ _).trans (flt hc3_14).2.2.2) (by decide) (by decide) ?_
    have q := J3_1 T0   X0
    rw [show (f18_j17_l2 p1 p2) = (0 : Int32) from by rw [f18_j17_l2, if_neg hc3_14]] at q
    exact q
theorem d17_0 : decode method_6_code 0 = .ok (.iload_n 2, 1) := by decide +kernel
theorem d17_1 : decode method_6_code 1 = .ok (.iload_n 1, 1) := by decide +kernel
theorem d17_2 : decode method_6_code 2 = .ok (.isub, 1) := by decide +kernel
theorem d17_3 : decode method_6_code 3 = .ok (.iconst 1, 1) := by decide +kernel
theorem d17_4 : decode method_6_code 4 = .ok (.iadd, 1) := by decide +kernel
theorem d17_5 : decode method_6_code 5 = .ok (.iload_n 3, 1) := by decide +kernel
theorem d17_6 : decode method_6_code 6 = .ok (.if_icmp .le 5, 3) := by decide +kernel
theorem d17_9 : decode method_6_code 9 = .ok (.iconst 0, 1) := by decide +kernel
theorem d17_10 : decode method_6_code 10 = .ok (.ireturn, 1) := by decide +kernel
theorem d17_11 : decode method_6_code 11 = .ok (.iload_n 1, 1) := by decide +kernel
theorem d17_12 : decode method_6_code 12 = .ok (.iload_n 2, 1) := by decide +kernel
theorem d17_13 : decode method_6_code 13 = .ok (.if_icmp .ne 5, 3) := by decide +kernel
theorem d17_16 : decode method_6_code 16 = .ok (.iconst 1, 1) := by decide +kernel
theorem d17_17 : decode method_6_code 17 = .ok (.ireturn, 1) := by decide +kernel
theorem d17_18 : decode method_6_code 18 = .ok (.iload_n 2, 1) := by decide +kernel
theorem d17_19 : decode method_6_code 19 = .ok (.iload_n 1, 1) := by decide +kernel
theorem d17_20 : decode method_6_code 20 = .ok (.isub, 1) := by decide +kernel
theorem d17_21 : decode method_6_code 21 = .ok (.iconst 1, 1) := by decide +kernel
theorem d17_22 : decode method_6_code 22 = .ok (.isub, 1) := by decide +kernel
theorem d17_23 : decode method_6_code 23 = .ok (.iload_n 0, 1) := by decide +kernel
theorem d17_24 : decode method_6_code 24 = .ok (.iload_n 2, 1) := by decide +kernel
theorem d17_25 : decode method_6_code 25 = .ok (.invokestatic 40, 3) := by decide +kernel
theorem d17_28 : decode method_6_code 28 = .ok (.iload_n 0, 1) := by decide +kernel
theorem d17_29 : decode method_6_code 29 = .ok (.iload_n 1, 1) := by decide +kernel
theorem d17_30 : decode method_6_code 30 = .ok (.iconst 1, 1) := by decide +kernel
theorem d17_31 : decode method_6_code 31 = .ok (.iadd, 1) := by decide +kernel
theorem d17_32 : decode method_6_code 32 = .ok (.invokestatic 40, 3) := by decide +kernel
theorem d17_35 : decode method_6_code 35 = .ok (.isub, 1) := by decide +kernel
theorem d17_36 : decode method_6_code 36 = .ok (.isub, 1) := by decide +kernel
theorem d17_37 : decode method_6_code 37 = .ok (.istore 5, 2) := by decide +kernel
theorem d17_39 : decode method_6_code 39 = .ok (.iload 5, 2) := by decide +kernel
theorem d17_41 : decode method_6_code 41 = .ok (.iload 4, 2) := by decide +kernel
theorem d17_43 : decode method_6_code 43 = .ok (.if_icmp .gt 7, 3) := by decide +kernel
theorem d17_50 : decode method_6_code 50 = .ok (.iconst 0, 1) := by decide +kernel
theorem d17_51 : decode method_6_code 51 = .ok (.ireturn, 1) := by decide +kernel
theorem d17_46 : decode method_6_code 46 = .ok (.iconst 1, 1) := by decide +kernel
theorem d17_47 : decode method_6_code 47 = .ok (.goto 4, 3) := by decide +kernel
def f17_a32_1 (p2 : Int32) : Int32 := (p2 + (1 : Int32))
def f17_v37 (p1 : Int32) (p2 : Int32) (p3 : Int32) : Int32 := (((p3 - p2) - (1 : Int32)) - ((f18 p1 p3) - (f18 p1 (f17_a32_1 p2))))
def f17 (p1 : Int32) (p2 : Int32) (p3 : Int32) (p4 : Int32) (p5 : Int32) : Int32 := (if p4 < ((p3 - p2) + (1 : Int32)) then (0 : Int32) else (if p2 = p3 then (1 : Int32) else (if p5 < (f17_v37 p1 p2 p3) then (0 : Int32) else (1 : Int32))))
def Q17 (p1 : Int32) (p2 : Int32) (p3 : Int32) (p4 : Int32) (p5 : Int32) (h0 : Heap) (n0 : Nat) (v : Option Value) (h : Heap) (L : List Loc) : Prop := v = some (.int (f17 p1 p2 p3 p4 p5)) ∧ Fr n0 L ∧ h = h0
def rmR17 : Room := { frames := 2, cells := 0, slots := 0, locals := 29 }
theorem ef_17 (m : MethodId) (p1 : Int32) (p2 : Int32) (p3 : Int32) (p4 : Int32) (p5 : Int32) : entryFrame m #[(.int p1), (.int p2), (.int p3), (.int p4), (.int p5)] 6 = mkF m 0 #[.val (.int p1), .val (.int p2), .val (.int p3), .val (.int p4), .val (.int p5), .unset] [] := by first | (simp [entryFrame, mkF, argsToLocals, Value.category]; done) | rfl
set_option maxRecDepth 65536 in
set_option maxHeartbeats 40000000 in
theorem rm17 (l : Launch) (Z : State) (a0 : Array Value) (hw : ∀ d ∈ tables_1, d.before a0 Z = true) (ws : List Jvm.Cond) (p1 : Int32) (p2 : Int32) (p3 : Int32) (p4 : Int32) (p5 : Int32) (h0 : Heap) (n0 : Nat) :
    Mt l Z mt14 (Jvm.Cond.code mt14 method_6_code 6 (some .boolean) :: ws) rmR17 #[(.int p1), (.int p2), (.int p3), (.int p4), (.int p5)] h0 (Q17 p1 p2 p3 p4 p5 h0 n0) := by
  refine Mt.of n0 (plainFor_of_name pn_com_example_tightfold_tightfold_FocusFilteringFewestRunsPinLaw) ?_
  intro p e s m below meth c T0 X0 hx hZ hby hml hown hret hlk hnm hs0
  have hown : s.vm.findClass "com/example/tightfold/tightfold/FocusFilteringFewestRunsPinLaw" = some m.cls := hown
  rw [ef_17]
  show Rt p e below s rmR17.cells rmR17.slots (Q17 p1 p2 p3 p4 p5 h0 n0) (T0.setTop (mkF m 0 #[.val (.int p1), .val (.int p2), .val (.int p3), .val (.int p4), .val (.int p5), .unset] []))
  refine Rt.iloadN (pc' := 1) X0 hx (hb hby d17_0) rfl rfl ?_
  refine Rt.iloadN (pc' := 2) X0 hx (hb hby d17_1) rfl rfl ?_
  refine Rt.isub (pc' := 3) (r := (p3 - p2)) X0 hx (hb hby d17_2) rfl rfl ?_
  refine Rt.iconst (pc' := 4) (v := (1 : Int32)) X0 hx (hb hby d17_3) rfl rfl ?_
  refine Rt.iadd (pc' := 5) (r := ((p3 - p2) + (1 : Int32))) X0 hx (hb hby d17_4) rfl rfl ?_
  refine Rt.iloadN (pc' := 6) X0 hx (hb hby d17_5) rfl rfl ?_
  by_cases hc6_1 : p4 < ((p3 - p2) + (1 : Int32))
  · refine Rt.icmpN (pc' := 9) X0 hx (hb hby d17_6) (tlt hc6_1).2.2.2 rfl ?_
    refine Rt.iconst (pc' := 10) (v := (0 : Int32)) X0 hx (hb hby d17_9) rfl rfl ?_
    exact Rt.retZ (w := (0 : Int32)) X0 hx hlk hret (by simp) (hb hby d17_10) (by decide) (by decide) (by decide) (fun L N => ⟨congrArg some (congrArg Value.int (by rw [f17, if_pos hc6_1])), N, rfl⟩)
  · refine Rt.icmpY (pc' := 11) X0 hx (hb hby d17_6) (flt hc6_1).2.2.2 (by decide) (by decide) ?_
    refine Rt.iloadN (pc' := 12) X0 hx (hb hby d17_11) rfl rfl ?_
    refine Rt.iloadN (pc' := 13) X0 hx (hb hby d17_12) rfl rfl ?_
    by_cases hc13_2 : p2 = p3
    · refine Rt.icmpN (pc' := 16) X0 hx (hb hby d17_13) (teq hc13_2).2 rfl ?_
      refine Rt.iconst (pc' := 17) (v := (1 : Int32)) X0 hx (hb hby d17_16) rfl rfl ?_
      exact Rt.retZ (w := (1 : Int32)) X0 hx hlk hret (by simp) (hb hby d17_17) (by decide) (by decide) (by decide) (fun L N => ⟨congrArg some (congrArg Value.int (by rw [f17, if_neg hc6_1, if_pos hc13_2])), N, rfl⟩)
    · refine Rt.icmpY (pc' := 18) X0 hx (hb hby d17_13) (feq hc13_2).2 (by decide) (by decide) ?_
      refine Rt.iloadN (pc' := 19) X0 hx (hb hby d17_18) rfl rfl ?_
      refine Rt.iloadN (pc' := 20) X0 hx (hb hby d17_19) rfl rfl ?_
      refine Rt.isub (pc' := 21) (r := (p3 - p2)) X0 hx (hb hby d17_20) rfl rfl ?_
      refine Rt.iconst (pc' := 22) (v := (1 : Int32)) X0 hx (hb hby d17_21) rfl rfl ?_
      refine Rt.isub (pc' := 23) (r := ((p3 - p2) - (1 : Int32))) X0 hx (hb hby d17_22) rfl rfl ?_
      refine Rt.iloadN (pc' := 24) X0 hx (hb hby d17_23) rfl rfl ?_
      refine Rt.iloadN (pc' := 25) X0 hx (hb hby d17_24) rfl rfl ?_
      refine Rt.callP (pc' := 28) (r := (.int (f18 p1 p3))) X0 hx hZ (y := mt13) hown (hw _ (List.mem_of_getElem? (i := 127) rfl)) (hw _ (List.mem_of_getElem? (i := 128) rfl)) (hw _ (List.mem_of_getElem? (i := 105) rfl)) (hw _ (List.mem_of_getElem? (i := 129) rfl)) (by decide) (rm18 l Z a0 hw [] p1 p3 h0 n0) (W := 1) (by decide) (by decide) (by decide) (by decide) rfl rfl (argsL := [(.int p1), (.int p3)]) (rest := [(.int ((p3 - p2) - (1 : Int32)))]) (by rw [hml]; rfl) (lenOf pd_0 rfl) rfl rfl (Nat.le_of_eq rfl) (hb hby d17_25) rfl ?_
      intro T3 X3
      refine Rt.iloadN (pc' := 29) X3 hx (hb hby d17_28) rfl rfl ?_
      refine Rt.iloadN (pc' := 30) X3 hx (hb hby d17_29) rfl rfl ?_
      refine Rt.iconst (pc' := 31) (v := (1 : Int32)) X3 hx (hb hby d17_30) rfl rfl ?_
      refine Rt.iadd (pc' := 32) (r := (p2 + (1 : Int32))) X3 hx (hb hby d17_31) rfl rfl ?_
      refine Rt.callP (pc' := 35) (r := (.int (f18 p1 (f17_a32_1 p2)))) X3 hx hZ (y := mt13) hown (hw _ (List.mem_of_getElem? (i := 127) rfl)) (hw _ (List.mem_of_getElem? (i := 128) rfl)) (hw _ (List.mem_of_getElem? (i := 105) rfl)) (hw _ (List.mem_of_getElem? (i := 129) rfl)) (by decide) (rm18 l Z a0 hw [] p1 (f17_a32_1 p2) h0 n0) (W := 2) (by decide) (by decide) (by decide) (by decide) rfl rfl (argsL := [(.int p1), (.int (f17_a32_1 p2))]) (rest := [(.int (f18 p1 p3)), (.int ((p3 - p2) - (1 : Int32)))]) (by rw [hml]; rfl) (lenOf pd_0 rfl) rfl rfl (Nat.le_of_eq rfl) (hb hby d17_32) rfl ?_
      intro T4 X4
      refine Rt.isub (pc' := 36) (r := ((f18 p1 p3) - (f18 p1 (f17_a32_1 p2)))) X4 hx (hb hby d17_35) rfl rfl ?_
      refine Rt.isub (pc' := 37) (r := (((p3 - p2) - (1 : Int32)) - ((f18 p1 p3) - (f18 p1 (f17_a32_1 p2))))) X4 hx (hb hby d17_36) rfl rfl ?_
      refine Rt.istore (pc' := 39) (v := (f17_v37 p1 p2 p3)) (l' := #[.val (.int p1), .val (.int p2), .val (.int p3), .val (.int p4), .val (.int p5), .val (.int (f17_v37 p1 p2 p3))]) X4 hx (hb hby d17_37) rfl rfl ?_
      refine Rt.iload (pc' := 41) X4 hx (hb hby d17_39) rfl rfl ?_
      refine Rt.iload (pc' := 43) X4 hx (hb hby d17_41) rfl rfl ?_
      by_cases hc43_5 : p5 < (f17_v37 p1 p2 p3)
      · refine Rt.icmpY (pc' := 50) X4 hx (hb hby d17_43) (tlt hc43_5).2.2.1 (by decide) (by decide) ?_
        refine Rt.iconst (pc' := 51) (v := (0 : Int32)) X4 hx (hb hby d17_50) rfl rfl ?_
        exact Rt.retZ (w := (0 : Int32)) X4 hx hlk hret (by simp) (hb hby d17_51) (by decide) (by decide) (by decide) (fun L N => ⟨congrArg some (congrArg Value.int (by rw [f17, if_neg hc6_1, if_neg hc13_2, if_pos hc43_5])), N, rfl⟩)
      · refine Rt.icmpN (pc' := 46) X4 hx (hb hby d17_43) (flt hc43_5).2.2.1 rfl ?_
        refine Rt.iconst (pc' := 47) (v := (1 : Int32)) X4 hx (hb hby d17_46) rfl rfl ?_
        refine Rt.goto (pc' := 51) X4 hx (hb hby d17_47) (by decide) (by decide) ?_
        exact Rt.retZ (w := (1 : Int32)) X4 hx hlk hret (by simp) (hb hby d17_51) (by decide) (by decide) (by decide) (fun L N => ⟨congrArg some (congrArg Value.int (by rw [f17, if_neg hc6_1, if_neg hc13_2, if_neg hc43_5])), N, rfl⟩)
theorem d16_0 : decode method_7_code 0 = .ok (.iload_n 0, 1) := by decide +kernel
theorem d16_1 : decode method_7_code 1 = .ok (.iload_n 1, 1) := by decide +kernel
theorem d16_2 : decode method_7_code 2 = .ok (.invokestatic 36, 3) := by decide +kernel
theorem d16_5 : decode method_7_code 5 = .ok (.ifCond .eq 20, 3) := by decide +kernel
theorem d16_25 : decode method_7_code 25 = .ok (.bipush 99, 2) := by decide +kernel
theorem d16_27 : decode method_7_code 27 = .ok (.ireturn, 1) := by decide +kernel
theorem d16_8 : decode method_7_code 8 = .ok (.iload_n 0, 1) := by decide +kernel
theorem d16_9 : decode method_7_code 9 = .ok (.iload_n 1, 1) := by decide +kernel
theorem d16_10 : decode method_7_code 10 = .ok (.iload_n 2, 1) := by decide +kernel
theorem d16_11 : decode method_7_code 11 = .ok (.iload 4, 2) := by decide +kernel
theorem d16_13 : decode method_7_code 13 = .ok (.iload 5, 2) := by decide +kernel
theorem pd_9 : parseMethodDescriptor "(IIIII)Z" = some ⟨[.int, .int, .int, .int, .int], some .boolean⟩ := by decide +kernel
theorem d16_15 : decode method_7_code 15 = .ok (.invokestatic 43, 3) := by decide +kernel
theorem d16_18 : decode method_7_code 18 = .ok (.ifCond .eq 7, 3) := by decide +kernel
theorem d16_21 : decode method_7_code 21 = .ok (.iload_n 3, 1) := by decide +kernel
theorem d16_22 : decode method_7_code 22 = .ok (.iconst 1, 1) := by decide +kernel
theorem d16_23 : decode method_7_code 23 = .ok (.iadd, 1) := by decide +kernel
theorem d16_24 : decode method_7_code 24 = .ok (.ireturn, 1) := by decide +kernel
def f16 (p1 : Int32) (p2 : Int32) (p3 : Int32) (p4 : Int32) (p5 : Int32) (p6 : Int32) : Int32 := (if (f14 p1 p2) = (0 : Int32) then (99 : Int32) else (if (f17 p1 p2 p3 p5 p6) = (0 : Int32) then (99 : Int32) else (p4 + (1 : Int32))))
def Q16 (p1 : Int32) (p2 : Int32) (p3 : Int32) (p4 : Int32) (p5 : Int32) (p6 : Int32) (h0 : Heap) (n0 : Nat) (v : Option Value) (h : Heap) (L : List Loc) : Prop := v = some (.int (f16 p1 p2 p3 p4 p5 p6)) ∧ Fr n0 L ∧ h = h0
def rmR16 : Room := { frames := 3, cells := 0, slots := 0, locals := 46 }
theorem ef_16 (m : MethodId) (p1 : Int32) (p2 : Int32) (p3 : Int32) (p4 : Int32) (p5 : Int32) (p6 : Int32) : entryFrame m #[(.int p1), (.int p2), (.int p3), (.int p4), (.int p5), (.int p6)] 6 = mkF m 0 #[.val (.int p1), .val (.int p2), .val (.int p3), .val (.int p4), .val (.int p5), .val (.int p6)] [] := by first | (simp [entryFrame, mkF, argsToLocals, Value.category]; done) | rfl
set_option maxRecDepth 65536 in
set_option maxHeartbeats 40000000 in
theorem rm16 (l : Launch) (Z : State) (a0 : Array Value) (hw : ∀ d ∈ tables_1, d.before a0 Z = true) (ws : List Jvm.Cond) (p1 : Int32) (p2 : Int32) (p3 : Int32) (p4 : Int32) (p5 : Int32) (p6 : Int32) (h0 : Heap) (n0 : Nat) :
    Mt l Z mt15 (Jvm.Cond.code mt15 method_7_code 6 (some .int) :: ws) rmR16 #[(.int p1), (.int p2), (.int p3), (.int p4), (.int p5), (.int p6)] h0 (Q16 p1 p2 p3 p4 p5 p6 h0 n0) := by
  refine Mt.of n0 (plainFor_of_name pn_com_example_tightfold_tightfold_FocusFilteringFewestRunsPinLaw) ?_
  intro p e s m below meth c T0 X0 hx hZ hby hml hown hret hlk hnm hs0
  have hown : s.vm.findClass "com/example/tightfold/tightfold/FocusFilteringFewestRunsPinLaw" = some m.cls := hown
  rw [ef_16]
  show Rt p e below s rmR16.cells rmR16.slots (Q16 p1 p2 p3 p4 p5 p6 h0 n0) (T0.setTop (mkF m 0 #[.val (.int p1), .val (.int p2), .val (.int p3), .val (.int p4), .val (.int p5), .val (.int p6)] []))
  refine Rt.iloadN (pc' := 1) X0 hx (hb hby d16_0) rfl rfl ?_
  refine Rt.iloadN (pc' := 2) X0 hx (hb hby d16_1) rfl rfl ?_
  refine Rt.callP (pc' := 5) (r := (.int (f14 p1 p2))) X0 hx hZ (y := mt12) hown (hw _ (List.mem_of_getElem? (i := 110) rfl)) (hw _ (List.mem_of_getElem? (i := 111) rfl)) (hw _ (List.mem_of_getElem? (i := 105) rfl)) (hw _ (List.mem_of_getElem? (i := 112) rfl)) (by decide) (rm14 l Z a0 hw [] p1 p2 h0 n0) (W := 0) (by decide) (by decide) (by decide) (by decide) rfl rfl (argsL := [(.int p1), (.int p2)]) (rest := []) (by rw [hml]; rfl) (lenOf pd_8 rfl) rfl rfl (Nat.le_of_eq rfl) (hb hby d16_2) rfl ?_
  intro T1 X1
  by_cases hc5_2 : (f14 p1 p2) = (0 : Int32)
  · refine Rt.ifY (pc' := 25) X1 hx (hb hby d16_5) ((if0 _ _).trans (teq hc5_2).1) (by decide) (by decide) ?_
    refine Rt.bipush (pc' := 27) (v := (99 : Int32)) X1 hx (hb hby d16_25) rfl rfl ?_
    exact Rt.retI X1 hx hlk hret (hb hby d16_27) (by decide) (by decide) (fun L N => ⟨congrArg some (congrArg Value.int (by rw [f16, if_pos hc5_2])), N, rfl⟩)
  · refine Rt.ifN (pc' := 8) X1 hx (hb hby d16_5) ((if0 _ _).trans (feq hc5_2).1) rfl ?_
    refine Rt.iloadN (pc' := 9) X1 hx (hb hby d16_8) rfl rfl ?_
    refine Rt.iloadN (pc' := 10) X1 hx (hb hby d16_9) rfl rfl ?_
    refine Rt.iloadN (pc' := 11) X1 hx (hb hby d16_10) rfl rfl ?_
    refine Rt.iload (pc' := 13) X1 hx (hb hby d16_11) rfl rfl ?_
    refine Rt.iload (pc' := 15) X1 hx (hb hby d16_13) rfl rfl ?_
    refine Rt.callP (pc' := 18) (r := (.int (f17 p1 p2 p3 p5 p6))) X1 hx hZ (y := mt14) hown (hw _ (List.mem_of_getElem? (i := 124) rfl)) (hw _ (List.mem_of_getElem? (i := 125) rfl)) (hw _ (List.mem_of_getElem? (i := 105) rfl)) (hw _ (List.mem_of_getElem? (i := 126) rfl)) (by decide) (rm17 l Z a0 hw [] p1 p2 p3 p5 p6 h0 n0) (W := 0) (by decide) (by decide) (by decide) (by decide) rfl rfl (argsL := [(.int p1), (.int p2), (.int p3), (.int p5), (.int p6)]) (rest := []) (by rw [hml]; rfl) (lenOf pd_9 rfl) rfl rfl (Nat.le_of_eq rfl) (hb hby d16_15) rfl ?_
    intro T3 X3
    by_cases hc18_4 : (f17 p1 p2 p3 p5 p6) = (0 : Int32)
    · refine Rt.ifY (pc' := 25) X3 hx (hb hby d16_18) ((if0 _ _).trans (teq hc18_4).1) (by decide) (by decide) ?_
      refine Rt.bipush (pc' := 27) (v := (99 : Int32)) X3 hx (hb hby d16_25) rfl rfl ?_
      exact Rt.retI X3 hx hlk hret (hb hby d16_27) (by decide) (by decide) (fun L N => ⟨congrArg some (congrArg Value.int (by rw [f16, if_neg hc5_2, if_pos hc18_4])), N, rfl⟩)
    · refine Rt.ifN (pc' := 21) X3 hx (hb hby d16_18) ((if0 _ _).trans (feq hc18_4).1) rfl ?_
      refine Rt.iloadN (pc' := 22) X3 hx (hb hby d16_21) rfl rfl ?_
      refine Rt.iconst (pc' := 23) (v := (1 : Int32)) X3 hx (hb hby d16_22) rfl rfl ?_
      refine Rt.iadd (pc' := 24) (r := (p4 + (1 : Int32))) X3 hx (hb hby d16_23) rfl rfl ?_
      exact Rt.retI X3 hx hlk hret (hb hby d16_24) (by decide) (by decide) (fun L N => ⟨congrArg some (congrArg Value.int (by rw [f16, if_neg hc5_2, if_neg hc18_4])), N, rfl⟩)
theorem d13_0 : decode method_8_code 0 = .ok (.iload_n 0, 1) := by decide +kernel
theorem d13_1 : decode method_8_code 1 = .ok (.iconst 0, 1) := by decide +kernel
theorem d13_2 : decode method_8_code 2 = .ok (.invokestatic 36, 3) := by decide +kernel
theorem d13_13 : decode method_8_code 13 = .ok (.istore_n 3, 1) := by decide +kernel
theorem d13_14 : decode method_8_code 14 = .ok (.iload_n 0, 1) := by decide +kernel
theorem d13_15 : decode method_8_code 15 = .ok (.iconst 1, 1) := by decide +kernel
theorem d13_16 : decode method_8_code 16 = .ok (.invokestatic 36, 3) := by decide +kernel
theorem d13_47 : decode method_8_code 47 = .ok (.istore 4, 2) := by decide +kernel
theorem d13_49 : decode method_8_code 49 = .ok (.iload_n 0, 1) := by decide +kernel
theorem d13_50 : decode method_8_code 50 = .ok (.iconst 2, 1) := by decide +kernel
theorem d13_51 : decode method_8_code 51 = .ok (.invokestatic 36, 3) := by decide +kernel
theorem d13_96 : decode method_8_code 96 = .ok (.istore 5, 2) := by decide +kernel
theorem d13_98 : decode method_8_code 98 = .ok (.iload_n 0, 1) := by decide +kernel
theorem d13_99 : decode method_8_code 99 = .ok (.iconst 3, 1) := by decide +kernel
theorem d13_100 : decode method_8_code 100 = .ok (.invokestatic 36, 3) := by decide +kernel
theorem d13_158 : decode method_8_code 158 = .ok (.istore 6, 2) := by decide +kernel
theorem d13_160 : decode method_8_code 160 = .ok (.iload 6, 2) := by decide +kernel
theorem d13_162 : decode method_8_code 162 = .ok (.ireturn, 1) := by decide +kernel
theorem d13_103 : decode method_8_code 103 = .ok (.ifCond .eq 53, 3) := by decide +kernel
theorem d13_156 : decode method_8_code 156 = .ok (.iload 5, 2) := by decide +kernel
theorem d13_106 : decode method_8_code 106 = .ok (.iload_n 0, 1) := by decide +kernel
theorem d13_107 : decode method_8_code 107 = .ok (.iconst 0, 1) := by decide +kernel
theorem d13_108 : decode method_8_code 108 = .ok (.iconst 3, 1) := by decide +kernel
theorem d13_109 : decode method_8_code 109 = .ok (.iconst 0, 1) := by decide +kernel
theorem d13_110 : decode method_8_code 110 = .ok (.iload_n 1, 1) := by decide +kernel
theorem d13_111 : decode method_8_code 111 = .ok (.iload_n 2, 1) := by decide +kernel
theorem pd_10 : parseMethodDescriptor "(IIIIII)I" = some ⟨[.int, .int, .int, .int, .int, .int], some .int⟩ := by decide +kernel
theorem d13_112 : decode method_8_code 112 = .ok (.invokestatic 47, 3) := by decide +kernel
theorem d13_115 : decode method_8_code 115 = .ok (.iload_n 0, 1) := by decide +kernel
theorem d13_116 : decode method_8_code 116 = .ok (.iconst 1, 1) := by decide +kernel
theorem d13_117 : decode method_8_code 117 = .ok (.iconst 3, 1) := by decide +kernel
theorem d13_118 : decode method_8_code 118 = .ok (.iload_n 3, 1) := by decide +kernel
theorem d13_119 : decode method_8_code 119 = .ok (.iload_n 1, 1) := by decide +kernel
theorem d13_120 : decode method_8_code 120 = .ok (.iload_n 2, 1) := by decide +kernel
theorem d13_121 : decode method_8_code 121 = .ok (.invokestatic 47, 3) := by decide +kernel
theorem d13_124 : decode method_8_code 124 = .ok (.invokestatic 29, 3) := by decide +kernel
theorem d13_127 : decode method_8_code 127 = .ok (.iload_n 0, 1) := by decide +kernel
theorem d13_128 : decode method_8_code 128 = .ok (.iconst 2, 1) := by decide +kernel
theorem d13_129 : decode method_8_code 129 = .ok (.iconst 3, 1) := by decide +kernel
theorem d13_130 : decode method_8_code 130 = .ok (.iload 4, 2) := by decide +kernel
theorem d13_132 : decode method_8_code 132 = .ok (.iload_n 1, 1) := by decide +kernel
theorem d13_133 : decode method_8_code 133 = .ok (.iload_n 2, 1) := by decide +kernel
theorem d13_134 : decode method_8_code 134 = .ok (.invokestatic 47, 3) := by decide +kernel
theorem d13_137 : decode method_8_code 137 = .ok (.iload_n 0, 1) := by decide +kernel
theorem d13_138 : decode method_8_code 138 = .ok (.iconst 3, 1) := by decide +kernel
theorem d13_139 : decode method_8_code 139 = .ok (.iconst 3, 1) := by decide +kernel
theorem d13_140 : decode method_8_code 140 = .ok (.iload 5, 2) := by decide +kernel
theorem d13_142 : decode method_8_code 142 = .ok (.iload_n 1, 1) := by decide +kernel
theorem d13_143 : decode method_8_code 143 = .ok (.iload_n 2, 1) := by decide +kernel
theorem d13_144 : decode method_8_code 144 = .ok (.invokestatic 47, 3) := by decide +kernel
theorem d13_147 : decode method_8_code 147 = .ok (.invokestatic 29, 3) := by decide +kernel
theorem d13_150 : decode method_8_code 150 = .ok (.invokestatic 29, 3) := by decide +kernel
theorem d13_153 : decode method_8_code 153 = .ok (.goto 5, 3) := by decide +kernel
theorem d13_54 : decode method_8_code 54 = .ok (.ifCond .eq 40, 3) := by decide +kernel
theorem d13_94 : decode method_8_code 94 = .ok (.iload 4, 2) := by decide +kernel
theorem d13_57 : decode method_8_code 57 = .ok (.iload_n 0, 1) := by decide +kernel
theorem d13_58 : decode method_8_code 58 = .ok (.iconst 0, 1) := by decide +kernel
theorem d13_59 : decode method_8_code 59 = .ok (.iconst 2, 1) := by decide +kernel
theorem d13_60 : decode method_8_code 60 = .ok (.iconst 0, 1) := by decide +kernel
theorem d13_61 : decode method_8_code 61 = .ok (.iload_n 1, 1) := by decide +kernel
theorem d13_62 : decode method_8_code 62 = .ok (.iload_n 2, 1) := by decide +kernel
theorem d13_63 : decode method_8_code 63 = .ok (.invokestatic 47, 3) := by decide +kernel
theorem d13_66 : decode method_8_code 66 = .ok (.iload_n 0, 1) := by decide +kernel
theorem d13_67 : decode method_8_code 67 = .ok (.iconst 1, 1) := by decide +kernel
theorem d13_68 : decode method_8_code 68 = .ok (.iconst 2, 1) := by decide +kernel
theorem d13_69 : decode method_8_code 69 = .ok (.iload_n 3, 1) := by decide +kernel
theorem d13_70 : decode method_8_code 70 = .ok (.iload_n 1, 1) := by decide +kernel
theorem d13_71 : decode method_8_code 71 = .ok (.iload_n 2, 1) := by decide +kernel
theorem d13_72 : decode method_8_code 72 = .ok (.invokestatic 47, 3) := by decide +kernel
theorem d13_75 : decode method_8_code 75 = .ok (.invokestatic 29, 3) := by decide +kernel
theorem d13_78 : decode method_8_code 78 = .ok (.iload_n 0, 1) := by decide +kernel
theorem d13_79 : decode method_8_code 79 = .ok (.iconst 2, 1) := by decide +kernel
theorem d13_80 : decode method_8_code 80 = .ok (.iconst 2, 1) := by decide +kernel
theorem d13_81 : decode method_8_code 81 = .ok (.iload 4, 2) := by decide +kernel
theorem d13_83 : decode method_8_code 83 = .ok (.iload_n 1, 1) := by decide +kernel
theorem d13_84 : decode method_8_code 84 = .ok (.iload_n 2, 1) := by decide +kernel
theorem d13_85 : decode method_8_code 85 = .ok (.invokestatic 47, 3) := by decide +kernel
theorem d13_88 : decode method_8_code 88 = .ok (.invokestatic 29, 3) := by decide +kernel
theorem d13_91 : decode method_8_code 91 = .ok (.goto 5, 3) := by decide +kernel
theorem d13_19 : decode method_8_code 19 = .ok (.ifCond .eq 27, 3) := by decide +kernel
theorem d13_46 : decode method_8_code 46 = .ok (.iload_n 3, 1) := by decide +kernel
theorem d13_22 : decode method_8_code 22 = .ok (.iload_n 0, 1) := by decide +kernel
theorem d13_23 : decode method_8_code 23 = .ok (.iconst 0, 1) := by decide +kernel
theorem d13_24 : decode method_8_code 24 = .ok (.iconst 1, 1) := by decide +kernel
theorem d13_25 : decode method_8_code 25 = .ok (.iconst 0, 1) := by decide +kernel
theorem d13_26 : decode method_8_code 26 = .ok (.iload_n 1, 1) := by decide +kernel
theorem d13_27 : decode method_8_code 27 = .ok (.iload_n 2, 1) := by decide +kernel
theorem d13_28 : decode method_8_code 28 = .ok (.invokestatic 47, 3) := by decide +kernel
theorem d13_31 : decode method_8_code 31 = .ok (.iload_n 0, 1) := by decide +kernel
theorem d13_32 : decode method_8_code 32 = .ok (.iconst 1, 1) := by decide +kernel
theorem d13_33 : decode method_8_code 33 = .ok (.iconst 1, 1) := by decide +kernel
theorem d13_34 : decode method_8_code 34 = .ok (.iload_n 3, 1) := by decide +kernel
theorem d13_35 : decode method_8_code 35 = .ok (.iload_n 1, 1) := by decide +kernel
theorem d13_36 : decode method_8_code 36 = .ok (.iload_n 2, 1) := by decide +kernel
theorem d13_37 : decode method_8_code 37 = .ok (.invokestatic 47, 3) := by decide +kernel
theorem d13_40 : decode method_8_code 40 = .ok (.invokestatic 29, 3) := by decide +kernel
theorem d13_43 : decode method_8_code 43 = .ok (.goto 4, 3) := by decide +kernel
theorem d13_5 : decode method_8_code 5 = .ok (.ifCond .eq 7, 3) := by decide +kernel
theorem d13_12 : decode method_8_code 12 = .ok (.iconst 0, 1) := by decide +kernel
theorem d13_8 : decode method_8_code 8 = .ok (.iconst 1, 1) := by decide +kernel
theorem d13_9 : decode method_8_code 9 = .ok (.goto 4, 3) := by decide +kernel
def f13_j13_s0 (p1 : Int32) : Int32 := (if (f14 p1 (0 : Int32)) = (0 : Int32) then (0 : Int32) else (1 : Int32))
def f13_a40_0 (p1 : Int32) (p2 : Int32) (p3 : Int32) : Int32 := (f16 p1 (0 : Int32) (1 : Int32) (0 : Int32) p2 p3)
def f13_a40_1 (p1 : Int32) (p2 : Int32) (p3 : Int32) : Int32 := (f16 p1 (1 : Int32) (1 : Int32) (f13_j13_s0 p1) p2 p3)
def f13_j47_s0 (p1 : Int32) (p2 : Int32) (p3 : Int32) : Int32 := (if (f14 p1 (1 : Int32)) = (0 : Int32) then (f13_j13_s0 p1) else (f10 (f13_a40_0 p1 p2 p3) (f13_a40_1 p1 p2 p3)))
def f13_a75_0 (p1 : Int32) (p2 : Int32) (p3 : Int32) : Int32 := (f16 p1 (0 : Int32) (2 : Int32) (0 : Int32) p2 p3)
def f13_a75_1 (p1 : Int32) (p2 : Int32) (p3 : Int32) : Int32 := (f16 p1 (1 : Int32) (2 : Int32) (f13_j13_s0 p1) p2 p3)
def f13_a88_0 (p1 : Int32) (p2 : Int32) (p3 : Int32) : Int32 := (f10 (f13_a75_0 p1 p2 p3) (f13_a75_1 p1 p2 p3))
def f13_a88_1 (p1 : Int32) (p2 : Int32) (p3 : Int32) : Int32 := (f16 p1 (2 : Int32) (2 : Int32) (f13_j47_s0 p1 p2 p3) p2 p3)
def f13_j96_s0 (p1 : Int32) (p2 : Int32) (p3 : Int32) : Int32 := (if (f14 p1 (2 : Int32)) = (0 : Int32) then (f13_j47_s0 p1 p2 p3) else (f10 (f13_a88_0 p1 p2 p3) (f13_a88_1 p1 p2 p3)))
def f13_a124_0 (p1 : Int32) (p2 : Int32) (p3 : Int32) : Int32 := (f16 p1 (0 : Int32) (3 : Int32) (0 : Int32) p2 p3)
def f13_a124_1 (p1 : Int32) (p2 : Int32) (p3 : Int32) : Int32 := (f16 p1 (1 : Int32) (3 : Int32) (f13_j13_s0 p1) p2 p3)
def f13_a147_0 (p1 : Int32) (p2 : Int32) (p3 : Int32) : Int32 := (f16 p1 (2 : Int32) (3 : Int32) (f13_j47_s0 p1 p2 p3) p2 p3)
def f13_a147_1 (p1 : Int32) (p2 : Int32) (p3 : Int32) : Int32 := (f16 p1 (3 : Int32) (3 : Int32) (f13_j96_s0 p1 p2 p3) p2 p3)
def f13_a150_0 (p1 : Int32) (p2 : Int32) (p3 : Int32) : Int32 := (f10 (f13_a124_0 p1 p2 p3) (f13_a124_1 p1 p2 p3))
def f13_a150_1 (p1 : Int32) (p2 : Int32) (p3 : Int32) : Int32 := (f10 (f13_a147_0 p1 p2 p3) (f13_a147_1 p1 p2 p3))
def f13_j158_s0 (p1 : Int32) (p2 : Int32) (p3 : Int32) : Int32 := (if (f14 p1 (3 : Int32)) = (0 : Int32) then (f13_j96_s0 p1 p2 p3) else (f10 (f13_a150_0 p1 p2 p3) (f13_a150_1 p1 p2 p3)))
def f13 (p1 : Int32) (p2 : Int32) (p3 : Int32) : Int32 := (f13_j158_s0 p1 p2 p3)
def Q13 (p1 : Int32) (p2 : Int32) (p3 : Int32) (h0 : Heap) (n0 : Nat) (v : Option Value) (h : Heap) (L : List Loc) : Prop := v = some (.int (f13 p1 p2 p3)) ∧ Fr n0 L ∧ h = h0
def rmR13 : Room := { frames := 4, cells := 0, slots := 0, locals := 65 }
theorem ef_13 (m : MethodId) (p1 : Int32) (p2 : Int32) (p3 : Int32) : entryFrame m #[(.int p1), (.int p2), (.int p3)] 7 = mkF m 0 #[.val (.int p1), .val (.int p2), .val (.int p3), .unset, .unset, .unset, .unset] [] := by first | (simp [entryFrame, mkF, argsToLocals, Value.category]; done) | rfl
set_option maxRecDepth 65536 in
set_option maxHeartbeats 40000000 in
theorem rm13 (l : Launch) (Z : State) (a0 : Array Value) (hw : ∀ d ∈ tables_1, d.before a0 Z = true) (ws : List Jvm.Cond) (p1 : Int32) (p2 : Int32) (p3 : Int32) (h0 : Heap) (n0 : Nat) :
    Mt l Z mt16 (Jvm.Cond.code mt16 method_8_code 7 (some .int) :: ws) rmR13 #[(.int p1), (.int p2), (.int p3)] h0 (Q13 p1 p2 p3 h0 n0) := by
  refine Mt.of n0 (plainFor_of_name pn_com_example_tightfold_tightfold_FocusFilteringFewestRunsPinLaw) ?_
  intro p e s m below meth c T0 X0 hx hZ hby hml hown hret hlk hnm hs0
  have hown : s.vm.findClass "com/example/tightfold/tightfold/FocusFilteringFewestRunsPinLaw" = some m.cls := hown
  rw [ef_13]
  show Rt p e below s rmR13.cells rmR13.slots (Q13 p1 p2 p3 h0 n0) (T0.setTop (mkF m 0 #[.val (.int p1), .val (.int p2), .val (.int p3), .unset, .unset, .unset, .unset] []))
  refine Rt.iloadN (pc' := 1) X0 hx (hb hby d13_0) rfl rfl ?_
  refine Rt.iconst (pc' := 2) (v := (0 : Int32)) X0 hx (hb hby d13_1) rfl rfl ?_
  refine Rt.callP (pc' := 5) (r := (.int (f14 p1 (0 : Int32)))) X0 hx hZ (y := mt12) hown (hw _ (List.mem_of_getElem? (i := 110) rfl)) (hw _ (List.mem_of_getElem? (i := 111) rfl)) (hw _ (List.mem_of_getElem? (i := 105) rfl)) (hw _ (List.mem_of_getElem? (i := 112) rfl)) (by decide) (rm14 l Z a0 hw [] p1 (0 : Int32) h0 n0) (W := 0) (by decide) (by decide) (by decide) (by decide) rfl rfl (argsL := [(.int p1), (.int (0 : Int32))]) (rest := []) (by rw [hml]; rfl) (lenOf pd_8 rfl) rfl rfl (Nat.le_of_eq rfl) (hb hby d13_2) rfl ?_
  intro T1 X1
  have J5_2 : ∀ T2  , Sd p l e rmR13 s m #[(.int p1), (.int p2), (.int p3)] below meth c T2 n0 0 0 h0 → Rt p e below s rmR13.cells rmR13.slots (Q13 p1 p2 p3 h0 n0) (T2.setTop (mkF m 13 #[.val (.int p1), .val (.int p2), .val (.int p3), .unset, .unset, .unset, .unset] [(.int (f13_j13_s0 p1))])) := by
    intro T2   X2 
    refine Rt.istoreN (pc' := 14) (v := (f13_j13_s0 p1)) (l' := #[.val (.int p1), .val (.int p2), .val (.int p3), .val (.int (f13_j13_s0 p1)), .unset, .unset, .unset]) X2 hx (hb hby d13_13) rfl rfl ?_
    refine Rt.iloadN (pc' := 15) X2 hx (hb hby d13_14) rfl rfl ?_
    refine Rt.iconst (pc' := 16) (v := (1 : Int32)) X2 hx (hb hby d13_15) rfl rfl ?_
    refine Rt.callP (pc' := 19) (r := (.int (f14 p1 (1 : Int32)))) X2 hx hZ (y := mt12) hown (hw _ (List.mem_of_getElem? (i := 110) rfl)) (hw _ (List.mem_of_getElem? (i := 111) rfl)) (hw _ (List.mem_of_getElem? (i := 105) rfl)) (hw _ (List.mem_of_getElem? (i := 112) rfl)) (by decide) (rm14 l Z a0 hw [] p1 (1 : Int32) h0 n0) (W := 0) (by decide) (by decide) (by decide) (by decide) rfl rfl (argsL := [(.int p1), (.int (1 : Int32))]) (rest := []) (by rw [hml]; rfl) (lenOf pd_8 rfl) rfl rfl (Nat.le_of_eq rfl) (hb hby d13_16) rfl ?_
    intro T3 X3
    have J19_4 : ∀ T4  , Sd p l e rmR13 s m #[(.int p1), (.int p2), (.int p3)] below meth c T4 n0 0 0 h0 → Rt p e below s rmR13.cells rmR13.slots (Q13 p1 p2 p3 h0 n0) (T4.setTop (mkF m 47 #[.val (.int p1), .val (.int p2), .val (.int p3), .val (.int (f13_j13_s0 p1)), .unset, .unset, .unset] [(.int (f13_j47_s0 p1 p2 p3))])) := by
      intro T4   X4 
      refine Rt.istore (pc' := 49) (v := (f13_j47_s0 p1 p2 p3)) (l' := #[.val (.int p1), .val (.int p2), .val (.int p3), .val (.int (f13_j13_s0 p1)), .val (.int (f13_j47_s0 p1 p2 p3)), .unset, .unset]) X4 hx (hb hby d13_47) rfl rfl ?_
      refine Rt.iloadN (pc' := 50) X4 hx (hb hby d13_49) rfl rfl ?_
      refine Rt.iconst (pc' := 51) (v := (2 : Int32)) X4 hx (hb hby d13_50) rfl rfl ?_
      refine Rt.callP (pc' := 54) (r := (.int (f14 p1 (2 : Int32)))) X4 hx hZ (y := mt12) hown (hw _ (List.mem_of_getElem? (i := 110) rfl)) (hw _ (List.mem_of_getElem? (i := 111) rfl)) (hw _ (List.mem_of_getElem? (i := 105) rfl)) (hw _ (List.mem_of_getElem? (i := 112) rfl)) (by decide) (rm14 l Z a0 hw [] p1 (2 : Int32) h0 n0) (W := 0) (by decide) (by decide) (by decide) (by decide) rfl rfl (argsL := [(.int p1), (.int (2 : Int32))]) (rest := []) (by rw [hml]; rfl) (lenOf pd_8 rfl) rfl rfl (Nat.le_of_eq rfl) (hb hby d13_51) rfl ?_
      intro T5 X5
      have J54_6 : ∀ T6  , Sd p l e rmR13 s m #[(.int p1), (.int p2), (.int p3)] below meth c T6 n0 0 0 h0 → Rt p e below s rmR13.cells rmR13.slots (Q13 p1 p2 p3 h0 n0) (T6.setTop (mkF m 96 #[.val (.int p1), .val (.int p2), .val (.int p3), .val (.int (f13_j13_s0 p1)), .val (.int (f13_j47_s0 p1 p2 p3)), .unset, .unset] [(.int (f13_j96_s0 p1 p2 p3))])) := by
        intro T6   X6 
        refine Rt.istore (pc' := 98) (v := (f13_j96_s0 p1 p2 p3)) (l' := #[.val (.int p1), .val (.int p2), .val (.int p3), .val (.int (f13_j13_s0 p1)), .val (.int (f13_j47_s0 p1 p2 p3)), .val (.int (f13_j96_s0 p1 p2 p3)), .unset]) X6 hx (hb hby d13_96) rfl rfl ?_
        refine Rt.iloadN (pc' := 99) X6 hx (hb hby d13_98) rfl rfl ?_
        refine Rt.iconst (pc' := 100) (v := (3 : Int32)) X6 hx (hb hby d13_99) rfl rfl ?_
        refine Rt.callP (pc' := 103) (r := (.int (f14 p1 (3 : Int32)))) X6 hx hZ (y := mt12) hown (hw _ (List.mem_of_getElem? (i := 110) rfl)) (hw _ (List.mem_of_getElem? (i := 111) rfl)) (hw _ (List.mem_of_getElem? (i := 105) rfl)) (hw _ (List.mem_of_getElem? (i := 112) rfl)) (by decide) (rm14 l Z a0 hw [] p1 (3 : Int32) h0 n0) (W := 0) (by decide) (by decide) (by decide) (by decide) rfl rfl (argsL := [(.int p1), (.int (3 : Int32))]) (rest := []) (by rw [hml]; rfl) (lenOf pd_8 rfl) rfl rfl (Nat.le_of_eq rfl) (hb hby d13_100) rfl ?_
        intro T7 X7
        have J103_8 : ∀ T8  , Sd p l e rmR13 s m #[(.int p1), (.int p2), (.int p3)] below meth c T8 n0 0 0 h0 → Rt p e below s rmR13.cells rmR13.slots (Q13 p1 p2 p3 h0 n0) (T8.setTop (mkF m 158 #[.val (.int p1), .val (.int p2), .val (.int p3), .val (.int (f13_j13_s0 p1)), .val (.int (f13_j47_s0 p1 p2 p3)), .val (.int (f13_j96_s0 p1 p2 p3)), .unset] [(.int (f13_j158_s0 p1 p2 p3))])) := by
          intro T8   X8 
          refine Rt.istore (pc' := 160) (v := (f13_j158_s0 p1 p2 p3)) (l' := #[.val (.int p1), .val (.int p2), .val (.int p3), .val (.int (f13_j13_s0 p1)), .val (.int (f13_j47_s0 p1 p2 p3)), .val (.int (f13_j96_s0 p1 p2 p3)), .val (.int (f13_j158_s0 p1 p2 p3))]) X8 hx (hb hby d13_158) rfl rfl ?_
          refine Rt.iload (pc' := 162) X8 hx (hb hby d13_160) rfl rfl ?_
          exact Rt.retI X8 hx hlk hret (hb hby d13_162) (by decide) (by decide) (fun L N => ⟨congrArg some (congrArg Value.int (by rw [f13])), N, rfl⟩)
        by_cases hc103_9 : (f14 p1 (3 : Int32)) = (0 : Int32)
        · refine Rt.ifY (pc' := 156) X7 hx (hb hby d13_103) ((if0 _ _).trans (teq hc103_9).1) (by decide) (by decide) ?_
          refine Rt.iload (pc' := 158) X7 hx (hb hby d13_156) rfl rfl ?_
          have q := J103_8 T7   X7
          rw [show (f13_j158_s0 p1 p2 p3) = (f13_j96_s0 p1 p2 p3) from by rw [f13_j158_s0, if_pos hc103_9]] at q
          exact q
        · refine Rt.ifN (pc' := 106) X7 hx (hb hby d13_103) ((if0 _ _).trans (feq hc103_9).1) rfl ?_
          refine Rt.iloadN (pc' := 107) X7 hx (hb hby d13_106) rfl rfl ?_
          refine Rt.iconst (pc' := 108) (v := (0 : Int32)) X7 hx (hb hby d13_107) rfl rfl ?_
          refine Rt.iconst (pc' := 109) (v := (3 : Int32)) X7 hx (hb hby d13_108) rfl rfl ?_
          refine Rt.iconst (pc' := 110) (v := (0 : Int32)) X7 hx (hb hby d13_109) rfl rfl ?_
          refine Rt.iloadN (pc' := 111) X7 hx (hb hby d13_110) rfl rfl ?_
          refine Rt.iloadN (pc' := 112) X7 hx (hb hby d13_111) rfl rfl ?_
          refine Rt.callP (pc' := 115) (r := (.int (f16 p1 (0 : Int32) (3 : Int32) (0 : Int32) p2 p3))) X7 hx hZ (y := mt15) hown (hw _ (List.mem_of_getElem? (i := 121) rfl)) (hw _ (List.mem_of_getElem? (i := 122) rfl)) (hw _ (List.mem_of_getElem? (i := 105) rfl)) (hw _ (List.mem_of_getElem? (i := 123) rfl)) (by decide) (rm16 l Z a0 hw [] p1 (0 : Int32) (3 : Int32) (0 : Int32) p2 p3 h0 n0) (W := 0) (by decide) (by decide) (by decide) (by decide) rfl rfl (argsL := [(.int p1), (.int (0 : Int32)), (.int (3 : Int32)), (.int (0 : Int32)), (.int p2), (.int p3)]) (rest := []) (by rw [hml]; rfl) (lenOf pd_10 rfl) rfl rfl (Nat.le_of_eq rfl) (hb hby d13_112) rfl ?_
          intro T10 X10
          refine Rt.iloadN (pc' := 116) X10 hx (hb hby d13_115) rfl rfl ?_
          refine Rt.iconst (pc' := 117) (v := (1 : Int32)) X10 hx (hb hby d13_116) rfl rfl ?_
          refine Rt.iconst (pc' := 118) (v := (3 : Int32)) X10 hx (hb hby d13_117) rfl rfl ?_
          refine Rt.iloadN (pc' := 119) X10 hx (hb hby d13_118) rfl rfl ?_
          refine Rt.iloadN (pc' := 120) X10 hx (hb hby d13_119) rfl rfl ?_
          refine Rt.iloadN (pc' := 121) X10 hx (hb hby d13_120) rfl rfl ?_
          refine Rt.callP (pc' := 124) (r := (.int (f16 p1 (1 : Int32) (3 : Int32) (f13_j13_s0 p1) p2 p3))) X10 hx hZ (y := mt15) hown (hw _ (List.mem_of_getElem? (i := 121) rfl)) (hw _ (List.mem_of_getElem? (i := 122) rfl)) (hw _ (List.mem_of_getElem? (i := 105) rfl)) (hw _ (List.mem_of_getElem? (i := 123) rfl)) (by decide) (rm16 l Z a0 hw [] p1 (1 : Int32) (3 : Int32) (f13_j13_s0 p1) p2 p3 h0 n0) (W := 1) (by decide) (by decide) (by decide) (by decide) rfl rfl (argsL := [(.int p1), (.int (1 : Int32)), (.int (3 : Int32)), (.int (f13_j13_s0 p1)), (.int p2), (.int p3)]) (rest := [(.int (f16 p1 (0 : Int32) (3 : Int32) (0 : Int32) p2 p3))]) (by rw [hml]; rfl) (lenOf pd_10 rfl) rfl rfl (Nat.le_of_eq rfl) (hb hby d13_121) rfl ?_
          intro T11 X11
          refine Rt.callP (pc' := 127) (r := (.int (f10 (f13_a124_0 p1 p2 p3) (f13_a124_1 p1 p2 p3)))) X11 hx hZ (y := mt1) hown (hw _ (List.mem_of_getElem? (i := 113) rfl)) (hw _ (List.mem_of_getElem? (i := 90) rfl)) (hw _ (List.mem_of_getElem? (i := 3) rfl)) (hw _ (List.mem_of_getElem? (i := 91) rfl)) (by decide) (rm10 l Z a0 hw [] (f13_a124_0 p1 p2 p3) (f13_a124_1 p1 p2 p3) h0 n0) (W := 0) (by decide) (by decide) (by decide) (by decide) rfl rfl (argsL := [(.int (f13_a124_0 p1 p2 p3)), (.int (f13_a124_1 p1 p2 p3))]) (rest := []) (by rw [hml]; rfl) (lenOf pd_0 rfl) rfl rfl (Nat.le_of_eq rfl) (hb hby d13_124) rfl ?_
          intro T12 X12
          refine Rt.iloadN (pc' := 128) X12 hx (hb hby d13_127) rfl rfl ?_
          refine Rt.iconst (pc' := 129) (v := (2 : Int32)) X12 hx (hb hby d13_128) rfl rfl ?_
          refine Rt.iconst (pc' := 130) (v := (3 : Int32)) X12 hx (hb hby d13_129) rfl rfl ?_
          refine Rt.iload (pc' := 132) X12 hx (hb hby d13_130) rfl rfl ?_
          refine Rt.iloadN (pc' := 133) X12 hx (hb hby d13_132) rfl rfl ?_
          refine Rt.iloadN (pc' := 134) X12 hx (hb hby d13_133) rfl rfl ?_
          refine Rt.callP (pc' := 137) (r := (.int (f16 p1 (2 : Int32) (3 : Int32) (f13_j47_s0 p1 p2 p3) p2 p3))) X12 hx hZ (y := mt15) hown (hw _ (List.mem_of_getElem? (i := 121) rfl)) (hw _ (List.mem_of_getElem? (i := 122) rfl)) (hw _ (List.mem_of_getElem? (i := 105) rfl)) (hw _ (List.mem_of_getElem? (i := 123) rfl)) (by decide) (rm16 l Z a0 hw [] p1 (2 : Int32) (3 : Int32) (f13_j47_s0 p1 p2 p3) p2 p3 h0 n0) (W := 1) (by decide) (by decide) (by decide) (by decide) rfl rfl (argsL := [(.int p1), (.int (2 : Int32)), (.int (3 : Int32)), (.int (f13_j47_s0 p1 p2 p3)), (.int p2), (.int p3)]) (rest := [(.int (f10 (f13_a124_0 p1 p2 p3) (f13_a124_1 p1 p2 p3)))]) (by rw [hml]; rfl) (lenOf pd_10 rfl) rfl rfl (Nat.le_of_eq rfl) (hb hby d13_134) rfl ?_
          intro T13 X13
          refine Rt.iloadN (pc' := 138) X13 hx (hb hby d13_137) rfl rfl ?_
          refine Rt.iconst (pc' := 139) (v := (3 : Int32)) X13 hx (hb hby d13_138) rfl rfl ?_
          refine Rt.iconst (pc' := 140) (v := (3 : Int32)) X13 hx (hb hby d13_139) rfl rfl ?_
          refine Rt.iload (pc' := 142) X13 hx (hb hby d13_140) rfl rfl ?_
          refine Rt.iloadN (pc' := 143) X13 hx (hb hby d13_142) rfl rfl ?_
          refine Rt.iloadN (pc' := 144) X13 hx (hb hby d13_143) rfl rfl ?_
          refine Rt.callP (pc' := 147) (r := (.int (f16 p1 (3 : Int32) (3 : Int32) (f13_j96_s0 p1 p2 p3) p2 p3))) X13 hx hZ (y := mt15) hown (hw _ (List.mem_of_getElem? (i := 121) rfl)) (hw _ (List.mem_of_getElem? (i := 122) rfl)) (hw _ (List.mem_of_getElem? (i := 105) rfl)) (hw _ (List.mem_of_getElem? (i := 123) rfl)) (by decide) (rm16 l Z a0 hw [] p1 (3 : Int32) (3 : Int32) (f13_j96_s0 p1 p2 p3) p2 p3 h0 n0) (W := 2) (by decide) (by decide) (by decide) (by decide) rfl rfl (argsL := [(.int p1), (.int (3 : Int32)), (.int (3 : Int32)), (.int (f13_j96_s0 p1 p2 p3)), (.int p2), (.int p3)]) (rest := [(.int (f16 p1 (2 : Int32) (3 : Int32) (f13_j47_s0 p1 p2 p3) p2 p3)), (.int (f10 (f13_a124_0 p1 p2 p3) (f13_a124_1 p1 p2 p3)))]) (by rw [hml]; rfl) (lenOf pd_10 rfl) rfl rfl (Nat.le_of_eq rfl) (hb hby d13_144) rfl ?_
          intro T14 X14
          refine Rt.callP (pc' := 150) (r := (.int (f10 (f13_a147_0 p1 p2 p3) (f13_a147_1 p1 p2 p3)))) X14 hx hZ (y := mt1) hown (hw _ (List.mem_of_getElem? (i := 113) rfl)) (hw _ (List.mem_of_getElem? (i := 90) rfl)) (hw _ (List.mem_of_getElem? (i := 3) rfl)) (hw _ (List.mem_of_getElem? (i := 91) rfl)) (by decide) (rm10 l Z a0 hw [] (f13_a147_0 p1 p2 p3) (f13_a147_1 p1 p2 p3) h0 n0) (W := 1) (by decide) (by decide) (by decide) (by decide) rfl rfl (argsL := [(.int (f13_a147_0 p1 p2 p3)), (.int (f13_a147_1 p1 p2 p3))]) (rest := [(.int (f10 (f13_a124_0 p1 p2 p3) (f13_a124_1 p1 p2 p3)))]) (by rw [hml]; rfl) (lenOf pd_0 rfl) rfl rfl (Nat.le_of_eq rfl) (hb hby d13_147) rfl ?_
          intro T15 X15
          refine Rt.callP (pc' := 153) (r := (.int (f10 (f13_a150_0 p1 p2 p3) (f13_a150_1 p1 p2 p3)))) X15 hx hZ (y := mt1) hown (hw _ (List.mem_of_getElem? (i := 113) rfl)) (hw _ (List.mem_of_getElem? (i := 90) rfl)) (hw _ (List.mem_of_getElem? (i := 3) rfl)) (hw _ (List.mem_of_getElem? (i := 91) rfl)) (by decide) (rm10 l Z a0 hw [] (f13_a150_0 p1 p2 p3) (f13_a150_1 p1 p2 p3) h0 n0) (W := 0) (by decide) (by decide) (by decide) (by decide) rfl rfl (argsL := [(.int (f13_a150_0 p1 p2 p3)), (.int (f13_a150_1 p1 p2 p3))]) (rest := []) (by rw [hml]; rfl) (lenOf pd_0 rfl) rfl rfl (Nat.le_of_eq rfl) (hb hby d13_150) rfl ?_
          intro T16 X16
          refine Rt.goto (pc' := 158) X16 hx (hb hby d13_153) (by decide) (by decide) ?_
          have q := J103_8 T16   X16
          rw [show (f13_j158_s0 p1 p2 p3) = (f10 (f13_a150_0 p1 p2 p3) (f13_a150_1 p1 p2 p3)) from by rw [f13_j158_s0, if_neg hc103_9]] at q
          exact q
      by_cases hc54_17 : (f14 p1 (2 : Int32)) = (0 : Int32)
      · refine Rt.ifY (pc' := 94) X5 hx (hb hby d13_54) ((if0 _ _).trans (teq hc54_17).1) (by decide) (by decide) ?_
        refine Rt.iload (pc' := 96) X5 hx (hb hby d13_94) rfl rfl ?_
        have q := J54_6 T5   X5
        rw [show (f13_j96_s0 p1 p2 p3) = (f13_j47_s0 p1 p2 p3) from by rw [f13_j96_s0, if_pos hc54_17]] at q
        exact q
      · refine Rt.ifN (pc' := 57) X5 hx (hb hby d13_54) ((if0 _ _).trans (feq hc54_17).1) rfl ?_
        refine Rt.iloadN (pc' := 58) X5 hx (hb hby d13_57) rfl rfl ?_
        refine Rt.iconst (pc' := 59) (v := (0 : Int32)) X5 hx (hb hby d13_58) rfl rfl ?_
        refine Rt.iconst (pc' := 60) (v := (2 : Int32)) X5 hx (hb hby d13_59) rfl rfl ?_
        refine Rt.iconst (pc' := 61) (v := (0 : Int32)) X5 hx (hb hby d13_60) rfl rfl ?_
        refine Rt.iloadN (pc' := 62) X5 hx (hb hby d13_61) rfl rfl ?_
        refine Rt.iloadN (pc' := 63) X5 hx (hb hby d13_62) rfl rfl ?_
        refine Rt.callP (pc' := 66) (r := (.int (f16 p1 (0 : Int32) (2 : Int32) (0 : Int32) p2 p3))) X5 hx hZ (y := mt15) hown (hw _ (List.mem_of_getElem? (i := 121) rfl)) (hw _ (List.mem_of_getElem? (i := 122) rfl)) (hw _ (List.mem_of_getElem? (i := 105) rfl)) (hw _ (List.mem_of_getElem? (i := 123) rfl)) (by decide) (rm16 l Z a0 hw [] p1 (0 : Int32) (2 : Int32) (0 : Int32) p2 p3 h0 n0) (W := 0) (by decide) (by decide) (by decide) (by decide) rfl rfl (argsL := [(.int p1), (.int (0 : Int32)), (.int (2 : Int32)), (.int (0 : Int32)), (.int p2), (.int p3)]) (rest := []) (by rw [hml]; rfl) (lenOf pd_10 rfl) rfl rfl (Nat.le_of_eq rfl) (hb hby d13_63) rfl ?_
        intro T18 X18
        refine Rt.iloadN (pc' := 67) X18 hx (hb hby d13_66) rfl rfl ?_
        refine Rt.iconst (pc' := 68) (v := (1 : Int32)) X18 hx (hb hby d13_67) rfl rfl ?_
        refine Rt.iconst (pc' := 69) (v := (2 : Int32)) X18 hx (hb hby d13_68) rfl rfl ?_
        refine Rt.iloadN (pc' := 70) X18 hx (hb hby d13_69) rfl rfl ?_
        refine Rt.iloadN (pc' := 71) X18 hx (hb hby d13_70) rfl rfl ?_
        refine Rt.iloadN (pc' := 72) X18 hx (hb hby d13_71) rfl rfl ?_
        refine Rt.callP (pc' := 75) (r := (.int (f16 p1 (1 : Int32) (2 : Int32) (f13_j13_s0 p1) p2 p3))) X18 hx hZ (y := mt15) hown (hw _ (List.mem_of_getElem? (i := 121) rfl)) (hw _ (List.mem_of_getElem? (i := 122) rfl)) (hw _ (List.mem_of_getElem? (i := 105) rfl)) (hw _ (List.mem_of_getElem? (i := 123) rfl)) (by decide) (rm16 l Z a0 hw [] p1 (1 : Int32) (2 : Int32) (f13_j13_s0 p1) p2 p3 h0 n0) (W := 1) (by decide) (by decide) (by decide) (by decide) rfl rfl (argsL := [(.int p1), (.int (1 : Int32)), (.int (2 : Int32)), (.int (f13_j13_s0 p1)), (.int p2), (.int p3)]) (rest := [(.int (f16 p1 (0 : Int32) (2 : Int32) (0 : Int32) p2 p3))]) (by rw [hml]; rfl) (lenOf pd_10 rfl) rfl rfl (Nat.le_of_eq rfl) (hb hby d13_72) rfl ?_
        intro T19 X19
        refine Rt.callP (pc' := 78) (r := (.int (f10 (f13_a75_0 p1 p2 p3) (f13_a75_1 p1 p2 p3)))) X19 hx hZ (y := mt1) hown (hw _ (List.mem_of_getElem? (i := 113) rfl)) (hw _ (List.mem_of_getElem? (i := 90) rfl)) (hw _ (List.mem_of_getElem? (i := 3) rfl)) (hw _ (List.mem_of_getElem? (i := 91) rfl)) (by decide) (rm10 l Z a0 hw [] (f13_a75_0 p1 p2 p3) (f13_a75_1 p1 p2 p3) h0 n0) (W := 0) (by decide) (by decide) (by decide) (by decide) rfl rfl (argsL := [(.int (f13_a75_0 p1 p2 p3)), (.int (f13_a75_1 p1 p2 p3))]) (rest := []) (by rw [hml]; rfl) (lenOf pd_0 rfl) rfl rfl (Nat.le_of_eq rfl) (hb hby d13_75) rfl ?_
        intro T20 X20
        refine Rt.iloadN (pc' := 79) X20 hx (hb hby d13_78) rfl rfl ?_
        refine Rt.iconst (pc' := 80) (v := (2 : Int32)) X20 hx (hb hby d13_79) rfl rfl ?_
        refine Rt.iconst (pc' := 81) (v := (2 : Int32)) X20 hx (hb hby d13_80) rfl rfl ?_
        refine Rt.iload (pc' := 83) X20 hx (hb hby d13_81) rfl rfl ?_
        refine Rt.iloadN (pc' := 84) X20 hx (hb hby d13_83) rfl rfl ?_
        refine Rt.iloadN (pc' := 85) X20 hx (hb hby d13_84) rfl rfl ?_
        refine Rt.callP (pc' := 88) (r := (.int (f16 p1 (2 : Int32) (2 : Int32) (f13_j47_s0 p1 p2 p3) p2 p3))) X20 hx hZ (y := mt15) hown (hw _ (List.mem_of_getElem? (i := 121) rfl)) (hw _ (List.mem_of_getElem? (i := 122) rfl)) (hw _ (List.mem_of_getElem? (i := 105) rfl)) (hw _ (List.mem_of_getElem? (i := 123) rfl)) (by decide) (rm16 l Z a0 hw [] p1 (2 : Int32) (2 : Int32) (f13_j47_s0 p1 p2 p3) p2 p3 h0 n0) (W := 1) (by decide) (by decide) (by decide) (by decide) rfl rfl (argsL := [(.int p1), (.int (2 : Int32)), (.int (2 : Int32)), (.int (f13_j47_s0 p1 p2 p3)), (.int p2), (.int p3)]) (rest := [(.int (f10 (f13_a75_0 p1 p2 p3) (f13_a75_1 p1 p2 p3)))]) (by rw [hml]; rfl) (lenOf pd_10 rfl) rfl rfl (Nat.le_of_eq rfl) (hb hby d13_85) rfl ?_
        intro T21 X21
        refine Rt.callP (pc' := 91) (r := (.int (f10 (f13_a88_0 p1 p2 p3) (f13_a88_1 p1 p2 p3)))) X21 hx hZ (y := mt1) hown (hw _ (List.mem_of_getElem? (i := 113) rfl)) (hw _ (List.mem_of_getElem? (i := 90) rfl)) (hw _ (List.mem_of_getElem? (i := 3) rfl)) (hw _ (List.mem_of_getElem? (i := 91) rfl)) (by decide) (rm10 l Z a0 hw [] (f13_a88_0 p1 p2 p3) (f13_a88_1 p1 p2 p3) h0 n0) (W := 0) (by decide) (by decide) (by decide) (by decide) rfl rfl (argsL := [(.int (f13_a88_0 p1 p2 p3)), (.int (f13_a88_1 p1 p2 p3))]) (rest := []) (by rw [hml]; rfl) (lenOf pd_0 rfl) rfl rfl (Nat.le_of_eq rfl) (hb hby d13_88) rfl ?_
        intro T22 X22
        refine Rt.goto (pc' := 96) X22 hx (hb hby d13_91) (by decide) (by decide) ?_
        have q := J54_6 T22   X22
        rw [show (f13_j96_s0 p1 p2 p3) = (f10 (f13_a88_0 p1 p2 p3) (f13_a88_1 p1 p2 p3)) from by rw [f13_j96_s0, if_neg hc54_17]] at q
        exact q
    by_cases hc19_23 : (f14 p1 (1 : Int32)) = (0 : Int32)
    · refine Rt.ifY (pc' := 46) X3 hx (hb hby d13_19) ((if0 _ _).trans (teq hc19_23).1) (by decide) (by decide) ?_
      refine Rt.iloadN (pc' := 47) X3 hx (hb hby d13_46) rfl rfl ?_
      have q := J19_4 T3   X3
      rw [show (f13_j47_s0 p1 p2 p3) = (f13_j13_s0 p1) from by rw [f13_j47_s0, if_pos hc19_23]] at q
      exact q
    · refine Rt.ifN (pc' := 22) X3 hx (hb hby d13_19) ((if0 _ _).trans (feq hc19_23).1) rfl ?_
      refine Rt.iloadN (pc' := 23) X3 hx (hb hby d13_22) rfl rfl ?_
      refine Rt.iconst (pc' := 24) (v := (0 : Int32)) X3 hx (hb hby d13_23) rfl rfl ?_
      refine Rt.iconst (pc' := 25) (v := (1 : Int32)) X3 hx (hb hby d13_24) rfl rfl ?_
      refine Rt.iconst (pc' := 26) (v := (0 : Int32)) X3 hx (hb hby d13_25) rfl rfl ?_
      refine Rt.iloadN (pc' := 27) X3 hx (hb hby d13_26) rfl rfl ?_
      refine Rt.iloadN (pc' := 28) X3 hx (hb hby d13_27) rfl rfl ?_
      refine Rt.callP (pc' := 31) (r := (.int (f16 p1 (0 : Int32) (1 : Int32) (0 : Int32) p2 p3))) X3 hx hZ (y := mt15) hown (hw _ (List.mem_of_getElem? (i := 121) rfl)) (hw _ (List.mem_of_getElem? (i := 122) rfl)) (hw _ (List.mem_of_getElem? (i := 105) rfl)) (hw _ (List.mem_of_getElem? (i := 123) rfl)) (by decide) (rm16 l Z a0 hw [] p1 (0 : Int32) (1 : Int32) (0 : Int32) p2 p3 h0 n0) (W := 0) (by decide) (by decide) (by decide) (by decide) rfl rfl (argsL := [(.int p1), (.int (0 : Int32)), (.int (1 : Int32)), (.int (0 : Int32)), (.int p2), (.int p3)]) (rest := []) (by rw [hml]; rfl) (lenOf pd_10 rfl) rfl rfl (Nat.le_of_eq rfl) (hb hby d13_28) rfl ?_
      intro T24 X24
      refine Rt.iloadN (pc' := 32) X24 hx (hb hby d13_31) rfl rfl ?_
      refine Rt.iconst (pc' := 33) (v := (1 : Int32)) X24 hx (hb hby d13_32) rfl rfl ?_
      refine Rt.iconst (pc' := 34) (v := (1 : Int32)) X24 hx (hb hby d13_33) rfl rfl ?_
      refine Rt.iloadN (pc' := 35) X24 hx (hb hby d13_34) rfl rfl ?_
      refine Rt.iloadN (pc' := 36) X24 hx (hb hby d13_35) rfl rfl ?_
      refine Rt.iloadN (pc' := 37) X24 hx (hb hby d13_36) rfl rfl ?_
      refine Rt.callP (pc' := 40) (r := (.int (f16 p1 (1 : Int32) (1 : Int32) (f13_j13_s0 p1) p2 p3))) X24 hx hZ (y := mt15) hown (hw _ (List.mem_of_getElem? (i := 121) rfl)) (hw _ (List.mem_of_getElem? (i := 122) rfl)) (hw _ (List.mem_of_getElem? (i := 105) rfl)) (hw _ (List.mem_of_getElem? (i := 123) rfl)) (by decide) (rm16 l Z a0 hw [] p1 (1 : Int32) (1 : Int32) (f13_j13_s0 p1) p2 p3 h0 n0) (W := 1) (by decide) (by decide) (by decide) (by decide) rfl rfl (argsL := [(.int p1), (.int (1 : Int32)), (.int (1 : Int32)), (.int (f13_j13_s0 p1)), (.int p2), (.int p3)]) (rest := [(.int (f16 p1 (0 : Int32) (1 : Int32) (0 : Int32) p2 p3))]) (by rw [hml]; rfl) (lenOf pd_10 rfl) rfl rfl (Nat.le_of_eq rfl) (hb hby d13_37) rfl ?_
      intro T25 X25
      refine Rt.callP (pc' := 43) (r := (.int (f10 (f13_a40_0 p1 p2 p3) (f13_a40_1 p1 p2 p3)))) X25 hx hZ (y := mt1) hown (hw _ (List.mem_of_getElem? (i := 113) rfl)) (hw _ (List.mem_of_getElem? (i := 90) rfl)) (hw _ (List.mem_of_getElem? (i := 3) rfl)) (hw _ (List.mem_of_getElem? (i := 91) rfl)) (by decide) (rm10 l Z a0 hw [] (f13_a40_0 p1 p2 p3) (f13_a40_1 p1 p2 p3) h0 n0) (W := 0) (by decide) (by decide) (by decide) (by decide) rfl rfl (argsL := [(.int (f13_a40_0 p1 p2 p3)), (.int (f13_a40_1 p1 p2 p3))]) (rest := []) (by rw [hml]; rfl) (lenOf pd_0 rfl) rfl rfl (Nat.le_of_eq rfl) (hb hby d13_40) rfl ?_
      intro T26 X26
      refine Rt.goto (pc' := 47) X26 hx (hb hby d13_43) (by decide) (by decide) ?_
      have q := J19_4 T26   X26
      rw [show (f13_j47_s0 p1 p2 p3) = (f10 (f13_a40_0 p1 p2 p3) (f13_a40_1 p1 p2 p3)) from by rw [f13_j47_s0, if_neg hc19_23]] at q
      exact q
  by_cases hc5_27 : (f14 p1 (0 : Int32)) = (0 : Int32)
  · refine Rt.ifY (pc' := 12) X1 hx (hb hby d13_5) ((if0 _ _).trans (teq hc5_27).1) (by decide) (by decide) ?_
    refine Rt.iconst (pc' := 13) (v := (0 : Int32)) X1 hx (hb hby d13_12) rfl rfl ?_
    have q := J5_2 T1   X1
    rw [show (f13_j13_s0 p1) = (0 : Int32) from by rw [f13_j13_s0, if_pos hc5_27]] at q
    exact q
  · refine Rt.ifN (pc' := 8) X1 hx (hb hby d13_5) ((if0 _ _).trans (feq hc5_27).1) rfl ?_
    refine Rt.iconst (pc' := 9) (v := (1 : Int32)) X1 hx (hb hby d13_8) rfl rfl ?_
    refine Rt.goto (pc' := 13) X1 hx (hb hby d13_9) (by decide) (by decide) ?_
    have q := J5_2 T1   X1
    rw [show (f13_j13_s0 p1) = (1 : Int32) from by rw [f13_j13_s0, if_neg hc5_27]] at q
    exact q
theorem d12_0 : decode method_3_code 0 = .ok (.iload_n 0, 1) := by decide +kernel
theorem d12_1 : decode method_3_code 1 = .ok (.iload_n 2, 1) := by decide +kernel
theorem d12_2 : decode method_3_code 2 = .ok (.iconst (-1), 1) := by decide +kernel
theorem d12_3 : decode method_3_code 3 = .ok (.ixor, 1) := by decide +kernel
theorem d12_4 : decode method_3_code 4 = .ok (.iand, 1) := by decide +kernel
theorem d12_5 : decode method_3_code 5 = .ok (.bipush 15, 2) := by decide +kernel
theorem d12_7 : decode method_3_code 7 = .ok (.iand, 1) := by decide +kernel
theorem d12_8 : decode method_3_code 8 = .ok (.ifCond .eq 6, 3) := by decide +kernel
theorem d12_14 : decode method_3_code 14 = .ok (.iload_n 0, 1) := by decide +kernel
theorem d12_15 : decode method_3_code 15 = .ok (.iconst (-1), 1) := by decide +kernel
theorem d12_16 : decode method_3_code 16 = .ok (.ixor, 1) := by decide +kernel
theorem d12_17 : decode method_3_code 17 = .ok (.iload_n 1, 1) := by decide +kernel
theorem d12_18 : decode method_3_code 18 = .ok (.iconst (-1), 1) := by decide +kernel
theorem d12_19 : decode method_3_code 19 = .ok (.ixor, 1) := by decide +kernel
theorem d12_20 : decode method_3_code 20 = .ok (.iand, 1) := by decide +kernel
theorem d12_21 : decode method_3_code 21 = .ok (.bipush 15, 2) := by decide +kernel
theorem d12_23 : decode method_3_code 23 = .ok (.iand, 1) := by decide +kernel
theorem d12_24 : decode method_3_code 24 = .ok (.ifCond .eq 6, 3) := by decide +kernel
theorem d12_30 : decode method_3_code 30 = .ok (.iload_n 0, 1) := by decide +kernel
theorem d12_31 : decode method_3_code 31 = .ok (.iload_n 3, 1) := by decide +kernel
theorem d12_32 : decode method_3_code 32 = .ok (.iload 4, 2) := by decide +kernel
theorem pd_11 : parseMethodDescriptor "(III)I" = some ⟨[.int, .int, .int], some .int⟩ := by decide +kernel
theorem d12_34 : decode method_3_code 34 = .ok (.invokestatic 32, 3) := by decide +kernel
theorem d12_37 : decode method_3_code 37 = .ok (.ireturn, 1) := by decide +kernel
theorem d12_27 : decode method_3_code 27 = .ok (.bipush 99, 2) := by decide +kernel
theorem d12_29 : decode method_3_code 29 = .ok (.ireturn, 1) := by decide +kernel
theorem d12_11 : decode method_3_code 11 = .ok (.bipush 99, 2) := by decide +kernel
theorem d12_13 : decode method_3_code 13 = .ok (.ireturn, 1) := by decide +kernel
def f12 (p1 : Int32) (p2 : Int32) (p3 : Int32) (p4 : Int32) (p5 : Int32) : Int32 := (if ((p1 &&& (p3 ^^^ (-1 : Int32))) &&& (15 : Int32)) = (0 : Int32) then (if (((p1 ^^^ (-1 : Int32)) &&& (p2 ^^^ (-1 : Int32))) &&& (15 : Int32)) = (0 : Int32) then (f13 p1 p4 p5) else (99 : Int32)) else (99 : Int32))
def Q12 (p1 : Int32) (p2 : Int32) (p3 : Int32) (p4 : Int32) (p5 : Int32) (h0 : Heap) (n0 : Nat) (v : Option Value) (h : Heap) (L : List Loc) : Prop := v = some (.int (f12 p1 p2 p3 p4 p5)) ∧ Fr n0 L ∧ h = h0
def rmR12 : Room := { frames := 5, cells := 0, slots := 0, locals := 83 }
theorem ef_12 (m : MethodId) (p1 : Int32) (p2 : Int32) (p3 : Int32) (p4 : Int32) (p5 : Int32) : entryFrame m #[(.int p1), (.int p2), (.int p3), (.int p4), (.int p5)] 5 = mkF m 0 #[.val (.int p1), .val (.int p2), .val (.int p3), .val (.int p4), .val (.int p5)] [] := by first | (simp [entryFrame, mkF, argsToLocals, Value.category]; done) | rfl
set_option maxRecDepth 65536 in
set_option maxHeartbeats 40000000 in
theorem rm12 (l : Launch) (Z : State) (a0 : Array Value) (hw : ∀ d ∈ tables_1, d.before a0 Z = true) (ws : List Jvm.Cond) (p1 : Int32) (p2 : Int32) (p3 : Int32) (p4 : Int32) (p5 : Int32) (h0 : Heap) (n0 : Nat) :
    Mt l Z mt17 (Jvm.Cond.code mt17 method_3_code 5 (some .int) :: ws) rmR12 #[(.int p1), (.int p2), (.int p3), (.int p4), (.int p5)] h0 (Q12 p1 p2 p3 p4 p5 h0 n0) := by
  refine Mt.of n0 (plainFor_of_name pn_com_example_tightfold_tightfold_FocusFilteringFewestRunsPinLaw) ?_
  intro p e s m below meth c T0 X0 hx hZ hby hml hown hret hlk hnm hs0
  have hown : s.vm.findClass "com/example/tightfold/tightfold/FocusFilteringFewestRunsPinLaw" = some m.cls := hown
  rw [ef_12]
  show Rt p e below s rmR12.cells rmR12.slots (Q12 p1 p2 p3 p4 p5 h0 n0) (T0.setTop (mkF m 0 #[.val (.int p1), .val (.int p2), .val (.int p3), .val (.int p4), .val (.int p5)] []))
  refine Rt.iloadN (pc' := 1) X0 hx (hb hby d12_0) rfl rfl ?_
  refine Rt.iloadN (pc' := 2) X0 hx (hb hby d12_1) rfl rfl ?_
  refine Rt.iconst (pc' := 3) (v := (-1 : Int32)) X0 hx (hb hby d12_2) rfl rfl ?_
  refine Rt.ixor (pc' := 4) (r := (p3 ^^^ (-1 : Int32))) X0 hx (hb hby d12_3) rfl rfl ?_
  refine Rt.iand (pc' := 5) (r := (p1 &&& (p3 ^^^ (-1 : Int32)))) X0 hx (hb hby d12_4) rfl rfl ?_
  refine Rt.bipush (pc' := 7) (v := (15 : Int32)) X0 hx (hb hby d12_5) rfl rfl ?_
  refine Rt.iand (pc' := 8) (r := ((p1 &&& (p3 ^^^ (-1 : Int32))) &&& (15 : Int32))) X0 hx (hb hby d12_7) rfl rfl ?_
  by_cases hc8_1 : ((p1 &&& (p3 ^^^ (-1 : Int32))) &&& (15 : Int32)) = (0 : Int32)
  · refine Rt.ifY (pc' := 14) X0 hx (hb hby d12_8) ((if0 _ _).trans (teq hc8_1).1) (by decide) (by decide) ?_
    refine Rt.iloadN (pc' := 15) X0 hx (hb hby d12_14) rfl rfl ?_
    refine Rt.iconst (pc' := 16) (v := (-1 : Int32)) X0 hx (hb hby d12_15) rfl rfl ?_
    refine Rt.ixor (pc' := 17) (r := (p1 ^^^ (-1 : Int32))) X0 hx (hb hby d12_16) rfl rfl ?_
    refine Rt.iloadN (pc' := 18) X0 hx (hb hby d12_17) rfl rfl ?_
    refine Rt.iconst (pc' := 19) (v := (-1 : Int32)) X0 hx (hb hby d12_18) rfl rfl ?_
    refine Rt.ixor (pc' := 20) (r := (p2 ^^^ (-1 : Int32))) X0 hx (hb hby d12_19) rfl rfl ?_
    refine Rt.iand (pc' := 21) (r := ((p1 ^^^ (-1 : Int32)) &&& (p2 ^^^ (-1 : Int32)))) X0 hx (hb hby d12_20) rfl rfl ?_
    refine Rt.bipush (pc' := 23) (v := (15 : Int32)) X0 hx (hb hby d12_21) rfl rfl ?_
    refine Rt.iand (pc' := 24) (r := (((p1 ^^^ (-1 : Int32)) &&& (p2 ^^^ (-1 : Int32))) &&& (15 : Int32))) X0 hx (hb hby d12_23) rfl rfl ?_
    by_cases hc24_2 : (((p1 ^^^ (-1 : Int32)) &&& (p2 ^^^ (-1 : Int32))) &&& (15 : Int32)) = (0 : Int32)
    · refine Rt.ifY (pc' := 30) X0 hx (hb hby d12_24) ((if0 _ _).trans (teq hc24_2).1) (by decide) (by decide) ?_
      refine Rt.iloadN (pc' := 31) X0 hx (hb hby d12_30) rfl rfl ?_
      refine Rt.iloadN (pc' := 32) X0 hx (hb hby d12_31) rfl rfl ?_
      refine Rt.iload (pc' := 34) X0 hx (hb hby d12_32) rfl rfl ?_
      refine Rt.callP (pc' := 37) (r := (.int (f13 p1 p4 p5))) X0 hx hZ (y := mt16) hown (hw _ (List.mem_of_getElem? (i := 107) rfl)) (hw _ (List.mem_of_getElem? (i := 108) rfl)) (hw _ (List.mem_of_getElem? (i := 105) rfl)) (hw _ (List.mem_of_getElem? (i := 109) rfl)) (by decide) (rm13 l Z a0 hw [] p1 p4 p5 h0 n0) (W := 0) (by decide) (by decide) (by decide) (by decide) rfl rfl (argsL := [(.int p1), (.int p4), (.int p5)]) (rest := []) (by rw [hml]; rfl) (lenOf pd_11 rfl) rfl rfl (Nat.le_of_eq rfl) (hb hby d12_34) rfl ?_
      intro T3 X3
      exact Rt.retI X3 hx hlk hret (hb hby d12_37) (by decide) (by decide) (fun L N => ⟨congrArg some (congrArg Value.int (by rw [f12, if_pos hc8_1, if_pos hc24_2])), N, rfl⟩)
    · refine Rt.ifN (pc' := 27) X0 hx (hb hby d12_24) ((if0 _ _).trans (feq hc24_2).1) rfl ?_
      refine Rt.bipush (pc' := 29) (v := (99 : Int32)) X0 hx (hb hby d12_27) rfl rfl ?_
      exact Rt.retI X0 hx hlk hret (hb hby d12_29) (by decide) (by decide) (fun L N => ⟨congrArg some (congrArg Value.int (by rw [f12, if_pos hc8_1, if_neg hc24_2])), N, rfl⟩)
  · refine Rt.ifN (pc' := 11) X0 hx (hb hby d12_8) ((if0 _ _).trans (feq hc8_1).1) rfl ?_
    refine Rt.bipush (pc' := 13) (v := (99 : Int32)) X0 hx (hb hby d12_11) rfl rfl ?_
    exact Rt.retI X0 hx hlk hret (hb hby d12_13) (by decide) (by decide) (fun L N => ⟨congrArg some (congrArg Value.int (by rw [f12, if_neg hc8_1])), N, rfl⟩)
theorem pd_12 : parseMethodDescriptor "([Z[ZI)I" = some ⟨[(.array .boolean), (.array .boolean), .int], some .int⟩ := by decide +kernel
theorem pd_13 : parseMethodDescriptor "(IIIII)I" = some ⟨[.int, .int, .int, .int, .int], some .int⟩ := by decide +kernel
def f0_a5_1 (p2 : Int32) : Int32 := (p2 &&& (2147483647 : Int32))
def f0_v8 (p2 : Int32) : Int32 := (f1 (1 : Int32) (f0_a5_1 p2))
def f0_v13 (p3 : Int32) : Int32 := (p3 &&& (2147483647 : Int32))
def f0_v22 (p1 : Int32) : Int32 := (((p1 &&& (3 : Int32)) % (3 : Int32)) + (1 : Int32))
def f0_v33 (p1 : Int32) : Int32 := (((((p1.toUInt32 >>> ((2 : Int32) &&& 31).toUInt32).toInt32) &&& (3 : Int32)) % (3 : Int32)) + (1 : Int32))
def f0_v44 (p1 : Int32) : Int32 := (((((p1.toUInt32 >>> ((4 : Int32) &&& 31).toUInt32).toInt32) &&& (3 : Int32)) % (3 : Int32)) + (1 : Int32))
def f0_v56 (p1 : Int32) : Int32 := (((((p1.toUInt32 >>> ((6 : Int32) &&& 31).toUInt32).toInt32) &&& (3 : Int32)) % (3 : Int32)) + (1 : Int32))
def f0_j83_s0 (p1 : Int32) : Int32 := (if ((f0_v22 p1) &&& (1 : Int32)) = (0 : Int32) then (0 : Int32) else (1 : Int32))
def f0_w83 (p1 : Int32) : Int32 := (nar .boolean (f0_j83_s0 p1))
def f0_j99_s0 (p1 : Int32) : Int32 := (if ((f0_v22 p1) &&& (2 : Int32)) = (0 : Int32) then (0 : Int32) else (1 : Int32))
def f0_w99 (p1 : Int32) : Int32 := (nar .boolean (f0_j99_s0 p1))
def f0_j115_s0 (p1 : Int32) : Int32 := (if ((f0_v33 p1) &&& (1 : Int32)) = (0 : Int32) then (0 : Int32) else (1 : Int32))
def f0_w115 (p1 : Int32) : Int32 := (nar .boolean (f0_j115_s0 p1))
def f0_j131_s0 (p1 : Int32) : Int32 := (if ((f0_v33 p1) &&& (2 : Int32)) = (0 : Int32) then (0 : Int32) else (1 : Int32))
def f0_w131 (p1 : Int32) : Int32 := (nar .boolean (f0_j131_s0 p1))
def f0_j147_s0 (p1 : Int32) : Int32 := (if ((f0_v44 p1) &&& (1 : Int32)) = (0 : Int32) then (0 : Int32) else (1 : Int32))
def f0_w147 (p1 : Int32) : Int32 := (nar .boolean (f0_j147_s0 p1))
def f0_j163_s0 (p1 : Int32) : Int32 := (if ((f0_v44 p1) &&& (2 : Int32)) = (0 : Int32) then (0 : Int32) else (1 : Int32))
def f0_w163 (p1 : Int32) : Int32 := (nar .boolean (f0_j163_s0 p1))
def f0_j179_s0 (p1 : Int32) : Int32 := (if ((f0_v56 p1) &&& (1 : Int32)) = (0 : Int32) then (0 : Int32) else (1 : Int32))
def f0_w179 (p1 : Int32) : Int32 := (nar .boolean (f0_j179_s0 p1))
def f0_j195_s0 (p1 : Int32) : Int32 := (if ((f0_v56 p1) &&& (2 : Int32)) = (0 : Int32) then (0 : Int32) else (1 : Int32))
def f0_w195 (p1 : Int32) : Int32 := (nar .boolean (f0_j195_s0 p1))
def f0_v221 (p1 : Int32) : Int32 := (((((f0_v22 p1) &&& (1 : Int32)) ||| (((f0_v33 p1) &&& (1 : Int32)) <<< ((1 : Int32) &&& 31))) ||| (((f0_v44 p1) &&& (1 : Int32)) <<< ((2 : Int32) &&& 31))) ||| (((f0_v56 p1) &&& (1 : Int32)) <<< ((3 : Int32) &&& 31)))
def f0_v256 (p1 : Int32) : Int32 := ((((((f0_v22 p1) >>> ((1 : Int32) &&& 31)) &&& (1 : Int32)) ||| ((((f0_v33 p1) >>> ((1 : Int32) &&& 31)) &&& (1 : Int32)) <<< ((1 : Int32) &&& 31))) ||| ((((f0_v44 p1) >>> ((1 : Int32) &&& 31)) &&& (1 : Int32)) <<< ((2 : Int32) &&& 31))) ||| ((((f0_v56 p1) >>> ((1 : Int32) &&& 31)) &&& (1 : Int32)) <<< ((3 : Int32) &&& 31)))
def f0_v280 (p1 : Int32) (p2 : Int32) (p3 : Int32) : Int32 := (f4 (f0_v8 p2) (f0_v13 p3) (f0_w83 p1) (f0_w115 p1) (f0_w147 p1) (f0_w179 p1) (f0_w99 p1) (f0_w131 p1) (f0_w163 p1) (f0_w195 p1))
def f0_a299_1 (p1 : Int32) (p2 : Int32) (p3 : Int32) : Int32 := (f12 (0 : Int32) (f0_v221 p1) (f0_v256 p1) (f0_v8 p2) (f0_v13 p3))
def f0_v302 (p1 : Int32) (p2 : Int32) (p3 : Int32) : Int32 := (f10 (99 : Int32) (f0_a299_1 p1 p2 p3))
def f0_a317_1 (p1 : Int32) (p2 : Int32) (p3 : Int32) : Int32 := (f12 (1 : Int32) (f0_v221 p1) (f0_v256 p1) (f0_v8 p2) (f0_v13 p3))
def f0_v320 (p1 : Int32) (p2 : Int32) (p3 : Int32) : Int32 := (f10 (f0_v302 p1 p2 p3) (f0_a317_1 p1 p2 p3))
def f0_a335_1 (p1 : Int32) (p2 : Int32) (p3 : Int32) : Int32 := (f12 (2 : Int32) (f0_v221 p1) (f0_v256 p1) (f0_v8 p2) (f0_v13 p3))
def f0_v338 (p1 : Int32) (p2 : Int32) (p3 : Int32) : Int32 := (f10 (f0_v320 p1 p2 p3) (f0_a335_1 p1 p2 p3))
def f0_a353_1 (p1 : Int32) (p2 : Int32) (p3 : Int32) : Int32 := (f12 (3 : Int32) (f0_v221 p1) (f0_v256 p1) (f0_v8 p2) (f0_v13 p3))
def f0_v356 (p1 : Int32) (p2 : Int32) (p3 : Int32) : Int32 := (f10 (f0_v338 p1 p2 p3) (f0_a353_1 p1 p2 p3))
def f0_a371_1 (p1 : Int32) (p2 : Int32) (p3 : Int32) : Int32 := (f12 (4 : Int32) (f0_v221 p1) (f0_v256 p1) (f0_v8 p2) (f0_v13 p3))
def f0_v374 (p1 : Int32) (p2 : Int32) (p3 : Int32) : Int32 := (f10 (f0_v356 p1 p2 p3) (f0_a371_1 p1 p2 p3))
def f0_a389_1 (p1 : Int32) (p2 : Int32) (p3 : Int32) : Int32 := (f12 (5 : Int32) (f0_v221 p1) (f0_v256 p1) (f0_v8 p2) (f0_v13 p3))
def f0_v392 (p1 : Int32) (p2 : Int32) (p3 : Int32) : Int32 := (f10 (f0_v374 p1 p2 p3) (f0_a389_1 p1 p2 p3))
def f0_a408_1 (p1 : Int32) (p2 : Int32) (p3 : Int32) : Int32 := (f12 (6 : Int32) (f0_v221 p1) (f0_v256 p1) (f0_v8 p2) (f0_v13 p3))
def f0_v411 (p1 : Int32) (p2 : Int32) (p3 : Int32) : Int32 := (f10 (f0_v392 p1 p2 p3) (f0_a408_1 p1 p2 p3))
def f0_a427_1 (p1 : Int32) (p2 : Int32) (p3 : Int32) : Int32 := (f12 (7 : Int32) (f0_v221 p1) (f0_v256 p1) (f0_v8 p2) (f0_v13 p3))
def f0_v430 (p1 : Int32) (p2 : Int32) (p3 : Int32) : Int32 := (f10 (f0_v411 p1 p2 p3) (f0_a427_1 p1 p2 p3))
def f0_a446_1 (p1 : Int32) (p2 : Int32) (p3 : Int32) : Int32 := (f12 (8 : Int32) (f0_v221 p1) (f0_v256 p1) (f0_v8 p2) (f0_v13 p3))
def f0_v449 (p1 : Int32) (p2 : Int32) (p3 : Int32) : Int32 := (f10 (f0_v430 p1 p2 p3) (f0_a446_1 p1 p2 p3))
def f0_a465_1 (p1 : Int32) (p2 : Int32) (p3 : Int32) : Int32 := (f12 (9 : Int32) (f0_v221 p1) (f0_v256 p1) (f0_v8 p2) (f0_v13 p3))
def f0_v468 (p1 : Int32) (p2 : Int32) (p3 : Int32) : Int32 := (f10 (f0_v449 p1 p2 p3) (f0_a465_1 p1 p2 p3))
def f0_a484_1 (p1 : Int32) (p2 : Int32) (p3 : Int32) : Int32 := (f12 (10 : Int32) (f0_v221 p1) (f0_v256 p1) (f0_v8 p2) (f0_v13 p3))
def f0_v487 (p1 : Int32) (p2 : Int32) (p3 : Int32) : Int32 := (f10 (f0_v468 p1 p2 p3) (f0_a484_1 p1 p2 p3))
def f0_a503_1 (p1 : Int32) (p2 : Int32) (p3 : Int32) : Int32 := (f12 (11 : Int32) (f0_v221 p1) (f0_v256 p1) (f0_v8 p2) (f0_v13 p3))
def f0_v506 (p1 : Int32) (p2 : Int32) (p3 : Int32) : Int32 := (f10 (f0_v487 p1 p2 p3) (f0_a503_1 p1 p2 p3))
def f0_a522_1 (p1 : Int32) (p2 : Int32) (p3 : Int32) : Int32 := (f12 (12 : Int32) (f0_v221 p1) (f0_v256 p1) (f0_v8 p2) (f0_v13 p3))
def f0_v525 (p1 : Int32) (p2 : Int32) (p3 : Int32) : Int32 := (f10 (f0_v506 p1 p2 p3) (f0_a522_1 p1 p2 p3))
def f0_a541_1 (p1 : Int32) (p2 : Int32) (p3 : Int32) : Int32 := (f12 (13 : Int32) (f0_v221 p1) (f0_v256 p1) (f0_v8 p2) (f0_v13 p3))
def f0_v544 (p1 : Int32) (p2 : Int32) (p3 : Int32) : Int32 := (f10 (f0_v525 p1 p2 p3) (f0_a541_1 p1 p2 p3))
def f0_a560_1 (p1 : Int32) (p2 : Int32) (p3 : Int32) : Int32 := (f12 (14 : Int32) (f0_v221 p1) (f0_v256 p1) (f0_v8 p2) (f0_v13 p3))
def f0_v563 (p1 : Int32) (p2 : Int32) (p3 : Int32) : Int32 := (f10 (f0_v544 p1 p2 p3) (f0_a560_1 p1 p2 p3))
def f0_a579_1 (p1 : Int32) (p2 : Int32) (p3 : Int32) : Int32 := (f12 (15 : Int32) (f0_v221 p1) (f0_v256 p1) (f0_v8 p2) (f0_v13 p3))
def f0_v582 (p1 : Int32) (p2 : Int32) (p3 : Int32) : Int32 := (f10 (f0_v563 p1 p2 p3) (f0_a579_1 p1 p2 p3))
def f0 (p1 : Int32) (p2 : Int32) (p3 : Int32) : Int32 := (if (f0_v280 p1 p2 p3) = (f0_v582 p1 p2 p3) then (1 : Int32) else (0 : Int32))
def Q0 (Z : State) (p1 : Int32) (p2 : Int32) (p3 : Int32) (h0 : Heap) (n0 : Nat) (v : Option Value) (h : Heap) (L : List Loc) : Prop := v = some (.int (f0 p1 p2 p3)) ∧ Fr n0 L ∧ Keep h0 h []
theorem ef_0 (m : MethodId) (p1 : Int32) (p2 : Int32) (p3 : Int32) : entryFrame m #[(.int p1), (.int p2), (.int p3)] maxLocals = mkF m 0 #[.val (.int p1), .val (.int p2), .val (.int p3), .unset, .unset, .unset, .unset, .unset, .unset, .unset, .unset, .unset, .unset, .unset, .unset, .unset] [] := by first | (simp [entryFrame, mkF, argsToLocals, Value.category, maxLocals]; done) | rfl
set_option maxRecDepth 65536 in
set_option maxHeartbeats 40000000 in
theorem rm0 (l : Launch) (Z : State) (a0 : Array Value) (hw : ∀ d ∈ tables_1, d.before a0 Z = true) (ws : List Jvm.Cond) (p1 : Int32) (p2 : Int32) (p3 : Int32) (h0 : Heap) (n0 : Nat) (Z0 : n0 ≤ h0.size) :
    Mt l Z x (Jvm.Cond.code x code maxLocals ret :: ws) room_1 #[(.int p1), (.int p2), (.int p3)] h0 (Q0 Z p1 p2 p3 h0 n0) := by
  refine Mt.of n0 (plainFor_of_name pn_com_example_tightfold_tightfold_FocusFilteringFewestRunsPinLaw) ?_
  intro p e s m below meth c T0 X0 hx hZ hby hml hown hret hlk hnm hs0
  have hml : c.maxLocals = 16 := hml
  have hret : meth.sig.returnType = some .boolean := hret
  have hown : s.vm.findClass "com/example/tightfold/tightfold/FocusFilteringFewestRunsPinLaw" = some m.cls := hown
  rw [ef_0]
  show Rt p e below s room_1.cells room_1.slots (Q0 Z p1 p2 p3 h0 n0) (T0.setTop (mkF m 0 #[.val (.int p1), .val (.int p2), .val (.int p3), .unset, .unset, .unset, .unset, .unset, .unset, .unset, .unset, .unset, .unset, .unset, .unset, .unset] []))
  refine Rt.iconst (pc' := 1) (v := (1 : Int32)) X0 hx (hb hby at_0) rfl rfl ?_
  refine Rt.iloadN (pc' := 2) X0 hx (hb hby at_1) rfl rfl ?_
  refine Rt.ldcInt (pc' := 4) X0 hx hZ hown (hw _ (List.mem_of_getElem? (i := 0) rfl)) (hb hby at_2) rfl ?_
  refine Rt.iand (pc' := 5) (r := (p2 &&& (2147483647 : Int32))) X0 hx (hb hby at_4) rfl rfl ?_
  refine Rt.callP (pc' := 8) (r := (.int (f1 (1 : Int32) (f0_a5_1 p2)))) X0 hx hZ (y := mt2) hown (hw _ (List.mem_of_getElem? (i := 1) rfl)) (hw _ (List.mem_of_getElem? (i := 2) rfl)) (hw _ (List.mem_of_getElem? (i := 3) rfl)) (hw _ (List.mem_of_getElem? (i := 4) rfl)) (by decide) (rm1 l Z a0 hw [] (1 : Int32) (f0_a5_1 p2) h0 n0) (W := 0) (by decide) (by decide) (by decide) (by decide) rfl rfl (argsL := [(.int (1 : Int32)), (.int (f0_a5_1 p2))]) (rest := []) (by rw [hml]; rfl) (lenOf pd_0 rfl) rfl rfl (Nat.le_of_eq rfl) (hb hby at_5) rfl ?_
  intro T1 X1
  refine Rt.istoreN (pc' := 9) (v := (f0_v8 p2)) (l' := #[.val (.int p1), .val (.int p2), .val (.int p3), .val (.int (f0_v8 p2)), .unset, .unset, .unset, .unset, .unset, .unset, .unset, .unset, .unset, .unset, .unset, .unset]) X1 hx (hb hby at_8) rfl rfl ?_
  refine Rt.iloadN (pc' := 10) X1 hx (hb hby at_9) rfl rfl ?_
  refine Rt.ldcInt (pc' := 12) X1 hx hZ hown (hw _ (List.mem_of_getElem? (i := 0) rfl)) (hb hby at_10) rfl ?_
  refine Rt.iand (pc' := 13) (r := (p3 &&& (2147483647 : Int32))) X1 hx (hb hby at_12) rfl rfl ?_
  refine Rt.istore (pc' := 15) (v := (f0_v13 p3)) (l' := #[.val (.int p1), .val (.int p2), .val (.int p3), .val (.int (f0_v8 p2)), .val (.int (f0_v13 p3)), .unset, .unset, .unset, .unset, .unset, .unset, .unset, .unset, .unset, .unset, .unset]) X1 hx (hb hby at_13) rfl rfl ?_
  refine Rt.iloadN (pc' := 16) X1 hx (hb hby at_15) rfl rfl ?_
  refine Rt.iconst (pc' := 17) (v := (3 : Int32)) X1 hx (hb hby at_16) rfl rfl ?_
  refine Rt.iand (pc' := 18) (r := (p1 &&& (3 : Int32))) X1 hx (hb hby at_17) rfl rfl ?_
  refine Rt.iconst (pc' := 19) (v := (3 : Int32)) X1 hx (hb hby at_18) rfl rfl ?_
  refine Rt.irem (pc' := 20) X1 hx (hb hby at_19) (by decide) rfl rfl ?_
  refine Rt.iconst (pc' := 21) (v := (1 : Int32)) X1 hx (hb hby at_20) rfl rfl ?_
  refine Rt.iadd (pc' := 22) (r := (((p1 &&& (3 : Int32)) % (3 : Int32)) + (1 : Int32))) X1 hx (hb hby at_21) rfl rfl ?_
  refine Rt.istore (pc' := 24) (v := (f0_v22 p1)) (l' := #[.val (.int p1), .val (.int p2), .val (.int p3), .val (.int (f0_v8 p2)), .val (.int (f0_v13 p3)), .val (.int (f0_v22 p1)), .unset, .unset, .unset, .unset, .unset, .unset, .unset, .unset, .unset, .unset]) X1 hx (hb hby at_22) rfl rfl ?_
  refine Rt.iloadN (pc' := 25) X1 hx (hb hby at_24) rfl rfl ?_
  refine Rt.iconst (pc' := 26) (v := (2 : Int32)) X1 hx (hb hby at_25) rfl rfl ?_
  refine Rt.iushr (pc' := 27) (r := ((p1.toUInt32 >>> ((2 : Int32) &&& 31).toUInt32).toInt32)) X1 hx (hb hby at_26) rfl rfl ?_
  refine Rt.iconst (pc' := 28) (v := (3 : Int32)) X1 hx (hb hby at_27) rfl rfl ?_
  refine Rt.iand (pc' := 29) (r := (((p1.toUInt32 >>> ((2 : Int32) &&& 31).toUInt32).toInt32) &&& (3 : Int32))) X1 hx (hb hby at_28) rfl rfl ?_
  refine Rt.iconst (pc' := 30) (v := (3 : Int32)) X1 hx (hb hby at_29) rfl rfl ?_
  refine Rt.irem (pc' := 31) X1 hx (hb hby at_30) (by decide) rfl rfl ?_
  refine Rt.iconst (pc' := 32) (v := (1 : Int32)) X1 hx (hb hby at_31) rfl rfl ?_
  refine Rt.iadd (pc' := 33) (r := (((((p1.toUInt32 >>> ((2 : Int32) &&& 31).toUInt32).toInt32) &&& (3 : Int32)) % (3 : Int32)) + (1 : Int32))) X1 hx (hb hby at_32) rfl rfl ?_
  refine Rt.istore (pc' := 35) (v := (f0_v33 p1)) (l' := #[.val (.int p1), .val (.int p2), .val (.int p3), .val (.int (f0_v8 p2)), .val (.int (f0_v13 p3)), .val (.int (f0_v22 p1)), .val (.int (f0_v33 p1)), .unset, .unset, .unset, .unset, .unset, .unset, .unset, .unset, .unset]) X1 hx (hb hby at_33) rfl rfl ?_
  refine Rt.iloadN (pc' := 36) X1 hx (hb hby at_35) rfl rfl ?_
  refine Rt.iconst (pc' := 37) (v := (4 : Int32)) X1 hx (hb hby at_36) rfl rfl ?_
  refine Rt.iushr (pc' := 38) (r := ((p1.toUInt32 >>> ((4 : Int32) &&& 31).toUInt32).toInt32)) X1 hx (hb hby at_37) rfl rfl ?_
  refine Rt.iconst (pc' := 39) (v := (3 : Int32)) X1 hx (hb hby at_38) rfl rfl ?_
  refine Rt.iand (pc' := 40) (r := (((p1.toUInt32 >>> ((4 : Int32) &&& 31).toUInt32).toInt32) &&& (3 : Int32))) X1 hx (hb hby at_39) rfl rfl ?_
  refine Rt.iconst (pc' := 41) (v := (3 : Int32)) X1 hx (hb hby at_40) rfl rfl ?_
  refine Rt.irem (pc' := 42) X1 hx (hb hby at_41) (by decide) rfl rfl ?_
  refine Rt.iconst (pc' := 43) (v := (1 : Int32)) X1 hx (hb hby at_42) rfl rfl ?_
  refine Rt.iadd (pc' := 44) (r := (((((p1.toUInt32 >>> ((4 : Int32) &&& 31).toUInt32).toInt32) &&& (3 : Int32)) % (3 : Int32)) + (1 : Int32))) X1 hx (hb hby at_43) rfl rfl ?_
  refine Rt.istore (pc' := 46) (v := (f0_v44 p1)) (l' := #[.val (.int p1), .val (.int p2), .val (.int p3), .val (.int (f0_v8 p2)), .val (.int (f0_v13 p3)), .val (.int (f0_v22 p1)), .val (.int (f0_v33 p1)), .val (.int (f0_v44 p1)), .unset, .unset, .unset, .unset, .unset, .unset, .unset, .unset]) X1 hx (hb hby at_44) rfl rfl ?_
  refine Rt.iloadN (pc' := 47) X1 hx (hb hby at_46) rfl rfl ?_
  refine Rt.bipush (pc' := 49) (v := (6 : Int32)) X1 hx (hb hby at_47) rfl rfl ?_
  refine Rt.iushr (pc' := 50) (r := ((p1.toUInt32 >>> ((6 : Int32) &&& 31).toUInt32).toInt32)) X1 hx (hb hby at_49) rfl rfl ?_
  refine Rt.iconst (pc' := 51) (v := (3 : Int32)) X1 hx (hb hby at_50) rfl rfl ?_
  refine Rt.iand (pc' := 52) (r := (((p1.toUInt32 >>> ((6 : Int32) &&& 31).toUInt32).toInt32) &&& (3 : Int32))) X1 hx (hb hby at_51) rfl rfl ?_
  refine Rt.iconst (pc' := 53) (v := (3 : Int32)) X1 hx (hb hby at_52) rfl rfl ?_
  refine Rt.irem (pc' := 54) X1 hx (hb hby at_53) (by decide) rfl rfl ?_
  refine Rt.iconst (pc' := 55) (v := (1 : Int32)) X1 hx (hb hby at_54) rfl rfl ?_
  refine Rt.iadd (pc' := 56) (r := (((((p1.toUInt32 >>> ((6 : Int32) &&& 31).toUInt32).toInt32) &&& (3 : Int32)) % (3 : Int32)) + (1 : Int32))) X1 hx (hb hby at_55) rfl rfl ?_
  refine Rt.istore (pc' := 58) (v := (f0_v56 p1)) (l' := #[.val (.int p1), .val (.int p2), .val (.int p3), .val (.int (f0_v8 p2)), .val (.int (f0_v13 p3)), .val (.int (f0_v22 p1)), .val (.int (f0_v33 p1)), .val (.int (f0_v44 p1)), .val (.int (f0_v56 p1)), .unset, .unset, .unset, .unset, .unset, .unset, .unset]) X1 hx (hb hby at_56) rfl rfl ?_
  refine Rt.iconst (pc' := 59) (v := (4 : Int32)) X1 hx (hb hby at_58) rfl rfl ?_
  refine Rt.newP (pc' := 61) X1 hx hZ (ty := .boolean) rfl (hw _ (List.mem_of_getElem? (i := 5) rfl)) (z := (4 : Int32)) (i := 4) (by decide) (by decide) (cap := 4) (by decide) (by decide) (hb hby at_59) (by decide) (by decide) rfl ?_
  intro T2 h2 b59 ha2 X2 E2 A2
  have g3 : n0 ≤ b59 := by rw [ha2]; exact Z0
  have s4 : h0.size ≤ b59 := by rw [ha2]; exact (Keep.refl h0 []).1
  have K5 : Keep h0 h2 [] := (Keep.refl h0 []).ext E2
  have Z6 : n0 ≤ h2.size := Nat.le_trans Z0 E2.1
  have A2 : IA Z h2 b59 .boolean [(.int (0 : Int32)), (.int (0 : Int32)), (.int (0 : Int32)), (.int (0 : Int32))] := A2
  refine Rt.astore (pc' := 63) (v := (.ref b59)) (l' := #[.val (.int p1), .val (.int p2), .val (.int p3), .val (.int (f0_v8 p2)), .val (.int (f0_v13 p3)), .val (.int (f0_v22 p1)), .val (.int (f0_v33 p1)), .val (.int (f0_v44 p1)), .val (.int (f0_v56 p1)), .val (.ref b59), .unset, .unset, .unset, .unset, .unset, .unset]) X2 hx (hb hby at_61) rfl rfl rfl ?_
  refine Rt.iconst (pc' := 64) (v := (4 : Int32)) X2 hx (hb hby at_63) rfl rfl ?_
  refine Rt.newP (pc' := 66) X2 hx hZ (ty := .boolean) rfl (hw _ (List.mem_of_getElem? (i := 5) rfl)) (z := (4 : Int32)) (i := 4) (by decide) (by decide) (cap := 4) (by decide) (by decide) (hb hby at_64) (by decide) (by decide) rfl ?_
  intro T7 h7 b64 ha7 X7 E7 A7
  have g8 : n0 ≤ b64 := by rw [ha7]; exact Z6
  have s9 : h0.size ≤ b64 := by rw [ha7]; exact K5.1
  have ne10 : b59 ≠ b64 := by rw [ha7]; exact Nat.ne_of_lt A2.lt
  have F11 : IA Z h7 b59 .boolean [(.int (0 : Int32)), (.int (0 : Int32)), (.int (0 : Int32)), (.int (0 : Int32))] := A2.ext E7
  have K12 : Keep h0 h7 [] := K5.ext E7
  have Z13 : n0 ≤ h7.size := Nat.le_trans Z6 E7.1
  have A7 : IA Z h7 b64 .boolean [(.int (0 : Int32)), (.int (0 : Int32)), (.int (0 : Int32)), (.int (0 : Int32))] := A7
  refine Rt.astore (pc' := 68) (v := (.ref b64)) (l' := #[.val (.int p1), .val (.int p2), .val (.int p3), .val (.int (f0_v8 p2)), .val (.int (f0_v13 p3)), .val (.int (f0_v22 p1)), .val (.int (f0_v33 p1)), .val (.int (f0_v44 p1)), .val (.int (f0_v56 p1)), .val (.ref b59), .val (.ref b64), .unset, .unset, .unset, .unset, .unset]) X7 hx (hb hby at_66) rfl rfl rfl ?_
  refine Rt.aload (pc' := 70) X7 hx (hb hby at_68) rfl rfl rfl ?_
  refine Rt.iconst (pc' := 71) (v := (0 : Int32)) X7 hx (hb hby at_70) rfl rfl ?_
  refine Rt.iload (pc' := 73) X7 hx (hb hby at_71) rfl rfl ?_
  refine Rt.iconst (pc' := 74) (v := (1 : Int32)) X7 hx (hb hby at_73) rfl rfl ?_
  refine Rt.iand (pc' := 75) (r := ((f0_v22 p1) &&& (1 : Int32))) X7 hx (hb hby at_74) rfl rfl ?_
  have J75_14 : ∀ T14  , Sd p l e room_1 s m #[(.int p1), (.int p2), (.int p3)] below meth c T14 n0 2 8 h7 → Rt p e below s room_1.cells room_1.slots (Q0 Z p1 p2 p3 h0 n0) (T14.setTop (mkF m 83 #[.val (.int p1), .val (.int p2), .val (.int p3), .val (.int (f0_v8 p2)), .val (.int (f0_v13 p3)), .val (.int (f0_v22 p1)), .val (.int (f0_v33 p1)), .val (.int (f0_v44 p1)), .val (.int (f0_v56 p1)), .val (.ref b59), .val (.ref b64), .unset, .unset, .unset, .unset, .unset] [(.int (f0_j83_s0 p1)), (.int (0 : Int32)), (.ref b59)])) := by
    intro T14   X14 
    refine Rt.zastore (pc' := 84) X14 hx hZ F11 (i := 0) (by decide) (by decide) (Nat.le_of_ble_eq_true rfl) (w := (.int (f0_w83 p1))) rfl g3 (hb hby at_83) rfl ?_
    intro T15 h15 X15 W15 F15
    have F15 : IA Z h15 b59 .boolean [(.int (f0_w83 p1)), (.int (0 : Int32)), (.int (0 : Int32)), (.int (0 : Int32))] := F15
    have F16 : IA Z h15 b64 .boolean [(.int (0 : Int32)), (.int (0 : Int32)), (.int (0 : Int32)), (.int (0 : Int32))] := A7.other W15 (Ne.symm ne10)
    have K17 : Keep h0 h15 [] := K12.wr W15 (Or.inr s4)
    have Z18 : n0 ≤ h15.size := Nat.le_trans Z13 (Keep.of_wr W15).1
    refine Rt.aload (pc' := 86) X15 hx (hb hby at_84) rfl rfl rfl ?_
    refine Rt.iconst (pc' := 87) (v := (0 : Int32)) X15 hx (hb hby at_86) rfl rfl ?_
    refine Rt.iload (pc' := 89) X15 hx (hb hby at_87) rfl rfl ?_
    refine Rt.iconst (pc' := 90) (v := (2 : Int32)) X15 hx (hb hby at_89) rfl rfl ?_
    refine Rt.iand (pc' := 91) (r := ((f0_v22 p1) &&& (2 : Int32))) X15 hx (hb hby at_90) rfl rfl ?_
    have J91_19 : ∀ T19  , Sd p l e room_1 s m #[(.int p1), (.int p2), (.int p3)] below meth c T19 n0 2 8 h15 → Rt p e below s room_1.cells room_1.slots (Q0 Z p1 p2 p3 h0 n0) (T19.setTop (mkF m 99 #[.val (.int p1), .val (.int p2), .val (.int p3), .val (.int (f0_v8 p2)), .val (.int (f0_v13 p3)), .val (.int (f0_v22 p1)), .val (.int (f0_v33 p1)), .val (.int (f0_v44 p1)), .val (.int (f0_v56 p1)), .val (.ref b59), .val (.ref b64), .unset, .unset, .unset, .unset, .unset] [(.int (f0_j99_s0 p1)), (.int (0 : Int32)), (.ref b64)])) := by
      intro T19   X19 
      refine Rt.zastore (pc' := 100) X19 hx hZ F16 (i := 0) (by decide) (by decide) (Nat.le_of_ble_eq_true rfl) (w := (.int (f0_w99 p1))) rfl g8 (hb hby at_99) rfl ?_
      intro T20 h20 X20 W20 F20
      have F20 : IA Z h20 b64 .boolean [(.int (f0_w99 p1)), (.int (0 : Int32)), (.int (0 : Int32)), (.int (0 : Int32))] := F20
      have F21 : IA Z h20 b59 .boolean [(.int (f0_w83 p1)), (.int (0 : Int32)), (.int (0 : Int32)), (.int (0 : Int32))] := F15.other W20 ne10
      have K22 : Keep h0 h20 [] := K17.wr W20 (Or.inr s9)
      have Z23 : n0 ≤ h20.size := Nat.le_trans Z18 (Keep.of_wr W20).1
      refine Rt.aload (pc' := 102) X20 hx (hb hby at_100) rfl rfl rfl ?_
      refine Rt.iconst (pc' := 103) (v := (1 : Int32)) X20 hx (hb hby at_102) rfl rfl ?_
      refine Rt.iload (pc' := 105) X20 hx (hb hby at_103) rfl rfl ?_
      refine Rt.iconst (pc' := 106) (v := (1 : Int32)) X20 hx (hb hby at_105) rfl rfl ?_
      refine Rt.iand (pc' := 107) (r := ((f0_v33 p1) &&& (1 : Int32))) X20 hx (hb hby at_106) rfl rfl ?_
      have J107_24 : ∀ T24  , Sd p l e room_1 s m #[(.int p1), (.int p2), (.int p3)] below meth c T24 n0 2 8 h20 → Rt p e below s room_1.cells room_1.slots (Q0 Z p1 p2 p3 h0 n0) (T24.setTop (mkF m 115 #[.val (.int p1), .val (.int p2), .val (.int p3), .val (.int (f0_v8 p2)), .val (.int (f0_v13 p3)), .val (.int (f0_v22 p1)), .val (.int (f0_v33 p1)), .val (.int (f0_v44 p1)), .val (.int (f0_v56 p1)), .val (.ref b59), .val (.ref b64), .unset, .unset, .unset, .unset, .unset] [(.int (f0_j115_s0 p1)), (.int (1 : Int32)), (.ref b59)])) := by
        intro T24   X24 
        refine Rt.zastore (pc' := 116) X24 hx hZ F21 (i := 1) (by decide) (by decide) (Nat.le_of_ble_eq_true rfl) (w := (.int (f0_w115 p1))) rfl g3 (hb hby at_115) rfl ?_
        intro T25 h25 X25 W25 F25
        have F25 : IA Z h25 b59 .boolean [(.int (f0_w83 p1)), (.int (f0_w115 p1)), (.int (0 : Int32)), (.int (0 : Int32))] := F25
        have F26 : IA Z h25 b64 .boolean [(.int (f0_w99 p1)), (.int (0 : Int32)), (.int (0 : Int32)), (.int (0 : Int32))] := F20.other W25 (Ne.symm ne10)
        have K27 : Keep h0 h25 [] := K22.wr W25 (Or.inr s4)
        have Z28 : n0 ≤ h25.size := Nat.le_trans Z23 (Keep.of_wr W25).1
        refine Rt.aload (pc' := 118) X25 hx (hb hby at_116) rfl rfl rfl ?_
        refine Rt.iconst (pc' := 119) (v := (1 : Int32)) X25 hx (hb hby at_118) rfl rfl ?_
        refine Rt.iload (pc' := 121) X25 hx (hb hby at_119) rfl rfl ?_
        refine Rt.iconst (pc' := 122) (v := (2 : Int32)) X25 hx (hb hby at_121) rfl rfl ?_
        refine Rt.iand (pc' := 123) (r := ((f0_v33 p1) &&& (2 : Int32))) X25 hx (hb hby at_122) rfl rfl ?_
        have J123_29 : ∀ T29  , Sd p l e room_1 s m #[(.int p1), (.int p2), (.int p3)] below meth c T29 n0 2 8 h25 → Rt p e below s room_1.cells room_1.slots (Q0 Z p1 p2 p3 h0 n0) (T29.setTop (mkF m 131 #[.val (.int p1), .val (.int p2), .val (.int p3), .val (.int (f0_v8 p2)), .val (.int (f0_v13 p3)), .val (.int (f0_v22 p1)), .val (.int (f0_v33 p1)), .val (.int (f0_v44 p1)), .val (.int (f0_v56 p1)), .val (.ref b59), .val (.ref b64), .unset, .unset, .unset, .unset, .unset] [(.int (f0_j131_s0 p1)), (.int (1 : Int32)), (.ref b64)])) := by
          intro T29   X29 
          refine Rt.zastore (pc' := 132) X29 hx hZ F26 (i := 1) (by decide) (by decide) (Nat.le_of_ble_eq_true rfl) (w := (.int (f0_w131 p1))) rfl g8 (hb hby at_131) rfl ?_
          intro T30 h30 X30 W30 F30
          have F30 : IA Z h30 b64 .boolean [(.int (f0_w99 p1)), (.int (f0_w131 p1)), (.int (0 : Int32)), (.int (0 : Int32))] := F30
          have F31 : IA Z h30 b59 .boolean [(.int (f0_w83 p1)), (.int (f0_w115 p1)), (.int (0 : Int32)), (.int (0 : Int32))] := F25.other W30 ne10
          have K32 : Keep h0 h30 [] := K27.wr W30 (Or.inr s9)
          have Z33 : n0 ≤ h30.size := Nat.le_trans Z28 (Keep.of_wr W30).1
          refine Rt.aload (pc' := 134) X30 hx (hb hby at_132) rfl rfl rfl ?_
          refine Rt.iconst (pc' := 135) (v := (2 : Int32)) X30 hx (hb hby at_134) rfl rfl ?_
          refine Rt.iload (pc' := 137) X30 hx (hb hby at_135) rfl rfl ?_
          refine Rt.iconst (pc' := 138) (v := (1 : Int32)) X30 hx (hb hby at_137) rfl rfl ?_
          refine Rt.iand (pc' := 139) (r := ((f0_v44 p1) &&& (1 : Int32))) X30 hx (hb hby at_138) rfl rfl ?_
          have J139_34 : ∀ T34  , Sd p l e room_1 s m #[(.int p1), (.int p2), (.int p3)] below meth c T34 n0 2 8 h30 → Rt p e below s room_1.cells room_1.slots (Q0 Z p1 p2 p3 h0 n0) (T34.setTop (mkF m 147 #[.val (.int p1), .val (.int p2), .val (.int p3), .val (.int (f0_v8 p2)), .val (.int (f0_v13 p3)), .val (.int (f0_v22 p1)), .val (.int (f0_v33 p1)), .val (.int (f0_v44 p1)), .val (.int (f0_v56 p1)), .val (.ref b59), .val (.ref b64), .unset, .unset, .unset, .unset, .unset] [(.int (f0_j147_s0 p1)), (.int (2 : Int32)), (.ref b59)])) := by
            intro T34   X34 
            refine Rt.zastore (pc' := 148) X34 hx hZ F31 (i := 2) (by decide) (by decide) (Nat.le_of_ble_eq_true rfl) (w := (.int (f0_w147 p1))) rfl g3 (hb hby at_147) rfl ?_
            intro T35 h35 X35 W35 F35
            have F35 : IA Z h35 b59 .boolean [(.int (f0_w83 p1)), (.int (f0_w115 p1)), (.int (f0_w147 p1)), (.int (0 : Int32))] := F35
            have F36 : IA Z h35 b64 .boolean [(.int (f0_w99 p1)), (.int (f0_w131 p1)), (.int (0 : Int32)), (.int (0 : Int32))] := F30.other W35 (Ne.symm ne10)
            have K37 : Keep h0 h35 [] := K32.wr W35 (Or.inr s4)
            have Z38 : n0 ≤ h35.size := Nat.le_trans Z33 (Keep.of_wr W35).1
            refine Rt.aload (pc' := 150) X35 hx (hb hby at_148) rfl rfl rfl ?_
            refine Rt.iconst (pc' := 151) (v := (2 : Int32)) X35 hx (hb hby at_150) rfl rfl ?_
            refine Rt.iload (pc' := 153) X35 hx (hb hby at_151) rfl rfl ?_
            refine Rt.iconst (pc' := 154) (v := (2 : Int32)) X35 hx (hb hby at_153) rfl rfl ?_
            refine Rt.iand (pc' := 155) (r := ((f0_v44 p1) &&& (2 : Int32))) X35 hx (hb hby at_154) rfl rfl ?_
            have J155_39 : ∀ T39  , Sd p l e room_1 s m #[(.int p1), (.int p2), (.int p3)] below meth c T39 n0 2 8 h35 → Rt p e below s room_1.cells room_1.slots (Q0 Z p1 p2 p3 h0 n0) (T39.setTop (mkF m 163 #[.val (.int p1), .val (.int p2), .val (.int p3), .val (.int (f0_v8 p2)), .val (.int (f0_v13 p3)), .val (.int (f0_v22 p1)), .val (.int (f0_v33 p1)), .val (.int (f0_v44 p1)), .val (.int (f0_v56 p1)), .val (.ref b59), .val (.ref b64), .unset, .unset, .unset, .unset, .unset] [(.int (f0_j163_s0 p1)), (.int (2 : Int32)), (.ref b64)])) := by
              intro T39   X39 
              refine Rt.zastore (pc' := 164) X39 hx hZ F36 (i := 2) (by decide) (by decide) (Nat.le_of_ble_eq_true rfl) (w := (.int (f0_w163 p1))) rfl g8 (hb hby at_163) rfl ?_
              intro T40 h40 X40 W40 F40
              have F40 : IA Z h40 b64 .boolean [(.int (f0_w99 p1)), (.int (f0_w131 p1)), (.int (f0_w163 p1)), (.int (0 : Int32))] := F40
              have F41 : IA Z h40 b59 .boolean [(.int (f0_w83 p1)), (.int (f0_w115 p1)), (.int (f0_w147 p1)), (.int (0 : Int32))] := F35.other W40 ne10
              have K42 : Keep h0 h40 [] := K37.wr W40 (Or.inr s9)
              have Z43 : n0 ≤ h40.size := Nat.le_trans Z38 (Keep.of_wr W40).1
              refine Rt.aload (pc' := 166) X40 hx (hb hby at_164) rfl rfl rfl ?_
              refine Rt.iconst (pc' := 167) (v := (3 : Int32)) X40 hx (hb hby at_166) rfl rfl ?_
              refine Rt.iload (pc' := 169) X40 hx (hb hby at_167) rfl rfl ?_
              refine Rt.iconst (pc' := 170) (v := (1 : Int32)) X40 hx (hb hby at_169) rfl rfl ?_
              refine Rt.iand (pc' := 171) (r := ((f0_v56 p1) &&& (1 : Int32))) X40 hx (hb hby at_170) rfl rfl ?_
              have J171_44 : ∀ T44  , Sd p l e room_1 s m #[(.int p1), (.int p2), (.int p3)] below meth c T44 n0 2 8 h40 → Rt p e below s room_1.cells room_1.slots (Q0 Z p1 p2 p3 h0 n0) (T44.setTop (mkF m 179 #[.val (.int p1), .val (.int p2), .val (.int p3), .val (.int (f0_v8 p2)), .val (.int (f0_v13 p3)), .val (.int (f0_v22 p1)), .val (.int (f0_v33 p1)), .val (.int (f0_v44 p1)), .val (.int (f0_v56 p1)), .val (.ref b59), .val (.ref b64), .unset, .unset, .unset, .unset, .unset] [(.int (f0_j179_s0 p1)), (.int (3 : Int32)), (.ref b59)])) := by
                intro T44   X44 
                refine Rt.zastore (pc' := 180) X44 hx hZ F41 (i := 3) (by decide) (by decide) (Nat.le_of_ble_eq_true rfl) (w := (.int (f0_w179 p1))) rfl g3 (hb hby at_179) rfl ?_
                intro T45 h45 X45 W45 F45
                have F45 : IA Z h45 b59 .boolean [(.int (f0_w83 p1)), (.int (f0_w115 p1)), (.int (f0_w147 p1)), (.int (f0_w179 p1))] := F45
                have F46 : IA Z h45 b64 .boolean [(.int (f0_w99 p1)), (.int (f0_w131 p1)), (.int (f0_w163 p1)), (.int (0 : Int32))] := F40.other W45 (Ne.symm ne10)
                have K47 : Keep h0 h45 [] := K42.wr W45 (Or.inr s4)
                have Z48 : n0 ≤ h45.size := Nat.le_trans Z43 (Keep.of_wr W45).1
                refine Rt.aload (pc' := 182) X45 hx (hb hby at_180) rfl rfl rfl ?_
                refine Rt.iconst (pc' := 183) (v := (3 : Int32)) X45 hx (hb hby at_182) rfl rfl ?_
                refine Rt.iload (pc' := 185) X45 hx (hb hby at_183) rfl rfl ?_
                refine Rt.iconst (pc' := 186) (v := (2 : Int32)) X45 hx (hb hby at_185) rfl rfl ?_
                refine Rt.iand (pc' := 187) (r := ((f0_v56 p1) &&& (2 : Int32))) X45 hx (hb hby at_186) rfl rfl ?_
                have J187_49 : ∀ T49  , Sd p l e room_1 s m #[(.int p1), (.int p2), (.int p3)] below meth c T49 n0 2 8 h45 → Rt p e below s room_1.cells room_1.slots (Q0 Z p1 p2 p3 h0 n0) (T49.setTop (mkF m 195 #[.val (.int p1), .val (.int p2), .val (.int p3), .val (.int (f0_v8 p2)), .val (.int (f0_v13 p3)), .val (.int (f0_v22 p1)), .val (.int (f0_v33 p1)), .val (.int (f0_v44 p1)), .val (.int (f0_v56 p1)), .val (.ref b59), .val (.ref b64), .unset, .unset, .unset, .unset, .unset] [(.int (f0_j195_s0 p1)), (.int (3 : Int32)), (.ref b64)])) := by
                  intro T49   X49 
                  refine Rt.zastore (pc' := 196) X49 hx hZ F46 (i := 3) (by decide) (by decide) (Nat.le_of_ble_eq_true rfl) (w := (.int (f0_w195 p1))) rfl g8 (hb hby at_195) rfl ?_
                  intro T50 h50 X50 W50 F50
                  have F50 : IA Z h50 b64 .boolean [(.int (f0_w99 p1)), (.int (f0_w131 p1)), (.int (f0_w163 p1)), (.int (f0_w195 p1))] := F50
                  have F51 : IA Z h50 b59 .boolean [(.int (f0_w83 p1)), (.int (f0_w115 p1)), (.int (f0_w147 p1)), (.int (f0_w179 p1))] := F45.other W50 ne10
                  have K52 : Keep h0 h50 [] := K47.wr W50 (Or.inr s9)
                  have Z53 : n0 ≤ h50.size := Nat.le_trans Z48 (Keep.of_wr W50).1
                  refine Rt.iload (pc' := 198) X50 hx (hb hby at_196) rfl rfl ?_
                  refine Rt.iconst (pc' := 199) (v := (1 : Int32)) X50 hx (hb hby at_198) rfl rfl ?_
                  refine Rt.iand (pc' := 200) (r := ((f0_v22 p1) &&& (1 : Int32))) X50 hx (hb hby at_199) rfl rfl ?_
                  refine Rt.iload (pc' := 202) X50 hx (hb hby at_200) rfl rfl ?_
                  refine Rt.iconst (pc' := 203) (v := (1 : Int32)) X50 hx (hb hby at_202) rfl rfl ?_
                  refine Rt.iand (pc' := 204) (r := ((f0_v33 p1) &&& (1 : Int32))) X50 hx (hb hby at_203) rfl rfl ?_
                  refine Rt.iconst (pc' := 205) (v := (1 : Int32)) X50 hx (hb hby at_204) rfl rfl ?_
                  refine Rt.ishl (pc' := 206) (r := (((f0_v33 p1) &&& (1 : Int32)) <<< ((1 : Int32) &&& 31))) X50 hx (hb hby at_205) rfl rfl ?_
                  refine Rt.ior (pc' := 207) (r := (((f0_v22 p1) &&& (1 : Int32)) ||| (((f0_v33 p1) &&& (1 : Int32)) <<< ((1 : Int32) &&& 31)))) X50 hx (hb hby at_206) rfl rfl ?_
                  refine Rt.iload (pc' := 209) X50 hx (hb hby at_207) rfl rfl ?_
                  refine Rt.iconst (pc' := 210) (v := (1 : Int32)) X50 hx (hb hby at_209) rfl rfl ?_
                  refine Rt.iand (pc' := 211) (r := ((f0_v44 p1) &&& (1 : Int32))) X50 hx (hb hby at_210) rfl rfl ?_
                  refine Rt.iconst (pc' := 212) (v := (2 : Int32)) X50 hx (hb hby at_211) rfl rfl ?_
                  refine Rt.ishl (pc' := 213) (r := (((f0_v44 p1) &&& (1 : Int32)) <<< ((2 : Int32) &&& 31))) X50 hx (hb hby at_212) rfl rfl ?_
                  refine Rt.ior (pc' := 214) (r := ((((f0_v22 p1) &&& (1 : Int32)) ||| (((f0_v33 p1) &&& (1 : Int32)) <<< ((1 : Int32) &&& 31))) ||| (((f0_v44 p1) &&& (1 : Int32)) <<< ((2 : Int32) &&& 31)))) X50 hx (hb hby at_213) rfl rfl ?_
                  refine Rt.iload (pc' := 216) X50 hx (hb hby at_214) rfl rfl ?_
                  refine Rt.iconst (pc' := 217) (v := (1 : Int32)) X50 hx (hb hby at_216) rfl rfl ?_
                  refine Rt.iand (pc' := 218) (r := ((f0_v56 p1) &&& (1 : Int32))) X50 hx (hb hby at_217) rfl rfl ?_
                  refine Rt.iconst (pc' := 219) (v := (3 : Int32)) X50 hx (hb hby at_218) rfl rfl ?_
                  refine Rt.ishl (pc' := 220) (r := (((f0_v56 p1) &&& (1 : Int32)) <<< ((3 : Int32) &&& 31))) X50 hx (hb hby at_219) rfl rfl ?_
                  refine Rt.ior (pc' := 221) (r := (((((f0_v22 p1) &&& (1 : Int32)) ||| (((f0_v33 p1) &&& (1 : Int32)) <<< ((1 : Int32) &&& 31))) ||| (((f0_v44 p1) &&& (1 : Int32)) <<< ((2 : Int32) &&& 31))) ||| (((f0_v56 p1) &&& (1 : Int32)) <<< ((3 : Int32) &&& 31)))) X50 hx (hb hby at_220) rfl rfl ?_
                  refine Rt.istore (pc' := 223) (v := (f0_v221 p1)) (l' := #[.val (.int p1), .val (.int p2), .val (.int p3), .val (.int (f0_v8 p2)), .val (.int (f0_v13 p3)), .val (.int (f0_v22 p1)), .val (.int (f0_v33 p1)), .val (.int (f0_v44 p1)), .val (.int (f0_v56 p1)), .val (.ref b59), .val (.ref b64), .val (.int (f0_v221 p1)), .unset, .unset, .unset, .unset]) X50 hx (hb hby at_221) rfl rfl ?_
                  refine Rt.iload (pc' := 225) X50 hx (hb hby at_223) rfl rfl ?_
                  refine Rt.iconst (pc' := 226) (v := (1 : Int32)) X50 hx (hb hby at_225) rfl rfl ?_
                  refine Rt.ishr (pc' := 227) (r := ((f0_v22 p1) >>> ((1 : Int32) &&& 31))) X50 hx (hb hby at_226) rfl rfl ?_
                  refine Rt.iconst (pc' := 228) (v := (1 : Int32)) X50 hx (hb hby at_227) rfl rfl ?_
                  refine Rt.iand (pc' := 229) (r := (((f0_v22 p1) >>> ((1 : Int32) &&& 31)) &&& (1 : Int32))) X50 hx (hb hby at_228) rfl rfl ?_
                  refine Rt.iload (pc' := 231) X50 hx (hb hby at_229) rfl rfl ?_
                  refine Rt.iconst (pc' := 232) (v := (1 : Int32)) X50 hx (hb hby at_231) rfl rfl ?_
                  refine Rt.ishr (pc' := 233) (r := ((f0_v33 p1) >>> ((1 : Int32) &&& 31))) X50 hx (hb hby at_232) rfl rfl ?_
                  refine Rt.iconst (pc' := 234) (v := (1 : Int32)) X50 hx (hb hby at_233) rfl rfl ?_
                  refine Rt.iand (pc' := 235) (r := (((f0_v33 p1) >>> ((1 : Int32) &&& 31)) &&& (1 : Int32))) X50 hx (hb hby at_234) rfl rfl ?_
                  refine Rt.iconst (pc' := 236) (v := (1 : Int32)) X50 hx (hb hby at_235) rfl rfl ?_
                  refine Rt.ishl (pc' := 237) (r := ((((f0_v33 p1) >>> ((1 : Int32) &&& 31)) &&& (1 : Int32)) <<< ((1 : Int32) &&& 31))) X50 hx (hb hby at_236) rfl rfl ?_
                  refine Rt.ior (pc' := 238) (r := ((((f0_v22 p1) >>> ((1 : Int32) &&& 31)) &&& (1 : Int32)) ||| ((((f0_v33 p1) >>> ((1 : Int32) &&& 31)) &&& (1 : Int32)) <<< ((1 : Int32) &&& 31)))) X50 hx (hb hby at_237) rfl rfl ?_
                  refine Rt.iload (pc' := 240) X50 hx (hb hby at_238) rfl rfl ?_
                  refine Rt.iconst (pc' := 241) (v := (1 : Int32)) X50 hx (hb hby at_240) rfl rfl ?_
                  refine Rt.ishr (pc' := 242) (r := ((f0_v44 p1) >>> ((1 : Int32) &&& 31))) X50 hx (hb hby at_241) rfl rfl ?_
                  refine Rt.iconst (pc' := 243) (v := (1 : Int32)) X50 hx (hb hby at_242) rfl rfl ?_
                  refine Rt.iand (pc' := 244) (r := (((f0_v44 p1) >>> ((1 : Int32) &&& 31)) &&& (1 : Int32))) X50 hx (hb hby at_243) rfl rfl ?_
                  refine Rt.iconst (pc' := 245) (v := (2 : Int32)) X50 hx (hb hby at_244) rfl rfl ?_
                  refine Rt.ishl (pc' := 246) (r := ((((f0_v44 p1) >>> ((1 : Int32) &&& 31)) &&& (1 : Int32)) <<< ((2 : Int32) &&& 31))) X50 hx (hb hby at_245) rfl rfl ?_
                  refine Rt.ior (pc' := 247) (r := (((((f0_v22 p1) >>> ((1 : Int32) &&& 31)) &&& (1 : Int32)) ||| ((((f0_v33 p1) >>> ((1 : Int32) &&& 31)) &&& (1 : Int32)) <<< ((1 : Int32) &&& 31))) ||| ((((f0_v44 p1) >>> ((1 : Int32) &&& 31)) &&& (1 : Int32)) <<< ((2 : Int32) &&& 31)))) X50 hx (hb hby at_246) rfl rfl ?_
                  refine Rt.iload (pc' := 249) X50 hx (hb hby at_247) rfl rfl ?_
                  refine Rt.iconst (pc' := 250) (v := (1 : Int32)) X50 hx (hb hby at_249) rfl rfl ?_
                  refine Rt.ishr (pc' := 251) (r := ((f0_v56 p1) >>> ((1 : Int32) &&& 31))) X50 hx (hb hby at_250) rfl rfl ?_
                  refine Rt.iconst (pc' := 252) (v := (1 : Int32)) X50 hx (hb hby at_251) rfl rfl ?_
                  refine Rt.iand (pc' := 253) (r := (((f0_v56 p1) >>> ((1 : Int32) &&& 31)) &&& (1 : Int32))) X50 hx (hb hby at_252) rfl rfl ?_
                  refine Rt.iconst (pc' := 254) (v := (3 : Int32)) X50 hx (hb hby at_253) rfl rfl ?_
                  refine Rt.ishl (pc' := 255) (r := ((((f0_v56 p1) >>> ((1 : Int32) &&& 31)) &&& (1 : Int32)) <<< ((3 : Int32) &&& 31))) X50 hx (hb hby at_254) rfl rfl ?_
                  refine Rt.ior (pc' := 256) (r := ((((((f0_v22 p1) >>> ((1 : Int32) &&& 31)) &&& (1 : Int32)) ||| ((((f0_v33 p1) >>> ((1 : Int32) &&& 31)) &&& (1 : Int32)) <<< ((1 : Int32) &&& 31))) ||| ((((f0_v44 p1) >>> ((1 : Int32) &&& 31)) &&& (1 : Int32)) <<< ((2 : Int32) &&& 31))) ||| ((((f0_v56 p1) >>> ((1 : Int32) &&& 31)) &&& (1 : Int32)) <<< ((3 : Int32) &&& 31)))) X50 hx (hb hby at_255) rfl rfl ?_
                  refine Rt.istore (pc' := 258) (v := (f0_v256 p1)) (l' := #[.val (.int p1), .val (.int p2), .val (.int p3), .val (.int (f0_v8 p2)), .val (.int (f0_v13 p3)), .val (.int (f0_v22 p1)), .val (.int (f0_v33 p1)), .val (.int (f0_v44 p1)), .val (.int (f0_v56 p1)), .val (.ref b59), .val (.ref b64), .val (.int (f0_v221 p1)), .val (.int (f0_v256 p1)), .unset, .unset, .unset]) X50 hx (hb hby at_256) rfl rfl ?_
                  refine Rt.newO (pc' := 261) X50 hx hZ hown (hw _ (List.mem_of_getElem? (i := 6) rfl)) (hw _ (List.mem_of_getElem? (i := 7) rfl)) (hw _ (List.mem_of_getElem? (i := 8) rfl)) (hb hby at_258) (by decide) (by decide) rfl ?_
                  intro T54 h54 b258 ha54 X54 E54 A54 D54
                  have g55 : n0 ≤ b258 := by rw [ha54]; exact Z53
                  have s56 : h0.size ≤ b258 := by rw [ha54]; exact K52.1
                  have ne57 : b59 ≠ b258 := by rw [ha54]; exact Nat.ne_of_lt F51.lt
                  have ne58 : b64 ≠ b258 := by rw [ha54]; exact Nat.ne_of_lt F50.lt
                  have F59 : IA Z h54 b59 .boolean [(.int (f0_w83 p1)), (.int (f0_w115 p1)), (.int (f0_w147 p1)), (.int (f0_w179 p1))] := F51.ext E54
                  have F60 : IA Z h54 b64 .boolean [(.int (f0_w99 p1)), (.int (f0_w131 p1)), (.int (f0_w163 p1)), (.int (f0_w195 p1))] := F50.ext E54
                  have K61 : Keep h0 h54 [] := K52.ext E54
                  have Z62 : n0 ≤ h54.size := Nat.le_trans Z53 E54.1
                  have F63 : Fld Z h54 b258 nm4 "impossible" "I" (.int (0 : Int32)) := D54 (Or.inr (hw _ (List.mem_of_getElem? (i := 16) rfl))) (ty := .int) (by decide)
                  have F64 : Fld Z h54 b258 nm4 "h" "I" (.int (0 : Int32)) := D54 (Or.inr (hw _ (List.mem_of_getElem? (i := 18) rfl))) (ty := .int) (by decide)
                  have F65 : Fld Z h54 b258 nm4 "lowOut" "[I" .null := D54 (Or.inr (hw _ (List.mem_of_getElem? (i := 21) rfl))) (ty := (.array .int)) (by decide)
                  have F66 : Fld Z h54 b258 nm4 "lowIn" "[I" .null := D54 (Or.inr (hw _ (List.mem_of_getElem? (i := 23) rfl))) (ty := (.array .int)) (by decide)
                  have F67 : Fld Z h54 b258 nm4 "lowInLength" "[I" .null := D54 (Or.inr (hw _ (List.mem_of_getElem? (i := 25) rfl))) (ty := (.array .int)) (by decide)
                  have F68 : Fld Z h54 b258 nm4 "lowInLows" "[I" .null := D54 (Or.inr (hw _ (List.mem_of_getElem? (i := 27) rfl))) (ty := (.array .int)) (by decide)
                  have F69 : Fld Z h54 b258 nm4 "high" "[I" .null := D54 (Or.inr (hw _ (List.mem_of_getElem? (i := 29) rfl))) (ty := (.array .int)) (by decide)
                  have F70 : Fld Z h54 b258 nm4 "highLength" "[I" .null := D54 (Or.inr (hw _ (List.mem_of_getElem? (i := 31) rfl))) (ty := (.array .int)) (by decide)
                  have F71 : Fld Z h54 b258 nm4 "highLows" "[I" .null := D54 (Or.inr (hw _ (List.mem_of_getElem? (i := 33) rfl))) (ty := (.array .int)) (by decide)
                  refine Rt.dup (pc' := 262) X54 hx (hb hby at_261) rfl rfl ?_
                  refine Rt.iconst (pc' := 263) (v := (4 : Int32)) X54 hx (hb hby at_262) rfl rfl ?_
                  refine Rt.iload (pc' := 265) X54 hx (hb hby at_263) rfl rfl ?_
                  refine Rt.callI (pc' := 268) X54 hx hZ (y := mt10) rfl hown (hw _ (List.mem_of_getElem? (i := 9) rfl)) (hw _ (List.mem_of_getElem? (i := 10) rfl)) (hw _ (List.mem_of_getElem? (i := 8) rfl)) (hw _ (List.mem_of_getElem? (i := 11) rfl)) (by decide) (rm2 l Z a0 hw [] b258 (f0_v13 p3) h54 n0 Z62 A54 F63 F64 F65 F66 F67 F68 F69 F70 F71 g55) (fun _ _ _ q => (by obtain ⟨_, _, _, _, _, _, _, _, _, _, _, _, _, _, _, _, _, _, _, _, _, _, _, _, _, _, _, _, _, _, _, _, _, _, _, _, q, _⟩ := q; exact q)) (W := 1) (by decide) (by decide) (by decide) (by decide) (argsL := [(.int (4 : Int32)), (.int (f0_v13 p3))]) (rest := [(.ref b258)]) (by rw [hml]; rfl) (lenOf pd_6 rfl) rfl rfl (Nat.le_of_eq rfl) (hb hby at_265) rfl ?_
                  rintro _ T72 h72 L72 X72 ⟨b265na1, b265na2, b265na3, b265na4, b265na5, b265na6, b265na7, sb265na1, sb265na2, sb265na3, sb265na4, sb265na5, sb265na6, sb265na7, ne90, ne91, ne92, ne93, ne94, ne95, ne96, ne97, ne98, ne99, ne100, ne101, ne102, ne103, ne104, ne105, ne106, ne107, ne108, ne109, ne110, rfl, N72, K72, F73, F74, F75, F76, F77, F78, F79, F80, F81, F82, F83, F84, F85, F86, F87, F88, F89⟩
                  have g111 : n0 ≤ b265na1 := Nat.le_trans Z62 sb265na1
                  have s112 : h0.size ≤ b265na1 := Nat.le_trans K61.1 sb265na1
                  have ne113 : b59 ≠ b265na1 := Nat.ne_of_lt (Nat.lt_of_lt_of_le F59.lt sb265na1)
                  have ne114 : b64 ≠ b265na1 := Nat.ne_of_lt (Nat.lt_of_lt_of_le F60.lt sb265na1)
                  have ne115 : b258 ≠ b265na1 := Nat.ne_of_lt (Nat.lt_of_lt_of_le A54.lt sb265na1)
                  have g116 : n0 ≤ b265na2 := Nat.le_trans Z62 sb265na2
                  have s117 : h0.size ≤ b265na2 := Nat.le_trans K61.1 sb265na2
                  have ne118 : b59 ≠ b265na2 := Nat.ne_of_lt (Nat.lt_of_lt_of_le F59.lt sb265na2)
                  have ne119 : b64 ≠ b265na2 := Nat.ne_of_lt (Nat.lt_of_lt_of_le F60.lt sb265na2)
                  have ne120 : b258 ≠ b265na2 := Nat.ne_of_lt (Nat.lt_of_lt_of_le A54.lt sb265na2)
                  have g121 : n0 ≤ b265na3 := Nat.le_trans Z62 sb265na3
                  have s122 : h0.size ≤ b265na3 := Nat.le_trans K61.1 sb265na3
                  have ne123 : b59 ≠ b265na3 := Nat.ne_of_lt (Nat.lt_of_lt_of_le F59.lt sb265na3)
                  have ne124 : b64 ≠ b265na3 := Nat.ne_of_lt (Nat.lt_of_lt_of_le F60.lt sb265na3)
                  have ne125 : b258 ≠ b265na3 := Nat.ne_of_lt (Nat.lt_of_lt_of_le A54.lt sb265na3)
                  have g126 : n0 ≤ b265na4 := Nat.le_trans Z62 sb265na4
                  have s127 : h0.size ≤ b265na4 := Nat.le_trans K61.1 sb265na4
                  have ne128 : b59 ≠ b265na4 := Nat.ne_of_lt (Nat.lt_of_lt_of_le F59.lt sb265na4)
                  have ne129 : b64 ≠ b265na4 := Nat.ne_of_lt (Nat.lt_of_lt_of_le F60.lt sb265na4)
                  have ne130 : b258 ≠ b265na4 := Nat.ne_of_lt (Nat.lt_of_lt_of_le A54.lt sb265na4)
                  have g131 : n0 ≤ b265na5 := Nat.le_trans Z62 sb265na5
                  have s132 : h0.size ≤ b265na5 := Nat.le_trans K61.1 sb265na5
                  have ne133 : b59 ≠ b265na5 := Nat.ne_of_lt (Nat.lt_of_lt_of_le F59.lt sb265na5)
                  have ne134 : b64 ≠ b265na5 := Nat.ne_of_lt (Nat.lt_of_lt_of_le F60.lt sb265na5)
                  have ne135 : b258 ≠ b265na5 := Nat.ne_of_lt (Nat.lt_of_lt_of_le A54.lt sb265na5)
                  have g136 : n0 ≤ b265na6 := Nat.le_trans Z62 sb265na6
                  have s137 : h0.size ≤ b265na6 := Nat.le_trans K61.1 sb265na6
                  have ne138 : b59 ≠ b265na6 := Nat.ne_of_lt (Nat.lt_of_lt_of_le F59.lt sb265na6)
                  have ne139 : b64 ≠ b265na6 := Nat.ne_of_lt (Nat.lt_of_lt_of_le F60.lt sb265na6)
                  have ne140 : b258 ≠ b265na6 := Nat.ne_of_lt (Nat.lt_of_lt_of_le A54.lt sb265na6)
                  have g141 : n0 ≤ b265na7 := Nat.le_trans Z62 sb265na7
                  have s142 : h0.size ≤ b265na7 := Nat.le_trans K61.1 sb265na7
                  have ne143 : b59 ≠ b265na7 := Nat.ne_of_lt (Nat.lt_of_lt_of_le F59.lt sb265na7)
                  have ne144 : b64 ≠ b265na7 := Nat.ne_of_lt (Nat.lt_of_lt_of_le F60.lt sb265na7)
                  have ne145 : b258 ≠ b265na7 := Nat.ne_of_lt (Nat.lt_of_lt_of_le A54.lt sb265na7)
                  have F146 : IA Z h72 b59 .boolean [(.int (f0_w83 p1)), (.int (f0_w115 p1)), (.int (f0_w147 p1)), (.int (f0_w179 p1))] := F59.keep K72 (ninS ne57 nin0)
                  have F147 : IA Z h72 b64 .boolean [(.int (f0_w99 p1)), (.int (f0_w131 p1)), (.int (f0_w163 p1)), (.int (f0_w195 p1))] := F60.keep K72 (ninS ne58 nin0)
                  have F148 : Exa Z h72 b258 nm4 := A54.keep K72
                  have K149 : Keep h0 h72 [] := K61.trans K72 (allS (Or.inr s56) all0)
                  have Z150 : n0 ≤ h72.size := Nat.le_trans Z62 K72.1
                  show Rt _ _ _ _ _ _ _ (T72.setTop (mkF m 268 #[.val (.int p1), .val (.int p2), .val (.int p3), .val (.int (f0_v8 p2)), .val (.int (f0_v13 p3)), .val (.int (f0_v22 p1)), .val (.int (f0_v33 p1)), .val (.int (f0_v44 p1)), .val (.int (f0_v56 p1)), .val (.ref b59), .val (.ref b64), .val (.int (f0_v221 p1)), .val (.int (f0_v256 p1)), .unset, .unset, .unset] [(.ref b258)]))
                  refine Rt.astore (pc' := 270) (v := (.ref b258)) (l' := #[.val (.int p1), .val (.int p2), .val (.int p3), .val (.int (f0_v8 p2)), .val (.int (f0_v13 p3)), .val (.int (f0_v22 p1)), .val (.int (f0_v33 p1)), .val (.int (f0_v44 p1)), .val (.int (f0_v56 p1)), .val (.ref b59), .val (.ref b64), .val (.int (f0_v221 p1)), .val (.int (f0_v256 p1)), .val (.ref b258), .unset, .unset]) X72 hx (hb hby at_268) rfl rfl rfl ?_
                  refine Rt.aload (pc' := 272) X72 hx (hb hby at_270) rfl rfl rfl ?_
                  refine Rt.aload (pc' := 274) X72 hx (hb hby at_272) rfl rfl rfl ?_
                  refine Rt.aload (pc' := 276) X72 hx (hb hby at_274) rfl rfl rfl ?_
                  refine Rt.iloadN (pc' := 277) X72 hx (hb hby at_276) rfl rfl ?_
                  refine Rt.callV (pc' := 280) X72 hx hZ (y := mt11) (yz := mt11) hown (hw _ (List.mem_of_getElem? (i := 34) rfl)) (hw _ (List.mem_of_getElem? (i := 35) rfl)) (notFace_of_selects (args := #[]) (mvT hZ (hw _ (List.mem_of_getElem? (i := 37) rfl)))) (hw _ (List.mem_of_getElem? (i := 37) rfl)) (hw _ (List.mem_of_getElem? (i := 36) rfl)) (hw _ (List.mem_of_getElem? (i := 8) rfl)) (hw _ (List.mem_of_getElem? (i := 38) rfl)) (by decide) F73 (rm4 l Z a0 hw [] b258 b59 b64 (f0_v8 p2) b265na1 b265na2 b265na3 b265na4 b265na5 b265na6 b265na7 (f0_v13 p3) (f0_w83 p1) (f0_w115 p1) (f0_w147 p1) (f0_w179 p1) (f0_w99 p1) (f0_w131 p1) (f0_w163 p1) (f0_w195 p1) h72 n0 Z150 F73 F74 F75 F76 F77 F78 F79 F80 F81 F82 F83 F84 F85 F86 F87 F88 F89 F146 F147 g111 g116 g121 g126 g131 g136 g141 ne115 ne113 ne114 ne120 ne118 ne119 ne125 ne123 ne124 ne130 ne128 ne129 ne135 ne133 ne134 ne140 ne138 ne139 ne145 ne143 ne144) (fun _ _ _ q => q.2.1) (W := 0) (by decide) (by decide) (by decide) (by decide) (argsL := [(.ref b59), (.ref b64), (.int (f0_v8 p2))]) (rest := []) (by rw [hml]; rfl) (lenOf pd_12 rfl) rfl rfl (Nat.le_of_eq rfl) (hb hby at_277) rfl ?_
                  rintro _ T151 h151 L151 X151 ⟨rfl, N151, K151, F152, F153, F154, F155, F156, F157, F158⟩
                  have F159 : IA Z h151 b59 .boolean [(.int (f0_w83 p1)), (.int (f0_w115 p1)), (.int (f0_w147 p1)), (.int (f0_w179 p1))] := F146.keep K151 (ninS ne113 (ninS ne118 (ninS ne123 (ninS ne128 (ninS ne133 (ninS ne138 (ninS ne143 nin0)))))))
                  have F160 : IA Z h151 b64 .boolean [(.int (f0_w99 p1)), (.int (f0_w131 p1)), (.int (f0_w163 p1)), (.int (f0_w195 p1))] := F147.keep K151 (ninS ne114 (ninS ne119 (ninS ne124 (ninS ne129 (ninS ne134 (ninS ne139 (ninS ne144 nin0)))))))
                  have F161 : Exa Z h151 b258 nm4 := F73.keep K151
                  have F162 : Fld Z h151 b258 nm4 "impossible" "I" (.int (5 : Int32)) := F74.keep K151 (ninS ne115 (ninS ne120 (ninS ne125 (ninS ne130 (ninS ne135 (ninS ne140 (ninS ne145 nin0)))))))
                  have F163 : Fld Z h151 b258 nm4 "h" "I" (.int (f0_v13 p3)) := F75.keep K151 (ninS ne115 (ninS ne120 (ninS ne125 (ninS ne130 (ninS ne135 (ninS ne140 (ninS ne145 nin0)))))))
                  have F164 : Fld Z h151 b258 nm4 "lowOut" "[I" (.ref b265na1) := F76.keep K151 (ninS ne115 (ninS ne120 (ninS ne125 (ninS ne130 (ninS ne135 (ninS ne140 (ninS ne145 nin0)))))))
                  have F165 : Fld Z h151 b258 nm4 "lowIn" "[I" (.ref b265na2) := F77.keep K151 (ninS ne115 (ninS ne120 (ninS ne125 (ninS ne130 (ninS ne135 (ninS ne140 (ninS ne145 nin0)))))))
                  have F166 : Fld Z h151 b258 nm4 "lowInLength" "[I" (.ref b265na3) := F78.keep K151 (ninS ne115 (ninS ne120 (ninS ne125 (ninS ne130 (ninS ne135 (ninS ne140 (ninS ne145 nin0)))))))
                  have F167 : Fld Z h151 b258 nm4 "lowInLows" "[I" (.ref b265na4) := F79.keep K151 (ninS ne115 (ninS ne120 (ninS ne125 (ninS ne130 (ninS ne135 (ninS ne140 (ninS ne145 nin0)))))))
                  have F168 : Fld Z h151 b258 nm4 "high" "[I" (.ref b265na5) := F80.keep K151 (ninS ne115 (ninS ne120 (ninS ne125 (ninS ne130 (ninS ne135 (ninS ne140 (ninS ne145 nin0)))))))
                  have F169 : Fld Z h151 b258 nm4 "highLength" "[I" (.ref b265na6) := F81.keep K151 (ninS ne115 (ninS ne120 (ninS ne125 (ninS ne130 (ninS ne135 (ninS ne140 (ninS ne145 nin0)))))))
                  have F170 : Fld Z h151 b258 nm4 "highLows" "[I" (.ref b265na7) := F82.keep K151 (ninS ne115 (ninS ne120 (ninS ne125 (ninS ne130 (ninS ne135 (ninS ne140 (ninS ne145 nin0)))))))
                  have F171 : IL Z h151 b265na1 .int 4 := F83.keep K151
                  have F172 : IL Z h151 b265na2 .int 4 := F84.keep K151
                  have F173 : IL Z h151 b265na3 .int 4 := F85.keep K151
                  have F174 : IL Z h151 b265na4 .int 4 := F86.keep K151
                  have F175 : IL Z h151 b265na5 .int 4 := F87.keep K151
                  have F176 : IL Z h151 b265na6 .int 4 := F88.keep K151
                  have F177 : IL Z h151 b265na7 .int 4 := F89.keep K151
                  have K178 : Keep h0 h151 [] := K149.trans K151 (allS (Or.inr s112) (allS (Or.inr s117) (allS (Or.inr s122) (allS (Or.inr s127) (allS (Or.inr s132) (allS (Or.inr s137) (allS (Or.inr s142) all0)))))))
                  have Z179 : n0 ≤ h151.size := Nat.le_trans Z150 K151.1
                  show Rt _ _ _ _ _ _ _ (T151.setTop (mkF m 280 #[.val (.int p1), .val (.int p2), .val (.int p3), .val (.int (f0_v8 p2)), .val (.int (f0_v13 p3)), .val (.int (f0_v22 p1)), .val (.int (f0_v33 p1)), .val (.int (f0_v44 p1)), .val (.int (f0_v56 p1)), .val (.ref b59), .val (.ref b64), .val (.int (f0_v221 p1)), .val (.int (f0_v256 p1)), .val (.ref b258), .unset, .unset] [(.int (f4 (f0_v8 p2) (f0_v13 p3) (f0_w83 p1) (f0_w115 p1) (f0_w147 p1) (f0_w179 p1) (f0_w99 p1) (f0_w131 p1) (f0_w163 p1) (f0_w195 p1)))]))
                  refine Rt.istore (pc' := 282) (v := (f0_v280 p1 p2 p3)) (l' := #[.val (.int p1), .val (.int p2), .val (.int p3), .val (.int (f0_v8 p2)), .val (.int (f0_v13 p3)), .val (.int (f0_v22 p1)), .val (.int (f0_v33 p1)), .val (.int (f0_v44 p1)), .val (.int (f0_v56 p1)), .val (.ref b59), .val (.ref b64), .val (.int (f0_v221 p1)), .val (.int (f0_v256 p1)), .val (.ref b258), .val (.int (f0_v280 p1 p2 p3)), .unset]) X151 hx (hb hby at_280) rfl rfl ?_
                  refine Rt.bipush (pc' := 284) (v := (99 : Int32)) X151 hx (hb hby at_282) rfl rfl ?_
                  refine Rt.istore (pc' := 286) (v := (99 : Int32)) (l' := #[.val (.int p1), .val (.int p2), .val (.int p3), .val (.int (f0_v8 p2)), .val (.int (f0_v13 p3)), .val (.int (f0_v22 p1)), .val (.int (f0_v33 p1)), .val (.int (f0_v44 p1)), .val (.int (f0_v56 p1)), .val (.ref b59), .val (.ref b64), .val (.int (f0_v221 p1)), .val (.int (f0_v256 p1)), .val (.ref b258), .val (.int (f0_v280 p1 p2 p3)), .val (.int (99 : Int32))]) X151 hx (hb hby at_284) rfl rfl ?_
                  refine Rt.iload (pc' := 288) X151 hx (hb hby at_286) rfl rfl ?_
                  refine Rt.iconst (pc' := 289) (v := (0 : Int32)) X151 hx (hb hby at_288) rfl rfl ?_
                  refine Rt.iload (pc' := 291) X151 hx (hb hby at_289) rfl rfl ?_
                  refine Rt.iload (pc' := 293) X151 hx (hb hby at_291) rfl rfl ?_
                  refine Rt.iloadN (pc' := 294) X151 hx (hb hby at_293) rfl rfl ?_
                  refine Rt.iload (pc' := 296) X151 hx (hb hby at_294) rfl rfl ?_
                  refine Rt.callP (pc' := 299) (r := (.int (f12 (0 : Int32) (f0_v221 p1) (f0_v256 p1) (f0_v8 p2) (f0_v13 p3)))) X151 hx hZ (y := mt17) hown (hw _ (List.mem_of_getElem? (i := 103) rfl)) (hw _ (List.mem_of_getElem? (i := 104) rfl)) (hw _ (List.mem_of_getElem? (i := 105) rfl)) (hw _ (List.mem_of_getElem? (i := 106) rfl)) (by decide) (rm12 l Z a0 hw [] (0 : Int32) (f0_v221 p1) (f0_v256 p1) (f0_v8 p2) (f0_v13 p3) h151 n0) (W := 1) (by decide) (by decide) (by decide) (by decide) rfl rfl (argsL := [(.int (0 : Int32)), (.int (f0_v221 p1)), (.int (f0_v256 p1)), (.int (f0_v8 p2)), (.int (f0_v13 p3))]) (rest := [(.int (99 : Int32))]) (by rw [hml]; rfl) (lenOf pd_13 rfl) rfl rfl (Nat.le_of_eq rfl) (hb hby at_296) rfl ?_
                  intro T180 X180
                  refine Rt.callP (pc' := 302) (r := (.int (f10 (99 : Int32) (f0_a299_1 p1 p2 p3)))) X180 hx hZ (y := mt1) hown (hw _ (List.mem_of_getElem? (i := 113) rfl)) (hw _ (List.mem_of_getElem? (i := 90) rfl)) (hw _ (List.mem_of_getElem? (i := 3) rfl)) (hw _ (List.mem_of_getElem? (i := 91) rfl)) (by decide) (rm10 l Z a0 hw [] (99 : Int32) (f0_a299_1 p1 p2 p3) h151 n0) (W := 0) (by decide) (by decide) (by decide) (by decide) rfl rfl (argsL := [(.int (99 : Int32)), (.int (f0_a299_1 p1 p2 p3))]) (rest := []) (by rw [hml]; rfl) (lenOf pd_0 rfl) rfl rfl (Nat.le_of_eq rfl) (hb hby at_299) rfl ?_
                  intro T181 X181
                  refine Rt.istore (pc' := 304) (v := (f0_v302 p1 p2 p3)) (l' := #[.val (.int p1), .val (.int p2), .val (.int p3), .val (.int (f0_v8 p2)), .val (.int (f0_v13 p3)), .val (.int (f0_v22 p1)), .val (.int (f0_v33 p1)), .val (.int (f0_v44 p1)), .val (.int (f0_v56 p1)), .val (.ref b59), .val (.ref b64), .val (.int (f0_v221 p1)), .val (.int (f0_v256 p1)), .val (.ref b258), .val (.int (f0_v280 p1 p2 p3)), .val (.int (f0_v302 p1 p2 p3))]) X181 hx (hb hby at_302) rfl rfl ?_
                  refine Rt.iload (pc' := 306) X181 hx (hb hby at_304) rfl rfl ?_
                  refine Rt.iconst (pc' := 307) (v := (1 : Int32)) X181 hx (hb hby at_306) rfl rfl ?_
                  refine Rt.iload (pc' := 309) X181 hx (hb hby at_307) rfl rfl ?_
                  refine Rt.iload (pc' := 311) X181 hx (hb hby at_309) rfl rfl ?_
                  refine Rt.iloadN (pc' := 312) X181 hx (hb hby at_311) rfl rfl ?_
                  refine Rt.iload (pc' := 314) X181 hx (hb hby at_312) rfl rfl ?_
                  refine Rt.callP (pc' := 317) (r := (.int (f12 (1 : Int32) (f0_v221 p1) (f0_v256 p1) (f0_v8 p2) (f0_v13 p3)))) X181 hx hZ (y := mt17) hown (hw _ (List.mem_of_getElem? (i := 103) rfl)) (hw _ (List.mem_of_getElem? (i := 104) rfl)) (hw _ (List.mem_of_getElem? (i := 105) rfl)) (hw _ (List.mem_of_getElem? (i := 106) rfl)) (by decide) (rm12 l Z a0 hw [] (1 : Int32) (f0_v221 p1) (f0_v256 p1) (f0_v8 p2) (f0_v13 p3) h151 n0) (W := 1) (by decide) (by decide) (by decide) (by decide) rfl rfl (argsL := [(.int (1 : Int32)), (.int (f0_v221 p1)), (.int (f0_v256 p1)), (.int (f0_v8 p2)), (.int (f0_v13 p3))]) (rest := [(.int (f0_v302 p1 p2 p3))]) (by rw [hml]; rfl) (lenOf pd_13 rfl) rfl rfl (Nat.le_of_eq rfl) (hb hby at_314) rfl ?_
                  intro T182 X182
                  refine Rt.callP (pc' := 320) (r := (.int (f10 (f0_v302 p1 p2 p3) (f0_a317_1 p1 p2 p3)))) X182 hx hZ (y := mt1) hown (hw _ (List.mem_of_getElem? (i := 113) rfl)) (hw _ (List.mem_of_getElem? (i := 90) rfl)) (hw _ (List.mem_of_getElem? (i := 3) rfl)) (hw _ (List.mem_of_getElem? (i := 91) rfl)) (by decide) (rm10 l Z a0 hw [] (f0_v302 p1 p2 p3) (f0_a317_1 p1 p2 p3) h151 n0) (W := 0) (by decide) (by decide) (by decide) (by decide) rfl rfl (argsL := [(.int (f0_v302 p1 p2 p3)), (.int (f0_a317_1 p1 p2 p3))]) (rest := []) (by rw [hml]; rfl) (lenOf pd_0 rfl) rfl rfl (Nat.le_of_eq rfl) (hb hby at_317) rfl ?_
                  intro T183 X183
                  refine Rt.istore (pc' := 322) (v := (f0_v320 p1 p2 p3)) (l' := #[.val (.int p1), .val (.int p2), .val (.int p3), .val (.int (f0_v8 p2)), .val (.int (f0_v13 p3)), .val (.int (f0_v22 p1)), .val (.int (f0_v33 p1)), .val (.int (f0_v44 p1)), .val (.int (f0_v56 p1)), .val (.ref b59), .val (.ref b64), .val (.int (f0_v221 p1)), .val (.int (f0_v256 p1)), .val (.ref b258), .val (.int (f0_v280 p1 p2 p3)), .val (.int (f0_v320 p1 p2 p3))]) X183 hx (hb hby at_320) rfl rfl ?_
                  refine Rt.iload (pc' := 324) X183 hx (hb hby at_322) rfl rfl ?_
                  refine Rt.iconst (pc' := 325) (v := (2 : Int32)) X183 hx (hb hby at_324) rfl rfl ?_
                  refine Rt.iload (pc' := 327) X183 hx (hb hby at_325) rfl rfl ?_
                  refine Rt.iload (pc' := 329) X183 hx (hb hby at_327) rfl rfl ?_
                  refine Rt.iloadN (pc' := 330) X183 hx (hb hby at_329) rfl rfl ?_
                  refine Rt.iload (pc' := 332) X183 hx (hb hby at_330) rfl rfl ?_
                  refine Rt.callP (pc' := 335) (r := (.int (f12 (2 : Int32) (f0_v221 p1) (f0_v256 p1) (f0_v8 p2) (f0_v13 p3)))) X183 hx hZ (y := mt17) hown (hw _ (List.mem_of_getElem? (i := 103) rfl)) (hw _ (List.mem_of_getElem? (i := 104) rfl)) (hw _ (List.mem_of_getElem? (i := 105) rfl)) (hw _ (List.mem_of_getElem? (i := 106) rfl)) (by decide) (rm12 l Z a0 hw [] (2 : Int32) (f0_v221 p1) (f0_v256 p1) (f0_v8 p2) (f0_v13 p3) h151 n0) (W := 1) (by decide) (by decide) (by decide) (by decide) rfl rfl (argsL := [(.int (2 : Int32)), (.int (f0_v221 p1)), (.int (f0_v256 p1)), (.int (f0_v8 p2)), (.int (f0_v13 p3))]) (rest := [(.int (f0_v320 p1 p2 p3))]) (by rw [hml]; rfl) (lenOf pd_13 rfl) rfl rfl (Nat.le_of_eq rfl) (hb hby at_332) rfl ?_
                  intro T184 X184
                  refine Rt.callP (pc' := 338) (r := (.int (f10 (f0_v320 p1 p2 p3) (f0_a335_1 p1 p2 p3)))) X184 hx hZ (y := mt1) hown (hw _ (List.mem_of_getElem? (i := 113) rfl)) (hw _ (List.mem_of_getElem? (i := 90) rfl)) (hw _ (List.mem_of_getElem? (i := 3) rfl)) (hw _ (List.mem_of_getElem? (i := 91) rfl)) (by decide) (rm10 l Z a0 hw [] (f0_v320 p1 p2 p3) (f0_a335_1 p1 p2 p3) h151 n0) (W := 0) (by decide) (by decide) (by decide) (by decide) rfl rfl (argsL := [(.int (f0_v320 p1 p2 p3)), (.int (f0_a335_1 p1 p2 p3))]) (rest := []) (by rw [hml]; rfl) (lenOf pd_0 rfl) rfl rfl (Nat.le_of_eq rfl) (hb hby at_335) rfl ?_
                  intro T185 X185
                  refine Rt.istore (pc' := 340) (v := (f0_v338 p1 p2 p3)) (l' := #[.val (.int p1), .val (.int p2), .val (.int p3), .val (.int (f0_v8 p2)), .val (.int (f0_v13 p3)), .val (.int (f0_v22 p1)), .val (.int (f0_v33 p1)), .val (.int (f0_v44 p1)), .val (.int (f0_v56 p1)), .val (.ref b59), .val (.ref b64), .val (.int (f0_v221 p1)), .val (.int (f0_v256 p1)), .val (.ref b258), .val (.int (f0_v280 p1 p2 p3)), .val (.int (f0_v338 p1 p2 p3))]) X185 hx (hb hby at_338) rfl rfl ?_
                  refine Rt.iload (pc' := 342) X185 hx (hb hby at_340) rfl rfl ?_
                  refine Rt.iconst (pc' := 343) (v := (3 : Int32)) X185 hx (hb hby at_342) rfl rfl ?_
                  refine Rt.iload (pc' := 345) X185 hx (hb hby at_343) rfl rfl ?_
                  refine Rt.iload (pc' := 347) X185 hx (hb hby at_345) rfl rfl ?_
                  refine Rt.iloadN (pc' := 348) X185 hx (hb hby at_347) rfl rfl ?_
                  refine Rt.iload (pc' := 350) X185 hx (hb hby at_348) rfl rfl ?_
                  refine Rt.callP (pc' := 353) (r := (.int (f12 (3 : Int32) (f0_v221 p1) (f0_v256 p1) (f0_v8 p2) (f0_v13 p3)))) X185 hx hZ (y := mt17) hown (hw _ (List.mem_of_getElem? (i := 103) rfl)) (hw _ (List.mem_of_getElem? (i := 104) rfl)) (hw _ (List.mem_of_getElem? (i := 105) rfl)) (hw _ (List.mem_of_getElem? (i := 106) rfl)) (by decide) (rm12 l Z a0 hw [] (3 : Int32) (f0_v221 p1) (f0_v256 p1) (f0_v8 p2) (f0_v13 p3) h151 n0) (W := 1) (by decide) (by decide) (by decide) (by decide) rfl rfl (argsL := [(.int (3 : Int32)), (.int (f0_v221 p1)), (.int (f0_v256 p1)), (.int (f0_v8 p2)), (.int (f0_v13 p3))]) (rest := [(.int (f0_v338 p1 p2 p3))]) (by rw [hml]; rfl) (lenOf pd_13 rfl) rfl rfl (Nat.le_of_eq rfl) (hb hby at_350) rfl ?_
                  intro T186 X186
                  refine Rt.callP (pc' := 356) (r := (.int (f10 (f0_v338 p1 p2 p3) (f0_a353_1 p1 p2 p3)))) X186 hx hZ (y := mt1) hown (hw _ (List.mem_of_getElem? (i := 113) rfl)) (hw _ (List.mem_of_getElem? (i := 90) rfl)) (hw _ (List.mem_of_getElem? (i := 3) rfl)) (hw _ (List.mem_of_getElem? (i := 91) rfl)) (by decide) (rm10 l Z a0 hw [] (f0_v338 p1 p2 p3) (f0_a353_1 p1 p2 p3) h151 n0) (W := 0) (by decide) (by decide) (by decide) (by decide) rfl rfl (argsL := [(.int (f0_v338 p1 p2 p3)), (.int (f0_a353_1 p1 p2 p3))]) (rest := []) (by rw [hml]; rfl) (lenOf pd_0 rfl) rfl rfl (Nat.le_of_eq rfl) (hb hby at_353) rfl ?_
                  intro T187 X187
                  refine Rt.istore (pc' := 358) (v := (f0_v356 p1 p2 p3)) (l' := #[.val (.int p1), .val (.int p2), .val (.int p3), .val (.int (f0_v8 p2)), .val (.int (f0_v13 p3)), .val (.int (f0_v22 p1)), .val (.int (f0_v33 p1)), .val (.int (f0_v44 p1)), .val (.int (f0_v56 p1)), .val (.ref b59), .val (.ref b64), .val (.int (f0_v221 p1)), .val (.int (f0_v256 p1)), .val (.ref b258), .val (.int (f0_v280 p1 p2 p3)), .val (.int (f0_v356 p1 p2 p3))]) X187 hx (hb hby at_356) rfl rfl ?_
                  refine Rt.iload (pc' := 360) X187 hx (hb hby at_358) rfl rfl ?_
                  refine Rt.iconst (pc' := 361) (v := (4 : Int32)) X187 hx (hb hby at_360) rfl rfl ?_
                  refine Rt.iload (pc' := 363) X187 hx (hb hby at_361) rfl rfl ?_
                  refine Rt.iload (pc' := 365) X187 hx (hb hby at_363) rfl rfl ?_
                  refine Rt.iloadN (pc' := 366) X187 hx (hb hby at_365) rfl rfl ?_
                  refine Rt.iload (pc' := 368) X187 hx (hb hby at_366) rfl rfl ?_
                  refine Rt.callP (pc' := 371) (r := (.int (f12 (4 : Int32) (f0_v221 p1) (f0_v256 p1) (f0_v8 p2) (f0_v13 p3)))) X187 hx hZ (y := mt17) hown (hw _ (List.mem_of_getElem? (i := 103) rfl)) (hw _ (List.mem_of_getElem? (i := 104) rfl)) (hw _ (List.mem_of_getElem? (i := 105) rfl)) (hw _ (List.mem_of_getElem? (i := 106) rfl)) (by decide) (rm12 l Z a0 hw [] (4 : Int32) (f0_v221 p1) (f0_v256 p1) (f0_v8 p2) (f0_v13 p3) h151 n0) (W := 1) (by decide) (by decide) (by decide) (by decide) rfl rfl (argsL := [(.int (4 : Int32)), (.int (f0_v221 p1)), (.int (f0_v256 p1)), (.int (f0_v8 p2)), (.int (f0_v13 p3))]) (rest := [(.int (f0_v356 p1 p2 p3))]) (by rw [hml]; rfl) (lenOf pd_13 rfl) rfl rfl (Nat.le_of_eq rfl) (hb hby at_368) rfl ?_
                  intro T188 X188
                  refine Rt.callP (pc' := 374) (r := (.int (f10 (f0_v356 p1 p2 p3) (f0_a371_1 p1 p2 p3)))) X188 hx hZ (y := mt1) hown (hw _ (List.mem_of_getElem? (i := 113) rfl)) (hw _ (List.mem_of_getElem? (i := 90) rfl)) (hw _ (List.mem_of_getElem? (i := 3) rfl)) (hw _ (List.mem_of_getElem? (i := 91) rfl)) (by decide) (rm10 l Z a0 hw [] (f0_v356 p1 p2 p3) (f0_a371_1 p1 p2 p3) h151 n0) (W := 0) (by decide) (by decide) (by decide) (by decide) rfl rfl (argsL := [(.int (f0_v356 p1 p2 p3)), (.int (f0_a371_1 p1 p2 p3))]) (rest := []) (by rw [hml]; rfl) (lenOf pd_0 rfl) rfl rfl (Nat.le_of_eq rfl) (hb hby at_371) rfl ?_
                  intro T189 X189
                  refine Rt.istore (pc' := 376) (v := (f0_v374 p1 p2 p3)) (l' := #[.val (.int p1), .val (.int p2), .val (.int p3), .val (.int (f0_v8 p2)), .val (.int (f0_v13 p3)), .val (.int (f0_v22 p1)), .val (.int (f0_v33 p1)), .val (.int (f0_v44 p1)), .val (.int (f0_v56 p1)), .val (.ref b59), .val (.ref b64), .val (.int (f0_v221 p1)), .val (.int (f0_v256 p1)), .val (.ref b258), .val (.int (f0_v280 p1 p2 p3)), .val (.int (f0_v374 p1 p2 p3))]) X189 hx (hb hby at_374) rfl rfl ?_
                  refine Rt.iload (pc' := 378) X189 hx (hb hby at_376) rfl rfl ?_
                  refine Rt.iconst (pc' := 379) (v := (5 : Int32)) X189 hx (hb hby at_378) rfl rfl ?_
                  refine Rt.iload (pc' := 381) X189 hx (hb hby at_379) rfl rfl ?_
                  refine Rt.iload (pc' := 383) X189 hx (hb hby at_381) rfl rfl ?_
                  refine Rt.iloadN (pc' := 384) X189 hx (hb hby at_383) rfl rfl ?_
                  refine Rt.iload (pc' := 386) X189 hx (hb hby at_384) rfl rfl ?_
                  refine Rt.callP (pc' := 389) (r := (.int (f12 (5 : Int32) (f0_v221 p1) (f0_v256 p1) (f0_v8 p2) (f0_v13 p3)))) X189 hx hZ (y := mt17) hown (hw _ (List.mem_of_getElem? (i := 103) rfl)) (hw _ (List.mem_of_getElem? (i := 104) rfl)) (hw _ (List.mem_of_getElem? (i := 105) rfl)) (hw _ (List.mem_of_getElem? (i := 106) rfl)) (by decide) (rm12 l Z a0 hw [] (5 : Int32) (f0_v221 p1) (f0_v256 p1) (f0_v8 p2) (f0_v13 p3) h151 n0) (W := 1) (by decide) (by decide) (by decide) (by decide) rfl rfl (argsL := [(.int (5 : Int32)), (.int (f0_v221 p1)), (.int (f0_v256 p1)), (.int (f0_v8 p2)), (.int (f0_v13 p3))]) (rest := [(.int (f0_v374 p1 p2 p3))]) (by rw [hml]; rfl) (lenOf pd_13 rfl) rfl rfl (Nat.le_of_eq rfl) (hb hby at_386) rfl ?_
                  intro T190 X190
                  refine Rt.callP (pc' := 392) (r := (.int (f10 (f0_v374 p1 p2 p3) (f0_a389_1 p1 p2 p3)))) X190 hx hZ (y := mt1) hown (hw _ (List.mem_of_getElem? (i := 113) rfl)) (hw _ (List.mem_of_getElem? (i := 90) rfl)) (hw _ (List.mem_of_getElem? (i := 3) rfl)) (hw _ (List.mem_of_getElem? (i := 91) rfl)) (by decide) (rm10 l Z a0 hw [] (f0_v374 p1 p2 p3) (f0_a389_1 p1 p2 p3) h151 n0) (W := 0) (by decide) (by decide) (by decide) (by decide) rfl rfl (argsL := [(.int (f0_v374 p1 p2 p3)), (.int (f0_a389_1 p1 p2 p3))]) (rest := []) (by rw [hml]; rfl) (lenOf pd_0 rfl) rfl rfl (Nat.le_of_eq rfl) (hb hby at_389) rfl ?_
                  intro T191 X191
                  refine Rt.istore (pc' := 394) (v := (f0_v392 p1 p2 p3)) (l' := #[.val (.int p1), .val (.int p2), .val (.int p3), .val (.int (f0_v8 p2)), .val (.int (f0_v13 p3)), .val (.int (f0_v22 p1)), .val (.int (f0_v33 p1)), .val (.int (f0_v44 p1)), .val (.int (f0_v56 p1)), .val (.ref b59), .val (.ref b64), .val (.int (f0_v221 p1)), .val (.int (f0_v256 p1)), .val (.ref b258), .val (.int (f0_v280 p1 p2 p3)), .val (.int (f0_v392 p1 p2 p3))]) X191 hx (hb hby at_392) rfl rfl ?_
                  refine Rt.iload (pc' := 396) X191 hx (hb hby at_394) rfl rfl ?_
                  refine Rt.bipush (pc' := 398) (v := (6 : Int32)) X191 hx (hb hby at_396) rfl rfl ?_
                  refine Rt.iload (pc' := 400) X191 hx (hb hby at_398) rfl rfl ?_
                  refine Rt.iload (pc' := 402) X191 hx (hb hby at_400) rfl rfl ?_
                  refine Rt.iloadN (pc' := 403) X191 hx (hb hby at_402) rfl rfl ?_
                  refine Rt.iload (pc' := 405) X191 hx (hb hby at_403) rfl rfl ?_
                  refine Rt.callP (pc' := 408) (r := (.int (f12 (6 : Int32) (f0_v221 p1) (f0_v256 p1) (f0_v8 p2) (f0_v13 p3)))) X191 hx hZ (y := mt17) hown (hw _ (List.mem_of_getElem? (i := 103) rfl)) (hw _ (List.mem_of_getElem? (i := 104) rfl)) (hw _ (List.mem_of_getElem? (i := 105) rfl)) (hw _ (List.mem_of_getElem? (i := 106) rfl)) (by decide) (rm12 l Z a0 hw [] (6 : Int32) (f0_v221 p1) (f0_v256 p1) (f0_v8 p2) (f0_v13 p3) h151 n0) (W := 1) (by decide) (by decide) (by decide) (by decide) rfl rfl (argsL := [(.int (6 : Int32)), (.int (f0_v221 p1)), (.int (f0_v256 p1)), (.int (f0_v8 p2)), (.int (f0_v13 p3))]) (rest := [(.int (f0_v392 p1 p2 p3))]) (by rw [hml]; rfl) (lenOf pd_13 rfl) rfl rfl (Nat.le_of_eq rfl) (hb hby at_405) rfl ?_
                  intro T192 X192
                  refine Rt.callP (pc' := 411) (r := (.int (f10 (f0_v392 p1 p2 p3) (f0_a408_1 p1 p2 p3)))) X192 hx hZ (y := mt1) hown (hw _ (List.mem_of_getElem? (i := 113) rfl)) (hw _ (List.mem_of_getElem? (i := 90) rfl)) (hw _ (List.mem_of_getElem? (i := 3) rfl)) (hw _ (List.mem_of_getElem? (i := 91) rfl)) (by decide) (rm10 l Z a0 hw [] (f0_v392 p1 p2 p3) (f0_a408_1 p1 p2 p3) h151 n0) (W := 0) (by decide) (by decide) (by decide) (by decide) rfl rfl (argsL := [(.int (f0_v392 p1 p2 p3)), (.int (f0_a408_1 p1 p2 p3))]) (rest := []) (by rw [hml]; rfl) (lenOf pd_0 rfl) rfl rfl (Nat.le_of_eq rfl) (hb hby at_408) rfl ?_
                  intro T193 X193
                  refine Rt.istore (pc' := 413) (v := (f0_v411 p1 p2 p3)) (l' := #[.val (.int p1), .val (.int p2), .val (.int p3), .val (.int (f0_v8 p2)), .val (.int (f0_v13 p3)), .val (.int (f0_v22 p1)), .val (.int (f0_v33 p1)), .val (.int (f0_v44 p1)), .val (.int (f0_v56 p1)), .val (.ref b59), .val (.ref b64), .val (.int (f0_v221 p1)), .val (.int (f0_v256 p1)), .val (.ref b258), .val (.int (f0_v280 p1 p2 p3)), .val (.int (f0_v411 p1 p2 p3))]) X193 hx (hb hby at_411) rfl rfl ?_
                  refine Rt.iload (pc' := 415) X193 hx (hb hby at_413) rfl rfl ?_
                  refine Rt.bipush (pc' := 417) (v := (7 : Int32)) X193 hx (hb hby at_415) rfl rfl ?_
                  refine Rt.iload (pc' := 419) X193 hx (hb hby at_417) rfl rfl ?_
                  refine Rt.iload (pc' := 421) X193 hx (hb hby at_419) rfl rfl ?_
                  refine Rt.iloadN (pc' := 422) X193 hx (hb hby at_421) rfl rfl ?_
                  refine Rt.iload (pc' := 424) X193 hx (hb hby at_422) rfl rfl ?_
                  refine Rt.callP (pc' := 427) (r := (.int (f12 (7 : Int32) (f0_v221 p1) (f0_v256 p1) (f0_v8 p2) (f0_v13 p3)))) X193 hx hZ (y := mt17) hown (hw _ (List.mem_of_getElem? (i := 103) rfl)) (hw _ (List.mem_of_getElem? (i := 104) rfl)) (hw _ (List.mem_of_getElem? (i := 105) rfl)) (hw _ (List.mem_of_getElem? (i := 106) rfl)) (by decide) (rm12 l Z a0 hw [] (7 : Int32) (f0_v221 p1) (f0_v256 p1) (f0_v8 p2) (f0_v13 p3) h151 n0) (W := 1) (by decide) (by decide) (by decide) (by decide) rfl rfl (argsL := [(.int (7 : Int32)), (.int (f0_v221 p1)), (.int (f0_v256 p1)), (.int (f0_v8 p2)), (.int (f0_v13 p3))]) (rest := [(.int (f0_v411 p1 p2 p3))]) (by rw [hml]; rfl) (lenOf pd_13 rfl) rfl rfl (Nat.le_of_eq rfl) (hb hby at_424) rfl ?_
                  intro T194 X194
                  refine Rt.callP (pc' := 430) (r := (.int (f10 (f0_v411 p1 p2 p3) (f0_a427_1 p1 p2 p3)))) X194 hx hZ (y := mt1) hown (hw _ (List.mem_of_getElem? (i := 113) rfl)) (hw _ (List.mem_of_getElem? (i := 90) rfl)) (hw _ (List.mem_of_getElem? (i := 3) rfl)) (hw _ (List.mem_of_getElem? (i := 91) rfl)) (by decide) (rm10 l Z a0 hw [] (f0_v411 p1 p2 p3) (f0_a427_1 p1 p2 p3) h151 n0) (W := 0) (by decide) (by decide) (by decide) (by decide) rfl rfl (argsL := [(.int (f0_v411 p1 p2 p3)), (.int (f0_a427_1 p1 p2 p3))]) (rest := []) (by rw [hml]; rfl) (lenOf pd_0 rfl) rfl rfl (Nat.le_of_eq rfl) (hb hby at_427) rfl ?_
                  intro T195 X195
                  refine Rt.istore (pc' := 432) (v := (f0_v430 p1 p2 p3)) (l' := #[.val (.int p1), .val (.int p2), .val (.int p3), .val (.int (f0_v8 p2)), .val (.int (f0_v13 p3)), .val (.int (f0_v22 p1)), .val (.int (f0_v33 p1)), .val (.int (f0_v44 p1)), .val (.int (f0_v56 p1)), .val (.ref b59), .val (.ref b64), .val (.int (f0_v221 p1)), .val (.int (f0_v256 p1)), .val (.ref b258), .val (.int (f0_v280 p1 p2 p3)), .val (.int (f0_v430 p1 p2 p3))]) X195 hx (hb hby at_430) rfl rfl ?_
                  refine Rt.iload (pc' := 434) X195 hx (hb hby at_432) rfl rfl ?_
                  refine Rt.bipush (pc' := 436) (v := (8 : Int32)) X195 hx (hb hby at_434) rfl rfl ?_
                  refine Rt.iload (pc' := 438) X195 hx (hb hby at_436) rfl rfl ?_
                  refine Rt.iload (pc' := 440) X195 hx (hb hby at_438) rfl rfl ?_
                  refine Rt.iloadN (pc' := 441) X195 hx (hb hby at_440) rfl rfl ?_
                  refine Rt.iload (pc' := 443) X195 hx (hb hby at_441) rfl rfl ?_
                  refine Rt.callP (pc' := 446) (r := (.int (f12 (8 : Int32) (f0_v221 p1) (f0_v256 p1) (f0_v8 p2) (f0_v13 p3)))) X195 hx hZ (y := mt17) hown (hw _ (List.mem_of_getElem? (i := 103) rfl)) (hw _ (List.mem_of_getElem? (i := 104) rfl)) (hw _ (List.mem_of_getElem? (i := 105) rfl)) (hw _ (List.mem_of_getElem? (i := 106) rfl)) (by decide) (rm12 l Z a0 hw [] (8 : Int32) (f0_v221 p1) (f0_v256 p1) (f0_v8 p2) (f0_v13 p3) h151 n0) (W := 1) (by decide) (by decide) (by decide) (by decide) rfl rfl (argsL := [(.int (8 : Int32)), (.int (f0_v221 p1)), (.int (f0_v256 p1)), (.int (f0_v8 p2)), (.int (f0_v13 p3))]) (rest := [(.int (f0_v430 p1 p2 p3))]) (by rw [hml]; rfl) (lenOf pd_13 rfl) rfl rfl (Nat.le_of_eq rfl) (hb hby at_443) rfl ?_
                  intro T196 X196
                  refine Rt.callP (pc' := 449) (r := (.int (f10 (f0_v430 p1 p2 p3) (f0_a446_1 p1 p2 p3)))) X196 hx hZ (y := mt1) hown (hw _ (List.mem_of_getElem? (i := 113) rfl)) (hw _ (List.mem_of_getElem? (i := 90) rfl)) (hw _ (List.mem_of_getElem? (i := 3) rfl)) (hw _ (List.mem_of_getElem? (i := 91) rfl)) (by decide) (rm10 l Z a0 hw [] (f0_v430 p1 p2 p3) (f0_a446_1 p1 p2 p3) h151 n0) (W := 0) (by decide) (by decide) (by decide) (by decide) rfl rfl (argsL := [(.int (f0_v430 p1 p2 p3)), (.int (f0_a446_1 p1 p2 p3))]) (rest := []) (by rw [hml]; rfl) (lenOf pd_0 rfl) rfl rfl (Nat.le_of_eq rfl) (hb hby at_446) rfl ?_
                  intro T197 X197
                  refine Rt.istore (pc' := 451) (v := (f0_v449 p1 p2 p3)) (l' := #[.val (.int p1), .val (.int p2), .val (.int p3), .val (.int (f0_v8 p2)), .val (.int (f0_v13 p3)), .val (.int (f0_v22 p1)), .val (.int (f0_v33 p1)), .val (.int (f0_v44 p1)), .val (.int (f0_v56 p1)), .val (.ref b59), .val (.ref b64), .val (.int (f0_v221 p1)), .val (.int (f0_v256 p1)), .val (.ref b258), .val (.int (f0_v280 p1 p2 p3)), .val (.int (f0_v449 p1 p2 p3))]) X197 hx (hb hby at_449) rfl rfl ?_
                  refine Rt.iload (pc' := 453) X197 hx (hb hby at_451) rfl rfl ?_
                  refine Rt.bipush (pc' := 455) (v := (9 : Int32)) X197 hx (hb hby at_453) rfl rfl ?_
                  refine Rt.iload (pc' := 457) X197 hx (hb hby at_455) rfl rfl ?_
                  refine Rt.iload (pc' := 459) X197 hx (hb hby at_457) rfl rfl ?_
                  refine Rt.iloadN (pc' := 460) X197 hx (hb hby at_459) rfl rfl ?_
                  refine Rt.iload (pc' := 462) X197 hx (hb hby at_460) rfl rfl ?_
                  refine Rt.callP (pc' := 465) (r := (.int (f12 (9 : Int32) (f0_v221 p1) (f0_v256 p1) (f0_v8 p2) (f0_v13 p3)))) X197 hx hZ (y := mt17) hown (hw _ (List.mem_of_getElem? (i := 103) rfl)) (hw _ (List.mem_of_getElem? (i := 104) rfl)) (hw _ (List.mem_of_getElem? (i := 105) rfl)) (hw _ (List.mem_of_getElem? (i := 106) rfl)) (by decide) (rm12 l Z a0 hw [] (9 : Int32) (f0_v221 p1) (f0_v256 p1) (f0_v8 p2) (f0_v13 p3) h151 n0) (W := 1) (by decide) (by decide) (by decide) (by decide) rfl rfl (argsL := [(.int (9 : Int32)), (.int (f0_v221 p1)), (.int (f0_v256 p1)), (.int (f0_v8 p2)), (.int (f0_v13 p3))]) (rest := [(.int (f0_v449 p1 p2 p3))]) (by rw [hml]; rfl) (lenOf pd_13 rfl) rfl rfl (Nat.le_of_eq rfl) (hb hby at_462) rfl ?_
                  intro T198 X198
                  refine Rt.callP (pc' := 468) (r := (.int (f10 (f0_v449 p1 p2 p3) (f0_a465_1 p1 p2 p3)))) X198 hx hZ (y := mt1) hown (hw _ (List.mem_of_getElem? (i := 113) rfl)) (hw _ (List.mem_of_getElem? (i := 90) rfl)) (hw _ (List.mem_of_getElem? (i := 3) rfl)) (hw _ (List.mem_of_getElem? (i := 91) rfl)) (by decide) (rm10 l Z a0 hw [] (f0_v449 p1 p2 p3) (f0_a465_1 p1 p2 p3) h151 n0) (W := 0) (by decide) (by decide) (by decide) (by decide) rfl rfl (argsL := [(.int (f0_v449 p1 p2 p3)), (.int (f0_a465_1 p1 p2 p3))]) (rest := []) (by rw [hml]; rfl) (lenOf pd_0 rfl) rfl rfl (Nat.le_of_eq rfl) (hb hby at_465) rfl ?_
                  intro T199 X199
                  refine Rt.istore (pc' := 470) (v := (f0_v468 p1 p2 p3)) (l' := #[.val (.int p1), .val (.int p2), .val (.int p3), .val (.int (f0_v8 p2)), .val (.int (f0_v13 p3)), .val (.int (f0_v22 p1)), .val (.int (f0_v33 p1)), .val (.int (f0_v44 p1)), .val (.int (f0_v56 p1)), .val (.ref b59), .val (.ref b64), .val (.int (f0_v221 p1)), .val (.int (f0_v256 p1)), .val (.ref b258), .val (.int (f0_v280 p1 p2 p3)), .val (.int (f0_v468 p1 p2 p3))]) X199 hx (hb hby at_468) rfl rfl ?_
                  refine Rt.iload (pc' := 472) X199 hx (hb hby at_470) rfl rfl ?_
                  refine Rt.bipush (pc' := 474) (v := (10 : Int32)) X199 hx (hb hby at_472) rfl rfl ?_
                  refine Rt.iload (pc' := 476) X199 hx (hb hby at_474) rfl rfl ?_
                  refine Rt.iload (pc' := 478) X199 hx (hb hby at_476) rfl rfl ?_
                  refine Rt.iloadN (pc' := 479) X199 hx (hb hby at_478) rfl rfl ?_
                  refine Rt.iload (pc' := 481) X199 hx (hb hby at_479) rfl rfl ?_
                  refine Rt.callP (pc' := 484) (r := (.int (f12 (10 : Int32) (f0_v221 p1) (f0_v256 p1) (f0_v8 p2) (f0_v13 p3)))) X199 hx hZ (y := mt17) hown (hw _ (List.mem_of_getElem? (i := 103) rfl)) (hw _ (List.mem_of_getElem? (i := 104) rfl)) (hw _ (List.mem_of_getElem? (i := 105) rfl)) (hw _ (List.mem_of_getElem? (i := 106) rfl)) (by decide) (rm12 l Z a0 hw [] (10 : Int32) (f0_v221 p1) (f0_v256 p1) (f0_v8 p2) (f0_v13 p3) h151 n0) (W := 1) (by decide) (by decide) (by decide) (by decide) rfl rfl (argsL := [(.int (10 : Int32)), (.int (f0_v221 p1)), (.int (f0_v256 p1)), (.int (f0_v8 p2)), (.int (f0_v13 p3))]) (rest := [(.int (f0_v468 p1 p2 p3))]) (by rw [hml]; rfl) (lenOf pd_13 rfl) rfl rfl (Nat.le_of_eq rfl) (hb hby at_481) rfl ?_
                  intro T200 X200
                  refine Rt.callP (pc' := 487) (r := (.int (f10 (f0_v468 p1 p2 p3) (f0_a484_1 p1 p2 p3)))) X200 hx hZ (y := mt1) hown (hw _ (List.mem_of_getElem? (i := 113) rfl)) (hw _ (List.mem_of_getElem? (i := 90) rfl)) (hw _ (List.mem_of_getElem? (i := 3) rfl)) (hw _ (List.mem_of_getElem? (i := 91) rfl)) (by decide) (rm10 l Z a0 hw [] (f0_v468 p1 p2 p3) (f0_a484_1 p1 p2 p3) h151 n0) (W := 0) (by decide) (by decide) (by decide) (by decide) rfl rfl (argsL := [(.int (f0_v468 p1 p2 p3)), (.int (f0_a484_1 p1 p2 p3))]) (rest := []) (by rw [hml]; rfl) (lenOf pd_0 rfl) rfl rfl (Nat.le_of_eq rfl) (hb hby at_484) rfl ?_
                  intro T201 X201
                  refine Rt.istore (pc' := 489) (v := (f0_v487 p1 p2 p3)) (l' := #[.val (.int p1), .val (.int p2), .val (.int p3), .val (.int (f0_v8 p2)), .val (.int (f0_v13 p3)), .val (.int (f0_v22 p1)), .val (.int (f0_v33 p1)), .val (.int (f0_v44 p1)), .val (.int (f0_v56 p1)), .val (.ref b59), .val (.ref b64), .val (.int (f0_v221 p1)), .val (.int (f0_v256 p1)), .val (.ref b258), .val (.int (f0_v280 p1 p2 p3)), .val (.int (f0_v487 p1 p2 p3))]) X201 hx (hb hby at_487) rfl rfl ?_
                  refine Rt.iload (pc' := 491) X201 hx (hb hby at_489) rfl rfl ?_
                  refine Rt.bipush (pc' := 493) (v := (11 : Int32)) X201 hx (hb hby at_491) rfl rfl ?_
                  refine Rt.iload (pc' := 495) X201 hx (hb hby at_493) rfl rfl ?_
                  refine Rt.iload (pc' := 497) X201 hx (hb hby at_495) rfl rfl ?_
                  refine Rt.iloadN (pc' := 498) X201 hx (hb hby at_497) rfl rfl ?_
                  refine Rt.iload (pc' := 500) X201 hx (hb hby at_498) rfl rfl ?_
                  refine Rt.callP (pc' := 503) (r := (.int (f12 (11 : Int32) (f0_v221 p1) (f0_v256 p1) (f0_v8 p2) (f0_v13 p3)))) X201 hx hZ (y := mt17) hown (hw _ (List.mem_of_getElem? (i := 103) rfl)) (hw _ (List.mem_of_getElem? (i := 104) rfl)) (hw _ (List.mem_of_getElem? (i := 105) rfl)) (hw _ (List.mem_of_getElem? (i := 106) rfl)) (by decide) (rm12 l Z a0 hw [] (11 : Int32) (f0_v221 p1) (f0_v256 p1) (f0_v8 p2) (f0_v13 p3) h151 n0) (W := 1) (by decide) (by decide) (by decide) (by decide) rfl rfl (argsL := [(.int (11 : Int32)), (.int (f0_v221 p1)), (.int (f0_v256 p1)), (.int (f0_v8 p2)), (.int (f0_v13 p3))]) (rest := [(.int (f0_v487 p1 p2 p3))]) (by rw [hml]; rfl) (lenOf pd_13 rfl) rfl rfl (Nat.le_of_eq rfl) (hb hby at_500) rfl ?_
                  intro T202 X202
                  refine Rt.callP (pc' := 506) (r := (.int (f10 (f0_v487 p1 p2 p3) (f0_a503_1 p1 p2 p3)))) X202 hx hZ (y := mt1) hown (hw _ (List.mem_of_getElem? (i := 113) rfl)) (hw _ (List.mem_of_getElem? (i := 90) rfl)) (hw _ (List.mem_of_getElem? (i := 3) rfl)) (hw _ (List.mem_of_getElem? (i := 91) rfl)) (by decide) (rm10 l Z a0 hw [] (f0_v487 p1 p2 p3) (f0_a503_1 p1 p2 p3) h151 n0) (W := 0) (by decide) (by decide) (by decide) (by decide) rfl rfl (argsL := [(.int (f0_v487 p1 p2 p3)), (.int (f0_a503_1 p1 p2 p3))]) (rest := []) (by rw [hml]; rfl) (lenOf pd_0 rfl) rfl rfl (Nat.le_of_eq rfl) (hb hby at_503) rfl ?_
                  intro T203 X203
                  refine Rt.istore (pc' := 508) (v := (f0_v506 p1 p2 p3)) (l' := #[.val (.int p1), .val (.int p2), .val (.int p3), .val (.int (f0_v8 p2)), .val (.int (f0_v13 p3)), .val (.int (f0_v22 p1)), .val (.int (f0_v33 p1)), .val (.int (f0_v44 p1)), .val (.int (f0_v56 p1)), .val (.ref b59), .val (.ref b64), .val (.int (f0_v221 p1)), .val (.int (f0_v256 p1)), .val (.ref b258), .val (.int (f0_v280 p1 p2 p3)), .val (.int (f0_v506 p1 p2 p3))]) X203 hx (hb hby at_506) rfl rfl ?_
                  refine Rt.iload (pc' := 510) X203 hx (hb hby at_508) rfl rfl ?_
                  refine Rt.bipush (pc' := 512) (v := (12 : Int32)) X203 hx (hb hby at_510) rfl rfl ?_
                  refine Rt.iload (pc' := 514) X203 hx (hb hby at_512) rfl rfl ?_
                  refine Rt.iload (pc' := 516) X203 hx (hb hby at_514) rfl rfl ?_
                  refine Rt.iloadN (pc' := 517) X203 hx (hb hby at_516) rfl rfl ?_
                  refine Rt.iload (pc' := 519) X203 hx (hb hby at_517) rfl rfl ?_
                  refine Rt.callP (pc' := 522) (r := (.int (f12 (12 : Int32) (f0_v221 p1) (f0_v256 p1) (f0_v8 p2) (f0_v13 p3)))) X203 hx hZ (y := mt17) hown (hw _ (List.mem_of_getElem? (i := 103) rfl)) (hw _ (List.mem_of_getElem? (i := 104) rfl)) (hw _ (List.mem_of_getElem? (i := 105) rfl)) (hw _ (List.mem_of_getElem? (i := 106) rfl)) (by decide) (rm12 l Z a0 hw [] (12 : Int32) (f0_v221 p1) (f0_v256 p1) (f0_v8 p2) (f0_v13 p3) h151 n0) (W := 1) (by decide) (by decide) (by decide) (by decide) rfl rfl (argsL := [(.int (12 : Int32)), (.int (f0_v221 p1)), (.int (f0_v256 p1)), (.int (f0_v8 p2)), (.int (f0_v13 p3))]) (rest := [(.int (f0_v506 p1 p2 p3))]) (by rw [hml]; rfl) (lenOf pd_13 rfl) rfl rfl (Nat.le_of_eq rfl) (hb hby at_519) rfl ?_
                  intro T204 X204
                  refine Rt.callP (pc' := 525) (r := (.int (f10 (f0_v506 p1 p2 p3) (f0_a522_1 p1 p2 p3)))) X204 hx hZ (y := mt1) hown (hw _ (List.mem_of_getElem? (i := 113) rfl)) (hw _ (List.mem_of_getElem? (i := 90) rfl)) (hw _ (List.mem_of_getElem? (i := 3) rfl)) (hw _ (List.mem_of_getElem? (i := 91) rfl)) (by decide) (rm10 l Z a0 hw [] (f0_v506 p1 p2 p3) (f0_a522_1 p1 p2 p3) h151 n0) (W := 0) (by decide) (by decide) (by decide) (by decide) rfl rfl (argsL := [(.int (f0_v506 p1 p2 p3)), (.int (f0_a522_1 p1 p2 p3))]) (rest := []) (by rw [hml]; rfl) (lenOf pd_0 rfl) rfl rfl (Nat.le_of_eq rfl) (hb hby at_522) rfl ?_
                  intro T205 X205
                  refine Rt.istore (pc' := 527) (v := (f0_v525 p1 p2 p3)) (l' := #[.val (.int p1), .val (.int p2), .val (.int p3), .val (.int (f0_v8 p2)), .val (.int (f0_v13 p3)), .val (.int (f0_v22 p1)), .val (.int (f0_v33 p1)), .val (.int (f0_v44 p1)), .val (.int (f0_v56 p1)), .val (.ref b59), .val (.ref b64), .val (.int (f0_v221 p1)), .val (.int (f0_v256 p1)), .val (.ref b258), .val (.int (f0_v280 p1 p2 p3)), .val (.int (f0_v525 p1 p2 p3))]) X205 hx (hb hby at_525) rfl rfl ?_
                  refine Rt.iload (pc' := 529) X205 hx (hb hby at_527) rfl rfl ?_
                  refine Rt.bipush (pc' := 531) (v := (13 : Int32)) X205 hx (hb hby at_529) rfl rfl ?_
                  refine Rt.iload (pc' := 533) X205 hx (hb hby at_531) rfl rfl ?_
                  refine Rt.iload (pc' := 535) X205 hx (hb hby at_533) rfl rfl ?_
                  refine Rt.iloadN (pc' := 536) X205 hx (hb hby at_535) rfl rfl ?_
                  refine Rt.iload (pc' := 538) X205 hx (hb hby at_536) rfl rfl ?_
                  refine Rt.callP (pc' := 541) (r := (.int (f12 (13 : Int32) (f0_v221 p1) (f0_v256 p1) (f0_v8 p2) (f0_v13 p3)))) X205 hx hZ (y := mt17) hown (hw _ (List.mem_of_getElem? (i := 103) rfl)) (hw _ (List.mem_of_getElem? (i := 104) rfl)) (hw _ (List.mem_of_getElem? (i := 105) rfl)) (hw _ (List.mem_of_getElem? (i := 106) rfl)) (by decide) (rm12 l Z a0 hw [] (13 : Int32) (f0_v221 p1) (f0_v256 p1) (f0_v8 p2) (f0_v13 p3) h151 n0) (W := 1) (by decide) (by decide) (by decide) (by decide) rfl rfl (argsL := [(.int (13 : Int32)), (.int (f0_v221 p1)), (.int (f0_v256 p1)), (.int (f0_v8 p2)), (.int (f0_v13 p3))]) (rest := [(.int (f0_v525 p1 p2 p3))]) (by rw [hml]; rfl) (lenOf pd_13 rfl) rfl rfl (Nat.le_of_eq rfl) (hb hby at_538) rfl ?_
                  intro T206 X206
                  refine Rt.callP (pc' := 544) (r := (.int (f10 (f0_v525 p1 p2 p3) (f0_a541_1 p1 p2 p3)))) X206 hx hZ (y := mt1) hown (hw _ (List.mem_of_getElem? (i := 113) rfl)) (hw _ (List.mem_of_getElem? (i := 90) rfl)) (hw _ (List.mem_of_getElem? (i := 3) rfl)) (hw _ (List.mem_of_getElem? (i := 91) rfl)) (by decide) (rm10 l Z a0 hw [] (f0_v525 p1 p2 p3) (f0_a541_1 p1 p2 p3) h151 n0) (W := 0) (by decide) (by decide) (by decide) (by decide) rfl rfl (argsL := [(.int (f0_v525 p1 p2 p3)), (.int (f0_a541_1 p1 p2 p3))]) (rest := []) (by rw [hml]; rfl) (lenOf pd_0 rfl) rfl rfl (Nat.le_of_eq rfl) (hb hby at_541) rfl ?_
                  intro T207 X207
                  refine Rt.istore (pc' := 546) (v := (f0_v544 p1 p2 p3)) (l' := #[.val (.int p1), .val (.int p2), .val (.int p3), .val (.int (f0_v8 p2)), .val (.int (f0_v13 p3)), .val (.int (f0_v22 p1)), .val (.int (f0_v33 p1)), .val (.int (f0_v44 p1)), .val (.int (f0_v56 p1)), .val (.ref b59), .val (.ref b64), .val (.int (f0_v221 p1)), .val (.int (f0_v256 p1)), .val (.ref b258), .val (.int (f0_v280 p1 p2 p3)), .val (.int (f0_v544 p1 p2 p3))]) X207 hx (hb hby at_544) rfl rfl ?_
                  refine Rt.iload (pc' := 548) X207 hx (hb hby at_546) rfl rfl ?_
                  refine Rt.bipush (pc' := 550) (v := (14 : Int32)) X207 hx (hb hby at_548) rfl rfl ?_
                  refine Rt.iload (pc' := 552) X207 hx (hb hby at_550) rfl rfl ?_
                  refine Rt.iload (pc' := 554) X207 hx (hb hby at_552) rfl rfl ?_
                  refine Rt.iloadN (pc' := 555) X207 hx (hb hby at_554) rfl rfl ?_
                  refine Rt.iload (pc' := 557) X207 hx (hb hby at_555) rfl rfl ?_
                  refine Rt.callP (pc' := 560) (r := (.int (f12 (14 : Int32) (f0_v221 p1) (f0_v256 p1) (f0_v8 p2) (f0_v13 p3)))) X207 hx hZ (y := mt17) hown (hw _ (List.mem_of_getElem? (i := 103) rfl)) (hw _ (List.mem_of_getElem? (i := 104) rfl)) (hw _ (List.mem_of_getElem? (i := 105) rfl)) (hw _ (List.mem_of_getElem? (i := 106) rfl)) (by decide) (rm12 l Z a0 hw [] (14 : Int32) (f0_v221 p1) (f0_v256 p1) (f0_v8 p2) (f0_v13 p3) h151 n0) (W := 1) (by decide) (by decide) (by decide) (by decide) rfl rfl (argsL := [(.int (14 : Int32)), (.int (f0_v221 p1)), (.int (f0_v256 p1)), (.int (f0_v8 p2)), (.int (f0_v13 p3))]) (rest := [(.int (f0_v544 p1 p2 p3))]) (by rw [hml]; rfl) (lenOf pd_13 rfl) rfl rfl (Nat.le_of_eq rfl) (hb hby at_557) rfl ?_
                  intro T208 X208
                  refine Rt.callP (pc' := 563) (r := (.int (f10 (f0_v544 p1 p2 p3) (f0_a560_1 p1 p2 p3)))) X208 hx hZ (y := mt1) hown (hw _ (List.mem_of_getElem? (i := 113) rfl)) (hw _ (List.mem_of_getElem? (i := 90) rfl)) (hw _ (List.mem_of_getElem? (i := 3) rfl)) (hw _ (List.mem_of_getElem? (i := 91) rfl)) (by decide) (rm10 l Z a0 hw [] (f0_v544 p1 p2 p3) (f0_a560_1 p1 p2 p3) h151 n0) (W := 0) (by decide) (by decide) (by decide) (by decide) rfl rfl (argsL := [(.int (f0_v544 p1 p2 p3)), (.int (f0_a560_1 p1 p2 p3))]) (rest := []) (by rw [hml]; rfl) (lenOf pd_0 rfl) rfl rfl (Nat.le_of_eq rfl) (hb hby at_560) rfl ?_
                  intro T209 X209
                  refine Rt.istore (pc' := 565) (v := (f0_v563 p1 p2 p3)) (l' := #[.val (.int p1), .val (.int p2), .val (.int p3), .val (.int (f0_v8 p2)), .val (.int (f0_v13 p3)), .val (.int (f0_v22 p1)), .val (.int (f0_v33 p1)), .val (.int (f0_v44 p1)), .val (.int (f0_v56 p1)), .val (.ref b59), .val (.ref b64), .val (.int (f0_v221 p1)), .val (.int (f0_v256 p1)), .val (.ref b258), .val (.int (f0_v280 p1 p2 p3)), .val (.int (f0_v563 p1 p2 p3))]) X209 hx (hb hby at_563) rfl rfl ?_
                  refine Rt.iload (pc' := 567) X209 hx (hb hby at_565) rfl rfl ?_
                  refine Rt.bipush (pc' := 569) (v := (15 : Int32)) X209 hx (hb hby at_567) rfl rfl ?_
                  refine Rt.iload (pc' := 571) X209 hx (hb hby at_569) rfl rfl ?_
                  refine Rt.iload (pc' := 573) X209 hx (hb hby at_571) rfl rfl ?_
                  refine Rt.iloadN (pc' := 574) X209 hx (hb hby at_573) rfl rfl ?_
                  refine Rt.iload (pc' := 576) X209 hx (hb hby at_574) rfl rfl ?_
                  refine Rt.callP (pc' := 579) (r := (.int (f12 (15 : Int32) (f0_v221 p1) (f0_v256 p1) (f0_v8 p2) (f0_v13 p3)))) X209 hx hZ (y := mt17) hown (hw _ (List.mem_of_getElem? (i := 103) rfl)) (hw _ (List.mem_of_getElem? (i := 104) rfl)) (hw _ (List.mem_of_getElem? (i := 105) rfl)) (hw _ (List.mem_of_getElem? (i := 106) rfl)) (by decide) (rm12 l Z a0 hw [] (15 : Int32) (f0_v221 p1) (f0_v256 p1) (f0_v8 p2) (f0_v13 p3) h151 n0) (W := 1) (by decide) (by decide) (by decide) (by decide) rfl rfl (argsL := [(.int (15 : Int32)), (.int (f0_v221 p1)), (.int (f0_v256 p1)), (.int (f0_v8 p2)), (.int (f0_v13 p3))]) (rest := [(.int (f0_v563 p1 p2 p3))]) (by rw [hml]; rfl) (lenOf pd_13 rfl) rfl rfl (Nat.le_of_eq rfl) (hb hby at_576) rfl ?_
                  intro T210 X210
                  refine Rt.callP (pc' := 582) (r := (.int (f10 (f0_v563 p1 p2 p3) (f0_a579_1 p1 p2 p3)))) X210 hx hZ (y := mt1) hown (hw _ (List.mem_of_getElem? (i := 113) rfl)) (hw _ (List.mem_of_getElem? (i := 90) rfl)) (hw _ (List.mem_of_getElem? (i := 3) rfl)) (hw _ (List.mem_of_getElem? (i := 91) rfl)) (by decide) (rm10 l Z a0 hw [] (f0_v563 p1 p2 p3) (f0_a579_1 p1 p2 p3) h151 n0) (W := 0) (by decide) (by decide) (by decide) (by decide) rfl rfl (argsL := [(.int (f0_v563 p1 p2 p3)), (.int (f0_a579_1 p1 p2 p3))]) (rest := []) (by rw [hml]; rfl) (lenOf pd_0 rfl) rfl rfl (Nat.le_of_eq rfl) (hb hby at_579) rfl ?_
                  intro T211 X211
                  refine Rt.istore (pc' := 584) (v := (f0_v582 p1 p2 p3)) (l' := #[.val (.int p1), .val (.int p2), .val (.int p3), .val (.int (f0_v8 p2)), .val (.int (f0_v13 p3)), .val (.int (f0_v22 p1)), .val (.int (f0_v33 p1)), .val (.int (f0_v44 p1)), .val (.int (f0_v56 p1)), .val (.ref b59), .val (.ref b64), .val (.int (f0_v221 p1)), .val (.int (f0_v256 p1)), .val (.ref b258), .val (.int (f0_v280 p1 p2 p3)), .val (.int (f0_v582 p1 p2 p3))]) X211 hx (hb hby at_582) rfl rfl ?_
                  refine Rt.iload (pc' := 586) X211 hx (hb hby at_584) rfl rfl ?_
                  refine Rt.iload (pc' := 588) X211 hx (hb hby at_586) rfl rfl ?_
                  by_cases hc588_212 : (f0_v280 p1 p2 p3) = (f0_v582 p1 p2 p3)
                  · refine Rt.icmpN (pc' := 591) X211 hx (hb hby at_588) (teq hc588_212).2 rfl ?_
                    refine Rt.iconst (pc' := 592) (v := (1 : Int32)) X211 hx (hb hby at_591) rfl rfl ?_
                    refine Rt.goto (pc' := 596) X211 hx (hb hby at_592) (by decide) (by decide) ?_
                    exact Rt.retZ (w := (1 : Int32)) X211 hx hlk hret (by simp) (hb hby at_596) (by decide) (by decide) (by decide) (fun L N => ⟨congrArg some (congrArg Value.int (by rw [f0, if_pos hc588_212])), N, K178⟩)
                  · refine Rt.icmpY (pc' := 595) X211 hx (hb hby at_588) (feq hc588_212).2 (by decide) (by decide) ?_
                    refine Rt.iconst (pc' := 596) (v := (0 : Int32)) X211 hx (hb hby at_595) rfl rfl ?_
                    exact Rt.retZ (w := (0 : Int32)) X211 hx hlk hret (by simp) (hb hby at_596) (by decide) (by decide) (by decide) (fun L N => ⟨congrArg some (congrArg Value.int (by rw [f0, if_neg hc588_212])), N, K178⟩)
                by_cases hc187_213 : ((f0_v56 p1) &&& (2 : Int32)) = (0 : Int32)
                · refine Rt.ifY (pc' := 194) X45 hx (hb hby at_187) ((if0 _ _).trans (teq hc187_213).1) (by decide) (by decide) ?_
                  refine Rt.iconst (pc' := 195) (v := (0 : Int32)) X45 hx (hb hby at_194) rfl rfl ?_
                  have q := J187_49 T45   X45
                  rw [show (f0_j195_s0 p1) = (0 : Int32) from by rw [f0_j195_s0, if_pos hc187_213]] at q
                  exact q
                · refine Rt.ifN (pc' := 190) X45 hx (hb hby at_187) ((if0 _ _).trans (feq hc187_213).1) rfl ?_
                  refine Rt.iconst (pc' := 191) (v := (1 : Int32)) X45 hx (hb hby at_190) rfl rfl ?_
                  refine Rt.goto (pc' := 195) X45 hx (hb hby at_191) (by decide) (by decide) ?_
                  have q := J187_49 T45   X45
                  rw [show (f0_j195_s0 p1) = (1 : Int32) from by rw [f0_j195_s0, if_neg hc187_213]] at q
                  exact q
              by_cases hc171_214 : ((f0_v56 p1) &&& (1 : Int32)) = (0 : Int32)
              · refine Rt.ifY (pc' := 178) X40 hx (hb hby at_171) ((if0 _ _).trans (teq hc171_214).1) (by decide) (by decide) ?_
                refine Rt.iconst (pc' := 179) (v := (0 : Int32)) X40 hx (hb hby at_178) rfl rfl ?_
                have q := J171_44 T40   X40
                rw [show (f0_j179_s0 p1) = (0 : Int32) from by rw [f0_j179_s0, if_pos hc171_214]] at q
                exact q
              · refine Rt.ifN (pc' := 174) X40 hx (hb hby at_171) ((if0 _ _).trans (feq hc171_214).1) rfl ?_
                refine Rt.iconst (pc' := 175) (v := (1 : Int32)) X40 hx (hb hby at_174) rfl rfl ?_
                refine Rt.goto (pc' := 179) X40 hx (hb hby at_175) (by decide) (by decide) ?_
                have q := J171_44 T40   X40
                rw [show (f0_j179_s0 p1) = (1 : Int32) from by rw [f0_j179_s0, if_neg hc171_214]] at q
                exact q
            by_cases hc155_215 : ((f0_v44 p1) &&& (2 : Int32)) = (0 : Int32)
            · refine Rt.ifY (pc' := 162) X35 hx (hb hby at_155) ((if0 _ _).trans (teq hc155_215).1) (by decide) (by decide) ?_
              refine Rt.iconst (pc' := 163) (v := (0 : Int32)) X35 hx (hb hby at_162) rfl rfl ?_
              have q := J155_39 T35   X35
              rw [show (f0_j163_s0 p1) = (0 : Int32) from by rw [f0_j163_s0, if_pos hc155_215]] at q
              exact q
            · refine Rt.ifN (pc' := 158) X35 hx (hb hby at_155) ((if0 _ _).trans (feq hc155_215).1) rfl ?_
              refine Rt.iconst (pc' := 159) (v := (1 : Int32)) X35 hx (hb hby at_158) rfl rfl ?_
              refine Rt.goto (pc' := 163) X35 hx (hb hby at_159) (by decide) (by decide) ?_
              have q := J155_39 T35   X35
              rw [show (f0_j163_s0 p1) = (1 : Int32) from by rw [f0_j163_s0, if_neg hc155_215]] at q
              exact q
          by_cases hc139_216 : ((f0_v44 p1) &&& (1 : Int32)) = (0 : Int32)
          · refine Rt.ifY (pc' := 146) X30 hx (hb hby at_139) ((if0 _ _).trans (teq hc139_216).1) (by decide) (by decide) ?_
            refine Rt.iconst (pc' := 147) (v := (0 : Int32)) X30 hx (hb hby at_146) rfl rfl ?_
            have q := J139_34 T30   X30
            rw [show (f0_j147_s0 p1) = (0 : Int32) from by rw [f0_j147_s0, if_pos hc139_216]] at q
            exact q
          · refine Rt.ifN (pc' := 142) X30 hx (hb hby at_139) ((if0 _ _).trans (feq hc139_216).1) rfl ?_
            refine Rt.iconst (pc' := 143) (v := (1 : Int32)) X30 hx (hb hby at_142) rfl rfl ?_
            refine Rt.goto (pc' := 147) X30 hx (hb hby at_143) (by decide) (by decide) ?_
            have q := J139_34 T30   X30
            rw [show (f0_j147_s0 p1) = (1 : Int32) from by rw [f0_j147_s0, if_neg hc139_216]] at q
            exact q
        by_cases hc123_217 : ((f0_v33 p1) &&& (2 : Int32)) = (0 : Int32)
        · refine Rt.ifY (pc' := 130) X25 hx (hb hby at_123) ((if0 _ _).trans (teq hc123_217).1) (by decide) (by decide) ?_
          refine Rt.iconst (pc' := 131) (v := (0 : Int32)) X25 hx (hb hby at_130) rfl rfl ?_
          have q := J123_29 T25   X25
          rw [show (f0_j131_s0 p1) = (0 : Int32) from by rw [f0_j131_s0, if_pos hc123_217]] at q
          exact q
        · refine Rt.ifN (pc' := 126) X25 hx (hb hby at_123) ((if0 _ _).trans (feq hc123_217).1) rfl ?_
          refine Rt.iconst (pc' := 127) (v := (1 : Int32)) X25 hx (hb hby at_126) rfl rfl ?_
          refine Rt.goto (pc' := 131) X25 hx (hb hby at_127) (by decide) (by decide) ?_
          have q := J123_29 T25   X25
          rw [show (f0_j131_s0 p1) = (1 : Int32) from by rw [f0_j131_s0, if_neg hc123_217]] at q
          exact q
      by_cases hc107_218 : ((f0_v33 p1) &&& (1 : Int32)) = (0 : Int32)
      · refine Rt.ifY (pc' := 114) X20 hx (hb hby at_107) ((if0 _ _).trans (teq hc107_218).1) (by decide) (by decide) ?_
        refine Rt.iconst (pc' := 115) (v := (0 : Int32)) X20 hx (hb hby at_114) rfl rfl ?_
        have q := J107_24 T20   X20
        rw [show (f0_j115_s0 p1) = (0 : Int32) from by rw [f0_j115_s0, if_pos hc107_218]] at q
        exact q
      · refine Rt.ifN (pc' := 110) X20 hx (hb hby at_107) ((if0 _ _).trans (feq hc107_218).1) rfl ?_
        refine Rt.iconst (pc' := 111) (v := (1 : Int32)) X20 hx (hb hby at_110) rfl rfl ?_
        refine Rt.goto (pc' := 115) X20 hx (hb hby at_111) (by decide) (by decide) ?_
        have q := J107_24 T20   X20
        rw [show (f0_j115_s0 p1) = (1 : Int32) from by rw [f0_j115_s0, if_neg hc107_218]] at q
        exact q
    by_cases hc91_219 : ((f0_v22 p1) &&& (2 : Int32)) = (0 : Int32)
    · refine Rt.ifY (pc' := 98) X15 hx (hb hby at_91) ((if0 _ _).trans (teq hc91_219).1) (by decide) (by decide) ?_
      refine Rt.iconst (pc' := 99) (v := (0 : Int32)) X15 hx (hb hby at_98) rfl rfl ?_
      have q := J91_19 T15   X15
      rw [show (f0_j99_s0 p1) = (0 : Int32) from by rw [f0_j99_s0, if_pos hc91_219]] at q
      exact q
    · refine Rt.ifN (pc' := 94) X15 hx (hb hby at_91) ((if0 _ _).trans (feq hc91_219).1) rfl ?_
      refine Rt.iconst (pc' := 95) (v := (1 : Int32)) X15 hx (hb hby at_94) rfl rfl ?_
      refine Rt.goto (pc' := 99) X15 hx (hb hby at_95) (by decide) (by decide) ?_
      have q := J91_19 T15   X15
      rw [show (f0_j99_s0 p1) = (1 : Int32) from by rw [f0_j99_s0, if_neg hc91_219]] at q
      exact q
  by_cases hc75_220 : ((f0_v22 p1) &&& (1 : Int32)) = (0 : Int32)
  · refine Rt.ifY (pc' := 82) X7 hx (hb hby at_75) ((if0 _ _).trans (teq hc75_220).1) (by decide) (by decide) ?_
    refine Rt.iconst (pc' := 83) (v := (0 : Int32)) X7 hx (hb hby at_82) rfl rfl ?_
    have q := J75_14 T7   X7
    rw [show (f0_j83_s0 p1) = (0 : Int32) from by rw [f0_j83_s0, if_pos hc75_220]] at q
    exact q
  · refine Rt.ifN (pc' := 78) X7 hx (hb hby at_75) ((if0 _ _).trans (feq hc75_220).1) rfl ?_
    refine Rt.iconst (pc' := 79) (v := (1 : Int32)) X7 hx (hb hby at_78) rfl rfl ?_
    refine Rt.goto (pc' := 83) X7 hx (hb hby at_79) (by decide) (by decide) ?_
    have q := J75_14 T7   X7
    rw [show (f0_j83_s0 p1) = (1 : Int32) from by rw [f0_j83_s0, if_neg hc75_220]] at q
    exact q
def bd (i : Int) (x : Int32) : Prop := 0 ≤ x.toInt ∧ x.toInt ≤ i
theorem bd_mono {i j : Int} {x : Int32} (q : bd i x) (h : i ≤ j) : bd j x := ⟨q.1, Int.le_trans q.2 h⟩
theorem bd_0 {i : Int} (h : 0 ≤ i) : bd i (0 : Int32) := ⟨by decide, h⟩
theorem bd_1 {i : Int} (h : 1 ≤ i) : bd i (1 : Int32) := ⟨by decide, h⟩
theorem bd_add1 {i : Int} {x : Int32} (q : bd i x) (h : i ≤ 1000) : bd (i + 1) (x + 1) := by
  have g := c_iadd x 1
  have l : (1 : Int32).toInt = 1 := by decide
  have b1 := (x + 1).le_toInt
  have b2 := (x + 1).toInt_lt
  unfold bd at *
  omega
theorem bd_add0 {i : Int} {x : Int32} (q : bd i x) : bd i (x + 0) := by rw [Int32.add_zero]; exact q
theorem own_Ol (p2 : Int32) (p3 : Int32) (p4 : Int32) (x : Int32) (y : Int32) (z : Int32) : f15_o_F_a1_length_0 p2 p3 p4 x y z = y ∨ f15_o_F_a1_length_0 p2 p3 p4 x y z = p3 := by unfold f15_o_F_a1_length_0; split; exact Or.inl rfl; exact Or.inr rfl
theorem own_Ow (p2 : Int32) (p3 : Int32) (p4 : Int32) (x : Int32) (y : Int32) (z : Int32) : f15_o_F_a1_lows_0 p2 p3 p4 x y z = z ∨ f15_o_F_a1_lows_0 p2 p3 p4 x y z = p4 := by unfold f15_o_F_a1_lows_0; split; exact Or.inl rfl; exact Or.inr rfl
theorem own_El (p4 : Int32) (p5 : Int32) (imp : Int32) (hm : Int32) (x2 : Int32) (y2 : Int32) (z2 : Int32) (x3 : Int32) (y3 : Int32) (z3 : Int32) : f11_o_F_a2_length_0 p4 p5 imp hm x2 y2 z2 x3 y3 z3 = y2 ∨ f11_o_F_a2_length_0 p4 p5 imp hm x2 y2 z2 x3 y3 z3 = y3 + 1 := by
  unfold f11_o_F_a2_length_0; repeat' split
  all_goals first | exact Or.inl rfl | (unfold f11_c51_a2_length0; exact own_Ol ..)
theorem own_Ew (p4 : Int32) (p5 : Int32) (imp : Int32) (hm : Int32) (x2 : Int32) (y2 : Int32) (z2 : Int32) (x3 : Int32) (y3 : Int32) (z3 : Int32) : f11_o_F_a2_lows_0 p4 p5 imp hm x2 y2 z2 x3 y3 z3 = z2 ∨ f11_o_F_a2_lows_0 p4 p5 imp hm x2 y2 z2 x3 y3 z3 = z3 + p5 := by
  unfold f11_o_F_a2_lows_0; repeat' split
  all_goals first | exact Or.inl rfl | (unfold f11_c51_a2_lows0; exact own_Ow ..)
theorem own_cr {p4 p4' p5 imp hm hm' x2 y2 z2 x3 y3 z3 : Int32} (h1 : y3 < p4 ↔ y3 < p4') (h2 : hm < z3 + p5 ↔ hm' < z3 + p5) : f11_o_F_a2_runs_0 p4 p5 imp hm x2 y2 z2 x3 y3 z3 = f11_o_F_a2_runs_0 p4' p5 imp hm' x2 y2 z2 x3 y3 z3 := by unfold f11_o_F_a2_runs_0; simp only [h1, h2]
theorem own_cl {p4 p4' p5 imp hm hm' x2 y2 z2 x3 y3 z3 : Int32} (h1 : y3 < p4 ↔ y3 < p4') (h2 : hm < z3 + p5 ↔ hm' < z3 + p5) : f11_o_F_a2_length_0 p4 p5 imp hm x2 y2 z2 x3 y3 z3 = f11_o_F_a2_length_0 p4' p5 imp hm' x2 y2 z2 x3 y3 z3 := by unfold f11_o_F_a2_length_0; simp only [h1, h2]
theorem own_cw {p4 p4' p5 imp hm hm' x2 y2 z2 x3 y3 z3 : Int32} (h1 : y3 < p4 ↔ y3 < p4') (h2 : hm < z3 + p5 ↔ hm' < z3 + p5) : f11_o_F_a2_lows_0 p4 p5 imp hm x2 y2 z2 x3 y3 z3 = f11_o_F_a2_lows_0 p4' p5 imp hm' x2 y2 z2 x3 y3 z3 := by unfold f11_o_F_a2_lows_0; simp only [h1, h2]
theorem own_b3length (p2 : Int32) (p4 : Int32) (imp : Int32) (hm : Int32) (x1 : Int32) (y1 : Int32) (z1 : Int32) (x2 : Int32) (y2 : Int32) (z2 : Int32) {i : Int} (h1 : bd i y1) (h2 : bd i y2) (h0 : 0 ≤ i) (h3 : i ≤ 1000) : bd (i + 1) (f8_j64_F_r3_length_0 p2 p4 imp hm x1 y1 z1 x2 y2 z2) := by
  unfold f8_j64_F_r3_length_0
  split
  · exact bd_0 (by omega)
  · unfold f8_c61_r3_length0
    rcases own_El .. with e | e <;> rw [e]
    · unfold f8_c45_r3_length0
      rcases own_El .. with e | e <;> rw [e]
      · exact bd_0 (by omega)
      · exact bd_add1 h1 h3
    · exact bd_add1 h2 h3
theorem own_b3lows (p2 : Int32) (p4 : Int32) (imp : Int32) (hm : Int32) (x1 : Int32) (y1 : Int32) (z1 : Int32) (x2 : Int32) (y2 : Int32) (z2 : Int32) {i : Int} (h1 : bd i z1) (h2 : bd i z2) (h0 : 0 ≤ i) (h3 : i ≤ 1000) : bd (i + 1) (f8_j64_F_r3_lows_0 p2 p4 imp hm x1 y1 z1 x2 y2 z2) := by
  unfold f8_j64_F_r3_lows_0
  split
  · exact bd_0 (by omega)
  · unfold f8_c61_r3_lows0
    rcases own_Ew .. with e | e <;> rw [e]
    · unfold f8_c45_r3_lows0
      rcases own_Ew .. with e | e <;> rw [e]
      · exact bd_0 (by omega)
      · exact bd_add1 h1 h3
    · exact bd_add1 h2 h3
theorem own_b4length (p3 : Int32) (p4 : Int32) (imp : Int32) (hm : Int32) (lo : Int32) (x1 : Int32) (y1 : Int32) (z1 : Int32) (x2 : Int32) (y2 : Int32) (z2 : Int32) {i : Int} (h1 : bd i y1) (h2 : bd i y2) (h0 : 0 ≤ i) (h3 : i ≤ 1000) : bd (i + 1) (f8_j109_F_r4_length_0 p3 p4 imp hm lo x1 y1 z1 x2 y2 z2) := by
  unfold f8_j109_F_r4_length_0
  split
  · exact bd_0 (by omega)
  · unfold f8_c106_r4_length0
    rcases own_Ol .. with e | e <;> rw [e]
    · unfold f8_c93_r4_length0
      rcases own_El .. with e | e <;> rw [e]
      · unfold f8_c79_r4_length0
        rcases own_El .. with e | e <;> rw [e]
        · exact bd_0 (by omega)
        · exact bd_add1 h1 h3
      · exact bd_add1 h2 h3
    · exact bd_1 (by omega)
theorem own_b4lows (p3 : Int32) (p4 : Int32) (imp : Int32) (hm : Int32) (lo : Int32) (x1 : Int32) (y1 : Int32) (z1 : Int32) (x2 : Int32) (y2 : Int32) (z2 : Int32) {i : Int} (h1 : bd i z1) (h2 : bd i z2) (h0 : 0 ≤ i) (h3 : i ≤ 1000) : bd (i + 1) (f8_j109_F_r4_lows_0 p3 p4 imp hm lo x1 y1 z1 x2 y2 z2) := by
  unfold f8_j109_F_r4_lows_0
  split
  · exact bd_0 (by omega)
  · unfold f8_c106_r4_lows0
    rcases own_Ow .. with e | e <;> rw [e]
    · unfold f8_c93_r4_lows0
      rcases own_Ew .. with e | e <;> rw [e]
      · unfold f8_c79_r4_lows0
        rcases own_Ew .. with e | e <;> rw [e]
        · exact bd_0 (by omega)
        · exact bd_mono (bd_add0 h1) (by omega)
      · exact bd_mono (bd_add0 h2) (by omega)
    · exact bd_0 (by omega)
theorem own_k3r {L L' H H' : Int32} (PL : ∀ y, bd 3 y → ((y < L ↔ y < L') ∧ (y < L - 1 ↔ y < L' - 1))) (PH : ∀ z, bd 4 z → (H < z ↔ H' < z)) {p2 : Int32} {imp : Int32} {x1 : Int32} {y1 : Int32} {z1 : Int32} {x2 : Int32} {y2 : Int32} {z2 : Int32}  (b1 : bd 3 y1) (b2 : bd 3 y2) (c1 : bd 3 z1) (c2 : bd 3 z2) : (f8_j64_F_r3_runs_0 p2 L imp H x1 y1 z1 x2 y2 z2) = (f8_j64_F_r3_runs_0 p2 L' imp H' x1 y1 z1 x2 y2 z2) := by
  have q1 := (PL y1 b1).2
  have q2 := (PL y2 b2).2
  have r1 := PH (z1 + 1) (bd_add1 c1 (by omega))
  have r2 := PH (z2 + 1) (bd_add1 c2 (by omega))
  have kr : (f8_c45_r3_runs0 L imp H x1 y1 z1) = (f8_c45_r3_runs0 L' imp H' x1 y1 z1) := own_cr q1 r1
  have kl : (f8_c45_r3_length0 L imp H x1 y1 z1) = (f8_c45_r3_length0 L' imp H' x1 y1 z1) := own_cl q1 r1
  have kw : (f8_c45_r3_lows0 L imp H x1 y1 z1) = (f8_c45_r3_lows0 L' imp H' x1 y1 z1) := own_cw q1 r1
  have mr : (f8_c61_r3_runs0 L imp H x1 y1 z1 x2 y2 z2) = (f8_c61_r3_runs0 L' imp H' x1 y1 z1 x2 y2 z2) := by unfold f8_c61_r3_runs0; rw [kr, kl, kw]; exact own_cr q2 r2
  have ml : (f8_c61_r3_length0 L imp H x1 y1 z1 x2 y2 z2) = (f8_c61_r3_length0 L' imp H' x1 y1 z1 x2 y2 z2) := by unfold f8_c61_r3_length0; rw [kr, kl, kw]; exact own_cl q2 r2
  have mw : (f8_c61_r3_lows0 L imp H x1 y1 z1 x2 y2 z2) = (f8_c61_r3_lows0 L' imp H' x1 y1 z1 x2 y2 z2) := by unfold f8_c61_r3_lows0; rw [kr, kl, kw]; exact own_cw q2 r2
  unfold f8_j64_F_r3_runs_0; rw [mr]
theorem own_k3l {L L' H H' : Int32} (PL : ∀ y, bd 3 y → ((y < L ↔ y < L') ∧ (y < L - 1 ↔ y < L' - 1))) (PH : ∀ z, bd 4 z → (H < z ↔ H' < z)) {p2 : Int32} {imp : Int32} {x1 : Int32} {y1 : Int32} {z1 : Int32} {x2 : Int32} {y2 : Int32} {z2 : Int32}  (b1 : bd 3 y1) (b2 : bd 3 y2) (c1 : bd 3 z1) (c2 : bd 3 z2) : (f8_j64_F_r3_length_0 p2 L imp H x1 y1 z1 x2 y2 z2) = (f8_j64_F_r3_length_0 p2 L' imp H' x1 y1 z1 x2 y2 z2) := by
  have q1 := (PL y1 b1).2
  have q2 := (PL y2 b2).2
  have r1 := PH (z1 + 1) (bd_add1 c1 (by omega))
  have r2 := PH (z2 + 1) (bd_add1 c2 (by omega))
  have kr : (f8_c45_r3_runs0 L imp H x1 y1 z1) = (f8_c45_r3_runs0 L' imp H' x1 y1 z1) := own_cr q1 r1
  have kl : (f8_c45_r3_length0 L imp H x1 y1 z1) = (f8_c45_r3_length0 L' imp H' x1 y1 z1) := own_cl q1 r1
  have kw : (f8_c45_r3_lows0 L imp H x1 y1 z1) = (f8_c45_r3_lows0 L' imp H' x1 y1 z1) := own_cw q1 r1
  have mr : (f8_c61_r3_runs0 L imp H x1 y1 z1 x2 y2 z2) = (f8_c61_r3_runs0 L' imp H' x1 y1 z1 x2 y2 z2) := by unfold f8_c61_r3_runs0; rw [kr, kl, kw]; exact own_cr q2 r2
  have ml : (f8_c61_r3_length0 L imp H x1 y1 z1 x2 y2 z2) = (f8_c61_r3_length0 L' imp H' x1 y1 z1 x2 y2 z2) := by unfold f8_c61_r3_length0; rw [kr, kl, kw]; exact own_cl q2 r2
  have mw : (f8_c61_r3_lows0 L imp H x1 y1 z1 x2 y2 z2) = (f8_c61_r3_lows0 L' imp H' x1 y1 z1 x2 y2 z2) := by unfold f8_c61_r3_lows0; rw [kr, kl, kw]; exact own_cw q2 r2
  unfold f8_j64_F_r3_length_0; rw [ml]
theorem own_k3w {L L' H H' : Int32} (PL : ∀ y, bd 3 y → ((y < L ↔ y < L') ∧ (y < L - 1 ↔ y < L' - 1))) (PH : ∀ z, bd 4 z → (H < z ↔ H' < z)) {p2 : Int32} {imp : Int32} {x1 : Int32} {y1 : Int32} {z1 : Int32} {x2 : Int32} {y2 : Int32} {z2 : Int32}  (b1 : bd 3 y1) (b2 : bd 3 y2) (c1 : bd 3 z1) (c2 : bd 3 z2) : (f8_j64_F_r3_lows_0 p2 L imp H x1 y1 z1 x2 y2 z2) = (f8_j64_F_r3_lows_0 p2 L' imp H' x1 y1 z1 x2 y2 z2) := by
  have q1 := (PL y1 b1).2
  have q2 := (PL y2 b2).2
  have r1 := PH (z1 + 1) (bd_add1 c1 (by omega))
  have r2 := PH (z2 + 1) (bd_add1 c2 (by omega))
  have kr : (f8_c45_r3_runs0 L imp H x1 y1 z1) = (f8_c45_r3_runs0 L' imp H' x1 y1 z1) := own_cr q1 r1
  have kl : (f8_c45_r3_length0 L imp H x1 y1 z1) = (f8_c45_r3_length0 L' imp H' x1 y1 z1) := own_cl q1 r1
  have kw : (f8_c45_r3_lows0 L imp H x1 y1 z1) = (f8_c45_r3_lows0 L' imp H' x1 y1 z1) := own_cw q1 r1
  have mr : (f8_c61_r3_runs0 L imp H x1 y1 z1 x2 y2 z2) = (f8_c61_r3_runs0 L' imp H' x1 y1 z1 x2 y2 z2) := by unfold f8_c61_r3_runs0; rw [kr, kl, kw]; exact own_cr q2 r2
  have ml : (f8_c61_r3_length0 L imp H x1 y1 z1 x2 y2 z2) = (f8_c61_r3_length0 L' imp H' x1 y1 z1 x2 y2 z2) := by unfold f8_c61_r3_length0; rw [kr, kl, kw]; exact own_cl q2 r2
  have mw : (f8_c61_r3_lows0 L imp H x1 y1 z1 x2 y2 z2) = (f8_c61_r3_lows0 L' imp H' x1 y1 z1 x2 y2 z2) := by unfold f8_c61_r3_lows0; rw [kr, kl, kw]; exact own_cw q2 r2
  unfold f8_j64_F_r3_lows_0; rw [mw]
theorem own_k4r {L L' H H' : Int32} (PL : ∀ y, bd 3 y → ((y < L ↔ y < L') ∧ (y < L - 1 ↔ y < L' - 1))) (PH : ∀ z, bd 4 z → (H < z ↔ H' < z)) {p3 : Int32} {imp : Int32} {lo : Int32} {x1 : Int32} {y1 : Int32} {z1 : Int32} {x2 : Int32} {y2 : Int32} {z2 : Int32}  (b1 : bd 3 y1) (b2 : bd 3 y2) (c1 : bd 3 z1) (c2 : bd 3 z2) : (f8_j109_F_r4_runs_0 p3 L imp H lo x1 y1 z1 x2 y2 z2) = (f8_j109_F_r4_runs_0 p3 L' imp H' lo x1 y1 z1 x2 y2 z2) := by
  have q1 := (PL y1 b1).1
  have q2 := (PL y2 b2).1
  have r1 := PH (z1 + 0) (bd_add0 (bd_mono c1 (by omega)))
  have r2 := PH (z2 + 0) (bd_add0 (bd_mono c2 (by omega)))
  have kr : (f8_c79_r4_runs0 L imp H x1 y1 z1) = (f8_c79_r4_runs0 L' imp H' x1 y1 z1) := own_cr q1 r1
  have kl : (f8_c79_r4_length0 L imp H x1 y1 z1) = (f8_c79_r4_length0 L' imp H' x1 y1 z1) := own_cl q1 r1
  have kw : (f8_c79_r4_lows0 L imp H x1 y1 z1) = (f8_c79_r4_lows0 L' imp H' x1 y1 z1) := own_cw q1 r1
  have mr : (f8_c93_r4_runs0 L imp H x1 y1 z1 x2 y2 z2) = (f8_c93_r4_runs0 L' imp H' x1 y1 z1 x2 y2 z2) := by unfold f8_c93_r4_runs0; rw [kr, kl, kw]; exact own_cr q2 r2
  have ml : (f8_c93_r4_length0 L imp H x1 y1 z1 x2 y2 z2) = (f8_c93_r4_length0 L' imp H' x1 y1 z1 x2 y2 z2) := by unfold f8_c93_r4_length0; rw [kr, kl, kw]; exact own_cl q2 r2
  have mw : (f8_c93_r4_lows0 L imp H x1 y1 z1 x2 y2 z2) = (f8_c93_r4_lows0 L' imp H' x1 y1 z1 x2 y2 z2) := by unfold f8_c93_r4_lows0; rw [kr, kl, kw]; exact own_cw q2 r2
  unfold f8_j109_F_r4_runs_0 f8_c106_r4_runs0; rw [mr, ml, mw]
theorem own_k4l {L L' H H' : Int32} (PL : ∀ y, bd 3 y → ((y < L ↔ y < L') ∧ (y < L - 1 ↔ y < L' - 1))) (PH : ∀ z, bd 4 z → (H < z ↔ H' < z)) {p3 : Int32} {imp : Int32} {lo : Int32} {x1 : Int32} {y1 : Int32} {z1 : Int32} {x2 : Int32} {y2 : Int32} {z2 : Int32}  (b1 : bd 3 y1) (b2 : bd 3 y2) (c1 : bd 3 z1) (c2 : bd 3 z2) : (f8_j109_F_r4_length_0 p3 L imp H lo x1 y1 z1 x2 y2 z2) = (f8_j109_F_r4_length_0 p3 L' imp H' lo x1 y1 z1 x2 y2 z2) := by
  have q1 := (PL y1 b1).1
  have q2 := (PL y2 b2).1
  have r1 := PH (z1 + 0) (bd_add0 (bd_mono c1 (by omega)))
  have r2 := PH (z2 + 0) (bd_add0 (bd_mono c2 (by omega)))
  have kr : (f8_c79_r4_runs0 L imp H x1 y1 z1) = (f8_c79_r4_runs0 L' imp H' x1 y1 z1) := own_cr q1 r1
  have kl : (f8_c79_r4_length0 L imp H x1 y1 z1) = (f8_c79_r4_length0 L' imp H' x1 y1 z1) := own_cl q1 r1
  have kw : (f8_c79_r4_lows0 L imp H x1 y1 z1) = (f8_c79_r4_lows0 L' imp H' x1 y1 z1) := own_cw q1 r1
  have mr : (f8_c93_r4_runs0 L imp H x1 y1 z1 x2 y2 z2) = (f8_c93_r4_runs0 L' imp H' x1 y1 z1 x2 y2 z2) := by unfold f8_c93_r4_runs0; rw [kr, kl, kw]; exact own_cr q2 r2
  have ml : (f8_c93_r4_length0 L imp H x1 y1 z1 x2 y2 z2) = (f8_c93_r4_length0 L' imp H' x1 y1 z1 x2 y2 z2) := by unfold f8_c93_r4_length0; rw [kr, kl, kw]; exact own_cl q2 r2
  have mw : (f8_c93_r4_lows0 L imp H x1 y1 z1 x2 y2 z2) = (f8_c93_r4_lows0 L' imp H' x1 y1 z1 x2 y2 z2) := by unfold f8_c93_r4_lows0; rw [kr, kl, kw]; exact own_cw q2 r2
  unfold f8_j109_F_r4_length_0 f8_c106_r4_length0; rw [mr, ml, mw]
theorem own_k4w {L L' H H' : Int32} (PL : ∀ y, bd 3 y → ((y < L ↔ y < L') ∧ (y < L - 1 ↔ y < L' - 1))) (PH : ∀ z, bd 4 z → (H < z ↔ H' < z)) {p3 : Int32} {imp : Int32} {lo : Int32} {x1 : Int32} {y1 : Int32} {z1 : Int32} {x2 : Int32} {y2 : Int32} {z2 : Int32}  (b1 : bd 3 y1) (b2 : bd 3 y2) (c1 : bd 3 z1) (c2 : bd 3 z2) : (f8_j109_F_r4_lows_0 p3 L imp H lo x1 y1 z1 x2 y2 z2) = (f8_j109_F_r4_lows_0 p3 L' imp H' lo x1 y1 z1 x2 y2 z2) := by
  have q1 := (PL y1 b1).1
  have q2 := (PL y2 b2).1
  have r1 := PH (z1 + 0) (bd_add0 (bd_mono c1 (by omega)))
  have r2 := PH (z2 + 0) (bd_add0 (bd_mono c2 (by omega)))
  have kr : (f8_c79_r4_runs0 L imp H x1 y1 z1) = (f8_c79_r4_runs0 L' imp H' x1 y1 z1) := own_cr q1 r1
  have kl : (f8_c79_r4_length0 L imp H x1 y1 z1) = (f8_c79_r4_length0 L' imp H' x1 y1 z1) := own_cl q1 r1
  have kw : (f8_c79_r4_lows0 L imp H x1 y1 z1) = (f8_c79_r4_lows0 L' imp H' x1 y1 z1) := own_cw q1 r1
  have mr : (f8_c93_r4_runs0 L imp H x1 y1 z1 x2 y2 z2) = (f8_c93_r4_runs0 L' imp H' x1 y1 z1 x2 y2 z2) := by unfold f8_c93_r4_runs0; rw [kr, kl, kw]; exact own_cr q2 r2
  have ml : (f8_c93_r4_length0 L imp H x1 y1 z1 x2 y2 z2) = (f8_c93_r4_length0 L' imp H' x1 y1 z1 x2 y2 z2) := by unfold f8_c93_r4_length0; rw [kr, kl, kw]; exact own_cl q2 r2
  have mw : (f8_c93_r4_lows0 L imp H x1 y1 z1 x2 y2 z2) = (f8_c93_r4_lows0 L' imp H' x1 y1 z1 x2 y2 z2) := by unfold f8_c93_r4_lows0; rw [kr, kl, kw]; exact own_cw q2 r2
  unfold f8_j109_F_r4_lows_0 f8_c106_r4_lows0; rw [mr, ml, mw]
theorem own_e_f4_c41_b12nr3_runs0 {L L' H H' : Int32} (PL : ∀ y, bd 3 y → ((y < L ↔ y < L') ∧ (y < L - 1 ↔ y < L' - 1))) (PH : ∀ z, bd 4 z → (H < z ↔ H' < z)) {cl0 : Int32} : (f4_c41_b12nr3_runs0 L H cl0) = (f4_c41_b12nr3_runs0 L' H' cl0) := by
  unfold f4_c41_b12nr3_runs0
  exact own_k3r PL PH (bd_0 (by decide)) (bd_0 (by decide)) (bd_0 (by decide)) (bd_0 (by decide))
theorem own_e_f4_c41_b12nr3_length0 {L L' H H' : Int32} (PL : ∀ y, bd 3 y → ((y < L ↔ y < L') ∧ (y < L - 1 ↔ y < L' - 1))) (PH : ∀ z, bd 4 z → (H < z ↔ H' < z)) {cl0 : Int32} : (f4_c41_b12nr3_length0 L H cl0) = (f4_c41_b12nr3_length0 L' H' cl0) := by
  unfold f4_c41_b12nr3_length0
  exact own_k3l PL PH (bd_0 (by decide)) (bd_0 (by decide)) (bd_0 (by decide)) (bd_0 (by decide))
theorem own_d_f4_c41_b12nr3_length0 {p4 : Int32} {hm : Int32} {cl0 : Int32} : bd 1 (f4_c41_b12nr3_length0 p4 hm cl0) := by
  unfold f4_c41_b12nr3_length0; exact bd_mono (own_b3length _ _ _ _ _ _ _ _ _ _ (i := 0) (bd_0 (by decide)) (bd_0 (by decide)) (by decide) (by decide)) (by decide)
theorem own_e_f4_c41_b12nr3_lows0 {L L' H H' : Int32} (PL : ∀ y, bd 3 y → ((y < L ↔ y < L') ∧ (y < L - 1 ↔ y < L' - 1))) (PH : ∀ z, bd 4 z → (H < z ↔ H' < z)) {cl0 : Int32} : (f4_c41_b12nr3_lows0 L H cl0) = (f4_c41_b12nr3_lows0 L' H' cl0) := by
  unfold f4_c41_b12nr3_lows0
  exact own_k3w PL PH (bd_0 (by decide)) (bd_0 (by decide)) (bd_0 (by decide)) (bd_0 (by decide))
theorem own_d_f4_c41_b12nr3_lows0 {p4 : Int32} {hm : Int32} {cl0 : Int32} : bd 1 (f4_c41_b12nr3_lows0 p4 hm cl0) := by
  unfold f4_c41_b12nr3_lows0; exact bd_mono (own_b3lows _ _ _ _ _ _ _ _ _ _ (i := 0) (bd_0 (by decide)) (bd_0 (by decide)) (by decide) (by decide)) (by decide)
theorem own_e_f4_c41_b12nr4_runs0 {L L' H H' : Int32} (PL : ∀ y, bd 3 y → ((y < L ↔ y < L') ∧ (y < L - 1 ↔ y < L' - 1))) (PH : ∀ z, bd 4 z → (H < z ↔ H' < z)) {ch0 : Int32} : (f4_c41_b12nr4_runs0 L H ch0) = (f4_c41_b12nr4_runs0 L' H' ch0) := by
  unfold f4_c41_b12nr4_runs0
  exact own_k4r PL PH (bd_0 (by decide)) (bd_0 (by decide)) (bd_0 (by decide)) (bd_0 (by decide))
theorem own_e_f4_c41_b12nr4_length0 {L L' H H' : Int32} (PL : ∀ y, bd 3 y → ((y < L ↔ y < L') ∧ (y < L - 1 ↔ y < L' - 1))) (PH : ∀ z, bd 4 z → (H < z ↔ H' < z)) {ch0 : Int32} : (f4_c41_b12nr4_length0 L H ch0) = (f4_c41_b12nr4_length0 L' H' ch0) := by
  unfold f4_c41_b12nr4_length0
  exact own_k4l PL PH (bd_0 (by decide)) (bd_0 (by decide)) (bd_0 (by decide)) (bd_0 (by decide))
theorem own_d_f4_c41_b12nr4_length0 {p4 : Int32} {hm : Int32} {ch0 : Int32} : bd 1 (f4_c41_b12nr4_length0 p4 hm ch0) := by
  unfold f4_c41_b12nr4_length0; exact bd_mono (own_b4length _ _ _ _ _ _ _ _ _ _ _ (i := 0) (bd_0 (by decide)) (bd_0 (by decide)) (by decide) (by decide)) (by decide)
theorem own_e_f4_c41_b12nr4_lows0 {L L' H H' : Int32} (PL : ∀ y, bd 3 y → ((y < L ↔ y < L') ∧ (y < L - 1 ↔ y < L' - 1))) (PH : ∀ z, bd 4 z → (H < z ↔ H' < z)) {ch0 : Int32} : (f4_c41_b12nr4_lows0 L H ch0) = (f4_c41_b12nr4_lows0 L' H' ch0) := by
  unfold f4_c41_b12nr4_lows0
  exact own_k4w PL PH (bd_0 (by decide)) (bd_0 (by decide)) (bd_0 (by decide)) (bd_0 (by decide))
theorem own_d_f4_c41_b12nr4_lows0 {p4 : Int32} {hm : Int32} {ch0 : Int32} : bd 1 (f4_c41_b12nr4_lows0 p4 hm ch0) := by
  unfold f4_c41_b12nr4_lows0; exact bd_mono (own_b4lows _ _ _ _ _ _ _ _ _ _ _ (i := 0) (bd_0 (by decide)) (bd_0 (by decide)) (by decide) (by decide)) (by decide)
theorem own_e_f4_c41_b0_lowOut0_1 {L L' H H' : Int32} (PL : ∀ y, bd 3 y → ((y < L ↔ y < L') ∧ (y < L - 1 ↔ y < L' - 1))) (PH : ∀ z, bd 4 z → (H < z ↔ H' < z)) {cl0 : Int32} {cl1 : Int32} {ch0 : Int32} : (f4_c41_b0_lowOut0_1 L H cl0 cl1 ch0) = (f4_c41_b0_lowOut0_1 L' H' cl0 cl1 ch0) := by
  unfold f4_c41_b0_lowOut0_1
  rw [own_e_f4_c41_b12nr4_runs0 PL PH]
theorem own_e_f4_c41_b12nr1_runs0 {L L' H H' : Int32} (PL : ∀ y, bd 3 y → ((y < L ↔ y < L') ∧ (y < L - 1 ↔ y < L' - 1))) (PH : ∀ z, bd 4 z → (H < z ↔ H' < z)) {cl0 : Int32} {cl1 : Int32} {ch0 : Int32} : (f4_c41_b12nr1_runs0 L H cl0 cl1 ch0) = (f4_c41_b12nr1_runs0 L' H' cl0 cl1 ch0) := by
  unfold f4_c41_b12nr1_runs0
  rw [own_e_f4_c41_b12nr3_runs0 PL PH, own_e_f4_c41_b12nr3_length0 PL PH, own_e_f4_c41_b12nr3_lows0 PL PH, own_e_f4_c41_b12nr4_runs0 PL PH, own_e_f4_c41_b12nr4_length0 PL PH, own_e_f4_c41_b12nr4_lows0 PL PH]
  exact own_k3r PL PH (bd_mono own_d_f4_c41_b12nr3_length0 (by decide)) (bd_mono own_d_f4_c41_b12nr4_length0 (by decide)) (bd_mono own_d_f4_c41_b12nr3_lows0 (by decide)) (bd_mono own_d_f4_c41_b12nr4_lows0 (by decide))
theorem own_e_f4_c41_b12nr1_length0 {L L' H H' : Int32} (PL : ∀ y, bd 3 y → ((y < L ↔ y < L') ∧ (y < L - 1 ↔ y < L' - 1))) (PH : ∀ z, bd 4 z → (H < z ↔ H' < z)) {cl0 : Int32} {cl1 : Int32} {ch0 : Int32} : (f4_c41_b12nr1_length0 L H cl0 cl1 ch0) = (f4_c41_b12nr1_length0 L' H' cl0 cl1 ch0) := by
  unfold f4_c41_b12nr1_length0
  rw [own_e_f4_c41_b12nr3_runs0 PL PH, own_e_f4_c41_b12nr3_length0 PL PH, own_e_f4_c41_b12nr3_lows0 PL PH, own_e_f4_c41_b12nr4_runs0 PL PH, own_e_f4_c41_b12nr4_length0 PL PH, own_e_f4_c41_b12nr4_lows0 PL PH]
  exact own_k3l PL PH (bd_mono own_d_f4_c41_b12nr3_length0 (by decide)) (bd_mono own_d_f4_c41_b12nr4_length0 (by decide)) (bd_mono own_d_f4_c41_b12nr3_lows0 (by decide)) (bd_mono own_d_f4_c41_b12nr4_lows0 (by decide))
theorem own_d_f4_c41_b12nr1_length0 {p4 : Int32} {hm : Int32} {cl0 : Int32} {cl1 : Int32} {ch0 : Int32} : bd 2 (f4_c41_b12nr1_length0 p4 hm cl0 cl1 ch0) := by
  unfold f4_c41_b12nr1_length0; exact bd_mono (own_b3length _ _ _ _ _ _ _ _ _ _ (i := 1) (bd_mono own_d_f4_c41_b12nr3_length0 (by decide)) (bd_mono own_d_f4_c41_b12nr4_length0 (by decide)) (by decide) (by decide)) (by decide)
theorem own_e_f4_c41_b12nr1_lows0 {L L' H H' : Int32} (PL : ∀ y, bd 3 y → ((y < L ↔ y < L') ∧ (y < L - 1 ↔ y < L' - 1))) (PH : ∀ z, bd 4 z → (H < z ↔ H' < z)) {cl0 : Int32} {cl1 : Int32} {ch0 : Int32} : (f4_c41_b12nr1_lows0 L H cl0 cl1 ch0) = (f4_c41_b12nr1_lows0 L' H' cl0 cl1 ch0) := by
  unfold f4_c41_b12nr1_lows0
  rw [own_e_f4_c41_b12nr3_runs0 PL PH, own_e_f4_c41_b12nr3_length0 PL PH, own_e_f4_c41_b12nr3_lows0 PL PH, own_e_f4_c41_b12nr4_runs0 PL PH, own_e_f4_c41_b12nr4_length0 PL PH, own_e_f4_c41_b12nr4_lows0 PL PH]
  exact own_k3w PL PH (bd_mono own_d_f4_c41_b12nr3_length0 (by decide)) (bd_mono own_d_f4_c41_b12nr4_length0 (by decide)) (bd_mono own_d_f4_c41_b12nr3_lows0 (by decide)) (bd_mono own_d_f4_c41_b12nr4_lows0 (by decide))
theorem own_d_f4_c41_b12nr1_lows0 {p4 : Int32} {hm : Int32} {cl0 : Int32} {cl1 : Int32} {ch0 : Int32} : bd 2 (f4_c41_b12nr1_lows0 p4 hm cl0 cl1 ch0) := by
  unfold f4_c41_b12nr1_lows0; exact bd_mono (own_b3lows _ _ _ _ _ _ _ _ _ _ (i := 1) (bd_mono own_d_f4_c41_b12nr3_lows0 (by decide)) (bd_mono own_d_f4_c41_b12nr4_lows0 (by decide)) (by decide) (by decide)) (by decide)
theorem own_e_f4_c41_b12nr2_runs0 {L L' H H' : Int32} (PL : ∀ y, bd 3 y → ((y < L ↔ y < L') ∧ (y < L - 1 ↔ y < L' - 1))) (PH : ∀ z, bd 4 z → (H < z ↔ H' < z)) {cl0 : Int32} {ch0 : Int32} {ch1 : Int32} : (f4_c41_b12nr2_runs0 L H cl0 ch0 ch1) = (f4_c41_b12nr2_runs0 L' H' cl0 ch0 ch1) := by
  unfold f4_c41_b12nr2_runs0
  rw [own_e_f4_c41_b12nr3_runs0 PL PH, own_e_f4_c41_b12nr3_length0 PL PH, own_e_f4_c41_b12nr3_lows0 PL PH, own_e_f4_c41_b12nr4_runs0 PL PH, own_e_f4_c41_b12nr4_length0 PL PH, own_e_f4_c41_b12nr4_lows0 PL PH]
  exact own_k4r PL PH (bd_mono own_d_f4_c41_b12nr3_length0 (by decide)) (bd_mono own_d_f4_c41_b12nr4_length0 (by decide)) (bd_mono own_d_f4_c41_b12nr3_lows0 (by decide)) (bd_mono own_d_f4_c41_b12nr4_lows0 (by decide))
theorem own_e_f4_c41_b12nr2_length0 {L L' H H' : Int32} (PL : ∀ y, bd 3 y → ((y < L ↔ y < L') ∧ (y < L - 1 ↔ y < L' - 1))) (PH : ∀ z, bd 4 z → (H < z ↔ H' < z)) {cl0 : Int32} {ch0 : Int32} {ch1 : Int32} : (f4_c41_b12nr2_length0 L H cl0 ch0 ch1) = (f4_c41_b12nr2_length0 L' H' cl0 ch0 ch1) := by
  unfold f4_c41_b12nr2_length0
  rw [own_e_f4_c41_b12nr3_runs0 PL PH, own_e_f4_c41_b12nr3_length0 PL PH, own_e_f4_c41_b12nr3_lows0 PL PH, own_e_f4_c41_b12nr4_runs0 PL PH, own_e_f4_c41_b12nr4_length0 PL PH, own_e_f4_c41_b12nr4_lows0 PL PH]
  exact own_k4l PL PH (bd_mono own_d_f4_c41_b12nr3_length0 (by decide)) (bd_mono own_d_f4_c41_b12nr4_length0 (by decide)) (bd_mono own_d_f4_c41_b12nr3_lows0 (by decide)) (bd_mono own_d_f4_c41_b12nr4_lows0 (by decide))
theorem own_d_f4_c41_b12nr2_length0 {p4 : Int32} {hm : Int32} {cl0 : Int32} {ch0 : Int32} {ch1 : Int32} : bd 2 (f4_c41_b12nr2_length0 p4 hm cl0 ch0 ch1) := by
  unfold f4_c41_b12nr2_length0; exact bd_mono (own_b4length _ _ _ _ _ _ _ _ _ _ _ (i := 1) (bd_mono own_d_f4_c41_b12nr3_length0 (by decide)) (bd_mono own_d_f4_c41_b12nr4_length0 (by decide)) (by decide) (by decide)) (by decide)
theorem own_e_f4_c41_b12nr2_lows0 {L L' H H' : Int32} (PL : ∀ y, bd 3 y → ((y < L ↔ y < L') ∧ (y < L - 1 ↔ y < L' - 1))) (PH : ∀ z, bd 4 z → (H < z ↔ H' < z)) {cl0 : Int32} {ch0 : Int32} {ch1 : Int32} : (f4_c41_b12nr2_lows0 L H cl0 ch0 ch1) = (f4_c41_b12nr2_lows0 L' H' cl0 ch0 ch1) := by
  unfold f4_c41_b12nr2_lows0
  rw [own_e_f4_c41_b12nr3_runs0 PL PH, own_e_f4_c41_b12nr3_length0 PL PH, own_e_f4_c41_b12nr3_lows0 PL PH, own_e_f4_c41_b12nr4_runs0 PL PH, own_e_f4_c41_b12nr4_length0 PL PH, own_e_f4_c41_b12nr4_lows0 PL PH]
  exact own_k4w PL PH (bd_mono own_d_f4_c41_b12nr3_length0 (by decide)) (bd_mono own_d_f4_c41_b12nr4_length0 (by decide)) (bd_mono own_d_f4_c41_b12nr3_lows0 (by decide)) (bd_mono own_d_f4_c41_b12nr4_lows0 (by decide))
theorem own_d_f4_c41_b12nr2_lows0 {p4 : Int32} {hm : Int32} {cl0 : Int32} {ch0 : Int32} {ch1 : Int32} : bd 2 (f4_c41_b12nr2_lows0 p4 hm cl0 ch0 ch1) := by
  unfold f4_c41_b12nr2_lows0; exact bd_mono (own_b4lows _ _ _ _ _ _ _ _ _ _ _ (i := 1) (bd_mono own_d_f4_c41_b12nr3_lows0 (by decide)) (bd_mono own_d_f4_c41_b12nr4_lows0 (by decide)) (by decide) (by decide)) (by decide)
theorem own_e_f4_c41_b0_lowOut0_2 {L L' H H' : Int32} (PL : ∀ y, bd 3 y → ((y < L ↔ y < L') ∧ (y < L - 1 ↔ y < L' - 1))) (PH : ∀ z, bd 4 z → (H < z ↔ H' < z)) {cl0 : Int32} {cl1 : Int32} {cl2 : Int32} {ch0 : Int32} {ch1 : Int32} : (f4_c41_b0_lowOut0_2 L H cl0 cl1 cl2 ch0 ch1) = (f4_c41_b0_lowOut0_2 L' H' cl0 cl1 cl2 ch0 ch1) := by
  unfold f4_c41_b0_lowOut0_2
  rw [own_e_f4_c41_b0_lowOut0_1 PL PH, own_e_f4_c41_b12nr2_runs0 PL PH]
theorem own_e_f4_c41_b12nr3_runs0_1 {L L' H H' : Int32} (PL : ∀ y, bd 3 y → ((y < L ↔ y < L') ∧ (y < L - 1 ↔ y < L' - 1))) (PH : ∀ z, bd 4 z → (H < z ↔ H' < z)) {cl0 : Int32} {cl1 : Int32} {cl2 : Int32} {ch0 : Int32} {ch1 : Int32} : (f4_c41_b12nr3_runs0_1 L H cl0 cl1 cl2 ch0 ch1) = (f4_c41_b12nr3_runs0_1 L' H' cl0 cl1 cl2 ch0 ch1) := by
  unfold f4_c41_b12nr3_runs0_1
  rw [own_e_f4_c41_b12nr1_runs0 PL PH, own_e_f4_c41_b12nr1_length0 PL PH, own_e_f4_c41_b12nr1_lows0 PL PH, own_e_f4_c41_b12nr2_runs0 PL PH, own_e_f4_c41_b12nr2_length0 PL PH, own_e_f4_c41_b12nr2_lows0 PL PH]
  exact own_k3r PL PH (bd_mono own_d_f4_c41_b12nr1_length0 (by decide)) (bd_mono own_d_f4_c41_b12nr2_length0 (by decide)) (bd_mono own_d_f4_c41_b12nr1_lows0 (by decide)) (bd_mono own_d_f4_c41_b12nr2_lows0 (by decide))
theorem own_e_f4_c41_b12nr3_length0_1 {L L' H H' : Int32} (PL : ∀ y, bd 3 y → ((y < L ↔ y < L') ∧ (y < L - 1 ↔ y < L' - 1))) (PH : ∀ z, bd 4 z → (H < z ↔ H' < z)) {cl0 : Int32} {cl1 : Int32} {cl2 : Int32} {ch0 : Int32} {ch1 : Int32} : (f4_c41_b12nr3_length0_1 L H cl0 cl1 cl2 ch0 ch1) = (f4_c41_b12nr3_length0_1 L' H' cl0 cl1 cl2 ch0 ch1) := by
  unfold f4_c41_b12nr3_length0_1
  rw [own_e_f4_c41_b12nr1_runs0 PL PH, own_e_f4_c41_b12nr1_length0 PL PH, own_e_f4_c41_b12nr1_lows0 PL PH, own_e_f4_c41_b12nr2_runs0 PL PH, own_e_f4_c41_b12nr2_length0 PL PH, own_e_f4_c41_b12nr2_lows0 PL PH]
  exact own_k3l PL PH (bd_mono own_d_f4_c41_b12nr1_length0 (by decide)) (bd_mono own_d_f4_c41_b12nr2_length0 (by decide)) (bd_mono own_d_f4_c41_b12nr1_lows0 (by decide)) (bd_mono own_d_f4_c41_b12nr2_lows0 (by decide))
theorem own_d_f4_c41_b12nr3_length0_1 {p4 : Int32} {hm : Int32} {cl0 : Int32} {cl1 : Int32} {cl2 : Int32} {ch0 : Int32} {ch1 : Int32} : bd 3 (f4_c41_b12nr3_length0_1 p4 hm cl0 cl1 cl2 ch0 ch1) := by
  unfold f4_c41_b12nr3_length0_1; exact bd_mono (own_b3length _ _ _ _ _ _ _ _ _ _ (i := 2) (bd_mono own_d_f4_c41_b12nr1_length0 (by decide)) (bd_mono own_d_f4_c41_b12nr2_length0 (by decide)) (by decide) (by decide)) (by decide)
theorem own_e_f4_c41_b12nr3_lows0_1 {L L' H H' : Int32} (PL : ∀ y, bd 3 y → ((y < L ↔ y < L') ∧ (y < L - 1 ↔ y < L' - 1))) (PH : ∀ z, bd 4 z → (H < z ↔ H' < z)) {cl0 : Int32} {cl1 : Int32} {cl2 : Int32} {ch0 : Int32} {ch1 : Int32} : (f4_c41_b12nr3_lows0_1 L H cl0 cl1 cl2 ch0 ch1) = (f4_c41_b12nr3_lows0_1 L' H' cl0 cl1 cl2 ch0 ch1) := by
  unfold f4_c41_b12nr3_lows0_1
  rw [own_e_f4_c41_b12nr1_runs0 PL PH, own_e_f4_c41_b12nr1_length0 PL PH, own_e_f4_c41_b12nr1_lows0 PL PH, own_e_f4_c41_b12nr2_runs0 PL PH, own_e_f4_c41_b12nr2_length0 PL PH, own_e_f4_c41_b12nr2_lows0 PL PH]
  exact own_k3w PL PH (bd_mono own_d_f4_c41_b12nr1_length0 (by decide)) (bd_mono own_d_f4_c41_b12nr2_length0 (by decide)) (bd_mono own_d_f4_c41_b12nr1_lows0 (by decide)) (bd_mono own_d_f4_c41_b12nr2_lows0 (by decide))
theorem own_d_f4_c41_b12nr3_lows0_1 {p4 : Int32} {hm : Int32} {cl0 : Int32} {cl1 : Int32} {cl2 : Int32} {ch0 : Int32} {ch1 : Int32} : bd 3 (f4_c41_b12nr3_lows0_1 p4 hm cl0 cl1 cl2 ch0 ch1) := by
  unfold f4_c41_b12nr3_lows0_1; exact bd_mono (own_b3lows _ _ _ _ _ _ _ _ _ _ (i := 2) (bd_mono own_d_f4_c41_b12nr1_lows0 (by decide)) (bd_mono own_d_f4_c41_b12nr2_lows0 (by decide)) (by decide) (by decide)) (by decide)
theorem own_e_f4_c41_b12nr4_runs0_1 {L L' H H' : Int32} (PL : ∀ y, bd 3 y → ((y < L ↔ y < L') ∧ (y < L - 1 ↔ y < L' - 1))) (PH : ∀ z, bd 4 z → (H < z ↔ H' < z)) {cl0 : Int32} {cl1 : Int32} {ch0 : Int32} {ch1 : Int32} {ch2 : Int32} : (f4_c41_b12nr4_runs0_1 L H cl0 cl1 ch0 ch1 ch2) = (f4_c41_b12nr4_runs0_1 L' H' cl0 cl1 ch0 ch1 ch2) := by
  unfold f4_c41_b12nr4_runs0_1
  rw [own_e_f4_c41_b0_lowOut0_1 PL PH, own_e_f4_c41_b12nr1_runs0 PL PH, own_e_f4_c41_b12nr1_length0 PL PH, own_e_f4_c41_b12nr1_lows0 PL PH, own_e_f4_c41_b12nr2_runs0 PL PH, own_e_f4_c41_b12nr2_length0 PL PH, own_e_f4_c41_b12nr2_lows0 PL PH]
  exact own_k4r PL PH (bd_mono own_d_f4_c41_b12nr1_length0 (by decide)) (bd_mono own_d_f4_c41_b12nr2_length0 (by decide)) (bd_mono own_d_f4_c41_b12nr1_lows0 (by decide)) (bd_mono own_d_f4_c41_b12nr2_lows0 (by decide))
theorem own_e_f4_c41_b12nr4_length0_1 {L L' H H' : Int32} (PL : ∀ y, bd 3 y → ((y < L ↔ y < L') ∧ (y < L - 1 ↔ y < L' - 1))) (PH : ∀ z, bd 4 z → (H < z ↔ H' < z)) {cl0 : Int32} {cl1 : Int32} {ch0 : Int32} {ch1 : Int32} {ch2 : Int32} : (f4_c41_b12nr4_length0_1 L H cl0 cl1 ch0 ch1 ch2) = (f4_c41_b12nr4_length0_1 L' H' cl0 cl1 ch0 ch1 ch2) := by
  unfold f4_c41_b12nr4_length0_1
  rw [own_e_f4_c41_b0_lowOut0_1 PL PH, own_e_f4_c41_b12nr1_runs0 PL PH, own_e_f4_c41_b12nr1_length0 PL PH, own_e_f4_c41_b12nr1_lows0 PL PH, own_e_f4_c41_b12nr2_runs0 PL PH, own_e_f4_c41_b12nr2_length0 PL PH, own_e_f4_c41_b12nr2_lows0 PL PH]
  exact own_k4l PL PH (bd_mono own_d_f4_c41_b12nr1_length0 (by decide)) (bd_mono own_d_f4_c41_b12nr2_length0 (by decide)) (bd_mono own_d_f4_c41_b12nr1_lows0 (by decide)) (bd_mono own_d_f4_c41_b12nr2_lows0 (by decide))
theorem own_d_f4_c41_b12nr4_length0_1 {p4 : Int32} {hm : Int32} {cl0 : Int32} {cl1 : Int32} {ch0 : Int32} {ch1 : Int32} {ch2 : Int32} : bd 3 (f4_c41_b12nr4_length0_1 p4 hm cl0 cl1 ch0 ch1 ch2) := by
  unfold f4_c41_b12nr4_length0_1; exact bd_mono (own_b4length _ _ _ _ _ _ _ _ _ _ _ (i := 2) (bd_mono own_d_f4_c41_b12nr1_length0 (by decide)) (bd_mono own_d_f4_c41_b12nr2_length0 (by decide)) (by decide) (by decide)) (by decide)
theorem own_e_f4_c41_b12nr4_lows0_1 {L L' H H' : Int32} (PL : ∀ y, bd 3 y → ((y < L ↔ y < L') ∧ (y < L - 1 ↔ y < L' - 1))) (PH : ∀ z, bd 4 z → (H < z ↔ H' < z)) {cl0 : Int32} {cl1 : Int32} {ch0 : Int32} {ch1 : Int32} {ch2 : Int32} : (f4_c41_b12nr4_lows0_1 L H cl0 cl1 ch0 ch1 ch2) = (f4_c41_b12nr4_lows0_1 L' H' cl0 cl1 ch0 ch1 ch2) := by
  unfold f4_c41_b12nr4_lows0_1
  rw [own_e_f4_c41_b0_lowOut0_1 PL PH, own_e_f4_c41_b12nr1_runs0 PL PH, own_e_f4_c41_b12nr1_length0 PL PH, own_e_f4_c41_b12nr1_lows0 PL PH, own_e_f4_c41_b12nr2_runs0 PL PH, own_e_f4_c41_b12nr2_length0 PL PH, own_e_f4_c41_b12nr2_lows0 PL PH]
  exact own_k4w PL PH (bd_mono own_d_f4_c41_b12nr1_length0 (by decide)) (bd_mono own_d_f4_c41_b12nr2_length0 (by decide)) (bd_mono own_d_f4_c41_b12nr1_lows0 (by decide)) (bd_mono own_d_f4_c41_b12nr2_lows0 (by decide))
theorem own_d_f4_c41_b12nr4_lows0_1 {p4 : Int32} {hm : Int32} {cl0 : Int32} {cl1 : Int32} {ch0 : Int32} {ch1 : Int32} {ch2 : Int32} : bd 3 (f4_c41_b12nr4_lows0_1 p4 hm cl0 cl1 ch0 ch1 ch2) := by
  unfold f4_c41_b12nr4_lows0_1; exact bd_mono (own_b4lows _ _ _ _ _ _ _ _ _ _ _ (i := 2) (bd_mono own_d_f4_c41_b12nr1_lows0 (by decide)) (bd_mono own_d_f4_c41_b12nr2_lows0 (by decide)) (by decide) (by decide)) (by decide)
theorem own_e_f4_c41_b0_lowOut0_3 {L L' H H' : Int32} (PL : ∀ y, bd 3 y → ((y < L ↔ y < L') ∧ (y < L - 1 ↔ y < L' - 1))) (PH : ∀ z, bd 4 z → (H < z ↔ H' < z)) {cl0 : Int32} {cl1 : Int32} {cl2 : Int32} {cl3 : Int32} {ch0 : Int32} {ch1 : Int32} {ch2 : Int32} : (f4_c41_b0_lowOut0_3 L H cl0 cl1 cl2 cl3 ch0 ch1 ch2) = (f4_c41_b0_lowOut0_3 L' H' cl0 cl1 cl2 cl3 ch0 ch1 ch2) := by
  unfold f4_c41_b0_lowOut0_3
  rw [own_e_f4_c41_b0_lowOut0_2 PL PH, own_e_f4_c41_b12nr4_runs0_1 PL PH]
theorem own_e_f4_c41_b12nr1_runs0_1 {L L' H H' : Int32} (PL : ∀ y, bd 3 y → ((y < L ↔ y < L') ∧ (y < L - 1 ↔ y < L' - 1))) (PH : ∀ z, bd 4 z → (H < z ↔ H' < z)) {cl0 : Int32} {cl1 : Int32} {cl2 : Int32} {cl3 : Int32} {ch0 : Int32} {ch1 : Int32} {ch2 : Int32} : (f4_c41_b12nr1_runs0_1 L H cl0 cl1 cl2 cl3 ch0 ch1 ch2) = (f4_c41_b12nr1_runs0_1 L' H' cl0 cl1 cl2 cl3 ch0 ch1 ch2) := by
  unfold f4_c41_b12nr1_runs0_1
  rw [own_e_f4_c41_b12nr3_runs0_1 PL PH, own_e_f4_c41_b12nr3_length0_1 PL PH, own_e_f4_c41_b12nr3_lows0_1 PL PH, own_e_f4_c41_b12nr4_runs0_1 PL PH, own_e_f4_c41_b12nr4_length0_1 PL PH, own_e_f4_c41_b12nr4_lows0_1 PL PH]
  exact own_k3r PL PH (bd_mono own_d_f4_c41_b12nr3_length0_1 (by decide)) (bd_mono own_d_f4_c41_b12nr4_length0_1 (by decide)) (bd_mono own_d_f4_c41_b12nr3_lows0_1 (by decide)) (bd_mono own_d_f4_c41_b12nr4_lows0_1 (by decide))
theorem own_e_f4_c41_b12nr1_length0_1 {L L' H H' : Int32} (PL : ∀ y, bd 3 y → ((y < L ↔ y < L') ∧ (y < L - 1 ↔ y < L' - 1))) (PH : ∀ z, bd 4 z → (H < z ↔ H' < z)) {cl0 : Int32} {cl1 : Int32} {cl2 : Int32} {cl3 : Int32} {ch0 : Int32} {ch1 : Int32} {ch2 : Int32} : (f4_c41_b12nr1_length0_1 L H cl0 cl1 cl2 cl3 ch0 ch1 ch2) = (f4_c41_b12nr1_length0_1 L' H' cl0 cl1 cl2 cl3 ch0 ch1 ch2) := by
  unfold f4_c41_b12nr1_length0_1
  rw [own_e_f4_c41_b12nr3_runs0_1 PL PH, own_e_f4_c41_b12nr3_length0_1 PL PH, own_e_f4_c41_b12nr3_lows0_1 PL PH, own_e_f4_c41_b12nr4_runs0_1 PL PH, own_e_f4_c41_b12nr4_length0_1 PL PH, own_e_f4_c41_b12nr4_lows0_1 PL PH]
  exact own_k3l PL PH (bd_mono own_d_f4_c41_b12nr3_length0_1 (by decide)) (bd_mono own_d_f4_c41_b12nr4_length0_1 (by decide)) (bd_mono own_d_f4_c41_b12nr3_lows0_1 (by decide)) (bd_mono own_d_f4_c41_b12nr4_lows0_1 (by decide))
theorem own_d_f4_c41_b12nr1_length0_1 {p4 : Int32} {hm : Int32} {cl0 : Int32} {cl1 : Int32} {cl2 : Int32} {cl3 : Int32} {ch0 : Int32} {ch1 : Int32} {ch2 : Int32} : bd 4 (f4_c41_b12nr1_length0_1 p4 hm cl0 cl1 cl2 cl3 ch0 ch1 ch2) := by
  unfold f4_c41_b12nr1_length0_1; exact bd_mono (own_b3length _ _ _ _ _ _ _ _ _ _ (i := 3) (bd_mono own_d_f4_c41_b12nr3_length0_1 (by decide)) (bd_mono own_d_f4_c41_b12nr4_length0_1 (by decide)) (by decide) (by decide)) (by decide)
theorem own_e_f4_c41_b12nr1_lows0_1 {L L' H H' : Int32} (PL : ∀ y, bd 3 y → ((y < L ↔ y < L') ∧ (y < L - 1 ↔ y < L' - 1))) (PH : ∀ z, bd 4 z → (H < z ↔ H' < z)) {cl0 : Int32} {cl1 : Int32} {cl2 : Int32} {cl3 : Int32} {ch0 : Int32} {ch1 : Int32} {ch2 : Int32} : (f4_c41_b12nr1_lows0_1 L H cl0 cl1 cl2 cl3 ch0 ch1 ch2) = (f4_c41_b12nr1_lows0_1 L' H' cl0 cl1 cl2 cl3 ch0 ch1 ch2) := by
  unfold f4_c41_b12nr1_lows0_1
  rw [own_e_f4_c41_b12nr3_runs0_1 PL PH, own_e_f4_c41_b12nr3_length0_1 PL PH, own_e_f4_c41_b12nr3_lows0_1 PL PH, own_e_f4_c41_b12nr4_runs0_1 PL PH, own_e_f4_c41_b12nr4_length0_1 PL PH, own_e_f4_c41_b12nr4_lows0_1 PL PH]
  exact own_k3w PL PH (bd_mono own_d_f4_c41_b12nr3_length0_1 (by decide)) (bd_mono own_d_f4_c41_b12nr4_length0_1 (by decide)) (bd_mono own_d_f4_c41_b12nr3_lows0_1 (by decide)) (bd_mono own_d_f4_c41_b12nr4_lows0_1 (by decide))
theorem own_d_f4_c41_b12nr1_lows0_1 {p4 : Int32} {hm : Int32} {cl0 : Int32} {cl1 : Int32} {cl2 : Int32} {cl3 : Int32} {ch0 : Int32} {ch1 : Int32} {ch2 : Int32} : bd 4 (f4_c41_b12nr1_lows0_1 p4 hm cl0 cl1 cl2 cl3 ch0 ch1 ch2) := by
  unfold f4_c41_b12nr1_lows0_1; exact bd_mono (own_b3lows _ _ _ _ _ _ _ _ _ _ (i := 3) (bd_mono own_d_f4_c41_b12nr3_lows0_1 (by decide)) (bd_mono own_d_f4_c41_b12nr4_lows0_1 (by decide)) (by decide) (by decide)) (by decide)
theorem own_e_f4_c41_b12nr2_runs0_1 {L L' H H' : Int32} (PL : ∀ y, bd 3 y → ((y < L ↔ y < L') ∧ (y < L - 1 ↔ y < L' - 1))) (PH : ∀ z, bd 4 z → (H < z ↔ H' < z)) {cl0 : Int32} {cl1 : Int32} {cl2 : Int32} {ch0 : Int32} {ch1 : Int32} {ch2 : Int32} {ch3 : Int32} : (f4_c41_b12nr2_runs0_1 L H cl0 cl1 cl2 ch0 ch1 ch2 ch3) = (f4_c41_b12nr2_runs0_1 L' H' cl0 cl1 cl2 ch0 ch1 ch2 ch3) := by
  unfold f4_c41_b12nr2_runs0_1
  rw [own_e_f4_c41_b0_lowOut0_2 PL PH, own_e_f4_c41_b12nr3_runs0_1 PL PH, own_e_f4_c41_b12nr3_length0_1 PL PH, own_e_f4_c41_b12nr3_lows0_1 PL PH, own_e_f4_c41_b12nr4_runs0_1 PL PH, own_e_f4_c41_b12nr4_length0_1 PL PH, own_e_f4_c41_b12nr4_lows0_1 PL PH]
  exact own_k4r PL PH (bd_mono own_d_f4_c41_b12nr3_length0_1 (by decide)) (bd_mono own_d_f4_c41_b12nr4_length0_1 (by decide)) (bd_mono own_d_f4_c41_b12nr3_lows0_1 (by decide)) (bd_mono own_d_f4_c41_b12nr4_lows0_1 (by decide))
theorem own_e_f4_c41_b12nr2_length0_1 {L L' H H' : Int32} (PL : ∀ y, bd 3 y → ((y < L ↔ y < L') ∧ (y < L - 1 ↔ y < L' - 1))) (PH : ∀ z, bd 4 z → (H < z ↔ H' < z)) {cl0 : Int32} {cl1 : Int32} {cl2 : Int32} {ch0 : Int32} {ch1 : Int32} {ch2 : Int32} {ch3 : Int32} : (f4_c41_b12nr2_length0_1 L H cl0 cl1 cl2 ch0 ch1 ch2 ch3) = (f4_c41_b12nr2_length0_1 L' H' cl0 cl1 cl2 ch0 ch1 ch2 ch3) := by
  unfold f4_c41_b12nr2_length0_1
  rw [own_e_f4_c41_b0_lowOut0_2 PL PH, own_e_f4_c41_b12nr3_runs0_1 PL PH, own_e_f4_c41_b12nr3_length0_1 PL PH, own_e_f4_c41_b12nr3_lows0_1 PL PH, own_e_f4_c41_b12nr4_runs0_1 PL PH, own_e_f4_c41_b12nr4_length0_1 PL PH, own_e_f4_c41_b12nr4_lows0_1 PL PH]
  exact own_k4l PL PH (bd_mono own_d_f4_c41_b12nr3_length0_1 (by decide)) (bd_mono own_d_f4_c41_b12nr4_length0_1 (by decide)) (bd_mono own_d_f4_c41_b12nr3_lows0_1 (by decide)) (bd_mono own_d_f4_c41_b12nr4_lows0_1 (by decide))
theorem own_d_f4_c41_b12nr2_length0_1 {p4 : Int32} {hm : Int32} {cl0 : Int32} {cl1 : Int32} {cl2 : Int32} {ch0 : Int32} {ch1 : Int32} {ch2 : Int32} {ch3 : Int32} : bd 4 (f4_c41_b12nr2_length0_1 p4 hm cl0 cl1 cl2 ch0 ch1 ch2 ch3) := by
  unfold f4_c41_b12nr2_length0_1; exact bd_mono (own_b4length _ _ _ _ _ _ _ _ _ _ _ (i := 3) (bd_mono own_d_f4_c41_b12nr3_length0_1 (by decide)) (bd_mono own_d_f4_c41_b12nr4_length0_1 (by decide)) (by decide) (by decide)) (by decide)
theorem own_e_f4_c41_b12nr2_lows0_1 {L L' H H' : Int32} (PL : ∀ y, bd 3 y → ((y < L ↔ y < L') ∧ (y < L - 1 ↔ y < L' - 1))) (PH : ∀ z, bd 4 z → (H < z ↔ H' < z)) {cl0 : Int32} {cl1 : Int32} {cl2 : Int32} {ch0 : Int32} {ch1 : Int32} {ch2 : Int32} {ch3 : Int32} : (f4_c41_b12nr2_lows0_1 L H cl0 cl1 cl2 ch0 ch1 ch2 ch3) = (f4_c41_b12nr2_lows0_1 L' H' cl0 cl1 cl2 ch0 ch1 ch2 ch3) := by
  unfold f4_c41_b12nr2_lows0_1
  rw [own_e_f4_c41_b0_lowOut0_2 PL PH, own_e_f4_c41_b12nr3_runs0_1 PL PH, own_e_f4_c41_b12nr3_length0_1 PL PH, own_e_f4_c41_b12nr3_lows0_1 PL PH, own_e_f4_c41_b12nr4_runs0_1 PL PH, own_e_f4_c41_b12nr4_length0_1 PL PH, own_e_f4_c41_b12nr4_lows0_1 PL PH]
  exact own_k4w PL PH (bd_mono own_d_f4_c41_b12nr3_length0_1 (by decide)) (bd_mono own_d_f4_c41_b12nr4_length0_1 (by decide)) (bd_mono own_d_f4_c41_b12nr3_lows0_1 (by decide)) (bd_mono own_d_f4_c41_b12nr4_lows0_1 (by decide))
theorem own_d_f4_c41_b12nr2_lows0_1 {p4 : Int32} {hm : Int32} {cl0 : Int32} {cl1 : Int32} {cl2 : Int32} {ch0 : Int32} {ch1 : Int32} {ch2 : Int32} {ch3 : Int32} : bd 4 (f4_c41_b12nr2_lows0_1 p4 hm cl0 cl1 cl2 ch0 ch1 ch2 ch3) := by
  unfold f4_c41_b12nr2_lows0_1; exact bd_mono (own_b4lows _ _ _ _ _ _ _ _ _ _ _ (i := 3) (bd_mono own_d_f4_c41_b12nr3_lows0_1 (by decide)) (bd_mono own_d_f4_c41_b12nr4_lows0_1 (by decide)) (by decide) (by decide)) (by decide)
theorem own_e_f4 {L L' H H' : Int32} (PL : ∀ y, bd 3 y → ((y < L ↔ y < L') ∧ (y < L - 1 ↔ y < L' - 1))) (PH : ∀ z, bd 4 z → (H < z ↔ H' < z)) {cl0 : Int32} {cl1 : Int32} {cl2 : Int32} {cl3 : Int32} {ch0 : Int32} {ch1 : Int32} {ch2 : Int32} {ch3 : Int32} : (f4 L H cl0 cl1 cl2 cl3 ch0 ch1 ch2 ch3) = (f4 L' H' cl0 cl1 cl2 cl3 ch0 ch1 ch2 ch3) := by
  unfold f4; rw [own_e_f4_c41_b0_lowOut0_3 PL PH, own_e_f4_c41_b12nr2_runs0_1 PL PH]

instance own_bdD (i : Int) (x : Int32) : Decidable (bd i x) := by unfold bd; infer_instance
def own_ms : List Int32 := [0, 1, 2, 3, 4, 5, 6, 7, 8, 9, 10, 11, 12, 13, 14, 15]
def own_ps : List (Int32 × Int32) := [(0, 0), (0, 1), (0, 2), (0, 3), (1, 1), (1, 2), (1, 3), (2, 2), (2, 3), (3, 3)]
theorem own_wb : ∀ m ∈ own_ms, ∀ p ∈ own_ps, bd 4 ((p.2 - p.1) + 1) ∧ (p.1 = p.2 ∨ bd 4 (f17_v37 m p.1 p.2)) := by decide +kernel
theorem own_w17 {L L' H H' : Int32} (QL : ∀ y, bd 4 y → (L < y ↔ L' < y)) (PH : ∀ z, bd 4 z → (H < z ↔ H' < z)) (m i j : Int32) (h : m ∈ own_ms) (h' : (i, j) ∈ own_ps) : f17 m i j L H = f17 m i j L' H' := by
  have q := own_wb m h (i, j) h'
  unfold f17
  simp only [QL _ q.1]
  rcases q.2 with e | e
  · have e' : i = j := e
    rw [if_pos e', if_pos e']
  · simp only [PH _ e]
theorem own_w13 {L L' H H' : Int32} (QL : ∀ y, bd 4 y → (L < y ↔ L' < y)) (PH : ∀ z, bd 4 z → (H < z ↔ H' < z)) (m : Int32) (h : m ∈ own_ms) : f13 m L H = f13 m L' H' := by
  have w01 := own_w17 QL PH m 0 1 h (by decide)
  have w02 := own_w17 QL PH m 0 2 h (by decide)
  have w03 := own_w17 QL PH m 0 3 h (by decide)
  have w11 := own_w17 QL PH m 1 1 h (by decide)
  have w12 := own_w17 QL PH m 1 2 h (by decide)
  have w13 := own_w17 QL PH m 1 3 h (by decide)
  have w22 := own_w17 QL PH m 2 2 h (by decide)
  have w23 := own_w17 QL PH m 2 3 h (by decide)
  have w33 := own_w17 QL PH m 3 3 h (by decide)
  have e47 : f13_j47_s0 m L H = f13_j47_s0 m L' H' := by simp only [f13_j47_s0, f13_a40_0, f13_a40_1, f16, w01, w11]
  have e96 : f13_j96_s0 m L H = f13_j96_s0 m L' H' := by simp only [f13_j96_s0, f13_a88_0, f13_a88_1, f13_a75_0, f13_a75_1, e47, f16, w02, w12, w22]
  simp only [f13, f13_j158_s0, f13_a150_0, f13_a150_1, f13_a147_0, f13_a147_1, f13_a124_0, f13_a124_1, e47, e96, f16, w03, w13, w23, w33]
theorem own_w12 {L L' H H' : Int32} (QL : ∀ y, bd 4 y → (L < y ↔ L' < y)) (PH : ∀ z, bd 4 z → (H < z ↔ H' < z)) (m a b : Int32) (h : m ∈ own_ms) : f12 m a b L H = f12 m a b L' H' := by unfold f12; rw [own_w13 QL PH m h]
def own_got (L H a b c d : Int32) : Int32 := f4 L H (nar .boolean (if a &&& 1 = 0 then 0 else 1)) (nar .boolean (if b &&& 1 = 0 then 0 else 1)) (nar .boolean (if c &&& 1 = 0 then 0 else 1)) (nar .boolean (if d &&& 1 = 0 then 0 else 1)) (nar .boolean (if a &&& 2 = 0 then 0 else 1)) (nar .boolean (if b &&& 2 = 0 then 0 else 1)) (nar .boolean (if c &&& 2 = 0 then 0 else 1)) (nar .boolean (if d &&& 2 = 0 then 0 else 1))
def own_lo (a b c d : Int32) : Int32 := ((((a &&& (1 : Int32)) ||| ((b &&& (1 : Int32)) <<< ((1 : Int32) &&& 31))) ||| ((c &&& (1 : Int32)) <<< ((2 : Int32) &&& 31))) ||| ((d &&& (1 : Int32)) <<< ((3 : Int32) &&& 31)))
def own_hi (a b c d : Int32) : Int32 := (((((a >>> ((1 : Int32) &&& 31)) &&& (1 : Int32)) ||| (((b >>> ((1 : Int32) &&& 31)) &&& (1 : Int32)) <<< ((1 : Int32) &&& 31))) ||| (((c >>> ((1 : Int32) &&& 31)) &&& (1 : Int32)) <<< ((2 : Int32) &&& 31))) ||| (((d >>> ((1 : Int32) &&& 31)) &&& (1 : Int32)) <<< ((3 : Int32) &&& 31)))
def own_want (L H x y : Int32) : Int32 := f10 (f10 (f10 (f10 (f10 (f10 (f10 (f10 (f10 (f10 (f10 (f10 (f10 (f10 (f10 (f10 99 (f12 0 x y L H)) (f12 1 x y L H)) (f12 2 x y L H)) (f12 3 x y L H)) (f12 4 x y L H)) (f12 5 x y L H)) (f12 6 x y L H)) (f12 7 x y L H)) (f12 8 x y L H)) (f12 9 x y L H)) (f12 10 x y L H)) (f12 11 x y L H)) (f12 12 x y L H)) (f12 13 x y L H)) (f12 14 x y L H)) (f12 15 x y L H)
theorem own_gotE (f l h : Int32) : f0_v280 f l h = own_got (f0_v8 l) (f0_v13 h) (f0_v22 f) (f0_v33 f) (f0_v44 f) (f0_v56 f) := rfl
theorem own_wantE (f l h : Int32) : f0_v582 f l h = own_want (f0_v8 l) (f0_v13 h) (own_lo (f0_v22 f) (f0_v33 f) (f0_v44 f) (f0_v56 f)) (own_hi (f0_v22 f) (f0_v33 f) (f0_v44 f) (f0_v56 f)) := rfl
def own_123 : List Int32 := [1, 2, 3]
def own_L : List Int32 := [1, 2, 3, 4, 5]
def own_H : List Int32 := [0, 1, 2, 3, 4]
def own_all (L : Int32) : Bool := own_H.all fun H => own_123.all fun a => own_123.all fun b => own_123.all fun c => own_123.all fun d => own_got L H a b c d == own_want L H (own_lo a b c d) (own_hi a b c d)
theorem own_all1 : own_all 1 = true := by decide +kernel
theorem own_all2 : own_all 2 = true := by decide +kernel
theorem own_all3 : own_all 3 = true := by decide +kernel
theorem own_all4 : own_all 4 = true := by decide +kernel
theorem own_all5 : own_all 5 = true := by decide +kernel
theorem own_allL : ∀ L ∈ own_L, own_all L = true := by
  intro L h
  simp only [own_L, List.mem_cons, List.not_mem_nil, or_false] at h
  rcases h with rfl | rfl | rfl | rfl | rfl
  · exact own_all1
  · exact own_all2
  · exact own_all3
  · exact own_all4
  · exact own_all5
theorem own_small (L H a b c d : Int32) (hL : L ∈ own_L) (hH : H ∈ own_H) (ha : a ∈ own_123) (hb : b ∈ own_123) (hc : c ∈ own_123) (hd : d ∈ own_123) : own_got L H a b c d = own_want L H (own_lo a b c d) (own_hi a b c d) := by
  have q := own_allL L hL
  unfold own_all at q
  rw [List.all_eq_true] at q
  have q := q H hH
  rw [List.all_eq_true] at q
  have q := q a ha
  rw [List.all_eq_true] at q
  have q := q b hb
  rw [List.all_eq_true] at q
  have q := q c hc
  rw [List.all_eq_true] at q
  have q := q d hd
  exact eq_of_beq q
theorem own_m3 (x : Int32) : ((x &&& 3) % 3) + 1 ∈ own_123 := by
  have a := c_mask x 3 2 (by decide) (by decide)
  have b := c_irem (x &&& 3) 3 3 (by decide)
  have g := c_iadd ((x &&& 3) % 3) 1
  have g2 := (((x &&& 3) % 3) + 1).le_toInt
  have g3 := (((x &&& 3) % 3) + 1).toInt_lt
  have l1 : (1 : Int32).toInt = 1 := by decide
  have l2 : (2 : Int32).toInt = 2 := by decide
  have l3 : (3 : Int32).toInt = 3 := by decide
  simp only [own_123, List.mem_cons, List.not_mem_nil, or_false, ← Int32.toInt_inj]
  omega
theorem own_law (f l h : Int32) : f0 f l h = 1 := by
  have l0 : (0 : Int32).toInt = 0 := by decide
  have l1 : (1 : Int32).toInt = 1 := by decide
  have l2 : (2 : Int32).toInt = 2 := by decide
  have l3 : (3 : Int32).toInt = 3 := by decide
  have l4 : (4 : Int32).toInt = 4 := by decide
  have l5 : (5 : Int32).toInt = 5 := by decide
  have bL : 1 ≤ (f0_v8 l).toInt := by
    unfold f0_v8 f1
    have g := c_mask l 2147483647 31 (by decide) (by decide)
    split
    · rename_i q
      rw [Int32.lt_iff_toInt_lt] at q
      omega
    · omega
  have bH : 0 ≤ (f0_v13 h).toInt := by
    unfold f0_v13
    have g := c_mask h 2147483647 31 (by decide) (by decide)
    omega
  have key : f0_v280 f l h = f0_v582 f l h := by
    rw [own_gotE, own_wantE]
    generalize f0_v8 l = L at *
    generalize f0_v13 h = H at *
    have ba : f0_v22 f ∈ own_123 := own_m3 _
    have bb : f0_v33 f ∈ own_123 := own_m3 _
    have bc : f0_v44 f ∈ own_123 := own_m3 _
    have bdd : f0_v56 f ∈ own_123 := own_m3 _
    obtain ⟨L', hL, PL, QL⟩ : ∃ L' : Int32, L' ∈ own_L ∧ (∀ y, bd 3 y → ((y < L ↔ y < L') ∧ (y < L - 1 ↔ y < L' - 1))) ∧ (∀ y, bd 4 y → (L < y ↔ L' < y)) := by
      by_cases q : L.toInt ≤ 5
      · refine ⟨L, ?_, fun _ _ => ⟨Iff.rfl, Iff.rfl⟩, fun _ _ => Iff.rfl⟩
        simp only [own_L, List.mem_cons, List.not_mem_nil, or_false, ← Int32.toInt_inj]
        omega
      · refine ⟨5, by decide, fun y b => ?_, fun y b => ?_⟩ <;> unfold bd at b <;> simp only [Int32.lt_iff_toInt_lt]
        · have g := c_isub L 1
          have g2 := (L - 1).le_toInt
          have g3 := (L - 1).toInt_lt
          have g4 := L.toInt_lt
          have l4' : ((5 : Int32) - 1).toInt = 4 := by decide
          omega
        · omega
    obtain ⟨H', hH, PH⟩ : ∃ H' : Int32, H' ∈ own_H ∧ (∀ z, bd 4 z → (H < z ↔ H' < z)) := by
      by_cases q : H.toInt ≤ 4
      · refine ⟨H, ?_, fun _ _ => Iff.rfl⟩
        simp only [own_H, List.mem_cons, List.not_mem_nil, or_false, ← Int32.toInt_inj]
        omega
      · refine ⟨4, by decide, fun y b => ?_⟩
        unfold bd at b
        simp only [Int32.lt_iff_toInt_lt]
        omega
    have e1 : ∀ a b c d, own_got L H a b c d = own_got L' H' a b c d := fun a b c d => own_e_f4 PL PH
    have e2 : ∀ x y, own_want L H x y = own_want L' H' x y := by
      intro x y
      unfold own_want
      rw [own_w12 QL PH 0 x y (by decide), own_w12 QL PH 1 x y (by decide), own_w12 QL PH 2 x y (by decide), own_w12 QL PH 3 x y (by decide), own_w12 QL PH 4 x y (by decide), own_w12 QL PH 5 x y (by decide), own_w12 QL PH 6 x y (by decide), own_w12 QL PH 7 x y (by decide), own_w12 QL PH 8 x y (by decide), own_w12 QL PH 9 x y (by decide), own_w12 QL PH 10 x y (by decide), own_w12 QL PH 11 x y (by decide), own_w12 QL PH 12 x y (by decide), own_w12 QL PH 13 x y (by decide), own_w12 QL PH 14 x y (by decide), own_w12 QL PH 15 x y (by decide)]
    rw [e1, e2]
    exact own_small _ _ _ _ _ _ hL hH ba bb bc bdd
  unfold f0
  rw [if_pos key]

set_option maxRecDepth 65536 in
set_option maxHeartbeats 40000000 in
theorem comes_1 {Post : Tables → Env → Array Value → State → Outcome → State → Prop} (hpost : ∀ tb e args s v u, (limb_1_1.after args s (.returned v) u = true ∧ limb_1_2.after args s (.returned v) u = true ∧ True) → FrameEnd s (.returned v) u (Jvm.fieldLocs frame_1_writes args s ++ Jvm.arrayLocs frame_1_arrays args s ++ Jvm.staticLocs frame_1_statics s) 40 192 → Post tb e args s (.returned v) u) :
    ArmFor flags0 classFile x code maxLocals ret World_1 tables_1 room_1 Calls_1 rest_1 Pre_1 Post := by
  intro l hfl _ _ p e ha hc hk s m args below hf hA hF happ hP
  obtain ⟨hcalls, hrest, hpre⟩ := hP
  obtain ⟨-, -, -, hnamed, -, -, -, hat⟩ := (Spec.applies_iff hf).mp happ
  obtain ⟨hg, hn⟩ := and_e (Cond.before_iff.mp (show (Jvm.Cond.and given_1 narrow_1).before args s = true from hpre))
  obtain ⟨g1, g2⟩ := and_e hg
  obtain ⟨g3, g4⟩ := and_e g2
  obtain ⟨g5, g6⟩ := and_e g4
  obtain ⟨w0, w1, w2, rfl⟩ : ∃ w0 w1 w2 : Value, args = #[w0, w1, w2] := by
    have hs : args.size = 3 := by simpa [Cond.value, given_1] using g1
    obtain ⟨L⟩ := args
    match L, hs with
    | [w0, w1, w2], _ => exact ⟨w0, w1, w2, rfl⟩
  have hw := fun d (hd : d ∈ tables_1) => atoms_spec (ws := Jvm.Cond.code x code maxLocals ret :: tables_1) hat d (List.mem_cons_of_mem _ hd)
  have hfit : Fit s := fun {y c} hc i hi => by
    obtain ⟨ha, rfl⟩ := Array.getElem?_eq_some_iff.mp hc
    have q := List.all_eq_true.mp ((Array.all_eq_true_iff_forall_mem.mp hF) _ (Array.getElem_mem ha)) i (List.mem_range.mpr hi)
    simpa [Array.getElem?_eq_getElem hi] using q
  obtain ⟨i0, ei0⟩ := is_v g3
  obtain rfl : w0 = (.int i0) := Option.some.inj ei0
  obtain ⟨i1, ei1⟩ := is_v g5
  obtain rfl : w1 = (.int i1) := Option.some.inj ei1
  obtain ⟨i2, ei2⟩ := is_v g6
  obtain rfl : w2 = (.int i2) := Option.some.inj ei2
  obtain ⟨n, o, h1, h2, h3, _, L, rfl, ⟨rfl, N, -⟩, hq⟩ := rm0 l s _ hw tables_1 i0 i1 i2 s.heap s.heap.size (Nat.le_refl _) p e ha hc hk s m _ below hf ((Spec.applies_iff_loose hf).mp happ).1 ⟨rfl, State.Warmed39.refl s, rfl⟩ trivial
  rw [own_law i0 i1 i2] at *
  refine ⟨n, _, h1, h2, h3, hpost _ _ _ _ _ _ ⟨Cond.after_iff.mpr rfl, Cond.after_iff.mpr (eq_i res_at (Term.int_eval (1)) rfl), trivial⟩ ⟨hq.1, hq.2.1, (hq.2.2.sift fun y hy => Or.inr (N y hy)).mono (by decide) (by decide)⟩⟩
theorem main_1_1 : Claimed_1_1 := comes_1 fun _ _ _ _ _ _ h hF => ⟨h.1, hF⟩
theorem main_1_2 : Claimed_1_2 := comes_1 fun _ _ _ _ _ _ h hF => ⟨h.2.1, hF⟩
end Jvm.Pilot.@@N@@
namespace Jvm.Pilot.@@N@@
open Jvm Jvm.ClassFile Sem Op Lib Jvm.Free Jvm.Stand Jvm.Pilot.@@N@@.Jvm.D
/-! MADE BY PROGRAM (witnessworld.py) out of the Statement's table words and the real class files: 14 classes; the members and pool entries that the words name. The judged class is class 1, her method 1. -/
namespace start1
open Jvm.ClassFile
def u (s : String) : CpInfo := .utf8 (stringToUtf16 s)
/-- a pool by its gaps: so many unusable entries, then the entry; so many at the end -/
def gap : Nat → List CpInfo → List CpInfo
  | 0, r => r
  | n + 1, r => .unusable :: gap n r
def poolList (es : List (Nat × CpInfo)) (last : Nat) : List CpInfo := es.foldr (fun e r => gap e.1 (e.2 :: r)) (gap last [])
def pool (es : List (Nat × CpInfo)) (last : Nat) : Array CpInfo := ⟨poolList es last⟩
def fileOf (pool : Array CpInfo) (this : Nat) (attrs : Array Attribute := #[]) (ms : Array MethodInfo := #[]) (fl : Nat := 33) (sup : Nat := 0) (ifs : Array Nat := #[]) (fds : Array FieldInfo := #[]) : ClassFile where
  minorVersion := 0
  majorVersion := 65
  constantPool := pool
  accessFlags := fl
  thisClass := this
  superClass := sup
  interfaces := ifs
  fields := fds
  methods := ms
  attributes := attrs
def plain (name : String) (sup : Option ClassId) : Class where
  name := name
  kind := .ordinary
  loader := none
  accessFlags := 33
  super := sup
  interfaces := #[]
  cf := none
  fields := #[]
  methods := #[]
  instanceTypes := #[]
  staticTypes := #[]
  resolved := #[]
  callSites := []
  init := .initialized
  statics := none
  mirror := none

def pool0 : Array CpInfo := pool [(5, u "<init>"), (0, u "()V"), (1, .class_ 10), (1, u "java/lang/Object")] 113

def k0c0 : Code := { maxStack := 0, maxLocals := 1, code := object_method_1_code, exceptionTable := #[], attributes := #[] }
def k0m0 : Method := { name := "<init>", desc := "()V", sig := { parameters := [], returnType := none }, accessFlags := 1, code := some k0c0 }
/-- java/lang/Object -/
def k0 : Class := { plain "java/lang/Object" none with
  accessFlags := 33
  interfaces := #[]
  cf := some (fileOf pool0 8 #[] #[{ accessFlags := 1, nameIndex := 5, descriptorIndex := 6, attributes := #[] }] 33 0 #[] #[])
  fields := #[]
  methods := #[k0m0]
  instanceTypes := #[]
  staticTypes := #[]
  resolved := Array.replicate 124 none
  statics := none }

def pool1 : Array CpInfo := pool [(2, .class_ 4), (1, u "java/lang/Object"), (0, u "<init>"), (0, u "()V"), (0, .integer 2147483647), (0, .methodref 9 10), (0, .class_ 11), (0, .nameAndType 12 13), (0, u "java/lang/Math"), (0, u "max"), (0, u "(II)I"), (0, .class_ 15), (0, u "com/example/tightfold/tightfold/FocusFiltering"), (0, .methodref 14 17), (0, .nameAndType 5 18), (0, u "(II)V"), (0, .methodref 14 20), (0, .nameAndType 21 22), (0, u "fewestRuns"), (0, u "([Z[ZI)I"), (0, .methodref 24 25), (0, .class_ 26), (0, .nameAndType 27 28), (0, u "com/example/tightfold/tightfold/FocusFilteringFewestRunsPinLaw"), (0, u "val"), (0, u "(IIIII)I"), (0, .methodref 9 30), (0, .nameAndType 31 13), (0, u "min"), (0, .methodref 24 33), (0, .nameAndType 34 35), (0, u "cost"), (0, u "(III)I"), (0, .methodref 24 37), (0, .nameAndType 38 39), (0, u "hi"), (0, u "(II)Z"), (0, .methodref 24 41), (0, .nameAndType 42 13), (0, u "pre"), (0, .methodref 24 44), (0, .nameAndType 45 46), (0, u "fits"), (0, u "(IIIII)Z"), (0, .methodref 24 48), (0, .nameAndType 49 50), (0, u "c"), (0, u "(IIIIII)I"), (2, u "law"), (0, u "(III)Z")] 5

def k1m0 : Method := { name := "<init>", desc := "()V", sig := { parameters := [], returnType := none }, accessFlags := 1, code := none }
def k1c1 : Code := { maxStack := 6, maxLocals := 16, code := code, exceptionTable := #[], attributes := #[] }
def k1m1 : Method := { name := "law", desc := "(III)Z", sig := { parameters := [.int, .int, .int], returnType := some .boolean }, accessFlags := 9, code := some k1c1 }
def k1c2 : Code := { maxStack := 3, maxLocals := 5, code := method_3_code, exceptionTable := #[], attributes := #[] }
def k1m2 : Method := { name := "val", desc := "(IIIII)I", sig := { parameters := [.int, .int, .int, .int, .int], returnType := some .int }, accessFlags := 10, code := some k1c2 }
def k1c3 : Code := { maxStack := 2, maxLocals := 2, code := method_4_code, exceptionTable := #[], attributes := #[] }
def k1m3 : Method := { name := "hi", desc := "(II)Z", sig := { parameters := [.int, .int], returnType := some .boolean }, accessFlags := 10, code := some k1c3 }
def k1c4 : Code := { maxStack := 2, maxLocals := 3, code := method_5_code, exceptionTable := #[], attributes := #[] }
def k1m4 : Method := { name := "pre", desc := "(II)I", sig := { parameters := [.int, .int], returnType := some .int }, accessFlags := 10, code := some k1c4 }
def k1c5 : Code := { maxStack := 5, maxLocals := 6, code := method_6_code, exceptionTable := #[], attributes := #[] }
def k1m5 : Method := { name := "fits", desc := "(IIIII)Z", sig := { parameters := [.int, .int, .int, .int, .int], returnType := some .boolean }, accessFlags := 10, code := some k1c5 }
def k1c6 : Code := { maxStack := 5, maxLocals := 6, code := method_7_code, exceptionTable := #[], attributes := #[] }
def k1m6 : Method := { name := "c", desc := "(IIIIII)I", sig := { parameters := [.int, .int, .int, .int, .int, .int], returnType := some .int }, accessFlags := 10, code := some k1c6 }
def k1c7 : Code := { maxStack := 8, maxLocals := 7, code := method_8_code, exceptionTable := #[], attributes := #[] }
def k1m7 : Method := { name := "cost", desc := "(III)I", sig := { parameters := [.int, .int, .int], returnType := some .int }, accessFlags := 10, code := some k1c7 }
/-- com/example/tightfold/tightfold/FocusFilteringFewestRunsPinLaw -/
def k1 : Class := { plain "com/example/tightfold/tightfold/FocusFilteringFewestRunsPinLaw" (some 0) with
  accessFlags := 49
  interfaces := #[]
  cf := some (fileOf pool1 24 #[] #[{ accessFlags := 1, nameIndex := 5, descriptorIndex := 6, attributes := #[] }, { accessFlags := 9, nameIndex := 53, descriptorIndex := 54, attributes := #[] }, { accessFlags := 10, nameIndex := 27, descriptorIndex := 28, attributes := #[] }, { accessFlags := 10, nameIndex := 38, descriptorIndex := 39, attributes := #[] }, { accessFlags := 10, nameIndex := 42, descriptorIndex := 13, attributes := #[] }, { accessFlags := 10, nameIndex := 45, descriptorIndex := 46, attributes := #[] }, { accessFlags := 10, nameIndex := 49, descriptorIndex := 50, attributes := #[] }, { accessFlags := 10, nameIndex := 34, descriptorIndex := 35, attributes := #[] }] 49 2 #[] #[])
  fields := #[]
  methods := #[k1m0, k1m1, k1m2, k1m3, k1m4, k1m5, k1m6, k1m7]
  instanceTypes := #[]
  staticTypes := #[]
  resolved := Array.replicate 60 none
  statics := none }

def pool2 : Array CpInfo := pool [(1, .class_ 2), (0, u "java/lang/Math"), (1, .class_ 6), (1, u "java/lang/Object"), (0, u "<init>"), (0, u "()V"), (89, .class_ 100), (1, u "java/lang/Math$RandomNumberGeneratorHolder"), (71, u "negativeZeroFloatBits"), (0, u "J"), (2, u "negativeZeroDoubleBits"), (21, u "max"), (2, u "min"), (43, u "$assertionsDisabled"), (0, u "Z"), (88, u "(II)I"), (2, u "twoToTheDoubleScaleDown"), (0, u "D"), (4, u "twoToTheDoubleScaleUp"), (9, u "E"), (3, u "PI"), (2, u "TAU"), (2, u "DEGREES_TO_RADIANS"), (0, u "RADIANS_TO_DEGREES")] 94

def k2m0 : Method := { name := "<init>", desc := "()V", sig := { parameters := [], returnType := none }, accessFlags := 2, code := none }
def k2c1 : Code := { maxStack := 2, maxLocals := 2, code := jdk_29_method_65_code, exceptionTable := #[], attributes := #[] }
def k2m1 : Method := { name := "max", desc := "(II)I", sig := { parameters := [.int, .int], returnType := some .int }, accessFlags := 9, code := some k2c1 }
def k2c2 : Code := { maxStack := 2, maxLocals := 2, code := jdk_29_method_69_code, exceptionTable := #[], attributes := #[] }
def k2m2 : Method := { name := "min", desc := "(II)I", sig := { parameters := [.int, .int], returnType := some .int }, accessFlags := 9, code := some k2c2 }
/-- java/lang/Math -/
def k2 : Class := { plain "java/lang/Math" (some 0) with
  accessFlags := 49
  interfaces := #[]
  cf := some (fileOf pool2 1 #[.nestMembers #[98]] #[{ accessFlags := 2, nameIndex := 7, descriptorIndex := 8, attributes := #[] }, { accessFlags := 9, nameIndex := 198, descriptorIndex := 335, attributes := #[] }, { accessFlags := 9, nameIndex := 201, descriptorIndex := 335, attributes := #[] }] 49 4 #[] #[{ accessFlags := 25, nameIndex := 354, descriptorIndex := 339, attributes := #[] }, { accessFlags := 25, nameIndex := 358, descriptorIndex := 339, attributes := #[] }, { accessFlags := 25, nameIndex := 361, descriptorIndex := 339, attributes := #[] }, { accessFlags := 26, nameIndex := 364, descriptorIndex := 339, attributes := #[] }, { accessFlags := 26, nameIndex := 365, descriptorIndex := 339, attributes := #[] }, { accessFlags := 26, nameIndex := 172, descriptorIndex := 173, attributes := #[] }, { accessFlags := 26, nameIndex := 176, descriptorIndex := 173, attributes := #[] }, { accessFlags := 8, nameIndex := 344, descriptorIndex := 339, attributes := #[] }, { accessFlags := 8, nameIndex := 338, descriptorIndex := 339, attributes := #[] }, { accessFlags := 4120, nameIndex := 245, descriptorIndex := 246, attributes := #[] }])
  fields := #[{ name := "E", type := .double, accessFlags := 25, slot := 0, constantValue := 0 }, { name := "PI", type := .double, accessFlags := 25, slot := 1, constantValue := 0 }, { name := "TAU", type := .double, accessFlags := 25, slot := 2, constantValue := 0 }, { name := "DEGREES_TO_RADIANS", type := .double, accessFlags := 26, slot := 3, constantValue := 0 }, { name := "RADIANS_TO_DEGREES", type := .double, accessFlags := 26, slot := 4, constantValue := 0 }, { name := "negativeZeroFloatBits", type := .long, accessFlags := 26, slot := 5, constantValue := 0 }, { name := "negativeZeroDoubleBits", type := .long, accessFlags := 26, slot := 6, constantValue := 0 }, { name := "twoToTheDoubleScaleUp", type := .double, accessFlags := 8, slot := 7, constantValue := 0 }, { name := "twoToTheDoubleScaleDown", type := .double, accessFlags := 8, slot := 8, constantValue := 0 }, { name := "$assertionsDisabled", type := .boolean, accessFlags := 4120, slot := 9, constantValue := 0 }]
  methods := #[k2m0, k2m1, k2m2]
  instanceTypes := #[]
  staticTypes := #[.double, .double, .double, .double, .double, .long, .long, .double, .double, .boolean]
  resolved := Array.replicate 460 none
  statics := none }

def pool3 : Array CpInfo := pool [(1, .methodref 2 3), (0, .class_ 4), (0, .nameAndType 5 6), (0, u "java/lang/Object"), (0, u "<init>"), (0, u "()V"), (0, .fieldref 8 9), (0, .class_ 10), (0, .nameAndType 11 12), (0, u "com/example/tightfold/tightfold/FocusFiltering"), (0, u "impossible"), (0, u "I"), (0, .fieldref 8 14), (0, .nameAndType 15 12), (0, u "h"), (0, .fieldref 8 17), (0, .nameAndType 18 19), (0, u "lowOut"), (0, u "[I"), (0, .fieldref 8 21), (0, .nameAndType 22 19), (0, u "lowIn"), (0, .fieldref 8 24), (0, .nameAndType 25 19), (0, u "lowInLength"), (0, .fieldref 8 27), (0, .nameAndType 28 19), (0, u "lowInLows"), (0, .fieldref 8 30), (0, .nameAndType 31 19), (0, u "high"), (0, .fieldref 8 33), (0, .nameAndType 34 19), (0, u "highLength"), (0, .fieldref 8 36), (0, .nameAndType 37 19), (0, u "highLows"), (0, .class_ 39), (0, u "com/example/tightfold/tightfold/FocusFiltering$PartialCover"), (0, .methodref 38 41), (0, .nameAndType 5 42), (0, u "(II)V"), (0, .methodref 38 44), (0, .nameAndType 45 46), (0, u "extend"), (0, u "(ZZI)V"), (0, .fieldref 38 48), (0, .nameAndType 18 12), (0, .fieldref 38 50), (0, .nameAndType 22 51), (0, u "Lcom/example/tightfold/tightfold/FocusFiltering$Run;"), (0, .fieldref 53 54), (0, .class_ 55), (0, .nameAndType 56 12), (0, u "com/example/tightfold/tightfold/FocusFiltering$Run"), (0, u "runs"), (0, .fieldref 53 58), (0, .nameAndType 59 12), (0, u "length"), (0, .fieldref 53 61), (0, .nameAndType 62 12), (0, u "lows"), (0, .fieldref 38 64), (0, .nameAndType 31 51), (0, .methodref 38 66), (0, .nameAndType 67 68), (0, u "fewest"), (0, u "()I"), (2, u "fewestRuns"), (0, u "([Z[ZI)I")] 15

def k3c0 : Code := { maxStack := 3, maxLocals := 3, code := prog_3_method_1_code, exceptionTable := #[], attributes := #[] }
def k3m0 : Method := { name := "<init>", desc := "(II)V", sig := { parameters := [.int, .int], returnType := none }, accessFlags := 0, code := some k3c0 }
def k3c1 : Code := { maxStack := 4, maxLocals := 6, code := prog_3_method_2_code, exceptionTable := #[], attributes := #[] }
def k3m1 : Method := { name := "fewestRuns", desc := "([Z[ZI)I", sig := { parameters := [(.array .boolean), (.array .boolean), .int], returnType := some .int }, accessFlags := 0, code := some k3c1 }
/-- com/example/tightfold/tightfold/FocusFiltering -/
def k3 : Class := { plain "com/example/tightfold/tightfold/FocusFiltering" (some 0) with
  accessFlags := 48
  interfaces := #[]
  cf := some (fileOf pool3 8 #[.nestMembers #[38, 53]] #[{ accessFlags := 0, nameIndex := 5, descriptorIndex := 42, attributes := #[] }, { accessFlags := 0, nameIndex := 71, descriptorIndex := 72, attributes := #[] }] 48 2 #[] #[{ accessFlags := 18, nameIndex := 11, descriptorIndex := 12, attributes := #[] }, { accessFlags := 18, nameIndex := 15, descriptorIndex := 12, attributes := #[] }, { accessFlags := 18, nameIndex := 18, descriptorIndex := 19, attributes := #[] }, { accessFlags := 18, nameIndex := 22, descriptorIndex := 19, attributes := #[] }, { accessFlags := 18, nameIndex := 25, descriptorIndex := 19, attributes := #[] }, { accessFlags := 18, nameIndex := 28, descriptorIndex := 19, attributes := #[] }, { accessFlags := 18, nameIndex := 31, descriptorIndex := 19, attributes := #[] }, { accessFlags := 18, nameIndex := 34, descriptorIndex := 19, attributes := #[] }, { accessFlags := 18, nameIndex := 37, descriptorIndex := 19, attributes := #[] }])
  fields := #[{ name := "impossible", type := .int, accessFlags := 18, slot := 0, constantValue := 0 }, { name := "h", type := .int, accessFlags := 18, slot := 1, constantValue := 0 }, { name := "lowOut", type := (.array .int), accessFlags := 18, slot := 2, constantValue := 0 }, { name := "lowIn", type := (.array .int), accessFlags := 18, slot := 3, constantValue := 0 }, { name := "lowInLength", type := (.array .int), accessFlags := 18, slot := 4, constantValue := 0 }, { name := "lowInLows", type := (.array .int), accessFlags := 18, slot := 5, constantValue := 0 }, { name := "high", type := (.array .int), accessFlags := 18, slot := 6, constantValue := 0 }, { name := "highLength", type := (.array .int), accessFlags := 18, slot := 7, constantValue := 0 }, { name := "highLows", type := (.array .int), accessFlags := 18, slot := 8, constantValue := 0 }]
  methods := #[k3m0, k3m1]
  instanceTypes := #[.int, .int, (.array .int), (.array .int), (.array .int), (.array .int), (.array .int), (.array .int), (.array .int)]
  staticTypes := #[]
  resolved := ((((((Array.replicate 88 none).setIfInBounds 47 (some (.field 4 2))).setIfInBounds 49 (some (.field 4 3))).setIfInBounds 52 (some (.field 5 0))).setIfInBounds 57 (some (.field 5 1))).setIfInBounds 60 (some (.field 5 2))).setIfInBounds 63 (some (.field 4 4))
  statics := none }

def pool4 : Array CpInfo := pool [(1, .methodref 2 3), (0, .class_ 4), (0, .nameAndType 5 6), (0, u "java/lang/Object"), (0, u "<init>"), (0, u "()V"), (0, .class_ 8), (0, u "com/example/tightfold/tightfold/FocusFiltering$Run"), (0, .methodref 7 3), (0, .fieldref 11 12), (0, .class_ 13), (0, .nameAndType 14 15), (0, u "com/example/tightfold/tightfold/FocusFiltering$PartialCover"), (0, u "lowIn"), (0, u "Lcom/example/tightfold/tightfold/FocusFiltering$Run;"), (0, .fieldref 11 17), (0, .nameAndType 18 15), (0, u "high"), (0, .fieldref 11 20), (0, .nameAndType 21 15), (0, u "nextLowIn"), (0, .fieldref 11 23), (0, .nameAndType 24 15), (0, u "nextHigh"), (0, .fieldref 11 26), (0, .nameAndType 27 28), (0, u "impossible"), (0, u "I"), (0, .fieldref 11 30), (0, .nameAndType 31 28), (0, u "h"), (0, .fieldref 11 33), (0, .nameAndType 34 28), (0, u "lowOut"), (0, .methodref 7 36), (0, .nameAndType 37 38), (0, u "clear"), (0, u "(I)V"), (0, .fieldref 7 40), (0, .nameAndType 41 28), (0, u "runs"), (0, .methodref 43 44), (0, .class_ 45), (0, .nameAndType 46 47), (0, u "java/lang/Math"), (0, u "min"), (0, u "(II)I"), (0, .methodref 11 49), (0, .nameAndType 50 51), (0, u "fewest"), (0, u "()I"), (0, .methodref 11 53), (0, .nameAndType 54 55), (0, u "offerExtension"), (0, u "(Lcom/example/tightfold/tightfold/FocusFiltering$Run;Lcom/example/tightfold/tightfold/FocusFiltering$Run;II)V"), (0, .methodref 7 57), (0, .nameAndType 58 59), (0, u "offer"), (0, u "(III)V"), (0, .fieldref 7 61), (0, .nameAndType 62 28), (0, u "length"), (0, .fieldref 7 64), (0, .nameAndType 65 28), (0, u "lows"), (0, u "(II)V"), (2, u "extend"), (0, u "(ZZI)V"), (4, .class_ 76), (0, u "com/example/tightfold/tightfold/FocusFiltering")] 3

def k4c0 : Code := { maxStack := 3, maxLocals := 3, code := prog_4_method_1_code, exceptionTable := #[], attributes := #[] }
def k4m0 : Method := { name := "<init>", desc := "(II)V", sig := { parameters := [.int, .int], returnType := none }, accessFlags := 0, code := some k4c0 }
def k4c1 : Code := { maxStack := 2, maxLocals := 1, code := prog_4_method_2_code, exceptionTable := #[], attributes := #[] }
def k4m1 : Method := { name := "fewest", desc := "()I", sig := { parameters := [], returnType := some .int }, accessFlags := 0, code := some k4c1 }
def k4c2 : Code := { maxStack := 5, maxLocals := 7, code := prog_4_method_3_code, exceptionTable := #[], attributes := #[] }
def k4m2 : Method := { name := "extend", desc := "(ZZI)V", sig := { parameters := [.boolean, .boolean, .int], returnType := none }, accessFlags := 0, code := some k4c2 }
def k4c3 : Code := { maxStack := 5, maxLocals := 5, code := prog_4_method_4_code, exceptionTable := #[], attributes := #[] }
def k4m3 : Method := { name := "offerExtension", desc := "(Lcom/example/tightfold/tightfold/FocusFiltering$Run;Lcom/example/tightfold/tightfold/FocusFiltering$Run;II)V", sig := { parameters := [(.object "com/example/tightfold/tightfold/FocusFiltering$Run"), (.object "com/example/tightfold/tightfold/FocusFiltering$Run"), .int, .int], returnType := none }, accessFlags := 2, code := some k4c3 }
/-- com/example/tightfold/tightfold/FocusFiltering$PartialCover -/
def k4 : Class := { plain "com/example/tightfold/tightfold/FocusFiltering$PartialCover" (some 0) with
  accessFlags := 48
  interfaces := #[]
  cf := some (fileOf pool4 11 #[.nestHost 75] #[{ accessFlags := 0, nameIndex := 5, descriptorIndex := 66, attributes := #[] }, { accessFlags := 0, nameIndex := 50, descriptorIndex := 51, attributes := #[] }, { accessFlags := 0, nameIndex := 69, descriptorIndex := 70, attributes := #[] }, { accessFlags := 2, nameIndex := 54, descriptorIndex := 55, attributes := #[] }] 48 2 #[] #[{ accessFlags := 18, nameIndex := 27, descriptorIndex := 28, attributes := #[] }, { accessFlags := 18, nameIndex := 31, descriptorIndex := 28, attributes := #[] }, { accessFlags := 2, nameIndex := 34, descriptorIndex := 28, attributes := #[] }, { accessFlags := 2, nameIndex := 14, descriptorIndex := 15, attributes := #[] }, { accessFlags := 2, nameIndex := 18, descriptorIndex := 15, attributes := #[] }, { accessFlags := 2, nameIndex := 21, descriptorIndex := 15, attributes := #[] }, { accessFlags := 2, nameIndex := 24, descriptorIndex := 15, attributes := #[] }])
  fields := #[{ name := "impossible", type := .int, accessFlags := 18, slot := 0, constantValue := 0 }, { name := "h", type := .int, accessFlags := 18, slot := 1, constantValue := 0 }, { name := "lowOut", type := .int, accessFlags := 2, slot := 2, constantValue := 0 }, { name := "lowIn", type := (.object "com/example/tightfold/tightfold/FocusFiltering$Run"), accessFlags := 2, slot := 3, constantValue := 0 }, { name := "high", type := (.object "com/example/tightfold/tightfold/FocusFiltering$Run"), accessFlags := 2, slot := 4, constantValue := 0 }, { name := "nextLowIn", type := (.object "com/example/tightfold/tightfold/FocusFiltering$Run"), accessFlags := 2, slot := 5, constantValue := 0 }, { name := "nextHigh", type := (.object "com/example/tightfold/tightfold/FocusFiltering$Run"), accessFlags := 2, slot := 6, constantValue := 0 }]
  methods := #[k4m0, k4m1, k4m2, k4m3]
  instanceTypes := #[.int, .int, .int, (.object "com/example/tightfold/tightfold/FocusFiltering$Run"), (.object "com/example/tightfold/tightfold/FocusFiltering$Run"), (.object "com/example/tightfold/tightfold/FocusFiltering$Run"), (.object "com/example/tightfold/tightfold/FocusFiltering$Run")]
  staticTypes := #[]
  resolved := Array.replicate 80 none
  statics := none }

def pool5 : Array CpInfo := pool [(1, .methodref 2 3), (0, .class_ 4), (0, .nameAndType 5 6), (0, u "java/lang/Object"), (0, u "<init>"), (0, u "()V"), (0, .fieldref 8 9), (0, .class_ 10), (0, .nameAndType 11 12), (0, u "com/example/tightfold/tightfold/FocusFiltering$Run"), (0, u "runs"), (0, u "I"), (0, .fieldref 8 14), (0, .nameAndType 15 12), (0, u "length"), (0, .fieldref 8 17), (0, .nameAndType 18 12), (0, u "lows"), (2, u "clear"), (0, u "(I)V"), (0, u "offer"), (0, u "(III)V"), (4, .class_ 30), (0, u "com/example/tightfold/tightfold/FocusFiltering")] 2

def k5c0 : Code := { maxStack := 1, maxLocals := 1, code := prog_5_method_1_code, exceptionTable := #[], attributes := #[] }
def k5m0 : Method := { name := "<init>", desc := "()V", sig := { parameters := [], returnType := none }, accessFlags := 2, code := some k5c0 }
def k5c1 : Code := { maxStack := 2, maxLocals := 2, code := prog_5_method_2_code, exceptionTable := #[], attributes := #[] }
def k5m1 : Method := { name := "clear", desc := "(I)V", sig := { parameters := [.int], returnType := none }, accessFlags := 0, code := some k5c1 }
def k5c2 : Code := { maxStack := 2, maxLocals := 5, code := prog_5_method_3_code, exceptionTable := #[], attributes := #[] }
def k5m2 : Method := { name := "offer", desc := "(III)V", sig := { parameters := [.int, .int, .int], returnType := none }, accessFlags := 0, code := some k5c2 }
/-- com/example/tightfold/tightfold/FocusFiltering$Run -/
def k5 : Class := { plain "com/example/tightfold/tightfold/FocusFiltering$Run" (some 0) with
  accessFlags := 48
  interfaces := #[]
  cf := some (fileOf pool5 8 #[.nestHost 29] #[{ accessFlags := 2, nameIndex := 5, descriptorIndex := 6, attributes := #[] }, { accessFlags := 0, nameIndex := 21, descriptorIndex := 22, attributes := #[] }, { accessFlags := 0, nameIndex := 23, descriptorIndex := 24, attributes := #[] }] 48 2 #[] #[{ accessFlags := 2, nameIndex := 11, descriptorIndex := 12, attributes := #[] }, { accessFlags := 2, nameIndex := 15, descriptorIndex := 12, attributes := #[] }, { accessFlags := 2, nameIndex := 18, descriptorIndex := 12, attributes := #[] }])
  fields := #[{ name := "runs", type := .int, accessFlags := 2, slot := 0, constantValue := 0 }, { name := "length", type := .int, accessFlags := 2, slot := 1, constantValue := 0 }, { name := "lows", type := .int, accessFlags := 2, slot := 2, constantValue := 0 }]
  methods := #[k5m0, k5m1, k5m2]
  instanceTypes := #[.int, .int, .int]
  staticTypes := #[]
  resolved := Array.replicate 33 none
  statics := none }

def pool6 : Array CpInfo := pool [(1, u "java/lang/Cloneable"), (0, .class_ 1), (0, u "java/lang/Object"), (0, .class_ 3)] 3

/-- java/lang/Cloneable -/
def k6 : Class := { plain "java/lang/Cloneable" (some 0) with
  accessFlags := 1537
  interfaces := #[]
  cf := some (fileOf pool6 2 #[] #[] 1537 4 #[] #[])
  fields := #[]
  methods := #[]
  instanceTypes := #[]
  staticTypes := #[]
  resolved := Array.replicate 8 none
  statics := none }

def pool7 : Array CpInfo := pool [(1, u "java/io/Serializable"), (0, .class_ 1), (0, u "java/lang/Object"), (0, .class_ 3)] 3

/-- java/io/Serializable -/
def k7 : Class := { plain "java/io/Serializable" (some 0) with
  accessFlags := 1537
  interfaces := #[]
  cf := some (fileOf pool7 2 #[] #[] 1537 4 #[] #[])
  fields := #[]
  methods := #[]
  instanceTypes := #[]
  staticTypes := #[]
  resolved := Array.replicate 8 none
  statics := none }

/-- the primitive boolean -/
def k8 : Class := { plain "boolean" none with kind := .primitive 'Z', accessFlags := 0x411 }
/-- [Z -/
def k9 : Class := { plain "[Z" (some 0) with kind := .array 8 .boolean, interfaces := #[6, 7], accessFlags := 1041 }

/-- the primitive byte -/
def k10 : Class := { plain "byte" none with kind := .primitive 'B', accessFlags := 0x411 }
/-- [B -/
def k11 : Class := { plain "[B" (some 0) with kind := .array 10 .byte, interfaces := #[6, 7], accessFlags := 1041 }

/-- the primitive int -/
def k12 : Class := { plain "int" none with kind := .primitive 'I', accessFlags := 0x411 }
/-- [I -/
def k13 : Class := { plain "[I" (some 0) with kind := .array 12 .int, interfaces := #[6, 7], accessFlags := 1041 }

def heap : Heap := #[]
def classes : Array Class := #[k0, k1, k2, k3, k4, k5, k6, k7, k8, k9, k10, k11, k12, k13]
def interned : List (Array UInt16 × Addr) := []
def slotsUsed : Nat := 0
def theMethod : MethodId := ⟨1, 1⟩
def args0 : Array Value := #[.int 5, .int 7, .int 3]
def aboutOver (below : List Frame) : State where
  vm := { classes := classes, interned := interned.toArray }
  heap := heap
  slotsUsed := slotsUsed
  threads := #[{ frames := .invoking theMethod args0 :: below }]
def below0 : List Frame := [.native { method := ⟨0, 0⟩, args := #[] }]
def about1 : State := aboutOver below0
def p0 : Program := .bare "" "" ""
def e0 : Env := launch0.env 0 0 0
theorem w_frames : about1.frames = Frame.invoking theMethod args0 :: below0 := rfl
set_option maxRecDepth 65536 in
theorem w_args : argsFit about1.vm theMethod args0 = true := by decide +kernel
set_option maxRecDepth 65536 in
theorem w_heap : heapFits about1 = true := by decide +kernel
set_option maxRecDepth 65536 in
theorem w_runnable : about1.curStatus? = some .runnable := by decide +kernel
set_option maxRecDepth 65536 in
theorem w_alone : about1.alone = true := by decide +kernel
set_option maxRecDepth 65536 in
theorem w_named : about1.methodNamed? x = some theMethod := by decide +kernel
set_option maxRecDepth 65536 in
theorem w_hears : about1.hears theMethod below0 = true := by decide +kernel
set_option maxRecDepth 65536 in
theorem w_ripe : about1.ripe theMethod args0 below0 = true := by decide +kernel
theorem w_running : about1.status = .running := rfl
set_option maxRecDepth 65536 in
theorem w_room : about1.hasRoom e0.platform room_1 = true :=
  launch0.hasRoom_least _ room_1 (by decide +kernel) (by decide +kernel) (by decide +kernel) (by decide +kernel) (by decide +kernel) (by decide +kernel)
theorem allAtoms_all (ts : List Jvm.Cond) (a : Array Jvm.Value) (st : Jvm.State) : (allAtoms ts).before a st = ts.all (fun c => c.before a st) := by
  induction ts with
  | nil => rfl
  | cons c t ih =>
    show (Jvm.Cond.and c (allAtoms t)).before a st = _
    rw [Jvm.Cond.before_and, ih, List.all_cons]
def words1 : List Jvm.Cond := Jvm.Cond.code x code maxLocals ret :: tables_1
/-- a 'code' word, met by the world's own term for the bytes: nothing is compared byte by byte -/
theorem code_word {y : MethodName} {bytes : ByteArray} {mx : Nat} {rt : Option FieldType} {a : Array Value} {s : State} {m : MethodId} {meth : Method} {c : Code} (h1 : s.methodNamed? y = some m) (h2 : s.vm.method? m = some meth) (h3 : meth.code = some c) (h4 : c.code = bytes)
    (h5 : (c.maxLocals == mx && c.exceptionTable.isEmpty && decide (c.maxStack ≤ mostOperands) && decide (meth.sig.returnType = rt) && !meth.locks && decide (parseMethodDescriptor y.desc = some meth.sig)) = true) : (Jvm.Cond.code y bytes mx rt).before a s = true := by
  simp only [Bool.and_eq_true, beq_iff_eq, Bool.not_eq_true', decide_eq_true_eq] at h5
  obtain ⟨⟨⟨⟨⟨g1, g2⟩, g3⟩, g4⟩, g5⟩, g6⟩ := h5
  simp [Cond.before, Cond.holds, Cond.value, h1, h2, h3, h4, g1, g2, g3, g4, g5, g6]
def isCode : Jvm.Cond → Bool
  | .code _ _ _ _ => true
  | _ => false
theorem all_split {L : List Jvm.Cond} {P : Jvm.Cond → Bool} (h1 : L.all (fun c => isCode c || P c) = true) (h2 : ∀ c ∈ L.filter isCode, P c = true) : L.all P = true := by
  refine List.all_eq_true.mpr fun c hc => ?_
  have h := List.all_eq_true.mp h1 c hc
  rcases Bool.eq_false_or_eq_true (isCode c) with hi | hi
  · exact h2 c (List.mem_filter.mpr ⟨hc, hi⟩)
  · simpa [hi] using h
set_option maxRecDepth 65536 in
theorem w_c0 : (Jvm.Cond.code x code maxLocals ret).before args0 about1 = true := code_word (m := ⟨1, 1⟩) (meth := k1m1) (c := k1c1) (by decide +kernel) rfl rfl rfl (by decide +kernel)
set_option maxRecDepth 65536 in
theorem w_c1 : (Jvm.Cond.code ({ cls := "java/lang/Math", name := "max", desc := "(II)I" } : Jvm.MethodName) jdk_29_method_65_code (2 : Nat) (Option.some Jvm.ClassFile.FieldType.int)).before args0 about1 = true := code_word (m := ⟨2, 1⟩) (meth := k2m1) (c := k2c1) (by decide +kernel) rfl rfl rfl (by decide +kernel)
set_option maxRecDepth 65536 in
theorem w_c2 : (Jvm.Cond.code ({ cls := "com/example/tightfold/tightfold/FocusFiltering", name := "<init>", desc := "(II)V" } : Jvm.MethodName) prog_3_method_1_code (3 : Nat) (Option.none : Option Jvm.ClassFile.FieldType)).before args0 about1 = true := code_word (m := ⟨3, 0⟩) (meth := k3m0) (c := k3c0) (by decide +kernel) rfl rfl rfl (by decide +kernel)
set_option maxRecDepth 65536 in
theorem w_c3 : (Jvm.Cond.code ({ cls := "java/lang/Object", name := "<init>", desc := "()V" } : Jvm.MethodName) object_method_1_code (1 : Nat) (Option.none : Option Jvm.ClassFile.FieldType)).before args0 about1 = true := code_word (m := ⟨0, 0⟩) (meth := k0m0) (c := k0c0) (by decide +kernel) rfl rfl rfl (by decide +kernel)
set_option maxRecDepth 65536 in
theorem w_c4 : (Jvm.Cond.code ({ cls := "com/example/tightfold/tightfold/FocusFiltering", name := "fewestRuns", desc := "([Z[ZI)I" } : Jvm.MethodName) prog_3_method_2_code (6 : Nat) (Option.some Jvm.ClassFile.FieldType.int)).before args0 about1 = true := code_word (m := ⟨3, 1⟩) (meth := k3m1) (c := k3c1) (by decide +kernel) rfl rfl rfl (by decide +kernel)
set_option maxRecDepth 65536 in
theorem w_c5 : (Jvm.Cond.code ({ cls := "com/example/tightfold/tightfold/FocusFiltering$PartialCover", name := "<init>", desc := "(II)V" } : Jvm.MethodName) prog_4_method_1_code (3 : Nat) (Option.none : Option Jvm.ClassFile.FieldType)).before args0 about1 = true := code_word (m := ⟨4, 0⟩) (meth := k4m0) (c := k4c0) (by decide +kernel) rfl rfl rfl (by decide +kernel)
set_option maxRecDepth 65536 in
theorem w_c6 : (Jvm.Cond.code ({ cls := "com/example/tightfold/tightfold/FocusFiltering$Run", name := "<init>", desc := "()V" } : Jvm.MethodName) prog_5_method_1_code (1 : Nat) (Option.none : Option Jvm.ClassFile.FieldType)).before args0 about1 = true := code_word (m := ⟨5, 0⟩) (meth := k5m0) (c := k5c0) (by decide +kernel) rfl rfl rfl (by decide +kernel)
set_option maxRecDepth 65536 in
theorem w_c7 : (Jvm.Cond.code ({ cls := "com/example/tightfold/tightfold/FocusFiltering$Run", name := "clear", desc := "(I)V" } : Jvm.MethodName) prog_5_method_2_code (2 : Nat) (Option.none : Option Jvm.ClassFile.FieldType)).before args0 about1 = true := code_word (m := ⟨5, 1⟩) (meth := k5m1) (c := k5c1) (by decide +kernel) rfl rfl rfl (by decide +kernel)
set_option maxRecDepth 65536 in
theorem w_c8 : (Jvm.Cond.code ({ cls := "com/example/tightfold/tightfold/FocusFiltering$PartialCover", name := "extend", desc := "(ZZI)V" } : Jvm.MethodName) prog_4_method_3_code (7 : Nat) (Option.none : Option Jvm.ClassFile.FieldType)).before args0 about1 = true := code_word (m := ⟨4, 2⟩) (meth := k4m2) (c := k4c2) (by decide +kernel) rfl rfl rfl (by decide +kernel)
set_option maxRecDepth 65536 in
theorem w_c9 : (Jvm.Cond.code ({ cls := "com/example/tightfold/tightfold/FocusFiltering$PartialCover", name := "fewest", desc := "()I" } : Jvm.MethodName) prog_4_method_2_code (1 : Nat) (Option.some Jvm.ClassFile.FieldType.int)).before args0 about1 = true := code_word (m := ⟨4, 1⟩) (meth := k4m1) (c := k4c1) (by decide +kernel) rfl rfl rfl (by decide +kernel)
set_option maxRecDepth 65536 in
theorem w_c10 : (Jvm.Cond.code ({ cls := "java/lang/Math", name := "min", desc := "(II)I" } : Jvm.MethodName) jdk_29_method_69_code (2 : Nat) (Option.some Jvm.ClassFile.FieldType.int)).before args0 about1 = true := code_word (m := ⟨2, 2⟩) (meth := k2m2) (c := k2c2) (by decide +kernel) rfl rfl rfl (by decide +kernel)
set_option maxRecDepth 65536 in
theorem w_c11 : (Jvm.Cond.code ({ cls := "com/example/tightfold/tightfold/FocusFiltering$PartialCover", name := "offerExtension", desc := "(Lcom/example/tightfold/tightfold/FocusFiltering$Run;Lcom/example/tightfold/tightfold/FocusFiltering$Run;II)V" } : Jvm.MethodName) prog_4_method_4_code (5 : Nat) (Option.none : Option Jvm.ClassFile.FieldType)).before args0 about1 = true := code_word (m := ⟨4, 3⟩) (meth := k4m3) (c := k4c3) (by decide +kernel) rfl rfl rfl (by decide +kernel)
set_option maxRecDepth 65536 in
theorem w_c12 : (Jvm.Cond.code ({ cls := "com/example/tightfold/tightfold/FocusFilteringFewestRunsPinLaw", name := "val", desc := "(IIIII)I" } : Jvm.MethodName) method_3_code (5 : Nat) (Option.some Jvm.ClassFile.FieldType.int)).before args0 about1 = true := code_word (m := ⟨1, 2⟩) (meth := k1m2) (c := k1c2) (by decide +kernel) rfl rfl rfl (by decide +kernel)
set_option maxRecDepth 65536 in
theorem w_c13 : (Jvm.Cond.code ({ cls := "com/example/tightfold/tightfold/FocusFilteringFewestRunsPinLaw", name := "cost", desc := "(III)I" } : Jvm.MethodName) method_8_code (7 : Nat) (Option.some Jvm.ClassFile.FieldType.int)).before args0 about1 = true := code_word (m := ⟨1, 7⟩) (meth := k1m7) (c := k1c7) (by decide +kernel) rfl rfl rfl (by decide +kernel)
set_option maxRecDepth 65536 in
theorem w_c14 : (Jvm.Cond.code ({ cls := "com/example/tightfold/tightfold/FocusFilteringFewestRunsPinLaw", name := "hi", desc := "(II)Z" } : Jvm.MethodName) method_4_code (2 : Nat) (Option.some Jvm.ClassFile.FieldType.boolean)).before args0 about1 = true := code_word (m := ⟨1, 3⟩) (meth := k1m3) (c := k1c3) (by decide +kernel) rfl rfl rfl (by decide +kernel)
set_option maxRecDepth 65536 in
theorem w_c15 : (Jvm.Cond.code ({ cls := "com/example/tightfold/tightfold/FocusFiltering$Run", name := "offer", desc := "(III)V" } : Jvm.MethodName) prog_5_method_3_code (5 : Nat) (Option.none : Option Jvm.ClassFile.FieldType)).before args0 about1 = true := code_word (m := ⟨5, 2⟩) (meth := k5m2) (c := k5c2) (by decide +kernel) rfl rfl rfl (by decide +kernel)
set_option maxRecDepth 65536 in
theorem w_c16 : (Jvm.Cond.code ({ cls := "com/example/tightfold/tightfold/FocusFilteringFewestRunsPinLaw", name := "c", desc := "(IIIIII)I" } : Jvm.MethodName) method_7_code (6 : Nat) (Option.some Jvm.ClassFile.FieldType.int)).before args0 about1 = true := code_word (m := ⟨1, 6⟩) (meth := k1m6) (c := k1c6) (by decide +kernel) rfl rfl rfl (by decide +kernel)
set_option maxRecDepth 65536 in
theorem w_c17 : (Jvm.Cond.code ({ cls := "com/example/tightfold/tightfold/FocusFilteringFewestRunsPinLaw", name := "fits", desc := "(IIIII)Z" } : Jvm.MethodName) method_6_code (6 : Nat) (Option.some Jvm.ClassFile.FieldType.boolean)).before args0 about1 = true := code_word (m := ⟨1, 5⟩) (meth := k1m5) (c := k1c5) (by decide +kernel) rfl rfl rfl (by decide +kernel)
set_option maxRecDepth 65536 in
theorem w_c18 : (Jvm.Cond.code ({ cls := "com/example/tightfold/tightfold/FocusFilteringFewestRunsPinLaw", name := "pre", desc := "(II)I" } : Jvm.MethodName) method_5_code (3 : Nat) (Option.some Jvm.ClassFile.FieldType.int)).before args0 about1 = true := code_word (m := ⟨1, 4⟩) (meth := k1m4) (c := k1c4) (by decide +kernel) rfl rfl rfl (by decide +kernel)
def codes1 : List Jvm.Cond := [Jvm.Cond.code x code maxLocals ret, Jvm.Cond.code ({ cls := "java/lang/Math", name := "max", desc := "(II)I" } : Jvm.MethodName) jdk_29_method_65_code (2 : Nat) (Option.some Jvm.ClassFile.FieldType.int), Jvm.Cond.code ({ cls := "com/example/tightfold/tightfold/FocusFiltering", name := "<init>", desc := "(II)V" } : Jvm.MethodName) prog_3_method_1_code (3 : Nat) (Option.none : Option Jvm.ClassFile.FieldType), Jvm.Cond.code ({ cls := "java/lang/Object", name := "<init>", desc := "()V" } : Jvm.MethodName) object_method_1_code (1 : Nat) (Option.none : Option Jvm.ClassFile.FieldType), Jvm.Cond.code ({ cls := "com/example/tightfold/tightfold/FocusFiltering", name := "fewestRuns", desc := "([Z[ZI)I" } : Jvm.MethodName) prog_3_method_2_code (6 : Nat) (Option.some Jvm.ClassFile.FieldType.int), Jvm.Cond.code ({ cls := "com/example/tightfold/tightfold/FocusFiltering$PartialCover", name := "<init>", desc := "(II)V" } : Jvm.MethodName) prog_4_method_1_code (3 : Nat) (Option.none : Option Jvm.ClassFile.FieldType), Jvm.Cond.code ({ cls := "com/example/tightfold/tightfold/FocusFiltering$Run", name := "<init>", desc := "()V" } : Jvm.MethodName) prog_5_method_1_code (1 : Nat) (Option.none : Option Jvm.ClassFile.FieldType), Jvm.Cond.code ({ cls := "com/example/tightfold/tightfold/FocusFiltering$Run", name := "clear", desc := "(I)V" } : Jvm.MethodName) prog_5_method_2_code (2 : Nat) (Option.none : Option Jvm.ClassFile.FieldType), Jvm.Cond.code ({ cls := "com/example/tightfold/tightfold/FocusFiltering$PartialCover", name := "extend", desc := "(ZZI)V" } : Jvm.MethodName) prog_4_method_3_code (7 : Nat) (Option.none : Option Jvm.ClassFile.FieldType), Jvm.Cond.code ({ cls := "com/example/tightfold/tightfold/FocusFiltering$PartialCover", name := "fewest", desc := "()I" } : Jvm.MethodName) prog_4_method_2_code (1 : Nat) (Option.some Jvm.ClassFile.FieldType.int), Jvm.Cond.code ({ cls := "java/lang/Math", name := "min", desc := "(II)I" } : Jvm.MethodName) jdk_29_method_69_code (2 : Nat) (Option.some Jvm.ClassFile.FieldType.int), Jvm.Cond.code ({ cls := "com/example/tightfold/tightfold/FocusFiltering$PartialCover", name := "offerExtension", desc := "(Lcom/example/tightfold/tightfold/FocusFiltering$Run;Lcom/example/tightfold/tightfold/FocusFiltering$Run;II)V" } : Jvm.MethodName) prog_4_method_4_code (5 : Nat) (Option.none : Option Jvm.ClassFile.FieldType), Jvm.Cond.code ({ cls := "com/example/tightfold/tightfold/FocusFilteringFewestRunsPinLaw", name := "val", desc := "(IIIII)I" } : Jvm.MethodName) method_3_code (5 : Nat) (Option.some Jvm.ClassFile.FieldType.int), Jvm.Cond.code ({ cls := "com/example/tightfold/tightfold/FocusFilteringFewestRunsPinLaw", name := "cost", desc := "(III)I" } : Jvm.MethodName) method_8_code (7 : Nat) (Option.some Jvm.ClassFile.FieldType.int), Jvm.Cond.code ({ cls := "com/example/tightfold/tightfold/FocusFilteringFewestRunsPinLaw", name := "hi", desc := "(II)Z" } : Jvm.MethodName) method_4_code (2 : Nat) (Option.some Jvm.ClassFile.FieldType.boolean), Jvm.Cond.code ({ cls := "com/example/tightfold/tightfold/FocusFiltering$Run", name := "offer", desc := "(III)V" } : Jvm.MethodName) prog_5_method_3_code (5 : Nat) (Option.none : Option Jvm.ClassFile.FieldType), Jvm.Cond.code ({ cls := "com/example/tightfold/tightfold/FocusFilteringFewestRunsPinLaw", name := "c", desc := "(IIIIII)I" } : Jvm.MethodName) method_7_code (6 : Nat) (Option.some Jvm.ClassFile.FieldType.int), Jvm.Cond.code ({ cls := "com/example/tightfold/tightfold/FocusFilteringFewestRunsPinLaw", name := "fits", desc := "(IIIII)Z" } : Jvm.MethodName) method_6_code (6 : Nat) (Option.some Jvm.ClassFile.FieldType.boolean), Jvm.Cond.code ({ cls := "com/example/tightfold/tightfold/FocusFilteringFewestRunsPinLaw", name := "pre", desc := "(II)I" } : Jvm.MethodName) method_5_code (3 : Nat) (Option.some Jvm.ClassFile.FieldType.int)]
set_option maxRecDepth 65536 in
theorem codes_eq : words1.filter isCode = codes1 := rfl
theorem w_codes : ∀ c ∈ words1.filter isCode, c.before args0 about1 = true := by
  rw [codes_eq]
  intro c hc
  simp only [codes1, List.mem_cons, List.not_mem_nil, or_false] at hc
  rcases hc with rfl | rfl | rfl | rfl | rfl | rfl | rfl | rfl | rfl | rfl | rfl | rfl | rfl | rfl | rfl | rfl | rfl | rfl | rfl
  · exact w_c0
  · exact w_c1
  · exact w_c2
  · exact w_c3
  · exact w_c4
  · exact w_c5
  · exact w_c6
  · exact w_c7
  · exact w_c8
  · exact w_c9
  · exact w_c10
  · exact w_c11
  · exact w_c12
  · exact w_c13
  · exact w_c14
  · exact w_c15
  · exact w_c16
  · exact w_c17
  · exact w_c18
set_option maxRecDepth 65536 in
theorem w_t1 : (words1.take 24).all (fun c => isCode c || c.before args0 about1) = true := by decide +kernel
set_option maxRecDepth 65536 in
theorem w_t2 : ((words1.drop 24).take 24).all (fun c => isCode c || c.before args0 about1) = true := by decide +kernel
set_option maxRecDepth 65536 in
theorem w_t3 : (((words1.drop 24).drop 24).take 24).all (fun c => isCode c || c.before args0 about1) = true := by decide +kernel
set_option maxRecDepth 65536 in
theorem w_t4 : ((((words1.drop 24).drop 24).drop 24).take 24).all (fun c => isCode c || c.before args0 about1) = true := by decide +kernel
set_option maxRecDepth 65536 in
theorem w_t5 : (((((words1.drop 24).drop 24).drop 24).drop 24).take 24).all (fun c => isCode c || c.before args0 about1) = true := by decide +kernel
set_option maxRecDepth 65536 in
theorem w_t6 : (((((words1.drop 24).drop 24).drop 24).drop 24).drop 24).all (fun c => isCode c || c.before args0 about1) = true := by decide +kernel
theorem w_tables : (allAtoms (Jvm.Cond.code x code maxLocals ret :: tables_1)).before args0 about1 = true := by
  rw [allAtoms_all]
  show words1.all (fun c => c.before args0 about1) = true
  refine all_split ?_ w_codes
  rw [← List.take_append_drop 24 words1, List.all_append, w_t1, ← List.take_append_drop 24 (words1.drop 24), List.all_append, w_t2, ← List.take_append_drop 24 ((words1.drop 24).drop 24), List.all_append, w_t3, ← List.take_append_drop 24 (((words1.drop 24).drop 24).drop 24), List.all_append, w_t4, ← List.take_append_drop 24 ((((words1.drop 24).drop 24).drop 24).drop 24), List.all_append, w_t5, w_t6]
  rfl
set_option maxRecDepth 65536 in
theorem w_case : (Jvm.Cond.and given_1 narrow_1).before args0 about1 = true := by decide +kernel
theorem w_applies : (headSpec (Jvm.Cond.code x code maxLocals ret :: tables_1) room_1).applies x e0.platform about1 = true :=
  (Spec.applies_iff w_frames).mpr ⟨w_running, w_runnable, w_alone, w_named, w_hears, w_ripe, w_room, w_tables⟩
theorem atStart : AtStart classFile x code maxLocals ret World_1 tables_1 room_1 Calls_1 rest_1 Pre_1 launch0 p0 e0 about1 theMethod args0 below0 :=
  ⟨lists_1, trivial, launch0.admits_env _ _ _, launch0.least_env, fairChoices_fair.cas, fairChoices_fair.clock, w_frames, w_args, w_heap, w_applies, trivial, trivial, w_case⟩
end start1
theorem witness_1 : WitnessClaimed_1 := ⟨start1.p0, start1.e0, start1.about1, start1.theMethod, start1.args0, start1.below0, start1.atStart⟩
end Jvm.Pilot.@@N@@
