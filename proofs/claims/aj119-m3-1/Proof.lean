import JvmDerived
import JvmDerived.Pilot.@@N@@Statement
import JvmDerived.Pilot.@@N@@Code
set_option linter.unusedVariables false
set_option linter.unusedSimpArgs false
namespace Jvm.RoadKit
open Sem ClassFile Op Lib Jvm.Stand Jvm.Free Jvm.LawKit
section New
variable {p : Program} {l : Launch} {e : Env} {R : Room} {s : State} {m : MethodId} {args : Array Value} {below : List Frame} {meth : Method} {c : Code} {T : State} {locs : List Loc} {cells slots : Nat}
theorem retI (X : Stand p l e R s m args below meth c T locs cells slots) (hx : p.tables.exec = Jvm.exec) {pc : Nat} {Ls : Array Slot} {z : Int32} {rest : List Value} (hret : meth.sig.returnType = some .int) (hd : decode c.code pc = .ok (.ireturn, 1)) {fs : List Frame}
    (hl : ∀ (f : JFrame) (acts : List Action), f.method = m → f.locked = none → f.entered = [] → (doReturn e (T.setTop f) acts (some (.int z))).1 = T.setFrames fs) : Steps p.tables e below (T.setTop (mkF m pc Ls (.int z :: rest))) (T.setFrames fs) := by
  have hm' : T.vm.method? m = some meth := X.method'
  have hn : narrow .int (.int z) = .int z := rfl
  show Steps p.tables e below (T.setTop { method := m, pc := pc, locals := Ls, stack := _ :: rest, locked := none }) _
  jvm_step X.here [X.here.top, hx, hd, hm', hret, hn]
  first | (intro acts; rw [hl _ acts rfl rfl rfl]) | rw [hl _ _ rfl rfl rfl]
  exact Steps.refl _
theorem retA (X : Stand p l e R s m args below meth c T locs cells slots) (hx : p.tables.exec = Jvm.exec) {pc : Nat} {Ls : Array Slot} {v : Value} {t : FieldType} (ht : t.isReference = true) (hv : v.isRef = true) (hret : meth.sig.returnType = some t) (hd : decode c.code pc = .ok (.areturn, 1)) {fs : List Frame}
    (hl : ∀ (f : JFrame) (acts : List Action), f.method = m → f.locked = none → f.entered = [] → (doReturn e (T.setTop f) acts (some v)).1 = T.setFrames fs) : Steps p.tables e below (T.setTop (mkF m pc Ls [v])) (T.setFrames fs) := by
  have hm' : T.vm.method? m = some meth := X.method'
  show Steps p.tables e below (T.setTop { method := m, pc := pc, locals := Ls, stack := [v], locked := none }) _
  jvm_step X.here [X.here.top, hx, hd, hm', hret, hv, ht]
  first | (intro acts; rw [hl _ acts rfl rfl rfl]) | rw [hl _ _ rfl rfl rfl]
  exact Steps.refl _
end New
end Jvm.RoadKit
namespace Jvm.Pilot.@@N@@
open Jvm Jvm.ClassFile Sem Op Lib Jvm.Free Jvm.Stand Jvm.LawKit Jvm.RoadKit Bundle Jvm.Pilot.@@N@@.Jvm.D
/-- from A the invocation comes to its end: it returns some v, P holds of v, of the heap and of the places written, and the frame is kept -/
def Rt (p : Program) (e : Env) (below : List Frame) (s : State) (k n : Nat) (P : Option Value → Heap → List Loc → Prop) (A : State) : Prop :=
  ∃ s₂ o, Steps p.tables e below A s₂ ∧ s₂.status = .running ∧ Ended s₂ below o ∧ ∃ v L, o = .returned v ∧ P v s₂.heap L ∧ FrameEnd s o s₂ L k n
/-- where the walk stands: its heap, and that all it wrote lies at n0 or above -/
def Sd (p : Program) (l : Launch) (e : Env) (R : Room) (s : State) (m : MethodId) (args : Array Value) (below : List Frame) (meth : Method) (c : Code) (T : State) (n0 cells slots : Nat) (h : Heap) : Prop :=
  ∃ locs, Stand p l e R s m args below meth c T locs cells slots ∧ Fr n0 locs ∧ T.heap = h
def lcv (j : Fin 2) : Int64 := Int64.ofNat j.val
section Own
variable {p : Program} {l : Launch} {e : Env} {R : Room} {s : State} {m : MethodId} {args : Array Value} {below : List Frame} {meth : Method} {c : Code} {T : State} {n0 cells slots : Nat} {h0 : Heap} {k n : Nat} {P : Option Value → Heap → List Loc → Prop}
theorem Rt.go {A B : State} (f : ∀ t, Steps p.tables e below B t → Steps p.tables e below A t) (h : Rt p e below s k n P B) : Rt p e below s k n P A := by
  obtain ⟨s₂, o, h1, h2⟩ := h
  exact ⟨s₂, o, f _ h1, h2⟩
theorem Rt.iloadN (X : Sd p l e R s m args below meth c T n0 cells slots h0) (hx : p.tables.exec = Jvm.exec) {pc pc' : Nat} {Ls : Array Slot} {S : List Value} {j : Fin 4} {v : Int32} (hd : decode c.code pc = .ok (.iload_n j, 1)) (hl : Ls[j.val]? = some (.val (.int v))) (hp : pc + 1 = pc')
    (h : Rt p e below s k n P (T.setTop (mkF m pc' Ls (.int v :: S)))) : Rt p e below s k n P (T.setTop (mkF m pc Ls (S))) := by
  subst hp; obtain ⟨_, X, _, _⟩ := X; exact Rt.go (fun _ => XS.iloadN X.here hx rfl hd hl) h
theorem Rt.iload (X : Sd p l e R s m args below meth c T n0 cells slots h0) (hx : p.tables.exec = Jvm.exec) {pc pc' : Nat} {Ls : Array Slot} {S : List Value} {j : Nat} {v : Int32} (hd : decode c.code pc = .ok (.iload j, 2)) (hl : Ls[j]? = some (.val (.int v))) (hp : pc + 2 = pc')
    (h : Rt p e below s k n P (T.setTop (mkF m pc' Ls (.int v :: S)))) : Rt p e below s k n P (T.setTop (mkF m pc Ls (S))) := by
  subst hp; obtain ⟨_, X, _, _⟩ := X; exact Rt.go (fun _ => XS.iload X.here hx rfl hd hl) h
theorem Rt.istore (X : Sd p l e R s m args below meth c T n0 cells slots h0) (hx : p.tables.exec = Jvm.exec) {pc pc' : Nat} {Ls : Array Slot} {S : List Value} {j : Nat} {v : Int32} {l' : Array Slot} (hd : decode c.code pc = .ok (.istore j, 2)) (hl : storeLocals Ls j (.int v) = some l') (hp : pc + 2 = pc')
    (h : Rt p e below s k n P (T.setTop (mkF m pc' l' (S)))) : Rt p e below s k n P (T.setTop (mkF m pc Ls (.int v :: S))) := by
  subst hp; obtain ⟨_, X, _, _⟩ := X; exact Rt.go (fun _ => XS.istore X.here hx rfl hd rfl hl) h
theorem Rt.lloadN (X : Sd p l e R s m args below meth c T n0 cells slots h0) (hx : p.tables.exec = Jvm.exec) {pc pc' : Nat} {Ls : Array Slot} {S : List Value} {j : Fin 4} {v : Int64} (hd : decode c.code pc = .ok (.lload_n j, 1)) (hl : Ls[j.val]? = some (.val (.long v))) (hp : pc + 1 = pc')
    (h : Rt p e below s k n P (T.setTop (mkF m pc' Ls (.long v :: S)))) : Rt p e below s k n P (T.setTop (mkF m pc Ls (S))) := by
  subst hp; obtain ⟨_, X, _, _⟩ := X; exact Rt.go (fun _ => XS.lloadN X.here hx rfl hd hl) h
theorem Rt.lload (X : Sd p l e R s m args below meth c T n0 cells slots h0) (hx : p.tables.exec = Jvm.exec) {pc pc' : Nat} {Ls : Array Slot} {S : List Value} {j : Nat} {v : Int64} (hd : decode c.code pc = .ok (.lload j, 2)) (hl : Ls[j]? = some (.val (.long v))) (hp : pc + 2 = pc')
    (h : Rt p e below s k n P (T.setTop (mkF m pc' Ls (.long v :: S)))) : Rt p e below s k n P (T.setTop (mkF m pc Ls (S))) := by
  subst hp; obtain ⟨_, X, _, _⟩ := X; exact Rt.go (fun _ => XS.lload X.here hx rfl hd hl) h
theorem Rt.lstore (X : Sd p l e R s m args below meth c T n0 cells slots h0) (hx : p.tables.exec = Jvm.exec) {pc pc' : Nat} {Ls : Array Slot} {S : List Value} {j : Nat} {v : Int64} {l' : Array Slot} (hd : decode c.code pc = .ok (.lstore j, 2)) (hl : storeLocals Ls j (.long v) = some l') (hp : pc + 2 = pc')
    (h : Rt p e below s k n P (T.setTop (mkF m pc' l' (S)))) : Rt p e below s k n P (T.setTop (mkF m pc Ls (.long v :: S))) := by
  subst hp; obtain ⟨_, X, _, _⟩ := X; exact Rt.go (fun _ => XS.lstore X.here hx rfl hd rfl hl) h
theorem Rt.aloadN (X : Sd p l e R s m args below meth c T n0 cells slots h0) (hx : p.tables.exec = Jvm.exec) {pc pc' : Nat} {Ls : Array Slot} {S : List Value} {j : Fin 4} {v : Value} (hd : decode c.code pc = .ok (.aload_n j, 1)) (hl : Ls[j.val]? = some (.val v)) (hv : v.isRef = true) (hp : pc + 1 = pc')
    (h : Rt p e below s k n P (T.setTop (mkF m pc' Ls (v :: S)))) : Rt p e below s k n P (T.setTop (mkF m pc Ls (S))) := by
  subst hp; obtain ⟨_, X, _, _⟩ := X; exact Rt.go (fun _ => XS.aloadN X.here hx rfl hd hl hv) h
theorem Rt.aload (X : Sd p l e R s m args below meth c T n0 cells slots h0) (hx : p.tables.exec = Jvm.exec) {pc pc' : Nat} {Ls : Array Slot} {S : List Value} {j : Nat} {v : Value} (hd : decode c.code pc = .ok (.aload j, 2)) (hl : Ls[j]? = some (.val v)) (hv : v.isRef = true) (hp : pc + 2 = pc')
    (h : Rt p e below s k n P (T.setTop (mkF m pc' Ls (v :: S)))) : Rt p e below s k n P (T.setTop (mkF m pc Ls (S))) := by
  subst hp; obtain ⟨_, X, _, _⟩ := X; exact Rt.go (fun _ => XS.aload X.here hx rfl hd hl hv) h
theorem Rt.astoreN (X : Sd p l e R s m args below meth c T n0 cells slots h0) (hx : p.tables.exec = Jvm.exec) {pc pc' : Nat} {Ls : Array Slot} {S : List Value} {j : Fin 4} {v : Value} {l' : Array Slot} (hd : decode c.code pc = .ok (.astore_n j, 1)) (hv : v.isRef = true) (hl : storeLocals Ls j.val v = some l') (hp : pc + 1 = pc')
    (h : Rt p e below s k n P (T.setTop (mkF m pc' l' (S)))) : Rt p e below s k n P (T.setTop (mkF m pc Ls (v :: S))) := by
  subst hp; obtain ⟨_, X, _, _⟩ := X; exact Rt.go (fun _ => XS.astoreN X.here hx rfl hd rfl hv hl) h
theorem Rt.astore (X : Sd p l e R s m args below meth c T n0 cells slots h0) (hx : p.tables.exec = Jvm.exec) {pc pc' : Nat} {Ls : Array Slot} {S : List Value} {j : Nat} {v : Value} {l' : Array Slot} (hd : decode c.code pc = .ok (.astore j, 2)) (hv : v.isRef = true) (hl : storeLocals Ls j v = some l') (hp : pc + 2 = pc')
    (h : Rt p e below s k n P (T.setTop (mkF m pc' l' (S)))) : Rt p e below s k n P (T.setTop (mkF m pc Ls (v :: S))) := by
  subst hp; obtain ⟨_, X, _, _⟩ := X; exact Rt.go (fun _ => XS.astore X.here hx rfl hd rfl hv hl) h
theorem Rt.iconst (X : Sd p l e R s m args below meth c T n0 cells slots h0) (hx : p.tables.exec = Jvm.exec) {pc pc' : Nat} {Ls : Array Slot} {S : List Value} {i : Int} {v : Int32} (hd : decode c.code pc = .ok (.iconst i, 1)) (hv : Int32.ofInt i = v) (hp : pc + 1 = pc')
    (h : Rt p e below s k n P (T.setTop (mkF m pc' Ls (.int v :: S)))) : Rt p e below s k n P (T.setTop (mkF m pc Ls S)) := by
  subst hp hv; obtain ⟨_, X, _, _⟩ := X; exact Rt.go (fun _ => XS.iconst X.here hx rfl hd) h
theorem Rt.bipush (X : Sd p l e R s m args below meth c T n0 cells slots h0) (hx : p.tables.exec = Jvm.exec) {pc pc' : Nat} {Ls : Array Slot} {S : List Value} {i : Int} {v : Int32} (hd : decode c.code pc = .ok (.bipush i, 2)) (hv : (Int8.ofInt i).toInt32 = v) (hp : pc + 2 = pc')
    (h : Rt p e below s k n P (T.setTop (mkF m pc' Ls (.int v :: S)))) : Rt p e below s k n P (T.setTop (mkF m pc Ls S)) := by
  subst hp hv; obtain ⟨_, X, _, _⟩ := X; exact Rt.go (fun _ => XS.bipush X.here hx rfl hd) h
theorem Rt.sipush (X : Sd p l e R s m args below meth c T n0 cells slots h0) (hx : p.tables.exec = Jvm.exec) {pc pc' : Nat} {Ls : Array Slot} {S : List Value} {i : Int} {v : Int32} (hd : decode c.code pc = .ok (.sipush i, 3)) (hv : (Int16.ofInt i).toInt32 = v) (hp : pc + 3 = pc')
    (h : Rt p e below s k n P (T.setTop (mkF m pc' Ls (.int v :: S)))) : Rt p e below s k n P (T.setTop (mkF m pc Ls S)) := by
  subst hp hv; obtain ⟨_, X, _, _⟩ := X; exact Rt.go (fun _ => XS.sipush X.here hx rfl hd) h
theorem Rt.aconstNull (X : Sd p l e R s m args below meth c T n0 cells slots h0) (hx : p.tables.exec = Jvm.exec) {pc pc' : Nat} {Ls : Array Slot} {S : List Value}  (hd : decode c.code pc = .ok (.aconst_null, 1)) (hp : pc + 1 = pc')
    (h : Rt p e below s k n P (T.setTop (mkF m pc' Ls (.null :: S)))) : Rt p e below s k n P (T.setTop (mkF m pc Ls (S))) := by
  subst hp; obtain ⟨_, X, _, _⟩ := X; exact Rt.go (fun _ => XS.aconstNull X.here hx rfl hd ) h
theorem Rt.isub (X : Sd p l e R s m args below meth c T n0 cells slots h0) (hx : p.tables.exec = Jvm.exec) {pc pc' : Nat} {Ls : Array Slot} {S : List Value} {x y r : Int32} (hd : decode c.code pc = .ok (.isub, 1)) (hr : x - y = r) (hp : pc + 1 = pc')
    (h : Rt p e below s k n P (T.setTop (mkF m pc' Ls (.int r :: S)))) : Rt p e below s k n P (T.setTop (mkF m pc Ls (.int y :: .int x :: S))) := by
  subst hp hr; obtain ⟨_, X, _, _⟩ := X; exact Rt.go (fun _ => XS.isub X.here hx rfl hd rfl) h
theorem Rt.iand (X : Sd p l e R s m args below meth c T n0 cells slots h0) (hx : p.tables.exec = Jvm.exec) {pc pc' : Nat} {Ls : Array Slot} {S : List Value} {x y r : Int32} (hd : decode c.code pc = .ok (.iand, 1)) (hr : x &&& y = r) (hp : pc + 1 = pc')
    (h : Rt p e below s k n P (T.setTop (mkF m pc' Ls (.int r :: S)))) : Rt p e below s k n P (T.setTop (mkF m pc Ls (.int y :: .int x :: S))) := by
  subst hp hr; obtain ⟨_, X, _, _⟩ := X; exact Rt.go (fun _ => XS.iand X.here hx rfl hd rfl) h
theorem Rt.iushr (X : Sd p l e R s m args below meth c T n0 cells slots h0) (hx : p.tables.exec = Jvm.exec) {pc pc' : Nat} {Ls : Array Slot} {S : List Value} {x y r : Int32} (hd : decode c.code pc = .ok (.iushr, 1)) (hr : (x.toUInt32 >>> (y &&& 31).toUInt32).toInt32 = r) (hp : pc + 1 = pc')
    (h : Rt p e below s k n P (T.setTop (mkF m pc' Ls (.int r :: S)))) : Rt p e below s k n P (T.setTop (mkF m pc Ls (.int y :: .int x :: S))) := by
  subst hp hr; obtain ⟨_, X, _, _⟩ := X; exact Rt.go (fun _ => XS.iushr X.here hx rfl hd rfl) h
theorem Rt.i2b (X : Sd p l e R s m args below meth c T n0 cells slots h0) (hx : p.tables.exec = Jvm.exec) {pc pc' : Nat} {Ls : Array Slot} {S : List Value} {v : Int32} {r : Int32} (hd : decode c.code pc = .ok (.i2b, 1)) (hr : v.toInt8.toInt32 = r) (hp : pc + 1 = pc')
    (h : Rt p e below s k n P (T.setTop (mkF m pc' Ls (.int r :: S)))) : Rt p e below s k n P (T.setTop (mkF m pc Ls (.int v :: S))) := by
  subst hp hr; obtain ⟨_, X, _, _⟩ := X; exact Rt.go (fun _ => XS.i2b X.here hx rfl hd rfl) h
theorem Rt.i2c (X : Sd p l e R s m args below meth c T n0 cells slots h0) (hx : p.tables.exec = Jvm.exec) {pc pc' : Nat} {Ls : Array Slot} {S : List Value} {v : Int32} {r : Int32} (hd : decode c.code pc = .ok (.i2c, 1)) (hr : v.toUInt32.toUInt16.toUInt32.toInt32 = r) (hp : pc + 1 = pc')
    (h : Rt p e below s k n P (T.setTop (mkF m pc' Ls (.int r :: S)))) : Rt p e below s k n P (T.setTop (mkF m pc Ls (.int v :: S))) := by
  subst hp hr; obtain ⟨_, X, _, _⟩ := X; exact Rt.go (fun _ => XS.i2c X.here hx rfl hd rfl) h
theorem Rt.lcmp (X : Sd p l e R s m args below meth c T n0 cells slots h0) (hx : p.tables.exec = Jvm.exec) {pc pc' : Nat} {Ls : Array Slot} {S : List Value} {x y : Int64} (hd : decode c.code pc = .ok (.lcmp, 1)) (hp : pc + 1 = pc')
    (h : Rt p e below s k n P (T.setTop (mkF m pc' Ls (.int (lcmpW x y) :: S)))) : Rt p e below s k n P (T.setTop (mkF m pc Ls (.long y :: .long x :: S))) := by
  subst hp; obtain ⟨_, X, _, _⟩ := X; exact Rt.go (fun _ => XS.lcmp X.here hx rfl hd rfl) h
theorem Rt.iinc (X : Sd p l e R s m args below meth c T n0 cells slots h0) (hx : p.tables.exec = Jvm.exec) {pc pc' : Nat} {Ls : Array Slot} {S : List Value} {j : Nat} {cst : Int} {x r : Int32} {l' : Array Slot} (hd : decode c.code pc = .ok (.iinc j cst, 3)) (hl : Ls[j]? = some (.val (.int x))) (hr : x + Int32.ofInt cst = r) (hl' : storeLocals Ls j (.int r) = some l') (hp : pc + 3 = pc')
    (h : Rt p e below s k n P (T.setTop (mkF m pc' l' S))) : Rt p e below s k n P (T.setTop (mkF m pc Ls S)) := by
  subst hp hr; obtain ⟨_, X, _, _⟩ := X; exact Rt.go (fun _ => XS.iinc X.here hx rfl hd hl hl') h
theorem Rt.dup (X : Sd p l e R s m args below meth c T n0 cells slots h0) (hx : p.tables.exec = Jvm.exec) {pc pc' : Nat} {Ls : Array Slot} {S : List Value} {x : Value} (hd : decode c.code pc = .ok (.dup, 1)) (hc : x.category = 1) (hp : pc + 1 = pc')
    (h : Rt p e below s k n P (T.setTop (mkF m pc' Ls (x :: x :: S)))) : Rt p e below s k n P (T.setTop (mkF m pc Ls (x :: S))) := by
  subst hp; obtain ⟨_, X, _, _⟩ := X; exact Rt.go (fun _ => XS.dup X.here hx rfl hd rfl hc) h
theorem Rt.goto (X : Sd p l e R s m args below meth c T n0 cells slots h0) (hx : p.tables.exec = Jvm.exec) {pc pc' : Nat} {Ls : Array Slot} {S : List Value} {o : Int} (hd : decode c.code pc = .ok (.goto o, 3)) (ho : 0 ≤ (pc : Int) + o) (hp : ((pc : Int) + o).toNat = pc')
    (h : Rt p e below s k n P (T.setTop (mkF m pc' Ls S))) : Rt p e below s k n P (T.setTop (mkF m pc Ls S)) := by
  obtain ⟨_, X, _, _⟩ := X; exact Rt.go (fun _ => XS.goto X.here hx rfl (pc0 := pc) rfl hd ho hp) h
theorem Rt.ifY (X : Sd p l e R s m args below meth c T n0 cells slots h0) (hx : p.tables.exec = Jvm.exec) {pc pc' : Nat} {Ls : Array Slot} {S : List Value} {o : Int} {cd : ClassFile.Cond} {x : Int32} (hd : decode c.code pc = .ok (.ifCond cd o, 3)) (hc : ifCond.holds cd x = true) (ho : 0 ≤ (pc : Int) + o) (hp : ((pc : Int) + o).toNat = pc')
    (h : Rt p e below s k n P (T.setTop (mkF m pc' Ls S))) : Rt p e below s k n P (T.setTop (mkF m pc Ls (.int x :: S))) := by
  obtain ⟨_, X, _, _⟩ := X; exact Rt.go (fun _ => XS.ifYes X.here hx rfl (pc0 := pc) rfl hd rfl hc ho hp) h
theorem Rt.ifN (X : Sd p l e R s m args below meth c T n0 cells slots h0) (hx : p.tables.exec = Jvm.exec) {pc pc' : Nat} {Ls : Array Slot} {S : List Value} {o : Int} {cd : ClassFile.Cond} {x : Int32} (hd : decode c.code pc = .ok (.ifCond cd o, 3)) (hc : ifCond.holds cd x = false) (hp : pc + 3 = pc')
    (h : Rt p e below s k n P (T.setTop (mkF m pc' Ls S))) : Rt p e below s k n P (T.setTop (mkF m pc Ls (.int x :: S))) := by
  subst hp; obtain ⟨_, X, _, _⟩ := X; exact Rt.go (fun _ => XS.ifNo X.here hx rfl hd rfl hc) h
theorem Rt.icmpY (X : Sd p l e R s m args below meth c T n0 cells slots h0) (hx : p.tables.exec = Jvm.exec) {pc pc' : Nat} {Ls : Array Slot} {S : List Value} {o : Int} {cd : ClassFile.Cond} {x y : Int32} (hd : decode c.code pc = .ok (.if_icmp cd o, 3)) (hc : if_icmp.holds cd x y = true) (ho : 0 ≤ (pc : Int) + o) (hp : ((pc : Int) + o).toNat = pc')
    (h : Rt p e below s k n P (T.setTop (mkF m pc' Ls S))) : Rt p e below s k n P (T.setTop (mkF m pc Ls (.int y :: .int x :: S))) := by
  obtain ⟨_, X, _, _⟩ := X; exact Rt.go (fun _ => XS.icmpYes X.here hx rfl (pc0 := pc) rfl hd rfl hc ho hp) h
theorem Rt.icmpN (X : Sd p l e R s m args below meth c T n0 cells slots h0) (hx : p.tables.exec = Jvm.exec) {pc pc' : Nat} {Ls : Array Slot} {S : List Value} {o : Int} {cd : ClassFile.Cond} {x y : Int32} (hd : decode c.code pc = .ok (.if_icmp cd o, 3)) (hc : if_icmp.holds cd x y = false) (hp : pc + 3 = pc')
    (h : Rt p e below s k n P (T.setTop (mkF m pc' Ls S))) : Rt p e below s k n P (T.setTop (mkF m pc Ls (.int y :: .int x :: S))) := by
  subst hp; obtain ⟨_, X, _, _⟩ := X; exact Rt.go (fun _ => XS.icmpNo X.here hx rfl hd rfl hc) h
theorem Rt.retZ (X : Sd p l e R s m args below meth c T n0 cells slots h0) (hx : p.tables.exec = Jvm.exec) (hlk : meth.locks = false) {t : FieldType} (hret : meth.sig.returnType = some t) (ht : t = .boolean ∨ t = .byte ∨ t = .char ∨ t = .short) {pc : Nat} {Ls : Array Slot} {S : List Value} {z w : Int32} (hd : decode c.code pc = .ok (.ireturn, 1)) (hw : nar t z = w) (hk : cells ≤ k) (hn : slots ≤ n)
    (hP : ∀ L, Fr n0 L → P (some (.int w)) h0 L) : Rt p e below s k n P (T.setTop (mkF m pc Ls (.int z :: S))) := by
  subst hw; obtain ⟨locs, X, N, eh⟩ := X
  obtain ⟨fs, hr, hrun, hended, hW, hsame⟩ := X.leave (v := some (.int (nar t z))) (fun h => by rw [hret] at h; cases h) hlk
  exact ⟨_, _, retN X hx hret ht hd hr, hrun, hended, _, _, rfl, by show P _ T.heap _; rw [eh]; exact hP _ N, ⟨_, rfl⟩, hW, hsame.mono hk hn⟩
theorem Rt.retI (X : Sd p l e R s m args below meth c T n0 cells slots h0) (hx : p.tables.exec = Jvm.exec) (hlk : meth.locks = false) (hret : meth.sig.returnType = some .int) {pc : Nat} {Ls : Array Slot} {S : List Value} {z : Int32} (hd : decode c.code pc = .ok (.ireturn, 1)) (hk : cells ≤ k) (hn : slots ≤ n)
    (hP : ∀ L, Fr n0 L → P (some (.int z)) h0 L) : Rt p e below s k n P (T.setTop (mkF m pc Ls (.int z :: S))) := by
  obtain ⟨locs, X, N, eh⟩ := X
  obtain ⟨fs, hr, hrun, hended, hW, hsame⟩ := X.leave (v := some (.int z)) (fun h => by rw [hret] at h; cases h) hlk
  exact ⟨_, _, Jvm.RoadKit.retI X hx hret hd hr, hrun, hended, _, _, rfl, by show P _ T.heap _; rw [eh]; exact hP _ N, ⟨_, rfl⟩, hW, hsame.mono hk hn⟩
theorem Rt.retJ (X : Sd p l e R s m args below meth c T n0 cells slots h0) (hx : p.tables.exec = Jvm.exec) (hlk : meth.locks = false) (hret : meth.sig.returnType = some .long) {pc : Nat} {Ls : Array Slot} {z : Int64} (hd : decode c.code pc = .ok (.lreturn, 1)) (hk : cells ≤ k) (hn : slots ≤ n)
    (hP : ∀ L, Fr n0 L → P (some (.long z)) h0 L) : Rt p e below s k n P (T.setTop (mkF m pc Ls [.long z])) := by
  obtain ⟨locs, X, N, eh⟩ := X
  obtain ⟨fs, hr, hrun, hended, hW, hsame⟩ := X.leave (v := some (.long z)) (fun h => by rw [hret] at h; cases h) hlk
  exact ⟨_, _, X.lreturnOut hx hret hd hr, hrun, hended, _, _, rfl, by show P _ T.heap _; rw [eh]; exact hP _ N, ⟨_, rfl⟩, hW, hsame.mono hk hn⟩
theorem Rt.retA (X : Sd p l e R s m args below meth c T n0 cells slots h0) (hx : p.tables.exec = Jvm.exec) (hlk : meth.locks = false) {t : FieldType} (ht : t.isReference = true) (hret : meth.sig.returnType = some t) {pc : Nat} {Ls : Array Slot} {v : Value} (hv : v.isRef = true) (hd : decode c.code pc = .ok (.areturn, 1)) (hk : cells ≤ k) (hn : slots ≤ n)
    (hP : ∀ L, Fr n0 L → P (some v) h0 L) : Rt p e below s k n P (T.setTop (mkF m pc Ls [v])) := by
  obtain ⟨locs, X, N, eh⟩ := X
  obtain ⟨fs, hr, hrun, hended, hW, hsame⟩ := X.leave (v := some v) (fun h => by rw [hret] at h; cases h) hlk
  exact ⟨_, _, Jvm.RoadKit.retA X hx ht hv hret hd hr, hrun, hended, _, _, rfl, by show P _ T.heap _; rw [eh]; exact hP _ N, ⟨_, rfl⟩, hW, hsame.mono hk hn⟩
theorem Rt.retV (X : Sd p l e R s m args below meth c T n0 cells slots h0) (hx : p.tables.exec = Jvm.exec) (hlk : meth.locks = false) (hret : meth.sig.returnType = none) {pc : Nat} {Ls : Array Slot}  (hd : decode c.code pc = .ok (.return_, 1)) (hk : cells ≤ k) (hn : slots ≤ n)
    (hP : ∀ L, Fr n0 L → P none h0 L) : Rt p e below s k n P (T.setTop (mkF m pc Ls [])) := by
  obtain ⟨locs, X, N, eh⟩ := X
  obtain ⟨fs, hr, hrun, hended, hW, hsame⟩ := X.leave (v := none) (fun _ => rfl) hlk
  exact ⟨_, _, X.returnOut hx hret hd hr, hrun, hended, _, _, rfl, by show P _ T.heap _; rw [eh]; exact hP _ N, ⟨_, rfl⟩, hW, hsame.mono hk hn⟩
theorem ltl {x y : Int64} (h : x < y) : ifCond.holds .lt (lcmpW x y) = true ∧ ifCond.holds .ge (lcmpW x y) = false := ⟨(if0 _ _).trans (tlt ((lw_lt x y).mpr h)).1, (if0 _ _).trans (tlt ((lw_lt x y).mpr h)).2.1⟩
theorem lfl {x y : Int64} (h : ¬ x < y) : ifCond.holds .lt (lcmpW x y) = false ∧ ifCond.holds .ge (lcmpW x y) = true := ⟨(if0 _ _).trans (flt (fun q => h ((lw_lt x y).mp q))).1, (if0 _ _).trans (flt (fun q => h ((lw_lt x y).mp q))).2.1⟩
theorem gtl {x y : Int64} (h : y < x) : ifCond.holds .gt (lcmpW x y) = true ∧ ifCond.holds .le (lcmpW x y) = false := ⟨(if0 _ _).trans (tlt ((lw_gt x y).mpr h)).2.2.1, (if0 _ _).trans (tlt ((lw_gt x y).mpr h)).2.2.2⟩
theorem gfl {x y : Int64} (h : ¬ y < x) : ifCond.holds .gt (lcmpW x y) = false ∧ ifCond.holds .le (lcmpW x y) = true := ⟨(if0 _ _).trans (flt (fun q => h ((lw_gt x y).mp q))).2.2.1, (if0 _ _).trans (flt (fun q => h ((lw_gt x y).mp q))).2.2.2⟩
abbrev Mt (l : Launch) (Z : State) (y : MethodName) (ws : List Jvm.Cond) (rm : Room) (as' : Array Value) (h : Heap) (Q : Option Value → Heap → List Loc → Prop) : Prop :=
  MetFree l y (head1 ws rm) (fun a U => a = as' ∧ Z.Warmed39 U.vm ∧ U.heap = h) (fun _ _ _ _ _ => True) (fun _ U o U' => ∃ v L, o = .returned v ∧ Q v U'.heap L ∧ FrameEnd U o U' L rm.cells rm.slots)
/-- from a body's walk to its contract -/
theorem Mt.of {Z : State} {y : MethodName} {bytes : ByteArray} {maxL : Nat} {ret : Option FieldType} {ws : List Jvm.Cond} {rm : Room} {as' : Array Value} {h : Heap} {Q : Option Value → Heap → List Loc → Prop} (n0 : Nat) (hpl : plainFor y = true)
    (body : ∀ (p : Program) (e : Env) (s : State) (m : MethodId) (below : List Frame) (meth : Method) (c : Code) (T : State), Sd p l e rm s m as' below meth c T n0 0 0 h → p.tables.exec = Jvm.exec → Z.Warmed39 s.vm → c.code = bytes → c.maxLocals = maxL → s.vm.findClass y.cls = some m.cls → meth.sig.returnType = ret → meth.locks = false → meth.name = y.name → s.heap = h →
      Rt p e below s rm.cells rm.slots Q (T.setTop (entryFrame m as' maxL))) : Mt l Z y (Jvm.Cond.code y bytes maxL ret :: ws) rm as' h Q := by
  refine MetFree.of_bodySF hpl hisR ?_
  intro p e s m args below meth c s₁ Bd hml0 hP hK
  obtain ⟨rfl, hZ, hh⟩ := hP
  have e0 : s₁.heap = h := by rw [← hh, Bd.state]; rfl
  obtain ⟨s₂, o, h1, h2, h3, v, L, h4, h5, h6⟩ := body p e s m below meth c s₁ ⟨[], Stand.of_body Bd, Fr.nil n0, e0⟩ Bd.exec hZ Bd.bytes hml0 (findClass_of_methodNamed Bd.named) Bd.returns (BodyLoose.notSynchronized Bd) (name_of_methodNamed Bd.named Bd.method).1 hh
  exact ⟨s₂, o, h1, h2, h3, v, L, h4, h5, h6⟩
theorem Rt.callS (X : Sd p l e R s m args below meth c T n0 cells slots h0) (hx : p.tables.exec = Jvm.exec) {Z : State} {a0 : Array Value} (hZ : Z.Warmed39 s.vm) {own : String} {index : Nat} {y : MethodName} {bytes : ByteArray} {maxL W : Nat} {ret : Option FieldType} {rm : Room} {as' : Array Value} {Q : Option Value → Heap → List Loc → Prop}
    (hown : s.vm.findClass own = some m.cls) (w1 : (Cond.methodLink own index y).before a0 Z = true) (w2 : (Cond.static y).before a0 Z = true) (w3 : (Cond.initialized y.cls).before a0 Z = true) (w4 : (Cond.code y bytes maxL ret).before a0 Z = true) (hy : y.cls ≠ "java/lang/invoke/MethodHandle" ∧ y.cls ≠ "java/lang/invoke/VarHandle")
    (hM : Mt l Z y [Cond.code y bytes maxL ret] rm as' h0 Q) (hF : ∀ v h L, Q v h L → Fr n0 L) (hf : rm.frames + 1 ≤ R.frames) (hl : W + (maxL + 11) + rm.locals ≤ R.locals) (hc : cells + rm.cells ≤ R.cells) (hs : slots + rm.slots ≤ R.slots)
    {pc pc' : Nat} {Ls : Array Slot} {S argsL rest : List Value} (hsize : Ls.size = c.maxLocals) (hlen : ∀ sig, parseMethodDescriptor y.desc = some sig → argsL.length = sig.parameters.length) (hst : S = argsL.reverse ++ rest) (has : argsL.toArray = as') (hW : (rest.map fun v => v.category).sum ≤ W) (hd : decode c.code pc = .ok (.invokestatic index, 3)) (hp : pc + 3 = pc')
    (hh : ∀ v T' h' L, Sd p l e R s m args below meth c T' n0 (cells + rm.cells) (slots + rm.slots) h' → Q v h' L → Rt p e below s k n P (T'.setTop (mkF m pc' Ls (v.toList ++ rest)))) : Rt p e below s k n P (T.setTop (mkF m pc Ls S)) := by
  subst hp has
  obtain ⟨locs, X, N, eT⟩ := X
  obtain ⟨v, _, ⟨T', L', k', n'⟩, -, X', ⟨Lc, hQ, l', y', z'⟩, st⟩ := Jvm.LawKit.callS X hx (y := y) hown (mvT hZ w1) (mvT hZ w2) (mvT hZ w3) (mvT hZ w4) hy (backOf (W := W) hM hZ w4 w3 hf hl) (g := mkF m pc Ls S) rfl hsize (argsL := argsL) (rest := rest) hlen hst (by show 2 * 0 + _ ≤ _; omega) hd (fun _ _ => ⟨rfl, eT, hc, hs⟩)
  dsimp only [Pt.U, Pt.locs, Pt.cells, Pt.slots] at X' l' y' z' st hQ
  subst l' y' z'
  exact Rt.go st (hh v T' _ Lc ⟨_, X', Fr.app N (hF _ _ _ hQ), rfl⟩ hQ)
/-- a static method that writes nothing -/
theorem Rt.callP (X : Sd p l e R s m args below meth c T n0 cells slots h0) (hx : p.tables.exec = Jvm.exec) {Z : State} {a0 : Array Value} (hZ : Z.Warmed39 s.vm) {own : String} {index : Nat} {y : MethodName} {bytes : ByteArray} {maxL W : Nat} {ret : Option FieldType} {rm : Room} {as' : Array Value} {r : Value}
    (hown : s.vm.findClass own = some m.cls) (w1 : (Cond.methodLink own index y).before a0 Z = true) (w2 : (Cond.static y).before a0 Z = true) (w3 : (Cond.initialized y.cls).before a0 Z = true) (w4 : (Cond.code y bytes maxL ret).before a0 Z = true) (hy : y.cls ≠ "java/lang/invoke/MethodHandle" ∧ y.cls ≠ "java/lang/invoke/VarHandle")
    (hM : Mt l Z y [Cond.code y bytes maxL ret] rm as' h0 (fun v h L => v = some r ∧ Fr n0 L ∧ h = h0)) (hf : rm.frames + 1 ≤ R.frames) (hl : W + (maxL + 11) + rm.locals ≤ R.locals) (hc : cells + rm.cells ≤ R.cells) (hs : slots + rm.slots ≤ R.slots) (hc0 : rm.cells = 0) (hs0 : rm.slots = 0)
    {pc pc' : Nat} {Ls : Array Slot} {S argsL rest : List Value} (hsize : Ls.size = c.maxLocals) (hlen : ∀ sig, parseMethodDescriptor y.desc = some sig → argsL.length = sig.parameters.length) (hst : S = argsL.reverse ++ rest) (has : argsL.toArray = as') (hW : (rest.map fun v => v.category).sum ≤ W) (hd : decode c.code pc = .ok (.invokestatic index, 3)) (hp : pc + 3 = pc')
    (hh : ∀ T', Sd p l e R s m args below meth c T' n0 cells slots h0 → Rt p e below s k n P (T'.setTop (mkF m pc' Ls (r :: rest)))) : Rt p e below s k n P (T.setTop (mkF m pc Ls S)) := by
  refine Rt.callS X hx hZ hown w1 w2 w3 w4 hy hM (fun _ _ _ q => q.2.1) hf hl hc hs hsize hlen hst has hW hd hp ?_
  rintro v T' h' L X' ⟨rfl, _, rfl⟩
  rw [hc0, hs0, Nat.add_zero, Nat.add_zero] at X'
  exact hh T' X'
/-- an instance method, by the contract of the body that the receiver's class selects -/
theorem Rt.callI (X : Sd p l e R s m args below meth c T n0 cells slots h0) (hx : p.tables.exec = Jvm.exec) {Z : State} {a0 : Array Value} (hZ : Z.Warmed39 s.vm) {own : String} {index : Nat} {y : MethodName} {bytes : ByteArray} {maxL W : Nat} {rm : Room} {as' : Array Value} {Q : Option Value → Heap → List Loc → Prop} (hy1 : y.name = "<init>")
    (hown : s.vm.findClass own = some m.cls) (w1 : (Cond.methodLink own index y).before a0 Z = true) (w2 : (Cond.instanceMethod y).before a0 Z = true) (w3 : (Cond.initialized y.cls).before a0 Z = true) (w4 : (Cond.code y bytes maxL none).before a0 Z = true) (hy : y.cls ≠ "java/lang/invoke/MethodHandle" ∧ y.cls ≠ "java/lang/invoke/VarHandle")
    {a : Addr} (hM : Mt l Z y [Cond.code y bytes maxL none] rm as' h0 Q) (hF : ∀ v h L, Q v h L → Fr n0 L) (hf : rm.frames + 1 ≤ R.frames) (hl : W + (maxL + 11) + rm.locals ≤ R.locals) (hc : cells + rm.cells ≤ R.cells) (hs : slots + rm.slots ≤ R.slots)
    {pc pc' : Nat} {Ls : Array Slot} {S argsL rest : List Value} (hsize : Ls.size = c.maxLocals) (hlen : ∀ sig, parseMethodDescriptor y.desc = some sig → argsL.length = sig.parameters.length) (hst : S = argsL.reverse ++ .ref a :: rest) (has : (.ref a :: argsL).toArray = as') (hW : (rest.map fun v => v.category).sum ≤ W) (hd : decode c.code pc = .ok (.invokespecial index, 3)) (hp : pc + 3 = pc')
    (hh : ∀ v T' h' L, Sd p l e R s m args below meth c T' n0 (cells + rm.cells) (slots + rm.slots) h' → Q v h' L → Rt p e below s k n P (T'.setTop (mkF m pc' Ls (v.toList ++ rest)))) : Rt p e below s k n P (T.setTop (mkF m pc Ls S)) := by
  subst hp has
  obtain ⟨locs, X, N, eT⟩ := X
  obtain ⟨v, _, ⟨T', L', k', n'⟩, -, X', ⟨Lc, hQ, l', y', z'⟩, st⟩ := X.specialBack hx (y := y) hy1 hown (mvT hZ w1) (mvT hZ w2) (mvT hZ w4) hy (backOf (W := W) hM hZ w4 w3 hf hl) (g := mkF m pc Ls S) rfl hsize (Steps.refl _) (a := a) (argsL := argsL) (rest := rest) hlen hst (by show 2 * 0 + _ ≤ _; omega) hd (fun _ _ => ⟨rfl, eT, hc, hs⟩)
  dsimp only [Pt.U, Pt.locs, Pt.cells, Pt.slots] at X' l' y' z' st hQ
  subst l' y' z'
  exact Rt.go (fun _ q => st.trans q) (hh v T' _ Lc ⟨_, X', Fr.app N (hF _ _ _ hQ), rfl⟩ hQ)
/-- a private instance method by its contract -/
theorem Rt.initO (X : Sd p l e R s m args below meth c T n0 cells slots h0) (hx : p.tables.exec = Jvm.exec) {Z : State} {a0 : Array Value} (hZ : Z.Warmed39 s.vm) {own : String} {index : Nat} (hown : s.vm.findClass own = some m.cls) (w1 : (Cond.methodLink own index Lib.objectInit).before a0 Z = true) (w2 : (Cond.instanceMethod Lib.objectInit).before a0 Z = true) (w3 : (Cond.code Lib.objectInit ⟨#[0xb1]⟩ 1 none).before a0 Z = true)
    {pc pc' W : Nat} {Ls : Array Slot} {rest : List Value} {a : Addr} (hsize : Ls.size = c.maxLocals) (hd : decode c.code pc = .ok (.invokespecial index, 3)) (hf : 1 ≤ R.frames) (hW : (rest.map fun v => v.category).sum ≤ W) (hl : W + 12 ≤ R.locals) (hp : pc + 3 = pc')
    (hh : ∀ T', Sd p l e R s m args below meth c T' n0 cells slots h0 → Rt p e below s k n P (T'.setTop (mkF m pc' Ls rest))) : Rt p e below s k n P (T.setTop (mkF m pc Ls (.ref a :: rest))) := by
  subst hp
  obtain ⟨locs, X, N, eT⟩ := X
  obtain ⟨T', X', e', st⟩ := Jvm.RoadKit.initO X hx hZ hown w1 w2 w3 eT (g := mkF m pc Ls (.ref a :: rest)) rfl hsize rfl hd hf (W := W) (by show 2 * 0 + _ ≤ _; omega) hl
  exact Rt.go st (hh T' ⟨_, X', N, e'⟩)
theorem Rt.getS (X : Sd p l e R s m args below meth c T n0 cells slots h0) (hx : p.tables.exec = Jvm.exec) {Z : State} {a0 : Array Value} (hZ : Z.Warmed39 s.vm) {own K f d host : String} {index : Nat} (hown : s.vm.findClass own = some m.cls) (w : (Cond.fieldLink own index K f d).before a0 Z = true ∨ (Cond.fieldLinkNest own index K f d host).before a0 Z = true) {v : Value} (F : Sta Z h0 K f d v) {pc pc' : Nat} {Ls : Array Slot} {S : List Value} (hd : decode c.code pc = .ok (.getstatic index, 3)) (hp : pc + 3 = pc')
    (hh : ∀ T', Sd p l e R s m args below meth c T' n0 cells slots h0 → Rt p e below s k n P (T'.setTop (mkF m pc' Ls (v :: S)))) : Rt p e below s k n P (T.setTop (mkF m pc Ls S)) := by
  subst hp
  obtain ⟨locs, X, N, eT⟩ := X
  obtain ⟨T', X', e', st⟩ := getS2 X hx hZ hown (host := host) w Via.refl eT F (g := mkF m pc Ls S) rfl hd
  exact Rt.go st (hh T' ⟨_, X', N, e'⟩)
theorem Rt.putF (X : Sd p l e R s m args below meth c T n0 cells slots h0) (hx : p.tables.exec = Jvm.exec) {Z : State} {a0 : Array Value} (hZ : Z.Warmed39 s.vm) {own K f d C' host : String} {index kk : Nat} {ty : FieldType} (hown : s.vm.findClass own = some m.cls) (w : (Cond.fieldLink own index K f d).before a0 Z = true ∨ (Cond.fieldLinkNest own index K f d host).before a0 Z = true) {v old : Value} {a : Addr} (F : Fld Z h0 a K f d old) (E : Exa Z h0 a C') (L : (Cond.lays C' K f d).before a0 Z = true ∨ ((Cond.laysFinal C' K f d).before a0 Z = true ∧ own = K ∧ meth.name = "<init>")) (wi : (Cond.instantiable C' kk).before a0 Z = true) (hty : parseFieldDescriptor d = some ty) (hn : narrow ty v = v) (hf : fits ty v = true) (ga : n0 ≤ a) {pc pc' : Nat} {Ls : Array Slot} {S : List Value} (hd : decode c.code pc = .ok (.putfield index, 3)) (hp : pc + 3 = pc')
    (hh : ∀ T' h', Sd p l e R s m args below meth c T' n0 cells slots h' → Wr h0 h' a (Jvm.RoadKit.slotOf Z K f d) v → Fld Z h' a K f d v → Rt p e below s k n P (T'.setTop (mkF m pc' Ls S))) : Rt p e below s k n P (T.setTop (mkF m pc Ls (v :: .ref a :: S))) := by
  subst hp
  obtain ⟨locs, X, N, eT⟩ := X
  obtain ⟨T', h', X', e', W', st⟩ := Jvm.RoadKit.putF X hx hZ hown (host := host) w Via.refl eT F E L wi hty hn hf (g := mkF m pc Ls (v :: .ref a :: S)) rfl rfl hd
  exact Rt.go st (hh T' h' ⟨_, X', Fr.snoc X' N ga, e'⟩ W' (F.same W'))
theorem Rt.newO (X : Sd p l e R s m args below meth c T n0 cells slots h0) (hx : p.tables.exec = Jvm.exec) {Z : State} {a0 : Array Value} (hZ : Z.Warmed39 s.vm) {own K : String} {index nf : Nat} (hown : s.vm.findClass own = some m.cls) (w : (Cond.classLink own index K).before a0 Z = true) (wi : (Cond.instantiable K nf).before a0 Z = true) (wz : (Cond.initialized K).before a0 Z = true) {pc pc' : Nat} {Ls : Array Slot} {S : List Value} (hd : decode c.code pc = .ok (.new index, 3)) (hc : cells + 1 ≤ R.cells) (hl : slots + nf ≤ R.slots) (hp : pc + 3 = pc')
    (hh : ∀ T' h' a, a = h0.size → Sd p l e R s m args below meth c T' n0 (cells + 1) (slots + nf) h' → Ext h0 h' → Exa Z h' a K → (∀ {O nm d : String} {ty : FieldType}, Laid Z a0 K O nm d → parseFieldDescriptor d = some ty → Fld Z h' a O nm d (defaultValue ty)) → Rt p e below s k n P (T'.setTop (mkF m pc' Ls (.ref a :: S)))) : Rt p e below s k n P (T.setTop (mkF m pc Ls S)) := by
  subst hp
  obtain ⟨locs, X, N, eT⟩ := X
  obtain ⟨T', h', X', e', E', A', D', -, st⟩ := Jvm.RoadKit.newO X hx hZ hown w wi wz eT (g := mkF m pc Ls S) rfl hd hc hl
  exact Rt.go st (hh T' h' _ rfl ⟨_, X', N, e'⟩ E' A' D')
theorem staK {Z : State} {h h' : Heap} {K f d : String} {v : Value} (F : Sta Z h K f d v) (Kp : Keep h h' []) : Sta Z h' K f d v := by
  obtain ⟨cf, i, k, f, st, cell, h1, h2, h3, h4, h5, r⟩ := F; exact ⟨cf, i, k, f, st, cell, h1, h2, h3, h4, Kp.2.1 _ _ h5 nin0, r⟩
/-- an array of values -/
def IA (Z : State) (h : Heap) (a : Addr) (ty : FieldType) (vs : List Value) : Prop := ∃ cl : Cell, Arr Z h a cl ty ∧ cl.slots = vs.toArray ∧ vs.length < 2 ^ 31
section Arrays
variable {Z : State} {h h' : Heap} {a b : Addr} {ty : FieldType} {vs : List Value}
theorem IA.lt (F : IA Z h a ty vs) : a < h.size := by obtain ⟨_, A, -⟩ := F; exact A.lt
theorem IA.ext (F : IA Z h a ty vs) (E : Ext h h') : IA Z h' a ty vs := by obtain ⟨c, A, r⟩ := F; exact ⟨c, A.ext E, r⟩
theorem IA.other {sl : Nat} {v : Value} (F : IA Z h a ty vs) (W : Wr h h' b sl v) (q : a ≠ b) : IA Z h' a ty vs := by obtain ⟨c, A, r⟩ := F; exact ⟨c, A.other W q, r⟩
theorem IA.keep {ws : List Addr} (F : IA Z h a ty vs) (K : Keep h h' ws) (q : a ∉ ws) : IA Z h' a ty vs := by obtain ⟨c, A, r⟩ := F; exact ⟨c, ⟨K.2.1 a c A.1 q, A.2⟩, r⟩
theorem IA.set {i : Nat} {v : Value} (F : IA Z h a ty vs) (W : Wr h h' a i v) : IA Z h' a ty (vs.set i v) := by
  obtain ⟨c, A, r, q⟩ := F
  refine ⟨_, A.same W, ?_, by rw [List.length_set]; exact q⟩
  show (c.slots.setIfInBounds i v) = _
  rw [r]; simp
theorem IA.new {k : ClassId} {z : Int32} {i : Nat} (A : Arr Z h a (newA k ty z) ty) (hz : z.toNatClampNeg = i) : IA Z h a ty (List.replicate i (defaultValue ty)) := by
  refine ⟨_, A, ?_, ?_⟩
  · show Array.replicate _ _ = _
    rw [hz]; simp
  · rw [List.length_replicate, ← hz]
    have := z.toInt_lt
    simp only [Int32.toNatClampNeg]; omega
theorem inA {cl : Cell} {j : Int32} {i : Nat} (r : cl.slots = vs.toArray) (hj : ¬ j < 0) (hi : j.toNatClampNeg = i) (hv : i < vs.length) : ¬ (j < 0 ∨ cl.slots.size ≤ j.toNatClampNeg) := by
  rintro (q | q)
  · exact hj q
  · rw [r, hi] at q; simp at q; omega
end Arrays
theorem Rt.newP (X : Sd p l e R s m args below meth c T n0 cells slots h0) (hx : p.tables.exec = Jvm.exec) {Z : State} {a0 : Array Value} (hZ : Z.Warmed39 s.vm) {aty : ArrayType} {ty : FieldType} (hty : newarray.typeOf aty = ty) (w : (Cond.arrayClass ty).before a0 Z = true) {z : Int32} {i : Nat} (hz : z.toNatClampNeg = i) (hn : ¬ z < 0) {cap : Nat} (hcap : i ≤ cap) (hb : cap * 8 ≤ 536870912) {pc pc' : Nat} {Ls : Array Slot} {S : List Value} (hd : decode c.code pc = .ok (.newarray aty, 2)) (hc : cells + 1 ≤ R.cells) (hl : slots + cap ≤ R.slots) (hp : pc + 2 = pc')
    (hh : ∀ T' h' a, a = h0.size → Sd p l e R s m args below meth c T' n0 (cells + 1) (slots + cap) h' → Ext h0 h' → IA Z h' a ty (List.replicate i (defaultValue ty)) → Rt p e below s k n P (T'.setTop (mkF m pc' Ls (.ref a :: S)))) : Rt p e below s k n P (T.setTop (mkF m pc Ls (.int z :: S))) := by
  subst hp hty
  obtain ⟨locs, X, N, eT⟩ := X
  obtain ⟨T', h', cA, X', e', E', A', st⟩ := Jvm.RoadKit.newP X hx hZ w eT (g := mkF m pc Ls (.int z :: S)) rfl hd rfl hn (cap := cap) (by rw [hz]; exact hcap) hb hc hl
  exact Rt.go st (hh T' h' _ rfl ⟨_, X', N, e'⟩ E' (IA.new A' hz))
theorem Rt.arraylength (X : Sd p l e R s m args below meth c T n0 cells slots h0) (hx : p.tables.exec = Jvm.exec) {Z : State} (hZ : Z.Warmed39 s.vm) {ty : FieldType} {a : Addr} {vs : List Value} (F : IA Z h0 a ty vs) {v : Int32} (hv : vs.length.toInt32 = v) {pc pc' : Nat} {Ls : Array Slot} {S : List Value} (hd : decode c.code pc = .ok (.arraylength, 1)) (hp : pc + 1 = pc')
    (h : Rt p e below s k n P (T.setTop (mkF m pc' Ls (.int v :: S)))) : Rt p e below s k n P (T.setTop (mkF m pc Ls (.ref a :: S))) := by
  subst hp hv
  obtain ⟨locs, X, N, eT⟩ := X
  obtain ⟨cl, A, r, q⟩ := F
  have e1 : vs.length = cl.slots.size := by rw [r]; simp
  rw [e1] at h
  exact Rt.go (X.arraylength hx (by rw [eT]; exact A.1) (State.isArrayOf_alike hZ.alike A.2.1) (g := mkF m pc Ls (.ref a :: S)) rfl rfl hd) h

theorem Rt.caload (X : Sd p l e R s m args below meth c T n0 cells slots h0) (hx : p.tables.exec = Jvm.exec) {Z : State} (hZ : Z.Warmed39 s.vm) {a : Addr} {vs : List Value} (F : IA Z h0 a .char vs) {j : Int32} {i : Nat} (hi : j.toNatClampNeg = i) (hj : ¬ j < 0) {v : Value} (hv : vs[i]? = some v) {pc pc' : Nat} {Ls : Array Slot} {S : List Value} (hd : decode c.code pc = .ok (.caload, 1)) (hp : pc + 1 = pc')
    (h : Rt p e below s k n P (T.setTop (mkF m pc' Ls (v :: S)))) : Rt p e below s k n P (T.setTop (mkF m pc Ls (.int j :: .ref a :: S))) := by
  subst hp
  obtain ⟨locs, X, N, eT⟩ := X
  obtain ⟨cl, A, r, q⟩ := F
  exact Rt.go (X.caload hx (j := j) (v := v) (by rw [eT]; exact A.1) (State.isArrayOf_alike hZ.alike A.2.1) A.2.2 (inA r hj hi (List.getElem?_eq_some_iff.mp hv).1) (by rw [r, hi]; simpa using hv) (g := mkF m pc Ls (.int j :: .ref a :: S)) rfl rfl hd) h
theorem Rt.bastore (X : Sd p l e R s m args below meth c T n0 cells slots h0) (hx : p.tables.exec = Jvm.exec) {Z : State} (hZ : Z.Warmed39 s.vm) {a : Addr} {vs : List Value} (F : IA Z h0 a .byte vs) {j : Int32} {i : Nat} (hi : j.toNatClampNeg = i) (hj : ¬ j < 0) (hv : i < vs.length) {x : Int32} {w : Value} (hw : .int (nar .byte x) = w) (ga : n0 ≤ a) {pc pc' : Nat} {Ls : Array Slot} {S : List Value} (hd : decode c.code pc = .ok (.bastore, 1)) (hp : pc + 1 = pc')
    (hh : ∀ T' h', Sd p l e R s m args below meth c T' n0 cells slots h' → Wr h0 h' a i w → IA Z h' a .byte (vs.set i w) → Rt p e below s k n P (T'.setTop (mkF m pc' Ls S))) : Rt p e below s k n P (T.setTop (mkF m pc Ls (.int x :: .int j :: .ref a :: S))) := by
  subst hp hw
  obtain ⟨locs, X, N, eT⟩ := X
  obtain ⟨cl, A, r, q⟩ := id F
  obtain ⟨T', h', X', e', W', st⟩ := stB X hx hZ eT A (j := j) (inA r hj hi hv) (g := mkF m pc Ls (.int x :: .int j :: .ref a :: S)) rfl rfl hd
  rw [hi] at W'
  exact Rt.go st (hh T' h' ⟨_, X', Fr.snoc X' N ga, e'⟩ W' (F.set W'))
theorem Rt.castore (X : Sd p l e R s m args below meth c T n0 cells slots h0) (hx : p.tables.exec = Jvm.exec) {Z : State} (hZ : Z.Warmed39 s.vm) {a : Addr} {vs : List Value} (F : IA Z h0 a .char vs) {j : Int32} {i : Nat} (hi : j.toNatClampNeg = i) (hj : ¬ j < 0) (hv : i < vs.length) {x : Int32} {w : Value} (hw : .int (nar .char x) = w) (ga : n0 ≤ a) {pc pc' : Nat} {Ls : Array Slot} {S : List Value} (hd : decode c.code pc = .ok (.castore, 1)) (hp : pc + 1 = pc')
    (hh : ∀ T' h', Sd p l e R s m args below meth c T' n0 cells slots h' → Wr h0 h' a i w → IA Z h' a .char (vs.set i w) → Rt p e below s k n P (T'.setTop (mkF m pc' Ls S))) : Rt p e below s k n P (T.setTop (mkF m pc Ls (.int x :: .int j :: .ref a :: S))) := by
  subst hp hw
  obtain ⟨locs, X, N, eT⟩ := X
  obtain ⟨cl, A, r, q⟩ := id F
  obtain ⟨T', h', X', e', W', st⟩ := stC X hx hZ eT A (j := j) (inA r hj hi hv) (g := mkF m pc Ls (.int x :: .int j :: .ref a :: S)) rfl rfl hd
  rw [hi] at W'
  exact Rt.go st (hh T' h' ⟨_, X', Fr.snoc X' N ga, e'⟩ W' (F.set W'))
/-- an array of so many elements -/
def IL (Z : State) (h : Heap) (a : Addr) (ty : FieldType) (N : Nat) : Prop := ∃ vs, IA Z h a ty vs ∧ vs.length = N
section Arrays
variable {Z : State} {h h' : Heap} {a b : Addr} {ty : FieldType} {N : Nat}
theorem IL.lt (F : IL Z h a ty N) : a < h.size := by obtain ⟨_, A, -⟩ := F; exact A.lt
theorem IL.ext (F : IL Z h a ty N) (E : Ext h h') : IL Z h' a ty N := by obtain ⟨c, A, r⟩ := F; exact ⟨c, A.ext E, r⟩
theorem IL.other {sl : Nat} {v : Value} (F : IL Z h a ty N) (W : Wr h h' b sl v) (q : a ≠ b) : IL Z h' a ty N := by obtain ⟨c, A, r⟩ := F; exact ⟨c, A.other W q, r⟩
theorem IL.wr {sl : Nat} {v : Value} (F : IL Z h a ty N) (W : Wr h h' b sl v) : IL Z h' a ty N := by
  obtain ⟨vs, A, r⟩ := F
  by_cases q : a = b
  · subst q; exact ⟨_, A.set W, by rw [List.length_set]; exact r⟩
  · exact ⟨vs, A.other W q, r⟩
theorem IL.keep {ws : List Addr} (F : IL Z h a ty N) (K : Keep h h' ws) : IL Z h' a ty N := by
  obtain ⟨vs, ⟨c, ⟨A1, ⟨A2, A3⟩, A4⟩, r1, r2⟩, r⟩ := F
  obtain ⟨c', q, e1, e2, e3⟩ := K.2.2 a c A1
  refine ⟨c'.slots.toList, ⟨c', ⟨q, ⟨?_, ?_⟩, by rw [e2]; exact A4⟩, by simp, ?_⟩, ?_⟩
  · rw [e2]; exact A2
  · rw [e1]; exact A3
  · rw [Array.length_toList, e3, r1]; simpa using r2
  · rw [Array.length_toList, e3, r1]; simpa using r
end Arrays
theorem Rt.arraylengthL (X : Sd p l e R s m args below meth c T n0 cells slots h0) (hx : p.tables.exec = Jvm.exec) {Z : State} (hZ : Z.Warmed39 s.vm) {ty : FieldType} {a : Addr} {N : Nat} (F : IL Z h0 a ty N) {v : Int32} (hv : N.toInt32 = v) {pc pc' : Nat} {Ls : Array Slot} {S : List Value} (hd : decode c.code pc = .ok (.arraylength, 1)) (hp : pc + 1 = pc')
    (h : Rt p e below s k n P (T.setTop (mkF m pc' Ls (.int v :: S)))) : Rt p e below s k n P (T.setTop (mkF m pc Ls (.ref a :: S))) := by
  obtain ⟨vs, F, rfl⟩ := F
  exact Rt.arraylength X hx hZ F hv hd hp h
theorem Rt.bastoreL (X : Sd p l e R s m args below meth c T n0 cells slots h0) (hx : p.tables.exec = Jvm.exec) {Z : State} (hZ : Z.Warmed39 s.vm) {a : Addr} {N : Nat} (F : IL Z h0 a .byte N) {j : Int32} {i : Nat} (hi : j.toNatClampNeg = i) (hj : ¬ j < 0) (hv : i < N) {x : Int32} (ga : n0 ≤ a) {pc pc' : Nat} {Ls : Array Slot} {S : List Value} (hd : decode c.code pc = .ok (.bastore, 1)) (hp : pc + 1 = pc')
    (hh : ∀ T' h', Sd p l e R s m args below meth c T' n0 cells slots h' → ∀ w, Wr h0 h' a i w → IL Z h' a .byte N → Rt p e below s k n P (T'.setTop (mkF m pc' Ls S))) : Rt p e below s k n P (T.setTop (mkF m pc Ls (.int x :: .int j :: .ref a :: S))) := by
  obtain ⟨vs, F, rfl⟩ := F
  exact Rt.bastore X hx hZ F hi hj hv rfl ga hd hp fun T' h' X' W' F' => hh T' h' X' _ W' ⟨_, F', List.length_set⟩
end Own
theorem own_g {a0 : Array Value} {Z : State} (hw : ∀ d ∈ tables_1, d.before a0 Z = true) {w : Jvm.Cond} (i : Nat) (h : tables_1[i]? = some w) : w.before a0 Z = true := hw w (List.mem_of_getElem? h)
abbrev mt1 : MethodName := ⟨"java/lang/Math", "min", "(JJ)J"⟩
abbrev mt2 : MethodName := ⟨"java/lang/Math", "max", "(JJ)J"⟩
abbrev mt3 : MethodName := ⟨"java/lang/StringUTF16", "compress", "([CI[BII)I"⟩
abbrev mt4 : MethodName := ⟨"java/lang/StringUTF16", "compress", "([CII)[B"⟩
abbrev mt5 : MethodName := ⟨"java/lang/StringUTF16", "coderFromArrayLen", "([BI)B"⟩
abbrev mt6 : MethodName := ⟨"java/lang/String", "<init>", "([CIILjava/lang/Void;)V"⟩
abbrev mt7 : MethodName := ⟨"java/lang/String", "<init>", "([C)V"⟩
abbrev mt8 : MethodName := ⟨"com/example/bowerbird/bowerbird/redis/Arguments", "requireBetween", "(JJJLjava/lang/String;)V"⟩
theorem d1_0 : decode jdk_29_method_70_code 0 = .ok (.lload_n 0, 1) := by decide +kernel
theorem d1_1 : decode jdk_29_method_70_code 1 = .ok (.lload_n 2, 1) := by decide +kernel
theorem d1_2 : decode jdk_29_method_70_code 2 = .ok (.lcmp, 1) := by decide +kernel
theorem d1_3 : decode jdk_29_method_70_code 3 = .ok (.ifCond .gt 7, 3) := by decide +kernel
theorem d1_10 : decode jdk_29_method_70_code 10 = .ok (.lload_n 2, 1) := by decide +kernel
theorem d1_11 : decode jdk_29_method_70_code 11 = .ok (.lreturn, 1) := by decide +kernel
theorem d1_6 : decode jdk_29_method_70_code 6 = .ok (.lload_n 0, 1) := by decide +kernel
theorem d1_7 : decode jdk_29_method_70_code 7 = .ok (.goto 4, 3) := by decide +kernel
def f1 (q1 : Int64) (q2 : Int64) : Int64 := (if q2 < q1 then q2 else q1)
def Q1 (q1 : Int64) (q2 : Int64) (h0 : Heap) (n0 : Nat) (v : Option Value) (h : Heap) (L : List Loc) : Prop := v = some (.long (f1 q1 q2)) ∧ Fr n0 L ∧ h = h0
def rmR1 : Room := { frames := 0, cells := 0, slots := 0, locals := 0 }
theorem ef_1 (m : MethodId) (q1 : Int64) (q2 : Int64) : entryFrame m #[(.long q1), (.long q2)] 4 = mkF m 0 #[.val (.long q1), .second, .val (.long q2), .second] [] := by first | (simp [entryFrame, mkF, argsToLocals, Value.category]; done) | rfl
set_option maxRecDepth 65536 in
set_option maxHeartbeats 40000000 in
theorem rm1 (l : Launch) (Z : State) (a0 : Array Value) (hw : ∀ d ∈ tables_1, d.before a0 Z = true) (ws : List Jvm.Cond) (q1 : Int64) (q2 : Int64) (h0 : Heap) (n0 : Nat) :
    Mt l Z mt1 (Jvm.Cond.code mt1 jdk_29_method_70_code 4 (some .long) :: ws) rmR1 #[(.long q1), (.long q2)] h0 (Q1 q1 q2 h0 n0) := by
  refine Mt.of n0 (Jvm.Free.JP.mathPlain rfl (by decide +kernel)) ?_
  intro p e s m below meth c T0 X0 hx hZ hby hml hown hret hlk hnm hs0
  have hown : s.vm.findClass "java/lang/Math" = some m.cls := hown
  rw [ef_1]
  show Rt p e below s rmR1.cells rmR1.slots (Q1 q1 q2 h0 n0) (T0.setTop (mkF m 0 #[.val (.long q1), .second, .val (.long q2), .second] []))
  refine Rt.lloadN (pc' := 1) X0 hx (hb hby d1_0) rfl rfl ?_
  refine Rt.lloadN (pc' := 2) X0 hx (hb hby d1_1) rfl rfl ?_
  refine Rt.lcmp (pc' := 3) X0 hx (hb hby d1_2) rfl ?_
  by_cases hc3_1 : q2 < q1
  · refine Rt.ifY (pc' := 10) X0 hx (hb hby d1_3) (gtl hc3_1).1 (by decide) (by decide) ?_
    refine Rt.lloadN (pc' := 11) X0 hx (hb hby d1_10) rfl rfl ?_
    exact Rt.retJ X0 hx hlk hret (hb hby d1_11) (by decide) (by decide) (fun L N => ⟨congrArg some (congrArg Value.long (by rw [f1, if_pos hc3_1])), N, rfl⟩)
  · refine Rt.ifN (pc' := 6) X0 hx (hb hby d1_3) (gfl hc3_1).1 rfl ?_
    refine Rt.lloadN (pc' := 7) X0 hx (hb hby d1_6) rfl rfl ?_
    refine Rt.goto (pc' := 11) X0 hx (hb hby d1_7) (by decide) (by decide) ?_
    exact Rt.retJ X0 hx hlk hret (hb hby d1_11) (by decide) (by decide) (fun L N => ⟨congrArg some (congrArg Value.long (by rw [f1, if_neg hc3_1])), N, rfl⟩)
theorem d2_0 : decode jdk_29_method_66_code 0 = .ok (.lload_n 0, 1) := by decide +kernel
theorem d2_1 : decode jdk_29_method_66_code 1 = .ok (.lload_n 2, 1) := by decide +kernel
theorem d2_2 : decode jdk_29_method_66_code 2 = .ok (.lcmp, 1) := by decide +kernel
theorem d2_3 : decode jdk_29_method_66_code 3 = .ok (.ifCond .lt 7, 3) := by decide +kernel
theorem d2_10 : decode jdk_29_method_66_code 10 = .ok (.lload_n 2, 1) := by decide +kernel
theorem d2_11 : decode jdk_29_method_66_code 11 = .ok (.lreturn, 1) := by decide +kernel
theorem d2_6 : decode jdk_29_method_66_code 6 = .ok (.lload_n 0, 1) := by decide +kernel
theorem d2_7 : decode jdk_29_method_66_code 7 = .ok (.goto 4, 3) := by decide +kernel
def f2 (q1 : Int64) (q2 : Int64) : Int64 := (if q1 < q2 then q2 else q1)
def Q2 (q1 : Int64) (q2 : Int64) (h0 : Heap) (n0 : Nat) (v : Option Value) (h : Heap) (L : List Loc) : Prop := v = some (.long (f2 q1 q2)) ∧ Fr n0 L ∧ h = h0
def rmR2 : Room := { frames := 0, cells := 0, slots := 0, locals := 0 }
theorem ef_2 (m : MethodId) (q1 : Int64) (q2 : Int64) : entryFrame m #[(.long q1), (.long q2)] 4 = mkF m 0 #[.val (.long q1), .second, .val (.long q2), .second] [] := by first | (simp [entryFrame, mkF, argsToLocals, Value.category]; done) | rfl
set_option maxRecDepth 65536 in
set_option maxHeartbeats 40000000 in
theorem rm2 (l : Launch) (Z : State) (a0 : Array Value) (hw : ∀ d ∈ tables_1, d.before a0 Z = true) (ws : List Jvm.Cond) (q1 : Int64) (q2 : Int64) (h0 : Heap) (n0 : Nat) :
    Mt l Z mt2 (Jvm.Cond.code mt2 jdk_29_method_66_code 4 (some .long) :: ws) rmR2 #[(.long q1), (.long q2)] h0 (Q2 q1 q2 h0 n0) := by
  refine Mt.of n0 (Jvm.Free.JP.mathPlain rfl (by decide +kernel)) ?_
  intro p e s m below meth c T0 X0 hx hZ hby hml hown hret hlk hnm hs0
  have hown : s.vm.findClass "java/lang/Math" = some m.cls := hown
  rw [ef_2]
  show Rt p e below s rmR2.cells rmR2.slots (Q2 q1 q2 h0 n0) (T0.setTop (mkF m 0 #[.val (.long q1), .second, .val (.long q2), .second] []))
  refine Rt.lloadN (pc' := 1) X0 hx (hb hby d2_0) rfl rfl ?_
  refine Rt.lloadN (pc' := 2) X0 hx (hb hby d2_1) rfl rfl ?_
  refine Rt.lcmp (pc' := 3) X0 hx (hb hby d2_2) rfl ?_
  by_cases hc3_1 : q1 < q2
  · refine Rt.ifY (pc' := 10) X0 hx (hb hby d2_3) (ltl hc3_1).1 (by decide) (by decide) ?_
    refine Rt.lloadN (pc' := 11) X0 hx (hb hby d2_10) rfl rfl ?_
    exact Rt.retJ X0 hx hlk hret (hb hby d2_11) (by decide) (by decide) (fun L N => ⟨congrArg some (congrArg Value.long (by rw [f2, if_pos hc3_1])), N, rfl⟩)
  · refine Rt.ifN (pc' := 6) X0 hx (hb hby d2_3) (lfl hc3_1).1 rfl ?_
    refine Rt.lloadN (pc' := 7) X0 hx (hb hby d2_6) rfl rfl ?_
    refine Rt.goto (pc' := 11) X0 hx (hb hby d2_7) (by decide) (by decide) ?_
    exact Rt.retJ X0 hx hlk hret (hb hby d2_11) (by decide) (by decide) (fun L N => ⟨congrArg some (congrArg Value.long (by rw [f2, if_neg hc3_1])), N, rfl⟩)
theorem d7_0 : decode jdk_52_method_21_code 0 = .ok (.iconst 0, 1) := by decide +kernel
theorem d7_1 : decode jdk_52_method_21_code 1 = .ok (.istore 5, 2) := by decide +kernel
theorem d7_3 : decode jdk_52_method_21_code 3 = .ok (.iload 5, 2) := by decide +kernel
theorem d7_5 : decode jdk_52_method_21_code 5 = .ok (.iload 4, 2) := by decide +kernel
theorem d7_7 : decode jdk_52_method_21_code 7 = .ok (.if_icmp .ge 37, 3) := by decide +kernel
theorem d7_10 : decode jdk_52_method_21_code 10 = .ok (.aload_n 0, 1) := by decide +kernel
theorem d7_11 : decode jdk_52_method_21_code 11 = .ok (.iload_n 1, 1) := by decide +kernel
theorem d7_12 : decode jdk_52_method_21_code 12 = .ok (.caload, 1) := by decide +kernel
theorem d7_13 : decode jdk_52_method_21_code 13 = .ok (.istore 6, 2) := by decide +kernel
theorem d7_15 : decode jdk_52_method_21_code 15 = .ok (.iload 6, 2) := by decide +kernel
theorem d7_17 : decode jdk_52_method_21_code 17 = .ok (.sipush 255, 3) := by decide +kernel
theorem d7_20 : decode jdk_52_method_21_code 20 = .ok (.if_icmp .le 6, 3) := by decide +kernel
theorem d7_26 : decode jdk_52_method_21_code 26 = .ok (.aload_n 2, 1) := by decide +kernel
theorem d7_27 : decode jdk_52_method_21_code 27 = .ok (.iload_n 3, 1) := by decide +kernel
theorem d7_28 : decode jdk_52_method_21_code 28 = .ok (.iload 6, 2) := by decide +kernel
theorem d7_30 : decode jdk_52_method_21_code 30 = .ok (.i2b, 1) := by decide +kernel
theorem d7_31 : decode jdk_52_method_21_code 31 = .ok (.bastore, 1) := by decide +kernel
theorem d7_32 : decode jdk_52_method_21_code 32 = .ok (.iinc 1 1, 3) := by decide +kernel
theorem d7_35 : decode jdk_52_method_21_code 35 = .ok (.iinc 3 1, 3) := by decide +kernel
theorem d7_38 : decode jdk_52_method_21_code 38 = .ok (.iinc 5 1, 3) := by decide +kernel
theorem d7_41 : decode jdk_52_method_21_code 41 = .ok (.goto (-38), 3) := by decide +kernel
theorem d7_44 : decode jdk_52_method_21_code 44 = .ok (.iload 4, 2) := by decide +kernel
theorem d7_46 : decode jdk_52_method_21_code 46 = .ok (.ireturn, 1) := by decide +kernel
def Q7 (Z : State) (a1 : Addr) (a3 : Addr) (x0 : Int32) (x1 : Int32) (h0 : Heap) (n0 : Nat) (v : Option Value) (h : Heap) (L : List Loc) : Prop := v = some (.int (2 : Int32)) ∧ Fr n0 L ∧ Keep h0 h [a3] ∧ IL Z h a3 .byte 2
def rmR7 : Room := { frames := 0, cells := 0, slots := 0, locals := 0 }
theorem ef_7 (m : MethodId) (a1 : Addr) (a3 : Addr) : entryFrame m #[(.ref a1), (.int (0 : Int32)), (.ref a3), (.int (0 : Int32)), (.int (2 : Int32))] 7 = mkF m 0 #[.val (.ref a1), .val (.int (0 : Int32)), .val (.ref a3), .val (.int (0 : Int32)), .val (.int (2 : Int32)), .unset, .unset] [] := by first | (simp [entryFrame, mkF, argsToLocals, Value.category]; done) | rfl
theorem pn_java_lang_StringUTF16 : plainName "java/lang/StringUTF16" = true := by first | (simp [plainName, overriddenIn]; done) | decide +kernel
set_option maxRecDepth 65536 in
set_option maxHeartbeats 40000000 in
theorem rm7 (l : Launch) (Z : State) (a0 : Array Value) (hw : ∀ d ∈ tables_1, d.before a0 Z = true) (ws : List Jvm.Cond) (a1 : Addr) (a3 : Addr) (x0 : Int32) (x1 : Int32) (h0 : Heap) (n0 : Nat) (Z0 : n0 ≤ h0.size) (F_A_a1 : IA Z h0 a1 .char [(.int x0), (.int x1)]) (F_N_a3 : IL Z h0 a3 .byte 2) (c_0 : ¬ (255 : Int32) < x0) (c_1 : ¬ (255 : Int32) < x1) (g_a3 : n0 ≤ a3) (ne_a1_a3 : a1 ≠ a3) :
    Mt l Z mt3 (Jvm.Cond.code mt3 jdk_52_method_21_code 7 (some .int) :: ws) rmR7 #[(.ref a1), (.int (0 : Int32)), (.ref a3), (.int (0 : Int32)), (.int (2 : Int32))] h0 (Q7 Z a1 a3 x0 x1 h0 n0) := by
  refine Mt.of n0 (plainFor_of_name pn_java_lang_StringUTF16) ?_
  intro p e s m below meth c T0 X0 hx hZ hby hml hown hret hlk hnm hs0
  have hown : s.vm.findClass "java/lang/StringUTF16" = some m.cls := hown
  rw [ef_7]
  show Rt p e below s rmR7.cells rmR7.slots (Q7 Z a1 a3 x0 x1 h0 n0) (T0.setTop (mkF m 0 #[.val (.ref a1), .val (.int (0 : Int32)), .val (.ref a3), .val (.int (0 : Int32)), .val (.int (2 : Int32)), .unset, .unset] []))
  refine Rt.iconst (pc' := 1) (v := (0 : Int32)) X0 hx (hb hby d7_0) rfl rfl ?_
  refine Rt.istore (pc' := 3) (v := (0 : Int32)) (l' := #[.val (.ref a1), .val (.int (0 : Int32)), .val (.ref a3), .val (.int (0 : Int32)), .val (.int (2 : Int32)), .val (.int (0 : Int32)), .unset]) X0 hx (hb hby d7_1) rfl rfl ?_
  refine Rt.iload (pc' := 5) X0 hx (hb hby d7_3) rfl rfl ?_
  refine Rt.iload (pc' := 7) X0 hx (hb hby d7_5) rfl rfl ?_
  refine Rt.icmpN (pc' := 10) X0 hx (hb hby d7_7) (tlt (by decide : (0 : Int32) < (2 : Int32))).2.1 rfl ?_
  refine Rt.aloadN (pc' := 11) X0 hx (hb hby d7_10) rfl rfl rfl ?_
  refine Rt.iloadN (pc' := 12) X0 hx (hb hby d7_11) rfl rfl ?_
  refine Rt.caload (pc' := 13) X0 hx hZ F_A_a1 (i := 0) (by decide) (by decide) (v := (.int x0)) rfl (hb hby d7_12) rfl ?_
  refine Rt.istore (pc' := 15) (v := x0) (l' := #[.val (.ref a1), .val (.int (0 : Int32)), .val (.ref a3), .val (.int (0 : Int32)), .val (.int (2 : Int32)), .val (.int (0 : Int32)), .val (.int x0)]) X0 hx (hb hby d7_13) rfl rfl ?_
  refine Rt.iload (pc' := 17) X0 hx (hb hby d7_15) rfl rfl ?_
  refine Rt.sipush (pc' := 20) (v := (255 : Int32)) X0 hx (hb hby d7_17) rfl rfl ?_
  refine Rt.icmpY (pc' := 26) X0 hx (hb hby d7_20) (flt c_0).2.2.2 (by decide) (by decide) ?_
  refine Rt.aloadN (pc' := 27) X0 hx (hb hby d7_26) rfl rfl rfl ?_
  refine Rt.iloadN (pc' := 28) X0 hx (hb hby d7_27) rfl rfl ?_
  refine Rt.iload (pc' := 30) X0 hx (hb hby d7_28) rfl rfl ?_
  refine Rt.i2b (pc' := 31) (r := (x0.toInt8.toInt32)) X0 hx (hb hby d7_30) rfl rfl ?_
  refine Rt.bastoreL (pc' := 32) X0 hx hZ F_N_a3 (i := 0) (by decide) (by decide) (by decide) g_a3 (hb hby d7_31) rfl ?_
  intro T1 h1 X1 v1 W1 F1
  have F2 := F_A_a1.other W1 ne_a1_a3
  have K3 := (Keep.refl h0 [a3]).wr W1 (Or.inl (List.mem_of_getElem? (i := 0) rfl))
  have Z4 := Nat.le_trans Z0 (Keep.of_wr W1).1
  refine Rt.iinc (pc' := 35) (r := (1 : Int32)) (l' := #[.val (.ref a1), .val (.int (1 : Int32)), .val (.ref a3), .val (.int (0 : Int32)), .val (.int (2 : Int32)), .val (.int (0 : Int32)), .val (.int x0)]) X1 hx (hb hby d7_32) rfl (by decide) rfl rfl ?_
  refine Rt.iinc (pc' := 38) (r := (1 : Int32)) (l' := #[.val (.ref a1), .val (.int (1 : Int32)), .val (.ref a3), .val (.int (1 : Int32)), .val (.int (2 : Int32)), .val (.int (0 : Int32)), .val (.int x0)]) X1 hx (hb hby d7_35) rfl (by decide) rfl rfl ?_
  refine Rt.iinc (pc' := 41) (r := (1 : Int32)) (l' := #[.val (.ref a1), .val (.int (1 : Int32)), .val (.ref a3), .val (.int (1 : Int32)), .val (.int (2 : Int32)), .val (.int (1 : Int32)), .val (.int x0)]) X1 hx (hb hby d7_38) rfl (by decide) rfl rfl ?_
  refine Rt.goto (pc' := 3) X1 hx (hb hby d7_41) (by decide) (by decide) ?_
  refine Rt.iload (pc' := 5) X1 hx (hb hby d7_3) rfl rfl ?_
  refine Rt.iload (pc' := 7) X1 hx (hb hby d7_5) rfl rfl ?_
  refine Rt.icmpN (pc' := 10) X1 hx (hb hby d7_7) (tlt (by decide : (1 : Int32) < (2 : Int32))).2.1 rfl ?_
  refine Rt.aloadN (pc' := 11) X1 hx (hb hby d7_10) rfl rfl rfl ?_
  refine Rt.iloadN (pc' := 12) X1 hx (hb hby d7_11) rfl rfl ?_
  refine Rt.caload (pc' := 13) X1 hx hZ F2 (i := 1) (by decide) (by decide) (v := (.int x1)) rfl (hb hby d7_12) rfl ?_
  refine Rt.istore (pc' := 15) (v := x1) (l' := #[.val (.ref a1), .val (.int (1 : Int32)), .val (.ref a3), .val (.int (1 : Int32)), .val (.int (2 : Int32)), .val (.int (1 : Int32)), .val (.int x1)]) X1 hx (hb hby d7_13) rfl rfl ?_
  refine Rt.iload (pc' := 17) X1 hx (hb hby d7_15) rfl rfl ?_
  refine Rt.sipush (pc' := 20) (v := (255 : Int32)) X1 hx (hb hby d7_17) rfl rfl ?_
  refine Rt.icmpY (pc' := 26) X1 hx (hb hby d7_20) (flt c_1).2.2.2 (by decide) (by decide) ?_
  refine Rt.aloadN (pc' := 27) X1 hx (hb hby d7_26) rfl rfl rfl ?_
  refine Rt.iloadN (pc' := 28) X1 hx (hb hby d7_27) rfl rfl ?_
  refine Rt.iload (pc' := 30) X1 hx (hb hby d7_28) rfl rfl ?_
  refine Rt.i2b (pc' := 31) (r := (x1.toInt8.toInt32)) X1 hx (hb hby d7_30) rfl rfl ?_
  refine Rt.bastoreL (pc' := 32) X1 hx hZ F1 (i := 1) (by decide) (by decide) (by decide) g_a3 (hb hby d7_31) rfl ?_
  intro T5 h5 X5 v5 W5 F5
  have F6 := F2.other W5 ne_a1_a3
  have K7 := K3.wr W5 (Or.inl (List.mem_of_getElem? (i := 0) rfl))
  have Z8 := Nat.le_trans Z4 (Keep.of_wr W5).1
  refine Rt.iinc (pc' := 35) (r := (2 : Int32)) (l' := #[.val (.ref a1), .val (.int (2 : Int32)), .val (.ref a3), .val (.int (1 : Int32)), .val (.int (2 : Int32)), .val (.int (1 : Int32)), .val (.int x1)]) X5 hx (hb hby d7_32) rfl (by decide) rfl rfl ?_
  refine Rt.iinc (pc' := 38) (r := (2 : Int32)) (l' := #[.val (.ref a1), .val (.int (2 : Int32)), .val (.ref a3), .val (.int (2 : Int32)), .val (.int (2 : Int32)), .val (.int (1 : Int32)), .val (.int x1)]) X5 hx (hb hby d7_35) rfl (by decide) rfl rfl ?_
  refine Rt.iinc (pc' := 41) (r := (2 : Int32)) (l' := #[.val (.ref a1), .val (.int (2 : Int32)), .val (.ref a3), .val (.int (2 : Int32)), .val (.int (2 : Int32)), .val (.int (2 : Int32)), .val (.int x1)]) X5 hx (hb hby d7_38) rfl (by decide) rfl rfl ?_
  refine Rt.goto (pc' := 3) X5 hx (hb hby d7_41) (by decide) (by decide) ?_
  refine Rt.iload (pc' := 5) X5 hx (hb hby d7_3) rfl rfl ?_
  refine Rt.iload (pc' := 7) X5 hx (hb hby d7_5) rfl rfl ?_
  refine Rt.icmpY (pc' := 44) X5 hx (hb hby d7_7) (flt (by decide : ¬ ((2 : Int32) < (2 : Int32)))).2.1 (by decide) (by decide) ?_
  refine Rt.iload (pc' := 46) X5 hx (hb hby d7_44) rfl rfl ?_
  exact Rt.retI X5 hx hlk hret (hb hby d7_46) (by decide) (by decide) (fun L N => ⟨rfl, N, K7, F5⟩)
theorem d6_0 : decode jdk_52_method_16_code 0 = .ok (.iload_n 2, 1) := by decide +kernel
theorem d6_1 : decode jdk_52_method_16_code 1 = .ok (.newarray .byte, 2) := by decide +kernel
theorem d6_3 : decode jdk_52_method_16_code 3 = .ok (.astore_n 3, 1) := by decide +kernel
theorem d6_4 : decode jdk_52_method_16_code 4 = .ok (.aload_n 0, 1) := by decide +kernel
theorem d6_5 : decode jdk_52_method_16_code 5 = .ok (.iload_n 1, 1) := by decide +kernel
theorem d6_6 : decode jdk_52_method_16_code 6 = .ok (.aload_n 3, 1) := by decide +kernel
theorem d6_7 : decode jdk_52_method_16_code 7 = .ok (.iconst 0, 1) := by decide +kernel
theorem d6_8 : decode jdk_52_method_16_code 8 = .ok (.iload_n 2, 1) := by decide +kernel
theorem pd_0 : parseMethodDescriptor "([CI[BII)I" = some ⟨[(.array .char), .int, (.array .byte), .int, .int], some .int⟩ := by decide +kernel
theorem d6_9 : decode jdk_52_method_16_code 9 = .ok (.invokestatic 115, 3) := by decide +kernel
theorem d6_12 : decode jdk_52_method_16_code 12 = .ok (.istore 4, 2) := by decide +kernel
theorem d6_14 : decode jdk_52_method_16_code 14 = .ok (.iload 4, 2) := by decide +kernel
theorem d6_16 : decode jdk_52_method_16_code 16 = .ok (.iload_n 2, 1) := by decide +kernel
theorem d6_17 : decode jdk_52_method_16_code 17 = .ok (.if_icmp .eq 40, 3) := by decide +kernel
theorem d6_57 : decode jdk_52_method_16_code 57 = .ok (.aload_n 3, 1) := by decide +kernel
theorem d6_58 : decode jdk_52_method_16_code 58 = .ok (.areturn, 1) := by decide +kernel
def Q6 (Z : State) (a1 : Addr) (x0 : Int32) (x1 : Int32) (h0 : Heap) (n0 : Nat) (v : Option Value) (h : Heap) (L : List Loc) : Prop := ∃ nw : Addr, h0.size ≤ nw ∧ v = some (.ref nw) ∧ Fr n0 L ∧ Keep h0 h [] ∧ IL Z h nw .byte 2
def rmR6 : Room := { frames := 1, cells := 1, slots := 2, locals := 18 }
theorem ef_6 (m : MethodId) (a1 : Addr) : entryFrame m #[(.ref a1), (.int (0 : Int32)), (.int (2 : Int32))] 6 = mkF m 0 #[.val (.ref a1), .val (.int (0 : Int32)), .val (.int (2 : Int32)), .unset, .unset, .unset] [] := by first | (simp [entryFrame, mkF, argsToLocals, Value.category]; done) | rfl
set_option maxRecDepth 65536 in
set_option maxHeartbeats 40000000 in
theorem rm6 (l : Launch) (Z : State) (a0 : Array Value) (hw : ∀ d ∈ tables_1, d.before a0 Z = true) (ws : List Jvm.Cond) (a1 : Addr) (x0 : Int32) (x1 : Int32) (h0 : Heap) (n0 : Nat) (Z0 : n0 ≤ h0.size) (F_A_a1 : IA Z h0 a1 .char [(.int x0), (.int x1)]) (c_0 : ¬ (255 : Int32) < x0) (c_1 : ¬ (255 : Int32) < x1) :
    Mt l Z mt4 (Jvm.Cond.code mt4 jdk_52_method_16_code 6 (some (.array .byte)) :: ws) rmR6 #[(.ref a1), (.int (0 : Int32)), (.int (2 : Int32))] h0 (Q6 Z a1 x0 x1 h0 n0) := by
  refine Mt.of n0 (plainFor_of_name pn_java_lang_StringUTF16) ?_
  intro p e s m below meth c T0 X0 hx hZ hby hml hown hret hlk hnm hs0
  have hown : s.vm.findClass "java/lang/StringUTF16" = some m.cls := hown
  rw [ef_6]
  show Rt p e below s rmR6.cells rmR6.slots (Q6 Z a1 x0 x1 h0 n0) (T0.setTop (mkF m 0 #[.val (.ref a1), .val (.int (0 : Int32)), .val (.int (2 : Int32)), .unset, .unset, .unset] []))
  refine Rt.iloadN (pc' := 1) X0 hx (hb hby d6_0) rfl rfl ?_
  refine Rt.newP (pc' := 3) X0 hx hZ (ty := .byte) rfl (own_g hw 26 rfl) (z := (2 : Int32)) (i := 2) (by decide) (by decide) (cap := 2) (by decide) (by decide) (hb hby d6_1) (by decide) (by decide) rfl ?_
  intro T1 h1 b1 ha1 X1 E1 A1
  have g2 : n0 ≤ b1 := by rw [ha1]; exact Z0
  have s3 : h0.size ≤ b1 := by rw [ha1]; exact (Keep.refl h0 []).1
  have ne4 : a1 ≠ b1 := by rw [ha1]; exact Nat.ne_of_lt F_A_a1.lt
  have F5 := F_A_a1.ext E1
  have K6 := (Keep.refl h0 []).ext E1
  have Z7 := Nat.le_trans Z0 E1.1
  have A1 : IL Z h1 b1 .byte 2 := ⟨_, A1, rfl⟩
  refine Rt.astoreN (pc' := 4) (v := (.ref b1)) (l' := #[.val (.ref a1), .val (.int (0 : Int32)), .val (.int (2 : Int32)), .val (.ref b1), .unset, .unset]) X1 hx (hb hby d6_3) rfl rfl rfl ?_
  refine Rt.aloadN (pc' := 5) X1 hx (hb hby d6_4) rfl rfl rfl ?_
  refine Rt.iloadN (pc' := 6) X1 hx (hb hby d6_5) rfl rfl ?_
  refine Rt.aloadN (pc' := 7) X1 hx (hb hby d6_6) rfl rfl rfl ?_
  refine Rt.iconst (pc' := 8) (v := (0 : Int32)) X1 hx (hb hby d6_7) rfl rfl ?_
  refine Rt.iloadN (pc' := 9) X1 hx (hb hby d6_8) rfl rfl ?_
  refine Rt.callS (pc' := 12) X1 hx hZ (y := mt3) hown (own_g hw 27 rfl) (own_g hw 28 rfl) (own_g hw 24 rfl) (own_g hw 29 rfl) (by decide) (rm7 l Z a0 hw [] a1 b1 x0 x1 h1 n0 Z7 F5 A1 c_0 c_1 g2 ne4) (fun _ _ _ q => q.2.1) (W := 0) (by decide) (by decide) (by decide) (by decide) (argsL := [(.ref a1), (.int (0 : Int32)), (.ref b1), (.int (0 : Int32)), (.int (2 : Int32))]) (rest := []) (by rw [hml]; rfl) (lenOf pd_0 rfl) rfl rfl (Nat.le_of_eq rfl) (hb hby d6_9) rfl ?_
  rintro _ T8 h8 L8 X8 ⟨rfl, N8, K8, F9⟩
  have F10 := F5.keep K8 (ninS ne4 nin0)
  have F11 := A1.keep K8
  have K12 := K6.trans K8 (allS (Or.inr s3) all0)
  have Z13 := Nat.le_trans Z7 K8.1
  show Rt _ _ _ _ _ _ _ (T8.setTop (mkF m 12 #[.val (.ref a1), .val (.int (0 : Int32)), .val (.int (2 : Int32)), .val (.ref b1), .unset, .unset] [(.int (2 : Int32))]))
  refine Rt.istore (pc' := 14) (v := (2 : Int32)) (l' := #[.val (.ref a1), .val (.int (0 : Int32)), .val (.int (2 : Int32)), .val (.ref b1), .val (.int (2 : Int32)), .unset]) X8 hx (hb hby d6_12) rfl rfl ?_
  refine Rt.iload (pc' := 16) X8 hx (hb hby d6_14) rfl rfl ?_
  refine Rt.iloadN (pc' := 17) X8 hx (hb hby d6_16) rfl rfl ?_
  refine Rt.icmpY (pc' := 57) X8 hx (hb hby d6_17) (teq (by decide : (2 : Int32) = (2 : Int32))).1 (by decide) (by decide) ?_
  refine Rt.aloadN (pc' := 58) X8 hx (hb hby d6_57) rfl rfl rfl ?_
  exact Rt.retA X8 hx hlk (t := (.array .byte)) rfl hret rfl (hb hby d6_58) (by decide) (by decide) (fun L N => ⟨b1, s3, rfl, N, K12, F9⟩)
theorem d8_0 : decode jdk_52_method_15_code 0 = .ok (.iload_n 1, 1) := by decide +kernel
theorem d8_1 : decode jdk_52_method_15_code 1 = .ok (.aload_n 0, 1) := by decide +kernel
theorem d8_2 : decode jdk_52_method_15_code 2 = .ok (.arraylength, 1) := by decide +kernel
theorem d8_3 : decode jdk_52_method_15_code 3 = .ok (.isub, 1) := by decide +kernel
theorem d8_4 : decode jdk_52_method_15_code 4 = .ok (.bipush 31, 2) := by decide +kernel
theorem d8_6 : decode jdk_52_method_15_code 6 = .ok (.iushr, 1) := by decide +kernel
theorem d8_7 : decode jdk_52_method_15_code 7 = .ok (.i2b, 1) := by decide +kernel
theorem d8_8 : decode jdk_52_method_15_code 8 = .ok (.ireturn, 1) := by decide +kernel
def Q8 (a1 : Addr) (h0 : Heap) (n0 : Nat) (v : Option Value) (h : Heap) (L : List Loc) : Prop := v = some (.int (nar .byte (0 : Int32))) ∧ Fr n0 L ∧ h = h0
def rmR8 : Room := { frames := 0, cells := 0, slots := 0, locals := 0 }
theorem ef_8 (m : MethodId) (a1 : Addr) : entryFrame m #[(.ref a1), (.int (2 : Int32))] 2 = mkF m 0 #[.val (.ref a1), .val (.int (2 : Int32))] [] := by first | (simp [entryFrame, mkF, argsToLocals, Value.category]; done) | rfl
set_option maxRecDepth 65536 in
set_option maxHeartbeats 40000000 in
theorem rm8 (l : Launch) (Z : State) (a0 : Array Value) (hw : ∀ d ∈ tables_1, d.before a0 Z = true) (ws : List Jvm.Cond) (a1 : Addr) (h0 : Heap) (n0 : Nat) (F_N_a1 : IL Z h0 a1 .byte 2) :
    Mt l Z mt5 (Jvm.Cond.code mt5 jdk_52_method_15_code 2 (some .byte) :: ws) rmR8 #[(.ref a1), (.int (2 : Int32))] h0 (Q8 a1 h0 n0) := by
  refine Mt.of n0 (plainFor_of_name pn_java_lang_StringUTF16) ?_
  intro p e s m below meth c T0 X0 hx hZ hby hml hown hret hlk hnm hs0
  have hown : s.vm.findClass "java/lang/StringUTF16" = some m.cls := hown
  rw [ef_8]
  show Rt p e below s rmR8.cells rmR8.slots (Q8 a1 h0 n0) (T0.setTop (mkF m 0 #[.val (.ref a1), .val (.int (2 : Int32))] []))
  refine Rt.iloadN (pc' := 1) X0 hx (hb hby d8_0) rfl rfl ?_
  refine Rt.aloadN (pc' := 2) X0 hx (hb hby d8_1) rfl rfl rfl ?_
  refine Rt.arraylengthL (pc' := 3) X0 hx hZ F_N_a1 (v := (2 : Int32)) (by decide) (hb hby d8_2) rfl ?_
  refine Rt.isub (pc' := 4) (r := (0 : Int32)) X0 hx (hb hby d8_3) (by decide) rfl ?_
  refine Rt.bipush (pc' := 6) (v := (31 : Int32)) X0 hx (hb hby d8_4) rfl rfl ?_
  refine Rt.iushr (pc' := 7) (r := (0 : Int32)) X0 hx (hb hby d8_6) (by decide) rfl ?_
  refine Rt.i2b (pc' := 8) (r := (0 : Int32)) X0 hx (hb hby d8_7) (by decide) rfl ?_
  exact Rt.retZ (w := (nar .byte (0 : Int32))) X0 hx hlk hret (by simp) (hb hby d8_8) rfl (by decide) (by decide) (fun L N => ⟨rfl, N, rfl⟩)
theorem d4_0 : decode jdk_42_method_149_code 0 = .ok (.aload_n 0, 1) := by decide +kernel
theorem d4_1 : decode jdk_42_method_149_code 1 = .ok (.invokespecial 1, 3) := by decide +kernel
theorem d4_4 : decode jdk_42_method_149_code 4 = .ok (.iload_n 3, 1) := by decide +kernel
theorem d4_5 : decode jdk_42_method_149_code 5 = .ok (.ifCond .ne 22, 3) := by decide +kernel
theorem d4_27 : decode jdk_42_method_149_code 27 = .ok (.getstatic 38, 3) := by decide +kernel
theorem d4_30 : decode jdk_42_method_149_code 30 = .ok (.ifCond .eq 28, 3) := by decide +kernel
theorem d4_33 : decode jdk_42_method_149_code 33 = .ok (.aload_n 1, 1) := by decide +kernel
theorem d4_34 : decode jdk_42_method_149_code 34 = .ok (.iload_n 2, 1) := by decide +kernel
theorem d4_35 : decode jdk_42_method_149_code 35 = .ok (.iload_n 3, 1) := by decide +kernel
theorem pd_1 : parseMethodDescriptor "([CII)[B" = some ⟨[(.array .char), .int, .int], some (.array .byte)⟩ := by decide +kernel
theorem d4_36 : decode jdk_42_method_149_code 36 = .ok (.invokestatic 177, 3) := by decide +kernel
theorem d4_39 : decode jdk_42_method_149_code 39 = .ok (.astore 5, 2) := by decide +kernel
theorem d4_41 : decode jdk_42_method_149_code 41 = .ok (.aload_n 0, 1) := by decide +kernel
theorem d4_42 : decode jdk_42_method_149_code 42 = .ok (.aload 5, 2) := by decide +kernel
theorem d4_44 : decode jdk_42_method_149_code 44 = .ok (.iload_n 3, 1) := by decide +kernel
theorem pd_2 : parseMethodDescriptor "([BI)B" = some ⟨[(.array .byte), .int], some .byte⟩ := by decide +kernel
theorem d4_45 : decode jdk_42_method_149_code 45 = .ok (.invokestatic 47, 3) := by decide +kernel
theorem d4_48 : decode jdk_42_method_149_code 48 = .ok (.putfield 15, 3) := by decide +kernel
theorem d4_51 : decode jdk_42_method_149_code 51 = .ok (.aload_n 0, 1) := by decide +kernel
theorem d4_52 : decode jdk_42_method_149_code 52 = .ok (.aload 5, 2) := by decide +kernel
theorem d4_54 : decode jdk_42_method_149_code 54 = .ok (.putfield 9, 3) := by decide +kernel
theorem d4_57 : decode jdk_42_method_149_code 57 = .ok (.return_, 1) := by decide +kernel
def Q4 (Z : State) (a1 : Addr) (a2 : Addr) (x0 : Int32) (x1 : Int32) (cs : Int32) (h0 : Heap) (n0 : Nat) (v : Option Value) (h : Heap) (L : List Loc) : Prop := v = none ∧ Fr n0 L ∧ Keep h0 h [a1]
def rmR4 : Room := { frames := 2, cells := 1, slots := 2, locals := 35 }
theorem ef_4 (m : MethodId) (a1 : Addr) (a2 : Addr) : entryFrame m #[(.ref a1), (.ref a2), (.int (0 : Int32)), (.int (2 : Int32)), .null] 6 = mkF m 0 #[.val (.ref a1), .val (.ref a2), .val (.int (0 : Int32)), .val (.int (2 : Int32)), .val .null, .unset] [] := by first | (simp [entryFrame, mkF, argsToLocals, Value.category]; done) | rfl
theorem pn_java_lang_String : plainName "java/lang/String" = true := by first | (simp [plainName, overriddenIn]; done) | decide +kernel
set_option maxRecDepth 65536 in
set_option maxHeartbeats 40000000 in
theorem rm4 (l : Launch) (Z : State) (a0 : Array Value) (hw : ∀ d ∈ tables_1, d.before a0 Z = true) (ws : List Jvm.Cond) (a1 : Addr) (a2 : Addr) (x0 : Int32) (x1 : Int32) (cs : Int32) (h0 : Heap) (n0 : Nat) (Z0 : n0 ≤ h0.size) (F_E_a1 : Exa Z h0 a1 "java/lang/String") (F_F_a1_value : Fld Z h0 a1 "java/lang/String" "value" "[B" .null) (F_F_a1_coder : Fld Z h0 a1 "java/lang/String" "coder" "B" (.int (0 : Int32))) (F_A_a2 : IA Z h0 a2 .char [(.int x0), (.int x1)]) (F_S_java_lang_String_COMPACT_STRINGS : Sta Z h0 "java/lang/String" "COMPACT_STRINGS" "Z" (.int cs)) (c_0 : ¬ (255 : Int32) < x0) (c_1 : ¬ (255 : Int32) < x1) (g_a1 : n0 ≤ a1) (ne_a1_a2 : a1 ≠ a2) (c_s : ¬ cs = (0 : Int32)) :
    Mt l Z mt6 (Jvm.Cond.code mt6 jdk_42_method_149_code 6 none :: ws) rmR4 #[(.ref a1), (.ref a2), (.int (0 : Int32)), (.int (2 : Int32)), .null] h0 (Q4 Z a1 a2 x0 x1 cs h0 n0) := by
  refine Mt.of n0 (plainFor_of_name pn_java_lang_String) ?_
  intro p e s m below meth c T0 X0 hx hZ hby hml hown hret hlk hnm hs0
  have Sl0 := slot_ne (Or.inr (own_g hw 36 rfl)) (Or.inr (own_g hw 34 rfl)) (by decide) (t := (.array .byte)) (t' := .byte) (by decide) (by decide)
  have Sl1 := slot_ne (Or.inr (own_g hw 34 rfl)) (Or.inr (own_g hw 36 rfl)) (by decide) (t := .byte) (t' := (.array .byte)) (by decide) (by decide)
  have hown : s.vm.findClass "java/lang/String" = some m.cls := hown
  rw [ef_4]
  show Rt p e below s rmR4.cells rmR4.slots (Q4 Z a1 a2 x0 x1 cs h0 n0) (T0.setTop (mkF m 0 #[.val (.ref a1), .val (.ref a2), .val (.int (0 : Int32)), .val (.int (2 : Int32)), .val .null, .unset] []))
  refine Rt.aloadN (pc' := 1) X0 hx (hb hby d4_0) rfl rfl rfl ?_
  refine Rt.initO (pc' := 4) X0 hx hZ hown (own_g hw 18 rfl) (own_g hw 19 rfl) (own_g hw 20 rfl) (by rw [hml]; rfl) (hb hby d4_1) (by decide) (W := 0) (Nat.le_of_eq rfl) (by decide) rfl ?_
  intro T1 X1
  refine Rt.iloadN (pc' := 5) X1 hx (hb hby d4_4) rfl rfl ?_
  refine Rt.ifY (pc' := 27) X1 hx (hb hby d4_5) ((if0 _ _).trans (feq (by decide : ¬ ((2 : Int32) = (0 : Int32)))).2) (by decide) (by decide) ?_
  refine Rt.getS (pc' := 30) (v := (.int cs)) X1 hx hZ hown (host := "") (Or.inl (own_g hw 21 rfl)) F_S_java_lang_String_COMPACT_STRINGS (hb hby d4_27) rfl ?_
  intro T3 X3
  refine Rt.ifN (pc' := 33) X3 hx (hb hby d4_30) ((if0 _ _).trans (feq c_s).1) rfl ?_
  refine Rt.aloadN (pc' := 34) X3 hx (hb hby d4_33) rfl rfl rfl ?_
  refine Rt.iloadN (pc' := 35) X3 hx (hb hby d4_34) rfl rfl ?_
  refine Rt.iloadN (pc' := 36) X3 hx (hb hby d4_35) rfl rfl ?_
  refine Rt.callS (pc' := 39) X3 hx hZ (y := mt4) hown (own_g hw 22 rfl) (own_g hw 23 rfl) (own_g hw 24 rfl) (own_g hw 25 rfl) (by decide) (rm6 l Z a0 hw [] a2 x0 x1 h0 n0 Z0 F_A_a2 c_0 c_1) (fun _ _ _ q => (by obtain ⟨_, _, _, q, _⟩ := q; exact q)) (W := 0) (by decide) (by decide) (by decide) (by decide) (argsL := [(.ref a2), (.int (0 : Int32)), (.int (2 : Int32))]) (rest := []) (by rw [hml]; rfl) (lenOf pd_1 rfl) rfl rfl (Nat.le_of_eq rfl) (hb hby d4_36) rfl ?_
  rintro _ T4 h4 L4 X4 ⟨b36nw, sb36nw, rfl, N4, K4, F5⟩
  have g6 : n0 ≤ b36nw := Nat.le_trans Z0 sb36nw
  have s7 : h0.size ≤ b36nw := Nat.le_trans (Keep.refl h0 [a1]).1 sb36nw
  have ne8 := Nat.ne_of_lt (Nat.lt_of_lt_of_le F_E_a1.lt sb36nw)
  have ne9 := Nat.ne_of_lt (Nat.lt_of_lt_of_le F_A_a2.lt sb36nw)
  have F10 := F_E_a1.keep K4
  have F11 := F_F_a1_value.keep K4 nin0
  have F12 := F_F_a1_coder.keep K4 nin0
  have F13 := F_A_a2.keep K4 nin0
  have F14 := staK F_S_java_lang_String_COMPACT_STRINGS K4
  have K15 := (Keep.refl h0 [a1]).trans K4 all0
  have Z16 := Nat.le_trans Z0 K4.1
  show Rt _ _ _ _ _ _ _ (T4.setTop (mkF m 39 #[.val (.ref a1), .val (.ref a2), .val (.int (0 : Int32)), .val (.int (2 : Int32)), .val .null, .unset] [(.ref b36nw)]))
  refine Rt.astore (pc' := 41) (v := (.ref b36nw)) (l' := #[.val (.ref a1), .val (.ref a2), .val (.int (0 : Int32)), .val (.int (2 : Int32)), .val .null, .val (.ref b36nw)]) X4 hx (hb hby d4_39) rfl rfl rfl ?_
  refine Rt.aloadN (pc' := 42) X4 hx (hb hby d4_41) rfl rfl rfl ?_
  refine Rt.aload (pc' := 44) X4 hx (hb hby d4_42) rfl rfl rfl ?_
  refine Rt.iloadN (pc' := 45) X4 hx (hb hby d4_44) rfl rfl ?_
  refine Rt.callP (pc' := 48) (r := (.int (nar .byte (0 : Int32)))) X4 hx hZ (y := mt5) hown (own_g hw 30 rfl) (own_g hw 31 rfl) (own_g hw 24 rfl) (own_g hw 32 rfl) (by decide) (rm8 l Z a0 hw [] b36nw h4 n0 F5) (W := 1) (by decide) (by decide) (by decide) (by decide) rfl rfl (argsL := [(.ref b36nw), (.int (2 : Int32))]) (rest := [(.ref a1)]) (by rw [hml]; rfl) (lenOf pd_2 rfl) rfl rfl (Nat.le_of_eq rfl) (hb hby d4_45) rfl ?_
  intro T17 X17
  refine Rt.putF (pc' := 51) (v := (.int (nar .byte (0 : Int32)))) X17 hx hZ hown (host := "") (Or.inl (own_g hw 33 rfl)) F12 F10 (Or.inr ⟨(own_g hw 34 rfl), rfl, hnm⟩) (own_g hw 9 rfl) (ty := .byte) (by decide) (by decide) (by decide) g_a1 (hb hby d4_48) rfl ?_
  intro T18 h18 X18 W18 F18
  have F19 := F10.wr W18
  have F20 := F11.other W18 (Or.inr Sl0)
  have F21 := F13.other W18 (Ne.symm ne_a1_a2)
  have F22 := F14.wr W18
  have F23 := F5.wr W18
  have K24 := K15.wr W18 (Or.inl (List.mem_of_getElem? (i := 0) rfl))
  have Z25 := Nat.le_trans Z16 (Keep.of_wr W18).1
  refine Rt.aloadN (pc' := 52) X18 hx (hb hby d4_51) rfl rfl rfl ?_
  refine Rt.aload (pc' := 54) X18 hx (hb hby d4_52) rfl rfl rfl ?_
  refine Rt.putF (pc' := 57) (v := (.ref b36nw)) X18 hx hZ hown (host := "") (Or.inl (own_g hw 35 rfl)) F20 F19 (Or.inr ⟨(own_g hw 36 rfl), rfl, hnm⟩) (own_g hw 9 rfl) (ty := (.array .byte)) (by decide) rfl rfl g_a1 (hb hby d4_54) rfl ?_
  intro T26 h26 X26 W26 F26
  have F27 := F19.wr W26
  have F28 := F18.other W26 (Or.inr Sl1)
  have F29 := F21.other W26 (Ne.symm ne_a1_a2)
  have F30 := F22.wr W26
  have F31 := F23.wr W26
  have K32 := K24.wr W26 (Or.inl (List.mem_of_getElem? (i := 0) rfl))
  have Z33 := Nat.le_trans Z25 (Keep.of_wr W26).1
  exact Rt.retV X26 hx hlk hret (hb hby d4_57) (by decide) (by decide) (fun L N => ⟨rfl, N, K32⟩)
theorem d3_0 : decode jdk_42_method_3_code 0 = .ok (.aload_n 0, 1) := by decide +kernel
theorem d3_1 : decode jdk_42_method_3_code 1 = .ok (.aload_n 1, 1) := by decide +kernel
theorem d3_2 : decode jdk_42_method_3_code 2 = .ok (.iconst 0, 1) := by decide +kernel
theorem d3_3 : decode jdk_42_method_3_code 3 = .ok (.aload_n 1, 1) := by decide +kernel
theorem d3_4 : decode jdk_42_method_3_code 4 = .ok (.arraylength, 1) := by decide +kernel
theorem d3_5 : decode jdk_42_method_3_code 5 = .ok (.aconst_null, 1) := by decide +kernel
theorem pd_3 : parseMethodDescriptor "([CIILjava/lang/Void;)V" = some ⟨[(.array .char), .int, .int, (.object "java/lang/Void")], none⟩ := by decide +kernel
theorem d3_6 : decode jdk_42_method_3_code 6 = .ok (.invokespecial 27, 3) := by decide +kernel
theorem d3_9 : decode jdk_42_method_3_code 9 = .ok (.return_, 1) := by decide +kernel
def Q3 (Z : State) (a1 : Addr) (a2 : Addr) (x0 : Int32) (x1 : Int32) (cs : Int32) (h0 : Heap) (n0 : Nat) (v : Option Value) (h : Heap) (L : List Loc) : Prop := v = none ∧ Fr n0 L ∧ Keep h0 h [a1]
def rmR3 : Room := { frames := 3, cells := 1, slots := 2, locals := 52 }
theorem ef_3 (m : MethodId) (a1 : Addr) (a2 : Addr) : entryFrame m #[(.ref a1), (.ref a2)] 2 = mkF m 0 #[.val (.ref a1), .val (.ref a2)] [] := by first | (simp [entryFrame, mkF, argsToLocals, Value.category]; done) | rfl
set_option maxRecDepth 65536 in
set_option maxHeartbeats 40000000 in
theorem rm3 (l : Launch) (Z : State) (a0 : Array Value) (hw : ∀ d ∈ tables_1, d.before a0 Z = true) (ws : List Jvm.Cond) (a1 : Addr) (a2 : Addr) (x0 : Int32) (x1 : Int32) (cs : Int32) (h0 : Heap) (n0 : Nat) (Z0 : n0 ≤ h0.size) (F_E_a1 : Exa Z h0 a1 "java/lang/String") (F_F_a1_value : Fld Z h0 a1 "java/lang/String" "value" "[B" .null) (F_F_a1_coder : Fld Z h0 a1 "java/lang/String" "coder" "B" (.int (0 : Int32))) (F_A_a2 : IA Z h0 a2 .char [(.int x0), (.int x1)]) (F_S_java_lang_String_COMPACT_STRINGS : Sta Z h0 "java/lang/String" "COMPACT_STRINGS" "Z" (.int cs)) (c_0 : ¬ (255 : Int32) < x0) (c_1 : ¬ (255 : Int32) < x1) (g_a1 : n0 ≤ a1) (ne_a1_a2 : a1 ≠ a2) (c_s : ¬ cs = (0 : Int32)) :
    Mt l Z mt7 (Jvm.Cond.code mt7 jdk_42_method_3_code 2 none :: ws) rmR3 #[(.ref a1), (.ref a2)] h0 (Q3 Z a1 a2 x0 x1 cs h0 n0) := by
  refine Mt.of n0 (plainFor_of_name pn_java_lang_String) ?_
  intro p e s m below meth c T0 X0 hx hZ hby hml hown hret hlk hnm hs0
  have hown : s.vm.findClass "java/lang/String" = some m.cls := hown
  rw [ef_3]
  show Rt p e below s rmR3.cells rmR3.slots (Q3 Z a1 a2 x0 x1 cs h0 n0) (T0.setTop (mkF m 0 #[.val (.ref a1), .val (.ref a2)] []))
  refine Rt.aloadN (pc' := 1) X0 hx (hb hby d3_0) rfl rfl rfl ?_
  refine Rt.aloadN (pc' := 2) X0 hx (hb hby d3_1) rfl rfl rfl ?_
  refine Rt.iconst (pc' := 3) (v := (0 : Int32)) X0 hx (hb hby d3_2) rfl rfl ?_
  refine Rt.aloadN (pc' := 4) X0 hx (hb hby d3_3) rfl rfl rfl ?_
  refine Rt.arraylength (pc' := 5) X0 hx hZ F_A_a2 (v := (2 : Int32)) rfl (hb hby d3_4) rfl ?_
  refine Rt.aconstNull (pc' := 6) X0 hx (hb hby d3_5) rfl ?_
  refine Rt.callI (pc' := 9) X0 hx hZ (y := mt6) rfl hown (own_g hw 14 rfl) (own_g hw 15 rfl) (own_g hw 10 rfl) (own_g hw 17 rfl) (by decide) (rm4 l Z a0 hw [] a1 a2 x0 x1 cs h0 n0 Z0 F_E_a1 F_F_a1_value F_F_a1_coder F_A_a2 F_S_java_lang_String_COMPACT_STRINGS c_0 c_1 g_a1 ne_a1_a2 c_s) (fun _ _ _ q => q.2.1) (W := 0) (by decide) (by decide) (by decide) (by decide) (argsL := [(.ref a2), (.int (0 : Int32)), (.int (2 : Int32)), .null]) (rest := []) (by rw [hml]; rfl) (lenOf pd_3 rfl) rfl rfl (Nat.le_of_eq rfl) (hb hby d3_6) rfl ?_
  rintro _ T1 h1 L1 X1 ⟨rfl, N1, K1⟩
  have F2 := F_E_a1.keep K1
  have F3 := F_A_a2.keep K1 (ninS (Ne.symm ne_a1_a2) nin0)
  have K4 := (Keep.refl h0 [a1]).trans K1 (allS (Or.inl (List.mem_of_getElem? (i := 0) rfl)) all0)
  have Z5 := Nat.le_trans Z0 K1.1
  show Rt _ _ _ _ _ _ _ (T1.setTop (mkF m 9 #[.val (.ref a1), .val (.ref a2)] []))
  exact Rt.retV X1 hx hlk hret (hb hby d3_9) (by decide) (by decide) (fun L N => ⟨rfl, N, K4⟩)
theorem d9_0 : decode prog_23_method_4_code 0 = .ok (.lload_n 0, 1) := by decide +kernel
theorem d9_1 : decode prog_23_method_4_code 1 = .ok (.lload_n 2, 1) := by decide +kernel
theorem d9_2 : decode prog_23_method_4_code 2 = .ok (.lcmp, 1) := by decide +kernel
theorem d9_3 : decode prog_23_method_4_code 3 = .ok (.ifCond .lt 10, 3) := by decide +kernel
theorem d9_6 : decode prog_23_method_4_code 6 = .ok (.lload_n 0, 1) := by decide +kernel
theorem d9_7 : decode prog_23_method_4_code 7 = .ok (.lload 4, 2) := by decide +kernel
theorem d9_9 : decode prog_23_method_4_code 9 = .ok (.lcmp, 1) := by decide +kernel
theorem d9_10 : decode prog_23_method_4_code 10 = .ok (.ifCond .le 22, 3) := by decide +kernel
theorem d9_32 : decode prog_23_method_4_code 32 = .ok (.return_, 1) := by decide +kernel
def Q9 (q1 : Int64) (q2 : Int64) (q3 : Int64) (a4 : Addr) (h0 : Heap) (n0 : Nat) (v : Option Value) (h : Heap) (L : List Loc) : Prop := v = none ∧ Fr n0 L ∧ h = h0
def rmR9 : Room := { frames := 0, cells := 0, slots := 0, locals := 0 }
theorem ef_9 (m : MethodId) (q1 : Int64) (q2 : Int64) (q3 : Int64) (a4 : Addr) : entryFrame m #[(.long q1), (.long q2), (.long q3), (.ref a4)] 7 = mkF m 0 #[.val (.long q1), .second, .val (.long q2), .second, .val (.long q3), .second, .val (.ref a4)] [] := by first | (simp [entryFrame, mkF, argsToLocals, Value.category]; done) | rfl
theorem pn_com_example_bowerbird_bowerbird_redis_Arguments : plainName "com/example/bowerbird/bowerbird/redis/Arguments" = true := by first | (simp [plainName, overriddenIn]; done) | decide +kernel
set_option maxRecDepth 65536 in
set_option maxHeartbeats 40000000 in
theorem rm9 (l : Launch) (Z : State) (a0 : Array Value) (hw : ∀ d ∈ tables_1, d.before a0 Z = true) (ws : List Jvm.Cond) (q1 : Int64) (q2 : Int64) (q3 : Int64) (a4 : Addr) (h0 : Heap) (n0 : Nat) (hp1 : ¬ q1 < q2) (hp2 : ¬ q3 < q1) :
    Mt l Z mt8 (Jvm.Cond.code mt8 prog_23_method_4_code 7 none :: ws) rmR9 #[(.long q1), (.long q2), (.long q3), (.ref a4)] h0 (Q9 q1 q2 q3 a4 h0 n0) := by
  refine Mt.of n0 (plainFor_of_name pn_com_example_bowerbird_bowerbird_redis_Arguments) ?_
  intro p e s m below meth c T0 X0 hx hZ hby hml hown hret hlk hnm hs0
  have hown : s.vm.findClass "com/example/bowerbird/bowerbird/redis/Arguments" = some m.cls := hown
  rw [ef_9]
  show Rt p e below s rmR9.cells rmR9.slots (Q9 q1 q2 q3 a4 h0 n0) (T0.setTop (mkF m 0 #[.val (.long q1), .second, .val (.long q2), .second, .val (.long q3), .second, .val (.ref a4)] []))
  refine Rt.lloadN (pc' := 1) X0 hx (hb hby d9_0) rfl rfl ?_
  refine Rt.lloadN (pc' := 2) X0 hx (hb hby d9_1) rfl rfl ?_
  refine Rt.lcmp (pc' := 3) X0 hx (hb hby d9_2) rfl ?_
  refine Rt.ifN (pc' := 6) X0 hx (hb hby d9_3) (lfl hp1).1 rfl ?_
  refine Rt.lloadN (pc' := 7) X0 hx (hb hby d9_6) rfl rfl ?_
  refine Rt.lload (pc' := 9) X0 hx (hb hby d9_7) rfl rfl ?_
  refine Rt.lcmp (pc' := 10) X0 hx (hb hby d9_9) rfl ?_
  refine Rt.ifY (pc' := 32) X0 hx (hb hby d9_10) (gfl hp2).2 (by decide) (by decide) ?_
  exact Rt.retV X0 hx hlk hret (hb hby d9_32) (by decide) (by decide) (fun L N => ⟨rfl, N, rfl⟩)
theorem pd_4 : parseMethodDescriptor "(JJ)J" = some ⟨[.long, .long], some .long⟩ := by decide +kernel
theorem pd_5 : parseMethodDescriptor "([C)V" = some ⟨[(.array .char)], none⟩ := by decide +kernel
theorem pd_6 : parseMethodDescriptor "(JJJLjava/lang/String;)V" = some ⟨[.long, .long, .long, (.object "java/lang/String")], none⟩ := by decide +kernel
def f0_v18 (p4 : Int32) : Int32 := (p4 &&& (3 : Int32))
def f0_a54_1 (q1 : Int64) (q2 : Int64) (q3 : Int64) : Int64 := (f1 (f2 q1 q2) q3)
def f0_v57 (q1 : Int64) (q2 : Int64) (q3 : Int64) : Int64 := (f2 (f1 q1 q2) (f0_a54_1 q1 q2 q3))
def f0_j59_l13 (q1 : Int64) (q2 : Int64) (q3 : Int64) (p4 : Int32) : Int64 := (if (f0_v18 p4) = (0 : Int32) then (f1 q1 q2) else (if (f0_v18 p4) = (1 : Int32) then (f2 q1 q2) else (f0_v57 q1 q2 q3)))
def f0_w74 (p5 : Int32) : Int32 := (nar .char ((p5 &&& (255 : Int32)).toUInt32.toUInt16.toUInt32.toInt32))
def f0_w85 (p6 : Int32) : Int32 := (nar .char ((p6 &&& (255 : Int32)).toUInt32.toUInt16.toUInt32.toInt32))
def f0  : Int32 := (1 : Int32)
theorem own_c255 (p : Int32) : ¬ (255 : Int32) < nar .char ((p &&& (255 : Int32)).toUInt32.toUInt16.toUInt32.toInt32) := by
  have g := c_mask p 255 8 (by decide) (by decide)
  have g1 := c_i2c (p &&& 255)
  have g2 := c_i2c ((p &&& (255 : Int32)).toUInt32.toUInt16.toUInt32.toInt32)
  have l : (255 : Int32).toInt = 255 := by decide
  rw [Int32.lt_iff_toInt_lt]
  unfold nar
  dsimp only
  omega
theorem own_mm (a b c : Int64) (k : Int32) : ¬ (f0_j59_l13 a b c k) < (f1 a b) ∧ ¬ (f2 a b) < (f0_j59_l13 a b c k) := by
  unfold f0_j59_l13 f0_v57 f0_a54_1
  generalize hm : f1 a b = mn
  generalize hx : f2 a b = mx
  have h : ¬ mx < mn := by
    rw [← hm, ← hx]; unfold f1 f2
    simp only [Int64.lt_iff_toInt_lt]
    repeat' split
    all_goals omega
  unfold f1 f2
  simp only [Int64.lt_iff_toInt_lt] at h ⊢
  repeat' split
  all_goals omega
def Q0 (Z : State) (q1 : Int64) (q2 : Int64) (q3 : Int64) (p4 : Int32) (p5 : Int32) (p6 : Int32) (cs : Int32) (h0 : Heap) (n0 : Nat) (v : Option Value) (h : Heap) (L : List Loc) : Prop := v = some (.int f0) ∧ Fr n0 L ∧ Keep h0 h []
theorem ef_0 (m : MethodId) (q1 : Int64) (q2 : Int64) (q3 : Int64) (p4 : Int32) (p5 : Int32) (p6 : Int32) : entryFrame m #[(.long q1), (.long q2), (.long q3), (.int p4), (.int p5), (.int p6)] maxLocals = mkF m 0 #[.val (.long q1), .second, .val (.long q2), .second, .val (.long q3), .second, .val (.int p4), .val (.int p5), .val (.int p6), .unset, .unset, .unset, .unset, .unset, .unset, .unset, .unset, .unset] [] := by first | (simp [entryFrame, mkF, argsToLocals, Value.category, maxLocals]; done) | rfl
theorem pn_com_example_bowerbird_bowerbird_redis_ArgumentsRequireBetweenPinLaw : plainName "com/example/bowerbird/bowerbird/redis/ArgumentsRequireBetweenPinLaw" = true := by first | (simp [plainName, overriddenIn]; done) | decide +kernel
set_option maxRecDepth 65536 in
set_option maxHeartbeats 40000000 in
theorem rm0 (l : Launch) (Z : State) (a0 : Array Value) (hw : ∀ d ∈ tables_1, d.before a0 Z = true) (ws : List Jvm.Cond) (q1 : Int64) (q2 : Int64) (q3 : Int64) (p4 : Int32) (p5 : Int32) (p6 : Int32) (cs : Int32) (h0 : Heap) (n0 : Nat) (Z0 : n0 ≤ h0.size) (F_S_java_lang_String_COMPACT_STRINGS : Sta Z h0 "java/lang/String" "COMPACT_STRINGS" "Z" (.int cs)) (c_s : ¬ cs = (0 : Int32)) :
    Mt l Z x (Jvm.Cond.code x code maxLocals ret :: ws) room_1 #[(.long q1), (.long q2), (.long q3), (.int p4), (.int p5), (.int p6)] h0 (Q0 Z q1 q2 q3 p4 p5 p6 cs h0 n0) := by
  refine Mt.of n0 (plainFor_of_name pn_com_example_bowerbird_bowerbird_redis_ArgumentsRequireBetweenPinLaw) ?_
  intro p e s m below meth c T0 X0 hx hZ hby hml hown hret hlk hnm hs0
  have hml : c.maxLocals = 18 := hml
  have hret : meth.sig.returnType = some .boolean := hret
  have hown : s.vm.findClass "com/example/bowerbird/bowerbird/redis/ArgumentsRequireBetweenPinLaw" = some m.cls := hown
  rw [ef_0]
  show Rt p e below s room_1.cells room_1.slots (Q0 Z q1 q2 q3 p4 p5 p6 cs h0 n0) (T0.setTop (mkF m 0 #[.val (.long q1), .second, .val (.long q2), .second, .val (.long q3), .second, .val (.int p4), .val (.int p5), .val (.int p6), .unset, .unset, .unset, .unset, .unset, .unset, .unset, .unset, .unset] []))
  refine Rt.lloadN (pc' := 1) X0 hx (hb hby at_0) rfl rfl ?_
  refine Rt.lloadN (pc' := 2) X0 hx (hb hby at_1) rfl rfl ?_
  refine Rt.callP (pc' := 5) (r := (.long (f1 q1 q2))) X0 hx hZ (y := mt1) hown (own_g hw 0 rfl) (own_g hw 1 rfl) (own_g hw 2 rfl) (own_g hw 3 rfl) (by decide) (rm1 l Z a0 hw [] q1 q2 h0 n0) (W := 0) (by decide) (by decide) (by decide) (by decide) rfl rfl (argsL := [(.long q1), (.long q2)]) (rest := []) (by rw [hml]; rfl) (lenOf pd_4 rfl) rfl rfl (Nat.le_of_eq rfl) (hb hby at_2) rfl ?_
  intro T1 X1
  refine Rt.lstore (pc' := 7) (v := (f1 q1 q2)) (l' := #[.val (.long q1), .second, .val (.long q2), .second, .val (.long q3), .second, .val (.int p4), .val (.int p5), .val (.int p6), .val (.long (f1 q1 q2)), .second, .unset, .unset, .unset, .unset, .unset, .unset, .unset]) X1 hx (hb hby at_5) rfl rfl ?_
  refine Rt.lloadN (pc' := 8) X1 hx (hb hby at_7) rfl rfl ?_
  refine Rt.lloadN (pc' := 9) X1 hx (hb hby at_8) rfl rfl ?_
  refine Rt.callP (pc' := 12) (r := (.long (f2 q1 q2))) X1 hx hZ (y := mt2) hown (own_g hw 4 rfl) (own_g hw 5 rfl) (own_g hw 2 rfl) (own_g hw 6 rfl) (by decide) (rm2 l Z a0 hw [] q1 q2 h0 n0) (W := 0) (by decide) (by decide) (by decide) (by decide) rfl rfl (argsL := [(.long q1), (.long q2)]) (rest := []) (by rw [hml]; rfl) (lenOf pd_4 rfl) rfl rfl (Nat.le_of_eq rfl) (hb hby at_9) rfl ?_
  intro T2 X2
  refine Rt.lstore (pc' := 14) (v := (f2 q1 q2)) (l' := #[.val (.long q1), .second, .val (.long q2), .second, .val (.long q3), .second, .val (.int p4), .val (.int p5), .val (.int p6), .val (.long (f1 q1 q2)), .second, .val (.long (f2 q1 q2)), .second, .unset, .unset, .unset, .unset, .unset]) X2 hx (hb hby at_12) rfl rfl ?_
  refine Rt.iload (pc' := 16) X2 hx (hb hby at_14) rfl rfl ?_
  refine Rt.iconst (pc' := 17) (v := (3 : Int32)) X2 hx (hb hby at_16) rfl rfl ?_
  refine Rt.iand (pc' := 18) (r := (p4 &&& (3 : Int32))) X2 hx (hb hby at_17) rfl rfl ?_
  refine Rt.istore (pc' := 20) (v := (f0_v18 p4)) (l' := #[.val (.long q1), .second, .val (.long q2), .second, .val (.long q3), .second, .val (.int p4), .val (.int p5), .val (.int p6), .val (.long (f1 q1 q2)), .second, .val (.long (f2 q1 q2)), .second, .unset, .unset, .val (.int (f0_v18 p4)), .unset, .unset]) X2 hx (hb hby at_18) rfl rfl ?_
  refine Rt.iload (pc' := 22) X2 hx (hb hby at_20) rfl rfl ?_
  have J22_3 : ∀ T3  , Sd p l e room_1 s m #[(.long q1), (.long q2), (.long q3), (.int p4), (.int p5), (.int p6)] below meth c T3 n0 0 0 h0 → Rt p e below s room_1.cells room_1.slots (Q0 Z q1 q2 q3 p4 p5 p6 cs h0 n0) (T3.setTop (mkF m 59 #[.val (.long q1), .second, .val (.long q2), .second, .val (.long q3), .second, .val (.int p4), .val (.int p5), .val (.int p6), .val (.long (f1 q1 q2)), .second, .val (.long (f2 q1 q2)), .second, .val (.long (f0_j59_l13 q1 q2 q3 p4)), .second, .val (.int (f0_v18 p4)), .unset, .unset] [])) := by
    intro T3   X3 
    refine Rt.iconst (pc' := 60) (v := (2 : Int32)) X3 hx (hb hby at_59) rfl rfl ?_
    refine Rt.newP (pc' := 62) X3 hx hZ (ty := .char) rfl (own_g hw 7 rfl) (z := (2 : Int32)) (i := 2) (by decide) (by decide) (cap := 2) (by decide) (by decide) (hb hby at_60) (by decide) (by decide) rfl ?_
    intro T4 h4 b60 ha4 X4 E4 A4
    have g5 : n0 ≤ b60 := by rw [ha4]; exact Z0
    have s6 : h0.size ≤ b60 := by rw [ha4]; exact (Keep.refl h0 []).1
    have F7 := F_S_java_lang_String_COMPACT_STRINGS.ext E4
    have K8 := (Keep.refl h0 []).ext E4
    have Z9 := Nat.le_trans Z0 E4.1
    have A4 : IA Z h4 b60 .char [(.int (0 : Int32)), (.int (0 : Int32))] := A4
    refine Rt.astore (pc' := 64) (v := (.ref b60)) (l' := #[.val (.long q1), .second, .val (.long q2), .second, .val (.long q3), .second, .val (.int p4), .val (.int p5), .val (.int p6), .val (.long (f1 q1 q2)), .second, .val (.long (f2 q1 q2)), .second, .val (.long (f0_j59_l13 q1 q2 q3 p4)), .second, .val (.int (f0_v18 p4)), .val (.ref b60), .unset]) X4 hx (hb hby at_62) rfl rfl rfl ?_
    refine Rt.aload (pc' := 66) X4 hx (hb hby at_64) rfl rfl rfl ?_
    refine Rt.iconst (pc' := 67) (v := (0 : Int32)) X4 hx (hb hby at_66) rfl rfl ?_
    refine Rt.iload (pc' := 69) X4 hx (hb hby at_67) rfl rfl ?_
    refine Rt.sipush (pc' := 72) (v := (255 : Int32)) X4 hx (hb hby at_69) rfl rfl ?_
    refine Rt.iand (pc' := 73) (r := (p5 &&& (255 : Int32))) X4 hx (hb hby at_72) rfl rfl ?_
    refine Rt.i2c (pc' := 74) (r := ((p5 &&& (255 : Int32)).toUInt32.toUInt16.toUInt32.toInt32)) X4 hx (hb hby at_73) rfl rfl ?_
    refine Rt.castore (pc' := 75) X4 hx hZ A4 (i := 0) (by decide) (by decide) (Nat.le_of_ble_eq_true rfl) (w := (.int (f0_w74 p5))) rfl g5 (hb hby at_74) rfl ?_
    intro T10 h10 X10 W10 F10
    have F10 : IA Z h10 b60 .char [(.int (f0_w74 p5)), (.int (0 : Int32))] := F10
    have F11 := F7.wr W10
    have K12 := K8.wr W10 (Or.inr s6)
    have Z13 := Nat.le_trans Z9 (Keep.of_wr W10).1
    refine Rt.aload (pc' := 77) X10 hx (hb hby at_75) rfl rfl rfl ?_
    refine Rt.iconst (pc' := 78) (v := (1 : Int32)) X10 hx (hb hby at_77) rfl rfl ?_
    refine Rt.iload (pc' := 80) X10 hx (hb hby at_78) rfl rfl ?_
    refine Rt.sipush (pc' := 83) (v := (255 : Int32)) X10 hx (hb hby at_80) rfl rfl ?_
    refine Rt.iand (pc' := 84) (r := (p6 &&& (255 : Int32))) X10 hx (hb hby at_83) rfl rfl ?_
    refine Rt.i2c (pc' := 85) (r := ((p6 &&& (255 : Int32)).toUInt32.toUInt16.toUInt32.toInt32)) X10 hx (hb hby at_84) rfl rfl ?_
    refine Rt.castore (pc' := 86) X10 hx hZ F10 (i := 1) (by decide) (by decide) (Nat.le_of_ble_eq_true rfl) (w := (.int (f0_w85 p6))) rfl g5 (hb hby at_85) rfl ?_
    intro T14 h14 X14 W14 F14
    have F14 : IA Z h14 b60 .char [(.int (f0_w74 p5)), (.int (f0_w85 p6))] := F14
    have F15 := F11.wr W14
    have K16 := K12.wr W14 (Or.inr s6)
    have Z17 := Nat.le_trans Z13 (Keep.of_wr W14).1
    refine Rt.newO (pc' := 89) X14 hx hZ hown (own_g hw 8 rfl) (own_g hw 9 rfl) (own_g hw 10 rfl) (hb hby at_86) (by decide) (by decide) rfl ?_
    intro T18 h18 b86 ha18 X18 E18 A18 D18
    have g19 : n0 ≤ b86 := by rw [ha18]; exact Z17
    have s20 : h0.size ≤ b86 := by rw [ha18]; exact K16.1
    have ne21 : b60 ≠ b86 := by rw [ha18]; exact Nat.ne_of_lt F14.lt
    have F22 := F15.ext E18
    have F23 := F14.ext E18
    have K24 := K16.ext E18
    have Z25 := Nat.le_trans Z17 E18.1
    have F26 : Fld Z h18 b86 "java/lang/String" "coder" "B" (.int (0 : Int32)) := D18 (Or.inr (own_g hw 34 rfl)) (ty := .byte) (by decide)
    have F27 : Fld Z h18 b86 "java/lang/String" "value" "[B" .null := D18 (Or.inr (own_g hw 36 rfl)) (ty := (.array .byte)) (by decide)
    refine Rt.dup (pc' := 90) X18 hx (hb hby at_89) rfl rfl ?_
    refine Rt.aload (pc' := 92) X18 hx (hb hby at_90) rfl rfl rfl ?_
    refine Rt.callI (pc' := 95) X18 hx hZ (y := mt7) rfl hown (own_g hw 11 rfl) (own_g hw 12 rfl) (own_g hw 10 rfl) (own_g hw 13 rfl) (by decide) (rm3 l Z a0 hw [] b86 b60 (f0_w74 p5) (f0_w85 p6) cs h18 n0 Z25 A18 F27 F26 F23 F22 (own_c255 p5) (own_c255 p6) g19 (Ne.symm ne21) c_s) (fun _ _ _ q => q.2.1) (W := 1) (by decide) (by decide) (by decide) (by decide) (argsL := [(.ref b60)]) (rest := [(.ref b86)]) (by rw [hml]; rfl) (lenOf pd_5 rfl) rfl rfl (Nat.le_of_eq rfl) (hb hby at_92) rfl ?_
    rintro _ T28 h28 L28 X28 ⟨rfl, N28, K28⟩
    have F29 := F23.keep K28 (ninS ne21 nin0)
    have F30 := A18.keep K28
    have K31 := K24.trans K28 (allS (Or.inr s20) all0)
    have Z32 := Nat.le_trans Z25 K28.1
    show Rt _ _ _ _ _ _ _ (T28.setTop (mkF m 95 #[.val (.long q1), .second, .val (.long q2), .second, .val (.long q3), .second, .val (.int p4), .val (.int p5), .val (.int p6), .val (.long (f1 q1 q2)), .second, .val (.long (f2 q1 q2)), .second, .val (.long (f0_j59_l13 q1 q2 q3 p4)), .second, .val (.int (f0_v18 p4)), .val (.ref b60), .unset] [(.ref b86)]))
    refine Rt.astore (pc' := 97) (v := (.ref b86)) (l' := #[.val (.long q1), .second, .val (.long q2), .second, .val (.long q3), .second, .val (.int p4), .val (.int p5), .val (.int p6), .val (.long (f1 q1 q2)), .second, .val (.long (f2 q1 q2)), .second, .val (.long (f0_j59_l13 q1 q2 q3 p4)), .second, .val (.int (f0_v18 p4)), .val (.ref b60), .val (.ref b86)]) X28 hx (hb hby at_95) rfl rfl rfl ?_
    refine Rt.lload (pc' := 99) X28 hx (hb hby at_97) rfl rfl ?_
    refine Rt.lload (pc' := 101) X28 hx (hb hby at_99) rfl rfl ?_
    refine Rt.lload (pc' := 103) X28 hx (hb hby at_101) rfl rfl ?_
    refine Rt.aload (pc' := 105) X28 hx (hb hby at_103) rfl rfl rfl ?_
    refine Rt.callS (pc' := 108) X28 hx hZ (y := mt8) hown (own_g hw 37 rfl) (own_g hw 38 rfl) (own_g hw 39 rfl) (own_g hw 40 rfl) (by decide) (rm9 l Z a0 hw [] (f0_j59_l13 q1 q2 q3 p4) (f1 q1 q2) (f2 q1 q2) b86 h28 n0 (own_mm q1 q2 q3 p4).1 (own_mm q1 q2 q3 p4).2) (fun _ _ _ q => q.2.1) (W := 0) (by decide) (by decide) (by decide) (by decide) (argsL := [(.long (f0_j59_l13 q1 q2 q3 p4)), (.long (f1 q1 q2)), (.long (f2 q1 q2)), (.ref b86)]) (rest := []) (by rw [hml]; rfl) (lenOf pd_6 rfl) rfl rfl (Nat.le_of_eq rfl) (hb hby at_105) rfl ?_
    rintro _ T33 h33 L33 X33 ⟨rfl, N33, e33⟩
    rw [e33] at X33
    show Rt _ _ _ _ _ _ _ (T33.setTop (mkF m 108 #[.val (.long q1), .second, .val (.long q2), .second, .val (.long q3), .second, .val (.int p4), .val (.int p5), .val (.int p6), .val (.long (f1 q1 q2)), .second, .val (.long (f2 q1 q2)), .second, .val (.long (f0_j59_l13 q1 q2 q3 p4)), .second, .val (.int (f0_v18 p4)), .val (.ref b60), .val (.ref b86)] []))
    refine Rt.iconst (pc' := 109) (v := (1 : Int32)) X33 hx (hb hby at_108) rfl rfl ?_
    exact Rt.retZ (w := (1 : Int32)) X33 hx hlk hret (by simp) (hb hby at_109) (by decide) (by decide) (by decide) (fun L N => ⟨congrArg some (congrArg Value.int (by rw [f0])), N, K31⟩)
  by_cases hc22_34 : (f0_v18 p4) = (0 : Int32)
  · refine Rt.ifN (pc' := 25) X2 hx (hb hby at_22) ((if0 _ _).trans (teq hc22_34).2) rfl ?_
    refine Rt.lload (pc' := 27) X2 hx (hb hby at_25) rfl rfl ?_
    refine Rt.lstore (pc' := 29) (v := (f1 q1 q2)) (l' := #[.val (.long q1), .second, .val (.long q2), .second, .val (.long q3), .second, .val (.int p4), .val (.int p5), .val (.int p6), .val (.long (f1 q1 q2)), .second, .val (.long (f2 q1 q2)), .second, .val (.long (f1 q1 q2)), .second, .val (.int (f0_v18 p4)), .unset, .unset]) X2 hx (hb hby at_27) rfl rfl ?_
    refine Rt.goto (pc' := 59) X2 hx (hb hby at_29) (by decide) (by decide) ?_
    have q := J22_3 T2   X2
    rw [show (f0_j59_l13 q1 q2 q3 p4) = (f1 q1 q2) from by rw [f0_j59_l13, if_pos hc22_34]] at q
    exact q
  · refine Rt.ifY (pc' := 32) X2 hx (hb hby at_22) ((if0 _ _).trans (feq hc22_34).2) (by decide) (by decide) ?_
    refine Rt.iload (pc' := 34) X2 hx (hb hby at_32) rfl rfl ?_
    refine Rt.iconst (pc' := 35) (v := (1 : Int32)) X2 hx (hb hby at_34) rfl rfl ?_
    by_cases hc35_35 : (f0_v18 p4) = (1 : Int32)
    · refine Rt.icmpN (pc' := 38) X2 hx (hb hby at_35) (teq hc35_35).2 rfl ?_
      refine Rt.lload (pc' := 40) X2 hx (hb hby at_38) rfl rfl ?_
      refine Rt.lstore (pc' := 42) (v := (f2 q1 q2)) (l' := #[.val (.long q1), .second, .val (.long q2), .second, .val (.long q3), .second, .val (.int p4), .val (.int p5), .val (.int p6), .val (.long (f1 q1 q2)), .second, .val (.long (f2 q1 q2)), .second, .val (.long (f2 q1 q2)), .second, .val (.int (f0_v18 p4)), .unset, .unset]) X2 hx (hb hby at_40) rfl rfl ?_
      refine Rt.goto (pc' := 59) X2 hx (hb hby at_42) (by decide) (by decide) ?_
      have q := J22_3 T2   X2
      rw [show (f0_j59_l13 q1 q2 q3 p4) = (f2 q1 q2) from by rw [f0_j59_l13, if_neg hc22_34, if_pos hc35_35]] at q
      exact q
    · refine Rt.icmpY (pc' := 45) X2 hx (hb hby at_35) (feq hc35_35).2 (by decide) (by decide) ?_
      refine Rt.lload (pc' := 47) X2 hx (hb hby at_45) rfl rfl ?_
      refine Rt.lload (pc' := 49) X2 hx (hb hby at_47) rfl rfl ?_
      refine Rt.lload (pc' := 51) X2 hx (hb hby at_49) rfl rfl ?_
      refine Rt.callP (pc' := 54) (r := (.long (f1 (f2 q1 q2) q3))) X2 hx hZ (y := mt1) hown (own_g hw 0 rfl) (own_g hw 1 rfl) (own_g hw 2 rfl) (own_g hw 3 rfl) (by decide) (rm1 l Z a0 hw [] (f2 q1 q2) q3 h0 n0) (W := 2) (by decide) (by decide) (by decide) (by decide) rfl rfl (argsL := [(.long (f2 q1 q2)), (.long q3)]) (rest := [(.long (f1 q1 q2))]) (by rw [hml]; rfl) (lenOf pd_4 rfl) rfl rfl (Nat.le_of_eq rfl) (hb hby at_51) rfl ?_
      intro T36 X36
      refine Rt.callP (pc' := 57) (r := (.long (f2 (f1 q1 q2) (f0_a54_1 q1 q2 q3)))) X36 hx hZ (y := mt2) hown (own_g hw 4 rfl) (own_g hw 5 rfl) (own_g hw 2 rfl) (own_g hw 6 rfl) (by decide) (rm2 l Z a0 hw [] (f1 q1 q2) (f0_a54_1 q1 q2 q3) h0 n0) (W := 0) (by decide) (by decide) (by decide) (by decide) rfl rfl (argsL := [(.long (f1 q1 q2)), (.long (f0_a54_1 q1 q2 q3))]) (rest := []) (by rw [hml]; rfl) (lenOf pd_4 rfl) rfl rfl (Nat.le_of_eq rfl) (hb hby at_54) rfl ?_
      intro T37 X37
      refine Rt.lstore (pc' := 59) (v := (f0_v57 q1 q2 q3)) (l' := #[.val (.long q1), .second, .val (.long q2), .second, .val (.long q3), .second, .val (.int p4), .val (.int p5), .val (.int p6), .val (.long (f1 q1 q2)), .second, .val (.long (f2 q1 q2)), .second, .val (.long (f0_v57 q1 q2 q3)), .second, .val (.int (f0_v18 p4)), .unset, .unset]) X37 hx (hb hby at_57) rfl rfl ?_
      have q := J22_3 T37   X37
      rw [show (f0_j59_l13 q1 q2 q3 p4) = (f0_v57 q1 q2 q3) from by rw [f0_j59_l13, if_neg hc22_34, if_neg hc35_35]] at q
      exact q
theorem own_law : f0 = 1 := rfl
set_option maxRecDepth 65536 in
set_option maxHeartbeats 40000000 in
theorem comes_1 {Post : Tables → Env → Array Value → State → Outcome → State → Prop} (hpost : ∀ tb e args s v u, (limb_1_1.after args s (.returned v) u = true ∧ limb_1_2.after args s (.returned v) u = true ∧ True) → FrameEnd s (.returned v) u (Jvm.fieldLocs frame_1_writes args s ++ Jvm.arrayLocs frame_1_arrays args s ++ Jvm.staticLocs frame_1_statics s) 16 128 → Post tb e args s (.returned v) u) :
    ArmFor flags0 classFile x code maxLocals ret World_1 tables_1 room_1 Calls_1 rest_1 Pre_1 Post := by
  intro l hfl _ _ p e ha hc hk s m args below hf hA hF happ hP
  obtain ⟨hcalls, hrest, hpre⟩ := hP
  obtain ⟨-, -, -, hnamed, -, -, -, hat⟩ := (Spec.applies_iff hf).mp happ
  obtain ⟨hg, hn⟩ := and_e (Cond.before_iff.mp (show (Jvm.Cond.and given_1 narrow_1).before args s = true from hpre))
  obtain ⟨g1, g2⟩ := and_e hg
  obtain ⟨g3, g4⟩ := and_e g2
  obtain ⟨g5, g6⟩ := and_e g4
  obtain ⟨g7, g8⟩ := and_e g6
  obtain ⟨g9, g10⟩ := and_e g8
  obtain ⟨g11, g12⟩ := and_e g10
  obtain ⟨w0, w1, w2, w3, w4, w5, rfl⟩ : ∃ w0 w1 w2 w3 w4 w5 : Value, args = #[w0, w1, w2, w3, w4, w5] := by
    have hs : args.size = 6 := by simpa [Cond.value, given_1] using g1
    obtain ⟨L⟩ := args
    match L, hs with
    | [w0, w1, w2, w3, w4, w5], _ => exact ⟨w0, w1, w2, w3, w4, w5, rfl⟩
  have hw := fun d (hd : d ∈ tables_1) => atoms_spec (ws := Jvm.Cond.code x code maxLocals ret :: tables_1) hat d (List.mem_cons_of_mem _ hd)
  have hfit : Fit s := fun {y c} hc i hi => by
    obtain ⟨ha, rfl⟩ := Array.getElem?_eq_some_iff.mp hc
    have q := List.all_eq_true.mp ((Array.all_eq_true_iff_forall_mem.mp hF) _ (Array.getElem_mem ha)) i (List.mem_range.mpr hi)
    simpa [Array.getElem?_eq_getElem hi] using q
  obtain ⟨hsets, hown0⟩ := atoms_of _ (rest_1_c_eq ▸ (show rest_1_c.before _ s = true from hrest))
  have hr0 := Cond.before_iff.mp hown0
  obtain ⟨i0, ei0⟩ := isL_v g3
  obtain rfl : w0 = (.long i0) := Option.some.inj ei0
  obtain ⟨i1, ei1⟩ := isL_v g5
  obtain rfl : w1 = (.long i1) := Option.some.inj ei1
  obtain ⟨i2, ei2⟩ := isL_v g7
  obtain rfl : w2 = (.long i2) := Option.some.inj ei2
  obtain ⟨i3, ei3⟩ := is_v g9
  obtain rfl : w3 = (.int i3) := Option.some.inj ei3
  obtain ⟨i4, ei4⟩ := is_v g11
  obtain rfl : w4 = (.int i4) := Option.some.inj ei4
  obtain ⟨i5, ei5⟩ := is_v g12
  obtain rfl : w5 = (.int i5) := Option.some.inj ei5
  have S0 := hsets _ (List.mem_of_getElem? (i := 0) rfl)
  obtain ⟨cs, ecs⟩ := is_v (Cond.before_iff.mp (hsets _ (List.mem_of_getElem? (i := 1) rfl)))
  have n3 := not_v (Cond.before_iff.mp (hsets _ (List.mem_of_getElem? (i := 2) rfl)))
  have SS := Sta.start ecs (Or.inl S0)
  have csn : ¬ cs = (0 : Int32) := gotF (Cond.eq_ints ecs (Term.int_eval (0))) n3
  obtain ⟨n, o, h1, h2, h3, _, L, rfl, ⟨rfl, N, -⟩, hq⟩ := rm0 l s _ hw tables_1 i0 i1 i2 i3 i4 i5 cs s.heap s.heap.size (Nat.le_refl _) SS csn p e ha hc hk s m _ below hf ((Spec.applies_iff_loose hf).mp happ).1 ⟨rfl, State.Warmed39.refl s, rfl⟩ trivial
  rw [own_law] at *
  refine ⟨n, _, h1, h2, h3, hpost _ _ _ _ _ _ ⟨Cond.after_iff.mpr rfl, Cond.after_iff.mpr (eq_i res_at (Term.int_eval (1)) rfl), trivial⟩ ⟨hq.1, hq.2.1, (hq.2.2.sift fun y hy => Or.inr (N y hy)).mono (by decide) (by decide)⟩⟩
theorem main_1_1 : Claimed_1_1 := comes_1 fun _ _ _ _ _ _ h hF => ⟨h.1, hF⟩
theorem main_1_2 : Claimed_1_2 := comes_1 fun _ _ _ _ _ _ h hF => ⟨h.2.1, hF⟩
end Jvm.Pilot.@@N@@
namespace Jvm.Pilot.@@N@@
open Jvm Jvm.ClassFile Sem Op Lib Jvm.Free Jvm.Stand Jvm.Pilot.@@N@@.Jvm.D
/-! MADE BY PROGRAM (witnessworld.py) out of the Statement's table words and the real class files: 21 classes; the members and pool entries that the words name. The judged class is class 1, her method 1. -/
namespace start1
open Jvm.ClassFile
def u (s : String) : CpInfo := .utf8 (stringToUtf16 s)
/-- a pool by its gaps: so many unusable entries, then the entry; so many at the end -/
def gap : Nat → List CpInfo → List CpInfo
  | 0, r => r
  | n + 1, r => .unusable :: gap n r
def poolList (es : List (Nat × CpInfo)) (last : Nat) : List CpInfo := es.foldr (fun e r => gap e.1 (e.2 :: r)) (gap last [])
def pool (es : List (Nat × CpInfo)) (last : Nat) : Array CpInfo := ⟨poolList es last⟩
def fileOf (pool : Array CpInfo) (this : Nat) (attrs : Array Attribute := #[]) (ms : Array MethodInfo := #[]) (fl : Nat := 33) (sup : Nat := 0) (ifs : Array Nat := #[]) (fds : Array FieldInfo := #[]) : ClassFile where
  minorVersion := 0
  majorVersion := 65
  constantPool := pool
  accessFlags := fl
  thisClass := this
  superClass := sup
  interfaces := ifs
  fields := fds
  methods := ms
  attributes := attrs
def plain (name : String) (sup : Option ClassId) : Class where
  name := name
  kind := .ordinary
  loader := none
  accessFlags := 33
  super := sup
  interfaces := #[]
  cf := none
  fields := #[]
  methods := #[]
  instanceTypes := #[]
  staticTypes := #[]
  resolved := #[]
  callSites := []
  init := .initialized
  statics := none
  mirror := none

def pool0 : Array CpInfo := pool [(5, u "<init>"), (0, u "()V"), (1, .class_ 10), (1, u "java/lang/Object")] 113

def k0c0 : Code := { maxStack := 0, maxLocals := 1, code := object_method_1_code, exceptionTable := #[], attributes := #[] }
def k0m0 : Method := { name := "<init>", desc := "()V", sig := { parameters := [], returnType := none }, accessFlags := 1, code := some k0c0 }
/-- java/lang/Object -/
def k0 : Class := { plain "java/lang/Object" none with
  accessFlags := 33
  interfaces := #[]
  cf := some (fileOf pool0 8 #[] #[{ accessFlags := 1, nameIndex := 5, descriptorIndex := 6, attributes := #[] }] 33 0 #[] #[])
  fields := #[]
  methods := #[k0m0]
  instanceTypes := #[]
  staticTypes := #[]
  resolved := Array.replicate 124 none
  statics := none }

def pool1 : Array CpInfo := pool [(2, .class_ 4), (1, u "java/lang/Object"), (0, u "<init>"), (0, u "()V"), (0, .methodref 8 9), (0, .class_ 10), (0, .nameAndType 11 12), (0, u "java/lang/Math"), (0, u "min"), (0, u "(JJ)J"), (0, .methodref 8 14), (0, .nameAndType 15 12), (0, u "max"), (0, .class_ 17), (0, u "java/lang/String"), (0, .methodref 16 19), (0, .nameAndType 5 20), (0, u "([C)V"), (0, .methodref 22 23), (0, .class_ 24), (0, .nameAndType 25 26), (0, u "com/example/bowerbird/bowerbird/redis/Arguments"), (0, u "requireBetween"), (0, u "(JJJLjava/lang/String;)V"), (0, .class_ 28), (0, u "com/example/bowerbird/bowerbird/redis/ArgumentsRequireBetweenPinLaw"), (2, u "law"), (0, u "(JJJIII)Z")] 3

def k1m0 : Method := { name := "<init>", desc := "()V", sig := { parameters := [], returnType := none }, accessFlags := 2, code := none }
def k1c1 : Code := { maxStack := 7, maxLocals := 18, code := code, exceptionTable := #[], attributes := #[] }
def k1m1 : Method := { name := "law", desc := "(JJJIII)Z", sig := { parameters := [.long, .long, .long, .int, .int, .int], returnType := some .boolean }, accessFlags := 9, code := some k1c1 }
/-- com/example/bowerbird/bowerbird/redis/ArgumentsRequireBetweenPinLaw -/
def k1 : Class := { plain "com/example/bowerbird/bowerbird/redis/ArgumentsRequireBetweenPinLaw" (some 0) with
  accessFlags := 49
  interfaces := #[]
  cf := some (fileOf pool1 27 #[] #[{ accessFlags := 2, nameIndex := 5, descriptorIndex := 6, attributes := #[] }, { accessFlags := 9, nameIndex := 31, descriptorIndex := 32, attributes := #[] }] 49 2 #[] #[])
  fields := #[]
  methods := #[k1m0, k1m1]
  instanceTypes := #[]
  staticTypes := #[]
  resolved := Array.replicate 36 none
  statics := none }

def pool2 : Array CpInfo := pool [(1, .class_ 2), (0, u "java/lang/Math"), (1, .class_ 6), (1, u "java/lang/Object"), (0, u "<init>"), (0, u "()V"), (89, .class_ 100), (1, u "java/lang/Math$RandomNumberGeneratorHolder"), (20, u "(JJ)J"), (50, u "negativeZeroFloatBits"), (0, u "J"), (2, u "negativeZeroDoubleBits"), (21, u "max"), (2, u "min"), (43, u "$assertionsDisabled"), (0, u "Z"), (91, u "twoToTheDoubleScaleDown"), (0, u "D"), (4, u "twoToTheDoubleScaleUp"), (9, u "E"), (3, u "PI"), (2, u "TAU"), (2, u "DEGREES_TO_RADIANS"), (0, u "RADIANS_TO_DEGREES")] 94

def k2m0 : Method := { name := "<init>", desc := "()V", sig := { parameters := [], returnType := none }, accessFlags := 2, code := none }
def k2c1 : Code := { maxStack := 4, maxLocals := 4, code := jdk_29_method_66_code, exceptionTable := #[], attributes := #[] }
def k2m1 : Method := { name := "max", desc := "(JJ)J", sig := { parameters := [.long, .long], returnType := some .long }, accessFlags := 9, code := some k2c1 }
def k2c2 : Code := { maxStack := 4, maxLocals := 4, code := jdk_29_method_70_code, exceptionTable := #[], attributes := #[] }
def k2m2 : Method := { name := "min", desc := "(JJ)J", sig := { parameters := [.long, .long], returnType := some .long }, accessFlags := 9, code := some k2c2 }
/-- java/lang/Math -/
def k2 : Class := { plain "java/lang/Math" (some 0) with
  accessFlags := 49
  interfaces := #[]
  cf := some (fileOf pool2 1 #[.nestMembers #[98]] #[{ accessFlags := 2, nameIndex := 7, descriptorIndex := 8, attributes := #[] }, { accessFlags := 9, nameIndex := 198, descriptorIndex := 121, attributes := #[] }, { accessFlags := 9, nameIndex := 201, descriptorIndex := 121, attributes := #[] }] 49 4 #[] #[{ accessFlags := 25, nameIndex := 354, descriptorIndex := 339, attributes := #[] }, { accessFlags := 25, nameIndex := 358, descriptorIndex := 339, attributes := #[] }, { accessFlags := 25, nameIndex := 361, descriptorIndex := 339, attributes := #[] }, { accessFlags := 26, nameIndex := 364, descriptorIndex := 339, attributes := #[] }, { accessFlags := 26, nameIndex := 365, descriptorIndex := 339, attributes := #[] }, { accessFlags := 26, nameIndex := 172, descriptorIndex := 173, attributes := #[] }, { accessFlags := 26, nameIndex := 176, descriptorIndex := 173, attributes := #[] }, { accessFlags := 8, nameIndex := 344, descriptorIndex := 339, attributes := #[] }, { accessFlags := 8, nameIndex := 338, descriptorIndex := 339, attributes := #[] }, { accessFlags := 4120, nameIndex := 245, descriptorIndex := 246, attributes := #[] }])
  fields := #[{ name := "E", type := .double, accessFlags := 25, slot := 0, constantValue := 0 }, { name := "PI", type := .double, accessFlags := 25, slot := 1, constantValue := 0 }, { name := "TAU", type := .double, accessFlags := 25, slot := 2, constantValue := 0 }, { name := "DEGREES_TO_RADIANS", type := .double, accessFlags := 26, slot := 3, constantValue := 0 }, { name := "RADIANS_TO_DEGREES", type := .double, accessFlags := 26, slot := 4, constantValue := 0 }, { name := "negativeZeroFloatBits", type := .long, accessFlags := 26, slot := 5, constantValue := 0 }, { name := "negativeZeroDoubleBits", type := .long, accessFlags := 26, slot := 6, constantValue := 0 }, { name := "twoToTheDoubleScaleUp", type := .double, accessFlags := 8, slot := 7, constantValue := 0 }, { name := "twoToTheDoubleScaleDown", type := .double, accessFlags := 8, slot := 8, constantValue := 0 }, { name := "$assertionsDisabled", type := .boolean, accessFlags := 4120, slot := 9, constantValue := 0 }]
  methods := #[k2m0, k2m1, k2m2]
  instanceTypes := #[]
  staticTypes := #[.double, .double, .double, .double, .double, .long, .long, .double, .double, .boolean]
  resolved := Array.replicate 460 none
  statics := none }

def pool3 : Array CpInfo := pool [(1, .class_ 2), (0, u "java/io/Serializable"), (0, .class_ 4), (0, u "java/lang/Object")] 2

/-- java/io/Serializable -/
def k3 : Class := { plain "java/io/Serializable" (some 0) with
  accessFlags := 1537
  interfaces := #[]
  cf := some (fileOf pool3 1 #[] #[] 1537 3 #[] #[])
  fields := #[]
  methods := #[]
  instanceTypes := #[]
  staticTypes := #[]
  resolved := Array.replicate 7 none
  statics := none }

def pool4 : Array CpInfo := pool [(1, .class_ 2), (0, u "java/lang/Comparable"), (0, .class_ 4), (0, u "java/lang/Object")] 7

/-- java/lang/Comparable -/
def k4 : Class := { plain "java/lang/Comparable" (some 0) with
  accessFlags := 1537
  interfaces := #[]
  cf := some (fileOf pool4 1 #[] #[] 1537 3 #[] #[])
  fields := #[]
  methods := #[]
  instanceTypes := #[]
  staticTypes := #[]
  resolved := Array.replicate 12 none
  statics := none }

def pool5 : Array CpInfo := pool [(2, .class_ 4), (1, u "java/lang/CharSequence"), (42, .class_ 48), (0, u "java/lang/CharSequence$1CodePointIterator"), (10, .class_ 60), (0, u "java/lang/CharSequence$1CharIterator"), (5, .class_ 67), (0, u "java/lang/Object")] 63

/-- java/lang/CharSequence -/
def k5 : Class := { plain "java/lang/CharSequence" (some 0) with
  accessFlags := 1537
  interfaces := #[]
  cf := some (fileOf pool5 2 #[.nestMembers #[47, 59]] #[] 1537 66 #[] #[])
  fields := #[]
  methods := #[]
  instanceTypes := #[]
  staticTypes := #[]
  resolved := Array.replicate 131 none
  statics := none }

def pool6 : Array CpInfo := pool [(1, .class_ 2), (0, u "java/lang/constant/Constable"), (0, .class_ 4), (0, u "java/lang/Object")] 6

/-- java/lang/constant/Constable -/
def k6 : Class := { plain "java/lang/constant/Constable" (some 0) with
  accessFlags := 1537
  interfaces := #[]
  cf := some (fileOf pool6 1 #[] #[] 1537 3 #[] #[])
  fields := #[]
  methods := #[]
  instanceTypes := #[]
  staticTypes := #[]
  resolved := Array.replicate 11 none
  statics := none }

def pool7 : Array CpInfo := pool [(1, .class_ 2), (0, u "java/lang/constant/ConstantDesc"), (0, .class_ 4), (0, u "java/lang/Object")] 32

/-- java/lang/constant/ConstantDesc -/
def k7 : Class := { plain "java/lang/constant/ConstantDesc" (some 0) with
  accessFlags := 1537
  interfaces := #[]
  cf := some (fileOf pool7 1 #[] #[] 1537 3 #[] #[])
  fields := #[]
  methods := #[]
  instanceTypes := #[]
  staticTypes := #[]
  resolved := Array.replicate 37 none
  statics := none }

def pool8 : Array CpInfo := pool [(1, .methodref 2 3), (0, .class_ 4), (0, .nameAndType 5 6), (0, u "java/lang/Object"), (0, u "<init>"), (0, u "()V"), (2, .fieldref 10 11), (0, .class_ 12), (0, .nameAndType 13 14), (0, u "java/lang/String"), (0, u "value"), (0, u "[B"), (0, .fieldref 10 16), (0, .nameAndType 17 18), (0, u "coder"), (0, u "B"), (2, u "hash"), (0, u "I"), (2, u "hashIsZero"), (0, u "Z"), (0, .methodref 10 28), (0, .nameAndType 5 29), (0, u "([CIILjava/lang/Void;)V"), (8, .fieldref 10 39), (0, .nameAndType 40 26), (0, u "COMPACT_STRINGS"), (1, .class_ 44), (1, u "java/lang/StringUTF16"), (0, u "compress"), (1, .methodref 42 48), (0, .nameAndType 49 50), (0, u "coderFromArrayLen"), (0, u "([BI)B"), (126, .methodref 42 178), (0, .nameAndType 45 179), (0, u "([CII)[B"), (395, .class_ 576), (0, u "java/lang/CharSequence"), (22, u "CASE_INSENSITIVE_ORDER"), (0, u "Ljava/util/Comparator;"), (409, u "([C)V"), (90, u "serialPersistentFields"), (0, u "[Ljava/io/ObjectStreamField;"), (0, .class_ 1104), (0, u "java/lang/String$CaseInsensitiveComparator"), (1, .class_ 1107), (0, u "java/io/Serializable"), (0, .class_ 1109), (0, u "java/lang/Comparable"), (0, .class_ 1111), (0, u "java/lang/constant/Constable"), (0, .class_ 1113), (0, u "java/lang/constant/ConstantDesc"), (2, u "serialVersionUID"), (0, u "J"), (3, u "REPL"), (0, u "C"), (2, u "LATIN1"), (1, u "UTF16")] 323

def k8m0 : Method := { name := "<init>", desc := "()V", sig := { parameters := [], returnType := none }, accessFlags := 1, code := none }
def k8c1 : Code := { maxStack := 5, maxLocals := 2, code := jdk_42_method_3_code, exceptionTable := #[], attributes := #[] }
def k8m1 : Method := { name := "<init>", desc := "([C)V", sig := { parameters := [(.array .char)], returnType := none }, accessFlags := 1, code := some k8c1 }
def k8c2 : Code := { maxStack := 4, maxLocals := 6, code := jdk_42_method_149_code, exceptionTable := #[], attributes := #[] }
def k8m2 : Method := { name := "<init>", desc := "([CIILjava/lang/Void;)V", sig := { parameters := [(.array .char), .int, .int, (.object "java/lang/Void")], returnType := none }, accessFlags := 2, code := some k8c2 }
/-- java/lang/String -/
def k8 : Class := { plain "java/lang/String" (some 0) with
  accessFlags := 49
  interfaces := #[3, 4, 5, 6, 7]
  cf := some (fileOf pool8 10 #[.nestMembers #[1103]] #[{ accessFlags := 1, nameIndex := 5, descriptorIndex := 6, attributes := #[] }, { accessFlags := 1, nameIndex := 5, descriptorIndex := 1010, attributes := #[] }, { accessFlags := 2, nameIndex := 5, descriptorIndex := 29, attributes := #[] }] 49 2 #[1106, 1108, 575, 1110, 1112] #[{ accessFlags := 18, nameIndex := 13, descriptorIndex := 14, attributes := #[] }, { accessFlags := 18, nameIndex := 17, descriptorIndex := 18, attributes := #[] }, { accessFlags := 2, nameIndex := 21, descriptorIndex := 22, attributes := #[] }, { accessFlags := 2, nameIndex := 25, descriptorIndex := 26, attributes := #[] }, { accessFlags := 26, nameIndex := 1116, descriptorIndex := 1117, attributes := #[] }, { accessFlags := 24, nameIndex := 40, descriptorIndex := 26, attributes := #[] }, { accessFlags := 26, nameIndex := 1101, descriptorIndex := 1102, attributes := #[] }, { accessFlags := 26, nameIndex := 1121, descriptorIndex := 1122, attributes := #[] }, { accessFlags := 25, nameIndex := 599, descriptorIndex := 600, attributes := #[] }, { accessFlags := 24, nameIndex := 1125, descriptorIndex := 18, attributes := #[] }, { accessFlags := 24, nameIndex := 1127, descriptorIndex := 18, attributes := #[] }])
  fields := #[{ name := "value", type := (.array .byte), accessFlags := 18, slot := 0, constantValue := 0 }, { name := "coder", type := .byte, accessFlags := 18, slot := 1, constantValue := 0 }, { name := "hash", type := .int, accessFlags := 2, slot := 2, constantValue := 0 }, { name := "hashIsZero", type := .boolean, accessFlags := 2, slot := 3, constantValue := 0 }, { name := "serialVersionUID", type := .long, accessFlags := 26, slot := 0, constantValue := 0 }, { name := "COMPACT_STRINGS", type := .boolean, accessFlags := 24, slot := 1, constantValue := 0 }, { name := "serialPersistentFields", type := (.array (.object "java/io/ObjectStreamField")), accessFlags := 26, slot := 2, constantValue := 0 }, { name := "REPL", type := .char, accessFlags := 26, slot := 3, constantValue := 0 }, { name := "CASE_INSENSITIVE_ORDER", type := (.object "java/util/Comparator"), accessFlags := 25, slot := 4, constantValue := 0 }, { name := "LATIN1", type := .byte, accessFlags := 24, slot := 5, constantValue := 0 }, { name := "UTF16", type := .byte, accessFlags := 24, slot := 6, constantValue := 0 }]
  methods := #[k8m0, k8m1, k8m2]
  instanceTypes := #[(.array .byte), .byte, .int, .boolean]
  staticTypes := #[.long, .boolean, (.array (.object "java/io/ObjectStreamField")), .char, (.object "java/util/Comparator"), .byte, .byte]
  resolved := Array.replicate 1451 none
  statics := some 0 }

def pool9 : Array CpInfo := pool [(6, .class_ 8), (1, u "java/lang/Object"), (0, u "<init>"), (0, u "()V"), (1, .class_ 14), (1, u "java/lang/StringUTF16"), (31, u "$assertionsDisabled"), (0, u "Z"), (13, u "HI_BYTE_SHIFT"), (0, u "I"), (2, u "LO_BYTE_SHIFT"), (49, .methodref 12 116), (0, .nameAndType 117 118), (0, u "compress"), (0, u "([CI[BII)I"), (3, u "([CII)[B"), (138, u "coderFromArrayLen"), (0, u "([BI)B"), (106, .class_ 371), (1, u "java/lang/StringUTF16$LinesSpliterator"), (58, u "MAX_LENGTH"), (196, .class_ 628), (0, u "java/lang/StringUTF16$CodePointsSpliterator"), (0, .class_ 630), (0, u "java/lang/StringUTF16$CharsSpliterator")] 4

def k9m0 : Method := { name := "<init>", desc := "()V", sig := { parameters := [], returnType := none }, accessFlags := 0, code := none }
def k9c1 : Code := { maxStack := 2, maxLocals := 2, code := jdk_52_method_15_code, exceptionTable := #[], attributes := #[] }
def k9m1 : Method := { name := "coderFromArrayLen", desc := "([BI)B", sig := { parameters := [(.array .byte), .int], returnType := some .byte }, accessFlags := 8, code := some k9c1 }
def k9c2 : Code := { maxStack := 5, maxLocals := 6, code := jdk_52_method_16_code, exceptionTable := #[], attributes := #[] }
def k9m2 : Method := { name := "compress", desc := "([CII)[B", sig := { parameters := [(.array .char), .int, .int], returnType := some (.array .byte) }, accessFlags := 9, code := some k9c2 }
def k9c3 : Code := { maxStack := 3, maxLocals := 7, code := jdk_52_method_21_code, exceptionTable := #[], attributes := #[] }
def k9m3 : Method := { name := "compress", desc := "([CI[BII)I", sig := { parameters := [(.array .char), .int, (.array .byte), .int, .int], returnType := some .int }, accessFlags := 9, code := some k9c3 }
/-- java/lang/StringUTF16 -/
def k9 : Class := { plain "java/lang/StringUTF16" (some 0) with
  accessFlags := 48
  interfaces := #[]
  cf := some (fileOf pool9 12 #[.nestMembers #[627, 629, 369]] #[{ accessFlags := 0, nameIndex := 9, descriptorIndex := 10, attributes := #[] }, { accessFlags := 8, nameIndex := 261, descriptorIndex := 262, attributes := #[] }, { accessFlags := 9, nameIndex := 117, descriptorIndex := 122, attributes := #[] }, { accessFlags := 9, nameIndex := 117, descriptorIndex := 118, attributes := #[] }] 48 6 #[] #[{ accessFlags := 26, nameIndex := 61, descriptorIndex := 62, attributes := #[] }, { accessFlags := 26, nameIndex := 65, descriptorIndex := 62, attributes := #[] }, { accessFlags := 24, nameIndex := 430, descriptorIndex := 62, attributes := #[] }, { accessFlags := 4120, nameIndex := 46, descriptorIndex := 47, attributes := #[] }])
  fields := #[{ name := "HI_BYTE_SHIFT", type := .int, accessFlags := 26, slot := 0, constantValue := 0 }, { name := "LO_BYTE_SHIFT", type := .int, accessFlags := 26, slot := 1, constantValue := 0 }, { name := "MAX_LENGTH", type := .int, accessFlags := 24, slot := 2, constantValue := 0 }, { name := "$assertionsDisabled", type := .boolean, accessFlags := 4120, slot := 3, constantValue := 0 }]
  methods := #[k9m0, k9m1, k9m2, k9m3]
  instanceTypes := #[]
  staticTypes := #[.int, .int, .int, .boolean]
  resolved := Array.replicate 635 none
  statics := none }

def pool10 : Array CpInfo := pool [(2, .class_ 4), (1, u "java/lang/Object"), (0, u "<init>"), (0, u "()V"), (13, .class_ 21), (0, u "com/example/bowerbird/bowerbird/redis/Arguments"), (6, u "requireBetween"), (0, u "(JJJLjava/lang/String;)V")] 21

def k10m0 : Method := { name := "<init>", desc := "()V", sig := { parameters := [], returnType := none }, accessFlags := 2, code := none }
def k10c1 : Code := { maxStack := 9, maxLocals := 7, code := prog_23_method_4_code, exceptionTable := #[], attributes := #[] }
def k10m1 : Method := { name := "requireBetween", desc := "(JJJLjava/lang/String;)V", sig := { parameters := [.long, .long, .long, (.object "java/lang/String")], returnType := none }, accessFlags := 8, code := some k10c1 }
/-- com/example/bowerbird/bowerbird/redis/Arguments -/
def k10 : Class := { plain "com/example/bowerbird/bowerbird/redis/Arguments" (some 0) with
  accessFlags := 48
  interfaces := #[]
  cf := some (fileOf pool10 20 #[] #[{ accessFlags := 2, nameIndex := 5, descriptorIndex := 6, attributes := #[] }, { accessFlags := 8, nameIndex := 28, descriptorIndex := 29, attributes := #[] }] 48 2 #[] #[])
  fields := #[]
  methods := #[k10m0, k10m1]
  instanceTypes := #[]
  staticTypes := #[]
  resolved := Array.replicate 51 none
  statics := none }

def pool11 : Array CpInfo := pool [(4, .class_ 6), (1, u "java/lang/Object"), (0, u "<init>"), (0, u "()V"), (5, .class_ 16), (1, u "java/lang/StringLatin1"), (104, u "$assertionsDisabled"), (0, u "Z"), (98, .class_ 223), (1, u "java/lang/StringLatin1$LinesSpliterator"), (166, .class_ 391), (0, u "java/lang/StringLatin1$CharsSpliterator")] 3

def k11m0 : Method := { name := "<init>", desc := "()V", sig := { parameters := [], returnType := none }, accessFlags := 0, code := none }
/-- java/lang/StringLatin1 -/
def k11 : Class := { plain "java/lang/StringLatin1" (some 0) with
  accessFlags := 48
  interfaces := #[]
  cf := some (fileOf pool11 14 #[.nestMembers #[390, 221]] #[{ accessFlags := 0, nameIndex := 7, descriptorIndex := 8, attributes := #[] }] 48 4 #[] #[{ accessFlags := 4120, nameIndex := 121, descriptorIndex := 122, attributes := #[] }])
  fields := #[{ name := "$assertionsDisabled", type := .boolean, accessFlags := 4120, slot := 0, constantValue := 0 }]
  methods := #[k11m0]
  instanceTypes := #[]
  staticTypes := #[.boolean]
  resolved := Array.replicate 395 none
  statics := none }

def pool12 : Array CpInfo := pool [(2, .class_ 4), (1, u "java/lang/Object"), (0, u "<init>"), (0, u "()V"), (17, .class_ 26), (1, u "jdk/internal/util/Preconditions"), (28, .class_ 56), (0, u "jdk/internal/util/Preconditions$4"), (57, .class_ 115), (0, u "jdk/internal/util/Preconditions$1"), (7, u "SIOOBE_FORMATTER"), (0, u "Ljava/util/function/BiFunction;"), (0, .class_ 126), (0, u "jdk/internal/util/Preconditions$2"), (3, u "AIOOBE_FORMATTER"), (0, .class_ 132), (0, u "jdk/internal/util/Preconditions$3"), (3, u "IOOBE_FORMATTER")] 57

def k12m0 : Method := { name := "<init>", desc := "()V", sig := { parameters := [], returnType := none }, accessFlags := 1, code := none }
/-- jdk/internal/util/Preconditions -/
def k12 : Class := { plain "jdk/internal/util/Preconditions" (some 0) with
  accessFlags := 33
  interfaces := #[]
  cf := some (fileOf pool12 24 #[.nestMembers #[55, 131, 125, 114]] #[{ accessFlags := 1, nameIndex := 5, descriptorIndex := 6, attributes := #[] }] 33 2 #[] #[{ accessFlags := 25, nameIndex := 123, descriptorIndex := 124, attributes := #[] }, { accessFlags := 25, nameIndex := 130, descriptorIndex := 124, attributes := #[] }, { accessFlags := 25, nameIndex := 136, descriptorIndex := 124, attributes := #[] }])
  fields := #[{ name := "SIOOBE_FORMATTER", type := (.object "java/util/function/BiFunction"), accessFlags := 25, slot := 0, constantValue := 0 }, { name := "AIOOBE_FORMATTER", type := (.object "java/util/function/BiFunction"), accessFlags := 25, slot := 1, constantValue := 0 }, { name := "IOOBE_FORMATTER", type := (.object "java/util/function/BiFunction"), accessFlags := 25, slot := 2, constantValue := 0 }]
  methods := #[k12m0]
  instanceTypes := #[]
  staticTypes := #[(.object "java/util/function/BiFunction"), (.object "java/util/function/BiFunction"), (.object "java/util/function/BiFunction")]
  resolved := Array.replicate 194 none
  statics := some 1 }

def pool13 : Array CpInfo := pool [(9, u "<init>"), (6, .class_ 18), (1, u "java/lang/Object"), (0, u "()V"), (1, .class_ 23), (1, u "jdk/internal/util/ArraysSupport"), (0, u "LOG2_ARRAY_LONG_INDEX_SCALE"), (0, u "I"), (2, u "U"), (0, u "Ljdk/internal/misc/Unsafe;"), (8, u "BIG_ENDIAN"), (0, u "Z"), (8, u "LOG2_BYTE_BIT_SIZE"), (4, u "LOG2_ARRAY_INT_INDEX_SCALE"), (54, u "JLA"), (0, u "Ljdk/internal/access/JavaLangAccess;"), (11, u "LOG2_ARRAY_BOOLEAN_INDEX_SCALE"), (9, u "LOG2_ARRAY_BYTE_INDEX_SCALE"), (5, u "LOG2_ARRAY_CHAR_INDEX_SCALE"), (5, u "LOG2_ARRAY_SHORT_INDEX_SCALE"), (18, u "LOG2_ARRAY_FLOAT_INDEX_SCALE"), (24, u "LOG2_ARRAY_DOUBLE_INDEX_SCALE"), (89, u "T_BOOLEAN"), (2, u "T_CHAR"), (1, u "T_FLOAT"), (1, u "T_DOUBLE"), (1, u "T_BYTE"), (1, u "T_SHORT"), (1, u "T_INT"), (1, u "T_LONG"), (1, u "SOFT_MAX_ARRAY_LENGTH")] 83

def k13m0 : Method := { name := "<init>", desc := "()V", sig := { parameters := [], returnType := none }, accessFlags := 2, code := none }
/-- jdk/internal/util/ArraysSupport -/
def k13 : Class := { plain "jdk/internal/util/ArraysSupport" (some 0) with
  accessFlags := 33
  interfaces := #[]
  cf := some (fileOf pool13 21 #[] #[{ accessFlags := 2, nameIndex := 9, descriptorIndex := 19, attributes := #[] }] 33 16 #[] #[{ accessFlags := 24, nameIndex := 28, descriptorIndex := 29, attributes := #[] }, { accessFlags := 26, nameIndex := 38, descriptorIndex := 39, attributes := #[] }, { accessFlags := 25, nameIndex := 121, descriptorIndex := 25, attributes := #[] }, { accessFlags := 25, nameIndex := 131, descriptorIndex := 25, attributes := #[] }, { accessFlags := 25, nameIndex := 137, descriptorIndex := 25, attributes := #[] }, { accessFlags := 25, nameIndex := 143, descriptorIndex := 25, attributes := #[] }, { accessFlags := 25, nameIndex := 53, descriptorIndex := 25, attributes := #[] }, { accessFlags := 25, nameIndex := 24, descriptorIndex := 25, attributes := #[] }, { accessFlags := 25, nameIndex := 162, descriptorIndex := 25, attributes := #[] }, { accessFlags := 25, nameIndex := 187, descriptorIndex := 25, attributes := #[] }, { accessFlags := 26, nameIndex := 48, descriptorIndex := 25, attributes := #[] }, { accessFlags := 25, nameIndex := 277, descriptorIndex := 25, attributes := #[] }, { accessFlags := 25, nameIndex := 280, descriptorIndex := 25, attributes := #[] }, { accessFlags := 25, nameIndex := 282, descriptorIndex := 25, attributes := #[] }, { accessFlags := 25, nameIndex := 284, descriptorIndex := 25, attributes := #[] }, { accessFlags := 25, nameIndex := 286, descriptorIndex := 25, attributes := #[] }, { accessFlags := 25, nameIndex := 288, descriptorIndex := 25, attributes := #[] }, { accessFlags := 25, nameIndex := 290, descriptorIndex := 25, attributes := #[] }, { accessFlags := 25, nameIndex := 292, descriptorIndex := 25, attributes := #[] }, { accessFlags := 26, nameIndex := 108, descriptorIndex := 109, attributes := #[] }, { accessFlags := 25, nameIndex := 294, descriptorIndex := 25, attributes := #[] }])
  fields := #[{ name := "U", type := (.object "jdk/internal/misc/Unsafe"), accessFlags := 24, slot := 0, constantValue := 0 }, { name := "BIG_ENDIAN", type := .boolean, accessFlags := 26, slot := 1, constantValue := 0 }, { name := "LOG2_ARRAY_BOOLEAN_INDEX_SCALE", type := .int, accessFlags := 25, slot := 2, constantValue := 0 }, { name := "LOG2_ARRAY_BYTE_INDEX_SCALE", type := .int, accessFlags := 25, slot := 3, constantValue := 0 }, { name := "LOG2_ARRAY_CHAR_INDEX_SCALE", type := .int, accessFlags := 25, slot := 4, constantValue := 0 }, { name := "LOG2_ARRAY_SHORT_INDEX_SCALE", type := .int, accessFlags := 25, slot := 5, constantValue := 0 }, { name := "LOG2_ARRAY_INT_INDEX_SCALE", type := .int, accessFlags := 25, slot := 6, constantValue := 0 }, { name := "LOG2_ARRAY_LONG_INDEX_SCALE", type := .int, accessFlags := 25, slot := 7, constantValue := 0 }, { name := "LOG2_ARRAY_FLOAT_INDEX_SCALE", type := .int, accessFlags := 25, slot := 8, constantValue := 0 }, { name := "LOG2_ARRAY_DOUBLE_INDEX_SCALE", type := .int, accessFlags := 25, slot := 9, constantValue := 0 }, { name := "LOG2_BYTE_BIT_SIZE", type := .int, accessFlags := 26, slot := 10, constantValue := 0 }, { name := "T_BOOLEAN", type := .int, accessFlags := 25, slot := 11, constantValue := 0 }, { name := "T_CHAR", type := .int, accessFlags := 25, slot := 12, constantValue := 0 }, { name := "T_FLOAT", type := .int, accessFlags := 25, slot := 13, constantValue := 0 }, { name := "T_DOUBLE", type := .int, accessFlags := 25, slot := 14, constantValue := 0 }, { name := "T_BYTE", type := .int, accessFlags := 25, slot := 15, constantValue := 0 }, { name := "T_SHORT", type := .int, accessFlags := 25, slot := 16, constantValue := 0 }, { name := "T_INT", type := .int, accessFlags := 25, slot := 17, constantValue := 0 }, { name := "T_LONG", type := .int, accessFlags := 25, slot := 18, constantValue := 0 }, { name := "JLA", type := (.object "jdk/internal/access/JavaLangAccess"), accessFlags := 26, slot := 19, constantValue := 0 }, { name := "SOFT_MAX_ARRAY_LENGTH", type := .int, accessFlags := 25, slot := 20, constantValue := 0 }]
  methods := #[k13m0]
  instanceTypes := #[]
  staticTypes := #[(.object "jdk/internal/misc/Unsafe"), .boolean, .int, .int, .int, .int, .int, .int, .int, .int, .int, .int, .int, .int, .int, .int, .int, .int, .int, (.object "jdk/internal/access/JavaLangAccess"), .int]
  resolved := Array.replicate 378 none
  statics := none }

def pool14 : Array CpInfo := pool [(1, u "java/lang/Cloneable"), (0, .class_ 1), (0, u "java/lang/Object"), (0, .class_ 3)] 3

/-- java/lang/Cloneable -/
def k14 : Class := { plain "java/lang/Cloneable" (some 0) with
  accessFlags := 1537
  interfaces := #[]
  cf := some (fileOf pool14 2 #[] #[] 1537 4 #[] #[])
  fields := #[]
  methods := #[]
  instanceTypes := #[]
  staticTypes := #[]
  resolved := Array.replicate 8 none
  statics := none }

/-- the primitive byte -/
def k15 : Class := { plain "byte" none with kind := .primitive 'B', accessFlags := 0x411 }
/-- [B -/
def k16 : Class := { plain "[B" (some 0) with kind := .array 15 .byte, interfaces := #[14, 3], accessFlags := 1041 }

/-- the primitive char -/
def k17 : Class := { plain "char" none with kind := .primitive 'C', accessFlags := 0x411 }
/-- [C -/
def k18 : Class := { plain "[C" (some 0) with kind := .array 17 .char, interfaces := #[14, 3], accessFlags := 1041 }

/-- the primitive int -/
def k19 : Class := { plain "int" none with kind := .primitive 'I', accessFlags := 0x411 }
/-- [I -/
def k20 : Class := { plain "[I" (some 0) with kind := .array 19 .int, interfaces := #[14, 3], accessFlags := 1041 }

def heap : Heap := #[{ cls := 8, slots := #[.long 0, .int 1, .null, .int 0, .null, .int 0, .int 0], vm := .statics 8 },
  { cls := 12, slots := #[.null, .null, .null], vm := .statics 12 }]
def classes : Array Class := #[k0, k1, k2, k3, k4, k5, k6, k7, k8, k9, k10, k11, k12, k13, k14, k15, k16, k17, k18, k19, k20]
def interned : List (Array UInt16 × Addr) := []
def slotsUsed : Nat := 10
def theMethod : MethodId := ⟨1, 1⟩
def args0 : Array Value := #[.long 5, .long 7, .long 3, .int 1, .int 65, .int 66]
def aboutOver (below : List Frame) : State where
  vm := { classes := classes, interned := interned.toArray }
  heap := heap
  slotsUsed := slotsUsed
  threads := #[{ frames := .invoking theMethod args0 :: below }]
def below0 : List Frame := [.native { method := ⟨0, 0⟩, args := #[] }]
def about1 : State := aboutOver below0
def p0 : Program := .bare "" "" ""
def e0 : Env := launch0.env 0 0 0
theorem w_frames : about1.frames = Frame.invoking theMethod args0 :: below0 := rfl
set_option maxRecDepth 65536 in
theorem w_args : argsFit about1.vm theMethod args0 = true := by decide +kernel
set_option maxRecDepth 65536 in
theorem w_heap : heapFits about1 = true := by decide +kernel
set_option maxRecDepth 65536 in
theorem w_runnable : about1.curStatus? = some .runnable := by decide +kernel
set_option maxRecDepth 65536 in
theorem w_alone : about1.alone = true := by decide +kernel
set_option maxRecDepth 65536 in
theorem w_named : about1.methodNamed? x = some theMethod := by decide +kernel
set_option maxRecDepth 65536 in
theorem w_hears : about1.hears theMethod below0 = true := by decide +kernel
set_option maxRecDepth 65536 in
theorem w_ripe : about1.ripe theMethod args0 below0 = true := by decide +kernel
theorem w_running : about1.status = .running := rfl
set_option maxRecDepth 65536 in
theorem w_room : about1.hasRoom e0.platform room_1 = true :=
  launch0.hasRoom_least _ room_1 (by decide +kernel) (by decide +kernel) (by decide +kernel) (by decide +kernel) (by decide +kernel) (by decide +kernel)
theorem allAtoms_all (ts : List Jvm.Cond) (a : Array Jvm.Value) (st : Jvm.State) : (allAtoms ts).before a st = ts.all (fun c => c.before a st) := by
  induction ts with
  | nil => rfl
  | cons c t ih =>
    show (Jvm.Cond.and c (allAtoms t)).before a st = _
    rw [Jvm.Cond.before_and, ih, List.all_cons]
def words1 : List Jvm.Cond := Jvm.Cond.code x code maxLocals ret :: tables_1
/-- a 'code' word, met by the world's own term for the bytes: nothing is compared byte by byte -/
theorem code_word {y : MethodName} {bytes : ByteArray} {mx : Nat} {rt : Option FieldType} {a : Array Value} {s : State} {m : MethodId} {meth : Method} {c : Code} (h1 : s.methodNamed? y = some m) (h2 : s.vm.method? m = some meth) (h3 : meth.code = some c) (h4 : c.code = bytes)
    (h5 : (c.maxLocals == mx && c.exceptionTable.isEmpty && decide (c.maxStack ≤ mostOperands) && decide (meth.sig.returnType = rt) && !meth.locks && decide (parseMethodDescriptor y.desc = some meth.sig)) = true) : (Jvm.Cond.code y bytes mx rt).before a s = true := by
  simp only [Bool.and_eq_true, beq_iff_eq, Bool.not_eq_true', decide_eq_true_eq] at h5
  obtain ⟨⟨⟨⟨⟨g1, g2⟩, g3⟩, g4⟩, g5⟩, g6⟩ := h5
  simp [Cond.before, Cond.holds, Cond.value, h1, h2, h3, h4, g1, g2, g3, g4, g5, g6]
def isCode : Jvm.Cond → Bool
  | .code _ _ _ _ => true
  | _ => false
theorem all_split {L : List Jvm.Cond} {P : Jvm.Cond → Bool} (h1 : L.all (fun c => isCode c || P c) = true) (h2 : ∀ c ∈ L.filter isCode, P c = true) : L.all P = true := by
  refine List.all_eq_true.mpr fun c hc => ?_
  have h := List.all_eq_true.mp h1 c hc
  rcases Bool.eq_false_or_eq_true (isCode c) with hi | hi
  · exact h2 c (List.mem_filter.mpr ⟨hc, hi⟩)
  · simpa [hi] using h
set_option maxRecDepth 65536 in
theorem w_c0 : (Jvm.Cond.code x code maxLocals ret).before args0 about1 = true := code_word (m := ⟨1, 1⟩) (meth := k1m1) (c := k1c1) (by decide +kernel) rfl rfl rfl (by decide +kernel)
set_option maxRecDepth 65536 in
theorem w_c1 : (Jvm.Cond.code ({ cls := "java/lang/Math", name := "min", desc := "(JJ)J" } : Jvm.MethodName) jdk_29_method_70_code (4 : Nat) (Option.some Jvm.ClassFile.FieldType.long)).before args0 about1 = true := code_word (m := ⟨2, 2⟩) (meth := k2m2) (c := k2c2) (by decide +kernel) rfl rfl rfl (by decide +kernel)
set_option maxRecDepth 65536 in
theorem w_c2 : (Jvm.Cond.code ({ cls := "java/lang/Math", name := "max", desc := "(JJ)J" } : Jvm.MethodName) jdk_29_method_66_code (4 : Nat) (Option.some Jvm.ClassFile.FieldType.long)).before args0 about1 = true := code_word (m := ⟨2, 1⟩) (meth := k2m1) (c := k2c1) (by decide +kernel) rfl rfl rfl (by decide +kernel)
set_option maxRecDepth 65536 in
theorem w_c3 : (Jvm.Cond.code ({ cls := "java/lang/String", name := "<init>", desc := "([C)V" } : Jvm.MethodName) jdk_42_method_3_code (2 : Nat) (Option.none : Option Jvm.ClassFile.FieldType)).before args0 about1 = true := code_word (m := ⟨8, 1⟩) (meth := k8m1) (c := k8c1) (by decide +kernel) rfl rfl rfl (by decide +kernel)
set_option maxRecDepth 65536 in
theorem w_c4 : (Jvm.Cond.code ({ cls := "java/lang/String", name := "<init>", desc := "([CIILjava/lang/Void;)V" } : Jvm.MethodName) jdk_42_method_149_code (6 : Nat) (Option.none : Option Jvm.ClassFile.FieldType)).before args0 about1 = true := code_word (m := ⟨8, 2⟩) (meth := k8m2) (c := k8c2) (by decide +kernel) rfl rfl rfl (by decide +kernel)
set_option maxRecDepth 65536 in
theorem w_c5 : (Jvm.Cond.code ({ cls := "java/lang/Object", name := "<init>", desc := "()V" } : Jvm.MethodName) object_method_1_code (1 : Nat) (Option.none : Option Jvm.ClassFile.FieldType)).before args0 about1 = true := code_word (m := ⟨0, 0⟩) (meth := k0m0) (c := k0c0) (by decide +kernel) rfl rfl rfl (by decide +kernel)
set_option maxRecDepth 65536 in
theorem w_c6 : (Jvm.Cond.code ({ cls := "java/lang/StringUTF16", name := "compress", desc := "([CII)[B" } : Jvm.MethodName) jdk_52_method_16_code (6 : Nat) (Option.some (Jvm.ClassFile.FieldType.array Jvm.ClassFile.FieldType.byte))).before args0 about1 = true := code_word (m := ⟨9, 2⟩) (meth := k9m2) (c := k9c2) (by decide +kernel) rfl rfl rfl (by decide +kernel)
set_option maxRecDepth 65536 in
theorem w_c7 : (Jvm.Cond.code ({ cls := "java/lang/StringUTF16", name := "compress", desc := "([CI[BII)I" } : Jvm.MethodName) jdk_52_method_21_code (7 : Nat) (Option.some Jvm.ClassFile.FieldType.int)).before args0 about1 = true := code_word (m := ⟨9, 3⟩) (meth := k9m3) (c := k9c3) (by decide +kernel) rfl rfl rfl (by decide +kernel)
set_option maxRecDepth 65536 in
theorem w_c8 : (Jvm.Cond.code ({ cls := "java/lang/StringUTF16", name := "coderFromArrayLen", desc := "([BI)B" } : Jvm.MethodName) jdk_52_method_15_code (2 : Nat) (Option.some Jvm.ClassFile.FieldType.byte)).before args0 about1 = true := code_word (m := ⟨9, 1⟩) (meth := k9m1) (c := k9c1) (by decide +kernel) rfl rfl rfl (by decide +kernel)
set_option maxRecDepth 65536 in
theorem w_c9 : (Jvm.Cond.code ({ cls := "com/example/bowerbird/bowerbird/redis/Arguments", name := "requireBetween", desc := "(JJJLjava/lang/String;)V" } : Jvm.MethodName) prog_23_method_4_code (7 : Nat) (Option.none : Option Jvm.ClassFile.FieldType)).before args0 about1 = true := code_word (m := ⟨10, 1⟩) (meth := k10m1) (c := k10c1) (by decide +kernel) rfl rfl rfl (by decide +kernel)
def codes1 : List Jvm.Cond := [Jvm.Cond.code x code maxLocals ret, Jvm.Cond.code ({ cls := "java/lang/Math", name := "min", desc := "(JJ)J" } : Jvm.MethodName) jdk_29_method_70_code (4 : Nat) (Option.some Jvm.ClassFile.FieldType.long), Jvm.Cond.code ({ cls := "java/lang/Math", name := "max", desc := "(JJ)J" } : Jvm.MethodName) jdk_29_method_66_code (4 : Nat) (Option.some Jvm.ClassFile.FieldType.long), Jvm.Cond.code ({ cls := "java/lang/String", name := "<init>", desc := "([C)V" } : Jvm.MethodName) jdk_42_method_3_code (2 : Nat) (Option.none : Option Jvm.ClassFile.FieldType), Jvm.Cond.code ({ cls := "java/lang/String", name := "<init>", desc := "([CIILjava/lang/Void;)V" } : Jvm.MethodName) jdk_42_method_149_code (6 : Nat) (Option.none : Option Jvm.ClassFile.FieldType), Jvm.Cond.code ({ cls := "java/lang/Object", name := "<init>", desc := "()V" } : Jvm.MethodName) object_method_1_code (1 : Nat) (Option.none : Option Jvm.ClassFile.FieldType), Jvm.Cond.code ({ cls := "java/lang/StringUTF16", name := "compress", desc := "([CII)[B" } : Jvm.MethodName) jdk_52_method_16_code (6 : Nat) (Option.some (Jvm.ClassFile.FieldType.array Jvm.ClassFile.FieldType.byte)), Jvm.Cond.code ({ cls := "java/lang/StringUTF16", name := "compress", desc := "([CI[BII)I" } : Jvm.MethodName) jdk_52_method_21_code (7 : Nat) (Option.some Jvm.ClassFile.FieldType.int), Jvm.Cond.code ({ cls := "java/lang/StringUTF16", name := "coderFromArrayLen", desc := "([BI)B" } : Jvm.MethodName) jdk_52_method_15_code (2 : Nat) (Option.some Jvm.ClassFile.FieldType.byte), Jvm.Cond.code ({ cls := "com/example/bowerbird/bowerbird/redis/Arguments", name := "requireBetween", desc := "(JJJLjava/lang/String;)V" } : Jvm.MethodName) prog_23_method_4_code (7 : Nat) (Option.none : Option Jvm.ClassFile.FieldType)]
set_option maxRecDepth 65536 in
theorem codes_eq : words1.filter isCode = codes1 := rfl
theorem w_codes : ∀ c ∈ words1.filter isCode, c.before args0 about1 = true := by
  rw [codes_eq]
  intro c hc
  simp only [codes1, List.mem_cons, List.not_mem_nil, or_false] at hc
  rcases hc with rfl | rfl | rfl | rfl | rfl | rfl | rfl | rfl | rfl | rfl
  · exact w_c0
  · exact w_c1
  · exact w_c2
  · exact w_c3
  · exact w_c4
  · exact w_c5
  · exact w_c6
  · exact w_c7
  · exact w_c8
  · exact w_c9
set_option maxRecDepth 65536 in
theorem w_t1 : (words1.take 24).all (fun c => isCode c || c.before args0 about1) = true := by decide +kernel
set_option maxRecDepth 65536 in
theorem w_t2 : (words1.drop 24).all (fun c => isCode c || c.before args0 about1) = true := by decide +kernel
theorem w_tables : (allAtoms (Jvm.Cond.code x code maxLocals ret :: tables_1)).before args0 about1 = true := by
  rw [allAtoms_all]
  show words1.all (fun c => c.before args0 about1) = true
  refine all_split ?_ w_codes
  rw [← List.take_append_drop 24 words1, List.all_append, w_t1, w_t2]
  rfl
set_option maxRecDepth 65536 in
theorem w_rest : rest_1_c.before args0 about1 = true := by decide +kernel
set_option maxRecDepth 65536 in
theorem w_case : (Jvm.Cond.and given_1 narrow_1).before args0 about1 = true := by decide +kernel
theorem w_applies : (headSpec (Jvm.Cond.code x code maxLocals ret :: tables_1) room_1).applies x e0.platform about1 = true :=
  (Spec.applies_iff w_frames).mpr ⟨w_running, w_runnable, w_alone, w_named, w_hears, w_ripe, w_room, w_tables⟩
theorem atStart : AtStart classFile x code maxLocals ret World_1 tables_1 room_1 Calls_1 rest_1 Pre_1 launch0 p0 e0 about1 theMethod args0 below0 :=
  ⟨lists_1, trivial, launch0.admits_env _ _ _, launch0.least_env, fairChoices_fair.cas, fairChoices_fair.clock, w_frames, w_args, w_heap, w_applies, trivial, w_rest, w_case⟩
end start1
theorem witness_1 : WitnessClaimed_1 := ⟨start1.p0, start1.e0, start1.about1, start1.theMethod, start1.args0, start1.below0, start1.atStart⟩
end Jvm.Pilot.@@N@@
