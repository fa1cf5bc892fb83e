import JvmDerived
import JvmDerived.Pilot.@@N@@Statement
import JvmDerived.Pilot.@@N@@Code
set_option linter.unusedVariables false
set_option linter.unusedSimpArgs false
namespace Jvm.RoadKit
open Sem ClassFile Op Lib Jvm.Stand Jvm.Free Jvm.LawKit
section New
variable {p : Program} {l : Launch} {e : Env} {R : Room} {s : State} {m : MethodId} {args : Array Value} {below : List Frame} {meth : Method} {c : Code} {T : State} {locs : List Loc} {cells slots : Nat}
theorem retI (X : Stand p l e R s m args below meth c T locs cells slots) (hx : p.tables.exec = Jvm.exec) {pc : Nat} {Ls : Array Slot} {z : Int32} {rest : List Value} (hret : meth.sig.returnType = some .int) (hd : decode c.code pc = .ok (.ireturn, 1)) {fs : List Frame}
    (hl : ∀ (f : JFrame) (acts : List Action), f.method = m → f.locked = none → f.entered = [] → (doReturn e (T.setTop f) acts (some (.int z))).1 = T.setFrames fs) : Steps p.tables e below (T.setTop (mkF m pc Ls (.int z :: rest))) (T.setFrames fs) := by
  have hm' : T.vm.method? m = some meth := X.method'
  have hn : narrow .int (.int z) = .int z := rfl
  show Steps p.tables e below (T.setTop { method := m, pc := pc, locals := Ls, stack := _ :: rest, locked := none }) _
  jvm_step X.here [X.here.top, hx, hd, hm', hret, hn]
  first | (intro acts; rw [hl _ acts rfl rfl rfl]) | rw [hl _ _ rfl rfl rfl]
  exact Steps.refl _
theorem retA (X : Stand p l e R s m args below meth c T locs cells slots) (hx : p.tables.exec = Jvm.exec) {pc : Nat} {Ls : Array Slot} {v : Value} {t : FieldType} (ht : t.isReference = true) (hv : v.isRef = true) (hret : meth.sig.returnType = some t) (hd : decode c.code pc = .ok (.areturn, 1)) {fs : List Frame}
    (hl : ∀ (f : JFrame) (acts : List Action), f.method = m → f.locked = none → f.entered = [] → (doReturn e (T.setTop f) acts (some v)).1 = T.setFrames fs) : Steps p.tables e below (T.setTop (mkF m pc Ls [v])) (T.setFrames fs) := by
  have hm' : T.vm.method? m = some meth := X.method'
  show Steps p.tables e below (T.setTop { method := m, pc := pc, locals := Ls, stack := [v], locked := none }) _
  jvm_step X.here [X.here.top, hx, hd, hm', hret, hv, ht]
  first | (intro acts; rw [hl _ acts rfl rfl rfl]) | rw [hl _ _ rfl rfl rfl]
  exact Steps.refl _
end New
end Jvm.RoadKit
namespace Jvm.Pilot.@@N@@
open Jvm Jvm.ClassFile Sem Op Lib Jvm.Free Jvm.Stand Jvm.LawKit Jvm.RoadKit Bundle Jvm.Pilot.@@N@@.Jvm.D
/-- from A the invocation comes to its end: it returns some v, P holds of v, of the heap and of the places written, and the frame is kept -/
def Rt (p : Program) (e : Env) (below : List Frame) (s : State) (k n : Nat) (P : Option Value → Heap → List Loc → Prop) (A : State) : Prop :=
  ∃ s₂ o, Steps p.tables e below A s₂ ∧ s₂.status = .running ∧ Ended s₂ below o ∧ ∃ v L, o = .returned v ∧ P v s₂.heap L ∧ FrameEnd s o s₂ L k n
/-- where the walk stands: its heap, and that all it wrote lies at n0 or above -/
def Sd (p : Program) (l : Launch) (e : Env) (R : Room) (s : State) (m : MethodId) (args : Array Value) (below : List Frame) (meth : Method) (c : Code) (T : State) (n0 cells slots : Nat) (h : Heap) : Prop :=
  ∃ locs, Stand p l e R s m args below meth c T locs cells slots ∧ Fr n0 locs ∧ T.heap = h
def lcv (j : Fin 2) : Int64 := Int64.ofNat j.val
section Own
variable {p : Program} {l : Launch} {e : Env} {R : Room} {s : State} {m : MethodId} {args : Array Value} {below : List Frame} {meth : Method} {c : Code} {T : State} {n0 cells slots : Nat} {h0 : Heap} {k n : Nat} {P : Option Value → Heap → List Loc → Prop}
theorem Rt.go {A B : State} (f : ∀ t, Steps p.tables e below B t → Steps p.tables e below A t) (h : Rt p e below s k n P B) : Rt p e below s k n P A := by
  obtain ⟨s₂, o, h1, h2⟩ := h
  exact ⟨s₂, o, f _ h1, h2⟩
theorem Rt.iloadN (X : Sd p l e R s m args below meth c T n0 cells slots h0) (hx : p.tables.exec = Jvm.exec) {pc pc' : Nat} {Ls : Array Slot} {S : List Value} {j : Fin 4} {v : Int32} (hd : decode c.code pc = .ok (.iload_n j, 1)) (hl : Ls[j.val]? = some (.val (.int v))) (hp : pc + 1 = pc')
    (h : Rt p e below s k n P (T.setTop (mkF m pc' Ls (.int v :: S)))) : Rt p e below s k n P (T.setTop (mkF m pc Ls (S))) := by
  subst hp; obtain ⟨_, X, _, _⟩ := X; exact Rt.go (fun _ => XS.iloadN X.here hx rfl hd hl) h
theorem Rt.iload (X : Sd p l e R s m args below meth c T n0 cells slots h0) (hx : p.tables.exec = Jvm.exec) {pc pc' : Nat} {Ls : Array Slot} {S : List Value} {j : Nat} {v : Int32} (hd : decode c.code pc = .ok (.iload j, 2)) (hl : Ls[j]? = some (.val (.int v))) (hp : pc + 2 = pc')
    (h : Rt p e below s k n P (T.setTop (mkF m pc' Ls (.int v :: S)))) : Rt p e below s k n P (T.setTop (mkF m pc Ls (S))) := by
  subst hp; obtain ⟨_, X, _, _⟩ := X; exact Rt.go (fun _ => XS.iload X.here hx rfl hd hl) h
theorem Rt.istoreN (X : Sd p l e R s m args below meth c T n0 cells slots h0) (hx : p.tables.exec = Jvm.exec) {pc pc' : Nat} {Ls : Array Slot} {S : List Value} {j : Fin 4} {v : Int32} {l' : Array Slot} (hd : decode c.code pc = .ok (.istore_n j, 1)) (hl : storeLocals Ls j.val (.int v) = some l') (hp : pc + 1 = pc')
    (h : Rt p e below s k n P (T.setTop (mkF m pc' l' (S)))) : Rt p e below s k n P (T.setTop (mkF m pc Ls (.int v :: S))) := by
  subst hp; obtain ⟨_, X, _, _⟩ := X; exact Rt.go (fun _ => XS.istoreN X.here hx rfl hd rfl hl) h
theorem Rt.istore (X : Sd p l e R s m args below meth c T n0 cells slots h0) (hx : p.tables.exec = Jvm.exec) {pc pc' : Nat} {Ls : Array Slot} {S : List Value} {j : Nat} {v : Int32} {l' : Array Slot} (hd : decode c.code pc = .ok (.istore j, 2)) (hl : storeLocals Ls j (.int v) = some l') (hp : pc + 2 = pc')
    (h : Rt p e below s k n P (T.setTop (mkF m pc' l' (S)))) : Rt p e below s k n P (T.setTop (mkF m pc Ls (.int v :: S))) := by
  subst hp; obtain ⟨_, X, _, _⟩ := X; exact Rt.go (fun _ => XS.istore X.here hx rfl hd rfl hl) h
theorem Rt.lloadN (X : Sd p l e R s m args below meth c T n0 cells slots h0) (hx : p.tables.exec = Jvm.exec) {pc pc' : Nat} {Ls : Array Slot} {S : List Value} {j : Fin 4} {v : Int64} (hd : decode c.code pc = .ok (.lload_n j, 1)) (hl : Ls[j.val]? = some (.val (.long v))) (hp : pc + 1 = pc')
    (h : Rt p e below s k n P (T.setTop (mkF m pc' Ls (.long v :: S)))) : Rt p e below s k n P (T.setTop (mkF m pc Ls (S))) := by
  subst hp; obtain ⟨_, X, _, _⟩ := X; exact Rt.go (fun _ => XS.lloadN X.here hx rfl hd hl) h
theorem Rt.aloadN (X : Sd p l e R s m args below meth c T n0 cells slots h0) (hx : p.tables.exec = Jvm.exec) {pc pc' : Nat} {Ls : Array Slot} {S : List Value} {j : Fin 4} {v : Value} (hd : decode c.code pc = .ok (.aload_n j, 1)) (hl : Ls[j.val]? = some (.val v)) (hv : v.isRef = true) (hp : pc + 1 = pc')
    (h : Rt p e below s k n P (T.setTop (mkF m pc' Ls (v :: S)))) : Rt p e below s k n P (T.setTop (mkF m pc Ls (S))) := by
  subst hp; obtain ⟨_, X, _, _⟩ := X; exact Rt.go (fun _ => XS.aloadN X.here hx rfl hd hl hv) h
theorem Rt.aload (X : Sd p l e R s m args below meth c T n0 cells slots h0) (hx : p.tables.exec = Jvm.exec) {pc pc' : Nat} {Ls : Array Slot} {S : List Value} {j : Nat} {v : Value} (hd : decode c.code pc = .ok (.aload j, 2)) (hl : Ls[j]? = some (.val v)) (hv : v.isRef = true) (hp : pc + 2 = pc')
    (h : Rt p e below s k n P (T.setTop (mkF m pc' Ls (v :: S)))) : Rt p e below s k n P (T.setTop (mkF m pc Ls (S))) := by
  subst hp; obtain ⟨_, X, _, _⟩ := X; exact Rt.go (fun _ => XS.aload X.here hx rfl hd hl hv) h
theorem Rt.astore (X : Sd p l e R s m args below meth c T n0 cells slots h0) (hx : p.tables.exec = Jvm.exec) {pc pc' : Nat} {Ls : Array Slot} {S : List Value} {j : Nat} {v : Value} {l' : Array Slot} (hd : decode c.code pc = .ok (.astore j, 2)) (hv : v.isRef = true) (hl : storeLocals Ls j v = some l') (hp : pc + 2 = pc')
    (h : Rt p e below s k n P (T.setTop (mkF m pc' l' (S)))) : Rt p e below s k n P (T.setTop (mkF m pc Ls (v :: S))) := by
  subst hp; obtain ⟨_, X, _, _⟩ := X; exact Rt.go (fun _ => XS.astore X.here hx rfl hd rfl hv hl) h
theorem Rt.iconst (X : Sd p l e R s m args below meth c T n0 cells slots h0) (hx : p.tables.exec = Jvm.exec) {pc pc' : Nat} {Ls : Array Slot} {S : List Value} {i : Int} {v : Int32} (hd : decode c.code pc = .ok (.iconst i, 1)) (hv : Int32.ofInt i = v) (hp : pc + 1 = pc')
    (h : Rt p e below s k n P (T.setTop (mkF m pc' Ls (.int v :: S)))) : Rt p e below s k n P (T.setTop (mkF m pc Ls S)) := by
  subst hp hv; obtain ⟨_, X, _, _⟩ := X; exact Rt.go (fun _ => XS.iconst X.here hx rfl hd) h
theorem Rt.bipush (X : Sd p l e R s m args below meth c T n0 cells slots h0) (hx : p.tables.exec = Jvm.exec) {pc pc' : Nat} {Ls : Array Slot} {S : List Value} {i : Int} {v : Int32} (hd : decode c.code pc = .ok (.bipush i, 2)) (hv : (Int8.ofInt i).toInt32 = v) (hp : pc + 2 = pc')
    (h : Rt p e below s k n P (T.setTop (mkF m pc' Ls (.int v :: S)))) : Rt p e below s k n P (T.setTop (mkF m pc Ls S)) := by
  subst hp hv; obtain ⟨_, X, _, _⟩ := X; exact Rt.go (fun _ => XS.bipush X.here hx rfl hd) h
theorem Rt.aconstNull (X : Sd p l e R s m args below meth c T n0 cells slots h0) (hx : p.tables.exec = Jvm.exec) {pc pc' : Nat} {Ls : Array Slot} {S : List Value}  (hd : decode c.code pc = .ok (.aconst_null, 1)) (hp : pc + 1 = pc')
    (h : Rt p e below s k n P (T.setTop (mkF m pc' Ls (.null :: S)))) : Rt p e below s k n P (T.setTop (mkF m pc Ls (S))) := by
  subst hp; obtain ⟨_, X, _, _⟩ := X; exact Rt.go (fun _ => XS.aconstNull X.here hx rfl hd ) h
theorem Rt.iadd (X : Sd p l e R s m args below meth c T n0 cells slots h0) (hx : p.tables.exec = Jvm.exec) {pc pc' : Nat} {Ls : Array Slot} {S : List Value} {x y r : Int32} (hd : decode c.code pc = .ok (.iadd, 1)) (hr : x + y = r) (hp : pc + 1 = pc')
    (h : Rt p e below s k n P (T.setTop (mkF m pc' Ls (.int r :: S)))) : Rt p e below s k n P (T.setTop (mkF m pc Ls (.int y :: .int x :: S))) := by
  subst hp hr; obtain ⟨_, X, _, _⟩ := X; exact Rt.go (fun _ => XS.iadd X.here hx rfl hd rfl) h
theorem Rt.isub (X : Sd p l e R s m args below meth c T n0 cells slots h0) (hx : p.tables.exec = Jvm.exec) {pc pc' : Nat} {Ls : Array Slot} {S : List Value} {x y r : Int32} (hd : decode c.code pc = .ok (.isub, 1)) (hr : x - y = r) (hp : pc + 1 = pc')
    (h : Rt p e below s k n P (T.setTop (mkF m pc' Ls (.int r :: S)))) : Rt p e below s k n P (T.setTop (mkF m pc Ls (.int y :: .int x :: S))) := by
  subst hp hr; obtain ⟨_, X, _, _⟩ := X; exact Rt.go (fun _ => XS.isub X.here hx rfl hd rfl) h
theorem Rt.iand (X : Sd p l e R s m args below meth c T n0 cells slots h0) (hx : p.tables.exec = Jvm.exec) {pc pc' : Nat} {Ls : Array Slot} {S : List Value} {x y r : Int32} (hd : decode c.code pc = .ok (.iand, 1)) (hr : x &&& y = r) (hp : pc + 1 = pc')
    (h : Rt p e below s k n P (T.setTop (mkF m pc' Ls (.int r :: S)))) : Rt p e below s k n P (T.setTop (mkF m pc Ls (.int y :: .int x :: S))) := by
  subst hp hr; obtain ⟨_, X, _, _⟩ := X; exact Rt.go (fun _ => XS.iand X.here hx rfl hd rfl) h
theorem Rt.lushr (X : Sd p l e R s m args below meth c T n0 cells slots h0) (hx : p.tables.exec = Jvm.exec) {pc pc' : Nat} {Ls : Array Slot} {S : List Value} {x r : Int64} {y : Int32} (hd : decode c.code pc = .ok (.lushr, 1)) (hr : (x.toUInt64 >>> (y &&& 0x3f).toInt64.toUInt64).toInt64 = r) (hp : pc + 1 = pc')
    (h : Rt p e below s k n P (T.setTop (mkF m pc' Ls (.long r :: S)))) : Rt p e below s k n P (T.setTop (mkF m pc Ls (.int y :: .long x :: S))) := by
  subst hp hr; obtain ⟨_, X, _, _⟩ := X; exact Rt.go (fun _ => XS.lushr X.here hx rfl hd rfl) h
theorem Rt.l2i (X : Sd p l e R s m args below meth c T n0 cells slots h0) (hx : p.tables.exec = Jvm.exec) {pc pc' : Nat} {Ls : Array Slot} {S : List Value} {v : Int64} {r : Int32} (hd : decode c.code pc = .ok (.l2i, 1)) (hr : v.toInt32 = r) (hp : pc + 1 = pc')
    (h : Rt p e below s k n P (T.setTop (mkF m pc' Ls (.int r :: S)))) : Rt p e below s k n P (T.setTop (mkF m pc Ls (.long v :: S))) := by
  subst hp hr; obtain ⟨_, X, _, _⟩ := X; exact Rt.go (fun _ => XS.l2i X.here hx rfl hd rfl) h
theorem Rt.iinc (X : Sd p l e R s m args below meth c T n0 cells slots h0) (hx : p.tables.exec = Jvm.exec) {pc pc' : Nat} {Ls : Array Slot} {S : List Value} {j : Nat} {cst : Int} {x r : Int32} {l' : Array Slot} (hd : decode c.code pc = .ok (.iinc j cst, 3)) (hl : Ls[j]? = some (.val (.int x))) (hr : x + Int32.ofInt cst = r) (hl' : storeLocals Ls j (.int r) = some l') (hp : pc + 3 = pc')
    (h : Rt p e below s k n P (T.setTop (mkF m pc' l' S))) : Rt p e below s k n P (T.setTop (mkF m pc Ls S)) := by
  subst hp hr; obtain ⟨_, X, _, _⟩ := X; exact Rt.go (fun _ => XS.iinc X.here hx rfl hd hl hl') h
theorem Rt.dup (X : Sd p l e R s m args below meth c T n0 cells slots h0) (hx : p.tables.exec = Jvm.exec) {pc pc' : Nat} {Ls : Array Slot} {S : List Value} {x : Value} (hd : decode c.code pc = .ok (.dup, 1)) (hc : x.category = 1) (hp : pc + 1 = pc')
    (h : Rt p e below s k n P (T.setTop (mkF m pc' Ls (x :: x :: S)))) : Rt p e below s k n P (T.setTop (mkF m pc Ls (x :: S))) := by
  subst hp; obtain ⟨_, X, _, _⟩ := X; exact Rt.go (fun _ => XS.dup X.here hx rfl hd rfl hc) h
theorem Rt.pop (X : Sd p l e R s m args below meth c T n0 cells slots h0) (hx : p.tables.exec = Jvm.exec) {pc pc' : Nat} {Ls : Array Slot} {S : List Value} {x : Value} (hd : decode c.code pc = .ok (.pop, 1)) (hc : x.category = 1) (hp : pc + 1 = pc')
    (h : Rt p e below s k n P (T.setTop (mkF m pc' Ls (S)))) : Rt p e below s k n P (T.setTop (mkF m pc Ls (x :: S))) := by
  subst hp; obtain ⟨_, X, _, _⟩ := X; exact Rt.go (fun _ => XS.pop X.here hx rfl hd rfl hc) h
theorem Rt.goto (X : Sd p l e R s m args below meth c T n0 cells slots h0) (hx : p.tables.exec = Jvm.exec) {pc pc' : Nat} {Ls : Array Slot} {S : List Value} {o : Int} (hd : decode c.code pc = .ok (.goto o, 3)) (ho : 0 ≤ (pc : Int) + o) (hp : ((pc : Int) + o).toNat = pc')
    (h : Rt p e below s k n P (T.setTop (mkF m pc' Ls S))) : Rt p e below s k n P (T.setTop (mkF m pc Ls S)) := by
  obtain ⟨_, X, _, _⟩ := X; exact Rt.go (fun _ => XS.goto X.here hx rfl (pc0 := pc) rfl hd ho hp) h
theorem Rt.ifY (X : Sd p l e R s m args below meth c T n0 cells slots h0) (hx : p.tables.exec = Jvm.exec) {pc pc' : Nat} {Ls : Array Slot} {S : List Value} {o : Int} {cd : ClassFile.Cond} {x : Int32} (hd : decode c.code pc = .ok (.ifCond cd o, 3)) (hc : ifCond.holds cd x = true) (ho : 0 ≤ (pc : Int) + o) (hp : ((pc : Int) + o).toNat = pc')
    (h : Rt p e below s k n P (T.setTop (mkF m pc' Ls S))) : Rt p e below s k n P (T.setTop (mkF m pc Ls (.int x :: S))) := by
  obtain ⟨_, X, _, _⟩ := X; exact Rt.go (fun _ => XS.ifYes X.here hx rfl (pc0 := pc) rfl hd rfl hc ho hp) h
theorem Rt.ifN (X : Sd p l e R s m args below meth c T n0 cells slots h0) (hx : p.tables.exec = Jvm.exec) {pc pc' : Nat} {Ls : Array Slot} {S : List Value} {o : Int} {cd : ClassFile.Cond} {x : Int32} (hd : decode c.code pc = .ok (.ifCond cd o, 3)) (hc : ifCond.holds cd x = false) (hp : pc + 3 = pc')
    (h : Rt p e below s k n P (T.setTop (mkF m pc' Ls S))) : Rt p e below s k n P (T.setTop (mkF m pc Ls (.int x :: S))) := by
  subst hp; obtain ⟨_, X, _, _⟩ := X; exact Rt.go (fun _ => XS.ifNo X.here hx rfl hd rfl hc) h
theorem Rt.icmpY (X : Sd p l e R s m args below meth c T n0 cells slots h0) (hx : p.tables.exec = Jvm.exec) {pc pc' : Nat} {Ls : Array Slot} {S : List Value} {o : Int} {cd : ClassFile.Cond} {x y : Int32} (hd : decode c.code pc = .ok (.if_icmp cd o, 3)) (hc : if_icmp.holds cd x y = true) (ho : 0 ≤ (pc : Int) + o) (hp : ((pc : Int) + o).toNat = pc')
    (h : Rt p e below s k n P (T.setTop (mkF m pc' Ls S))) : Rt p e below s k n P (T.setTop (mkF m pc Ls (.int y :: .int x :: S))) := by
  obtain ⟨_, X, _, _⟩ := X; exact Rt.go (fun _ => XS.icmpYes X.here hx rfl (pc0 := pc) rfl hd rfl hc ho hp) h
theorem Rt.icmpN (X : Sd p l e R s m args below meth c T n0 cells slots h0) (hx : p.tables.exec = Jvm.exec) {pc pc' : Nat} {Ls : Array Slot} {S : List Value} {o : Int} {cd : ClassFile.Cond} {x y : Int32} (hd : decode c.code pc = .ok (.if_icmp cd o, 3)) (hc : if_icmp.holds cd x y = false) (hp : pc + 3 = pc')
    (h : Rt p e below s k n P (T.setTop (mkF m pc' Ls S))) : Rt p e below s k n P (T.setTop (mkF m pc Ls (.int y :: .int x :: S))) := by
  subst hp; obtain ⟨_, X, _, _⟩ := X; exact Rt.go (fun _ => XS.icmpNo X.here hx rfl hd rfl hc) h
theorem Rt.ifnullY (X : Sd p l e R s m args below meth c T n0 cells slots h0) (hx : p.tables.exec = Jvm.exec) {pc pc' : Nat} {Ls : Array Slot} {S : List Value} {o : Int} (hd : decode c.code pc = .ok (.ifnull o, 3)) (ho : 0 ≤ (pc : Int) + o) (hp : ((pc : Int) + o).toNat = pc')
    (h : Rt p e below s k n P (T.setTop (mkF m pc' Ls S))) : Rt p e below s k n P (T.setTop (mkF m pc Ls (.null :: S))) := by
  obtain ⟨_, X, _, _⟩ := X; exact Rt.go (fun _ => XS.ifnullYes X.here hx rfl (pc0 := pc) rfl hd rfl ho hp) h
theorem Rt.ifnullN (X : Sd p l e R s m args below meth c T n0 cells slots h0) (hx : p.tables.exec = Jvm.exec) {pc pc' : Nat} {Ls : Array Slot} {S : List Value} {o : Int} {b : Addr} (hd : decode c.code pc = .ok (.ifnull o, 3)) (hp : pc + 3 = pc')
    (h : Rt p e below s k n P (T.setTop (mkF m pc' Ls S))) : Rt p e below s k n P (T.setTop (mkF m pc Ls (.ref b :: S))) := by
  subst hp; obtain ⟨_, X, _, _⟩ := X; exact Rt.go (fun _ => XS.ifnullNo X.here hx rfl hd rfl) h
theorem Rt.retZ (X : Sd p l e R s m args below meth c T n0 cells slots h0) (hx : p.tables.exec = Jvm.exec) (hlk : meth.locks = false) {t : FieldType} (hret : meth.sig.returnType = some t) (ht : t = .boolean ∨ t = .byte ∨ t = .char ∨ t = .short) {pc : Nat} {Ls : Array Slot} {S : List Value} {z w : Int32} (hd : decode c.code pc = .ok (.ireturn, 1)) (hw : nar t z = w) (hk : cells ≤ k) (hn : slots ≤ n)
    (hP : ∀ L, Fr n0 L → P (some (.int w)) h0 L) : Rt p e below s k n P (T.setTop (mkF m pc Ls (.int z :: S))) := by
  subst hw; obtain ⟨locs, X, N, eh⟩ := X
  obtain ⟨fs, hr, hrun, hended, hW, hsame⟩ := X.leave (v := some (.int (nar t z))) (fun h => by rw [hret] at h; cases h) hlk
  exact ⟨_, _, retN X hx hret ht hd hr, hrun, hended, _, _, rfl, by show P _ T.heap _; rw [eh]; exact hP _ N, ⟨_, rfl⟩, hW, hsame.mono hk hn⟩
theorem Rt.retI (X : Sd p l e R s m args below meth c T n0 cells slots h0) (hx : p.tables.exec = Jvm.exec) (hlk : meth.locks = false) (hret : meth.sig.returnType = some .int) {pc : Nat} {Ls : Array Slot} {S : List Value} {z : Int32} (hd : decode c.code pc = .ok (.ireturn, 1)) (hk : cells ≤ k) (hn : slots ≤ n)
    (hP : ∀ L, Fr n0 L → P (some (.int z)) h0 L) : Rt p e below s k n P (T.setTop (mkF m pc Ls (.int z :: S))) := by
  obtain ⟨locs, X, N, eh⟩ := X
  obtain ⟨fs, hr, hrun, hended, hW, hsame⟩ := X.leave (v := some (.int z)) (fun h => by rw [hret] at h; cases h) hlk
  exact ⟨_, _, Jvm.RoadKit.retI X hx hret hd hr, hrun, hended, _, _, rfl, by show P _ T.heap _; rw [eh]; exact hP _ N, ⟨_, rfl⟩, hW, hsame.mono hk hn⟩
theorem Rt.retA (X : Sd p l e R s m args below meth c T n0 cells slots h0) (hx : p.tables.exec = Jvm.exec) (hlk : meth.locks = false) {t : FieldType} (ht : t.isReference = true) (hret : meth.sig.returnType = some t) {pc : Nat} {Ls : Array Slot} {v : Value} (hv : v.isRef = true) (hd : decode c.code pc = .ok (.areturn, 1)) (hk : cells ≤ k) (hn : slots ≤ n)
    (hP : ∀ L, Fr n0 L → P (some v) h0 L) : Rt p e below s k n P (T.setTop (mkF m pc Ls [v])) := by
  obtain ⟨locs, X, N, eh⟩ := X
  obtain ⟨fs, hr, hrun, hended, hW, hsame⟩ := X.leave (v := some v) (fun h => by rw [hret] at h; cases h) hlk
  exact ⟨_, _, Jvm.RoadKit.retA X hx ht hv hret hd hr, hrun, hended, _, _, rfl, by show P _ T.heap _; rw [eh]; exact hP _ N, ⟨_, rfl⟩, hW, hsame.mono hk hn⟩
theorem Rt.ldcInt (X : Sd p l e R s m args below meth c T n0 cells slots h0) (hx : p.tables.exec = Jvm.exec) {Z : State} {a0 : Array Value} (hZ : Z.Warmed39 s.vm) {own : String} {index : Nat} {v : Int32} (hown : s.vm.findClass own = some m.cls) (w : (Cond.constant own index v).before a0 Z = true) {pc pc' : Nat} {Ls : Array Slot} {S : List Value} (hd : decode c.code pc = .ok (.ldc index, 2)) (hp : pc + 2 = pc')
    (h : Rt p e below s k n P (T.setTop (mkF m pc' Ls (.int v :: S)))) : Rt p e below s k n P (T.setTop (mkF m pc Ls S)) := by
  subst hp; obtain ⟨_, X, _, _⟩ := X; exact Rt.go (X.ldcInt hx hown (mvT hZ w) (g := mkF m pc Ls S) rfl hd) h
abbrev Mt (l : Launch) (Z : State) (y : MethodName) (ws : List Jvm.Cond) (rm : Room) (as' : Array Value) (h : Heap) (Q : Option Value → Heap → List Loc → Prop) : Prop :=
  MetFree l y (head1 ws rm) (fun a U => a = as' ∧ Z.Warmed39 U.vm ∧ U.heap = h) (fun _ _ _ _ _ => True) (fun _ U o U' => ∃ v L, o = .returned v ∧ Q v U'.heap L ∧ FrameEnd U o U' L rm.cells rm.slots)
/-- from a body's walk to its contract -/
theorem Mt.of {Z : State} {y : MethodName} {bytes : ByteArray} {maxL : Nat} {ret : Option FieldType} {ws : List Jvm.Cond} {rm : Room} {as' : Array Value} {h : Heap} {Q : Option Value → Heap → List Loc → Prop} (n0 : Nat) (hpl : plainFor y = true)
    (body : ∀ (p : Program) (e : Env) (s : State) (m : MethodId) (below : List Frame) (meth : Method) (c : Code) (T : State), Sd p l e rm s m as' below meth c T n0 0 0 h → p.tables.exec = Jvm.exec → Z.Warmed39 s.vm → c.code = bytes → c.maxLocals = maxL → s.vm.findClass y.cls = some m.cls → meth.sig.returnType = ret → meth.locks = false → meth.name = y.name → s.heap = h →
      Rt p e below s rm.cells rm.slots Q (T.setTop (entryFrame m as' maxL))) : Mt l Z y (Jvm.Cond.code y bytes maxL ret :: ws) rm as' h Q := by
  refine MetFree.of_bodySF hpl hisR ?_
  intro p e s m args below meth c s₁ Bd hml0 hP hK
  obtain ⟨rfl, hZ, hh⟩ := hP
  have e0 : s₁.heap = h := by rw [← hh, Bd.state]; rfl
  obtain ⟨s₂, o, h1, h2, h3, v, L, h4, h5, h6⟩ := body p e s m below meth c s₁ ⟨[], Stand.of_body Bd, Fr.nil n0, e0⟩ Bd.exec hZ Bd.bytes hml0 (findClass_of_methodNamed Bd.named) Bd.returns (BodyLoose.notSynchronized Bd) (name_of_methodNamed Bd.named Bd.method).1 hh
  exact ⟨s₂, o, h1, h2, h3, v, L, h4, h5, h6⟩
theorem Rt.callS (X : Sd p l e R s m args below meth c T n0 cells slots h0) (hx : p.tables.exec = Jvm.exec) {Z : State} {a0 : Array Value} (hZ : Z.Warmed39 s.vm) {own : String} {index : Nat} {y : MethodName} {bytes : ByteArray} {maxL W : Nat} {ret : Option FieldType} {rm : Room} {as' : Array Value} {Q : Option Value → Heap → List Loc → Prop}
    (hown : s.vm.findClass own = some m.cls) (w1 : (Cond.methodLink own index y).before a0 Z = true) (w2 : (Cond.static y).before a0 Z = true) (w3 : (Cond.initialized y.cls).before a0 Z = true) (w4 : (Cond.code y bytes maxL ret).before a0 Z = true) (hy : y.cls ≠ "java/lang/invoke/MethodHandle" ∧ y.cls ≠ "java/lang/invoke/VarHandle")
    (hM : Mt l Z y [Cond.code y bytes maxL ret] rm as' h0 Q) (hF : ∀ v h L, Q v h L → Fr n0 L) (hf : rm.frames + 1 ≤ R.frames) (hl : W + (maxL + 11) + rm.locals ≤ R.locals) (hc : cells + rm.cells ≤ R.cells) (hs : slots + rm.slots ≤ R.slots)
    {pc pc' : Nat} {Ls : Array Slot} {S argsL rest : List Value} (hsize : Ls.size = c.maxLocals) (hlen : ∀ sig, parseMethodDescriptor y.desc = some sig → argsL.length = sig.parameters.length) (hst : S = argsL.reverse ++ rest) (has : argsL.toArray = as') (hW : (rest.map fun v => v.category).sum ≤ W) (hd : decode c.code pc = .ok (.invokestatic index, 3)) (hp : pc + 3 = pc')
    (hh : ∀ v T' h' L, Sd p l e R s m args below meth c T' n0 (cells + rm.cells) (slots + rm.slots) h' → Q v h' L → Rt p e below s k n P (T'.setTop (mkF m pc' Ls (v.toList ++ rest)))) : Rt p e below s k n P (T.setTop (mkF m pc Ls S)) := by
  subst hp has
  obtain ⟨locs, X, N, eT⟩ := X
  obtain ⟨v, _, ⟨T', L', k', n'⟩, -, X', ⟨Lc, hQ, l', y', z'⟩, st⟩ := Jvm.LawKit.callS X hx (y := y) hown (mvT hZ w1) (mvT hZ w2) (mvT hZ w3) (mvT hZ w4) hy (backOf (W := W) hM hZ w4 w3 hf hl) (g := mkF m pc Ls S) rfl hsize (argsL := argsL) (rest := rest) hlen hst (by show 2 * 0 + _ ≤ _; omega) hd (fun _ _ => ⟨rfl, eT, hc, hs⟩)
  dsimp only [Pt.U, Pt.locs, Pt.cells, Pt.slots] at X' l' y' z' st hQ
  subst l' y' z'
  exact Rt.go st (hh v T' _ Lc ⟨_, X', Fr.app N (hF _ _ _ hQ), rfl⟩ hQ)
/-- a static method that writes nothing -/
theorem Rt.callP (X : Sd p l e R s m args below meth c T n0 cells slots h0) (hx : p.tables.exec = Jvm.exec) {Z : State} {a0 : Array Value} (hZ : Z.Warmed39 s.vm) {own : String} {index : Nat} {y : MethodName} {bytes : ByteArray} {maxL W : Nat} {ret : Option FieldType} {rm : Room} {as' : Array Value} {r : Value}
    (hown : s.vm.findClass own = some m.cls) (w1 : (Cond.methodLink own index y).before a0 Z = true) (w2 : (Cond.static y).before a0 Z = true) (w3 : (Cond.initialized y.cls).before a0 Z = true) (w4 : (Cond.code y bytes maxL ret).before a0 Z = true) (hy : y.cls ≠ "java/lang/invoke/MethodHandle" ∧ y.cls ≠ "java/lang/invoke/VarHandle")
    (hM : Mt l Z y [Cond.code y bytes maxL ret] rm as' h0 (fun v h L => v = some r ∧ Fr n0 L ∧ h = h0)) (hf : rm.frames + 1 ≤ R.frames) (hl : W + (maxL + 11) + rm.locals ≤ R.locals) (hc : cells + rm.cells ≤ R.cells) (hs : slots + rm.slots ≤ R.slots) (hc0 : rm.cells = 0) (hs0 : rm.slots = 0)
    {pc pc' : Nat} {Ls : Array Slot} {S argsL rest : List Value} (hsize : Ls.size = c.maxLocals) (hlen : ∀ sig, parseMethodDescriptor y.desc = some sig → argsL.length = sig.parameters.length) (hst : S = argsL.reverse ++ rest) (has : argsL.toArray = as') (hW : (rest.map fun v => v.category).sum ≤ W) (hd : decode c.code pc = .ok (.invokestatic index, 3)) (hp : pc + 3 = pc')
    (hh : ∀ T', Sd p l e R s m args below meth c T' n0 cells slots h0 → Rt p e below s k n P (T'.setTop (mkF m pc' Ls (r :: rest)))) : Rt p e below s k n P (T.setTop (mkF m pc Ls S)) := by
  refine Rt.callS X hx hZ hown w1 w2 w3 w4 hy hM (fun _ _ _ q => q.2.1) hf hl hc hs hsize hlen hst has hW hd hp ?_
  rintro v T' h' L X' ⟨rfl, _, rfl⟩
  rw [hc0, hs0, Nat.add_zero, Nat.add_zero] at X'
  exact hh T' X'
/-- an instance method, by the contract of the body that the receiver's class selects -/
def IA (Z : State) (h : Heap) (a : Addr) (ty : FieldType) (vs : List Value) : Prop := ∃ cl : Cell, Arr Z h a cl ty ∧ cl.slots = vs.toArray ∧ vs.length < 2 ^ 31
section Arrays
variable {Z : State} {h h' : Heap} {a b : Addr} {ty : FieldType} {vs : List Value}
theorem IA.lt (F : IA Z h a ty vs) : a < h.size := by obtain ⟨_, A, -⟩ := F; exact A.lt
theorem IA.ext (F : IA Z h a ty vs) (E : Ext h h') : IA Z h' a ty vs := by obtain ⟨c, A, r⟩ := F; exact ⟨c, A.ext E, r⟩
theorem IA.other {sl : Nat} {v : Value} (F : IA Z h a ty vs) (W : Wr h h' b sl v) (q : a ≠ b) : IA Z h' a ty vs := by obtain ⟨c, A, r⟩ := F; exact ⟨c, A.other W q, r⟩
theorem IA.keep {ws : List Addr} (F : IA Z h a ty vs) (K : Keep h h' ws) (q : a ∉ ws) : IA Z h' a ty vs := by obtain ⟨c, A, r⟩ := F; exact ⟨c, ⟨K.2.1 a c A.1 q, A.2⟩, r⟩
theorem IA.set {i : Nat} {v : Value} (F : IA Z h a ty vs) (W : Wr h h' a i v) : IA Z h' a ty (vs.set i v) := by
  obtain ⟨c, A, r, q⟩ := F
  refine ⟨_, A.same W, ?_, by rw [List.length_set]; exact q⟩
  show (c.slots.setIfInBounds i v) = _
  rw [r]; simp
theorem IA.new {k : ClassId} {z : Int32} {i : Nat} (A : Arr Z h a (newA k ty z) ty) (hz : z.toNatClampNeg = i) : IA Z h a ty (List.replicate i (defaultValue ty)) := by
  refine ⟨_, A, ?_, ?_⟩
  · show Array.replicate _ _ = _
    rw [hz]; simp
  · rw [List.length_replicate, ← hz]
    have := z.toInt_lt
    simp only [Int32.toNatClampNeg]; omega
theorem inA {cl : Cell} {j : Int32} {i : Nat} (r : cl.slots = vs.toArray) (hj : ¬ j < 0) (hi : j.toNatClampNeg = i) (hv : i < vs.length) : ¬ (j < 0 ∨ cl.slots.size ≤ j.toNatClampNeg) := by
  rintro (q | q)
  · exact hj q
  · rw [r, hi] at q; simp at q; omega
end Arrays
theorem Rt.newP (X : Sd p l e R s m args below meth c T n0 cells slots h0) (hx : p.tables.exec = Jvm.exec) {Z : State} {a0 : Array Value} (hZ : Z.Warmed39 s.vm) {aty : ArrayType} {ty : FieldType} (hty : newarray.typeOf aty = ty) (w : (Cond.arrayClass ty).before a0 Z = true) {z : Int32} {i : Nat} (hz : z.toNatClampNeg = i) (hn : ¬ z < 0) {cap : Nat} (hcap : i ≤ cap) (hb : cap * 8 ≤ 536870912) {pc pc' : Nat} {Ls : Array Slot} {S : List Value} (hd : decode c.code pc = .ok (.newarray aty, 2)) (hc : cells + 1 ≤ R.cells) (hl : slots + cap ≤ R.slots) (hp : pc + 2 = pc')
    (hh : ∀ T' h' a, a = h0.size → Sd p l e R s m args below meth c T' n0 (cells + 1) (slots + cap) h' → Ext h0 h' → IA Z h' a ty (List.replicate i (defaultValue ty)) → Rt p e below s k n P (T'.setTop (mkF m pc' Ls (.ref a :: S)))) : Rt p e below s k n P (T.setTop (mkF m pc Ls (.int z :: S))) := by
  subst hp hty
  obtain ⟨locs, X, N, eT⟩ := X
  obtain ⟨T', h', cA, X', e', E', A', st⟩ := Jvm.RoadKit.newP X hx hZ w eT (g := mkF m pc Ls (.int z :: S)) rfl hd rfl hn (cap := cap) (by rw [hz]; exact hcap) hb hc hl
  exact Rt.go st (hh T' h' _ rfl ⟨_, X', N, e'⟩ E' (IA.new A' hz))
theorem Rt.arraylength (X : Sd p l e R s m args below meth c T n0 cells slots h0) (hx : p.tables.exec = Jvm.exec) {Z : State} (hZ : Z.Warmed39 s.vm) {ty : FieldType} {a : Addr} {vs : List Value} (F : IA Z h0 a ty vs) {v : Int32} (hv : vs.length.toInt32 = v) {pc pc' : Nat} {Ls : Array Slot} {S : List Value} (hd : decode c.code pc = .ok (.arraylength, 1)) (hp : pc + 1 = pc')
    (h : Rt p e below s k n P (T.setTop (mkF m pc' Ls (.int v :: S)))) : Rt p e below s k n P (T.setTop (mkF m pc Ls (.ref a :: S))) := by
  subst hp hv
  obtain ⟨locs, X, N, eT⟩ := X
  obtain ⟨cl, A, r, q⟩ := F
  have e1 : vs.length = cl.slots.size := by rw [r]; simp
  rw [e1] at h
  exact Rt.go (X.arraylength hx (by rw [eT]; exact A.1) (State.isArrayOf_alike hZ.alike A.2.1) (g := mkF m pc Ls (.ref a :: S)) rfl rfl hd) h

theorem Rt.iaload (X : Sd p l e R s m args below meth c T n0 cells slots h0) (hx : p.tables.exec = Jvm.exec) {Z : State} (hZ : Z.Warmed39 s.vm) {a : Addr} {vs : List Value} (F : IA Z h0 a .int vs) {j : Int32} {i : Nat} (hi : j.toNatClampNeg = i) (hj : ¬ j < 0) {v : Value} (hv : vs[i]? = some v) {pc pc' : Nat} {Ls : Array Slot} {S : List Value} (hd : decode c.code pc = .ok (.iaload, 1)) (hp : pc + 1 = pc')
    (h : Rt p e below s k n P (T.setTop (mkF m pc' Ls (v :: S)))) : Rt p e below s k n P (T.setTop (mkF m pc Ls (.int j :: .ref a :: S))) := by
  subst hp
  obtain ⟨locs, X, N, eT⟩ := X
  obtain ⟨cl, A, r, q⟩ := F
  exact Rt.go (X.iaload hx (j := j) (v := v) (by rw [eT]; exact A.1) (State.isArrayOf_alike hZ.alike A.2.1) A.2.2 (inA r hj hi (List.getElem?_eq_some_iff.mp hv).1) (by rw [r, hi]; simpa using hv) (g := mkF m pc Ls (.int j :: .ref a :: S)) rfl rfl hd) h
theorem Rt.aaload (X : Sd p l e R s m args below meth c T n0 cells slots h0) (hx : p.tables.exec = Jvm.exec) {Z : State} (hZ : Z.Warmed39 s.vm) {ty : FieldType} (hty : ty.isReference = true) {a : Addr} {vs : List Value} (F : IA Z h0 a ty vs) {j : Int32} {i : Nat} (hi : j.toNatClampNeg = i) (hj : ¬ j < 0) {v : Value} (hv : vs[i]? = some v) {pc pc' : Nat} {Ls : Array Slot} {S : List Value} (hd : decode c.code pc = .ok (.aaload, 1)) (hp : pc + 1 = pc')
    (h : Rt p e below s k n P (T.setTop (mkF m pc' Ls (v :: S)))) : Rt p e below s k n P (T.setTop (mkF m pc Ls (.int j :: .ref a :: S))) := by
  subst hp
  obtain ⟨locs, X, N, eT⟩ := X
  obtain ⟨cl, A, r, q⟩ := F
  exact Rt.go (X.aaload hx (j := j) (v := v) (by rw [eT]; exact A.1) (State.isArrayOf_alike hZ.alike A.2.1) hty A.2.2 (inA r hj hi (List.getElem?_eq_some_iff.mp hv).1) (by rw [r, hi]; simpa using hv) (g := mkF m pc Ls (.int j :: .ref a :: S)) rfl rfl hd) h
theorem Rt.iastore (X : Sd p l e R s m args below meth c T n0 cells slots h0) (hx : p.tables.exec = Jvm.exec) {Z : State} (hZ : Z.Warmed39 s.vm) {a : Addr} {vs : List Value} (F : IA Z h0 a .int vs) {j : Int32} {i : Nat} (hi : j.toNatClampNeg = i) (hj : ¬ j < 0) (hv : i < vs.length) {x : Int32} {w : Value} (hw : .int x = w) (ga : n0 ≤ a) {pc pc' : Nat} {Ls : Array Slot} {S : List Value} (hd : decode c.code pc = .ok (.iastore, 1)) (hp : pc + 1 = pc')
    (hh : ∀ T' h', Sd p l e R s m args below meth c T' n0 cells slots h' → Wr h0 h' a i w → IA Z h' a .int (vs.set i w) → Rt p e below s k n P (T'.setTop (mkF m pc' Ls S))) : Rt p e below s k n P (T.setTop (mkF m pc Ls (.int x :: .int j :: .ref a :: S))) := by
  subst hp hw
  obtain ⟨locs, X, N, eT⟩ := X
  obtain ⟨cl, A, r, q⟩ := id F
  obtain ⟨T', h', X', e', W', st⟩ := stI X hx hZ eT A (j := j) (inA r hj hi hv) (g := mkF m pc Ls (.int x :: .int j :: .ref a :: S)) rfl rfl hd
  rw [hi] at W'
  exact Rt.go st (hh T' h' ⟨_, X', Fr.snoc X' N ga, e'⟩ W' (F.set W'))
def IL (Z : State) (h : Heap) (a : Addr) (ty : FieldType) (N : Nat) : Prop := ∃ vs, IA Z h a ty vs ∧ vs.length = N
section Arrays
variable {Z : State} {h h' : Heap} {a b : Addr} {ty : FieldType} {N : Nat}
theorem IL.lt (F : IL Z h a ty N) : a < h.size := by obtain ⟨_, A, -⟩ := F; exact A.lt
theorem IL.ext (F : IL Z h a ty N) (E : Ext h h') : IL Z h' a ty N := by obtain ⟨c, A, r⟩ := F; exact ⟨c, A.ext E, r⟩
theorem IL.other {sl : Nat} {v : Value} (F : IL Z h a ty N) (W : Wr h h' b sl v) (q : a ≠ b) : IL Z h' a ty N := by obtain ⟨c, A, r⟩ := F; exact ⟨c, A.other W q, r⟩
theorem IL.wr {sl : Nat} {v : Value} (F : IL Z h a ty N) (W : Wr h h' b sl v) : IL Z h' a ty N := by
  obtain ⟨vs, A, r⟩ := F
  by_cases q : a = b
  · subst q; exact ⟨_, A.set W, by rw [List.length_set]; exact r⟩
  · exact ⟨vs, A.other W q, r⟩
theorem IL.keep {ws : List Addr} (F : IL Z h a ty N) (K : Keep h h' ws) : IL Z h' a ty N := by
  obtain ⟨vs, ⟨c, ⟨A1, ⟨A2, A3⟩, A4⟩, r1, r2⟩, r⟩ := F
  obtain ⟨c', q, e1, e2, e3⟩ := K.2.2 a c A1
  refine ⟨c'.slots.toList, ⟨c', ⟨q, ⟨?_, ?_⟩, by rw [e2]; exact A4⟩, by simp, ?_⟩, ?_⟩
  · rw [e2]; exact A2
  · rw [e1]; exact A3
  · rw [Array.length_toList, e3, r1]; simpa using r2
  · rw [Array.length_toList, e3, r1]; simpa using r
end Arrays
end Own
theorem own_g {a0 : Array Value} {Z : State} (hw : ∀ d ∈ tables_1, d.before a0 Z = true) {w : Jvm.Cond} (i : Nat) (h : tables_1[i]? = some w) : w.before a0 Z = true := hw w (List.mem_of_getElem? h)
abbrev mt1 : MethodName := ⟨"java/lang/Math", "max", "(II)I"⟩
abbrev mt2 : MethodName := ⟨"com/example/tightfold/tightfold/FocusCover", "cover", "([IIII[[I)I"⟩
abbrev mt3 : MethodName := ⟨"com/example/tightfold/tightfold/FocusCover", "cardinality", "([IIII)I"⟩
abbrev mt4 : MethodName := ⟨"com/example/tightfold/tightfold/FocusCover", "runs", "([IIII)[[I"⟩
abbrev mt5 : MethodName := ⟨"com/example/tightfold/tightfold/FocusCoverRunsPinLaw", "highAfter", "([III)I"⟩
abbrev mt6 : MethodName := ⟨"com/example/tightfold/tightfold/FocusCoverRunsPinLaw", "low", "([IIIII)I"⟩
abbrev mt7 : MethodName := ⟨"com/example/tightfold/tightfold/FocusCoverRunsPinLaw", "lows", "([IIII)I"⟩
abbrev mt8 : MethodName := ⟨"com/example/tightfold/tightfold/FocusCoverRunsPinLaw", "runOk", "([[II[IIII)Z"⟩
section Pairs
variable {p : Program} {l : Launch} {e : Env} {R : Room} {s : State} {m : MethodId} {args : Array Value} {below : List Frame} {meth : Method} {c : Code} {T : State} {n0 cells slots : Nat} {h0 : Heap} {k n : Nat} {P : Option Value → Heap → List Loc → Prop}
def RA (Z : State) (h : Heap) (a : Addr) (rs : List Value) : Prop := ∃ cl : Cell, Arr Z h a cl (.array .int) ∧ cl.slots = rs.toArray ∧ rs.length < 2 ^ 31 ∧ OvrA Z cl.cls .int "[I"
theorem RA.ia {Z : State} {h : Heap} {a : Addr} {rs : List Value} (F : RA Z h a rs) : IA Z h a (.array .int) rs := by obtain ⟨c, A, r, q, -⟩ := F; exact ⟨c, A, r, q⟩
theorem RA.keep0 {Z : State} {h h' : Heap} {a : Addr} {rs : List Value} (F : RA Z h a rs) (K : Keep h h' []) : RA Z h' a rs := by obtain ⟨c, A, r⟩ := F; exact ⟨c, ⟨K.2.1 a c A.1 nin0, A.2⟩, r⟩
theorem RA.set {Z : State} {h h' : Heap} {a : Addr} {rs : List Value} {i : Nat} {v : Value} (F : RA Z h a rs) (W : Wr h h' a i v) : RA Z h' a (rs.set i v) := by
  obtain ⟨c, A, r, q, O⟩ := F
  refine ⟨_, A.same W, ?_, by rw [List.length_set]; exact q, O⟩
  show (c.slots.setIfInBounds i v) = _
  rw [r]; simp
/-- an array of n places; the first of them hold these pairs -/
def Pr (Z : State) (h : Heap) (a : Addr) (N : Nat) (ps : List (Int32 × Int32)) : Prop := ∃ rs : List Value, RA Z h a rs ∧ rs.length = N ∧ ∀ (t : Nat) (q : Int32 × Int32), ps[t]? = some q → ∃ y : Addr, rs[t]? = some (Value.ref y) ∧ y ≠ a ∧ IA Z h y .int [.int q.1, .int q.2]
theorem Pr.keep0 {Z : State} {h h' : Heap} {a : Addr} {N : Nat} {ps : List (Int32 × Int32)} (F : Pr Z h a N ps) (K : Keep h h' []) : Pr Z h' a N ps := by
  obtain ⟨rs, R, q, H⟩ := F
  refine ⟨rs, R.keep0 K, q, fun t x ht => ?_⟩
  obtain ⟨y, h1, h2, h3⟩ := H t x ht
  exact ⟨y, h1, h2, h3.keep K nin0⟩
theorem Pr.push {Z : State} {h h' : Heap} {a b : Addr} {N : Nat} {ps : List (Int32 × Int32)} {x y : Int32} (F : Pr Z h a N ps) (hd : ps.length < N) (W : Wr h h' a ps.length (.ref b)) (B : IA Z h b .int [.int x, .int y]) (hb : b ≠ a) : Pr Z h' a N (ps ++ [(x, y)]) := by
  obtain ⟨rs, R, q, H⟩ := F
  refine ⟨_, R.set W, by rw [List.length_set]; exact q, fun t z ht => ?_⟩
  by_cases c1 : t < ps.length
  · rw [List.getElem?_append_left c1] at ht
    obtain ⟨y', h1, h2, h3⟩ := H t z ht
    exact ⟨y', by rw [List.getElem?_set_ne (by omega)]; exact h1, h2, h3.other W h2⟩
  · rw [List.getElem?_append_right (by omega)] at ht
    obtain ⟨c2, c3⟩ := List.getElem?_eq_some_iff.mp ht
    have c4 : t = ps.length := by simp at c2; omega
    subst c4
    have c5 : (x, y) = z := by simpa using ht
    subst c5
    exact ⟨b, by rw [List.getElem?_set_self (by omega)], hb, B.other W hb⟩
theorem Rt.newRA (X : Sd p l e R s m args below meth c T n0 cells slots h0) (hx : p.tables.exec = Jvm.exec) {Z : State} {a0 : Array Value} (hZ : Z.Warmed39 s.vm) {own : String} {index : Nat} (hown : s.vm.findClass own = some m.cls) (w1 : (Cond.classLink own index "[I").before a0 Z = true) (w2 : (Cond.arrayOver (.array .int)).before a0 Z = true) {z : Int32} {i : Nat} (hz : z.toNatClampNeg = i) (hn : ¬ z < 0) {cap : Nat} (hcap : i ≤ cap) (hb : cap * 8 ≤ 536870912) {pc pc' : Nat} {Ls : Array Slot} {S : List Value} (hd : decode c.code pc = .ok (.anewarray index, 3)) (hc : cells + 1 ≤ R.cells) (hl : slots + cap ≤ R.slots) (hp : pc + 3 = pc')
    (hh : ∀ T' h' a, a = h0.size → Sd p l e R s m args below meth c T' n0 (cells + 1) (slots + cap) h' → Ext h0 h' → Pr Z h' a i [] → Rt p e below s k n P (T'.setTop (mkF m pc' Ls (.ref a :: S)))) : Rt p e below s k n P (T.setTop (mkF m pc Ls (.int z :: S))) := by
  subst hp
  obtain ⟨locs, X, N, eT⟩ := X
  obtain ⟨T', h', cA, X', e', E', A', -, O', st⟩ := Jvm.RoadKit.newRA X hx hZ hown (ty := .int) (C := "[I") (by decide) w1 w2 eT (g := mkF m pc Ls (.int z :: S)) rfl hd rfl hn (cap := cap) (by rw [hz]; exact hcap) hb hc hl rfl
  have r1 : (newA cA (.array .int) z).slots = (List.replicate i Value.null).toArray := by
    show Array.replicate _ _ = _
    rw [hz]; simp [defaultValue]
  have r2 : (List.replicate i Value.null).length < 2 ^ 31 := by rw [List.length_replicate]; omega
  exact Rt.go st (hh T' h' _ rfl ⟨_, X', N, e'⟩ E' ⟨List.replicate i .null, ⟨_, A', r1, r2, O'⟩, List.length_replicate, fun t q ht => by simp at ht⟩)
theorem Rt.newPX (X : Sd p l e R s m args below meth c T n0 cells slots h0) (hx : p.tables.exec = Jvm.exec) {Z : State} {a0 : Array Value} (hZ : Z.Warmed39 s.vm) (w : (Cond.arrayClass .int).before a0 Z = true) {z : Int32} {i : Nat} (hz : z.toNatClampNeg = i) (hn : ¬ z < 0) {cap : Nat} (hcap : i ≤ cap) (hb : cap * 8 ≤ 536870912) {pc pc' : Nat} {Ls : Array Slot} {S : List Value} (hd : decode c.code pc = .ok (.newarray .int, 2)) (hc : cells + 1 ≤ R.cells) (hl : slots + cap ≤ R.slots) (hp : pc + 2 = pc')
    (hh : ∀ T' h' a, a = h0.size → Sd p l e R s m args below meth c T' n0 (cells + 1) (slots + cap) h' → Ext h0 h' → IA Z h' a .int (List.replicate i (defaultValue .int)) → Exa Z h' a "[I" → Rt p e below s k n P (T'.setTop (mkF m pc' Ls (.ref a :: S)))) : Rt p e below s k n P (T.setTop (mkF m pc Ls (.int z :: S))) := by
  subst hp
  obtain ⟨locs, X, N, eT⟩ := X
  obtain ⟨T', h', cA, X', e', E', A', Ex', st⟩ := Jvm.RoadKit.newPE X hx hZ (aty := .int) w eT (g := mkF m pc Ls (.int z :: S)) rfl hd rfl hn (cap := cap) (by rw [hz]; exact hcap) hb hc hl (ad := "[I") (by decide)
  exact Rt.go st (hh T' h' _ rfl ⟨_, X', N, e'⟩ E' (IA.new A' hz) Ex')
theorem Rt.aastoreP (X : Sd p l e R s m args below meth c T n0 cells slots h0) (hx : p.tables.exec = Jvm.exec) {Z : State} (hZ : Z.Warmed39 s.vm) {a b : Addr} {N : Nat} {ps : List (Int32 × Int32)} {x y : Int32} (F : Pr Z h0 a N ps) (hlt : ps.length < N) (B : IA Z h0 b .int [.int x, .int y]) (Eb : Exa Z h0 b "[I") (hne : b ≠ a) {j : Int32} (hj : ¬ j < 0) (hi : j.toNatClampNeg = ps.length) (ga : n0 ≤ a) {pc pc' : Nat} {Ls : Array Slot} {S : List Value} (hd : decode c.code pc = .ok (.aastore, 1)) (hp : pc + 1 = pc')
    (hh : ∀ T' h', Sd p l e R s m args below meth c T' n0 cells slots h' → Wr h0 h' a ps.length (.ref b) → Pr Z h' a N (ps ++ [(x, y)]) → Rt p e below s k n P (T'.setTop (mkF m pc' Ls S))) : Rt p e below s k n P (T.setTop (mkF m pc Ls (.ref b :: .int j :: .ref a :: S))) := by
  subst hp
  obtain ⟨locs, X, Nf, eT⟩ := X
  obtain ⟨rs, ⟨cl, A, r, q, O⟩, hN, H⟩ := id F
  have hlt' : ps.length < rs.length := by omega
  obtain ⟨T', h', X', e', W', st⟩ := Jvm.RoadKit.stR X hx hZ eT A (j := j) (v := .ref b) (inA (vs := rs) r hj hi hlt') rfl (Sto.ofVA A rfl O (Ins.self Eb)) (g := mkF m pc Ls (.ref b :: .int j :: .ref a :: S)) rfl rfl hd
  rw [hi] at W'
  exact Rt.go st (hh T' h' ⟨_, X', Fr.snoc X' Nf ga, e'⟩ W' (F.push hlt W' B hne))
theorem Rt.arraylengthP (X : Sd p l e R s m args below meth c T n0 cells slots h0) (hx : p.tables.exec = Jvm.exec) {Z : State} (hZ : Z.Warmed39 s.vm) {a : Addr} {N : Nat} {ps : List (Int32 × Int32)} (F : Pr Z h0 a N ps) {v : Int32} (hv : N.toInt32 = v) {pc pc' : Nat} {Ls : Array Slot} {S : List Value} (hd : decode c.code pc = .ok (.arraylength, 1)) (hp : pc + 1 = pc')
    (h : Rt p e below s k n P (T.setTop (mkF m pc' Ls (.int v :: S)))) : Rt p e below s k n P (T.setTop (mkF m pc Ls (.ref a :: S))) := by
  obtain ⟨rs, A, hN, -⟩ := F
  exact Rt.arraylength X hx hZ A.ia (by rw [hN]; exact hv) hd hp h
theorem Rt.aaloadP (X : Sd p l e R s m args below meth c T n0 cells slots h0) (hx : p.tables.exec = Jvm.exec) {Z : State} (hZ : Z.Warmed39 s.vm) {a : Addr} {N : Nat} {ps : List (Int32 × Int32)} (F : Pr Z h0 a N ps) {j : Int32} {t : Nat} (hi : j.toNatClampNeg = t) (hj : ¬ j < 0) {q : Int32 × Int32} (hq : ps[t]? = some q) {pc pc' : Nat} {Ls : Array Slot} {S : List Value} (hd : decode c.code pc = .ok (.aaload, 1)) (hp : pc + 1 = pc')
    (h : ∀ y, IA Z h0 y .int [.int q.1, .int q.2] → Rt p e below s k n P (T.setTop (mkF m pc' Ls (.ref y :: S)))) : Rt p e below s k n P (T.setTop (mkF m pc Ls (.int j :: .ref a :: S))) := by
  obtain ⟨rs, A, hN, H⟩ := F
  obtain ⟨y, h1, -, h3⟩ := H t q hq
  exact Rt.aaload X hx hZ rfl A.ia hi hj h1 hd hp (h y h3)
end Pairs
theorem d1_0 : decode jdk_29_method_65_code 0 = .ok (.iload_n 0, 1) := by decide +kernel
theorem d1_1 : decode jdk_29_method_65_code 1 = .ok (.iload_n 1, 1) := by decide +kernel
theorem d1_2 : decode jdk_29_method_65_code 2 = .ok (.if_icmp .lt 7, 3) := by decide +kernel
theorem d1_9 : decode jdk_29_method_65_code 9 = .ok (.iload_n 1, 1) := by decide +kernel
theorem d1_10 : decode jdk_29_method_65_code 10 = .ok (.ireturn, 1) := by decide +kernel
theorem d1_5 : decode jdk_29_method_65_code 5 = .ok (.iload_n 0, 1) := by decide +kernel
theorem d1_6 : decode jdk_29_method_65_code 6 = .ok (.goto 4, 3) := by decide +kernel
def f1 (p1 : Int32) (p2 : Int32) : Int32 := (if p1 < p2 then p2 else p1)
def Q1 (p1 : Int32) (p2 : Int32) (h0 : Heap) (n0 : Nat) (v : Option Value) (h : Heap) (L : List Loc) : Prop := v = some (.int (f1 p1 p2)) ∧ Fr n0 L ∧ h = h0
def rmR1 : Room := { frames := 0, cells := 0, slots := 0, locals := 0 }
theorem ef_1 (m : MethodId) (p1 : Int32) (p2 : Int32) : entryFrame m #[(.int p1), (.int p2)] 2 = mkF m 0 #[.val (.int p1), .val (.int p2)] [] := by first | (simp [entryFrame, mkF, argsToLocals, Value.category]; done) | rfl
set_option maxRecDepth 65536 in
set_option maxHeartbeats 40000000 in
theorem rm1 (l : Launch) (Z : State) (a0 : Array Value) (hw : ∀ d ∈ tables_1, d.before a0 Z = true) (ws : List Jvm.Cond) (p1 : Int32) (p2 : Int32) (h0 : Heap) (n0 : Nat) :
    Mt l Z mt1 (Jvm.Cond.code mt1 jdk_29_method_65_code 2 (some .int) :: ws) rmR1 #[(.int p1), (.int p2)] h0 (Q1 p1 p2 h0 n0) := by
  refine Mt.of n0 (Jvm.Free.JP.mathPlain rfl (by decide +kernel)) ?_
  intro p e s m below meth c T0 X0 hx hZ hby hml hown hret hlk hnm hs0
  have hown : s.vm.findClass "java/lang/Math" = some m.cls := hown
  rw [ef_1]
  show Rt p e below s rmR1.cells rmR1.slots (Q1 p1 p2 h0 n0) (T0.setTop (mkF m 0 #[.val (.int p1), .val (.int p2)] []))
  refine Rt.iloadN (pc' := 1) X0 hx (hb hby d1_0) rfl rfl ?_
  refine Rt.iloadN (pc' := 2) X0 hx (hb hby d1_1) rfl rfl ?_
  by_cases hc2_1 : p1 < p2
  · refine Rt.icmpY (pc' := 9) X0 hx (hb hby d1_2) (tlt hc2_1).1 (by decide) (by decide) ?_
    refine Rt.iloadN (pc' := 10) X0 hx (hb hby d1_9) rfl rfl ?_
    exact Rt.retI X0 hx hlk hret (hb hby d1_10) (by decide) (by decide) (fun L N => ⟨congrArg some (congrArg Value.int (by rw [f1, if_pos hc2_1])), N, rfl⟩)
  · refine Rt.icmpN (pc' := 5) X0 hx (hb hby d1_2) (flt hc2_1).1 rfl ?_
    refine Rt.iloadN (pc' := 6) X0 hx (hb hby d1_5) rfl rfl ?_
    refine Rt.goto (pc' := 10) X0 hx (hb hby d1_6) (by decide) (by decide) ?_
    exact Rt.retI X0 hx hlk hret (hb hby d1_10) (by decide) (by decide) (fun L N => ⟨congrArg some (congrArg Value.int (by rw [f1, if_neg hc2_1])), N, rfl⟩)
theorem own_ite {c : Prop} [Decidable c] {P : Int32 → Prop} {a b : Int32} (ha : P a) (hb : P b) : P (if c then a else b) := by split <;> assumption
theorem d4_6 : decode prog_2_method_4_code 6 = .ok (.iload 6, 2) := by decide +kernel
theorem d4_8 : decode prog_2_method_4_code 8 = .ok (.aload_n 0, 1) := by decide +kernel
theorem d4_9 : decode prog_2_method_4_code 9 = .ok (.arraylength, 1) := by decide +kernel
theorem d4_10 : decode prog_2_method_4_code 10 = .ok (.if_icmp .ge 111, 3) := by decide +kernel
theorem d4_121 : decode prog_2_method_4_code 121 = .ok (.iload 5, 2) := by decide +kernel
theorem d4_123 : decode prog_2_method_4_code 123 = .ok (.ireturn, 1) := by decide +kernel
def gN5 (cnt p2 p3 p4 v0 v1 v2 v3 v4 : Int32) : Int32 := cnt
set_option maxRecDepth 65536 in
theorem sgN5 {p : Program} {l : Launch} {e : Env} {R : Room} {s : State} {m : MethodId} {args : Array Value} {below : List Frame} {meth : Method} {c : Code} {n0 : Nat} {h0 : Heap} {k n : Nat} {P : Option Value → Heap → List Loc → Prop} {Z : State} (hx : p.tables.exec = Jvm.exec) (hZ : Z.Warmed39 s.vm) (hby : c.code = prog_2_method_4_code) (hret : meth.sig.returnType = some .int) (hlk : meth.locks = false) {a1 : Addr} {p2 p3 p4 v0 v1 v2 v3 v4 : Int32} (F : IA Z h0 a1 .int [(.int v0), (.int v1), (.int v2), (.int v3), (.int v4)]) (T0 : State) (cnt : Int32) (s7 s8 s9 : Slot) (hs7 : s7 = .unset ∨ ∃ w, s7 = .val w ∧ w.category = 1) (hs8 : s8 = .unset ∨ ∃ w, s8 = .val w ∧ w.category = 1) (hs9 : s9 = .unset ∨ ∃ w, s9 = .val w ∧ w.category = 1) (X0 : Sd p l e R s m args below meth c T0 n0 0 0 h0) (hP : ∀ L, Fr n0 L → P (some (.int (gN5 cnt p2 p3 p4 v0 v1 v2 v3 v4))) h0 L) : Rt p e below s k n P (T0.setTop (mkF m 6 #[.val (.ref a1), .val (.int p2), .val (.int p3), .val (.int p4), .val .null, .val (.int cnt), .val (.int (5 : Int32)), s7, s8, s9] [])) := by
  refine Rt.iload (pc' := 8) X0 hx (hb hby d4_6) rfl rfl ?_
  refine Rt.aloadN (pc' := 9) X0 hx (hb hby d4_8) rfl rfl rfl ?_
  refine Rt.arraylength (pc' := 10) X0 hx hZ F (v := (5 : Int32)) rfl (hb hby d4_9) rfl ?_
  refine Rt.icmpY (pc' := 121) X0 hx (hb hby d4_10) (flt (by decide : ¬ ((5 : Int32) < (5 : Int32)))).2.1 (by decide) (by decide) ?_
  refine Rt.iload (pc' := 123) X0 hx (hb hby d4_121) rfl rfl ?_
  exact Rt.retI X0 hx hlk hret (hb hby d4_123) (Nat.zero_le _) (Nat.zero_le _) hP
theorem d4_13 : decode prog_2_method_4_code 13 = .ok (.aload_n 0, 1) := by decide +kernel
theorem d4_14 : decode prog_2_method_4_code 14 = .ok (.iload 6, 2) := by decide +kernel
theorem d4_16 : decode prog_2_method_4_code 16 = .ok (.iaload, 1) := by decide +kernel
theorem d4_17 : decode prog_2_method_4_code 17 = .ok (.iload_n 3, 1) := by decide +kernel
theorem d4_18 : decode prog_2_method_4_code 18 = .ok (.if_icmp .gt 9, 3) := by decide +kernel
theorem d4_27 : decode prog_2_method_4_code 27 = .ok (.iload 6, 2) := by decide +kernel
theorem d4_29 : decode prog_2_method_4_code 29 = .ok (.istore 7, 2) := by decide +kernel
theorem d4_31 : decode prog_2_method_4_code 31 = .ok (.iconst 0, 1) := by decide +kernel
theorem d4_32 : decode prog_2_method_4_code 32 = .ok (.istore 8, 2) := by decide +kernel
theorem d4_34 : decode prog_2_method_4_code 34 = .ok (.iload 6, 2) := by decide +kernel
theorem d4_36 : decode prog_2_method_4_code 36 = .ok (.iconst 1, 1) := by decide +kernel
theorem d4_37 : decode prog_2_method_4_code 37 = .ok (.iadd, 1) := by decide +kernel
theorem d4_38 : decode prog_2_method_4_code 38 = .ok (.istore 9, 2) := by decide +kernel
theorem d4_40 : decode prog_2_method_4_code 40 = .ok (.iload 9, 2) := by decide +kernel
theorem d4_42 : decode prog_2_method_4_code 42 = .ok (.aload_n 0, 1) := by decide +kernel
theorem d4_43 : decode prog_2_method_4_code 43 = .ok (.arraylength, 1) := by decide +kernel
theorem d4_44 : decode prog_2_method_4_code 44 = .ok (.if_icmp .ge 42, 3) := by decide +kernel
theorem d4_86 : decode prog_2_method_4_code 86 = .ok (.aload 4, 2) := by decide +kernel
theorem d4_88 : decode prog_2_method_4_code 88 = .ok (.ifnull 21, 3) := by decide +kernel
theorem d4_109 : decode prog_2_method_4_code 109 = .ok (.iinc 5 1, 3) := by decide +kernel
theorem d4_112 : decode prog_2_method_4_code 112 = .ok (.iload 7, 2) := by decide +kernel
theorem d4_114 : decode prog_2_method_4_code 114 = .ok (.iconst 1, 1) := by decide +kernel
theorem d4_115 : decode prog_2_method_4_code 115 = .ok (.iadd, 1) := by decide +kernel
theorem d4_116 : decode prog_2_method_4_code 116 = .ok (.istore 6, 2) := by decide +kernel
theorem d4_118 : decode prog_2_method_4_code 118 = .ok (.goto (-112), 3) := by decide +kernel
theorem d4_21 : decode prog_2_method_4_code 21 = .ok (.iinc 6 1, 3) := by decide +kernel
theorem d4_24 : decode prog_2_method_4_code 24 = .ok (.goto (-18), 3) := by decide +kernel
def f4N_v109 (cnt : Int32) : Int32 := (cnt + (1 : Int32))
def gN4 (cnt p2 p3 p4 v0 v1 v2 v3 v4 : Int32) : Int32 := if p4 < v4 then (gN5 (cnt + 1) p2 p3 p4 v0 v1 v2 v3 v4) else gN5 cnt p2 p3 p4 v0 v1 v2 v3 v4
set_option maxRecDepth 65536 in
theorem sgN4 {p : Program} {l : Launch} {e : Env} {R : Room} {s : State} {m : MethodId} {args : Array Value} {below : List Frame} {meth : Method} {c : Code} {n0 : Nat} {h0 : Heap} {k n : Nat} {P : Option Value → Heap → List Loc → Prop} {Z : State} (hx : p.tables.exec = Jvm.exec) (hZ : Z.Warmed39 s.vm) (hby : c.code = prog_2_method_4_code) (hret : meth.sig.returnType = some .int) (hlk : meth.locks = false) {a1 : Addr} {p2 p3 p4 v0 v1 v2 v3 v4 : Int32} (F : IA Z h0 a1 .int [(.int v0), (.int v1), (.int v2), (.int v3), (.int v4)]) (T0 : State) (cnt : Int32) (s7 s8 s9 : Slot) (hs7 : s7 = .unset ∨ ∃ w, s7 = .val w ∧ w.category = 1) (hs8 : s8 = .unset ∨ ∃ w, s8 = .val w ∧ w.category = 1) (hs9 : s9 = .unset ∨ ∃ w, s9 = .val w ∧ w.category = 1) (X0 : Sd p l e R s m args below meth c T0 n0 0 0 h0) (hP : ∀ L, Fr n0 L → P (some (.int (gN4 cnt p2 p3 p4 v0 v1 v2 v3 v4))) h0 L) : Rt p e below s k n P (T0.setTop (mkF m 6 #[.val (.ref a1), .val (.int p2), .val (.int p3), .val (.int p4), .val .null, .val (.int cnt), .val (.int (4 : Int32)), s7, s8, s9] [])) := by
  refine Rt.iload (pc' := 8) X0 hx (hb hby d4_6) rfl rfl ?_
  refine Rt.aloadN (pc' := 9) X0 hx (hb hby d4_8) rfl rfl rfl ?_
  refine Rt.arraylength (pc' := 10) X0 hx hZ F (v := (5 : Int32)) rfl (hb hby d4_9) rfl ?_
  refine Rt.icmpN (pc' := 13) X0 hx (hb hby d4_10) (tlt (by decide : (4 : Int32) < (5 : Int32))).2.1 rfl ?_
  refine Rt.aloadN (pc' := 14) X0 hx (hb hby d4_13) rfl rfl rfl ?_
  refine Rt.iload (pc' := 16) X0 hx (hb hby d4_14) rfl rfl ?_
  refine Rt.iaload (pc' := 17) X0 hx hZ F (i := 4) (by decide) (by decide) (v := (.int v4)) rfl (hb hby d4_16) rfl ?_
  refine Rt.iloadN (pc' := 18) X0 hx (hb hby d4_17) rfl rfl ?_
  by_cases hk : p4 < v4
  · refine Rt.icmpY (pc' := 27) X0 hx (hb hby d4_18) (tlt hk).2.2.1 (by decide) (by decide) ?_
    refine Rt.iload (pc' := 29) X0 hx (hb hby d4_27) rfl rfl ?_
    refine Rt.istore (pc' := 31) (v := (4 : Int32)) (l' := #[.val (.ref a1), .val (.int p2), .val (.int p3), .val (.int p4), .val .null, .val (.int cnt), .val (.int (4 : Int32)), .val (.int (4 : Int32)), s8, s9]) X0 hx (hb hby d4_29) (by rw [XS.store1 (o := s7) rfl hs7 rfl]; rfl) rfl ?_
    refine Rt.iconst (pc' := 32) (v := (0 : Int32)) X0 hx (hb hby d4_31) rfl rfl ?_
    refine Rt.istore (pc' := 34) (v := (0 : Int32)) (l' := #[.val (.ref a1), .val (.int p2), .val (.int p3), .val (.int p4), .val .null, .val (.int cnt), .val (.int (4 : Int32)), .val (.int (4 : Int32)), .val (.int (0 : Int32)), s9]) X0 hx (hb hby d4_32) (by rw [XS.store1 (o := s8) rfl hs8 rfl]; rfl) rfl ?_
    refine Rt.iload (pc' := 36) X0 hx (hb hby d4_34) rfl rfl ?_
    refine Rt.iconst (pc' := 37) (v := (1 : Int32)) X0 hx (hb hby d4_36) rfl rfl ?_
    refine Rt.iadd (pc' := 38) (r := (5 : Int32)) X0 hx (hb hby d4_37) (by decide) rfl ?_
    refine Rt.istore (pc' := 40) (v := (5 : Int32)) (l' := #[.val (.ref a1), .val (.int p2), .val (.int p3), .val (.int p4), .val .null, .val (.int cnt), .val (.int (4 : Int32)), .val (.int (4 : Int32)), .val (.int (0 : Int32)), .val (.int (5 : Int32))]) X0 hx (hb hby d4_38) (by rw [XS.store1 (o := s9) rfl hs9 rfl]; rfl) rfl ?_
    refine Rt.iload (pc' := 42) X0 hx (hb hby d4_40) rfl rfl ?_
    refine Rt.aloadN (pc' := 43) X0 hx (hb hby d4_42) rfl rfl rfl ?_
    refine Rt.arraylength (pc' := 44) X0 hx hZ F (v := (5 : Int32)) rfl (hb hby d4_43) rfl ?_
    refine Rt.icmpY (pc' := 86) X0 hx (hb hby d4_44) (flt (by decide : ¬ ((5 : Int32) < (5 : Int32)))).2.1 (by decide) (by decide) ?_
    refine Rt.aload (pc' := 88) X0 hx (hb hby d4_86) rfl rfl rfl ?_
    refine Rt.ifnullY (pc' := 109) X0 hx (hb hby d4_88) (by decide) (by decide) ?_
    refine Rt.iinc (pc' := 112) (r := (f4N_v109 cnt)) (l' := #[.val (.ref a1), .val (.int p2), .val (.int p3), .val (.int p4), .val .null, .val (.int (f4N_v109 cnt)), .val (.int (4 : Int32)), .val (.int (4 : Int32)), .val (.int (0 : Int32)), .val (.int (5 : Int32))]) X0 hx (hb hby d4_109) rfl rfl rfl rfl ?_
    refine Rt.iload (pc' := 114) X0 hx (hb hby d4_112) rfl rfl ?_
    refine Rt.iconst (pc' := 115) (v := (1 : Int32)) X0 hx (hb hby d4_114) rfl rfl ?_
    refine Rt.iadd (pc' := 116) (r := (5 : Int32)) X0 hx (hb hby d4_115) (by decide) rfl ?_
    refine Rt.istore (pc' := 118) (v := (5 : Int32)) (l' := #[.val (.ref a1), .val (.int p2), .val (.int p3), .val (.int p4), .val .null, .val (.int (f4N_v109 cnt)), .val (.int (5 : Int32)), .val (.int (4 : Int32)), .val (.int (0 : Int32)), .val (.int (5 : Int32))]) X0 hx (hb hby d4_116) rfl rfl ?_
    refine Rt.goto (pc' := 6) X0 hx (hb hby d4_118) (by decide) (by decide) ?_
    exact sgN5 hx hZ hby hret hlk F T0 _ _ _ _ (Or.inr ⟨_, rfl, rfl⟩) (Or.inr ⟨_, rfl, rfl⟩) (Or.inr ⟨_, rfl, rfl⟩) X0 (by have q := hP; rw [gN4, if_pos hk] at q; exact q)
  · refine Rt.icmpN (pc' := 21) X0 hx (hb hby d4_18) (flt hk).2.2.1 rfl ?_
    refine Rt.iinc (pc' := 24) (r := (5 : Int32)) (l' := #[.val (.ref a1), .val (.int p2), .val (.int p3), .val (.int p4), .val .null, .val (.int cnt), .val (.int (5 : Int32)), s7, s8, s9]) X0 hx (hb hby d4_21) rfl (by decide) rfl rfl ?_
    refine Rt.goto (pc' := 6) X0 hx (hb hby d4_24) (by decide) (by decide) ?_
    exact sgN5 hx hZ hby hret hlk F T0 cnt s7 s8 s9 hs7 hs8 hs9 X0 (by have q := hP; rw [gN4, if_neg hk] at q; exact q)
theorem d4_47 : decode prog_2_method_4_code 47 = .ok (.iload 9, 2) := by decide +kernel
theorem d4_49 : decode prog_2_method_4_code 49 = .ok (.iload 6, 2) := by decide +kernel
theorem d4_51 : decode prog_2_method_4_code 51 = .ok (.isub, 1) := by decide +kernel
theorem d4_52 : decode prog_2_method_4_code 52 = .ok (.iload_n 1, 1) := by decide +kernel
theorem d4_53 : decode prog_2_method_4_code 53 = .ok (.if_icmp .ge 33, 3) := by decide +kernel
theorem d4_56 : decode prog_2_method_4_code 56 = .ok (.iload 8, 2) := by decide +kernel
theorem d4_58 : decode prog_2_method_4_code 58 = .ok (.iload_n 2, 1) := by decide +kernel
theorem d4_59 : decode prog_2_method_4_code 59 = .ok (.if_icmp .gt 27, 3) := by decide +kernel
theorem d4_62 : decode prog_2_method_4_code 62 = .ok (.aload_n 0, 1) := by decide +kernel
theorem d4_63 : decode prog_2_method_4_code 63 = .ok (.iload 9, 2) := by decide +kernel
theorem d4_65 : decode prog_2_method_4_code 65 = .ok (.iaload, 1) := by decide +kernel
theorem d4_66 : decode prog_2_method_4_code 66 = .ok (.iload_n 3, 1) := by decide +kernel
theorem d4_80 : decode prog_2_method_4_code 80 = .ok (.iinc 9 1, 3) := by decide +kernel
theorem d4_83 : decode prog_2_method_4_code 83 = .ok (.goto (-43), 3) := by decide +kernel
theorem d4_67 : decode prog_2_method_4_code 67 = .ok (.if_icmp .le 10, 3) := by decide +kernel
theorem d4_70 : decode prog_2_method_4_code 70 = .ok (.iload 9, 2) := by decide +kernel
theorem d4_72 : decode prog_2_method_4_code 72 = .ok (.istore 7, 2) := by decide +kernel
theorem d4_74 : decode prog_2_method_4_code 74 = .ok (.goto 6, 3) := by decide +kernel
theorem d4_77 : decode prog_2_method_4_code 77 = .ok (.iinc 8 1, 3) := by decide +kernel
def f4N_j80_l7 (p4 : Int32) (v4 : Int32) : Int32 := (if p4 < v4 then (4 : Int32) else (3 : Int32))
def f4N_j80_l8 (p4 : Int32) (v4 : Int32) : Int32 := (if p4 < v4 then (0 : Int32) else (1 : Int32))
def f4N_j86_l7 (p2 : Int32) (p3 : Int32) (p4 : Int32) (v4 : Int32) : Int32 := (if (1 : Int32) < p2 then (if p3 < (0 : Int32) then (3 : Int32) else (f4N_j80_l7 p4 v4)) else (3 : Int32))
def f4N_j86_l8 (p2 : Int32) (p3 : Int32) (p4 : Int32) (v4 : Int32) : Int32 := (if (1 : Int32) < p2 then (if p3 < (0 : Int32) then (0 : Int32) else (f4N_j80_l8 p4 v4)) else (0 : Int32))
def f4N_j86_l9 (p2 : Int32) (p3 : Int32) : Int32 := (if (1 : Int32) < p2 then (if p3 < (0 : Int32) then (4 : Int32) else (5 : Int32)) else (4 : Int32))
def f4N_v116 (p2 : Int32) (p3 : Int32) (p4 : Int32) (v4 : Int32) : Int32 := ((f4N_j86_l7 p2 p3 p4 v4) + (1 : Int32))
theorem own_last3 (p2 p3 p4 v0 v1 v2 v3 v4 : Int32) : (f4N_j86_l7 p2 p3 p4 v4) = 3 ∨ (f4N_j86_l7 p2 p3 p4 v4) = 4 := by
  show (fun x : Int32 => x = 3 ∨ x = 4) (f4N_j86_l7 p2 p3 p4 v4)
  unfold f4N_j86_l7 f4N_j80_l7
  repeat' first | refine own_ite (P := fun x : Int32 => x = 3 ∨ x = 4) ?_ ?_ | simp
def gN3 (cnt p2 p3 p4 v0 v1 v2 v3 v4 : Int32) : Int32 := if p4 < v3 then (if (f4N_j86_l7 p2 p3 p4 v4) = 3 then gN4 (cnt + 1) p2 p3 p4 v0 v1 v2 v3 v4 else (gN5 (cnt + 1) p2 p3 p4 v0 v1 v2 v3 v4)) else gN4 cnt p2 p3 p4 v0 v1 v2 v3 v4
set_option maxRecDepth 65536 in
theorem sgN3 {p : Program} {l : Launch} {e : Env} {R : Room} {s : State} {m : MethodId} {args : Array Value} {below : List Frame} {meth : Method} {c : Code} {n0 : Nat} {h0 : Heap} {k n : Nat} {P : Option Value → Heap → List Loc → Prop} {Z : State} (hx : p.tables.exec = Jvm.exec) (hZ : Z.Warmed39 s.vm) (hby : c.code = prog_2_method_4_code) (hret : meth.sig.returnType = some .int) (hlk : meth.locks = false) {a1 : Addr} {p2 p3 p4 v0 v1 v2 v3 v4 : Int32} (F : IA Z h0 a1 .int [(.int v0), (.int v1), (.int v2), (.int v3), (.int v4)]) (T0 : State) (cnt : Int32) (s7 s8 s9 : Slot) (hs7 : s7 = .unset ∨ ∃ w, s7 = .val w ∧ w.category = 1) (hs8 : s8 = .unset ∨ ∃ w, s8 = .val w ∧ w.category = 1) (hs9 : s9 = .unset ∨ ∃ w, s9 = .val w ∧ w.category = 1) (X0 : Sd p l e R s m args below meth c T0 n0 0 0 h0) (hP : ∀ L, Fr n0 L → P (some (.int (gN3 cnt p2 p3 p4 v0 v1 v2 v3 v4))) h0 L) : Rt p e below s k n P (T0.setTop (mkF m 6 #[.val (.ref a1), .val (.int p2), .val (.int p3), .val (.int p4), .val .null, .val (.int cnt), .val (.int (3 : Int32)), s7, s8, s9] [])) := by
  refine Rt.iload (pc' := 8) X0 hx (hb hby d4_6) rfl rfl ?_
  refine Rt.aloadN (pc' := 9) X0 hx (hb hby d4_8) rfl rfl rfl ?_
  refine Rt.arraylength (pc' := 10) X0 hx hZ F (v := (5 : Int32)) rfl (hb hby d4_9) rfl ?_
  refine Rt.icmpN (pc' := 13) X0 hx (hb hby d4_10) (tlt (by decide : (3 : Int32) < (5 : Int32))).2.1 rfl ?_
  refine Rt.aloadN (pc' := 14) X0 hx (hb hby d4_13) rfl rfl rfl ?_
  refine Rt.iload (pc' := 16) X0 hx (hb hby d4_14) rfl rfl ?_
  refine Rt.iaload (pc' := 17) X0 hx hZ F (i := 3) (by decide) (by decide) (v := (.int v3)) rfl (hb hby d4_16) rfl ?_
  refine Rt.iloadN (pc' := 18) X0 hx (hb hby d4_17) rfl rfl ?_
  by_cases hk : p4 < v3
  · refine Rt.icmpY (pc' := 27) X0 hx (hb hby d4_18) (tlt hk).2.2.1 (by decide) (by decide) ?_
    refine Rt.iload (pc' := 29) X0 hx (hb hby d4_27) rfl rfl ?_
    refine Rt.istore (pc' := 31) (v := (3 : Int32)) (l' := #[.val (.ref a1), .val (.int p2), .val (.int p3), .val (.int p4), .val .null, .val (.int cnt), .val (.int (3 : Int32)), .val (.int (3 : Int32)), s8, s9]) X0 hx (hb hby d4_29) (by rw [XS.store1 (o := s7) rfl hs7 rfl]; rfl) rfl ?_
    refine Rt.iconst (pc' := 32) (v := (0 : Int32)) X0 hx (hb hby d4_31) rfl rfl ?_
    refine Rt.istore (pc' := 34) (v := (0 : Int32)) (l' := #[.val (.ref a1), .val (.int p2), .val (.int p3), .val (.int p4), .val .null, .val (.int cnt), .val (.int (3 : Int32)), .val (.int (3 : Int32)), .val (.int (0 : Int32)), s9]) X0 hx (hb hby d4_32) (by rw [XS.store1 (o := s8) rfl hs8 rfl]; rfl) rfl ?_
    refine Rt.iload (pc' := 36) X0 hx (hb hby d4_34) rfl rfl ?_
    refine Rt.iconst (pc' := 37) (v := (1 : Int32)) X0 hx (hb hby d4_36) rfl rfl ?_
    refine Rt.iadd (pc' := 38) (r := (4 : Int32)) X0 hx (hb hby d4_37) (by decide) rfl ?_
    refine Rt.istore (pc' := 40) (v := (4 : Int32)) (l' := #[.val (.ref a1), .val (.int p2), .val (.int p3), .val (.int p4), .val .null, .val (.int cnt), .val (.int (3 : Int32)), .val (.int (3 : Int32)), .val (.int (0 : Int32)), .val (.int (4 : Int32))]) X0 hx (hb hby d4_38) (by rw [XS.store1 (o := s9) rfl hs9 rfl]; rfl) rfl ?_
    refine Rt.iload (pc' := 42) X0 hx (hb hby d4_40) rfl rfl ?_
    refine Rt.aloadN (pc' := 43) X0 hx (hb hby d4_42) rfl rfl rfl ?_
    refine Rt.arraylength (pc' := 44) X0 hx hZ F (v := (5 : Int32)) rfl (hb hby d4_43) rfl ?_
    refine Rt.icmpN (pc' := 47) X0 hx (hb hby d4_44) (tlt (by decide : (4 : Int32) < (5 : Int32))).2.1 rfl ?_
    refine Rt.iload (pc' := 49) X0 hx (hb hby d4_47) rfl rfl ?_
    refine Rt.iload (pc' := 51) X0 hx (hb hby d4_49) rfl rfl ?_
    refine Rt.isub (pc' := 52) (r := (1 : Int32)) X0 hx (hb hby d4_51) (by decide) rfl ?_
    refine Rt.iloadN (pc' := 53) X0 hx (hb hby d4_52) rfl rfl ?_
    have J53_3 : ∀ T3  , Sd p l e R s m args below meth c T3 n0 0 0 h0 → Rt p e below s k n P (T3.setTop (mkF m 86 #[.val (.ref a1), .val (.int p2), .val (.int p3), .val (.int p4), .val .null, .val (.int cnt), .val (.int (3 : Int32)), .val (.int (f4N_j86_l7 p2 p3 p4 v4)), .val (.int (f4N_j86_l8 p2 p3 p4 v4)), .val (.int (f4N_j86_l9 p2 p3))] [])) := by
      intro T3   X3 
      refine Rt.aload (pc' := 88) X3 hx (hb hby d4_86) rfl rfl rfl ?_
      refine Rt.ifnullY (pc' := 109) X3 hx (hb hby d4_88) (by decide) (by decide) ?_
      refine Rt.iinc (pc' := 112) (r := (f4N_v109 cnt)) (l' := #[.val (.ref a1), .val (.int p2), .val (.int p3), .val (.int p4), .val .null, .val (.int (f4N_v109 cnt)), .val (.int (3 : Int32)), .val (.int (f4N_j86_l7 p2 p3 p4 v4)), .val (.int (f4N_j86_l8 p2 p3 p4 v4)), .val (.int (f4N_j86_l9 p2 p3))]) X3 hx (hb hby d4_109) rfl rfl rfl rfl ?_
      refine Rt.iload (pc' := 114) X3 hx (hb hby d4_112) rfl rfl ?_
      refine Rt.iconst (pc' := 115) (v := (1 : Int32)) X3 hx (hb hby d4_114) rfl rfl ?_
      refine Rt.iadd (pc' := 116) (r := ((f4N_j86_l7 p2 p3 p4 v4) + (1 : Int32))) X3 hx (hb hby d4_115) rfl rfl ?_
      refine Rt.istore (pc' := 118) (v := (f4N_v116 p2 p3 p4 v4)) (l' := #[.val (.ref a1), .val (.int p2), .val (.int p3), .val (.int p4), .val .null, .val (.int (f4N_v109 cnt)), .val (.int (f4N_v116 p2 p3 p4 v4)), .val (.int (f4N_j86_l7 p2 p3 p4 v4)), .val (.int (f4N_j86_l8 p2 p3 p4 v4)), .val (.int (f4N_j86_l9 p2 p3))]) X3 hx (hb hby d4_116) rfl rfl ?_
      refine Rt.goto (pc' := 6) X3 hx (hb hby d4_118) (by decide) (by decide) ?_
      rcases own_last3 p2 p3 p4 v0 v1 v2 v3 v4 with el | el
      · rw [show (f4N_v116 p2 p3 p4 v4) = (4 : Int32) from by rw [f4N_v116, el]; decide]
        exact sgN4 hx hZ hby hret hlk F T3 _ _ _ _ (Or.inr ⟨_, rfl, rfl⟩) (Or.inr ⟨_, rfl, rfl⟩) (Or.inr ⟨_, rfl, rfl⟩) X3 (by have q := hP; rw [gN3, if_pos hk, if_pos el] at q; exact q)
      · rw [show (f4N_v116 p2 p3 p4 v4) = (5 : Int32) from by rw [f4N_v116, el]; decide]
        exact sgN5 hx hZ hby hret hlk F T3 _ _ _ _ (Or.inr ⟨_, rfl, rfl⟩) (Or.inr ⟨_, rfl, rfl⟩) (Or.inr ⟨_, rfl, rfl⟩) X3 (by have q := hP; rw [gN3, if_pos hk, if_neg (by rw [el]; decide)] at q; exact q)
    by_cases hc53_4 : (1 : Int32) < p2
    · refine Rt.icmpN (pc' := 56) X0 hx (hb hby d4_53) (tlt hc53_4).2.1 rfl ?_
      refine Rt.iload (pc' := 58) X0 hx (hb hby d4_56) rfl rfl ?_
      refine Rt.iloadN (pc' := 59) X0 hx (hb hby d4_58) rfl rfl ?_
      by_cases hc59_5 : p3 < (0 : Int32)
      · refine Rt.icmpY (pc' := 86) X0 hx (hb hby d4_59) (tlt hc59_5).2.2.1 (by decide) (by decide) ?_
        have q := J53_3 T0   X0
        rw [show (f4N_j86_l7 p2 p3 p4 v4) = (3 : Int32) from by rw [f4N_j86_l7, if_pos hc53_4, if_pos hc59_5]] at q
        rw [show (f4N_j86_l8 p2 p3 p4 v4) = (0 : Int32) from by rw [f4N_j86_l8, if_pos hc53_4, if_pos hc59_5]] at q
        rw [show (f4N_j86_l9 p2 p3) = (4 : Int32) from by rw [f4N_j86_l9, if_pos hc53_4, if_pos hc59_5]] at q
        exact q
      · refine Rt.icmpN (pc' := 62) X0 hx (hb hby d4_59) (flt hc59_5).2.2.1 rfl ?_
        refine Rt.aloadN (pc' := 63) X0 hx (hb hby d4_62) rfl rfl rfl ?_
        refine Rt.iload (pc' := 65) X0 hx (hb hby d4_63) rfl rfl ?_
        refine Rt.iaload (pc' := 66) X0 hx hZ F (i := 4) (by decide) (by decide) (v := (.int v4)) rfl (hb hby d4_65) rfl ?_
        refine Rt.iloadN (pc' := 67) X0 hx (hb hby d4_66) rfl rfl ?_
        have J67_6 : ∀ T6  , Sd p l e R s m args below meth c T6 n0 0 0 h0 → Rt p e below s k n P (T6.setTop (mkF m 80 #[.val (.ref a1), .val (.int p2), .val (.int p3), .val (.int p4), .val .null, .val (.int cnt), .val (.int (3 : Int32)), .val (.int (f4N_j80_l7 p4 v4)), .val (.int (f4N_j80_l8 p4 v4)), .val (.int (4 : Int32))] [])) := by
          intro T6   X6 
          refine Rt.iinc (pc' := 83) (r := (5 : Int32)) (l' := #[.val (.ref a1), .val (.int p2), .val (.int p3), .val (.int p4), .val .null, .val (.int cnt), .val (.int (3 : Int32)), .val (.int (f4N_j80_l7 p4 v4)), .val (.int (f4N_j80_l8 p4 v4)), .val (.int (5 : Int32))]) X6 hx (hb hby d4_80) rfl (by decide) rfl rfl ?_
          refine Rt.goto (pc' := 40) X6 hx (hb hby d4_83) (by decide) (by decide) ?_
          refine Rt.iload (pc' := 42) X6 hx (hb hby d4_40) rfl rfl ?_
          refine Rt.aloadN (pc' := 43) X6 hx (hb hby d4_42) rfl rfl rfl ?_
          refine Rt.arraylength (pc' := 44) X6 hx hZ F (v := (5 : Int32)) rfl (hb hby d4_43) rfl ?_
          refine Rt.icmpY (pc' := 86) X6 hx (hb hby d4_44) (flt (by decide : ¬ ((5 : Int32) < (5 : Int32)))).2.1 (by decide) (by decide) ?_
          have q := J53_3 T6   X6
          rw [show (f4N_j86_l7 p2 p3 p4 v4) = (f4N_j80_l7 p4 v4) from by rw [f4N_j86_l7, if_pos hc53_4, if_neg hc59_5]] at q
          rw [show (f4N_j86_l8 p2 p3 p4 v4) = (f4N_j80_l8 p4 v4) from by rw [f4N_j86_l8, if_pos hc53_4, if_neg hc59_5]] at q
          rw [show (f4N_j86_l9 p2 p3) = (5 : Int32) from by rw [f4N_j86_l9, if_pos hc53_4, if_neg hc59_5]] at q
          exact q
        by_cases hc67_7 : p4 < v4
        · refine Rt.icmpN (pc' := 70) X0 hx (hb hby d4_67) (tlt hc67_7).2.2.2 rfl ?_
          refine Rt.iload (pc' := 72) X0 hx (hb hby d4_70) rfl rfl ?_
          refine Rt.istore (pc' := 74) (v := (4 : Int32)) (l' := #[.val (.ref a1), .val (.int p2), .val (.int p3), .val (.int p4), .val .null, .val (.int cnt), .val (.int (3 : Int32)), .val (.int (4 : Int32)), .val (.int (0 : Int32)), .val (.int (4 : Int32))]) X0 hx (hb hby d4_72) rfl rfl ?_
          refine Rt.goto (pc' := 80) X0 hx (hb hby d4_74) (by decide) (by decide) ?_
          have q := J67_6 T0   X0
          rw [show (f4N_j80_l7 p4 v4) = (4 : Int32) from by rw [f4N_j80_l7, if_pos hc67_7]] at q
          rw [show (f4N_j80_l8 p4 v4) = (0 : Int32) from by rw [f4N_j80_l8, if_pos hc67_7]] at q
          exact q
        · refine Rt.icmpY (pc' := 77) X0 hx (hb hby d4_67) (flt hc67_7).2.2.2 (by decide) (by decide) ?_
          refine Rt.iinc (pc' := 80) (r := (1 : Int32)) (l' := #[.val (.ref a1), .val (.int p2), .val (.int p3), .val (.int p4), .val .null, .val (.int cnt), .val (.int (3 : Int32)), .val (.int (3 : Int32)), .val (.int (1 : Int32)), .val (.int (4 : Int32))]) X0 hx (hb hby d4_77) rfl (by decide) rfl rfl ?_
          have q := J67_6 T0   X0
          rw [show (f4N_j80_l7 p4 v4) = (3 : Int32) from by rw [f4N_j80_l7, if_neg hc67_7]] at q
          rw [show (f4N_j80_l8 p4 v4) = (1 : Int32) from by rw [f4N_j80_l8, if_neg hc67_7]] at q
          exact q
    · refine Rt.icmpY (pc' := 86) X0 hx (hb hby d4_53) (flt hc53_4).2.1 (by decide) (by decide) ?_
      have q := J53_3 T0   X0
      rw [show (f4N_j86_l7 p2 p3 p4 v4) = (3 : Int32) from by rw [f4N_j86_l7, if_neg hc53_4]] at q
      rw [show (f4N_j86_l8 p2 p3 p4 v4) = (0 : Int32) from by rw [f4N_j86_l8, if_neg hc53_4]] at q
      rw [show (f4N_j86_l9 p2 p3) = (4 : Int32) from by rw [f4N_j86_l9, if_neg hc53_4]] at q
      exact q
  · refine Rt.icmpN (pc' := 21) X0 hx (hb hby d4_18) (flt hk).2.2.1 rfl ?_
    refine Rt.iinc (pc' := 24) (r := (4 : Int32)) (l' := #[.val (.ref a1), .val (.int p2), .val (.int p3), .val (.int p4), .val .null, .val (.int cnt), .val (.int (4 : Int32)), s7, s8, s9]) X0 hx (hb hby d4_21) rfl (by decide) rfl rfl ?_
    refine Rt.goto (pc' := 6) X0 hx (hb hby d4_24) (by decide) (by decide) ?_
    exact sgN4 hx hZ hby hret hlk F T0 cnt s7 s8 s9 hs7 hs8 hs9 X0 (by have q := hP; rw [gN3, if_neg hk] at q; exact q)
def f4N_j80_l7_1 (p4 : Int32) (v3 : Int32) : Int32 := (if p4 < v3 then (3 : Int32) else (2 : Int32))
def f4N_j80_l8_1 (p4 : Int32) (v3 : Int32) : Int32 := (if p4 < v3 then (0 : Int32) else (1 : Int32))
def f4N_v77 (p4 : Int32) (v3 : Int32) : Int32 := ((f4N_j80_l8_1 p4 v3) + (1 : Int32))
def f4N_j80_l7_2 (p4 : Int32) (v3 : Int32) (v4 : Int32) : Int32 := (if p4 < v4 then (4 : Int32) else (f4N_j80_l7_1 p4 v3))
def f4N_j80_l8_2 (p4 : Int32) (v3 : Int32) (v4 : Int32) : Int32 := (if p4 < v4 then (f4N_j80_l8_1 p4 v3) else (f4N_v77 p4 v3))
def f4N_j86_l7_1 (p2 : Int32) (p3 : Int32) (p4 : Int32) (v3 : Int32) (v4 : Int32) : Int32 := (if (1 : Int32) < p2 then (if p3 < (0 : Int32) then (2 : Int32) else (if (2 : Int32) < p2 then (if p3 < (f4N_j80_l8_1 p4 v3) then (f4N_j80_l7_1 p4 v3) else (f4N_j80_l7_2 p4 v3 v4)) else (f4N_j80_l7_1 p4 v3))) else (2 : Int32))
def f4N_j86_l8_1 (p2 : Int32) (p3 : Int32) (p4 : Int32) (v3 : Int32) (v4 : Int32) : Int32 := (if (1 : Int32) < p2 then (if p3 < (0 : Int32) then (0 : Int32) else (if (2 : Int32) < p2 then (if p3 < (f4N_j80_l8_1 p4 v3) then (f4N_j80_l8_1 p4 v3) else (f4N_j80_l8_2 p4 v3 v4)) else (f4N_j80_l8_1 p4 v3))) else (0 : Int32))
def f4N_j86_l9_1 (p2 : Int32) (p3 : Int32) (p4 : Int32) (v3 : Int32) : Int32 := (if (1 : Int32) < p2 then (if p3 < (0 : Int32) then (3 : Int32) else (if (2 : Int32) < p2 then (if p3 < (f4N_j80_l8_1 p4 v3) then (4 : Int32) else (5 : Int32)) else (4 : Int32))) else (3 : Int32))
def f4N_v116_1 (p2 : Int32) (p3 : Int32) (p4 : Int32) (v3 : Int32) (v4 : Int32) : Int32 := ((f4N_j86_l7_1 p2 p3 p4 v3 v4) + (1 : Int32))
theorem own_last2 (p2 p3 p4 v0 v1 v2 v3 v4 : Int32) : (f4N_j86_l7_1 p2 p3 p4 v3 v4) = 2 ∨ (f4N_j86_l7_1 p2 p3 p4 v3 v4) = 3 ∨ (f4N_j86_l7_1 p2 p3 p4 v3 v4) = 4 := by
  show (fun x : Int32 => x = 2 ∨ x = 3 ∨ x = 4) (f4N_j86_l7_1 p2 p3 p4 v3 v4)
  unfold f4N_j86_l7_1 f4N_j80_l7_2 f4N_j80_l7_1
  repeat' first | refine own_ite (P := fun x : Int32 => x = 2 ∨ x = 3 ∨ x = 4) ?_ ?_ | simp
def gN2 (cnt p2 p3 p4 v0 v1 v2 v3 v4 : Int32) : Int32 := if p4 < v2 then (if (f4N_j86_l7_1 p2 p3 p4 v3 v4) = 2 then gN3 (cnt + 1) p2 p3 p4 v0 v1 v2 v3 v4 else (if (f4N_j86_l7_1 p2 p3 p4 v3 v4) = 3 then gN4 (cnt + 1) p2 p3 p4 v0 v1 v2 v3 v4 else (gN5 (cnt + 1) p2 p3 p4 v0 v1 v2 v3 v4))) else gN3 cnt p2 p3 p4 v0 v1 v2 v3 v4
set_option maxRecDepth 65536 in
theorem sgN2 {p : Program} {l : Launch} {e : Env} {R : Room} {s : State} {m : MethodId} {args : Array Value} {below : List Frame} {meth : Method} {c : Code} {n0 : Nat} {h0 : Heap} {k n : Nat} {P : Option Value → Heap → List Loc → Prop} {Z : State} (hx : p.tables.exec = Jvm.exec) (hZ : Z.Warmed39 s.vm) (hby : c.code = prog_2_method_4_code) (hret : meth.sig.returnType = some .int) (hlk : meth.locks = false) {a1 : Addr} {p2 p3 p4 v0 v1 v2 v3 v4 : Int32} (F : IA Z h0 a1 .int [(.int v0), (.int v1), (.int v2), (.int v3), (.int v4)]) (T0 : State) (cnt : Int32) (s7 s8 s9 : Slot) (hs7 : s7 = .unset ∨ ∃ w, s7 = .val w ∧ w.category = 1) (hs8 : s8 = .unset ∨ ∃ w, s8 = .val w ∧ w.category = 1) (hs9 : s9 = .unset ∨ ∃ w, s9 = .val w ∧ w.category = 1) (X0 : Sd p l e R s m args below meth c T0 n0 0 0 h0) (hP : ∀ L, Fr n0 L → P (some (.int (gN2 cnt p2 p3 p4 v0 v1 v2 v3 v4))) h0 L) : Rt p e below s k n P (T0.setTop (mkF m 6 #[.val (.ref a1), .val (.int p2), .val (.int p3), .val (.int p4), .val .null, .val (.int cnt), .val (.int (2 : Int32)), s7, s8, s9] [])) := by
  refine Rt.iload (pc' := 8) X0 hx (hb hby d4_6) rfl rfl ?_
  refine Rt.aloadN (pc' := 9) X0 hx (hb hby d4_8) rfl rfl rfl ?_
  refine Rt.arraylength (pc' := 10) X0 hx hZ F (v := (5 : Int32)) rfl (hb hby d4_9) rfl ?_
  refine Rt.icmpN (pc' := 13) X0 hx (hb hby d4_10) (tlt (by decide : (2 : Int32) < (5 : Int32))).2.1 rfl ?_
  refine Rt.aloadN (pc' := 14) X0 hx (hb hby d4_13) rfl rfl rfl ?_
  refine Rt.iload (pc' := 16) X0 hx (hb hby d4_14) rfl rfl ?_
  refine Rt.iaload (pc' := 17) X0 hx hZ F (i := 2) (by decide) (by decide) (v := (.int v2)) rfl (hb hby d4_16) rfl ?_
  refine Rt.iloadN (pc' := 18) X0 hx (hb hby d4_17) rfl rfl ?_
  by_cases hk : p4 < v2
  · refine Rt.icmpY (pc' := 27) X0 hx (hb hby d4_18) (tlt hk).2.2.1 (by decide) (by decide) ?_
    refine Rt.iload (pc' := 29) X0 hx (hb hby d4_27) rfl rfl ?_
    refine Rt.istore (pc' := 31) (v := (2 : Int32)) (l' := #[.val (.ref a1), .val (.int p2), .val (.int p3), .val (.int p4), .val .null, .val (.int cnt), .val (.int (2 : Int32)), .val (.int (2 : Int32)), s8, s9]) X0 hx (hb hby d4_29) (by rw [XS.store1 (o := s7) rfl hs7 rfl]; rfl) rfl ?_
    refine Rt.iconst (pc' := 32) (v := (0 : Int32)) X0 hx (hb hby d4_31) rfl rfl ?_
    refine Rt.istore (pc' := 34) (v := (0 : Int32)) (l' := #[.val (.ref a1), .val (.int p2), .val (.int p3), .val (.int p4), .val .null, .val (.int cnt), .val (.int (2 : Int32)), .val (.int (2 : Int32)), .val (.int (0 : Int32)), s9]) X0 hx (hb hby d4_32) (by rw [XS.store1 (o := s8) rfl hs8 rfl]; rfl) rfl ?_
    refine Rt.iload (pc' := 36) X0 hx (hb hby d4_34) rfl rfl ?_
    refine Rt.iconst (pc' := 37) (v := (1 : Int32)) X0 hx (hb hby d4_36) rfl rfl ?_
    refine Rt.iadd (pc' := 38) (r := (3 : Int32)) X0 hx (hb hby d4_37) (by decide) rfl ?_
    refine Rt.istore (pc' := 40) (v := (3 : Int32)) (l' := #[.val (.ref a1), .val (.int p2), .val (.int p3), .val (.int p4), .val .null, .val (.int cnt), .val (.int (2 : Int32)), .val (.int (2 : Int32)), .val (.int (0 : Int32)), .val (.int (3 : Int32))]) X0 hx (hb hby d4_38) (by rw [XS.store1 (o := s9) rfl hs9 rfl]; rfl) rfl ?_
    refine Rt.iload (pc' := 42) X0 hx (hb hby d4_40) rfl rfl ?_
    refine Rt.aloadN (pc' := 43) X0 hx (hb hby d4_42) rfl rfl rfl ?_
    refine Rt.arraylength (pc' := 44) X0 hx hZ F (v := (5 : Int32)) rfl (hb hby d4_43) rfl ?_
    refine Rt.icmpN (pc' := 47) X0 hx (hb hby d4_44) (tlt (by decide : (3 : Int32) < (5 : Int32))).2.1 rfl ?_
    refine Rt.iload (pc' := 49) X0 hx (hb hby d4_47) rfl rfl ?_
    refine Rt.iload (pc' := 51) X0 hx (hb hby d4_49) rfl rfl ?_
    refine Rt.isub (pc' := 52) (r := (1 : Int32)) X0 hx (hb hby d4_51) (by decide) rfl ?_
    refine Rt.iloadN (pc' := 53) X0 hx (hb hby d4_52) rfl rfl ?_
    have J53_9 : ∀ T9  , Sd p l e R s m args below meth c T9 n0 0 0 h0 → Rt p e below s k n P (T9.setTop (mkF m 86 #[.val (.ref a1), .val (.int p2), .val (.int p3), .val (.int p4), .val .null, .val (.int cnt), .val (.int (2 : Int32)), .val (.int (f4N_j86_l7_1 p2 p3 p4 v3 v4)), .val (.int (f4N_j86_l8_1 p2 p3 p4 v3 v4)), .val (.int (f4N_j86_l9_1 p2 p3 p4 v3))] [])) := by
      intro T9   X9 
      refine Rt.aload (pc' := 88) X9 hx (hb hby d4_86) rfl rfl rfl ?_
      refine Rt.ifnullY (pc' := 109) X9 hx (hb hby d4_88) (by decide) (by decide) ?_
      refine Rt.iinc (pc' := 112) (r := (f4N_v109 cnt)) (l' := #[.val (.ref a1), .val (.int p2), .val (.int p3), .val (.int p4), .val .null, .val (.int (f4N_v109 cnt)), .val (.int (2 : Int32)), .val (.int (f4N_j86_l7_1 p2 p3 p4 v3 v4)), .val (.int (f4N_j86_l8_1 p2 p3 p4 v3 v4)), .val (.int (f4N_j86_l9_1 p2 p3 p4 v3))]) X9 hx (hb hby d4_109) rfl rfl rfl rfl ?_
      refine Rt.iload (pc' := 114) X9 hx (hb hby d4_112) rfl rfl ?_
      refine Rt.iconst (pc' := 115) (v := (1 : Int32)) X9 hx (hb hby d4_114) rfl rfl ?_
      refine Rt.iadd (pc' := 116) (r := ((f4N_j86_l7_1 p2 p3 p4 v3 v4) + (1 : Int32))) X9 hx (hb hby d4_115) rfl rfl ?_
      refine Rt.istore (pc' := 118) (v := (f4N_v116_1 p2 p3 p4 v3 v4)) (l' := #[.val (.ref a1), .val (.int p2), .val (.int p3), .val (.int p4), .val .null, .val (.int (f4N_v109 cnt)), .val (.int (f4N_v116_1 p2 p3 p4 v3 v4)), .val (.int (f4N_j86_l7_1 p2 p3 p4 v3 v4)), .val (.int (f4N_j86_l8_1 p2 p3 p4 v3 v4)), .val (.int (f4N_j86_l9_1 p2 p3 p4 v3))]) X9 hx (hb hby d4_116) rfl rfl ?_
      refine Rt.goto (pc' := 6) X9 hx (hb hby d4_118) (by decide) (by decide) ?_
      rcases own_last2 p2 p3 p4 v0 v1 v2 v3 v4 with el | el | el
      · rw [show (f4N_v116_1 p2 p3 p4 v3 v4) = (3 : Int32) from by rw [f4N_v116_1, el]; decide]
        exact sgN3 hx hZ hby hret hlk F T9 _ _ _ _ (Or.inr ⟨_, rfl, rfl⟩) (Or.inr ⟨_, rfl, rfl⟩) (Or.inr ⟨_, rfl, rfl⟩) X9 (by have q := hP; rw [gN2, if_pos hk, if_pos el] at q; exact q)
      · rw [show (f4N_v116_1 p2 p3 p4 v3 v4) = (4 : Int32) from by rw [f4N_v116_1, el]; decide]
        exact sgN4 hx hZ hby hret hlk F T9 _ _ _ _ (Or.inr ⟨_, rfl, rfl⟩) (Or.inr ⟨_, rfl, rfl⟩) (Or.inr ⟨_, rfl, rfl⟩) X9 (by have q := hP; rw [gN2, if_pos hk, if_neg (by rw [el]; decide), if_pos el] at q; exact q)
      · rw [show (f4N_v116_1 p2 p3 p4 v3 v4) = (5 : Int32) from by rw [f4N_v116_1, el]; decide]
        exact sgN5 hx hZ hby hret hlk F T9 _ _ _ _ (Or.inr ⟨_, rfl, rfl⟩) (Or.inr ⟨_, rfl, rfl⟩) (Or.inr ⟨_, rfl, rfl⟩) X9 (by have q := hP; rw [gN2, if_pos hk, if_neg (by rw [el]; decide), if_neg (by rw [el]; decide)] at q; exact q)
    by_cases hc53_10 : (1 : Int32) < p2
    · refine Rt.icmpN (pc' := 56) X0 hx (hb hby d4_53) (tlt hc53_10).2.1 rfl ?_
      refine Rt.iload (pc' := 58) X0 hx (hb hby d4_56) rfl rfl ?_
      refine Rt.iloadN (pc' := 59) X0 hx (hb hby d4_58) rfl rfl ?_
      by_cases hc59_11 : p3 < (0 : Int32)
      · refine Rt.icmpY (pc' := 86) X0 hx (hb hby d4_59) (tlt hc59_11).2.2.1 (by decide) (by decide) ?_
        have q := J53_9 T0   X0
        rw [show (f4N_j86_l7_1 p2 p3 p4 v3 v4) = (2 : Int32) from by rw [f4N_j86_l7_1, if_pos hc53_10, if_pos hc59_11]] at q
        rw [show (f4N_j86_l8_1 p2 p3 p4 v3 v4) = (0 : Int32) from by rw [f4N_j86_l8_1, if_pos hc53_10, if_pos hc59_11]] at q
        rw [show (f4N_j86_l9_1 p2 p3 p4 v3) = (3 : Int32) from by rw [f4N_j86_l9_1, if_pos hc53_10, if_pos hc59_11]] at q
        exact q
      · refine Rt.icmpN (pc' := 62) X0 hx (hb hby d4_59) (flt hc59_11).2.2.1 rfl ?_
        refine Rt.aloadN (pc' := 63) X0 hx (hb hby d4_62) rfl rfl rfl ?_
        refine Rt.iload (pc' := 65) X0 hx (hb hby d4_63) rfl rfl ?_
        refine Rt.iaload (pc' := 66) X0 hx hZ F (i := 3) (by decide) (by decide) (v := (.int v3)) rfl (hb hby d4_65) rfl ?_
        refine Rt.iloadN (pc' := 67) X0 hx (hb hby d4_66) rfl rfl ?_
        have J67_12 : ∀ T12  , Sd p l e R s m args below meth c T12 n0 0 0 h0 → Rt p e below s k n P (T12.setTop (mkF m 80 #[.val (.ref a1), .val (.int p2), .val (.int p3), .val (.int p4), .val .null, .val (.int cnt), .val (.int (2 : Int32)), .val (.int (f4N_j80_l7_1 p4 v3)), .val (.int (f4N_j80_l8_1 p4 v3)), .val (.int (3 : Int32))] [])) := by
          intro T12   X12 
          refine Rt.iinc (pc' := 83) (r := (4 : Int32)) (l' := #[.val (.ref a1), .val (.int p2), .val (.int p3), .val (.int p4), .val .null, .val (.int cnt), .val (.int (2 : Int32)), .val (.int (f4N_j80_l7_1 p4 v3)), .val (.int (f4N_j80_l8_1 p4 v3)), .val (.int (4 : Int32))]) X12 hx (hb hby d4_80) rfl (by decide) rfl rfl ?_
          refine Rt.goto (pc' := 40) X12 hx (hb hby d4_83) (by decide) (by decide) ?_
          refine Rt.iload (pc' := 42) X12 hx (hb hby d4_40) rfl rfl ?_
          refine Rt.aloadN (pc' := 43) X12 hx (hb hby d4_42) rfl rfl rfl ?_
          refine Rt.arraylength (pc' := 44) X12 hx hZ F (v := (5 : Int32)) rfl (hb hby d4_43) rfl ?_
          refine Rt.icmpN (pc' := 47) X12 hx (hb hby d4_44) (tlt (by decide : (4 : Int32) < (5 : Int32))).2.1 rfl ?_
          refine Rt.iload (pc' := 49) X12 hx (hb hby d4_47) rfl rfl ?_
          refine Rt.iload (pc' := 51) X12 hx (hb hby d4_49) rfl rfl ?_
          refine Rt.isub (pc' := 52) (r := (2 : Int32)) X12 hx (hb hby d4_51) (by decide) rfl ?_
          refine Rt.iloadN (pc' := 53) X12 hx (hb hby d4_52) rfl rfl ?_
          by_cases hc53_13 : (2 : Int32) < p2
          · refine Rt.icmpN (pc' := 56) X12 hx (hb hby d4_53) (tlt hc53_13).2.1 rfl ?_
            refine Rt.iload (pc' := 58) X12 hx (hb hby d4_56) rfl rfl ?_
            refine Rt.iloadN (pc' := 59) X12 hx (hb hby d4_58) rfl rfl ?_
            by_cases hc59_14 : p3 < (f4N_j80_l8_1 p4 v3)
            · refine Rt.icmpY (pc' := 86) X12 hx (hb hby d4_59) (tlt hc59_14).2.2.1 (by decide) (by decide) ?_
              have q := J53_9 T12   X12
              rw [show (f4N_j86_l7_1 p2 p3 p4 v3 v4) = (f4N_j80_l7_1 p4 v3) from by rw [f4N_j86_l7_1, if_pos hc53_10, if_neg hc59_11, if_pos hc53_13, if_pos hc59_14]] at q
              rw [show (f4N_j86_l8_1 p2 p3 p4 v3 v4) = (f4N_j80_l8_1 p4 v3) from by rw [f4N_j86_l8_1, if_pos hc53_10, if_neg hc59_11, if_pos hc53_13, if_pos hc59_14]] at q
              rw [show (f4N_j86_l9_1 p2 p3 p4 v3) = (4 : Int32) from by rw [f4N_j86_l9_1, if_pos hc53_10, if_neg hc59_11, if_pos hc53_13, if_pos hc59_14]] at q
              exact q
            · refine Rt.icmpN (pc' := 62) X12 hx (hb hby d4_59) (flt hc59_14).2.2.1 rfl ?_
              refine Rt.aloadN (pc' := 63) X12 hx (hb hby d4_62) rfl rfl rfl ?_
              refine Rt.iload (pc' := 65) X12 hx (hb hby d4_63) rfl rfl ?_
              refine Rt.iaload (pc' := 66) X12 hx hZ F (i := 4) (by decide) (by decide) (v := (.int v4)) rfl (hb hby d4_65) rfl ?_
              refine Rt.iloadN (pc' := 67) X12 hx (hb hby d4_66) rfl rfl ?_
              have J67_15 : ∀ T15  , Sd p l e R s m args below meth c T15 n0 0 0 h0 → Rt p e below s k n P (T15.setTop (mkF m 80 #[.val (.ref a1), .val (.int p2), .val (.int p3), .val (.int p4), .val .null, .val (.int cnt), .val (.int (2 : Int32)), .val (.int (f4N_j80_l7_2 p4 v3 v4)), .val (.int (f4N_j80_l8_2 p4 v3 v4)), .val (.int (4 : Int32))] [])) := by
                intro T15   X15 
                refine Rt.iinc (pc' := 83) (r := (5 : Int32)) (l' := #[.val (.ref a1), .val (.int p2), .val (.int p3), .val (.int p4), .val .null, .val (.int cnt), .val (.int (2 : Int32)), .val (.int (f4N_j80_l7_2 p4 v3 v4)), .val (.int (f4N_j80_l8_2 p4 v3 v4)), .val (.int (5 : Int32))]) X15 hx (hb hby d4_80) rfl (by decide) rfl rfl ?_
                refine Rt.goto (pc' := 40) X15 hx (hb hby d4_83) (by decide) (by decide) ?_
                refine Rt.iload (pc' := 42) X15 hx (hb hby d4_40) rfl rfl ?_
                refine Rt.aloadN (pc' := 43) X15 hx (hb hby d4_42) rfl rfl rfl ?_
                refine Rt.arraylength (pc' := 44) X15 hx hZ F (v := (5 : Int32)) rfl (hb hby d4_43) rfl ?_
                refine Rt.icmpY (pc' := 86) X15 hx (hb hby d4_44) (flt (by decide : ¬ ((5 : Int32) < (5 : Int32)))).2.1 (by decide) (by decide) ?_
                have q := J53_9 T15   X15
                rw [show (f4N_j86_l7_1 p2 p3 p4 v3 v4) = (f4N_j80_l7_2 p4 v3 v4) from by rw [f4N_j86_l7_1, if_pos hc53_10, if_neg hc59_11, if_pos hc53_13, if_neg hc59_14]] at q
                rw [show (f4N_j86_l8_1 p2 p3 p4 v3 v4) = (f4N_j80_l8_2 p4 v3 v4) from by rw [f4N_j86_l8_1, if_pos hc53_10, if_neg hc59_11, if_pos hc53_13, if_neg hc59_14]] at q
                rw [show (f4N_j86_l9_1 p2 p3 p4 v3) = (5 : Int32) from by rw [f4N_j86_l9_1, if_pos hc53_10, if_neg hc59_11, if_pos hc53_13, if_neg hc59_14]] at q
                exact q
              by_cases hc67_16 : p4 < v4
              · refine Rt.icmpN (pc' := 70) X12 hx (hb hby d4_67) (tlt hc67_16).2.2.2 rfl ?_
                refine Rt.iload (pc' := 72) X12 hx (hb hby d4_70) rfl rfl ?_
                refine Rt.istore (pc' := 74) (v := (4 : Int32)) (l' := #[.val (.ref a1), .val (.int p2), .val (.int p3), .val (.int p4), .val .null, .val (.int cnt), .val (.int (2 : Int32)), .val (.int (4 : Int32)), .val (.int (f4N_j80_l8_1 p4 v3)), .val (.int (4 : Int32))]) X12 hx (hb hby d4_72) rfl rfl ?_
                refine Rt.goto (pc' := 80) X12 hx (hb hby d4_74) (by decide) (by decide) ?_
                have q := J67_15 T12   X12
                rw [show (f4N_j80_l7_2 p4 v3 v4) = (4 : Int32) from by rw [f4N_j80_l7_2, if_pos hc67_16]] at q
                rw [show (f4N_j80_l8_2 p4 v3 v4) = (f4N_j80_l8_1 p4 v3) from by rw [f4N_j80_l8_2, if_pos hc67_16]] at q
                exact q
              · refine Rt.icmpY (pc' := 77) X12 hx (hb hby d4_67) (flt hc67_16).2.2.2 (by decide) (by decide) ?_
                refine Rt.iinc (pc' := 80) (r := (f4N_v77 p4 v3)) (l' := #[.val (.ref a1), .val (.int p2), .val (.int p3), .val (.int p4), .val .null, .val (.int cnt), .val (.int (2 : Int32)), .val (.int (f4N_j80_l7_1 p4 v3)), .val (.int (f4N_v77 p4 v3)), .val (.int (4 : Int32))]) X12 hx (hb hby d4_77) rfl rfl rfl rfl ?_
                have q := J67_15 T12   X12
                rw [show (f4N_j80_l7_2 p4 v3 v4) = (f4N_j80_l7_1 p4 v3) from by rw [f4N_j80_l7_2, if_neg hc67_16]] at q
                rw [show (f4N_j80_l8_2 p4 v3 v4) = (f4N_v77 p4 v3) from by rw [f4N_j80_l8_2, if_neg hc67_16]] at q
                exact q
          · refine Rt.icmpY (pc' := 86) X12 hx (hb hby d4_53) (flt hc53_13).2.1 (by decide) (by decide) ?_
            have q := J53_9 T12   X12
            rw [show (f4N_j86_l7_1 p2 p3 p4 v3 v4) = (f4N_j80_l7_1 p4 v3) from by rw [f4N_j86_l7_1, if_pos hc53_10, if_neg hc59_11, if_neg hc53_13]] at q
            rw [show (f4N_j86_l8_1 p2 p3 p4 v3 v4) = (f4N_j80_l8_1 p4 v3) from by rw [f4N_j86_l8_1, if_pos hc53_10, if_neg hc59_11, if_neg hc53_13]] at q
            rw [show (f4N_j86_l9_1 p2 p3 p4 v3) = (4 : Int32) from by rw [f4N_j86_l9_1, if_pos hc53_10, if_neg hc59_11, if_neg hc53_13]] at q
            exact q
        by_cases hc67_17 : p4 < v3
        · refine Rt.icmpN (pc' := 70) X0 hx (hb hby d4_67) (tlt hc67_17).2.2.2 rfl ?_
          refine Rt.iload (pc' := 72) X0 hx (hb hby d4_70) rfl rfl ?_
          refine Rt.istore (pc' := 74) (v := (3 : Int32)) (l' := #[.val (.ref a1), .val (.int p2), .val (.int p3), .val (.int p4), .val .null, .val (.int cnt), .val (.int (2 : Int32)), .val (.int (3 : Int32)), .val (.int (0 : Int32)), .val (.int (3 : Int32))]) X0 hx (hb hby d4_72) rfl rfl ?_
          refine Rt.goto (pc' := 80) X0 hx (hb hby d4_74) (by decide) (by decide) ?_
          have q := J67_12 T0   X0
          rw [show (f4N_j80_l7_1 p4 v3) = (3 : Int32) from by rw [f4N_j80_l7_1, if_pos hc67_17]] at q
          rw [show (f4N_j80_l8_1 p4 v3) = (0 : Int32) from by rw [f4N_j80_l8_1, if_pos hc67_17]] at q
          exact q
        · refine Rt.icmpY (pc' := 77) X0 hx (hb hby d4_67) (flt hc67_17).2.2.2 (by decide) (by decide) ?_
          refine Rt.iinc (pc' := 80) (r := (1 : Int32)) (l' := #[.val (.ref a1), .val (.int p2), .val (.int p3), .val (.int p4), .val .null, .val (.int cnt), .val (.int (2 : Int32)), .val (.int (2 : Int32)), .val (.int (1 : Int32)), .val (.int (3 : Int32))]) X0 hx (hb hby d4_77) rfl (by decide) rfl rfl ?_
          have q := J67_12 T0   X0
          rw [show (f4N_j80_l7_1 p4 v3) = (2 : Int32) from by rw [f4N_j80_l7_1, if_neg hc67_17]] at q
          rw [show (f4N_j80_l8_1 p4 v3) = (1 : Int32) from by rw [f4N_j80_l8_1, if_neg hc67_17]] at q
          exact q
    · refine Rt.icmpY (pc' := 86) X0 hx (hb hby d4_53) (flt hc53_10).2.1 (by decide) (by decide) ?_
      have q := J53_9 T0   X0
      rw [show (f4N_j86_l7_1 p2 p3 p4 v3 v4) = (2 : Int32) from by rw [f4N_j86_l7_1, if_neg hc53_10]] at q
      rw [show (f4N_j86_l8_1 p2 p3 p4 v3 v4) = (0 : Int32) from by rw [f4N_j86_l8_1, if_neg hc53_10]] at q
      rw [show (f4N_j86_l9_1 p2 p3 p4 v3) = (3 : Int32) from by rw [f4N_j86_l9_1, if_neg hc53_10]] at q
      exact q
  · refine Rt.icmpN (pc' := 21) X0 hx (hb hby d4_18) (flt hk).2.2.1 rfl ?_
    refine Rt.iinc (pc' := 24) (r := (3 : Int32)) (l' := #[.val (.ref a1), .val (.int p2), .val (.int p3), .val (.int p4), .val .null, .val (.int cnt), .val (.int (3 : Int32)), s7, s8, s9]) X0 hx (hb hby d4_21) rfl (by decide) rfl rfl ?_
    refine Rt.goto (pc' := 6) X0 hx (hb hby d4_24) (by decide) (by decide) ?_
    exact sgN3 hx hZ hby hret hlk F T0 cnt s7 s8 s9 hs7 hs8 hs9 X0 (by have q := hP; rw [gN2, if_neg hk] at q; exact q)
def f4N_j80_l7_3 (p4 : Int32) (v2 : Int32) : Int32 := (if p4 < v2 then (2 : Int32) else (1 : Int32))
def f4N_j80_l8_3 (p4 : Int32) (v2 : Int32) : Int32 := (if p4 < v2 then (0 : Int32) else (1 : Int32))
def f4N_v77_1 (p4 : Int32) (v2 : Int32) : Int32 := ((f4N_j80_l8_3 p4 v2) + (1 : Int32))
def f4N_j80_l7_4 (p4 : Int32) (v2 : Int32) (v3 : Int32) : Int32 := (if p4 < v3 then (3 : Int32) else (f4N_j80_l7_3 p4 v2))
def f4N_j80_l8_4 (p4 : Int32) (v2 : Int32) (v3 : Int32) : Int32 := (if p4 < v3 then (f4N_j80_l8_3 p4 v2) else (f4N_v77_1 p4 v2))
def f4N_v77_2 (p4 : Int32) (v2 : Int32) (v3 : Int32) : Int32 := ((f4N_j80_l8_4 p4 v2 v3) + (1 : Int32))
def f4N_j80_l7_5 (p4 : Int32) (v2 : Int32) (v3 : Int32) (v4 : Int32) : Int32 := (if p4 < v4 then (4 : Int32) else (f4N_j80_l7_4 p4 v2 v3))
def f4N_j80_l8_5 (p4 : Int32) (v2 : Int32) (v3 : Int32) (v4 : Int32) : Int32 := (if p4 < v4 then (f4N_j80_l8_4 p4 v2 v3) else (f4N_v77_2 p4 v2 v3))
def f4N_j86_l7_2 (p2 : Int32) (p3 : Int32) (p4 : Int32) (v2 : Int32) (v3 : Int32) (v4 : Int32) : Int32 := (if (1 : Int32) < p2 then (if p3 < (0 : Int32) then (1 : Int32) else (if (2 : Int32) < p2 then (if p3 < (f4N_j80_l8_3 p4 v2) then (f4N_j80_l7_3 p4 v2) else (if (3 : Int32) < p2 then (if p3 < (f4N_j80_l8_4 p4 v2 v3) then (f4N_j80_l7_4 p4 v2 v3) else (f4N_j80_l7_5 p4 v2 v3 v4)) else (f4N_j80_l7_4 p4 v2 v3))) else (f4N_j80_l7_3 p4 v2))) else (1 : Int32))
def f4N_j86_l8_2 (p2 : Int32) (p3 : Int32) (p4 : Int32) (v2 : Int32) (v3 : Int32) (v4 : Int32) : Int32 := (if (1 : Int32) < p2 then (if p3 < (0 : Int32) then (0 : Int32) else (if (2 : Int32) < p2 then (if p3 < (f4N_j80_l8_3 p4 v2) then (f4N_j80_l8_3 p4 v2) else (if (3 : Int32) < p2 then (if p3 < (f4N_j80_l8_4 p4 v2 v3) then (f4N_j80_l8_4 p4 v2 v3) else (f4N_j80_l8_5 p4 v2 v3 v4)) else (f4N_j80_l8_4 p4 v2 v3))) else (f4N_j80_l8_3 p4 v2))) else (0 : Int32))
def f4N_j86_l9_2 (p2 : Int32) (p3 : Int32) (p4 : Int32) (v2 : Int32) (v3 : Int32) : Int32 := (if (1 : Int32) < p2 then (if p3 < (0 : Int32) then (2 : Int32) else (if (2 : Int32) < p2 then (if p3 < (f4N_j80_l8_3 p4 v2) then (3 : Int32) else (if (3 : Int32) < p2 then (if p3 < (f4N_j80_l8_4 p4 v2 v3) then (4 : Int32) else (5 : Int32)) else (4 : Int32))) else (3 : Int32))) else (2 : Int32))
def f4N_v116_2 (p2 : Int32) (p3 : Int32) (p4 : Int32) (v2 : Int32) (v3 : Int32) (v4 : Int32) : Int32 := ((f4N_j86_l7_2 p2 p3 p4 v2 v3 v4) + (1 : Int32))
theorem own_last1 (p2 p3 p4 v0 v1 v2 v3 v4 : Int32) : (f4N_j86_l7_2 p2 p3 p4 v2 v3 v4) = 1 ∨ (f4N_j86_l7_2 p2 p3 p4 v2 v3 v4) = 2 ∨ (f4N_j86_l7_2 p2 p3 p4 v2 v3 v4) = 3 ∨ (f4N_j86_l7_2 p2 p3 p4 v2 v3 v4) = 4 := by
  show (fun x : Int32 => x = 1 ∨ x = 2 ∨ x = 3 ∨ x = 4) (f4N_j86_l7_2 p2 p3 p4 v2 v3 v4)
  unfold f4N_j86_l7_2 f4N_j80_l7_5 f4N_j80_l7_4 f4N_j80_l7_3
  repeat' first | refine own_ite (P := fun x : Int32 => x = 1 ∨ x = 2 ∨ x = 3 ∨ x = 4) ?_ ?_ | simp
def gN1 (cnt p2 p3 p4 v0 v1 v2 v3 v4 : Int32) : Int32 := if p4 < v1 then (if (f4N_j86_l7_2 p2 p3 p4 v2 v3 v4) = 1 then gN2 (cnt + 1) p2 p3 p4 v0 v1 v2 v3 v4 else (if (f4N_j86_l7_2 p2 p3 p4 v2 v3 v4) = 2 then gN3 (cnt + 1) p2 p3 p4 v0 v1 v2 v3 v4 else (if (f4N_j86_l7_2 p2 p3 p4 v2 v3 v4) = 3 then gN4 (cnt + 1) p2 p3 p4 v0 v1 v2 v3 v4 else (gN5 (cnt + 1) p2 p3 p4 v0 v1 v2 v3 v4)))) else gN2 cnt p2 p3 p4 v0 v1 v2 v3 v4
set_option maxRecDepth 65536 in
theorem sgN1 {p : Program} {l : Launch} {e : Env} {R : Room} {s : State} {m : MethodId} {args : Array Value} {below : List Frame} {meth : Method} {c : Code} {n0 : Nat} {h0 : Heap} {k n : Nat} {P : Option Value → Heap → List Loc → Prop} {Z : State} (hx : p.tables.exec = Jvm.exec) (hZ : Z.Warmed39 s.vm) (hby : c.code = prog_2_method_4_code) (hret : meth.sig.returnType = some .int) (hlk : meth.locks = false) {a1 : Addr} {p2 p3 p4 v0 v1 v2 v3 v4 : Int32} (F : IA Z h0 a1 .int [(.int v0), (.int v1), (.int v2), (.int v3), (.int v4)]) (T0 : State) (cnt : Int32) (s7 s8 s9 : Slot) (hs7 : s7 = .unset ∨ ∃ w, s7 = .val w ∧ w.category = 1) (hs8 : s8 = .unset ∨ ∃ w, s8 = .val w ∧ w.category = 1) (hs9 : s9 = .unset ∨ ∃ w, s9 = .val w ∧ w.category = 1) (X0 : Sd p l e R s m args below meth c T0 n0 0 0 h0) (hP : ∀ L, Fr n0 L → P (some (.int (gN1 cnt p2 p3 p4 v0 v1 v2 v3 v4))) h0 L) : Rt p e below s k n P (T0.setTop (mkF m 6 #[.val (.ref a1), .val (.int p2), .val (.int p3), .val (.int p4), .val .null, .val (.int cnt), .val (.int (1 : Int32)), s7, s8, s9] [])) := by
  refine Rt.iload (pc' := 8) X0 hx (hb hby d4_6) rfl rfl ?_
  refine Rt.aloadN (pc' := 9) X0 hx (hb hby d4_8) rfl rfl rfl ?_
  refine Rt.arraylength (pc' := 10) X0 hx hZ F (v := (5 : Int32)) rfl (hb hby d4_9) rfl ?_
  refine Rt.icmpN (pc' := 13) X0 hx (hb hby d4_10) (tlt (by decide : (1 : Int32) < (5 : Int32))).2.1 rfl ?_
  refine Rt.aloadN (pc' := 14) X0 hx (hb hby d4_13) rfl rfl rfl ?_
  refine Rt.iload (pc' := 16) X0 hx (hb hby d4_14) rfl rfl ?_
  refine Rt.iaload (pc' := 17) X0 hx hZ F (i := 1) (by decide) (by decide) (v := (.int v1)) rfl (hb hby d4_16) rfl ?_
  refine Rt.iloadN (pc' := 18) X0 hx (hb hby d4_17) rfl rfl ?_
  by_cases hk : p4 < v1
  · refine Rt.icmpY (pc' := 27) X0 hx (hb hby d4_18) (tlt hk).2.2.1 (by decide) (by decide) ?_
    refine Rt.iload (pc' := 29) X0 hx (hb hby d4_27) rfl rfl ?_
    refine Rt.istore (pc' := 31) (v := (1 : Int32)) (l' := #[.val (.ref a1), .val (.int p2), .val (.int p3), .val (.int p4), .val .null, .val (.int cnt), .val (.int (1 : Int32)), .val (.int (1 : Int32)), s8, s9]) X0 hx (hb hby d4_29) (by rw [XS.store1 (o := s7) rfl hs7 rfl]; rfl) rfl ?_
    refine Rt.iconst (pc' := 32) (v := (0 : Int32)) X0 hx (hb hby d4_31) rfl rfl ?_
    refine Rt.istore (pc' := 34) (v := (0 : Int32)) (l' := #[.val (.ref a1), .val (.int p2), .val (.int p3), .val (.int p4), .val .null, .val (.int cnt), .val (.int (1 : Int32)), .val (.int (1 : Int32)), .val (.int (0 : Int32)), s9]) X0 hx (hb hby d4_32) (by rw [XS.store1 (o := s8) rfl hs8 rfl]; rfl) rfl ?_
    refine Rt.iload (pc' := 36) X0 hx (hb hby d4_34) rfl rfl ?_
    refine Rt.iconst (pc' := 37) (v := (1 : Int32)) X0 hx (hb hby d4_36) rfl rfl ?_
    refine Rt.iadd (pc' := 38) (r := (2 : Int32)) X0 hx (hb hby d4_37) (by decide) rfl ?_
    refine Rt.istore (pc' := 40) (v := (2 : Int32)) (l' := #[.val (.ref a1), .val (.int p2), .val (.int p3), .val (.int p4), .val .null, .val (.int cnt), .val (.int (1 : Int32)), .val (.int (1 : Int32)), .val (.int (0 : Int32)), .val (.int (2 : Int32))]) X0 hx (hb hby d4_38) (by rw [XS.store1 (o := s9) rfl hs9 rfl]; rfl) rfl ?_
    refine Rt.iload (pc' := 42) X0 hx (hb hby d4_40) rfl rfl ?_
    refine Rt.aloadN (pc' := 43) X0 hx (hb hby d4_42) rfl rfl rfl ?_
    refine Rt.arraylength (pc' := 44) X0 hx hZ F (v := (5 : Int32)) rfl (hb hby d4_43) rfl ?_
    refine Rt.icmpN (pc' := 47) X0 hx (hb hby d4_44) (tlt (by decide : (2 : Int32) < (5 : Int32))).2.1 rfl ?_
    refine Rt.iload (pc' := 49) X0 hx (hb hby d4_47) rfl rfl ?_
    refine Rt.iload (pc' := 51) X0 hx (hb hby d4_49) rfl rfl ?_
    refine Rt.isub (pc' := 52) (r := (1 : Int32)) X0 hx (hb hby d4_51) (by decide) rfl ?_
    refine Rt.iloadN (pc' := 53) X0 hx (hb hby d4_52) rfl rfl ?_
    have J53_19 : ∀ T19  , Sd p l e R s m args below meth c T19 n0 0 0 h0 → Rt p e below s k n P (T19.setTop (mkF m 86 #[.val (.ref a1), .val (.int p2), .val (.int p3), .val (.int p4), .val .null, .val (.int cnt), .val (.int (1 : Int32)), .val (.int (f4N_j86_l7_2 p2 p3 p4 v2 v3 v4)), .val (.int (f4N_j86_l8_2 p2 p3 p4 v2 v3 v4)), .val (.int (f4N_j86_l9_2 p2 p3 p4 v2 v3))] [])) := by
      intro T19   X19 
      refine Rt.aload (pc' := 88) X19 hx (hb hby d4_86) rfl rfl rfl ?_
      refine Rt.ifnullY (pc' := 109) X19 hx (hb hby d4_88) (by decide) (by decide) ?_
      refine Rt.iinc (pc' := 112) (r := (f4N_v109 cnt)) (l' := #[.val (.ref a1), .val (.int p2), .val (.int p3), .val (.int p4), .val .null, .val (.int (f4N_v109 cnt)), .val (.int (1 : Int32)), .val (.int (f4N_j86_l7_2 p2 p3 p4 v2 v3 v4)), .val (.int (f4N_j86_l8_2 p2 p3 p4 v2 v3 v4)), .val (.int (f4N_j86_l9_2 p2 p3 p4 v2 v3))]) X19 hx (hb hby d4_109) rfl rfl rfl rfl ?_
      refine Rt.iload (pc' := 114) X19 hx (hb hby d4_112) rfl rfl ?_
      refine Rt.iconst (pc' := 115) (v := (1 : Int32)) X19 hx (hb hby d4_114) rfl rfl ?_
      refine Rt.iadd (pc' := 116) (r := ((f4N_j86_l7_2 p2 p3 p4 v2 v3 v4) + (1 : Int32))) X19 hx (hb hby d4_115) rfl rfl ?_
      refine Rt.istore (pc' := 118) (v := (f4N_v116_2 p2 p3 p4 v2 v3 v4)) (l' := #[.val (.ref a1), .val (.int p2), .val (.int p3), .val (.int p4), .val .null, .val (.int (f4N_v109 cnt)), .val (.int (f4N_v116_2 p2 p3 p4 v2 v3 v4)), .val (.int (f4N_j86_l7_2 p2 p3 p4 v2 v3 v4)), .val (.int (f4N_j86_l8_2 p2 p3 p4 v2 v3 v4)), .val (.int (f4N_j86_l9_2 p2 p3 p4 v2 v3))]) X19 hx (hb hby d4_116) rfl rfl ?_
      refine Rt.goto (pc' := 6) X19 hx (hb hby d4_118) (by decide) (by decide) ?_
      rcases own_last1 p2 p3 p4 v0 v1 v2 v3 v4 with el | el | el | el
      · rw [show (f4N_v116_2 p2 p3 p4 v2 v3 v4) = (2 : Int32) from by rw [f4N_v116_2, el]; decide]
        exact sgN2 hx hZ hby hret hlk F T19 _ _ _ _ (Or.inr ⟨_, rfl, rfl⟩) (Or.inr ⟨_, rfl, rfl⟩) (Or.inr ⟨_, rfl, rfl⟩) X19 (by have q := hP; rw [gN1, if_pos hk, if_pos el] at q; exact q)
      · rw [show (f4N_v116_2 p2 p3 p4 v2 v3 v4) = (3 : Int32) from by rw [f4N_v116_2, el]; decide]
        exact sgN3 hx hZ hby hret hlk F T19 _ _ _ _ (Or.inr ⟨_, rfl, rfl⟩) (Or.inr ⟨_, rfl, rfl⟩) (Or.inr ⟨_, rfl, rfl⟩) X19 (by have q := hP; rw [gN1, if_pos hk, if_neg (by rw [el]; decide), if_pos el] at q; exact q)
      · rw [show (f4N_v116_2 p2 p3 p4 v2 v3 v4) = (4 : Int32) from by rw [f4N_v116_2, el]; decide]
        exact sgN4 hx hZ hby hret hlk F T19 _ _ _ _ (Or.inr ⟨_, rfl, rfl⟩) (Or.inr ⟨_, rfl, rfl⟩) (Or.inr ⟨_, rfl, rfl⟩) X19 (by have q := hP; rw [gN1, if_pos hk, if_neg (by rw [el]; decide), if_neg (by rw [el]; decide), if_pos el] at q; exact q)
      · rw [show (f4N_v116_2 p2 p3 p4 v2 v3 v4) = (5 : Int32) from by rw [f4N_v116_2, el]; decide]
        exact sgN5 hx hZ hby hret hlk F T19 _ _ _ _ (Or.inr ⟨_, rfl, rfl⟩) (Or.inr ⟨_, rfl, rfl⟩) (Or.inr ⟨_, rfl, rfl⟩) X19 (by have q := hP; rw [gN1, if_pos hk, if_neg (by rw [el]; decide), if_neg (by rw [el]; decide), if_neg (by rw [el]; decide)] at q; exact q)
    by_cases hc53_20 : (1 : Int32) < p2
    · refine Rt.icmpN (pc' := 56) X0 hx (hb hby d4_53) (tlt hc53_20).2.1 rfl ?_
      refine Rt.iload (pc' := 58) X0 hx (hb hby d4_56) rfl rfl ?_
      refine Rt.iloadN (pc' := 59) X0 hx (hb hby d4_58) rfl rfl ?_
      by_cases hc59_21 : p3 < (0 : Int32)
      · refine Rt.icmpY (pc' := 86) X0 hx (hb hby d4_59) (tlt hc59_21).2.2.1 (by decide) (by decide) ?_
        have q := J53_19 T0   X0
        rw [show (f4N_j86_l7_2 p2 p3 p4 v2 v3 v4) = (1 : Int32) from by rw [f4N_j86_l7_2, if_pos hc53_20, if_pos hc59_21]] at q
        rw [show (f4N_j86_l8_2 p2 p3 p4 v2 v3 v4) = (0 : Int32) from by rw [f4N_j86_l8_2, if_pos hc53_20, if_pos hc59_21]] at q
        rw [show (f4N_j86_l9_2 p2 p3 p4 v2 v3) = (2 : Int32) from by rw [f4N_j86_l9_2, if_pos hc53_20, if_pos hc59_21]] at q
        exact q
      · refine Rt.icmpN (pc' := 62) X0 hx (hb hby d4_59) (flt hc59_21).2.2.1 rfl ?_
        refine Rt.aloadN (pc' := 63) X0 hx (hb hby d4_62) rfl rfl rfl ?_
        refine Rt.iload (pc' := 65) X0 hx (hb hby d4_63) rfl rfl ?_
        refine Rt.iaload (pc' := 66) X0 hx hZ F (i := 2) (by decide) (by decide) (v := (.int v2)) rfl (hb hby d4_65) rfl ?_
        refine Rt.iloadN (pc' := 67) X0 hx (hb hby d4_66) rfl rfl ?_
        have J67_22 : ∀ T22  , Sd p l e R s m args below meth c T22 n0 0 0 h0 → Rt p e below s k n P (T22.setTop (mkF m 80 #[.val (.ref a1), .val (.int p2), .val (.int p3), .val (.int p4), .val .null, .val (.int cnt), .val (.int (1 : Int32)), .val (.int (f4N_j80_l7_3 p4 v2)), .val (.int (f4N_j80_l8_3 p4 v2)), .val (.int (2 : Int32))] [])) := by
          intro T22   X22 
          refine Rt.iinc (pc' := 83) (r := (3 : Int32)) (l' := #[.val (.ref a1), .val (.int p2), .val (.int p3), .val (.int p4), .val .null, .val (.int cnt), .val (.int (1 : Int32)), .val (.int (f4N_j80_l7_3 p4 v2)), .val (.int (f4N_j80_l8_3 p4 v2)), .val (.int (3 : Int32))]) X22 hx (hb hby d4_80) rfl (by decide) rfl rfl ?_
          refine Rt.goto (pc' := 40) X22 hx (hb hby d4_83) (by decide) (by decide) ?_
          refine Rt.iload (pc' := 42) X22 hx (hb hby d4_40) rfl rfl ?_
          refine Rt.aloadN (pc' := 43) X22 hx (hb hby d4_42) rfl rfl rfl ?_
          refine Rt.arraylength (pc' := 44) X22 hx hZ F (v := (5 : Int32)) rfl (hb hby d4_43) rfl ?_
          refine Rt.icmpN (pc' := 47) X22 hx (hb hby d4_44) (tlt (by decide : (3 : Int32) < (5 : Int32))).2.1 rfl ?_
          refine Rt.iload (pc' := 49) X22 hx (hb hby d4_47) rfl rfl ?_
          refine Rt.iload (pc' := 51) X22 hx (hb hby d4_49) rfl rfl ?_
          refine Rt.isub (pc' := 52) (r := (2 : Int32)) X22 hx (hb hby d4_51) (by decide) rfl ?_
          refine Rt.iloadN (pc' := 53) X22 hx (hb hby d4_52) rfl rfl ?_
          by_cases hc53_23 : (2 : Int32) < p2
          · refine Rt.icmpN (pc' := 56) X22 hx (hb hby d4_53) (tlt hc53_23).2.1 rfl ?_
            refine Rt.iload (pc' := 58) X22 hx (hb hby d4_56) rfl rfl ?_
            refine Rt.iloadN (pc' := 59) X22 hx (hb hby d4_58) rfl rfl ?_
            by_cases hc59_24 : p3 < (f4N_j80_l8_3 p4 v2)
            · refine Rt.icmpY (pc' := 86) X22 hx (hb hby d4_59) (tlt hc59_24).2.2.1 (by decide) (by decide) ?_
              have q := J53_19 T22   X22
              rw [show (f4N_j86_l7_2 p2 p3 p4 v2 v3 v4) = (f4N_j80_l7_3 p4 v2) from by rw [f4N_j86_l7_2, if_pos hc53_20, if_neg hc59_21, if_pos hc53_23, if_pos hc59_24]] at q
              rw [show (f4N_j86_l8_2 p2 p3 p4 v2 v3 v4) = (f4N_j80_l8_3 p4 v2) from by rw [f4N_j86_l8_2, if_pos hc53_20, if_neg hc59_21, if_pos hc53_23, if_pos hc59_24]] at q
              rw [show (f4N_j86_l9_2 p2 p3 p4 v2 v3) = (3 : Int32) from by rw [f4N_j86_l9_2, if_pos hc53_20, if_neg hc59_21, if_pos hc53_23, if_pos hc59_24]] at q
              exact q
            · refine Rt.icmpN (pc' := 62) X22 hx (hb hby d4_59) (flt hc59_24).2.2.1 rfl ?_
              refine Rt.aloadN (pc' := 63) X22 hx (hb hby d4_62) rfl rfl rfl ?_
              refine Rt.iload (pc' := 65) X22 hx (hb hby d4_63) rfl rfl ?_
              refine Rt.iaload (pc' := 66) X22 hx hZ F (i := 3) (by decide) (by decide) (v := (.int v3)) rfl (hb hby d4_65) rfl ?_
              refine Rt.iloadN (pc' := 67) X22 hx (hb hby d4_66) rfl rfl ?_
              have J67_25 : ∀ T25  , Sd p l e R s m args below meth c T25 n0 0 0 h0 → Rt p e below s k n P (T25.setTop (mkF m 80 #[.val (.ref a1), .val (.int p2), .val (.int p3), .val (.int p4), .val .null, .val (.int cnt), .val (.int (1 : Int32)), .val (.int (f4N_j80_l7_4 p4 v2 v3)), .val (.int (f4N_j80_l8_4 p4 v2 v3)), .val (.int (3 : Int32))] [])) := by
                intro T25   X25 
                refine Rt.iinc (pc' := 83) (r := (4 : Int32)) (l' := #[.val (.ref a1), .val (.int p2), .val (.int p3), .val (.int p4), .val .null, .val (.int cnt), .val (.int (1 : Int32)), .val (.int (f4N_j80_l7_4 p4 v2 v3)), .val (.int (f4N_j80_l8_4 p4 v2 v3)), .val (.int (4 : Int32))]) X25 hx (hb hby d4_80) rfl (by decide) rfl rfl ?_
                refine Rt.goto (pc' := 40) X25 hx (hb hby d4_83) (by decide) (by decide) ?_
                refine Rt.iload (pc' := 42) X25 hx (hb hby d4_40) rfl rfl ?_
                refine Rt.aloadN (pc' := 43) X25 hx (hb hby d4_42) rfl rfl rfl ?_
                refine Rt.arraylength (pc' := 44) X25 hx hZ F (v := (5 : Int32)) rfl (hb hby d4_43) rfl ?_
                refine Rt.icmpN (pc' := 47) X25 hx (hb hby d4_44) (tlt (by decide : (4 : Int32) < (5 : Int32))).2.1 rfl ?_
                refine Rt.iload (pc' := 49) X25 hx (hb hby d4_47) rfl rfl ?_
                refine Rt.iload (pc' := 51) X25 hx (hb hby d4_49) rfl rfl ?_
                refine Rt.isub (pc' := 52) (r := (3 : Int32)) X25 hx (hb hby d4_51) (by decide) rfl ?_
                refine Rt.iloadN (pc' := 53) X25 hx (hb hby d4_52) rfl rfl ?_
                by_cases hc53_26 : (3 : Int32) < p2
                · refine Rt.icmpN (pc' := 56) X25 hx (hb hby d4_53) (tlt hc53_26).2.1 rfl ?_
                  refine Rt.iload (pc' := 58) X25 hx (hb hby d4_56) rfl rfl ?_
                  refine Rt.iloadN (pc' := 59) X25 hx (hb hby d4_58) rfl rfl ?_
                  by_cases hc59_27 : p3 < (f4N_j80_l8_4 p4 v2 v3)
                  · refine Rt.icmpY (pc' := 86) X25 hx (hb hby d4_59) (tlt hc59_27).2.2.1 (by decide) (by decide) ?_
                    have q := J53_19 T25   X25
                    rw [show (f4N_j86_l7_2 p2 p3 p4 v2 v3 v4) = (f4N_j80_l7_4 p4 v2 v3) from by rw [f4N_j86_l7_2, if_pos hc53_20, if_neg hc59_21, if_pos hc53_23, if_neg hc59_24, if_pos hc53_26, if_pos hc59_27]] at q
                    rw [show (f4N_j86_l8_2 p2 p3 p4 v2 v3 v4) = (f4N_j80_l8_4 p4 v2 v3) from by rw [f4N_j86_l8_2, if_pos hc53_20, if_neg hc59_21, if_pos hc53_23, if_neg hc59_24, if_pos hc53_26, if_pos hc59_27]] at q
                    rw [show (f4N_j86_l9_2 p2 p3 p4 v2 v3) = (4 : Int32) from by rw [f4N_j86_l9_2, if_pos hc53_20, if_neg hc59_21, if_pos hc53_23, if_neg hc59_24, if_pos hc53_26, if_pos hc59_27]] at q
                    exact q
                  · refine Rt.icmpN (pc' := 62) X25 hx (hb hby d4_59) (flt hc59_27).2.2.1 rfl ?_
                    refine Rt.aloadN (pc' := 63) X25 hx (hb hby d4_62) rfl rfl rfl ?_
                    refine Rt.iload (pc' := 65) X25 hx (hb hby d4_63) rfl rfl ?_
                    refine Rt.iaload (pc' := 66) X25 hx hZ F (i := 4) (by decide) (by decide) (v := (.int v4)) rfl (hb hby d4_65) rfl ?_
                    refine Rt.iloadN (pc' := 67) X25 hx (hb hby d4_66) rfl rfl ?_
                    have J67_28 : ∀ T28  , Sd p l e R s m args below meth c T28 n0 0 0 h0 → Rt p e below s k n P (T28.setTop (mkF m 80 #[.val (.ref a1), .val (.int p2), .val (.int p3), .val (.int p4), .val .null, .val (.int cnt), .val (.int (1 : Int32)), .val (.int (f4N_j80_l7_5 p4 v2 v3 v4)), .val (.int (f4N_j80_l8_5 p4 v2 v3 v4)), .val (.int (4 : Int32))] [])) := by
                      intro T28   X28 
                      refine Rt.iinc (pc' := 83) (r := (5 : Int32)) (l' := #[.val (.ref a1), .val (.int p2), .val (.int p3), .val (.int p4), .val .null, .val (.int cnt), .val (.int (1 : Int32)), .val (.int (f4N_j80_l7_5 p4 v2 v3 v4)), .val (.int (f4N_j80_l8_5 p4 v2 v3 v4)), .val (.int (5 : Int32))]) X28 hx (hb hby d4_80) rfl (by decide) rfl rfl ?_
                      refine Rt.goto (pc' := 40) X28 hx (hb hby d4_83) (by decide) (by decide) ?_
                      refine Rt.iload (pc' := 42) X28 hx (hb hby d4_40) rfl rfl ?_
                      refine Rt.aloadN (pc' := 43) X28 hx (hb hby d4_42) rfl rfl rfl ?_
                      refine Rt.arraylength (pc' := 44) X28 hx hZ F (v := (5 : Int32)) rfl (hb hby d4_43) rfl ?_
                      refine Rt.icmpY (pc' := 86) X28 hx (hb hby d4_44) (flt (by decide : ¬ ((5 : Int32) < (5 : Int32)))).2.1 (by decide) (by decide) ?_
                      have q := J53_19 T28   X28
                      rw [show (f4N_j86_l7_2 p2 p3 p4 v2 v3 v4) = (f4N_j80_l7_5 p4 v2 v3 v4) from by rw [f4N_j86_l7_2, if_pos hc53_20, if_neg hc59_21, if_pos hc53_23, if_neg hc59_24, if_pos hc53_26, if_neg hc59_27]] at q
                      rw [show (f4N_j86_l8_2 p2 p3 p4 v2 v3 v4) = (f4N_j80_l8_5 p4 v2 v3 v4) from by rw [f4N_j86_l8_2, if_pos hc53_20, if_neg hc59_21, if_pos hc53_23, if_neg hc59_24, if_pos hc53_26, if_neg hc59_27]] at q
                      rw [show (f4N_j86_l9_2 p2 p3 p4 v2 v3) = (5 : Int32) from by rw [f4N_j86_l9_2, if_pos hc53_20, if_neg hc59_21, if_pos hc53_23, if_neg hc59_24, if_pos hc53_26, if_neg hc59_27]] at q
                      exact q
                    by_cases hc67_29 : p4 < v4
                    · refine Rt.icmpN (pc' := 70) X25 hx (hb hby d4_67) (tlt hc67_29).2.2.2 rfl ?_
                      refine Rt.iload (pc' := 72) X25 hx (hb hby d4_70) rfl rfl ?_
                      refine Rt.istore (pc' := 74) (v := (4 : Int32)) (l' := #[.val (.ref a1), .val (.int p2), .val (.int p3), .val (.int p4), .val .null, .val (.int cnt), .val (.int (1 : Int32)), .val (.int (4 : Int32)), .val (.int (f4N_j80_l8_4 p4 v2 v3)), .val (.int (4 : Int32))]) X25 hx (hb hby d4_72) rfl rfl ?_
                      refine Rt.goto (pc' := 80) X25 hx (hb hby d4_74) (by decide) (by decide) ?_
                      have q := J67_28 T25   X25
                      rw [show (f4N_j80_l7_5 p4 v2 v3 v4) = (4 : Int32) from by rw [f4N_j80_l7_5, if_pos hc67_29]] at q
                      rw [show (f4N_j80_l8_5 p4 v2 v3 v4) = (f4N_j80_l8_4 p4 v2 v3) from by rw [f4N_j80_l8_5, if_pos hc67_29]] at q
                      exact q
                    · refine Rt.icmpY (pc' := 77) X25 hx (hb hby d4_67) (flt hc67_29).2.2.2 (by decide) (by decide) ?_
                      refine Rt.iinc (pc' := 80) (r := (f4N_v77_2 p4 v2 v3)) (l' := #[.val (.ref a1), .val (.int p2), .val (.int p3), .val (.int p4), .val .null, .val (.int cnt), .val (.int (1 : Int32)), .val (.int (f4N_j80_l7_4 p4 v2 v3)), .val (.int (f4N_v77_2 p4 v2 v3)), .val (.int (4 : Int32))]) X25 hx (hb hby d4_77) rfl rfl rfl rfl ?_
                      have q := J67_28 T25   X25
                      rw [show (f4N_j80_l7_5 p4 v2 v3 v4) = (f4N_j80_l7_4 p4 v2 v3) from by rw [f4N_j80_l7_5, if_neg hc67_29]] at q
                      rw [show (f4N_j80_l8_5 p4 v2 v3 v4) = (f4N_v77_2 p4 v2 v3) from by rw [f4N_j80_l8_5, if_neg hc67_29]] at q
                      exact q
                · refine Rt.icmpY (pc' := 86) X25 hx (hb hby d4_53) (flt hc53_26).2.1 (by decide) (by decide) ?_
                  have q := J53_19 T25   X25
                  rw [show (f4N_j86_l7_2 p2 p3 p4 v2 v3 v4) = (f4N_j80_l7_4 p4 v2 v3) from by rw [f4N_j86_l7_2, if_pos hc53_20, if_neg hc59_21, if_pos hc53_23, if_neg hc59_24, if_neg hc53_26]] at q
                  rw [show (f4N_j86_l8_2 p2 p3 p4 v2 v3 v4) = (f4N_j80_l8_4 p4 v2 v3) from by rw [f4N_j86_l8_2, if_pos hc53_20, if_neg hc59_21, if_pos hc53_23, if_neg hc59_24, if_neg hc53_26]] at q
                  rw [show (f4N_j86_l9_2 p2 p3 p4 v2 v3) = (4 : Int32) from by rw [f4N_j86_l9_2, if_pos hc53_20, if_neg hc59_21, if_pos hc53_23, if_neg hc59_24, if_neg hc53_26]] at q
                  exact q
              by_cases hc67_30 : p4 < v3
              · refine Rt.icmpN (pc' := 70) X22 hx (hb hby d4_67) (tlt hc67_30).2.2.2 rfl ?_
                refine Rt.iload (pc' := 72) X22 hx (hb hby d4_70) rfl rfl ?_
                refine Rt.istore (pc' := 74) (v := (3 : Int32)) (l' := #[.val (.ref a1), .val (.int p2), .val (.int p3), .val (.int p4), .val .null, .val (.int cnt), .val (.int (1 : Int32)), .val (.int (3 : Int32)), .val (.int (f4N_j80_l8_3 p4 v2)), .val (.int (3 : Int32))]) X22 hx (hb hby d4_72) rfl rfl ?_
                refine Rt.goto (pc' := 80) X22 hx (hb hby d4_74) (by decide) (by decide) ?_
                have q := J67_25 T22   X22
                rw [show (f4N_j80_l7_4 p4 v2 v3) = (3 : Int32) from by rw [f4N_j80_l7_4, if_pos hc67_30]] at q
                rw [show (f4N_j80_l8_4 p4 v2 v3) = (f4N_j80_l8_3 p4 v2) from by rw [f4N_j80_l8_4, if_pos hc67_30]] at q
                exact q
              · refine Rt.icmpY (pc' := 77) X22 hx (hb hby d4_67) (flt hc67_30).2.2.2 (by decide) (by decide) ?_
                refine Rt.iinc (pc' := 80) (r := (f4N_v77_1 p4 v2)) (l' := #[.val (.ref a1), .val (.int p2), .val (.int p3), .val (.int p4), .val .null, .val (.int cnt), .val (.int (1 : Int32)), .val (.int (f4N_j80_l7_3 p4 v2)), .val (.int (f4N_v77_1 p4 v2)), .val (.int (3 : Int32))]) X22 hx (hb hby d4_77) rfl rfl rfl rfl ?_
                have q := J67_25 T22   X22
                rw [show (f4N_j80_l7_4 p4 v2 v3) = (f4N_j80_l7_3 p4 v2) from by rw [f4N_j80_l7_4, if_neg hc67_30]] at q
                rw [show (f4N_j80_l8_4 p4 v2 v3) = (f4N_v77_1 p4 v2) from by rw [f4N_j80_l8_4, if_neg hc67_30]] at q
                exact q
          · refine Rt.icmpY (pc' := 86) X22 hx (hb hby d4_53) (flt hc53_23).2.1 (by decide) (by decide) ?_
            have q := J53_19 T22   X22
            rw [show (f4N_j86_l7_2 p2 p3 p4 v2 v3 v4) = (f4N_j80_l7_3 p4 v2) from by rw [f4N_j86_l7_2, if_pos hc53_20, if_neg hc59_21, if_neg hc53_23]] at q
            rw [show (f4N_j86_l8_2 p2 p3 p4 v2 v3 v4) = (f4N_j80_l8_3 p4 v2) from by rw [f4N_j86_l8_2, if_pos hc53_20, if_neg hc59_21, if_neg hc53_23]] at q
            rw [show (f4N_j86_l9_2 p2 p3 p4 v2 v3) = (3 : Int32) from by rw [f4N_j86_l9_2, if_pos hc53_20, if_neg hc59_21, if_neg hc53_23]] at q
            exact q
        by_cases hc67_31 : p4 < v2
        · refine Rt.icmpN (pc' := 70) X0 hx (hb hby d4_67) (tlt hc67_31).2.2.2 rfl ?_
          refine Rt.iload (pc' := 72) X0 hx (hb hby d4_70) rfl rfl ?_
          refine Rt.istore (pc' := 74) (v := (2 : Int32)) (l' := #[.val (.ref a1), .val (.int p2), .val (.int p3), .val (.int p4), .val .null, .val (.int cnt), .val (.int (1 : Int32)), .val (.int (2 : Int32)), .val (.int (0 : Int32)), .val (.int (2 : Int32))]) X0 hx (hb hby d4_72) rfl rfl ?_
          refine Rt.goto (pc' := 80) X0 hx (hb hby d4_74) (by decide) (by decide) ?_
          have q := J67_22 T0   X0
          rw [show (f4N_j80_l7_3 p4 v2) = (2 : Int32) from by rw [f4N_j80_l7_3, if_pos hc67_31]] at q
          rw [show (f4N_j80_l8_3 p4 v2) = (0 : Int32) from by rw [f4N_j80_l8_3, if_pos hc67_31]] at q
          exact q
        · refine Rt.icmpY (pc' := 77) X0 hx (hb hby d4_67) (flt hc67_31).2.2.2 (by decide) (by decide) ?_
          refine Rt.iinc (pc' := 80) (r := (1 : Int32)) (l' := #[.val (.ref a1), .val (.int p2), .val (.int p3), .val (.int p4), .val .null, .val (.int cnt), .val (.int (1 : Int32)), .val (.int (1 : Int32)), .val (.int (1 : Int32)), .val (.int (2 : Int32))]) X0 hx (hb hby d4_77) rfl (by decide) rfl rfl ?_
          have q := J67_22 T0   X0
          rw [show (f4N_j80_l7_3 p4 v2) = (1 : Int32) from by rw [f4N_j80_l7_3, if_neg hc67_31]] at q
          rw [show (f4N_j80_l8_3 p4 v2) = (1 : Int32) from by rw [f4N_j80_l8_3, if_neg hc67_31]] at q
          exact q
    · refine Rt.icmpY (pc' := 86) X0 hx (hb hby d4_53) (flt hc53_20).2.1 (by decide) (by decide) ?_
      have q := J53_19 T0   X0
      rw [show (f4N_j86_l7_2 p2 p3 p4 v2 v3 v4) = (1 : Int32) from by rw [f4N_j86_l7_2, if_neg hc53_20]] at q
      rw [show (f4N_j86_l8_2 p2 p3 p4 v2 v3 v4) = (0 : Int32) from by rw [f4N_j86_l8_2, if_neg hc53_20]] at q
      rw [show (f4N_j86_l9_2 p2 p3 p4 v2 v3) = (2 : Int32) from by rw [f4N_j86_l9_2, if_neg hc53_20]] at q
      exact q
  · refine Rt.icmpN (pc' := 21) X0 hx (hb hby d4_18) (flt hk).2.2.1 rfl ?_
    refine Rt.iinc (pc' := 24) (r := (2 : Int32)) (l' := #[.val (.ref a1), .val (.int p2), .val (.int p3), .val (.int p4), .val .null, .val (.int cnt), .val (.int (2 : Int32)), s7, s8, s9]) X0 hx (hb hby d4_21) rfl (by decide) rfl rfl ?_
    refine Rt.goto (pc' := 6) X0 hx (hb hby d4_24) (by decide) (by decide) ?_
    exact sgN2 hx hZ hby hret hlk F T0 cnt s7 s8 s9 hs7 hs8 hs9 X0 (by have q := hP; rw [gN1, if_neg hk] at q; exact q)
def f4N_j80_l7_6 (p4 : Int32) (v1 : Int32) : Int32 := (if p4 < v1 then (1 : Int32) else (0 : Int32))
def f4N_j80_l8_6 (p4 : Int32) (v1 : Int32) : Int32 := (if p4 < v1 then (0 : Int32) else (1 : Int32))
def f4N_v77_3 (p4 : Int32) (v1 : Int32) : Int32 := ((f4N_j80_l8_6 p4 v1) + (1 : Int32))
def f4N_j80_l7_7 (p4 : Int32) (v1 : Int32) (v2 : Int32) : Int32 := (if p4 < v2 then (2 : Int32) else (f4N_j80_l7_6 p4 v1))
def f4N_j80_l8_7 (p4 : Int32) (v1 : Int32) (v2 : Int32) : Int32 := (if p4 < v2 then (f4N_j80_l8_6 p4 v1) else (f4N_v77_3 p4 v1))
def f4N_v77_4 (p4 : Int32) (v1 : Int32) (v2 : Int32) : Int32 := ((f4N_j80_l8_7 p4 v1 v2) + (1 : Int32))
def f4N_j80_l7_8 (p4 : Int32) (v1 : Int32) (v2 : Int32) (v3 : Int32) : Int32 := (if p4 < v3 then (3 : Int32) else (f4N_j80_l7_7 p4 v1 v2))
def f4N_j80_l8_8 (p4 : Int32) (v1 : Int32) (v2 : Int32) (v3 : Int32) : Int32 := (if p4 < v3 then (f4N_j80_l8_7 p4 v1 v2) else (f4N_v77_4 p4 v1 v2))
def f4N_v77_5 (p4 : Int32) (v1 : Int32) (v2 : Int32) (v3 : Int32) : Int32 := ((f4N_j80_l8_8 p4 v1 v2 v3) + (1 : Int32))
def f4N_j80_l7_9 (p4 : Int32) (v1 : Int32) (v2 : Int32) (v3 : Int32) (v4 : Int32) : Int32 := (if p4 < v4 then (4 : Int32) else (f4N_j80_l7_8 p4 v1 v2 v3))
def f4N_j80_l8_9 (p4 : Int32) (v1 : Int32) (v2 : Int32) (v3 : Int32) (v4 : Int32) : Int32 := (if p4 < v4 then (f4N_j80_l8_8 p4 v1 v2 v3) else (f4N_v77_5 p4 v1 v2 v3))
def f4N_j86_l7_3 (p2 : Int32) (p3 : Int32) (p4 : Int32) (v1 : Int32) (v2 : Int32) (v3 : Int32) (v4 : Int32) : Int32 := (if (1 : Int32) < p2 then (if p3 < (0 : Int32) then (0 : Int32) else (if (2 : Int32) < p2 then (if p3 < (f4N_j80_l8_6 p4 v1) then (f4N_j80_l7_6 p4 v1) else (if (3 : Int32) < p2 then (if p3 < (f4N_j80_l8_7 p4 v1 v2) then (f4N_j80_l7_7 p4 v1 v2) else (if (4 : Int32) < p2 then (if p3 < (f4N_j80_l8_8 p4 v1 v2 v3) then (f4N_j80_l7_8 p4 v1 v2 v3) else (f4N_j80_l7_9 p4 v1 v2 v3 v4)) else (f4N_j80_l7_8 p4 v1 v2 v3))) else (f4N_j80_l7_7 p4 v1 v2))) else (f4N_j80_l7_6 p4 v1))) else (0 : Int32))
def f4N_j86_l8_3 (p2 : Int32) (p3 : Int32) (p4 : Int32) (v1 : Int32) (v2 : Int32) (v3 : Int32) (v4 : Int32) : Int32 := (if (1 : Int32) < p2 then (if p3 < (0 : Int32) then (0 : Int32) else (if (2 : Int32) < p2 then (if p3 < (f4N_j80_l8_6 p4 v1) then (f4N_j80_l8_6 p4 v1) else (if (3 : Int32) < p2 then (if p3 < (f4N_j80_l8_7 p4 v1 v2) then (f4N_j80_l8_7 p4 v1 v2) else (if (4 : Int32) < p2 then (if p3 < (f4N_j80_l8_8 p4 v1 v2 v3) then (f4N_j80_l8_8 p4 v1 v2 v3) else (f4N_j80_l8_9 p4 v1 v2 v3 v4)) else (f4N_j80_l8_8 p4 v1 v2 v3))) else (f4N_j80_l8_7 p4 v1 v2))) else (f4N_j80_l8_6 p4 v1))) else (0 : Int32))
def f4N_j86_l9_3 (p2 : Int32) (p3 : Int32) (p4 : Int32) (v1 : Int32) (v2 : Int32) (v3 : Int32) : Int32 := (if (1 : Int32) < p2 then (if p3 < (0 : Int32) then (1 : Int32) else (if (2 : Int32) < p2 then (if p3 < (f4N_j80_l8_6 p4 v1) then (2 : Int32) else (if (3 : Int32) < p2 then (if p3 < (f4N_j80_l8_7 p4 v1 v2) then (3 : Int32) else (if (4 : Int32) < p2 then (if p3 < (f4N_j80_l8_8 p4 v1 v2 v3) then (4 : Int32) else (5 : Int32)) else (4 : Int32))) else (3 : Int32))) else (2 : Int32))) else (1 : Int32))
def f4N_v116_3 (p2 : Int32) (p3 : Int32) (p4 : Int32) (v1 : Int32) (v2 : Int32) (v3 : Int32) (v4 : Int32) : Int32 := ((f4N_j86_l7_3 p2 p3 p4 v1 v2 v3 v4) + (1 : Int32))
theorem own_last0 (p2 p3 p4 v0 v1 v2 v3 v4 : Int32) : (f4N_j86_l7_3 p2 p3 p4 v1 v2 v3 v4) = 0 ∨ (f4N_j86_l7_3 p2 p3 p4 v1 v2 v3 v4) = 1 ∨ (f4N_j86_l7_3 p2 p3 p4 v1 v2 v3 v4) = 2 ∨ (f4N_j86_l7_3 p2 p3 p4 v1 v2 v3 v4) = 3 ∨ (f4N_j86_l7_3 p2 p3 p4 v1 v2 v3 v4) = 4 := by
  show (fun x : Int32 => x = 0 ∨ x = 1 ∨ x = 2 ∨ x = 3 ∨ x = 4) (f4N_j86_l7_3 p2 p3 p4 v1 v2 v3 v4)
  unfold f4N_j86_l7_3 f4N_j80_l7_9 f4N_j80_l7_8 f4N_j80_l7_7 f4N_j80_l7_6
  repeat' first | refine own_ite (P := fun x : Int32 => x = 0 ∨ x = 1 ∨ x = 2 ∨ x = 3 ∨ x = 4) ?_ ?_ | simp
def gN0 (cnt p2 p3 p4 v0 v1 v2 v3 v4 : Int32) : Int32 := if p4 < v0 then (if (f4N_j86_l7_3 p2 p3 p4 v1 v2 v3 v4) = 0 then gN1 (cnt + 1) p2 p3 p4 v0 v1 v2 v3 v4 else (if (f4N_j86_l7_3 p2 p3 p4 v1 v2 v3 v4) = 1 then gN2 (cnt + 1) p2 p3 p4 v0 v1 v2 v3 v4 else (if (f4N_j86_l7_3 p2 p3 p4 v1 v2 v3 v4) = 2 then gN3 (cnt + 1) p2 p3 p4 v0 v1 v2 v3 v4 else (if (f4N_j86_l7_3 p2 p3 p4 v1 v2 v3 v4) = 3 then gN4 (cnt + 1) p2 p3 p4 v0 v1 v2 v3 v4 else (gN5 (cnt + 1) p2 p3 p4 v0 v1 v2 v3 v4))))) else gN1 cnt p2 p3 p4 v0 v1 v2 v3 v4
set_option maxRecDepth 65536 in
theorem sgN0 {p : Program} {l : Launch} {e : Env} {R : Room} {s : State} {m : MethodId} {args : Array Value} {below : List Frame} {meth : Method} {c : Code} {n0 : Nat} {h0 : Heap} {k n : Nat} {P : Option Value → Heap → List Loc → Prop} {Z : State} (hx : p.tables.exec = Jvm.exec) (hZ : Z.Warmed39 s.vm) (hby : c.code = prog_2_method_4_code) (hret : meth.sig.returnType = some .int) (hlk : meth.locks = false) {a1 : Addr} {p2 p3 p4 v0 v1 v2 v3 v4 : Int32} (F : IA Z h0 a1 .int [(.int v0), (.int v1), (.int v2), (.int v3), (.int v4)]) (T0 : State) (cnt : Int32) (s7 s8 s9 : Slot) (hs7 : s7 = .unset ∨ ∃ w, s7 = .val w ∧ w.category = 1) (hs8 : s8 = .unset ∨ ∃ w, s8 = .val w ∧ w.category = 1) (hs9 : s9 = .unset ∨ ∃ w, s9 = .val w ∧ w.category = 1) (X0 : Sd p l e R s m args below meth c T0 n0 0 0 h0) (hP : ∀ L, Fr n0 L → P (some (.int (gN0 cnt p2 p3 p4 v0 v1 v2 v3 v4))) h0 L) : Rt p e below s k n P (T0.setTop (mkF m 6 #[.val (.ref a1), .val (.int p2), .val (.int p3), .val (.int p4), .val .null, .val (.int cnt), .val (.int (0 : Int32)), s7, s8, s9] [])) := by
  refine Rt.iload (pc' := 8) X0 hx (hb hby d4_6) rfl rfl ?_
  refine Rt.aloadN (pc' := 9) X0 hx (hb hby d4_8) rfl rfl rfl ?_
  refine Rt.arraylength (pc' := 10) X0 hx hZ F (v := (5 : Int32)) rfl (hb hby d4_9) rfl ?_
  refine Rt.icmpN (pc' := 13) X0 hx (hb hby d4_10) (tlt (by decide : (0 : Int32) < (5 : Int32))).2.1 rfl ?_
  refine Rt.aloadN (pc' := 14) X0 hx (hb hby d4_13) rfl rfl rfl ?_
  refine Rt.iload (pc' := 16) X0 hx (hb hby d4_14) rfl rfl ?_
  refine Rt.iaload (pc' := 17) X0 hx hZ F (i := 0) (by decide) (by decide) (v := (.int v0)) rfl (hb hby d4_16) rfl ?_
  refine Rt.iloadN (pc' := 18) X0 hx (hb hby d4_17) rfl rfl ?_
  by_cases hk : p4 < v0
  · refine Rt.icmpY (pc' := 27) X0 hx (hb hby d4_18) (tlt hk).2.2.1 (by decide) (by decide) ?_
    refine Rt.iload (pc' := 29) X0 hx (hb hby d4_27) rfl rfl ?_
    refine Rt.istore (pc' := 31) (v := (0 : Int32)) (l' := #[.val (.ref a1), .val (.int p2), .val (.int p3), .val (.int p4), .val .null, .val (.int cnt), .val (.int (0 : Int32)), .val (.int (0 : Int32)), s8, s9]) X0 hx (hb hby d4_29) (by rw [XS.store1 (o := s7) rfl hs7 rfl]; rfl) rfl ?_
    refine Rt.iconst (pc' := 32) (v := (0 : Int32)) X0 hx (hb hby d4_31) rfl rfl ?_
    refine Rt.istore (pc' := 34) (v := (0 : Int32)) (l' := #[.val (.ref a1), .val (.int p2), .val (.int p3), .val (.int p4), .val .null, .val (.int cnt), .val (.int (0 : Int32)), .val (.int (0 : Int32)), .val (.int (0 : Int32)), s9]) X0 hx (hb hby d4_32) (by rw [XS.store1 (o := s8) rfl hs8 rfl]; rfl) rfl ?_
    refine Rt.iload (pc' := 36) X0 hx (hb hby d4_34) rfl rfl ?_
    refine Rt.iconst (pc' := 37) (v := (1 : Int32)) X0 hx (hb hby d4_36) rfl rfl ?_
    refine Rt.iadd (pc' := 38) (r := (1 : Int32)) X0 hx (hb hby d4_37) (by decide) rfl ?_
    refine Rt.istore (pc' := 40) (v := (1 : Int32)) (l' := #[.val (.ref a1), .val (.int p2), .val (.int p3), .val (.int p4), .val .null, .val (.int cnt), .val (.int (0 : Int32)), .val (.int (0 : Int32)), .val (.int (0 : Int32)), .val (.int (1 : Int32))]) X0 hx (hb hby d4_38) (by rw [XS.store1 (o := s9) rfl hs9 rfl]; rfl) rfl ?_
    refine Rt.iload (pc' := 42) X0 hx (hb hby d4_40) rfl rfl ?_
    refine Rt.aloadN (pc' := 43) X0 hx (hb hby d4_42) rfl rfl rfl ?_
    refine Rt.arraylength (pc' := 44) X0 hx hZ F (v := (5 : Int32)) rfl (hb hby d4_43) rfl ?_
    refine Rt.icmpN (pc' := 47) X0 hx (hb hby d4_44) (tlt (by decide : (1 : Int32) < (5 : Int32))).2.1 rfl ?_
    refine Rt.iload (pc' := 49) X0 hx (hb hby d4_47) rfl rfl ?_
    refine Rt.iload (pc' := 51) X0 hx (hb hby d4_49) rfl rfl ?_
    refine Rt.isub (pc' := 52) (r := (1 : Int32)) X0 hx (hb hby d4_51) (by decide) rfl ?_
    refine Rt.iloadN (pc' := 53) X0 hx (hb hby d4_52) rfl rfl ?_
    have J53_33 : ∀ T33  , Sd p l e R s m args below meth c T33 n0 0 0 h0 → Rt p e below s k n P (T33.setTop (mkF m 86 #[.val (.ref a1), .val (.int p2), .val (.int p3), .val (.int p4), .val .null, .val (.int cnt), .val (.int (0 : Int32)), .val (.int (f4N_j86_l7_3 p2 p3 p4 v1 v2 v3 v4)), .val (.int (f4N_j86_l8_3 p2 p3 p4 v1 v2 v3 v4)), .val (.int (f4N_j86_l9_3 p2 p3 p4 v1 v2 v3))] [])) := by
      intro T33   X33 
      refine Rt.aload (pc' := 88) X33 hx (hb hby d4_86) rfl rfl rfl ?_
      refine Rt.ifnullY (pc' := 109) X33 hx (hb hby d4_88) (by decide) (by decide) ?_
      refine Rt.iinc (pc' := 112) (r := (f4N_v109 cnt)) (l' := #[.val (.ref a1), .val (.int p2), .val (.int p3), .val (.int p4), .val .null, .val (.int (f4N_v109 cnt)), .val (.int (0 : Int32)), .val (.int (f4N_j86_l7_3 p2 p3 p4 v1 v2 v3 v4)), .val (.int (f4N_j86_l8_3 p2 p3 p4 v1 v2 v3 v4)), .val (.int (f4N_j86_l9_3 p2 p3 p4 v1 v2 v3))]) X33 hx (hb hby d4_109) rfl rfl rfl rfl ?_
      refine Rt.iload (pc' := 114) X33 hx (hb hby d4_112) rfl rfl ?_
      refine Rt.iconst (pc' := 115) (v := (1 : Int32)) X33 hx (hb hby d4_114) rfl rfl ?_
      refine Rt.iadd (pc' := 116) (r := ((f4N_j86_l7_3 p2 p3 p4 v1 v2 v3 v4) + (1 : Int32))) X33 hx (hb hby d4_115) rfl rfl ?_
      refine Rt.istore (pc' := 118) (v := (f4N_v116_3 p2 p3 p4 v1 v2 v3 v4)) (l' := #[.val (.ref a1), .val (.int p2), .val (.int p3), .val (.int p4), .val .null, .val (.int (f4N_v109 cnt)), .val (.int (f4N_v116_3 p2 p3 p4 v1 v2 v3 v4)), .val (.int (f4N_j86_l7_3 p2 p3 p4 v1 v2 v3 v4)), .val (.int (f4N_j86_l8_3 p2 p3 p4 v1 v2 v3 v4)), .val (.int (f4N_j86_l9_3 p2 p3 p4 v1 v2 v3))]) X33 hx (hb hby d4_116) rfl rfl ?_
      refine Rt.goto (pc' := 6) X33 hx (hb hby d4_118) (by decide) (by decide) ?_
      rcases own_last0 p2 p3 p4 v0 v1 v2 v3 v4 with el | el | el | el | el
      · rw [show (f4N_v116_3 p2 p3 p4 v1 v2 v3 v4) = (1 : Int32) from by rw [f4N_v116_3, el]; decide]
        exact sgN1 hx hZ hby hret hlk F T33 _ _ _ _ (Or.inr ⟨_, rfl, rfl⟩) (Or.inr ⟨_, rfl, rfl⟩) (Or.inr ⟨_, rfl, rfl⟩) X33 (by have q := hP; rw [gN0, if_pos hk, if_pos el] at q; exact q)
      · rw [show (f4N_v116_3 p2 p3 p4 v1 v2 v3 v4) = (2 : Int32) from by rw [f4N_v116_3, el]; decide]
        exact sgN2 hx hZ hby hret hlk F T33 _ _ _ _ (Or.inr ⟨_, rfl, rfl⟩) (Or.inr ⟨_, rfl, rfl⟩) (Or.inr ⟨_, rfl, rfl⟩) X33 (by have q := hP; rw [gN0, if_pos hk, if_neg (by rw [el]; decide), if_pos el] at q; exact q)
      · rw [show (f4N_v116_3 p2 p3 p4 v1 v2 v3 v4) = (3 : Int32) from by rw [f4N_v116_3, el]; decide]
        exact sgN3 hx hZ hby hret hlk F T33 _ _ _ _ (Or.inr ⟨_, rfl, rfl⟩) (Or.inr ⟨_, rfl, rfl⟩) (Or.inr ⟨_, rfl, rfl⟩) X33 (by have q := hP; rw [gN0, if_pos hk, if_neg (by rw [el]; decide), if_neg (by rw [el]; decide), if_pos el] at q; exact q)
      · rw [show (f4N_v116_3 p2 p3 p4 v1 v2 v3 v4) = (4 : Int32) from by rw [f4N_v116_3, el]; decide]
        exact sgN4 hx hZ hby hret hlk F T33 _ _ _ _ (Or.inr ⟨_, rfl, rfl⟩) (Or.inr ⟨_, rfl, rfl⟩) (Or.inr ⟨_, rfl, rfl⟩) X33 (by have q := hP; rw [gN0, if_pos hk, if_neg (by rw [el]; decide), if_neg (by rw [el]; decide), if_neg (by rw [el]; decide), if_pos el] at q; exact q)
      · rw [show (f4N_v116_3 p2 p3 p4 v1 v2 v3 v4) = (5 : Int32) from by rw [f4N_v116_3, el]; decide]
        exact sgN5 hx hZ hby hret hlk F T33 _ _ _ _ (Or.inr ⟨_, rfl, rfl⟩) (Or.inr ⟨_, rfl, rfl⟩) (Or.inr ⟨_, rfl, rfl⟩) X33 (by have q := hP; rw [gN0, if_pos hk, if_neg (by rw [el]; decide), if_neg (by rw [el]; decide), if_neg (by rw [el]; decide), if_neg (by rw [el]; decide)] at q; exact q)
    by_cases hc53_34 : (1 : Int32) < p2
    · refine Rt.icmpN (pc' := 56) X0 hx (hb hby d4_53) (tlt hc53_34).2.1 rfl ?_
      refine Rt.iload (pc' := 58) X0 hx (hb hby d4_56) rfl rfl ?_
      refine Rt.iloadN (pc' := 59) X0 hx (hb hby d4_58) rfl rfl ?_
      by_cases hc59_35 : p3 < (0 : Int32)
      · refine Rt.icmpY (pc' := 86) X0 hx (hb hby d4_59) (tlt hc59_35).2.2.1 (by decide) (by decide) ?_
        have q := J53_33 T0   X0
        rw [show (f4N_j86_l7_3 p2 p3 p4 v1 v2 v3 v4) = (0 : Int32) from by rw [f4N_j86_l7_3, if_pos hc53_34, if_pos hc59_35]] at q
        rw [show (f4N_j86_l8_3 p2 p3 p4 v1 v2 v3 v4) = (0 : Int32) from by rw [f4N_j86_l8_3, if_pos hc53_34, if_pos hc59_35]] at q
        rw [show (f4N_j86_l9_3 p2 p3 p4 v1 v2 v3) = (1 : Int32) from by rw [f4N_j86_l9_3, if_pos hc53_34, if_pos hc59_35]] at q
        exact q
      · refine Rt.icmpN (pc' := 62) X0 hx (hb hby d4_59) (flt hc59_35).2.2.1 rfl ?_
        refine Rt.aloadN (pc' := 63) X0 hx (hb hby d4_62) rfl rfl rfl ?_
        refine Rt.iload (pc' := 65) X0 hx (hb hby d4_63) rfl rfl ?_
        refine Rt.iaload (pc' := 66) X0 hx hZ F (i := 1) (by decide) (by decide) (v := (.int v1)) rfl (hb hby d4_65) rfl ?_
        refine Rt.iloadN (pc' := 67) X0 hx (hb hby d4_66) rfl rfl ?_
        have J67_36 : ∀ T36  , Sd p l e R s m args below meth c T36 n0 0 0 h0 → Rt p e below s k n P (T36.setTop (mkF m 80 #[.val (.ref a1), .val (.int p2), .val (.int p3), .val (.int p4), .val .null, .val (.int cnt), .val (.int (0 : Int32)), .val (.int (f4N_j80_l7_6 p4 v1)), .val (.int (f4N_j80_l8_6 p4 v1)), .val (.int (1 : Int32))] [])) := by
          intro T36   X36 
          refine Rt.iinc (pc' := 83) (r := (2 : Int32)) (l' := #[.val (.ref a1), .val (.int p2), .val (.int p3), .val (.int p4), .val .null, .val (.int cnt), .val (.int (0 : Int32)), .val (.int (f4N_j80_l7_6 p4 v1)), .val (.int (f4N_j80_l8_6 p4 v1)), .val (.int (2 : Int32))]) X36 hx (hb hby d4_80) rfl (by decide) rfl rfl ?_
          refine Rt.goto (pc' := 40) X36 hx (hb hby d4_83) (by decide) (by decide) ?_
          refine Rt.iload (pc' := 42) X36 hx (hb hby d4_40) rfl rfl ?_
          refine Rt.aloadN (pc' := 43) X36 hx (hb hby d4_42) rfl rfl rfl ?_
          refine Rt.arraylength (pc' := 44) X36 hx hZ F (v := (5 : Int32)) rfl (hb hby d4_43) rfl ?_
          refine Rt.icmpN (pc' := 47) X36 hx (hb hby d4_44) (tlt (by decide : (2 : Int32) < (5 : Int32))).2.1 rfl ?_
          refine Rt.iload (pc' := 49) X36 hx (hb hby d4_47) rfl rfl ?_
          refine Rt.iload (pc' := 51) X36 hx (hb hby d4_49) rfl rfl ?_
          refine Rt.isub (pc' := 52) (r := (2 : Int32)) X36 hx (hb hby d4_51) (by decide) rfl ?_
          refine Rt.iloadN (pc' := 53) X36 hx (hb hby d4_52) rfl rfl ?_
          by_cases hc53_37 : (2 : Int32) < p2
          · refine Rt.icmpN (pc' := 56) X36 hx (hb hby d4_53) (tlt hc53_37).2.1 rfl ?_
            refine Rt.iload (pc' := 58) X36 hx (hb hby d4_56) rfl rfl ?_
            refine Rt.iloadN (pc' := 59) X36 hx (hb hby d4_58) rfl rfl ?_
            by_cases hc59_38 : p3 < (f4N_j80_l8_6 p4 v1)
            · refine Rt.icmpY (pc' := 86) X36 hx (hb hby d4_59) (tlt hc59_38).2.2.1 (by decide) (by decide) ?_
              have q := J53_33 T36   X36
              rw [show (f4N_j86_l7_3 p2 p3 p4 v1 v2 v3 v4) = (f4N_j80_l7_6 p4 v1) from by rw [f4N_j86_l7_3, if_pos hc53_34, if_neg hc59_35, if_pos hc53_37, if_pos hc59_38]] at q
              rw [show (f4N_j86_l8_3 p2 p3 p4 v1 v2 v3 v4) = (f4N_j80_l8_6 p4 v1) from by rw [f4N_j86_l8_3, if_pos hc53_34, if_neg hc59_35, if_pos hc53_37, if_pos hc59_38]] at q
              rw [show (f4N_j86_l9_3 p2 p3 p4 v1 v2 v3) = (2 : Int32) from by rw [f4N_j86_l9_3, if_pos hc53_34, if_neg hc59_35, if_pos hc53_37, if_pos hc59_38]] at q
              exact q
            · refine Rt.icmpN (pc' := 62) X36 hx (hb hby d4_59) (flt hc59_38).2.2.1 rfl ?_
              refine Rt.aloadN (pc' := 63) X36 hx (hb hby d4_62) rfl rfl rfl ?_
              refine Rt.iload (pc' := 65) X36 hx (hb hby d4_63) rfl rfl ?_
              refine Rt.iaload (pc' := 66) X36 hx hZ F (i := 2) (by decide) (by decide) (v := (.int v2)) rfl (hb hby d4_65) rfl ?_
              refine Rt.iloadN (pc' := 67) X36 hx (hb hby d4_66) rfl rfl ?_
              have J67_39 : ∀ T39  , Sd p l e R s m args below meth c T39 n0 0 0 h0 → Rt p e below s k n P (T39.setTop (mkF m 80 #[.val (.ref a1), .val (.int p2), .val (.int p3), .val (.int p4), .val .null, .val (.int cnt), .val (.int (0 : Int32)), .val (.int (f4N_j80_l7_7 p4 v1 v2)), .val (.int (f4N_j80_l8_7 p4 v1 v2)), .val (.int (2 : Int32))] [])) := by
                intro T39   X39 
                refine Rt.iinc (pc' := 83) (r := (3 : Int32)) (l' := #[.val (.ref a1), .val (.int p2), .val (.int p3), .val (.int p4), .val .null, .val (.int cnt), .val (.int (0 : Int32)), .val (.int (f4N_j80_l7_7 p4 v1 v2)), .val (.int (f4N_j80_l8_7 p4 v1 v2)), .val (.int (3 : Int32))]) X39 hx (hb hby d4_80) rfl (by decide) rfl rfl ?_
                refine Rt.goto (pc' := 40) X39 hx (hb hby d4_83) (by decide) (by decide) ?_
                refine Rt.iload (pc' := 42) X39 hx (hb hby d4_40) rfl rfl ?_
                refine Rt.aloadN (pc' := 43) X39 hx (hb hby d4_42) rfl rfl rfl ?_
                refine Rt.arraylength (pc' := 44) X39 hx hZ F (v := (5 : Int32)) rfl (hb hby d4_43) rfl ?_
                refine Rt.icmpN (pc' := 47) X39 hx (hb hby d4_44) (tlt (by decide : (3 : Int32) < (5 : Int32))).2.1 rfl ?_
                refine Rt.iload (pc' := 49) X39 hx (hb hby d4_47) rfl rfl ?_
                refine Rt.iload (pc' := 51) X39 hx (hb hby d4_49) rfl rfl ?_
                refine Rt.isub (pc' := 52) (r := (3 : Int32)) X39 hx (hb hby d4_51) (by decide) rfl ?_
                refine Rt.iloadN (pc' := 53) X39 hx (hb hby d4_52) rfl rfl ?_
                by_cases hc53_40 : (3 : Int32) < p2
                · refine Rt.icmpN (pc' := 56) X39 hx (hb hby d4_53) (tlt hc53_40).2.1 rfl ?_
                  refine Rt.iload (pc' := 58) X39 hx (hb hby d4_56) rfl rfl ?_
                  refine Rt.iloadN (pc' := 59) X39 hx (hb hby d4_58) rfl rfl ?_
                  by_cases hc59_41 : p3 < (f4N_j80_l8_7 p4 v1 v2)
                  · refine Rt.icmpY (pc' := 86) X39 hx (hb hby d4_59) (tlt hc59_41).2.2.1 (by decide) (by decide) ?_
                    have q := J53_33 T39   X39
                    rw [show (f4N_j86_l7_3 p2 p3 p4 v1 v2 v3 v4) = (f4N_j80_l7_7 p4 v1 v2) from by rw [f4N_j86_l7_3, if_pos hc53_34, if_neg hc59_35, if_pos hc53_37, if_neg hc59_38, if_pos hc53_40, if_pos hc59_41]] at q
                    rw [show (f4N_j86_l8_3 p2 p3 p4 v1 v2 v3 v4) = (f4N_j80_l8_7 p4 v1 v2) from by rw [f4N_j86_l8_3, if_pos hc53_34, if_neg hc59_35, if_pos hc53_37, if_neg hc59_38, if_pos hc53_40, if_pos hc59_41]] at q
                    rw [show (f4N_j86_l9_3 p2 p3 p4 v1 v2 v3) = (3 : Int32) from by rw [f4N_j86_l9_3, if_pos hc53_34, if_neg hc59_35, if_pos hc53_37, if_neg hc59_38, if_pos hc53_40, if_pos hc59_41]] at q
                    exact q
                  · refine Rt.icmpN (pc' := 62) X39 hx (hb hby d4_59) (flt hc59_41).2.2.1 rfl ?_
                    refine Rt.aloadN (pc' := 63) X39 hx (hb hby d4_62) rfl rfl rfl ?_
                    refine Rt.iload (pc' := 65) X39 hx (hb hby d4_63) rfl rfl ?_
                    refine Rt.iaload (pc' := 66) X39 hx hZ F (i := 3) (by decide) (by decide) (v := (.int v3)) rfl (hb hby d4_65) rfl ?_
                    refine Rt.iloadN (pc' := 67) X39 hx (hb hby d4_66) rfl rfl ?_
                    have J67_42 : ∀ T42  , Sd p l e R s m args below meth c T42 n0 0 0 h0 → Rt p e below s k n P (T42.setTop (mkF m 80 #[.val (.ref a1), .val (.int p2), .val (.int p3), .val (.int p4), .val .null, .val (.int cnt), .val (.int (0 : Int32)), .val (.int (f4N_j80_l7_8 p4 v1 v2 v3)), .val (.int (f4N_j80_l8_8 p4 v1 v2 v3)), .val (.int (3 : Int32))] [])) := by
                      intro T42   X42 
                      refine Rt.iinc (pc' := 83) (r := (4 : Int32)) (l' := #[.val (.ref a1), .val (.int p2), .val (.int p3), .val (.int p4), .val .null, .val (.int cnt), .val (.int (0 : Int32)), .val (.int (f4N_j80_l7_8 p4 v1 v2 v3)), .val (.int (f4N_j80_l8_8 p4 v1 v2 v3)), .val (.int (4 : Int32))]) X42 hx (hb hby d4_80) rfl (by decide) rfl rfl ?_
                      refine Rt.goto (pc' := 40) X42 hx (hb hby d4_83) (by decide) (by decide) ?_
                      refine Rt.iload (pc' := 42) X42 hx (hb hby d4_40) rfl rfl ?_
                      refine Rt.aloadN (pc' := 43) X42 hx (hb hby d4_42) rfl rfl rfl ?_
                      refine Rt.arraylength (pc' := 44) X42 hx hZ F (v := (5 : Int32)) rfl (hb hby d4_43) rfl ?_
                      refine Rt.icmpN (pc' := 47) X42 hx (hb hby d4_44) (tlt (by decide : (4 : Int32) < (5 : Int32))).2.1 rfl ?_
                      refine Rt.iload (pc' := 49) X42 hx (hb hby d4_47) rfl rfl ?_
                      refine Rt.iload (pc' := 51) X42 hx (hb hby d4_49) rfl rfl ?_
                      refine Rt.isub (pc' := 52) (r := (4 : Int32)) X42 hx (hb hby d4_51) (by decide) rfl ?_
                      refine Rt.iloadN (pc' := 53) X42 hx (hb hby d4_52) rfl rfl ?_
                      by_cases hc53_43 : (4 : Int32) < p2
                      · refine Rt.icmpN (pc' := 56) X42 hx (hb hby d4_53) (tlt hc53_43).2.1 rfl ?_
                        refine Rt.iload (pc' := 58) X42 hx (hb hby d4_56) rfl rfl ?_
                        refine Rt.iloadN (pc' := 59) X42 hx (hb hby d4_58) rfl rfl ?_
                        by_cases hc59_44 : p3 < (f4N_j80_l8_8 p4 v1 v2 v3)
                        · refine Rt.icmpY (pc' := 86) X42 hx (hb hby d4_59) (tlt hc59_44).2.2.1 (by decide) (by decide) ?_
                          have q := J53_33 T42   X42
                          rw [show (f4N_j86_l7_3 p2 p3 p4 v1 v2 v3 v4) = (f4N_j80_l7_8 p4 v1 v2 v3) from by rw [f4N_j86_l7_3, if_pos hc53_34, if_neg hc59_35, if_pos hc53_37, if_neg hc59_38, if_pos hc53_40, if_neg hc59_41, if_pos hc53_43, if_pos hc59_44]] at q
                          rw [show (f4N_j86_l8_3 p2 p3 p4 v1 v2 v3 v4) = (f4N_j80_l8_8 p4 v1 v2 v3) from by rw [f4N_j86_l8_3, if_pos hc53_34, if_neg hc59_35, if_pos hc53_37, if_neg hc59_38, if_pos hc53_40, if_neg hc59_41, if_pos hc53_43, if_pos hc59_44]] at q
                          rw [show (f4N_j86_l9_3 p2 p3 p4 v1 v2 v3) = (4 : Int32) from by rw [f4N_j86_l9_3, if_pos hc53_34, if_neg hc59_35, if_pos hc53_37, if_neg hc59_38, if_pos hc53_40, if_neg hc59_41, if_pos hc53_43, if_pos hc59_44]] at q
                          exact q
                        · refine Rt.icmpN (pc' := 62) X42 hx (hb hby d4_59) (flt hc59_44).2.2.1 rfl ?_
                          refine Rt.aloadN (pc' := 63) X42 hx (hb hby d4_62) rfl rfl rfl ?_
                          refine Rt.iload (pc' := 65) X42 hx (hb hby d4_63) rfl rfl ?_
                          refine Rt.iaload (pc' := 66) X42 hx hZ F (i := 4) (by decide) (by decide) (v := (.int v4)) rfl (hb hby d4_65) rfl ?_
                          refine Rt.iloadN (pc' := 67) X42 hx (hb hby d4_66) rfl rfl ?_
                          have J67_45 : ∀ T45  , Sd p l e R s m args below meth c T45 n0 0 0 h0 → Rt p e below s k n P (T45.setTop (mkF m 80 #[.val (.ref a1), .val (.int p2), .val (.int p3), .val (.int p4), .val .null, .val (.int cnt), .val (.int (0 : Int32)), .val (.int (f4N_j80_l7_9 p4 v1 v2 v3 v4)), .val (.int (f4N_j80_l8_9 p4 v1 v2 v3 v4)), .val (.int (4 : Int32))] [])) := by
                            intro T45   X45 
                            refine Rt.iinc (pc' := 83) (r := (5 : Int32)) (l' := #[.val (.ref a1), .val (.int p2), .val (.int p3), .val (.int p4), .val .null, .val (.int cnt), .val (.int (0 : Int32)), .val (.int (f4N_j80_l7_9 p4 v1 v2 v3 v4)), .val (.int (f4N_j80_l8_9 p4 v1 v2 v3 v4)), .val (.int (5 : Int32))]) X45 hx (hb hby d4_80) rfl (by decide) rfl rfl ?_
                            refine Rt.goto (pc' := 40) X45 hx (hb hby d4_83) (by decide) (by decide) ?_
                            refine Rt.iload (pc' := 42) X45 hx (hb hby d4_40) rfl rfl ?_
                            refine Rt.aloadN (pc' := 43) X45 hx (hb hby d4_42) rfl rfl rfl ?_
                            refine Rt.arraylength (pc' := 44) X45 hx hZ F (v := (5 : Int32)) rfl (hb hby d4_43) rfl ?_
                            refine Rt.icmpY (pc' := 86) X45 hx (hb hby d4_44) (flt (by decide : ¬ ((5 : Int32) < (5 : Int32)))).2.1 (by decide) (by decide) ?_
                            have q := J53_33 T45   X45
                            rw [show (f4N_j86_l7_3 p2 p3 p4 v1 v2 v3 v4) = (f4N_j80_l7_9 p4 v1 v2 v3 v4) from by rw [f4N_j86_l7_3, if_pos hc53_34, if_neg hc59_35, if_pos hc53_37, if_neg hc59_38, if_pos hc53_40, if_neg hc59_41, if_pos hc53_43, if_neg hc59_44]] at q
                            rw [show (f4N_j86_l8_3 p2 p3 p4 v1 v2 v3 v4) = (f4N_j80_l8_9 p4 v1 v2 v3 v4) from by rw [f4N_j86_l8_3, if_pos hc53_34, if_neg hc59_35, if_pos hc53_37, if_neg hc59_38, if_pos hc53_40, if_neg hc59_41, if_pos hc53_43, if_neg hc59_44]] at q
                            rw [show (f4N_j86_l9_3 p2 p3 p4 v1 v2 v3) = (5 : Int32) from by rw [f4N_j86_l9_3, if_pos hc53_34, if_neg hc59_35, if_pos hc53_37, if_neg hc59_38, if_pos hc53_40, if_neg hc59_41, if_pos hc53_43, if_neg hc59_44]] at q
                            exact q
                          by_cases hc67_46 : p4 < v4
                          · refine Rt.icmpN (pc' := 70) X42 hx (hb hby d4_67) (tlt hc67_46).2.2.2 rfl ?_
                            refine Rt.iload (pc' := 72) X42 hx (hb hby d4_70) rfl rfl ?_
                            refine Rt.istore (pc' := 74) (v := (4 : Int32)) (l' := #[.val (.ref a1), .val (.int p2), .val (.int p3), .val (.int p4), .val .null, .val (.int cnt), .val (.int (0 : Int32)), .val (.int (4 : Int32)), .val (.int (f4N_j80_l8_8 p4 v1 v2 v3)), .val (.int (4 : Int32))]) X42 hx (hb hby d4_72) rfl rfl ?_
                            refine Rt.goto (pc' := 80) X42 hx (hb hby d4_74) (by decide) (by decide) ?_
                            have q := J67_45 T42   X42
                            rw [show (f4N_j80_l7_9 p4 v1 v2 v3 v4) = (4 : Int32) from by rw [f4N_j80_l7_9, if_pos hc67_46]] at q
                            rw [show (f4N_j80_l8_9 p4 v1 v2 v3 v4) = (f4N_j80_l8_8 p4 v1 v2 v3) from by rw [f4N_j80_l8_9, if_pos hc67_46]] at q
                            exact q
                          · refine Rt.icmpY (pc' := 77) X42 hx (hb hby d4_67) (flt hc67_46).2.2.2 (by decide) (by decide) ?_
                            refine Rt.iinc (pc' := 80) (r := (f4N_v77_5 p4 v1 v2 v3)) (l' := #[.val (.ref a1), .val (.int p2), .val (.int p3), .val (.int p4), .val .null, .val (.int cnt), .val (.int (0 : Int32)), .val (.int (f4N_j80_l7_8 p4 v1 v2 v3)), .val (.int (f4N_v77_5 p4 v1 v2 v3)), .val (.int (4 : Int32))]) X42 hx (hb hby d4_77) rfl rfl rfl rfl ?_
                            have q := J67_45 T42   X42
                            rw [show (f4N_j80_l7_9 p4 v1 v2 v3 v4) = (f4N_j80_l7_8 p4 v1 v2 v3) from by rw [f4N_j80_l7_9, if_neg hc67_46]] at q
                            rw [show (f4N_j80_l8_9 p4 v1 v2 v3 v4) = (f4N_v77_5 p4 v1 v2 v3) from by rw [f4N_j80_l8_9, if_neg hc67_46]] at q
                            exact q
                      · refine Rt.icmpY (pc' := 86) X42 hx (hb hby d4_53) (flt hc53_43).2.1 (by decide) (by decide) ?_
                        have q := J53_33 T42   X42
                        rw [show (f4N_j86_l7_3 p2 p3 p4 v1 v2 v3 v4) = (f4N_j80_l7_8 p4 v1 v2 v3) from by rw [f4N_j86_l7_3, if_pos hc53_34, if_neg hc59_35, if_pos hc53_37, if_neg hc59_38, if_pos hc53_40, if_neg hc59_41, if_neg hc53_43]] at q
                        rw [show (f4N_j86_l8_3 p2 p3 p4 v1 v2 v3 v4) = (f4N_j80_l8_8 p4 v1 v2 v3) from by rw [f4N_j86_l8_3, if_pos hc53_34, if_neg hc59_35, if_pos hc53_37, if_neg hc59_38, if_pos hc53_40, if_neg hc59_41, if_neg hc53_43]] at q
                        rw [show (f4N_j86_l9_3 p2 p3 p4 v1 v2 v3) = (4 : Int32) from by rw [f4N_j86_l9_3, if_pos hc53_34, if_neg hc59_35, if_pos hc53_37, if_neg hc59_38, if_pos hc53_40, if_neg hc59_41, if_neg hc53_43]] at q
                        exact q
                    by_cases hc67_47 : p4 < v3
                    · refine Rt.icmpN (pc' := 70) X39 hx (hb hby d4_67) (tlt hc67_47).2.2.2 rfl ?_
                      refine Rt.iload (pc' := 72) X39 hx (hb hby d4_70) rfl rfl ?_
                      refine Rt.istore (pc' := 74) (v := (3 : Int32)) (l' := #[.val (.ref a1), .val (.int p2), .val (.int p3), .val (.int p4), .val .null, .val (.int cnt), .val (.int (0 : Int32)), .val (.int (3 : Int32)), .val (.int (f4N_j80_l8_7 p4 v1 v2)), .val (.int (3 : Int32))]) X39 hx (hb hby d4_72) rfl rfl ?_
                      refine Rt.goto (pc' := 80) X39 hx (hb hby d4_74) (by decide) (by decide) ?_
                      have q := J67_42 T39   X39
                      rw [show (f4N_j80_l7_8 p4 v1 v2 v3) = (3 : Int32) from by rw [f4N_j80_l7_8, if_pos hc67_47]] at q
                      rw [show (f4N_j80_l8_8 p4 v1 v2 v3) = (f4N_j80_l8_7 p4 v1 v2) from by rw [f4N_j80_l8_8, if_pos hc67_47]] at q
                      exact q
                    · refine Rt.icmpY (pc' := 77) X39 hx (hb hby d4_67) (flt hc67_47).2.2.2 (by decide) (by decide) ?_
                      refine Rt.iinc (pc' := 80) (r := (f4N_v77_4 p4 v1 v2)) (l' := #[.val (.ref a1), .val (.int p2), .val (.int p3), .val (.int p4), .val .null, .val (.int cnt), .val (.int (0 : Int32)), .val (.int (f4N_j80_l7_7 p4 v1 v2)), .val (.int (f4N_v77_4 p4 v1 v2)), .val (.int (3 : Int32))]) X39 hx (hb hby d4_77) rfl rfl rfl rfl ?_
                      have q := J67_42 T39   X39
                      rw [show (f4N_j80_l7_8 p4 v1 v2 v3) = (f4N_j80_l7_7 p4 v1 v2) from by rw [f4N_j80_l7_8, if_neg hc67_47]] at q
                      rw [show (f4N_j80_l8_8 p4 v1 v2 v3) = (f4N_v77_4 p4 v1 v2) from by rw [f4N_j80_l8_8, if_neg hc67_47]] at q
                      exact q
                · refine Rt.icmpY (pc' := 86) X39 hx (hb hby d4_53) (flt hc53_40).2.1 (by decide) (by decide) ?_
                  have q := J53_33 T39   X39
                  rw [show (f4N_j86_l7_3 p2 p3 p4 v1 v2 v3 v4) = (f4N_j80_l7_7 p4 v1 v2) from by rw [f4N_j86_l7_3, if_pos hc53_34, if_neg hc59_35, if_pos hc53_37, if_neg hc59_38, if_neg hc53_40]] at q
                  rw [show (f4N_j86_l8_3 p2 p3 p4 v1 v2 v3 v4) = (f4N_j80_l8_7 p4 v1 v2) from by rw [f4N_j86_l8_3, if_pos hc53_34, if_neg hc59_35, if_pos hc53_37, if_neg hc59_38, if_neg hc53_40]] at q
                  rw [show (f4N_j86_l9_3 p2 p3 p4 v1 v2 v3) = (3 : Int32) from by rw [f4N_j86_l9_3, if_pos hc53_34, if_neg hc59_35, if_pos hc53_37, if_neg hc59_38, if_neg hc53_40]] at q
                  exact q
              by_cases hc67_48 : p4 < v2
              · refine Rt.icmpN (pc' := 70) X36 hx (hb hby d4_67) (tlt hc67_48).2.2.2 rfl ?_
                refine Rt.iload (pc' := 72) X36 hx (hb hby d4_70) rfl rfl ?_
                refine Rt.istore (pc' := 74) (v := (2 : Int32)) (l' := #[.val (.ref a1), .val (.int p2), .val (.int p3), .val (.int p4), .val .null, .val (.int cnt), .val (.int (0 : Int32)), .val (.int (2 : Int32)), .val (.int (f4N_j80_l8_6 p4 v1)), .val (.int (2 : Int32))]) X36 hx (hb hby d4_72) rfl rfl ?_
                refine Rt.goto (pc' := 80) X36 hx (hb hby d4_74) (by decide) (by decide) ?_
                have q := J67_39 T36   X36
                rw [show (f4N_j80_l7_7 p4 v1 v2) = (2 : Int32) from by rw [f4N_j80_l7_7, if_pos hc67_48]] at q
                rw [show (f4N_j80_l8_7 p4 v1 v2) = (f4N_j80_l8_6 p4 v1) from by rw [f4N_j80_l8_7, if_pos hc67_48]] at q
                exact q
              · refine Rt.icmpY (pc' := 77) X36 hx (hb hby d4_67) (flt hc67_48).2.2.2 (by decide) (by decide) ?_
                refine Rt.iinc (pc' := 80) (r := (f4N_v77_3 p4 v1)) (l' := #[.val (.ref a1), .val (.int p2), .val (.int p3), .val (.int p4), .val .null, .val (.int cnt), .val (.int (0 : Int32)), .val (.int (f4N_j80_l7_6 p4 v1)), .val (.int (f4N_v77_3 p4 v1)), .val (.int (2 : Int32))]) X36 hx (hb hby d4_77) rfl rfl rfl rfl ?_
                have q := J67_39 T36   X36
                rw [show (f4N_j80_l7_7 p4 v1 v2) = (f4N_j80_l7_6 p4 v1) from by rw [f4N_j80_l7_7, if_neg hc67_48]] at q
                rw [show (f4N_j80_l8_7 p4 v1 v2) = (f4N_v77_3 p4 v1) from by rw [f4N_j80_l8_7, if_neg hc67_48]] at q
                exact q
          · refine Rt.icmpY (pc' := 86) X36 hx (hb hby d4_53) (flt hc53_37).2.1 (by decide) (by decide) ?_
            have q := J53_33 T36   X36
            rw [show (f4N_j86_l7_3 p2 p3 p4 v1 v2 v3 v4) = (f4N_j80_l7_6 p4 v1) from by rw [f4N_j86_l7_3, if_pos hc53_34, if_neg hc59_35, if_neg hc53_37]] at q
            rw [show (f4N_j86_l8_3 p2 p3 p4 v1 v2 v3 v4) = (f4N_j80_l8_6 p4 v1) from by rw [f4N_j86_l8_3, if_pos hc53_34, if_neg hc59_35, if_neg hc53_37]] at q
            rw [show (f4N_j86_l9_3 p2 p3 p4 v1 v2 v3) = (2 : Int32) from by rw [f4N_j86_l9_3, if_pos hc53_34, if_neg hc59_35, if_neg hc53_37]] at q
            exact q
        by_cases hc67_49 : p4 < v1
        · refine Rt.icmpN (pc' := 70) X0 hx (hb hby d4_67) (tlt hc67_49).2.2.2 rfl ?_
          refine Rt.iload (pc' := 72) X0 hx (hb hby d4_70) rfl rfl ?_
          refine Rt.istore (pc' := 74) (v := (1 : Int32)) (l' := #[.val (.ref a1), .val (.int p2), .val (.int p3), .val (.int p4), .val .null, .val (.int cnt), .val (.int (0 : Int32)), .val (.int (1 : Int32)), .val (.int (0 : Int32)), .val (.int (1 : Int32))]) X0 hx (hb hby d4_72) rfl rfl ?_
          refine Rt.goto (pc' := 80) X0 hx (hb hby d4_74) (by decide) (by decide) ?_
          have q := J67_36 T0   X0
          rw [show (f4N_j80_l7_6 p4 v1) = (1 : Int32) from by rw [f4N_j80_l7_6, if_pos hc67_49]] at q
          rw [show (f4N_j80_l8_6 p4 v1) = (0 : Int32) from by rw [f4N_j80_l8_6, if_pos hc67_49]] at q
          exact q
        · refine Rt.icmpY (pc' := 77) X0 hx (hb hby d4_67) (flt hc67_49).2.2.2 (by decide) (by decide) ?_
          refine Rt.iinc (pc' := 80) (r := (1 : Int32)) (l' := #[.val (.ref a1), .val (.int p2), .val (.int p3), .val (.int p4), .val .null, .val (.int cnt), .val (.int (0 : Int32)), .val (.int (0 : Int32)), .val (.int (1 : Int32)), .val (.int (1 : Int32))]) X0 hx (hb hby d4_77) rfl (by decide) rfl rfl ?_
          have q := J67_36 T0   X0
          rw [show (f4N_j80_l7_6 p4 v1) = (0 : Int32) from by rw [f4N_j80_l7_6, if_neg hc67_49]] at q
          rw [show (f4N_j80_l8_6 p4 v1) = (1 : Int32) from by rw [f4N_j80_l8_6, if_neg hc67_49]] at q
          exact q
    · refine Rt.icmpY (pc' := 86) X0 hx (hb hby d4_53) (flt hc53_34).2.1 (by decide) (by decide) ?_
      have q := J53_33 T0   X0
      rw [show (f4N_j86_l7_3 p2 p3 p4 v1 v2 v3 v4) = (0 : Int32) from by rw [f4N_j86_l7_3, if_neg hc53_34]] at q
      rw [show (f4N_j86_l8_3 p2 p3 p4 v1 v2 v3 v4) = (0 : Int32) from by rw [f4N_j86_l8_3, if_neg hc53_34]] at q
      rw [show (f4N_j86_l9_3 p2 p3 p4 v1 v2 v3) = (1 : Int32) from by rw [f4N_j86_l9_3, if_neg hc53_34]] at q
      exact q
  · refine Rt.icmpN (pc' := 21) X0 hx (hb hby d4_18) (flt hk).2.2.1 rfl ?_
    refine Rt.iinc (pc' := 24) (r := (1 : Int32)) (l' := #[.val (.ref a1), .val (.int p2), .val (.int p3), .val (.int p4), .val .null, .val (.int cnt), .val (.int (1 : Int32)), s7, s8, s9]) X0 hx (hb hby d4_21) rfl (by decide) rfl rfl ?_
    refine Rt.goto (pc' := 6) X0 hx (hb hby d4_24) (by decide) (by decide) ?_
    exact sgN1 hx hZ hby hret hlk F T0 cnt s7 s8 s9 hs7 hs8 hs9 X0 (by have q := hP; rw [gN0, if_neg hk] at q; exact q)
theorem d4_0 : decode prog_2_method_4_code 0 = .ok (.iconst 0, 1) := by decide +kernel
theorem d4_1 : decode prog_2_method_4_code 1 = .ok (.istore 5, 2) := by decide +kernel
theorem d4_3 : decode prog_2_method_4_code 3 = .ok (.iconst 0, 1) := by decide +kernel
theorem d4_4 : decode prog_2_method_4_code 4 = .ok (.istore 6, 2) := by decide +kernel
def f4N (p2 : Int32) (p3 : Int32) (p4 : Int32) (v0 : Int32) (v1 : Int32) (v2 : Int32) (v3 : Int32) (v4 : Int32) : Int32 := (gN0 (0 : Int32) p2 p3 p4 v0 v1 v2 v3 v4)
def Q4N (a1 : Addr) (p2 : Int32) (p3 : Int32) (p4 : Int32) (v0 : Int32) (v1 : Int32) (v2 : Int32) (v3 : Int32) (v4 : Int32) (h0 : Heap) (n0 : Nat) (v : Option Value) (h : Heap) (L : List Loc) : Prop := v = some (.int (f4N p2 p3 p4 v0 v1 v2 v3 v4)) ∧ Fr n0 L ∧ h = h0
def rmR4N : Room := { frames := 0, cells := 0, slots := 0, locals := 0 }
theorem ef_4N (m : MethodId) (a1 : Addr) (p2 : Int32) (p3 : Int32) (p4 : Int32) : entryFrame m #[(.ref a1), (.int p2), (.int p3), (.int p4), .null] 10 = mkF m 0 #[.val (.ref a1), .val (.int p2), .val (.int p3), .val (.int p4), .val .null, .unset, .unset, .unset, .unset, .unset] [] := by first | (simp [entryFrame, mkF, argsToLocals, Value.category]; done) | rfl
theorem pn_com_example_tightfold_tightfold_FocusCover : plainName "com/example/tightfold/tightfold/FocusCover" = true := by first | (simp [plainName, overriddenIn]; done) | decide +kernel
set_option maxRecDepth 65536 in
set_option maxHeartbeats 40000000 in
theorem rm4N (l : Launch) (Z : State) (a0 : Array Value) (hw : ∀ d ∈ tables_1, d.before a0 Z = true) (ws : List Jvm.Cond) (a1 : Addr) (p2 : Int32) (p3 : Int32) (p4 : Int32) (v0 : Int32) (v1 : Int32) (v2 : Int32) (v3 : Int32) (v4 : Int32) (h0 : Heap) (n0 : Nat) (F_A_a1 : IA Z h0 a1 .int [(.int v0), (.int v1), (.int v2), (.int v3), (.int v4)]) :
    Mt l Z mt2 (Jvm.Cond.code mt2 prog_2_method_4_code 10 (some .int) :: ws) rmR4N #[(.ref a1), (.int p2), (.int p3), (.int p4), .null] h0 (Q4N a1 p2 p3 p4 v0 v1 v2 v3 v4 h0 n0) := by
  refine Mt.of n0 (plainFor_of_name pn_com_example_tightfold_tightfold_FocusCover) ?_
  intro p e s m below meth c T0 X0 hx hZ hby hml hown hret hlk hnm hs0
  have hown : s.vm.findClass "com/example/tightfold/tightfold/FocusCover" = some m.cls := hown
  rw [ef_4N]
  show Rt p e below s rmR4N.cells rmR4N.slots (Q4N a1 p2 p3 p4 v0 v1 v2 v3 v4 h0 n0) (T0.setTop (mkF m 0 #[.val (.ref a1), .val (.int p2), .val (.int p3), .val (.int p4), .val .null, .unset, .unset, .unset, .unset, .unset] []))
  refine Rt.iconst (pc' := 1) (v := (0 : Int32)) X0 hx (hb hby d4_0) rfl rfl ?_
  refine Rt.istore (pc' := 3) (v := (0 : Int32)) (l' := #[.val (.ref a1), .val (.int p2), .val (.int p3), .val (.int p4), .val .null, .val (.int (0 : Int32)), .unset, .unset, .unset, .unset]) X0 hx (hb hby d4_1) rfl rfl ?_
  refine Rt.iconst (pc' := 4) (v := (0 : Int32)) X0 hx (hb hby d4_3) rfl rfl ?_
  refine Rt.istore (pc' := 6) (v := (0 : Int32)) (l' := #[.val (.ref a1), .val (.int p2), .val (.int p3), .val (.int p4), .val .null, .val (.int (0 : Int32)), .val (.int (0 : Int32)), .unset, .unset, .unset]) X0 hx (hb hby d4_4) rfl rfl ?_
  exact sgN0 hx hZ hby hret hlk F_A_a1 T0 _ _ _ _ (Or.inl rfl) (Or.inl rfl) (Or.inl rfl) X0 (fun L N => ⟨rfl, N, rfl⟩)
theorem d3_0 : decode prog_2_method_2_code 0 = .ok (.aload_n 0, 1) := by decide +kernel
theorem d3_1 : decode prog_2_method_2_code 1 = .ok (.iload_n 1, 1) := by decide +kernel
theorem d3_2 : decode prog_2_method_2_code 2 = .ok (.iload_n 2, 1) := by decide +kernel
theorem d3_3 : decode prog_2_method_2_code 3 = .ok (.iload_n 3, 1) := by decide +kernel
theorem d3_4 : decode prog_2_method_2_code 4 = .ok (.aconst_null, 1) := by decide +kernel
theorem pd_0 : parseMethodDescriptor "([IIII[[I)I" = some ⟨[(.array .int), .int, .int, .int, (.array (.array .int))], some .int⟩ := by decide +kernel
theorem d3_5 : decode prog_2_method_2_code 5 = .ok (.invokestatic 7, 3) := by decide +kernel
theorem d3_8 : decode prog_2_method_2_code 8 = .ok (.ireturn, 1) := by decide +kernel
def f3 (p2 : Int32) (p3 : Int32) (p4 : Int32) (v0 : Int32) (v1 : Int32) (v2 : Int32) (v3 : Int32) (v4 : Int32) : Int32 := (f4N p2 p3 p4 v0 v1 v2 v3 v4)
def Q3 (a1 : Addr) (p2 : Int32) (p3 : Int32) (p4 : Int32) (v0 : Int32) (v1 : Int32) (v2 : Int32) (v3 : Int32) (v4 : Int32) (h0 : Heap) (n0 : Nat) (v : Option Value) (h : Heap) (L : List Loc) : Prop := v = some (.int (f3 p2 p3 p4 v0 v1 v2 v3 v4)) ∧ Fr n0 L ∧ h = h0
def rmR3 : Room := { frames := 1, cells := 0, slots := 0, locals := 21 }
theorem ef_3 (m : MethodId) (a1 : Addr) (p2 : Int32) (p3 : Int32) (p4 : Int32) : entryFrame m #[(.ref a1), (.int p2), (.int p3), (.int p4)] 4 = mkF m 0 #[.val (.ref a1), .val (.int p2), .val (.int p3), .val (.int p4)] [] := by first | (simp [entryFrame, mkF, argsToLocals, Value.category]; done) | rfl
set_option maxRecDepth 65536 in
set_option maxHeartbeats 40000000 in
theorem rm3 (l : Launch) (Z : State) (a0 : Array Value) (hw : ∀ d ∈ tables_1, d.before a0 Z = true) (ws : List Jvm.Cond) (a1 : Addr) (p2 : Int32) (p3 : Int32) (p4 : Int32) (v0 : Int32) (v1 : Int32) (v2 : Int32) (v3 : Int32) (v4 : Int32) (h0 : Heap) (n0 : Nat) (F_A_a1 : IA Z h0 a1 .int [(.int v0), (.int v1), (.int v2), (.int v3), (.int v4)]) :
    Mt l Z mt3 (Jvm.Cond.code mt3 prog_2_method_2_code 4 (some .int) :: ws) rmR3 #[(.ref a1), (.int p2), (.int p3), (.int p4)] h0 (Q3 a1 p2 p3 p4 v0 v1 v2 v3 v4 h0 n0) := by
  refine Mt.of n0 (plainFor_of_name pn_com_example_tightfold_tightfold_FocusCover) ?_
  intro p e s m below meth c T0 X0 hx hZ hby hml hown hret hlk hnm hs0
  have hown : s.vm.findClass "com/example/tightfold/tightfold/FocusCover" = some m.cls := hown
  rw [ef_3]
  show Rt p e below s rmR3.cells rmR3.slots (Q3 a1 p2 p3 p4 v0 v1 v2 v3 v4 h0 n0) (T0.setTop (mkF m 0 #[.val (.ref a1), .val (.int p2), .val (.int p3), .val (.int p4)] []))
  refine Rt.aloadN (pc' := 1) X0 hx (hb hby d3_0) rfl rfl rfl ?_
  refine Rt.iloadN (pc' := 2) X0 hx (hb hby d3_1) rfl rfl ?_
  refine Rt.iloadN (pc' := 3) X0 hx (hb hby d3_2) rfl rfl ?_
  refine Rt.iloadN (pc' := 4) X0 hx (hb hby d3_3) rfl rfl ?_
  refine Rt.aconstNull (pc' := 5) X0 hx (hb hby d3_4) rfl ?_
  refine Rt.callP (pc' := 8) (r := (.int (f4N p2 p3 p4 v0 v1 v2 v3 v4))) X0 hx hZ (y := mt2) hown (own_g hw 13 rfl) (own_g hw 14 rfl) (own_g hw 8 rfl) (own_g hw 15 rfl) (by decide) (rm4N l Z a0 hw [] a1 p2 p3 p4 v0 v1 v2 v3 v4 h0 n0 F_A_a1) (W := 0) (by decide) (by decide) (by decide) (by decide) rfl rfl (argsL := [(.ref a1), (.int p2), (.int p3), (.int p4), .null]) (rest := []) (by rw [hml]; rfl) (lenOf pd_0 rfl) rfl rfl (Nat.le_of_eq rfl) (hb hby d3_5) rfl ?_
  intro T1 X1
  exact Rt.retI X1 hx hlk hret (hb hby d3_8) (by decide) (by decide) (fun L N => ⟨congrArg some (congrArg Value.int (by rw [f3])), N, rfl⟩)
theorem own_c1 {cnt : Int32} {N : Nat} (h : ¬ cnt < 0 ∧ cnt.toNatClampNeg = N) (hb : N < 5) : ¬ (cnt + 1) < 0 ∧ (cnt + 1).toNatClampNeg = N + 1 := by
  have g := c_iadd cnt 1
  have l0 : (0 : Int32).toInt = 0 := by decide
  have l1 : (1 : Int32).toInt = 1 := by decide
  have b1 := (cnt + 1).le_toInt
  have b2 := (cnt + 1).toInt_lt
  have e1 : cnt.toNatClampNeg = cnt.toInt.toNat := rfl
  have e2 : (cnt + 1).toNatClampNeg = (cnt + 1).toInt.toNat := rfl
  simp only [Int32.lt_iff_toInt_lt] at *
  omega
def psR5 (p2 p3 p4 v0 v1 v2 v3 v4 : Int32) : List (Int32 × Int32) := []
def gR5 (cnt p2 p3 p4 v0 v1 v2 v3 v4 : Int32) : Int32 := cnt
set_option maxRecDepth 65536 in
theorem sgR5 {p : Program} {l : Launch} {e : Env} {R : Room} {s : State} {m : MethodId} {args : Array Value} {below : List Frame} {meth : Method} {c : Code} {n0 cells slots : Nat} {h0 : Heap} {k n : Nat} {P : Option Value → Heap → List Loc → Prop} {Z : State} {a0 : Array Value} (hx : p.tables.exec = Jvm.exec) (hZ : Z.Warmed39 s.vm) (hby : c.code = prog_2_method_4_code) (hret : meth.sig.returnType = some .int) (hlk : meth.locks = false) (wI : (Cond.arrayClass .int).before a0 Z = true) {a1 a5 : Addr} {p2 p3 p4 v0 v1 v2 v3 v4 : Int32} {nn : Nat} {ps : List (Int32 × Int32)} (F : IA Z h0 a1 .int [(.int v0), (.int v1), (.int v2), (.int v3), (.int v4)]) (Pq : Pr Z h0 a5 nn ps) (hlen : ps.length + (psR5 p2 p3 p4 v0 v1 v2 v3 v4).length = nn) {cnt : Int32} (hcnt : ¬ cnt < 0 ∧ cnt.toNatClampNeg = ps.length) (hbd : nn ≤ 5) (ga : n0 ≤ a5) (hne : a1 ≠ a5) (Z0 : n0 ≤ h0.size) (hcl : cells + 0 ≤ R.cells) (hsl : slots + 0 ≤ R.slots) (hkk : R.cells ≤ k) (hnn : R.slots ≤ n) (T0 : State) (s7 s8 s9 : Slot) (hs7 : s7 = .unset ∨ ∃ w, s7 = .val w ∧ w.category = 1) (hs8 : s8 = .unset ∨ ∃ w, s8 = .val w ∧ w.category = 1) (hs9 : s9 = .unset ∨ ∃ w, s9 = .val w ∧ w.category = 1) (X0 : Sd p l e R s m args below meth c T0 n0 cells slots h0) (hP : ∀ h L, Fr n0 L → Keep h0 h [a5] → Pr Z h a5 nn (ps ++ psR5 p2 p3 p4 v0 v1 v2 v3 v4) → P (some (.int (gR5 cnt p2 p3 p4 v0 v1 v2 v3 v4))) h L) : Rt p e below s k n P (T0.setTop (mkF m 6 #[.val (.ref a1), .val (.int p2), .val (.int p3), .val (.int p4), .val (.ref a5), .val (.int cnt), .val (.int (5 : Int32)), s7, s8, s9] [])) := by
  have K0 := Keep.refl h0 [a5]
  have hlt5 : a5 < h0.size := by obtain ⟨_, A, -⟩ := Pq; exact A.ia.lt
  refine Rt.iload (pc' := 8) X0 hx (hb hby d4_6) rfl rfl ?_
  refine Rt.aloadN (pc' := 9) X0 hx (hb hby d4_8) rfl rfl rfl ?_
  refine Rt.arraylength (pc' := 10) X0 hx hZ F (v := (5 : Int32)) rfl (hb hby d4_9) rfl ?_
  refine Rt.icmpY (pc' := 121) X0 hx (hb hby d4_10) (flt (by decide : ¬ ((5 : Int32) < (5 : Int32)))).2.1 (by decide) (by decide) ?_
  refine Rt.iload (pc' := 123) X0 hx (hb hby d4_121) rfl rfl ?_
  exact Rt.retI X0 hx hlk hret (hb hby d4_123) (by omega) (by omega) (fun L N => hP _ L N K0 (by rw [psR5, List.append_nil]; exact Pq))
theorem d4_91 : decode prog_2_method_4_code 91 = .ok (.aload 4, 2) := by decide +kernel
theorem d4_93 : decode prog_2_method_4_code 93 = .ok (.iload 5, 2) := by decide +kernel
theorem d4_95 : decode prog_2_method_4_code 95 = .ok (.iconst 2, 1) := by decide +kernel
theorem d4_96 : decode prog_2_method_4_code 96 = .ok (.newarray .int, 2) := by decide +kernel
theorem d4_98 : decode prog_2_method_4_code 98 = .ok (.dup, 1) := by decide +kernel
theorem d4_99 : decode prog_2_method_4_code 99 = .ok (.iconst 0, 1) := by decide +kernel
theorem d4_100 : decode prog_2_method_4_code 100 = .ok (.iload 6, 2) := by decide +kernel
theorem d4_102 : decode prog_2_method_4_code 102 = .ok (.iastore, 1) := by decide +kernel
theorem d4_103 : decode prog_2_method_4_code 103 = .ok (.dup, 1) := by decide +kernel
theorem d4_104 : decode prog_2_method_4_code 104 = .ok (.iconst 1, 1) := by decide +kernel
theorem d4_105 : decode prog_2_method_4_code 105 = .ok (.iload 7, 2) := by decide +kernel
theorem d4_107 : decode prog_2_method_4_code 107 = .ok (.iastore, 1) := by decide +kernel
theorem d4_108 : decode prog_2_method_4_code 108 = .ok (.aastore, 1) := by decide +kernel
def f4R_v109 (cnt : Int32) : Int32 := (cnt + (1 : Int32))
def gR4 (cnt p2 p3 p4 v0 v1 v2 v3 v4 : Int32) : Int32 := if p4 < v4 then (gR5 (cnt + 1) p2 p3 p4 v0 v1 v2 v3 v4) else gR5 cnt p2 p3 p4 v0 v1 v2 v3 v4
def psR4 (p2 p3 p4 v0 v1 v2 v3 v4 : Int32) : List (Int32 × Int32) := if p4 < v4 then ((4 : Int32), (4 : Int32)) :: (psR5 p2 p3 p4 v0 v1 v2 v3 v4) else psR5 p2 p3 p4 v0 v1 v2 v3 v4
set_option maxRecDepth 65536 in
theorem sgR4 {p : Program} {l : Launch} {e : Env} {R : Room} {s : State} {m : MethodId} {args : Array Value} {below : List Frame} {meth : Method} {c : Code} {n0 cells slots : Nat} {h0 : Heap} {k n : Nat} {P : Option Value → Heap → List Loc → Prop} {Z : State} {a0 : Array Value} (hx : p.tables.exec = Jvm.exec) (hZ : Z.Warmed39 s.vm) (hby : c.code = prog_2_method_4_code) (hret : meth.sig.returnType = some .int) (hlk : meth.locks = false) (wI : (Cond.arrayClass .int).before a0 Z = true) {a1 a5 : Addr} {p2 p3 p4 v0 v1 v2 v3 v4 : Int32} {nn : Nat} {ps : List (Int32 × Int32)} (F : IA Z h0 a1 .int [(.int v0), (.int v1), (.int v2), (.int v3), (.int v4)]) (Pq : Pr Z h0 a5 nn ps) (hlen : ps.length + (psR4 p2 p3 p4 v0 v1 v2 v3 v4).length = nn) {cnt : Int32} (hcnt : ¬ cnt < 0 ∧ cnt.toNatClampNeg = ps.length) (hbd : nn ≤ 5) (ga : n0 ≤ a5) (hne : a1 ≠ a5) (Z0 : n0 ≤ h0.size) (hcl : cells + 1 ≤ R.cells) (hsl : slots + 2 ≤ R.slots) (hkk : R.cells ≤ k) (hnn : R.slots ≤ n) (T0 : State) (s7 s8 s9 : Slot) (hs7 : s7 = .unset ∨ ∃ w, s7 = .val w ∧ w.category = 1) (hs8 : s8 = .unset ∨ ∃ w, s8 = .val w ∧ w.category = 1) (hs9 : s9 = .unset ∨ ∃ w, s9 = .val w ∧ w.category = 1) (X0 : Sd p l e R s m args below meth c T0 n0 cells slots h0) (hP : ∀ h L, Fr n0 L → Keep h0 h [a5] → Pr Z h a5 nn (ps ++ psR4 p2 p3 p4 v0 v1 v2 v3 v4) → P (some (.int (gR4 cnt p2 p3 p4 v0 v1 v2 v3 v4))) h L) : Rt p e below s k n P (T0.setTop (mkF m 6 #[.val (.ref a1), .val (.int p2), .val (.int p3), .val (.int p4), .val (.ref a5), .val (.int cnt), .val (.int (4 : Int32)), s7, s8, s9] [])) := by
  have K0 := Keep.refl h0 [a5]
  have hlt5 : a5 < h0.size := by obtain ⟨_, A, -⟩ := Pq; exact A.ia.lt
  refine Rt.iload (pc' := 8) X0 hx (hb hby d4_6) rfl rfl ?_
  refine Rt.aloadN (pc' := 9) X0 hx (hb hby d4_8) rfl rfl rfl ?_
  refine Rt.arraylength (pc' := 10) X0 hx hZ F (v := (5 : Int32)) rfl (hb hby d4_9) rfl ?_
  refine Rt.icmpN (pc' := 13) X0 hx (hb hby d4_10) (tlt (by decide : (4 : Int32) < (5 : Int32))).2.1 rfl ?_
  refine Rt.aloadN (pc' := 14) X0 hx (hb hby d4_13) rfl rfl rfl ?_
  refine Rt.iload (pc' := 16) X0 hx (hb hby d4_14) rfl rfl ?_
  refine Rt.iaload (pc' := 17) X0 hx hZ F (i := 4) (by decide) (by decide) (v := (.int v4)) rfl (hb hby d4_16) rfl ?_
  refine Rt.iloadN (pc' := 18) X0 hx (hb hby d4_17) rfl rfl ?_
  by_cases hk : p4 < v4
  · refine Rt.icmpY (pc' := 27) X0 hx (hb hby d4_18) (tlt hk).2.2.1 (by decide) (by decide) ?_
    refine Rt.iload (pc' := 29) X0 hx (hb hby d4_27) rfl rfl ?_
    refine Rt.istore (pc' := 31) (v := (4 : Int32)) (l' := #[.val (.ref a1), .val (.int p2), .val (.int p3), .val (.int p4), .val (.ref a5), .val (.int cnt), .val (.int (4 : Int32)), .val (.int (4 : Int32)), s8, s9]) X0 hx (hb hby d4_29) (by rw [XS.store1 (o := s7) rfl hs7 rfl]; rfl) rfl ?_
    refine Rt.iconst (pc' := 32) (v := (0 : Int32)) X0 hx (hb hby d4_31) rfl rfl ?_
    refine Rt.istore (pc' := 34) (v := (0 : Int32)) (l' := #[.val (.ref a1), .val (.int p2), .val (.int p3), .val (.int p4), .val (.ref a5), .val (.int cnt), .val (.int (4 : Int32)), .val (.int (4 : Int32)), .val (.int (0 : Int32)), s9]) X0 hx (hb hby d4_32) (by rw [XS.store1 (o := s8) rfl hs8 rfl]; rfl) rfl ?_
    refine Rt.iload (pc' := 36) X0 hx (hb hby d4_34) rfl rfl ?_
    refine Rt.iconst (pc' := 37) (v := (1 : Int32)) X0 hx (hb hby d4_36) rfl rfl ?_
    refine Rt.iadd (pc' := 38) (r := (5 : Int32)) X0 hx (hb hby d4_37) (by decide) rfl ?_
    refine Rt.istore (pc' := 40) (v := (5 : Int32)) (l' := #[.val (.ref a1), .val (.int p2), .val (.int p3), .val (.int p4), .val (.ref a5), .val (.int cnt), .val (.int (4 : Int32)), .val (.int (4 : Int32)), .val (.int (0 : Int32)), .val (.int (5 : Int32))]) X0 hx (hb hby d4_38) (by rw [XS.store1 (o := s9) rfl hs9 rfl]; rfl) rfl ?_
    refine Rt.iload (pc' := 42) X0 hx (hb hby d4_40) rfl rfl ?_
    refine Rt.aloadN (pc' := 43) X0 hx (hb hby d4_42) rfl rfl rfl ?_
    refine Rt.arraylength (pc' := 44) X0 hx hZ F (v := (5 : Int32)) rfl (hb hby d4_43) rfl ?_
    refine Rt.icmpY (pc' := 86) X0 hx (hb hby d4_44) (flt (by decide : ¬ ((5 : Int32) < (5 : Int32)))).2.1 (by decide) (by decide) ?_
    refine Rt.aload (pc' := 88) X0 hx (hb hby d4_86) rfl rfl rfl ?_
    refine Rt.ifnullN (pc' := 91) X0 hx (hb hby d4_88) rfl ?_
    refine Rt.aload (pc' := 93) X0 hx (hb hby d4_91) rfl rfl rfl ?_
    refine Rt.iload (pc' := 95) X0 hx (hb hby d4_93) rfl rfl ?_
    refine Rt.iconst (pc' := 96) (v := (2 : Int32)) X0 hx (hb hby d4_95) rfl rfl ?_
    refine Rt.newPX (pc' := 98) X0 hx hZ wI (i := 2) (by decide) (by decide) (cap := 2) (by decide) (by decide) (hb hby d4_96) (by omega) (by omega) rfl ?_
    intro T2 h2 b96 ha2 X2 E2 A2 Ex2
    have g3 : n0 ≤ b96 := by rw [ha2]; exact Z0
    have s4 : h0.size ≤ b96 := by rw [ha2]; exact K0.1
    have ne5 : a1 ≠ b96 := by rw [ha2]; exact Nat.ne_of_lt F.lt
    have nea : b96 ≠ a5 := fun q => by rw [ha2] at q; exact absurd q (Nat.ne_of_gt hlt5)
    have F6 := F.ext E2
    have K7 := K0.ext E2
    have Z8 := Nat.le_trans Z0 E2.1
    refine Rt.dup (pc' := 99) X2 hx (hb hby d4_98) rfl rfl ?_
    refine Rt.iconst (pc' := 100) (v := (0 : Int32)) X2 hx (hb hby d4_99) rfl rfl ?_
    refine Rt.iload (pc' := 102) X2 hx (hb hby d4_100) rfl rfl ?_
    refine Rt.iastore (pc' := 103) X2 hx hZ A2 (i := 0) (by decide) (by decide) (Nat.le_of_ble_eq_true rfl) (w := (.int (4 : Int32))) rfl g3 (hb hby d4_102) rfl ?_
    intro T9 h9 X9 W9 F9
    have F9 : IA Z h9 b96 .int [(.int (4 : Int32)), (.int (0 : Int32))] := F9
    have F10 := F6.other W9 ne5
    have F11 := Ex2.wr W9
    have K12 := K7.wr W9 (Or.inr s4)
    have Z13 := Nat.le_trans Z8 (Keep.of_wr W9).1
    refine Rt.dup (pc' := 104) X9 hx (hb hby d4_103) rfl rfl ?_
    refine Rt.iconst (pc' := 105) (v := (1 : Int32)) X9 hx (hb hby d4_104) rfl rfl ?_
    refine Rt.iload (pc' := 107) X9 hx (hb hby d4_105) rfl rfl ?_
    refine Rt.iastore (pc' := 108) X9 hx hZ F9 (i := 1) (by decide) (by decide) (Nat.le_of_ble_eq_true rfl) (w := (.int (4 : Int32))) rfl g3 (hb hby d4_107) rfl ?_
    intro T14 h14 X14 W14 F14
    have F14 : IA Z h14 b96 .int [(.int (4 : Int32)), (.int (4 : Int32))] := F14
    have F15 := F10.other W14 ne5
    have F16 := F11.wr W14
    have K17 := K12.wr W14 (Or.inr s4)
    have Z18 := Nat.le_trans Z13 (Keep.of_wr W14).1
    have hlt : ps.length < nn := by have q := hlen; rw [psR4, if_pos hk] at q; simp only [List.length_cons] at q; omega
    refine Rt.aastoreP (pc' := 109) X14 hx hZ (Pq.keep0 ((((Keep.refl h0 []).ext E2).wr W9 (Or.inr s4)).wr W14 (Or.inr s4))) hlt F14 F16 nea hcnt.1 hcnt.2 ga (hb hby d4_108) rfl ?_
    intro T19 h19 X19 W19 Pq19
    have F20 := F15.other W19 hne
    have K21 := K17.wr W19 (Or.inl (List.mem_of_getElem? (i := 0) rfl))
    have Z22 := Nat.le_trans Z18 (Keep.of_wr W19).1
    refine Rt.iinc (pc' := 112) (r := (f4R_v109 cnt)) (l' := #[.val (.ref a1), .val (.int p2), .val (.int p3), .val (.int p4), .val (.ref a5), .val (.int (f4R_v109 cnt)), .val (.int (4 : Int32)), .val (.int (4 : Int32)), .val (.int (0 : Int32)), .val (.int (5 : Int32))]) X19 hx (hb hby d4_109) rfl rfl rfl rfl ?_
    refine Rt.iload (pc' := 114) X19 hx (hb hby d4_112) rfl rfl ?_
    refine Rt.iconst (pc' := 115) (v := (1 : Int32)) X19 hx (hb hby d4_114) rfl rfl ?_
    refine Rt.iadd (pc' := 116) (r := (5 : Int32)) X19 hx (hb hby d4_115) (by decide) rfl ?_
    refine Rt.istore (pc' := 118) (v := (5 : Int32)) (l' := #[.val (.ref a1), .val (.int p2), .val (.int p3), .val (.int p4), .val (.ref a5), .val (.int (f4R_v109 cnt)), .val (.int (5 : Int32)), .val (.int (4 : Int32)), .val (.int (0 : Int32)), .val (.int (5 : Int32))]) X19 hx (hb hby d4_116) rfl rfl ?_
    refine Rt.goto (pc' := 6) X19 hx (hb hby d4_118) (by decide) (by decide) ?_
    exact sgR5 hx hZ hby hret hlk wI F20 Pq19 (by have q := hlen; rw [psR4, if_pos hk] at q; simp only [List.length_cons, List.length_append, List.length_nil] at q ⊢; omega) (by rw [List.length_append]; exact own_c1 hcnt (by omega)) hbd ga hne Z22 (by omega) (by omega) hkk hnn T19 _ _ _ (Or.inr ⟨_, rfl, rfl⟩) (Or.inr ⟨_, rfl, rfl⟩) (Or.inr ⟨_, rfl, rfl⟩) X19 (fun h L N K q => by have z := hP h L N (K21.trans K (allS (Or.inl (List.mem_of_getElem? (i := 0) rfl)) all0)) (by rw [psR4, if_pos hk]; rw [List.append_assoc] at q; exact q); rw [gR4, if_pos hk] at z; exact z)
  · refine Rt.icmpN (pc' := 21) X0 hx (hb hby d4_18) (flt hk).2.2.1 rfl ?_
    refine Rt.iinc (pc' := 24) (r := (5 : Int32)) (l' := #[.val (.ref a1), .val (.int p2), .val (.int p3), .val (.int p4), .val (.ref a5), .val (.int cnt), .val (.int (5 : Int32)), s7, s8, s9]) X0 hx (hb hby d4_21) rfl (by decide) rfl rfl ?_
    refine Rt.goto (pc' := 6) X0 hx (hb hby d4_24) (by decide) (by decide) ?_
    exact sgR5 hx hZ hby hret hlk wI F Pq (by have q := hlen; rw [psR4, if_neg hk] at q; exact q) hcnt hbd ga hne Z0 (by omega) (by omega) hkk hnn T0 s7 s8 s9 hs7 hs8 hs9 X0 (fun h L N K q => by have z := hP h L N K (by rw [psR4, if_neg hk]; exact q); rw [gR4, if_neg hk] at z; exact z)
def f4R_j80_l7 (p4 : Int32) (v4 : Int32) : Int32 := (if p4 < v4 then (4 : Int32) else (3 : Int32))
def f4R_j80_l8 (p4 : Int32) (v4 : Int32) : Int32 := (if p4 < v4 then (0 : Int32) else (1 : Int32))
def f4R_j86_l7 (p2 : Int32) (p3 : Int32) (p4 : Int32) (v4 : Int32) : Int32 := (if (1 : Int32) < p2 then (if p3 < (0 : Int32) then (3 : Int32) else (f4R_j80_l7 p4 v4)) else (3 : Int32))
def f4R_j86_l8 (p2 : Int32) (p3 : Int32) (p4 : Int32) (v4 : Int32) : Int32 := (if (1 : Int32) < p2 then (if p3 < (0 : Int32) then (0 : Int32) else (f4R_j80_l8 p4 v4)) else (0 : Int32))
def f4R_j86_l9 (p2 : Int32) (p3 : Int32) : Int32 := (if (1 : Int32) < p2 then (if p3 < (0 : Int32) then (4 : Int32) else (5 : Int32)) else (4 : Int32))
def f4R_w107 (p2 : Int32) (p3 : Int32) (p4 : Int32) (v4 : Int32) : Int32 := (f4R_j86_l7 p2 p3 p4 v4)
def f4R_v116 (p2 : Int32) (p3 : Int32) (p4 : Int32) (v4 : Int32) : Int32 := ((f4R_j86_l7 p2 p3 p4 v4) + (1 : Int32))
theorem own_lastR3 (p2 p3 p4 v0 v1 v2 v3 v4 : Int32) : (f4R_j86_l7 p2 p3 p4 v4) = 3 ∨ (f4R_j86_l7 p2 p3 p4 v4) = 4 := by
  show (fun x : Int32 => x = 3 ∨ x = 4) (f4R_j86_l7 p2 p3 p4 v4)
  unfold f4R_j86_l7 f4R_j80_l7
  repeat' first | refine own_ite (P := fun x : Int32 => x = 3 ∨ x = 4) ?_ ?_ | simp
def gR3 (cnt p2 p3 p4 v0 v1 v2 v3 v4 : Int32) : Int32 := if p4 < v3 then (if (f4R_j86_l7 p2 p3 p4 v4) = 3 then gR4 (cnt + 1) p2 p3 p4 v0 v1 v2 v3 v4 else (gR5 (cnt + 1) p2 p3 p4 v0 v1 v2 v3 v4)) else gR4 cnt p2 p3 p4 v0 v1 v2 v3 v4
def psR3 (p2 p3 p4 v0 v1 v2 v3 v4 : Int32) : List (Int32 × Int32) := if p4 < v3 then ((3 : Int32), (f4R_j86_l7 p2 p3 p4 v4)) :: (if (f4R_j86_l7 p2 p3 p4 v4) = 3 then psR4 p2 p3 p4 v0 v1 v2 v3 v4 else (psR5 p2 p3 p4 v0 v1 v2 v3 v4)) else psR4 p2 p3 p4 v0 v1 v2 v3 v4
set_option maxRecDepth 65536 in
theorem sgR3 {p : Program} {l : Launch} {e : Env} {R : Room} {s : State} {m : MethodId} {args : Array Value} {below : List Frame} {meth : Method} {c : Code} {n0 cells slots : Nat} {h0 : Heap} {k n : Nat} {P : Option Value → Heap → List Loc → Prop} {Z : State} {a0 : Array Value} (hx : p.tables.exec = Jvm.exec) (hZ : Z.Warmed39 s.vm) (hby : c.code = prog_2_method_4_code) (hret : meth.sig.returnType = some .int) (hlk : meth.locks = false) (wI : (Cond.arrayClass .int).before a0 Z = true) {a1 a5 : Addr} {p2 p3 p4 v0 v1 v2 v3 v4 : Int32} {nn : Nat} {ps : List (Int32 × Int32)} (F : IA Z h0 a1 .int [(.int v0), (.int v1), (.int v2), (.int v3), (.int v4)]) (Pq : Pr Z h0 a5 nn ps) (hlen : ps.length + (psR3 p2 p3 p4 v0 v1 v2 v3 v4).length = nn) {cnt : Int32} (hcnt : ¬ cnt < 0 ∧ cnt.toNatClampNeg = ps.length) (hbd : nn ≤ 5) (ga : n0 ≤ a5) (hne : a1 ≠ a5) (Z0 : n0 ≤ h0.size) (hcl : cells + 2 ≤ R.cells) (hsl : slots + 4 ≤ R.slots) (hkk : R.cells ≤ k) (hnn : R.slots ≤ n) (T0 : State) (s7 s8 s9 : Slot) (hs7 : s7 = .unset ∨ ∃ w, s7 = .val w ∧ w.category = 1) (hs8 : s8 = .unset ∨ ∃ w, s8 = .val w ∧ w.category = 1) (hs9 : s9 = .unset ∨ ∃ w, s9 = .val w ∧ w.category = 1) (X0 : Sd p l e R s m args below meth c T0 n0 cells slots h0) (hP : ∀ h L, Fr n0 L → Keep h0 h [a5] → Pr Z h a5 nn (ps ++ psR3 p2 p3 p4 v0 v1 v2 v3 v4) → P (some (.int (gR3 cnt p2 p3 p4 v0 v1 v2 v3 v4))) h L) : Rt p e below s k n P (T0.setTop (mkF m 6 #[.val (.ref a1), .val (.int p2), .val (.int p3), .val (.int p4), .val (.ref a5), .val (.int cnt), .val (.int (3 : Int32)), s7, s8, s9] [])) := by
  have K0 := Keep.refl h0 [a5]
  have hlt5 : a5 < h0.size := by obtain ⟨_, A, -⟩ := Pq; exact A.ia.lt
  refine Rt.iload (pc' := 8) X0 hx (hb hby d4_6) rfl rfl ?_
  refine Rt.aloadN (pc' := 9) X0 hx (hb hby d4_8) rfl rfl rfl ?_
  refine Rt.arraylength (pc' := 10) X0 hx hZ F (v := (5 : Int32)) rfl (hb hby d4_9) rfl ?_
  refine Rt.icmpN (pc' := 13) X0 hx (hb hby d4_10) (tlt (by decide : (3 : Int32) < (5 : Int32))).2.1 rfl ?_
  refine Rt.aloadN (pc' := 14) X0 hx (hb hby d4_13) rfl rfl rfl ?_
  refine Rt.iload (pc' := 16) X0 hx (hb hby d4_14) rfl rfl ?_
  refine Rt.iaload (pc' := 17) X0 hx hZ F (i := 3) (by decide) (by decide) (v := (.int v3)) rfl (hb hby d4_16) rfl ?_
  refine Rt.iloadN (pc' := 18) X0 hx (hb hby d4_17) rfl rfl ?_
  by_cases hk : p4 < v3
  · refine Rt.icmpY (pc' := 27) X0 hx (hb hby d4_18) (tlt hk).2.2.1 (by decide) (by decide) ?_
    refine Rt.iload (pc' := 29) X0 hx (hb hby d4_27) rfl rfl ?_
    refine Rt.istore (pc' := 31) (v := (3 : Int32)) (l' := #[.val (.ref a1), .val (.int p2), .val (.int p3), .val (.int p4), .val (.ref a5), .val (.int cnt), .val (.int (3 : Int32)), .val (.int (3 : Int32)), s8, s9]) X0 hx (hb hby d4_29) (by rw [XS.store1 (o := s7) rfl hs7 rfl]; rfl) rfl ?_
    refine Rt.iconst (pc' := 32) (v := (0 : Int32)) X0 hx (hb hby d4_31) rfl rfl ?_
    refine Rt.istore (pc' := 34) (v := (0 : Int32)) (l' := #[.val (.ref a1), .val (.int p2), .val (.int p3), .val (.int p4), .val (.ref a5), .val (.int cnt), .val (.int (3 : Int32)), .val (.int (3 : Int32)), .val (.int (0 : Int32)), s9]) X0 hx (hb hby d4_32) (by rw [XS.store1 (o := s8) rfl hs8 rfl]; rfl) rfl ?_
    refine Rt.iload (pc' := 36) X0 hx (hb hby d4_34) rfl rfl ?_
    refine Rt.iconst (pc' := 37) (v := (1 : Int32)) X0 hx (hb hby d4_36) rfl rfl ?_
    refine Rt.iadd (pc' := 38) (r := (4 : Int32)) X0 hx (hb hby d4_37) (by decide) rfl ?_
    refine Rt.istore (pc' := 40) (v := (4 : Int32)) (l' := #[.val (.ref a1), .val (.int p2), .val (.int p3), .val (.int p4), .val (.ref a5), .val (.int cnt), .val (.int (3 : Int32)), .val (.int (3 : Int32)), .val (.int (0 : Int32)), .val (.int (4 : Int32))]) X0 hx (hb hby d4_38) (by rw [XS.store1 (o := s9) rfl hs9 rfl]; rfl) rfl ?_
    refine Rt.iload (pc' := 42) X0 hx (hb hby d4_40) rfl rfl ?_
    refine Rt.aloadN (pc' := 43) X0 hx (hb hby d4_42) rfl rfl rfl ?_
    refine Rt.arraylength (pc' := 44) X0 hx hZ F (v := (5 : Int32)) rfl (hb hby d4_43) rfl ?_
    refine Rt.icmpN (pc' := 47) X0 hx (hb hby d4_44) (tlt (by decide : (4 : Int32) < (5 : Int32))).2.1 rfl ?_
    refine Rt.iload (pc' := 49) X0 hx (hb hby d4_47) rfl rfl ?_
    refine Rt.iload (pc' := 51) X0 hx (hb hby d4_49) rfl rfl ?_
    refine Rt.isub (pc' := 52) (r := (1 : Int32)) X0 hx (hb hby d4_51) (by decide) rfl ?_
    refine Rt.iloadN (pc' := 53) X0 hx (hb hby d4_52) rfl rfl ?_
    have J53_24 : ∀ T24  , Sd p l e R s m args below meth c T24 n0 cells slots h0 → Rt p e below s k n P (T24.setTop (mkF m 86 #[.val (.ref a1), .val (.int p2), .val (.int p3), .val (.int p4), .val (.ref a5), .val (.int cnt), .val (.int (3 : Int32)), .val (.int (f4R_j86_l7 p2 p3 p4 v4)), .val (.int (f4R_j86_l8 p2 p3 p4 v4)), .val (.int (f4R_j86_l9 p2 p3))] [])) := by
      intro T24   X24 
      refine Rt.aload (pc' := 88) X24 hx (hb hby d4_86) rfl rfl rfl ?_
      refine Rt.ifnullN (pc' := 91) X24 hx (hb hby d4_88) rfl ?_
      refine Rt.aload (pc' := 93) X24 hx (hb hby d4_91) rfl rfl rfl ?_
      refine Rt.iload (pc' := 95) X24 hx (hb hby d4_93) rfl rfl ?_
      refine Rt.iconst (pc' := 96) (v := (2 : Int32)) X24 hx (hb hby d4_95) rfl rfl ?_
      refine Rt.newPX (pc' := 98) X24 hx hZ wI (i := 2) (by decide) (by decide) (cap := 2) (by decide) (by decide) (hb hby d4_96) (by omega) (by omega) rfl ?_
      intro T25 h25 b96 ha25 X25 E25 A25 Ex25
      have g26 : n0 ≤ b96 := by rw [ha25]; exact Z0
      have s27 : h0.size ≤ b96 := by rw [ha25]; exact K0.1
      have ne28 : a1 ≠ b96 := by rw [ha25]; exact Nat.ne_of_lt F.lt
      have nea : b96 ≠ a5 := fun q => by rw [ha25] at q; exact absurd q (Nat.ne_of_gt hlt5)
      have F29 := F.ext E25
      have K30 := K0.ext E25
      have Z31 := Nat.le_trans Z0 E25.1
      refine Rt.dup (pc' := 99) X25 hx (hb hby d4_98) rfl rfl ?_
      refine Rt.iconst (pc' := 100) (v := (0 : Int32)) X25 hx (hb hby d4_99) rfl rfl ?_
      refine Rt.iload (pc' := 102) X25 hx (hb hby d4_100) rfl rfl ?_
      refine Rt.iastore (pc' := 103) X25 hx hZ A25 (i := 0) (by decide) (by decide) (Nat.le_of_ble_eq_true rfl) (w := (.int (3 : Int32))) rfl g26 (hb hby d4_102) rfl ?_
      intro T32 h32 X32 W32 F32
      have F32 : IA Z h32 b96 .int [(.int (3 : Int32)), (.int (0 : Int32))] := F32
      have F33 := F29.other W32 ne28
      have F34 := Ex25.wr W32
      have K35 := K30.wr W32 (Or.inr s27)
      have Z36 := Nat.le_trans Z31 (Keep.of_wr W32).1
      refine Rt.dup (pc' := 104) X32 hx (hb hby d4_103) rfl rfl ?_
      refine Rt.iconst (pc' := 105) (v := (1 : Int32)) X32 hx (hb hby d4_104) rfl rfl ?_
      refine Rt.iload (pc' := 107) X32 hx (hb hby d4_105) rfl rfl ?_
      refine Rt.iastore (pc' := 108) X32 hx hZ F32 (i := 1) (by decide) (by decide) (Nat.le_of_ble_eq_true rfl) (w := (.int (f4R_w107 p2 p3 p4 v4))) rfl g26 (hb hby d4_107) rfl ?_
      intro T37 h37 X37 W37 F37
      have F37 : IA Z h37 b96 .int [(.int (3 : Int32)), (.int (f4R_w107 p2 p3 p4 v4))] := F37
      have F38 := F33.other W37 ne28
      have F39 := F34.wr W37
      have K40 := K35.wr W37 (Or.inr s27)
      have Z41 := Nat.le_trans Z36 (Keep.of_wr W37).1
      have hlt : ps.length < nn := by have q := hlen; rw [psR3, if_pos hk] at q; simp only [List.length_cons] at q; omega
      refine Rt.aastoreP (pc' := 109) X37 hx hZ (Pq.keep0 ((((Keep.refl h0 []).ext E25).wr W32 (Or.inr s27)).wr W37 (Or.inr s27))) hlt F37 F39 nea hcnt.1 hcnt.2 ga (hb hby d4_108) rfl ?_
      intro T42 h42 X42 W42 Pq42
      have F43 := F38.other W42 hne
      have K44 := K40.wr W42 (Or.inl (List.mem_of_getElem? (i := 0) rfl))
      have Z45 := Nat.le_trans Z41 (Keep.of_wr W42).1
      refine Rt.iinc (pc' := 112) (r := (f4R_v109 cnt)) (l' := #[.val (.ref a1), .val (.int p2), .val (.int p3), .val (.int p4), .val (.ref a5), .val (.int (f4R_v109 cnt)), .val (.int (3 : Int32)), .val (.int (f4R_j86_l7 p2 p3 p4 v4)), .val (.int (f4R_j86_l8 p2 p3 p4 v4)), .val (.int (f4R_j86_l9 p2 p3))]) X42 hx (hb hby d4_109) rfl rfl rfl rfl ?_
      refine Rt.iload (pc' := 114) X42 hx (hb hby d4_112) rfl rfl ?_
      refine Rt.iconst (pc' := 115) (v := (1 : Int32)) X42 hx (hb hby d4_114) rfl rfl ?_
      refine Rt.iadd (pc' := 116) (r := ((f4R_j86_l7 p2 p3 p4 v4) + (1 : Int32))) X42 hx (hb hby d4_115) rfl rfl ?_
      refine Rt.istore (pc' := 118) (v := (f4R_v116 p2 p3 p4 v4)) (l' := #[.val (.ref a1), .val (.int p2), .val (.int p3), .val (.int p4), .val (.ref a5), .val (.int (f4R_v109 cnt)), .val (.int (f4R_v116 p2 p3 p4 v4)), .val (.int (f4R_j86_l7 p2 p3 p4 v4)), .val (.int (f4R_j86_l8 p2 p3 p4 v4)), .val (.int (f4R_j86_l9 p2 p3))]) X42 hx (hb hby d4_116) rfl rfl ?_
      refine Rt.goto (pc' := 6) X42 hx (hb hby d4_118) (by decide) (by decide) ?_
      rcases own_lastR3 p2 p3 p4 v0 v1 v2 v3 v4 with el | el
      · rw [show (f4R_v116 p2 p3 p4 v4) = (4 : Int32) from by rw [f4R_v116, el]; decide]
        exact sgR4 hx hZ hby hret hlk wI F43 Pq42 (by have q := hlen; rw [psR3, if_pos hk, if_pos el] at q; simp only [List.length_cons, List.length_append, List.length_nil] at q ⊢; omega) (by rw [List.length_append]; exact own_c1 hcnt (by omega)) hbd ga hne Z45 (by omega) (by omega) hkk hnn T42 _ _ _ (Or.inr ⟨_, rfl, rfl⟩) (Or.inr ⟨_, rfl, rfl⟩) (Or.inr ⟨_, rfl, rfl⟩) X42 (fun h L N K q => by have z := hP h L N (K44.trans K (allS (Or.inl (List.mem_of_getElem? (i := 0) rfl)) all0)) (by rw [psR3, if_pos hk, if_pos el]; rw [List.append_assoc] at q; exact q); rw [gR3, if_pos hk, if_pos el] at z; exact z)
      · rw [show (f4R_v116 p2 p3 p4 v4) = (5 : Int32) from by rw [f4R_v116, el]; decide]
        exact sgR5 hx hZ hby hret hlk wI F43 Pq42 (by have q := hlen; rw [psR3, if_pos hk, if_neg (by rw [el]; decide)] at q; simp only [List.length_cons, List.length_append, List.length_nil] at q ⊢; omega) (by rw [List.length_append]; exact own_c1 hcnt (by omega)) hbd ga hne Z45 (by omega) (by omega) hkk hnn T42 _ _ _ (Or.inr ⟨_, rfl, rfl⟩) (Or.inr ⟨_, rfl, rfl⟩) (Or.inr ⟨_, rfl, rfl⟩) X42 (fun h L N K q => by have z := hP h L N (K44.trans K (allS (Or.inl (List.mem_of_getElem? (i := 0) rfl)) all0)) (by rw [psR3, if_pos hk, if_neg (by rw [el]; decide)]; rw [List.append_assoc] at q; exact q); rw [gR3, if_pos hk, if_neg (by rw [el]; decide)] at z; exact z)
    by_cases hc53_46 : (1 : Int32) < p2
    · refine Rt.icmpN (pc' := 56) X0 hx (hb hby d4_53) (tlt hc53_46).2.1 rfl ?_
      refine Rt.iload (pc' := 58) X0 hx (hb hby d4_56) rfl rfl ?_
      refine Rt.iloadN (pc' := 59) X0 hx (hb hby d4_58) rfl rfl ?_
      by_cases hc59_47 : p3 < (0 : Int32)
      · refine Rt.icmpY (pc' := 86) X0 hx (hb hby d4_59) (tlt hc59_47).2.2.1 (by decide) (by decide) ?_
        have q := J53_24 T0   X0
        rw [show (f4R_j86_l7 p2 p3 p4 v4) = (3 : Int32) from by rw [f4R_j86_l7, if_pos hc53_46, if_pos hc59_47]] at q
        rw [show (f4R_j86_l8 p2 p3 p4 v4) = (0 : Int32) from by rw [f4R_j86_l8, if_pos hc53_46, if_pos hc59_47]] at q
        rw [show (f4R_j86_l9 p2 p3) = (4 : Int32) from by rw [f4R_j86_l9, if_pos hc53_46, if_pos hc59_47]] at q
        exact q
      · refine Rt.icmpN (pc' := 62) X0 hx (hb hby d4_59) (flt hc59_47).2.2.1 rfl ?_
        refine Rt.aloadN (pc' := 63) X0 hx (hb hby d4_62) rfl rfl rfl ?_
        refine Rt.iload (pc' := 65) X0 hx (hb hby d4_63) rfl rfl ?_
        refine Rt.iaload (pc' := 66) X0 hx hZ F (i := 4) (by decide) (by decide) (v := (.int v4)) rfl (hb hby d4_65) rfl ?_
        refine Rt.iloadN (pc' := 67) X0 hx (hb hby d4_66) rfl rfl ?_
        have J67_48 : ∀ T48  , Sd p l e R s m args below meth c T48 n0 cells slots h0 → Rt p e below s k n P (T48.setTop (mkF m 80 #[.val (.ref a1), .val (.int p2), .val (.int p3), .val (.int p4), .val (.ref a5), .val (.int cnt), .val (.int (3 : Int32)), .val (.int (f4R_j80_l7 p4 v4)), .val (.int (f4R_j80_l8 p4 v4)), .val (.int (4 : Int32))] [])) := by
          intro T48   X48 
          refine Rt.iinc (pc' := 83) (r := (5 : Int32)) (l' := #[.val (.ref a1), .val (.int p2), .val (.int p3), .val (.int p4), .val (.ref a5), .val (.int cnt), .val (.int (3 : Int32)), .val (.int (f4R_j80_l7 p4 v4)), .val (.int (f4R_j80_l8 p4 v4)), .val (.int (5 : Int32))]) X48 hx (hb hby d4_80) rfl (by decide) rfl rfl ?_
          refine Rt.goto (pc' := 40) X48 hx (hb hby d4_83) (by decide) (by decide) ?_
          refine Rt.iload (pc' := 42) X48 hx (hb hby d4_40) rfl rfl ?_
          refine Rt.aloadN (pc' := 43) X48 hx (hb hby d4_42) rfl rfl rfl ?_
          refine Rt.arraylength (pc' := 44) X48 hx hZ F (v := (5 : Int32)) rfl (hb hby d4_43) rfl ?_
          refine Rt.icmpY (pc' := 86) X48 hx (hb hby d4_44) (flt (by decide : ¬ ((5 : Int32) < (5 : Int32)))).2.1 (by decide) (by decide) ?_
          have q := J53_24 T48   X48
          rw [show (f4R_j86_l7 p2 p3 p4 v4) = (f4R_j80_l7 p4 v4) from by rw [f4R_j86_l7, if_pos hc53_46, if_neg hc59_47]] at q
          rw [show (f4R_j86_l8 p2 p3 p4 v4) = (f4R_j80_l8 p4 v4) from by rw [f4R_j86_l8, if_pos hc53_46, if_neg hc59_47]] at q
          rw [show (f4R_j86_l9 p2 p3) = (5 : Int32) from by rw [f4R_j86_l9, if_pos hc53_46, if_neg hc59_47]] at q
          exact q
        by_cases hc67_49 : p4 < v4
        · refine Rt.icmpN (pc' := 70) X0 hx (hb hby d4_67) (tlt hc67_49).2.2.2 rfl ?_
          refine Rt.iload (pc' := 72) X0 hx (hb hby d4_70) rfl rfl ?_
          refine Rt.istore (pc' := 74) (v := (4 : Int32)) (l' := #[.val (.ref a1), .val (.int p2), .val (.int p3), .val (.int p4), .val (.ref a5), .val (.int cnt), .val (.int (3 : Int32)), .val (.int (4 : Int32)), .val (.int (0 : Int32)), .val (.int (4 : Int32))]) X0 hx (hb hby d4_72) rfl rfl ?_
          refine Rt.goto (pc' := 80) X0 hx (hb hby d4_74) (by decide) (by decide) ?_
          have q := J67_48 T0   X0
          rw [show (f4R_j80_l7 p4 v4) = (4 : Int32) from by rw [f4R_j80_l7, if_pos hc67_49]] at q
          rw [show (f4R_j80_l8 p4 v4) = (0 : Int32) from by rw [f4R_j80_l8, if_pos hc67_49]] at q
          exact q
        · refine Rt.icmpY (pc' := 77) X0 hx (hb hby d4_67) (flt hc67_49).2.2.2 (by decide) (by decide) ?_
          refine Rt.iinc (pc' := 80) (r := (1 : Int32)) (l' := #[.val (.ref a1), .val (.int p2), .val (.int p3), .val (.int p4), .val (.ref a5), .val (.int cnt), .val (.int (3 : Int32)), .val (.int (3 : Int32)), .val (.int (1 : Int32)), .val (.int (4 : Int32))]) X0 hx (hb hby d4_77) rfl (by decide) rfl rfl ?_
          have q := J67_48 T0   X0
          rw [show (f4R_j80_l7 p4 v4) = (3 : Int32) from by rw [f4R_j80_l7, if_neg hc67_49]] at q
          rw [show (f4R_j80_l8 p4 v4) = (1 : Int32) from by rw [f4R_j80_l8, if_neg hc67_49]] at q
          exact q
    · refine Rt.icmpY (pc' := 86) X0 hx (hb hby d4_53) (flt hc53_46).2.1 (by decide) (by decide) ?_
      have q := J53_24 T0   X0
      rw [show (f4R_j86_l7 p2 p3 p4 v4) = (3 : Int32) from by rw [f4R_j86_l7, if_neg hc53_46]] at q
      rw [show (f4R_j86_l8 p2 p3 p4 v4) = (0 : Int32) from by rw [f4R_j86_l8, if_neg hc53_46]] at q
      rw [show (f4R_j86_l9 p2 p3) = (4 : Int32) from by rw [f4R_j86_l9, if_neg hc53_46]] at q
      exact q
  · refine Rt.icmpN (pc' := 21) X0 hx (hb hby d4_18) (flt hk).2.2.1 rfl ?_
    refine Rt.iinc (pc' := 24) (r := (4 : Int32)) (l' := #[.val (.ref a1), .val (.int p2), .val (.int p3), .val (.int p4), .val (.ref a5), .val (.int cnt), .val (.int (4 : Int32)), s7, s8, s9]) X0 hx (hb hby d4_21) rfl (by decide) rfl rfl ?_
    refine Rt.goto (pc' := 6) X0 hx (hb hby d4_24) (by decide) (by decide) ?_
    exact sgR4 hx hZ hby hret hlk wI F Pq (by have q := hlen; rw [psR3, if_neg hk] at q; exact q) hcnt hbd ga hne Z0 (by omega) (by omega) hkk hnn T0 s7 s8 s9 hs7 hs8 hs9 X0 (fun h L N K q => by have z := hP h L N K (by rw [psR3, if_neg hk]; exact q); rw [gR3, if_neg hk] at z; exact z)
def f4R_j80_l7_1 (p4 : Int32) (v3 : Int32) : Int32 := (if p4 < v3 then (3 : Int32) else (2 : Int32))
def f4R_j80_l8_1 (p4 : Int32) (v3 : Int32) : Int32 := (if p4 < v3 then (0 : Int32) else (1 : Int32))
def f4R_v77 (p4 : Int32) (v3 : Int32) : Int32 := ((f4R_j80_l8_1 p4 v3) + (1 : Int32))
def f4R_j80_l7_2 (p4 : Int32) (v3 : Int32) (v4 : Int32) : Int32 := (if p4 < v4 then (4 : Int32) else (f4R_j80_l7_1 p4 v3))
def f4R_j80_l8_2 (p4 : Int32) (v3 : Int32) (v4 : Int32) : Int32 := (if p4 < v4 then (f4R_j80_l8_1 p4 v3) else (f4R_v77 p4 v3))
def f4R_j86_l7_1 (p2 : Int32) (p3 : Int32) (p4 : Int32) (v3 : Int32) (v4 : Int32) : Int32 := (if (1 : Int32) < p2 then (if p3 < (0 : Int32) then (2 : Int32) else (if (2 : Int32) < p2 then (if p3 < (f4R_j80_l8_1 p4 v3) then (f4R_j80_l7_1 p4 v3) else (f4R_j80_l7_2 p4 v3 v4)) else (f4R_j80_l7_1 p4 v3))) else (2 : Int32))
def f4R_j86_l8_1 (p2 : Int32) (p3 : Int32) (p4 : Int32) (v3 : Int32) (v4 : Int32) : Int32 := (if (1 : Int32) < p2 then (if p3 < (0 : Int32) then (0 : Int32) else (if (2 : Int32) < p2 then (if p3 < (f4R_j80_l8_1 p4 v3) then (f4R_j80_l8_1 p4 v3) else (f4R_j80_l8_2 p4 v3 v4)) else (f4R_j80_l8_1 p4 v3))) else (0 : Int32))
def f4R_j86_l9_1 (p2 : Int32) (p3 : Int32) (p4 : Int32) (v3 : Int32) : Int32 := (if (1 : Int32) < p2 then (if p3 < (0 : Int32) then (3 : Int32) else (if (2 : Int32) < p2 then (if p3 < (f4R_j80_l8_1 p4 v3) then (4 : Int32) else (5 : Int32)) else (4 : Int32))) else (3 : Int32))
def f4R_w107_1 (p2 : Int32) (p3 : Int32) (p4 : Int32) (v3 : Int32) (v4 : Int32) : Int32 := (f4R_j86_l7_1 p2 p3 p4 v3 v4)
def f4R_v116_1 (p2 : Int32) (p3 : Int32) (p4 : Int32) (v3 : Int32) (v4 : Int32) : Int32 := ((f4R_j86_l7_1 p2 p3 p4 v3 v4) + (1 : Int32))
theorem own_lastR2 (p2 p3 p4 v0 v1 v2 v3 v4 : Int32) : (f4R_j86_l7_1 p2 p3 p4 v3 v4) = 2 ∨ (f4R_j86_l7_1 p2 p3 p4 v3 v4) = 3 ∨ (f4R_j86_l7_1 p2 p3 p4 v3 v4) = 4 := by
  show (fun x : Int32 => x = 2 ∨ x = 3 ∨ x = 4) (f4R_j86_l7_1 p2 p3 p4 v3 v4)
  unfold f4R_j86_l7_1 f4R_j80_l7_2 f4R_j80_l7_1
  repeat' first | refine own_ite (P := fun x : Int32 => x = 2 ∨ x = 3 ∨ x = 4) ?_ ?_ | simp
def gR2 (cnt p2 p3 p4 v0 v1 v2 v3 v4 : Int32) : Int32 := if p4 < v2 then (if (f4R_j86_l7_1 p2 p3 p4 v3 v4) = 2 then gR3 (cnt + 1) p2 p3 p4 v0 v1 v2 v3 v4 else (if (f4R_j86_l7_1 p2 p3 p4 v3 v4) = 3 then gR4 (cnt + 1) p2 p3 p4 v0 v1 v2 v3 v4 else (gR5 (cnt + 1) p2 p3 p4 v0 v1 v2 v3 v4))) else gR3 cnt p2 p3 p4 v0 v1 v2 v3 v4
def psR2 (p2 p3 p4 v0 v1 v2 v3 v4 : Int32) : List (Int32 × Int32) := if p4 < v2 then ((2 : Int32), (f4R_j86_l7_1 p2 p3 p4 v3 v4)) :: (if (f4R_j86_l7_1 p2 p3 p4 v3 v4) = 2 then psR3 p2 p3 p4 v0 v1 v2 v3 v4 else (if (f4R_j86_l7_1 p2 p3 p4 v3 v4) = 3 then psR4 p2 p3 p4 v0 v1 v2 v3 v4 else (psR5 p2 p3 p4 v0 v1 v2 v3 v4))) else psR3 p2 p3 p4 v0 v1 v2 v3 v4
set_option maxRecDepth 65536 in
theorem sgR2 {p : Program} {l : Launch} {e : Env} {R : Room} {s : State} {m : MethodId} {args : Array Value} {below : List Frame} {meth : Method} {c : Code} {n0 cells slots : Nat} {h0 : Heap} {k n : Nat} {P : Option Value → Heap → List Loc → Prop} {Z : State} {a0 : Array Value} (hx : p.tables.exec = Jvm.exec) (hZ : Z.Warmed39 s.vm) (hby : c.code = prog_2_method_4_code) (hret : meth.sig.returnType = some .int) (hlk : meth.locks = false) (wI : (Cond.arrayClass .int).before a0 Z = true) {a1 a5 : Addr} {p2 p3 p4 v0 v1 v2 v3 v4 : Int32} {nn : Nat} {ps : List (Int32 × Int32)} (F : IA Z h0 a1 .int [(.int v0), (.int v1), (.int v2), (.int v3), (.int v4)]) (Pq : Pr Z h0 a5 nn ps) (hlen : ps.length + (psR2 p2 p3 p4 v0 v1 v2 v3 v4).length = nn) {cnt : Int32} (hcnt : ¬ cnt < 0 ∧ cnt.toNatClampNeg = ps.length) (hbd : nn ≤ 5) (ga : n0 ≤ a5) (hne : a1 ≠ a5) (Z0 : n0 ≤ h0.size) (hcl : cells + 3 ≤ R.cells) (hsl : slots + 6 ≤ R.slots) (hkk : R.cells ≤ k) (hnn : R.slots ≤ n) (T0 : State) (s7 s8 s9 : Slot) (hs7 : s7 = .unset ∨ ∃ w, s7 = .val w ∧ w.category = 1) (hs8 : s8 = .unset ∨ ∃ w, s8 = .val w ∧ w.category = 1) (hs9 : s9 = .unset ∨ ∃ w, s9 = .val w ∧ w.category = 1) (X0 : Sd p l e R s m args below meth c T0 n0 cells slots h0) (hP : ∀ h L, Fr n0 L → Keep h0 h [a5] → Pr Z h a5 nn (ps ++ psR2 p2 p3 p4 v0 v1 v2 v3 v4) → P (some (.int (gR2 cnt p2 p3 p4 v0 v1 v2 v3 v4))) h L) : Rt p e below s k n P (T0.setTop (mkF m 6 #[.val (.ref a1), .val (.int p2), .val (.int p3), .val (.int p4), .val (.ref a5), .val (.int cnt), .val (.int (2 : Int32)), s7, s8, s9] [])) := by
  have K0 := Keep.refl h0 [a5]
  have hlt5 : a5 < h0.size := by obtain ⟨_, A, -⟩ := Pq; exact A.ia.lt
  refine Rt.iload (pc' := 8) X0 hx (hb hby d4_6) rfl rfl ?_
  refine Rt.aloadN (pc' := 9) X0 hx (hb hby d4_8) rfl rfl rfl ?_
  refine Rt.arraylength (pc' := 10) X0 hx hZ F (v := (5 : Int32)) rfl (hb hby d4_9) rfl ?_
  refine Rt.icmpN (pc' := 13) X0 hx (hb hby d4_10) (tlt (by decide : (2 : Int32) < (5 : Int32))).2.1 rfl ?_
  refine Rt.aloadN (pc' := 14) X0 hx (hb hby d4_13) rfl rfl rfl ?_
  refine Rt.iload (pc' := 16) X0 hx (hb hby d4_14) rfl rfl ?_
  refine Rt.iaload (pc' := 17) X0 hx hZ F (i := 2) (by decide) (by decide) (v := (.int v2)) rfl (hb hby d4_16) rfl ?_
  refine Rt.iloadN (pc' := 18) X0 hx (hb hby d4_17) rfl rfl ?_
  by_cases hk : p4 < v2
  · refine Rt.icmpY (pc' := 27) X0 hx (hb hby d4_18) (tlt hk).2.2.1 (by decide) (by decide) ?_
    refine Rt.iload (pc' := 29) X0 hx (hb hby d4_27) rfl rfl ?_
    refine Rt.istore (pc' := 31) (v := (2 : Int32)) (l' := #[.val (.ref a1), .val (.int p2), .val (.int p3), .val (.int p4), .val (.ref a5), .val (.int cnt), .val (.int (2 : Int32)), .val (.int (2 : Int32)), s8, s9]) X0 hx (hb hby d4_29) (by rw [XS.store1 (o := s7) rfl hs7 rfl]; rfl) rfl ?_
    refine Rt.iconst (pc' := 32) (v := (0 : Int32)) X0 hx (hb hby d4_31) rfl rfl ?_
    refine Rt.istore (pc' := 34) (v := (0 : Int32)) (l' := #[.val (.ref a1), .val (.int p2), .val (.int p3), .val (.int p4), .val (.ref a5), .val (.int cnt), .val (.int (2 : Int32)), .val (.int (2 : Int32)), .val (.int (0 : Int32)), s9]) X0 hx (hb hby d4_32) (by rw [XS.store1 (o := s8) rfl hs8 rfl]; rfl) rfl ?_
    refine Rt.iload (pc' := 36) X0 hx (hb hby d4_34) rfl rfl ?_
    refine Rt.iconst (pc' := 37) (v := (1 : Int32)) X0 hx (hb hby d4_36) rfl rfl ?_
    refine Rt.iadd (pc' := 38) (r := (3 : Int32)) X0 hx (hb hby d4_37) (by decide) rfl ?_
    refine Rt.istore (pc' := 40) (v := (3 : Int32)) (l' := #[.val (.ref a1), .val (.int p2), .val (.int p3), .val (.int p4), .val (.ref a5), .val (.int cnt), .val (.int (2 : Int32)), .val (.int (2 : Int32)), .val (.int (0 : Int32)), .val (.int (3 : Int32))]) X0 hx (hb hby d4_38) (by rw [XS.store1 (o := s9) rfl hs9 rfl]; rfl) rfl ?_
    refine Rt.iload (pc' := 42) X0 hx (hb hby d4_40) rfl rfl ?_
    refine Rt.aloadN (pc' := 43) X0 hx (hb hby d4_42) rfl rfl rfl ?_
    refine Rt.arraylength (pc' := 44) X0 hx hZ F (v := (5 : Int32)) rfl (hb hby d4_43) rfl ?_
    refine Rt.icmpN (pc' := 47) X0 hx (hb hby d4_44) (tlt (by decide : (3 : Int32) < (5 : Int32))).2.1 rfl ?_
    refine Rt.iload (pc' := 49) X0 hx (hb hby d4_47) rfl rfl ?_
    refine Rt.iload (pc' := 51) X0 hx (hb hby d4_49) rfl rfl ?_
    refine Rt.isub (pc' := 52) (r := (1 : Int32)) X0 hx (hb hby d4_51) (by decide) rfl ?_
    refine Rt.iloadN (pc' := 53) X0 hx (hb hby d4_52) rfl rfl ?_
    have J53_51 : ∀ T51  , Sd p l e R s m args below meth c T51 n0 cells slots h0 → Rt p e below s k n P (T51.setTop (mkF m 86 #[.val (.ref a1), .val (.int p2), .val (.int p3), .val (.int p4), .val (.ref a5), .val (.int cnt), .val (.int (2 : Int32)), .val (.int (f4R_j86_l7_1 p2 p3 p4 v3 v4)), .val (.int (f4R_j86_l8_1 p2 p3 p4 v3 v4)), .val (.int (f4R_j86_l9_1 p2 p3 p4 v3))] [])) := by
      intro T51   X51 
      refine Rt.aload (pc' := 88) X51 hx (hb hby d4_86) rfl rfl rfl ?_
      refine Rt.ifnullN (pc' := 91) X51 hx (hb hby d4_88) rfl ?_
      refine Rt.aload (pc' := 93) X51 hx (hb hby d4_91) rfl rfl rfl ?_
      refine Rt.iload (pc' := 95) X51 hx (hb hby d4_93) rfl rfl ?_
      refine Rt.iconst (pc' := 96) (v := (2 : Int32)) X51 hx (hb hby d4_95) rfl rfl ?_
      refine Rt.newPX (pc' := 98) X51 hx hZ wI (i := 2) (by decide) (by decide) (cap := 2) (by decide) (by decide) (hb hby d4_96) (by omega) (by omega) rfl ?_
      intro T52 h52 b96 ha52 X52 E52 A52 Ex52
      have g53 : n0 ≤ b96 := by rw [ha52]; exact Z0
      have s54 : h0.size ≤ b96 := by rw [ha52]; exact K0.1
      have ne55 : a1 ≠ b96 := by rw [ha52]; exact Nat.ne_of_lt F.lt
      have nea : b96 ≠ a5 := fun q => by rw [ha52] at q; exact absurd q (Nat.ne_of_gt hlt5)
      have F56 := F.ext E52
      have K57 := K0.ext E52
      have Z58 := Nat.le_trans Z0 E52.1
      refine Rt.dup (pc' := 99) X52 hx (hb hby d4_98) rfl rfl ?_
      refine Rt.iconst (pc' := 100) (v := (0 : Int32)) X52 hx (hb hby d4_99) rfl rfl ?_
      refine Rt.iload (pc' := 102) X52 hx (hb hby d4_100) rfl rfl ?_
      refine Rt.iastore (pc' := 103) X52 hx hZ A52 (i := 0) (by decide) (by decide) (Nat.le_of_ble_eq_true rfl) (w := (.int (2 : Int32))) rfl g53 (hb hby d4_102) rfl ?_
      intro T59 h59 X59 W59 F59
      have F59 : IA Z h59 b96 .int [(.int (2 : Int32)), (.int (0 : Int32))] := F59
      have F60 := F56.other W59 ne55
      have F61 := Ex52.wr W59
      have K62 := K57.wr W59 (Or.inr s54)
      have Z63 := Nat.le_trans Z58 (Keep.of_wr W59).1
      refine Rt.dup (pc' := 104) X59 hx (hb hby d4_103) rfl rfl ?_
      refine Rt.iconst (pc' := 105) (v := (1 : Int32)) X59 hx (hb hby d4_104) rfl rfl ?_
      refine Rt.iload (pc' := 107) X59 hx (hb hby d4_105) rfl rfl ?_
      refine Rt.iastore (pc' := 108) X59 hx hZ F59 (i := 1) (by decide) (by decide) (Nat.le_of_ble_eq_true rfl) (w := (.int (f4R_w107_1 p2 p3 p4 v3 v4))) rfl g53 (hb hby d4_107) rfl ?_
      intro T64 h64 X64 W64 F64
      have F64 : IA Z h64 b96 .int [(.int (2 : Int32)), (.int (f4R_w107_1 p2 p3 p4 v3 v4))] := F64
      have F65 := F60.other W64 ne55
      have F66 := F61.wr W64
      have K67 := K62.wr W64 (Or.inr s54)
      have Z68 := Nat.le_trans Z63 (Keep.of_wr W64).1
      have hlt : ps.length < nn := by have q := hlen; rw [psR2, if_pos hk] at q; simp only [List.length_cons] at q; omega
      refine Rt.aastoreP (pc' := 109) X64 hx hZ (Pq.keep0 ((((Keep.refl h0 []).ext E52).wr W59 (Or.inr s54)).wr W64 (Or.inr s54))) hlt F64 F66 nea hcnt.1 hcnt.2 ga (hb hby d4_108) rfl ?_
      intro T69 h69 X69 W69 Pq69
      have F70 := F65.other W69 hne
      have K71 := K67.wr W69 (Or.inl (List.mem_of_getElem? (i := 0) rfl))
      have Z72 := Nat.le_trans Z68 (Keep.of_wr W69).1
      refine Rt.iinc (pc' := 112) (r := (f4R_v109 cnt)) (l' := #[.val (.ref a1), .val (.int p2), .val (.int p3), .val (.int p4), .val (.ref a5), .val (.int (f4R_v109 cnt)), .val (.int (2 : Int32)), .val (.int (f4R_j86_l7_1 p2 p3 p4 v3 v4)), .val (.int (f4R_j86_l8_1 p2 p3 p4 v3 v4)), .val (.int (f4R_j86_l9_1 p2 p3 p4 v3))]) X69 hx (hb hby d4_109) rfl rfl rfl rfl ?_
      refine Rt.iload (pc' := 114) X69 hx (hb hby d4_112) rfl rfl ?_
      refine Rt.iconst (pc' := 115) (v := (1 : Int32)) X69 hx (hb hby d4_114) rfl rfl ?_
      refine Rt.iadd (pc' := 116) (r := ((f4R_j86_l7_1 p2 p3 p4 v3 v4) + (1 : Int32))) X69 hx (hb hby d4_115) rfl rfl ?_
      refine Rt.istore (pc' := 118) (v := (f4R_v116_1 p2 p3 p4 v3 v4)) (l' := #[.val (.ref a1), .val (.int p2), .val (.int p3), .val (.int p4), .val (.ref a5), .val (.int (f4R_v109 cnt)), .val (.int (f4R_v116_1 p2 p3 p4 v3 v4)), .val (.int (f4R_j86_l7_1 p2 p3 p4 v3 v4)), .val (.int (f4R_j86_l8_1 p2 p3 p4 v3 v4)), .val (.int (f4R_j86_l9_1 p2 p3 p4 v3))]) X69 hx (hb hby d4_116) rfl rfl ?_
      refine Rt.goto (pc' := 6) X69 hx (hb hby d4_118) (by decide) (by decide) ?_
      rcases own_lastR2 p2 p3 p4 v0 v1 v2 v3 v4 with el | el | el
      · rw [show (f4R_v116_1 p2 p3 p4 v3 v4) = (3 : Int32) from by rw [f4R_v116_1, el]; decide]
        exact sgR3 hx hZ hby hret hlk wI F70 Pq69 (by have q := hlen; rw [psR2, if_pos hk, if_pos el] at q; simp only [List.length_cons, List.length_append, List.length_nil] at q ⊢; omega) (by rw [List.length_append]; exact own_c1 hcnt (by omega)) hbd ga hne Z72 (by omega) (by omega) hkk hnn T69 _ _ _ (Or.inr ⟨_, rfl, rfl⟩) (Or.inr ⟨_, rfl, rfl⟩) (Or.inr ⟨_, rfl, rfl⟩) X69 (fun h L N K q => by have z := hP h L N (K71.trans K (allS (Or.inl (List.mem_of_getElem? (i := 0) rfl)) all0)) (by rw [psR2, if_pos hk, if_pos el]; rw [List.append_assoc] at q; exact q); rw [gR2, if_pos hk, if_pos el] at z; exact z)
      · rw [show (f4R_v116_1 p2 p3 p4 v3 v4) = (4 : Int32) from by rw [f4R_v116_1, el]; decide]
        exact sgR4 hx hZ hby hret hlk wI F70 Pq69 (by have q := hlen; rw [psR2, if_pos hk, if_neg (by rw [el]; decide), if_pos el] at q; simp only [List.length_cons, List.length_append, List.length_nil] at q ⊢; omega) (by rw [List.length_append]; exact own_c1 hcnt (by omega)) hbd ga hne Z72 (by omega) (by omega) hkk hnn T69 _ _ _ (Or.inr ⟨_, rfl, rfl⟩) (Or.inr ⟨_, rfl, rfl⟩) (Or.inr ⟨_, rfl, rfl⟩) X69 (fun h L N K q => by have z := hP h L N (K71.trans K (allS (Or.inl (List.mem_of_getElem? (i := 0) rfl)) all0)) (by rw [psR2, if_pos hk, if_neg (by rw [el]; decide), if_pos el]; rw [List.append_assoc] at q; exact q); rw [gR2, if_pos hk, if_neg (by rw [el]; decide), if_pos el] at z; exact z)
      · rw [show (f4R_v116_1 p2 p3 p4 v3 v4) = (5 : Int32) from by rw [f4R_v116_1, el]; decide]
        exact sgR5 hx hZ hby hret hlk wI F70 Pq69 (by have q := hlen; rw [psR2, if_pos hk, if_neg (by rw [el]; decide), if_neg (by rw [el]; decide)] at q; simp only [List.length_cons, List.length_append, List.length_nil] at q ⊢; omega) (by rw [List.length_append]; exact own_c1 hcnt (by omega)) hbd ga hne Z72 (by omega) (by omega) hkk hnn T69 _ _ _ (Or.inr ⟨_, rfl, rfl⟩) (Or.inr ⟨_, rfl, rfl⟩) (Or.inr ⟨_, rfl, rfl⟩) X69 (fun h L N K q => by have z := hP h L N (K71.trans K (allS (Or.inl (List.mem_of_getElem? (i := 0) rfl)) all0)) (by rw [psR2, if_pos hk, if_neg (by rw [el]; decide), if_neg (by rw [el]; decide)]; rw [List.append_assoc] at q; exact q); rw [gR2, if_pos hk, if_neg (by rw [el]; decide), if_neg (by rw [el]; decide)] at z; exact z)
    by_cases hc53_73 : (1 : Int32) < p2
    · refine Rt.icmpN (pc' := 56) X0 hx (hb hby d4_53) (tlt hc53_73).2.1 rfl ?_
      refine Rt.iload (pc' := 58) X0 hx (hb hby d4_56) rfl rfl ?_
      refine Rt.iloadN (pc' := 59) X0 hx (hb hby d4_58) rfl rfl ?_
      by_cases hc59_74 : p3 < (0 : Int32)
      · refine Rt.icmpY (pc' := 86) X0 hx (hb hby d4_59) (tlt hc59_74).2.2.1 (by decide) (by decide) ?_
        have q := J53_51 T0   X0
        rw [show (f4R_j86_l7_1 p2 p3 p4 v3 v4) = (2 : Int32) from by rw [f4R_j86_l7_1, if_pos hc53_73, if_pos hc59_74]] at q
        rw [show (f4R_j86_l8_1 p2 p3 p4 v3 v4) = (0 : Int32) from by rw [f4R_j86_l8_1, if_pos hc53_73, if_pos hc59_74]] at q
        rw [show (f4R_j86_l9_1 p2 p3 p4 v3) = (3 : Int32) from by rw [f4R_j86_l9_1, if_pos hc53_73, if_pos hc59_74]] at q
        exact q
      · refine Rt.icmpN (pc' := 62) X0 hx (hb hby d4_59) (flt hc59_74).2.2.1 rfl ?_
        refine Rt.aloadN (pc' := 63) X0 hx (hb hby d4_62) rfl rfl rfl ?_
        refine Rt.iload (pc' := 65) X0 hx (hb hby d4_63) rfl rfl ?_
        refine Rt.iaload (pc' := 66) X0 hx hZ F (i := 3) (by decide) (by decide) (v := (.int v3)) rfl (hb hby d4_65) rfl ?_
        refine Rt.iloadN (pc' := 67) X0 hx (hb hby d4_66) rfl rfl ?_
        have J67_75 : ∀ T75  , Sd p l e R s m args below meth c T75 n0 cells slots h0 → Rt p e below s k n P (T75.setTop (mkF m 80 #[.val (.ref a1), .val (.int p2), .val (.int p3), .val (.int p4), .val (.ref a5), .val (.int cnt), .val (.int (2 : Int32)), .val (.int (f4R_j80_l7_1 p4 v3)), .val (.int (f4R_j80_l8_1 p4 v3)), .val (.int (3 : Int32))] [])) := by
          intro T75   X75 
          refine Rt.iinc (pc' := 83) (r := (4 : Int32)) (l' := #[.val (.ref a1), .val (.int p2), .val (.int p3), .val (.int p4), .val (.ref a5), .val (.int cnt), .val (.int (2 : Int32)), .val (.int (f4R_j80_l7_1 p4 v3)), .val (.int (f4R_j80_l8_1 p4 v3)), .val (.int (4 : Int32))]) X75 hx (hb hby d4_80) rfl (by decide) rfl rfl ?_
          refine Rt.goto (pc' := 40) X75 hx (hb hby d4_83) (by decide) (by decide) ?_
          refine Rt.iload (pc' := 42) X75 hx (hb hby d4_40) rfl rfl ?_
          refine Rt.aloadN (pc' := 43) X75 hx (hb hby d4_42) rfl rfl rfl ?_
          refine Rt.arraylength (pc' := 44) X75 hx hZ F (v := (5 : Int32)) rfl (hb hby d4_43) rfl ?_
          refine Rt.icmpN (pc' := 47) X75 hx (hb hby d4_44) (tlt (by decide : (4 : Int32) < (5 : Int32))).2.1 rfl ?_
          refine Rt.iload (pc' := 49) X75 hx (hb hby d4_47) rfl rfl ?_
          refine Rt.iload (pc' := 51) X75 hx (hb hby d4_49) rfl rfl ?_
          refine Rt.isub (pc' := 52) (r := (2 : Int32)) X75 hx (hb hby d4_51) (by decide) rfl ?_
          refine Rt.iloadN (pc' := 53) X75 hx (hb hby d4_52) rfl rfl ?_
          by_cases hc53_76 : (2 : Int32) < p2
          · refine Rt.icmpN (pc' := 56) X75 hx (hb hby d4_53) (tlt hc53_76).2.1 rfl ?_
            refine Rt.iload (pc' := 58) X75 hx (hb hby d4_56) rfl rfl ?_
            refine Rt.iloadN (pc' := 59) X75 hx (hb hby d4_58) rfl rfl ?_
            by_cases hc59_77 : p3 < (f4R_j80_l8_1 p4 v3)
            · refine Rt.icmpY (pc' := 86) X75 hx (hb hby d4_59) (tlt hc59_77).2.2.1 (by decide) (by decide) ?_
              have q := J53_51 T75   X75
              rw [show (f4R_j86_l7_1 p2 p3 p4 v3 v4) = (f4R_j80_l7_1 p4 v3) from by rw [f4R_j86_l7_1, if_pos hc53_73, if_neg hc59_74, if_pos hc53_76, if_pos hc59_77]] at q
              rw [show (f4R_j86_l8_1 p2 p3 p4 v3 v4) = (f4R_j80_l8_1 p4 v3) from by rw [f4R_j86_l8_1, if_pos hc53_73, if_neg hc59_74, if_pos hc53_76, if_pos hc59_77]] at q
              rw [show (f4R_j86_l9_1 p2 p3 p4 v3) = (4 : Int32) from by rw [f4R_j86_l9_1, if_pos hc53_73, if_neg hc59_74, if_pos hc53_76, if_pos hc59_77]] at q
              exact q
            · refine Rt.icmpN (pc' := 62) X75 hx (hb hby d4_59) (flt hc59_77).2.2.1 rfl ?_
              refine Rt.aloadN (pc' := 63) X75 hx (hb hby d4_62) rfl rfl rfl ?_
              refine Rt.iload (pc' := 65) X75 hx (hb hby d4_63) rfl rfl ?_
              refine Rt.iaload (pc' := 66) X75 hx hZ F (i := 4) (by decide) (by decide) (v := (.int v4)) rfl (hb hby d4_65) rfl ?_
              refine Rt.iloadN (pc' := 67) X75 hx (hb hby d4_66) rfl rfl ?_
              have J67_78 : ∀ T78  , Sd p l e R s m args below meth c T78 n0 cells slots h0 → Rt p e below s k n P (T78.setTop (mkF m 80 #[.val (.ref a1), .val (.int p2), .val (.int p3), .val (.int p4), .val (.ref a5), .val (.int cnt), .val (.int (2 : Int32)), .val (.int (f4R_j80_l7_2 p4 v3 v4)), .val (.int (f4R_j80_l8_2 p4 v3 v4)), .val (.int (4 : Int32))] [])) := by
                intro T78   X78 
                refine Rt.iinc (pc' := 83) (r := (5 : Int32)) (l' := #[.val (.ref a1), .val (.int p2), .val (.int p3), .val (.int p4), .val (.ref a5), .val (.int cnt), .val (.int (2 : Int32)), .val (.int (f4R_j80_l7_2 p4 v3 v4)), .val (.int (f4R_j80_l8_2 p4 v3 v4)), .val (.int (5 : Int32))]) X78 hx (hb hby d4_80) rfl (by decide) rfl rfl ?_
                refine Rt.goto (pc' := 40) X78 hx (hb hby d4_83) (by decide) (by decide) ?_
                refine Rt.iload (pc' := 42) X78 hx (hb hby d4_40) rfl rfl ?_
                refine Rt.aloadN (pc' := 43) X78 hx (hb hby d4_42) rfl rfl rfl ?_
                refine Rt.arraylength (pc' := 44) X78 hx hZ F (v := (5 : Int32)) rfl (hb hby d4_43) rfl ?_
                refine Rt.icmpY (pc' := 86) X78 hx (hb hby d4_44) (flt (by decide : ¬ ((5 : Int32) < (5 : Int32)))).2.1 (by decide) (by decide) ?_
                have q := J53_51 T78   X78
                rw [show (f4R_j86_l7_1 p2 p3 p4 v3 v4) = (f4R_j80_l7_2 p4 v3 v4) from by rw [f4R_j86_l7_1, if_pos hc53_73, if_neg hc59_74, if_pos hc53_76, if_neg hc59_77]] at q
                rw [show (f4R_j86_l8_1 p2 p3 p4 v3 v4) = (f4R_j80_l8_2 p4 v3 v4) from by rw [f4R_j86_l8_1, if_pos hc53_73, if_neg hc59_74, if_pos hc53_76, if_neg hc59_77]] at q
                rw [show (f4R_j86_l9_1 p2 p3 p4 v3) = (5 : Int32) from by rw [f4R_j86_l9_1, if_pos hc53_73, if_neg hc59_74, if_pos hc53_76, if_neg hc59_77]] at q
                exact q
              by_cases hc67_79 : p4 < v4
              · refine Rt.icmpN (pc' := 70) X75 hx (hb hby d4_67) (tlt hc67_79).2.2.2 rfl ?_
                refine Rt.iload (pc' := 72) X75 hx (hb hby d4_70) rfl rfl ?_
                refine Rt.istore (pc' := 74) (v := (4 : Int32)) (l' := #[.val (.ref a1), .val (.int p2), .val (.int p3), .val (.int p4), .val (.ref a5), .val (.int cnt), .val (.int (2 : Int32)), .val (.int (4 : Int32)), .val (.int (f4R_j80_l8_1 p4 v3)), .val (.int (4 : Int32))]) X75 hx (hb hby d4_72) rfl rfl ?_
                refine Rt.goto (pc' := 80) X75 hx (hb hby d4_74) (by decide) (by decide) ?_
                have q := J67_78 T75   X75
                rw [show (f4R_j80_l7_2 p4 v3 v4) = (4 : Int32) from by rw [f4R_j80_l7_2, if_pos hc67_79]] at q
                rw [show (f4R_j80_l8_2 p4 v3 v4) = (f4R_j80_l8_1 p4 v3) from by rw [f4R_j80_l8_2, if_pos hc67_79]] at q
                exact q
              · refine Rt.icmpY (pc' := 77) X75 hx (hb hby d4_67) (flt hc67_79).2.2.2 (by decide) (by decide) ?_
                refine Rt.iinc (pc' := 80) (r := (f4R_v77 p4 v3)) (l' := #[.val (.ref a1), .val (.int p2), .val (.int p3), .val (.int p4), .val (.ref a5), .val (.int cnt), .val (.int (2 : Int32)), .val (.int (f4R_j80_l7_1 p4 v3)), .val (.int (f4R_v77 p4 v3)), .val (.int (4 : Int32))]) X75 hx (hb hby d4_77) rfl rfl rfl rfl ?_
                have q := J67_78 T75   X75
                rw [show (f4R_j80_l7_2 p4 v3 v4) = (f4R_j80_l7_1 p4 v3) from by rw [f4R_j80_l7_2, if_neg hc67_79]] at q
                rw [show (f4R_j80_l8_2 p4 v3 v4) = (f4R_v77 p4 v3) from by rw [f4R_j80_l8_2, if_neg hc67_79]] at q
                exact q
          · refine Rt.icmpY (pc' := 86) X75 hx (hb hby d4_53) (flt hc53_76).2.1 (by decide) (by decide) ?_
            have q := J53_51 T75   X75
            rw [show (f4R_j86_l7_1 p2 p3 p4 v3 v4) = (f4R_j80_l7_1 p4 v3) from by rw [f4R_j86_l7_1, if_pos hc53_73, if_neg hc59_74, if_neg hc53_76]] at q
            rw [show (f4R_j86_l8_1 p2 p3 p4 v3 v4) = (f4R_j80_l8_1 p4 v3) from by rw [f4R_j86_l8_1, if_pos hc53_73, if_neg hc59_74, if_neg hc53_76]] at q
            rw [show (f4R_j86_l9_1 p2 p3 p4 v3) = (4 : Int32) from by rw [f4R_j86_l9_1, if_pos hc53_73, if_neg hc59_74, if_neg hc53_76]] at q
            exact q
        by_cases hc67_80 : p4 < v3
        · refine Rt.icmpN (pc' := 70) X0 hx (hb hby d4_67) (tlt hc67_80).2.2.2 rfl ?_
          refine Rt.iload (pc' := 72) X0 hx (hb hby d4_70) rfl rfl ?_
          refine Rt.istore (pc' := 74) (v := (3 : Int32)) (l' := #[.val (.ref a1), .val (.int p2), .val (.int p3), .val (.int p4), .val (.ref a5), .val (.int cnt), .val (.int (2 : Int32)), .val (.int (3 : Int32)), .val (.int (0 : Int32)), .val (.int (3 : Int32))]) X0 hx (hb hby d4_72) rfl rfl ?_
          refine Rt.goto (pc' := 80) X0 hx (hb hby d4_74) (by decide) (by decide) ?_
          have q := J67_75 T0   X0
          rw [show (f4R_j80_l7_1 p4 v3) = (3 : Int32) from by rw [f4R_j80_l7_1, if_pos hc67_80]] at q
          rw [show (f4R_j80_l8_1 p4 v3) = (0 : Int32) from by rw [f4R_j80_l8_1, if_pos hc67_80]] at q
          exact q
        · refine Rt.icmpY (pc' := 77) X0 hx (hb hby d4_67) (flt hc67_80).2.2.2 (by decide) (by decide) ?_
          refine Rt.iinc (pc' := 80) (r := (1 : Int32)) (l' := #[.val (.ref a1), .val (.int p2), .val (.int p3), .val (.int p4), .val (.ref a5), .val (.int cnt), .val (.int (2 : Int32)), .val (.int (2 : Int32)), .val (.int (1 : Int32)), .val (.int (3 : Int32))]) X0 hx (hb hby d4_77) rfl (by decide) rfl rfl ?_
          have q := J67_75 T0   X0
          rw [show (f4R_j80_l7_1 p4 v3) = (2 : Int32) from by rw [f4R_j80_l7_1, if_neg hc67_80]] at q
          rw [show (f4R_j80_l8_1 p4 v3) = (1 : Int32) from by rw [f4R_j80_l8_1, if_neg hc67_80]] at q
          exact q
    · refine Rt.icmpY (pc' := 86) X0 hx (hb hby d4_53) (flt hc53_73).2.1 (by decide) (by decide) ?_
      have q := J53_51 T0   X0
      rw [show (f4R_j86_l7_1 p2 p3 p4 v3 v4) = (2 : Int32) from by rw [f4R_j86_l7_1, if_neg hc53_73]] at q
      rw [show (f4R_j86_l8_1 p2 p3 p4 v3 v4) = (0 : Int32) from by rw [f4R_j86_l8_1, if_neg hc53_73]] at q
      rw [show (f4R_j86_l9_1 p2 p3 p4 v3) = (3 : Int32) from by rw [f4R_j86_l9_1, if_neg hc53_73]] at q
      exact q
  · refine Rt.icmpN (pc' := 21) X0 hx (hb hby d4_18) (flt hk).2.2.1 rfl ?_
    refine Rt.iinc (pc' := 24) (r := (3 : Int32)) (l' := #[.val (.ref a1), .val (.int p2), .val (.int p3), .val (.int p4), .val (.ref a5), .val (.int cnt), .val (.int (3 : Int32)), s7, s8, s9]) X0 hx (hb hby d4_21) rfl (by decide) rfl rfl ?_
    refine Rt.goto (pc' := 6) X0 hx (hb hby d4_24) (by decide) (by decide) ?_
    exact sgR3 hx hZ hby hret hlk wI F Pq (by have q := hlen; rw [psR2, if_neg hk] at q; exact q) hcnt hbd ga hne Z0 (by omega) (by omega) hkk hnn T0 s7 s8 s9 hs7 hs8 hs9 X0 (fun h L N K q => by have z := hP h L N K (by rw [psR2, if_neg hk]; exact q); rw [gR2, if_neg hk] at z; exact z)
def f4R_j80_l7_3 (p4 : Int32) (v2 : Int32) : Int32 := (if p4 < v2 then (2 : Int32) else (1 : Int32))
def f4R_j80_l8_3 (p4 : Int32) (v2 : Int32) : Int32 := (if p4 < v2 then (0 : Int32) else (1 : Int32))
def f4R_v77_1 (p4 : Int32) (v2 : Int32) : Int32 := ((f4R_j80_l8_3 p4 v2) + (1 : Int32))
def f4R_j80_l7_4 (p4 : Int32) (v2 : Int32) (v3 : Int32) : Int32 := (if p4 < v3 then (3 : Int32) else (f4R_j80_l7_3 p4 v2))
def f4R_j80_l8_4 (p4 : Int32) (v2 : Int32) (v3 : Int32) : Int32 := (if p4 < v3 then (f4R_j80_l8_3 p4 v2) else (f4R_v77_1 p4 v2))
def f4R_v77_2 (p4 : Int32) (v2 : Int32) (v3 : Int32) : Int32 := ((f4R_j80_l8_4 p4 v2 v3) + (1 : Int32))
def f4R_j80_l7_5 (p4 : Int32) (v2 : Int32) (v3 : Int32) (v4 : Int32) : Int32 := (if p4 < v4 then (4 : Int32) else (f4R_j80_l7_4 p4 v2 v3))
def f4R_j80_l8_5 (p4 : Int32) (v2 : Int32) (v3 : Int32) (v4 : Int32) : Int32 := (if p4 < v4 then (f4R_j80_l8_4 p4 v2 v3) else (f4R_v77_2 p4 v2 v3))
def f4R_j86_l7_2 (p2 : Int32) (p3 : Int32) (p4 : Int32) (v2 : Int32) (v3 : Int32) (v4 : Int32) : Int32 := (if (1 : Int32) < p2 then (if p3 < (0 : Int32) then (1 : Int32) else (if (2 : Int32) < p2 then (if p3 < (f4R_j80_l8_3 p4 v2) then (f4R_j80_l7_3 p4 v2) else (if (3 : Int32) < p2 then (if p3 < (f4R_j80_l8_4 p4 v2 v3) then (f4R_j80_l7_4 p4 v2 v3) else (f4R_j80_l7_5 p4 v2 v3 v4)) else (f4R_j80_l7_4 p4 v2 v3))) else (f4R_j80_l7_3 p4 v2))) else (1 : Int32))
def f4R_j86_l8_2 (p2 : Int32) (p3 : Int32) (p4 : Int32) (v2 : Int32) (v3 : Int32) (v4 : Int32) : Int32 := (if (1 : Int32) < p2 then (if p3 < (0 : Int32) then (0 : Int32) else (if (2 : Int32) < p2 then (if p3 < (f4R_j80_l8_3 p4 v2) then (f4R_j80_l8_3 p4 v2) else (if (3 : Int32) < p2 then (if p3 < (f4R_j80_l8_4 p4 v2 v3) then (f4R_j80_l8_4 p4 v2 v3) else (f4R_j80_l8_5 p4 v2 v3 v4)) else (f4R_j80_l8_4 p4 v2 v3))) else (f4R_j80_l8_3 p4 v2))) else (0 : Int32))
def f4R_j86_l9_2 (p2 : Int32) (p3 : Int32) (p4 : Int32) (v2 : Int32) (v3 : Int32) : Int32 := (if (1 : Int32) < p2 then (if p3 < (0 : Int32) then (2 : Int32) else (if (2 : Int32) < p2 then (if p3 < (f4R_j80_l8_3 p4 v2) then (3 : Int32) else (if (3 : Int32) < p2 then (if p3 < (f4R_j80_l8_4 p4 v2 v3) then (4 : Int32) else (5 : Int32)) else (4 : Int32))) else (3 : Int32))) else (2 : Int32))
def f4R_w107_2 (p2 : Int32) (p3 : Int32) (p4 : Int32) (v2 : Int32) (v3 : Int32) (v4 : Int32) : Int32 := (f4R_j86_l7_2 p2 p3 p4 v2 v3 v4)
def f4R_v116_2 (p2 : Int32) (p3 : Int32) (p4 : Int32) (v2 : Int32) (v3 : Int32) (v4 : Int32) : Int32 := ((f4R_j86_l7_2 p2 p3 p4 v2 v3 v4) + (1 : Int32))
theorem own_lastR1 (p2 p3 p4 v0 v1 v2 v3 v4 : Int32) : (f4R_j86_l7_2 p2 p3 p4 v2 v3 v4) = 1 ∨ (f4R_j86_l7_2 p2 p3 p4 v2 v3 v4) = 2 ∨ (f4R_j86_l7_2 p2 p3 p4 v2 v3 v4) = 3 ∨ (f4R_j86_l7_2 p2 p3 p4 v2 v3 v4) = 4 := by
  show (fun x : Int32 => x = 1 ∨ x = 2 ∨ x = 3 ∨ x = 4) (f4R_j86_l7_2 p2 p3 p4 v2 v3 v4)
  unfold f4R_j86_l7_2 f4R_j80_l7_5 f4R_j80_l7_4 f4R_j80_l7_3
  repeat' first | refine own_ite (P := fun x : Int32 => x = 1 ∨ x = 2 ∨ x = 3 ∨ x = 4) ?_ ?_ | simp
def gR1 (cnt p2 p3 p4 v0 v1 v2 v3 v4 : Int32) : Int32 := if p4 < v1 then (if (f4R_j86_l7_2 p2 p3 p4 v2 v3 v4) = 1 then gR2 (cnt + 1) p2 p3 p4 v0 v1 v2 v3 v4 else (if (f4R_j86_l7_2 p2 p3 p4 v2 v3 v4) = 2 then gR3 (cnt + 1) p2 p3 p4 v0 v1 v2 v3 v4 else (if (f4R_j86_l7_2 p2 p3 p4 v2 v3 v4) = 3 then gR4 (cnt + 1) p2 p3 p4 v0 v1 v2 v3 v4 else (gR5 (cnt + 1) p2 p3 p4 v0 v1 v2 v3 v4)))) else gR2 cnt p2 p3 p4 v0 v1 v2 v3 v4
def psR1 (p2 p3 p4 v0 v1 v2 v3 v4 : Int32) : List (Int32 × Int32) := if p4 < v1 then ((1 : Int32), (f4R_j86_l7_2 p2 p3 p4 v2 v3 v4)) :: (if (f4R_j86_l7_2 p2 p3 p4 v2 v3 v4) = 1 then psR2 p2 p3 p4 v0 v1 v2 v3 v4 else (if (f4R_j86_l7_2 p2 p3 p4 v2 v3 v4) = 2 then psR3 p2 p3 p4 v0 v1 v2 v3 v4 else (if (f4R_j86_l7_2 p2 p3 p4 v2 v3 v4) = 3 then psR4 p2 p3 p4 v0 v1 v2 v3 v4 else (psR5 p2 p3 p4 v0 v1 v2 v3 v4)))) else psR2 p2 p3 p4 v0 v1 v2 v3 v4
set_option maxRecDepth 65536 in
theorem sgR1 {p : Program} {l : Launch} {e : Env} {R : Room} {s : State} {m : MethodId} {args : Array Value} {below : List Frame} {meth : Method} {c : Code} {n0 cells slots : Nat} {h0 : Heap} {k n : Nat} {P : Option Value → Heap → List Loc → Prop} {Z : State} {a0 : Array Value} (hx : p.tables.exec = Jvm.exec) (hZ : Z.Warmed39 s.vm) (hby : c.code = prog_2_method_4_code) (hret : meth.sig.returnType = some .int) (hlk : meth.locks = false) (wI : (Cond.arrayClass .int).before a0 Z = true) {a1 a5 : Addr} {p2 p3 p4 v0 v1 v2 v3 v4 : Int32} {nn : Nat} {ps : List (Int32 × Int32)} (F : IA Z h0 a1 .int [(.int v0), (.int v1), (.int v2), (.int v3), (.int v4)]) (Pq : Pr Z h0 a5 nn ps) (hlen : ps.length + (psR1 p2 p3 p4 v0 v1 v2 v3 v4).length = nn) {cnt : Int32} (hcnt : ¬ cnt < 0 ∧ cnt.toNatClampNeg = ps.length) (hbd : nn ≤ 5) (ga : n0 ≤ a5) (hne : a1 ≠ a5) (Z0 : n0 ≤ h0.size) (hcl : cells + 4 ≤ R.cells) (hsl : slots + 8 ≤ R.slots) (hkk : R.cells ≤ k) (hnn : R.slots ≤ n) (T0 : State) (s7 s8 s9 : Slot) (hs7 : s7 = .unset ∨ ∃ w, s7 = .val w ∧ w.category = 1) (hs8 : s8 = .unset ∨ ∃ w, s8 = .val w ∧ w.category = 1) (hs9 : s9 = .unset ∨ ∃ w, s9 = .val w ∧ w.category = 1) (X0 : Sd p l e R s m args below meth c T0 n0 cells slots h0) (hP : ∀ h L, Fr n0 L → Keep h0 h [a5] → Pr Z h a5 nn (ps ++ psR1 p2 p3 p4 v0 v1 v2 v3 v4) → P (some (.int (gR1 cnt p2 p3 p4 v0 v1 v2 v3 v4))) h L) : Rt p e below s k n P (T0.setTop (mkF m 6 #[.val (.ref a1), .val (.int p2), .val (.int p3), .val (.int p4), .val (.ref a5), .val (.int cnt), .val (.int (1 : Int32)), s7, s8, s9] [])) := by
  have K0 := Keep.refl h0 [a5]
  have hlt5 : a5 < h0.size := by obtain ⟨_, A, -⟩ := Pq; exact A.ia.lt
  refine Rt.iload (pc' := 8) X0 hx (hb hby d4_6) rfl rfl ?_
  refine Rt.aloadN (pc' := 9) X0 hx (hb hby d4_8) rfl rfl rfl ?_
  refine Rt.arraylength (pc' := 10) X0 hx hZ F (v := (5 : Int32)) rfl (hb hby d4_9) rfl ?_
  refine Rt.icmpN (pc' := 13) X0 hx (hb hby d4_10) (tlt (by decide : (1 : Int32) < (5 : Int32))).2.1 rfl ?_
  refine Rt.aloadN (pc' := 14) X0 hx (hb hby d4_13) rfl rfl rfl ?_
  refine Rt.iload (pc' := 16) X0 hx (hb hby d4_14) rfl rfl ?_
  refine Rt.iaload (pc' := 17) X0 hx hZ F (i := 1) (by decide) (by decide) (v := (.int v1)) rfl (hb hby d4_16) rfl ?_
  refine Rt.iloadN (pc' := 18) X0 hx (hb hby d4_17) rfl rfl ?_
  by_cases hk : p4 < v1
  · refine Rt.icmpY (pc' := 27) X0 hx (hb hby d4_18) (tlt hk).2.2.1 (by decide) (by decide) ?_
    refine Rt.iload (pc' := 29) X0 hx (hb hby d4_27) rfl rfl ?_
    refine Rt.istore (pc' := 31) (v := (1 : Int32)) (l' := #[.val (.ref a1), .val (.int p2), .val (.int p3), .val (.int p4), .val (.ref a5), .val (.int cnt), .val (.int (1 : Int32)), .val (.int (1 : Int32)), s8, s9]) X0 hx (hb hby d4_29) (by rw [XS.store1 (o := s7) rfl hs7 rfl]; rfl) rfl ?_
    refine Rt.iconst (pc' := 32) (v := (0 : Int32)) X0 hx (hb hby d4_31) rfl rfl ?_
    refine Rt.istore (pc' := 34) (v := (0 : Int32)) (l' := #[.val (.ref a1), .val (.int p2), .val (.int p3), .val (.int p4), .val (.ref a5), .val (.int cnt), .val (.int (1 : Int32)), .val (.int (1 : Int32)), .val (.int (0 : Int32)), s9]) X0 hx (hb hby d4_32) (by rw [XS.store1 (o := s8) rfl hs8 rfl]; rfl) rfl ?_
    refine Rt.iload (pc' := 36) X0 hx (hb hby d4_34) rfl rfl ?_
    refine Rt.iconst (pc' := 37) (v := (1 : Int32)) X0 hx (hb hby d4_36) rfl rfl ?_
    refine Rt.iadd (pc' := 38) (r := (2 : Int32)) X0 hx (hb hby d4_37) (by decide) rfl ?_
    refine Rt.istore (pc' := 40) (v := (2 : Int32)) (l' := #[.val (.ref a1), .val (.int p2), .val (.int p3), .val (.int p4), .val (.ref a5), .val (.int cnt), .val (.int (1 : Int32)), .val (.int (1 : Int32)), .val (.int (0 : Int32)), .val (.int (2 : Int32))]) X0 hx (hb hby d4_38) (by rw [XS.store1 (o := s9) rfl hs9 rfl]; rfl) rfl ?_
    refine Rt.iload (pc' := 42) X0 hx (hb hby d4_40) rfl rfl ?_
    refine Rt.aloadN (pc' := 43) X0 hx (hb hby d4_42) rfl rfl rfl ?_
    refine Rt.arraylength (pc' := 44) X0 hx hZ F (v := (5 : Int32)) rfl (hb hby d4_43) rfl ?_
    refine Rt.icmpN (pc' := 47) X0 hx (hb hby d4_44) (tlt (by decide : (2 : Int32) < (5 : Int32))).2.1 rfl ?_
    refine Rt.iload (pc' := 49) X0 hx (hb hby d4_47) rfl rfl ?_
    refine Rt.iload (pc' := 51) X0 hx (hb hby d4_49) rfl rfl ?_
    refine Rt.isub (pc' := 52) (r := (1 : Int32)) X0 hx (hb hby d4_51) (by decide) rfl ?_
    refine Rt.iloadN (pc' := 53) X0 hx (hb hby d4_52) rfl rfl ?_
    have J53_82 : ∀ T82  , Sd p l e R s m args below meth c T82 n0 cells slots h0 → Rt p e below s k n P (T82.setTop (mkF m 86 #[.val (.ref a1), .val (.int p2), .val (.int p3), .val (.int p4), .val (.ref a5), .val (.int cnt), .val (.int (1 : Int32)), .val (.int (f4R_j86_l7_2 p2 p3 p4 v2 v3 v4)), .val (.int (f4R_j86_l8_2 p2 p3 p4 v2 v3 v4)), .val (.int (f4R_j86_l9_2 p2 p3 p4 v2 v3))] [])) := by
      intro T82   X82 
      refine Rt.aload (pc' := 88) X82 hx (hb hby d4_86) rfl rfl rfl ?_
      refine Rt.ifnullN (pc' := 91) X82 hx (hb hby d4_88) rfl ?_
      refine Rt.aload (pc' := 93) X82 hx (hb hby d4_91) rfl rfl rfl ?_
      refine Rt.iload (pc' := 95) X82 hx (hb hby d4_93) rfl rfl ?_
      refine Rt.iconst (pc' := 96) (v := (2 : Int32)) X82 hx (hb hby d4_95) rfl rfl ?_
      refine Rt.newPX (pc' := 98) X82 hx hZ wI (i := 2) (by decide) (by decide) (cap := 2) (by decide) (by decide) (hb hby d4_96) (by omega) (by omega) rfl ?_
      intro T83 h83 b96 ha83 X83 E83 A83 Ex83
      have g84 : n0 ≤ b96 := by rw [ha83]; exact Z0
      have s85 : h0.size ≤ b96 := by rw [ha83]; exact K0.1
      have ne86 : a1 ≠ b96 := by rw [ha83]; exact Nat.ne_of_lt F.lt
      have nea : b96 ≠ a5 := fun q => by rw [ha83] at q; exact absurd q (Nat.ne_of_gt hlt5)
      have F87 := F.ext E83
      have K88 := K0.ext E83
      have Z89 := Nat.le_trans Z0 E83.1
      refine Rt.dup (pc' := 99) X83 hx (hb hby d4_98) rfl rfl ?_
      refine Rt.iconst (pc' := 100) (v := (0 : Int32)) X83 hx (hb hby d4_99) rfl rfl ?_
      refine Rt.iload (pc' := 102) X83 hx (hb hby d4_100) rfl rfl ?_
      refine Rt.iastore (pc' := 103) X83 hx hZ A83 (i := 0) (by decide) (by decide) (Nat.le_of_ble_eq_true rfl) (w := (.int (1 : Int32))) rfl g84 (hb hby d4_102) rfl ?_
      intro T90 h90 X90 W90 F90
      have F90 : IA Z h90 b96 .int [(.int (1 : Int32)), (.int (0 : Int32))] := F90
      have F91 := F87.other W90 ne86
      have F92 := Ex83.wr W90
      have K93 := K88.wr W90 (Or.inr s85)
      have Z94 := Nat.le_trans Z89 (Keep.of_wr W90).1
      refine Rt.dup (pc' := 104) X90 hx (hb hby d4_103) rfl rfl ?_
      refine Rt.iconst (pc' := 105) (v := (1 : Int32)) X90 hx (hb hby d4_104) rfl rfl ?_
      refine Rt.iload (pc' := 107) X90 hx (hb hby d4_105) rfl rfl ?_
      refine Rt.iastore (pc' := 108) X90 hx hZ F90 (i := 1) (by decide) (by decide) (Nat.le_of_ble_eq_true rfl) (w := (.int (f4R_w107_2 p2 p3 p4 v2 v3 v4))) rfl g84 (hb hby d4_107) rfl ?_
      intro T95 h95 X95 W95 F95
      have F95 : IA Z h95 b96 .int [(.int (1 : Int32)), (.int (f4R_w107_2 p2 p3 p4 v2 v3 v4))] := F95
      have F96 := F91.other W95 ne86
      have F97 := F92.wr W95
      have K98 := K93.wr W95 (Or.inr s85)
      have Z99 := Nat.le_trans Z94 (Keep.of_wr W95).1
      have hlt : ps.length < nn := by have q := hlen; rw [psR1, if_pos hk] at q; simp only [List.length_cons] at q; omega
      refine Rt.aastoreP (pc' := 109) X95 hx hZ (Pq.keep0 ((((Keep.refl h0 []).ext E83).wr W90 (Or.inr s85)).wr W95 (Or.inr s85))) hlt F95 F97 nea hcnt.1 hcnt.2 ga (hb hby d4_108) rfl ?_
      intro T100 h100 X100 W100 Pq100
      have F101 := F96.other W100 hne
      have K102 := K98.wr W100 (Or.inl (List.mem_of_getElem? (i := 0) rfl))
      have Z103 := Nat.le_trans Z99 (Keep.of_wr W100).1
      refine Rt.iinc (pc' := 112) (r := (f4R_v109 cnt)) (l' := #[.val (.ref a1), .val (.int p2), .val (.int p3), .val (.int p4), .val (.ref a5), .val (.int (f4R_v109 cnt)), .val (.int (1 : Int32)), .val (.int (f4R_j86_l7_2 p2 p3 p4 v2 v3 v4)), .val (.int (f4R_j86_l8_2 p2 p3 p4 v2 v3 v4)), .val (.int (f4R_j86_l9_2 p2 p3 p4 v2 v3))]) X100 hx (hb hby d4_109) rfl rfl rfl rfl ?_
      refine Rt.iload (pc' := 114) X100 hx (hb hby d4_112) rfl rfl ?_
      refine Rt.iconst (pc' := 115) (v := (1 : Int32)) X100 hx (hb hby d4_114) rfl rfl ?_
      refine Rt.iadd (pc' := 116) (r := ((f4R_j86_l7_2 p2 p3 p4 v2 v3 v4) + (1 : Int32))) X100 hx (hb hby d4_115) rfl rfl ?_
      refine Rt.istore (pc' := 118) (v := (f4R_v116_2 p2 p3 p4 v2 v3 v4)) (l' := #[.val (.ref a1), .val (.int p2), .val (.int p3), .val (.int p4), .val (.ref a5), .val (.int (f4R_v109 cnt)), .val (.int (f4R_v116_2 p2 p3 p4 v2 v3 v4)), .val (.int (f4R_j86_l7_2 p2 p3 p4 v2 v3 v4)), .val (.int (f4R_j86_l8_2 p2 p3 p4 v2 v3 v4)), .val (.int (f4R_j86_l9_2 p2 p3 p4 v2 v3))]) X100 hx (hb hby d4_116) rfl rfl ?_
      refine Rt.goto (pc' := 6) X100 hx (hb hby d4_118) (by decide) (by decide) ?_
      rcases own_lastR1 p2 p3 p4 v0 v1 v2 v3 v4 with el | el | el | el
      · rw [show (f4R_v116_2 p2 p3 p4 v2 v3 v4) = (2 : Int32) from by rw [f4R_v116_2, el]; decide]
        exact sgR2 hx hZ hby hret hlk wI F101 Pq100 (by have q := hlen; rw [psR1, if_pos hk, if_pos el] at q; simp only [List.length_cons, List.length_append, List.length_nil] at q ⊢; omega) (by rw [List.length_append]; exact own_c1 hcnt (by omega)) hbd ga hne Z103 (by omega) (by omega) hkk hnn T100 _ _ _ (Or.inr ⟨_, rfl, rfl⟩) (Or.inr ⟨_, rfl, rfl⟩) (Or.inr ⟨_, rfl, rfl⟩) X100 (fun h L N K q => by have z := hP h L N (K102.trans K (allS (Or.inl (List.mem_of_getElem? (i := 0) rfl)) all0)) (by rw [psR1, if_pos hk, if_pos el]; rw [List.append_assoc] at q; exact q); rw [gR1, if_pos hk, if_pos el] at z; exact z)
      · rw [show (f4R_v116_2 p2 p3 p4 v2 v3 v4) = (3 : Int32) from by rw [f4R_v116_2, el]; decide]
        exact sgR3 hx hZ hby hret hlk wI F101 Pq100 (by have q := hlen; rw [psR1, if_pos hk, if_neg (by rw [el]; decide), if_pos el] at q; simp only [List.length_cons, List.length_append, List.length_nil] at q ⊢; omega) (by rw [List.length_append]; exact own_c1 hcnt (by omega)) hbd ga hne Z103 (by omega) (by omega) hkk hnn T100 _ _ _ (Or.inr ⟨_, rfl, rfl⟩) (Or.inr ⟨_, rfl, rfl⟩) (Or.inr ⟨_, rfl, rfl⟩) X100 (fun h L N K q => by have z := hP h L N (K102.trans K (allS (Or.inl (List.mem_of_getElem? (i := 0) rfl)) all0)) (by rw [psR1, if_pos hk, if_neg (by rw [el]; decide), if_pos el]; rw [List.append_assoc] at q; exact q); rw [gR1, if_pos hk, if_neg (by rw [el]; decide), if_pos el] at z; exact z)
      · rw [show (f4R_v116_2 p2 p3 p4 v2 v3 v4) = (4 : Int32) from by rw [f4R_v116_2, el]; decide]
        exact sgR4 hx hZ hby hret hlk wI F101 Pq100 (by have q := hlen; rw [psR1, if_pos hk, if_neg (by rw [el]; decide), if_neg (by rw [el]; decide), if_pos el] at q; simp only [List.length_cons, List.length_append, List.length_nil] at q ⊢; omega) (by rw [List.length_append]; exact own_c1 hcnt (by omega)) hbd ga hne Z103 (by omega) (by omega) hkk hnn T100 _ _ _ (Or.inr ⟨_, rfl, rfl⟩) (Or.inr ⟨_, rfl, rfl⟩) (Or.inr ⟨_, rfl, rfl⟩) X100 (fun h L N K q => by have z := hP h L N (K102.trans K (allS (Or.inl (List.mem_of_getElem? (i := 0) rfl)) all0)) (by rw [psR1, if_pos hk, if_neg (by rw [el]; decide), if_neg (by rw [el]; decide), if_pos el]; rw [List.append_assoc] at q; exact q); rw [gR1, if_pos hk, if_neg (by rw [el]; decide), if_neg (by rw [el]; decide), if_pos el] at z; exact z)
      · rw [show (f4R_v116_2 p2 p3 p4 v2 v3 v4) = (5 : Int32) from by rw [f4R_v116_2, el]; decide]
        exact sgR5 hx hZ hby hret hlk wI F101 Pq100 (by have q := hlen; rw [psR1, if_pos hk, if_neg (by rw [el]; decide), if_neg (by rw [el]; decide), if_neg (by rw [el]; decide)] at q; simp only [List.length_cons, List.length_append, List.length_nil] at q ⊢; omega) (by rw [List.length_append]; exact own_c1 hcnt (by omega)) hbd ga hne Z103 (by omega) (by omega) hkk hnn T100 _ _ _ (Or.inr ⟨_, rfl, rfl⟩) (Or.inr ⟨_, rfl, rfl⟩) (Or.inr ⟨_, rfl, rfl⟩) X100 (fun h L N K q => by have z := hP h L N (K102.trans K (allS (Or.inl (List.mem_of_getElem? (i := 0) rfl)) all0)) (by rw [psR1, if_pos hk, if_neg (by rw [el]; decide), if_neg (by rw [el]; decide), if_neg (by rw [el]; decide)]; rw [List.append_assoc] at q; exact q); rw [gR1, if_pos hk, if_neg (by rw [el]; decide), if_neg (by rw [el]; decide), if_neg (by rw [el]; decide)] at z; exact z)
    by_cases hc53_104 : (1 : Int32) < p2
    · refine Rt.icmpN (pc' := 56) X0 hx (hb hby d4_53) (tlt hc53_104).2.1 rfl ?_
      refine Rt.iload (pc' := 58) X0 hx (hb hby d4_56) rfl rfl ?_
      refine Rt.iloadN (pc' := 59) X0 hx (hb hby d4_58) rfl rfl ?_
      by_cases hc59_105 : p3 < (0 : Int32)
      · refine Rt.icmpY (pc' := 86) X0 hx (hb hby d4_59) (tlt hc59_105).2.2.1 (by decide) (by decide) ?_
        have q := J53_82 T0   X0
        rw [show (f4R_j86_l7_2 p2 p3 p4 v2 v3 v4) = (1 : Int32) from by rw [f4R_j86_l7_2, if_pos hc53_104, if_pos hc59_105]] at q
        rw [show (f4R_j86_l8_2 p2 p3 p4 v2 v3 v4) = (0 : Int32) from by rw [f4R_j86_l8_2, if_pos hc53_104, if_pos hc59_105]] at q
        rw [show (f4R_j86_l9_2 p2 p3 p4 v2 v3) = (2 : Int32) from by rw [f4R_j86_l9_2, if_pos hc53_104, if_pos hc59_105]] at q
        exact q
      · refine Rt.icmpN (pc' := 62) X0 hx (hb hby d4_59) (flt hc59_105).2.2.1 rfl ?_
        refine Rt.aloadN (pc' := 63) X0 hx (hb hby d4_62) rfl rfl rfl ?_
        refine Rt.iload (pc' := 65) X0 hx (hb hby d4_63) rfl rfl ?_
        refine Rt.iaload (pc' := 66) X0 hx hZ F (i := 2) (by decide) (by decide) (v := (.int v2)) rfl (hb hby d4_65) rfl ?_
        refine Rt.iloadN (pc' := 67) X0 hx (hb hby d4_66) rfl rfl ?_
        have J67_106 : ∀ T106  , Sd p l e R s m args below meth c T106 n0 cells slots h0 → Rt p e below s k n P (T106.setTop (mkF m 80 #[.val (.ref a1), .val (.int p2), .val (.int p3), .val (.int p4), .val (.ref a5), .val (.int cnt), .val (.int (1 : Int32)), .val (.int (f4R_j80_l7_3 p4 v2)), .val (.int (f4R_j80_l8_3 p4 v2)), .val (.int (2 : Int32))] [])) := by
          intro T106   X106 
          refine Rt.iinc (pc' := 83) (r := (3 : Int32)) (l' := #[.val (.ref a1), .val (.int p2), .val (.int p3), .val (.int p4), .val (.ref a5), .val (.int cnt), .val (.int (1 : Int32)), .val (.int (f4R_j80_l7_3 p4 v2)), .val (.int (f4R_j80_l8_3 p4 v2)), .val (.int (3 : Int32))]) X106 hx (hb hby d4_80) rfl (by decide) rfl rfl ?_
          refine Rt.goto (pc' := 40) X106 hx (hb hby d4_83) (by decide) (by decide) ?_
          refine Rt.iload (pc' := 42) X106 hx (hb hby d4_40) rfl rfl ?_
          refine Rt.aloadN (pc' := 43) X106 hx (hb hby d4_42) rfl rfl rfl ?_
          refine Rt.arraylength (pc' := 44) X106 hx hZ F (v := (5 : Int32)) rfl (hb hby d4_43) rfl ?_
          refine Rt.icmpN (pc' := 47) X106 hx (hb hby d4_44) (tlt (by decide : (3 : Int32) < (5 : Int32))).2.1 rfl ?_
          refine Rt.iload (pc' := 49) X106 hx (hb hby d4_47) rfl rfl ?_
          refine Rt.iload (pc' := 51) X106 hx (hb hby d4_49) rfl rfl ?_
          refine Rt.isub (pc' := 52) (r := (2 : Int32)) X106 hx (hb hby d4_51) (by decide) rfl ?_
          refine Rt.iloadN (pc' := 53) X106 hx (hb hby d4_52) rfl rfl ?_
          by_cases hc53_107 : (2 : Int32) < p2
          · refine Rt.icmpN (pc' := 56) X106 hx (hb hby d4_53) (tlt hc53_107).2.1 rfl ?_
            refine Rt.iload (pc' := 58) X106 hx (hb hby d4_56) rfl rfl ?_
            refine Rt.iloadN (pc' := 59) X106 hx (hb hby d4_58) rfl rfl ?_
            by_cases hc59_108 : p3 < (f4R_j80_l8_3 p4 v2)
            · refine Rt.icmpY (pc' := 86) X106 hx (hb hby d4_59) (tlt hc59_108).2.2.1 (by decide) (by decide) ?_
              have q := J53_82 T106   X106
              rw [show (f4R_j86_l7_2 p2 p3 p4 v2 v3 v4) = (f4R_j80_l7_3 p4 v2) from by rw [f4R_j86_l7_2, if_pos hc53_104, if_neg hc59_105, if_pos hc53_107, if_pos hc59_108]] at q
              rw [show (f4R_j86_l8_2 p2 p3 p4 v2 v3 v4) = (f4R_j80_l8_3 p4 v2) from by rw [f4R_j86_l8_2, if_pos hc53_104, if_neg hc59_105, if_pos hc53_107, if_pos hc59_108]] at q
              rw [show (f4R_j86_l9_2 p2 p3 p4 v2 v3) = (3 : Int32) from by rw [f4R_j86_l9_2, if_pos hc53_104, if_neg hc59_105, if_pos hc53_107, if_pos hc59_108]] at q
              exact q
            · refine Rt.icmpN (pc' := 62) X106 hx (hb hby d4_59) (flt hc59_108).2.2.1 rfl ?_
              refine Rt.aloadN (pc' := 63) X106 hx (hb hby d4_62) rfl rfl rfl ?_
              refine Rt.iload (pc' := 65) X106 hx (hb hby d4_63) rfl rfl ?_
              refine Rt.iaload (pc' := 66) X106 hx hZ F (i := 3) (by decide) (by decide) (v := (.int v3)) rfl (hb hby d4_65) rfl ?_
              refine Rt.iloadN (pc' := 67) X106 hx (hb hby d4_66) rfl rfl ?_
              have J67_109 : ∀ T109  , Sd p l e R s m args below meth c T109 n0 cells slots h0 → Rt p e below s k n P (T109.setTop (mkF m 80 #[.val (.ref a1), .val (.int p2), .val (.int p3), .val (.int p4), .val (.ref a5), .val (.int cnt), .val (.int (1 : Int32)), .val (.int (f4R_j80_l7_4 p4 v2 v3)), .val (.int (f4R_j80_l8_4 p4 v2 v3)), .val (.int (3 : Int32))] [])) := by
                intro T109   X109 
                refine Rt.iinc (pc' := 83) (r := (4 : Int32)) (l' := #[.val (.ref a1), .val (.int p2), .val (.int p3), .val (.int p4), .val (.ref a5), .val (.int cnt), .val (.int (1 : Int32)), .val (.int (f4R_j80_l7_4 p4 v2 v3)), .val (.int (f4R_j80_l8_4 p4 v2 v3)), .val (.int (4 : Int32))]) X109 hx (hb hby d4_80) rfl (by decide) rfl rfl ?_
                refine Rt.goto (pc' := 40) X109 hx (hb hby d4_83) (by decide) (by decide) ?_
                refine Rt.iload (pc' := 42) X109 hx (hb hby d4_40) rfl rfl ?_
                refine Rt.aloadN (pc' := 43) X109 hx (hb hby d4_42) rfl rfl rfl ?_
                refine Rt.arraylength (pc' := 44) X109 hx hZ F (v := (5 : Int32)) rfl (hb hby d4_43) rfl ?_
                refine Rt.icmpN (pc' := 47) X109 hx (hb hby d4_44) (tlt (by decide : (4 : Int32) < (5 : Int32))).2.1 rfl ?_
                refine Rt.iload (pc' := 49) X109 hx (hb hby d4_47) rfl rfl ?_
                refine Rt.iload (pc' := 51) X109 hx (hb hby d4_49) rfl rfl ?_
                refine Rt.isub (pc' := 52) (r := (3 : Int32)) X109 hx (hb hby d4_51) (by decide) rfl ?_
                refine Rt.iloadN (pc' := 53) X109 hx (hb hby d4_52) rfl rfl ?_
                by_cases hc53_110 : (3 : Int32) < p2
                · refine Rt.icmpN (pc' := 56) X109 hx (hb hby d4_53) (tlt hc53_110).2.1 rfl ?_
                  refine Rt.iload (pc' := 58) X109 hx (hb hby d4_56) rfl rfl ?_
                  refine Rt.iloadN (pc' := 59) X109 hx (hb hby d4_58) rfl rfl ?_
                  by_cases hc59_111 : p3 < (f4R_j80_l8_4 p4 v2 v3)
                  · refine Rt.icmpY (pc' := 86) X109 hx (hb hby d4_59) (tlt hc59_111).2.2.1 (by decide) (by decide) ?_
                    have q := J53_82 T109   X109
                    rw [show (f4R_j86_l7_2 p2 p3 p4 v2 v3 v4) = (f4R_j80_l7_4 p4 v2 v3) from by rw [f4R_j86_l7_2, if_pos hc53_104, if_neg hc59_105, if_pos hc53_107, if_neg hc59_108, if_pos hc53_110, if_pos hc59_111]] at q
                    rw [show (f4R_j86_l8_2 p2 p3 p4 v2 v3 v4) = (f4R_j80_l8_4 p4 v2 v3) from by rw [f4R_j86_l8_2, if_pos hc53_104, if_neg hc59_105, if_pos hc53_107, if_neg hc59_108, if_pos hc53_110, if_pos hc59_111]] at q
                    rw [show (f4R_j86_l9_2 p2 p3 p4 v2 v3) = (4 : Int32) from by rw [f4R_j86_l9_2, if_pos hc53_104, if_neg hc59_105, if_pos hc53_107, if_neg hc59_108, if_pos hc53_110, if_pos hc59_111]] at q
                    exact q
                  · refine Rt.icmpN (pc' := 62) X109 hx (hb hby d4_59) (flt hc59_111).2.2.1 rfl ?_
                    refine Rt.aloadN (pc' := 63) X109 hx (hb hby d4_62) rfl rfl rfl ?_
                    refine Rt.iload (pc' := 65) X109 hx (hb hby d4_63) rfl rfl ?_
                    refine Rt.iaload (pc' := 66) X109 hx hZ F (i := 4) (by decide) (by decide) (v := (.int v4)) rfl (hb hby d4_65) rfl ?_
                    refine Rt.iloadN (pc' := 67) X109 hx (hb hby d4_66) rfl rfl ?_
                    have J67_112 : ∀ T112  , Sd p l e R s m args below meth c T112 n0 cells slots h0 → Rt p e below s k n P (T112.setTop (mkF m 80 #[.val (.ref a1), .val (.int p2), .val (.int p3), .val (.int p4), .val (.ref a5), .val (.int cnt), .val (.int (1 : Int32)), .val (.int (f4R_j80_l7_5 p4 v2 v3 v4)), .val (.int (f4R_j80_l8_5 p4 v2 v3 v4)), .val (.int (4 : Int32))] [])) := by
                      intro T112   X112 
                      refine Rt.iinc (pc' := 83) (r := (5 : Int32)) (l' := #[.val (.ref a1), .val (.int p2), .val (.int p3), .val (.int p4), .val (.ref a5), .val (.int cnt), .val (.int (1 : Int32)), .val (.int (f4R_j80_l7_5 p4 v2 v3 v4)), .val (.int (f4R_j80_l8_5 p4 v2 v3 v4)), .val (.int (5 : Int32))]) X112 hx (hb hby d4_80) rfl (by decide) rfl rfl ?_
                      refine Rt.goto (pc' := 40) X112 hx (hb hby d4_83) (by decide) (by decide) ?_
                      refine Rt.iload (pc' := 42) X112 hx (hb hby d4_40) rfl rfl ?_
                      refine Rt.aloadN (pc' := 43) X112 hx (hb hby d4_42) rfl rfl rfl ?_
                      refine Rt.arraylength (pc' := 44) X112 hx hZ F (v := (5 : Int32)) rfl (hb hby d4_43) rfl ?_
                      refine Rt.icmpY (pc' := 86) X112 hx (hb hby d4_44) (flt (by decide : ¬ ((5 : Int32) < (5 : Int32)))).2.1 (by decide) (by decide) ?_
                      have q := J53_82 T112   X112
                      rw [show (f4R_j86_l7_2 p2 p3 p4 v2 v3 v4) = (f4R_j80_l7_5 p4 v2 v3 v4) from by rw [f4R_j86_l7_2, if_pos hc53_104, if_neg hc59_105, if_pos hc53_107, if_neg hc59_108, if_pos hc53_110, if_neg hc59_111]] at q
                      rw [show (f4R_j86_l8_2 p2 p3 p4 v2 v3 v4) = (f4R_j80_l8_5 p4 v2 v3 v4) from by rw [f4R_j86_l8_2, if_pos hc53_104, if_neg hc59_105, if_pos hc53_107, if_neg hc59_108, if_pos hc53_110, if_neg hc59_111]] at q
                      rw [show (f4R_j86_l9_2 p2 p3 p4 v2 v3) = (5 : Int32) from by rw [f4R_j86_l9_2, if_pos hc53_104, if_neg hc59_105, if_pos hc53_107, if_neg hc59_108, if_pos hc53_110, if_neg hc59_111]] at q
                      exact q
                    by_cases hc67_113 : p4 < v4
                    · refine Rt.icmpN (pc' := 70) X109 hx (hb hby d4_67) (tlt hc67_113).2.2.2 rfl ?_
                      refine Rt.iload (pc' := 72) X109 hx (hb hby d4_70) rfl rfl ?_
                      refine Rt.istore (pc' := 74) (v := (4 : Int32)) (l' := #[.val (.ref a1), .val (.int p2), .val (.int p3), .val (.int p4), .val (.ref a5), .val (.int cnt), .val (.int (1 : Int32)), .val (.int (4 : Int32)), .val (.int (f4R_j80_l8_4 p4 v2 v3)), .val (.int (4 : Int32))]) X109 hx (hb hby d4_72) rfl rfl ?_
                      refine Rt.goto (pc' := 80) X109 hx (hb hby d4_74) (by decide) (by decide) ?_
                      have q := J67_112 T109   X109
                      rw [show (f4R_j80_l7_5 p4 v2 v3 v4) = (4 : Int32) from by rw [f4R_j80_l7_5, if_pos hc67_113]] at q
                      rw [show (f4R_j80_l8_5 p4 v2 v3 v4) = (f4R_j80_l8_4 p4 v2 v3) from by rw [f4R_j80_l8_5, if_pos hc67_113]] at q
                      exact q
                    · refine Rt.icmpY (pc' := 77) X109 hx (hb hby d4_67) (flt hc67_113).2.2.2 (by decide) (by decide) ?_
                      refine Rt.iinc (pc' := 80) (r := (f4R_v77_2 p4 v2 v3)) (l' := #[.val (.ref a1), .val (.int p2), .val (.int p3), .val (.int p4), .val (.ref a5), .val (.int cnt), .val (.int (1 : Int32)), .val (.int (f4R_j80_l7_4 p4 v2 v3)), .val (.int (f4R_v77_2 p4 v2 v3)), .val (.int (4 : Int32))]) X109 hx (hb hby d4_77) rfl rfl rfl rfl ?_
                      have q := J67_112 T109   X109
                      rw [show (f4R_j80_l7_5 p4 v2 v3 v4) = (f4R_j80_l7_4 p4 v2 v3) from by rw [f4R_j80_l7_5, if_neg hc67_113]] at q
                      rw [show (f4R_j80_l8_5 p4 v2 v3 v4) = (f4R_v77_2 p4 v2 v3) from by rw [f4R_j80_l8_5, if_neg hc67_113]] at q
                      exact q
                · refine Rt.icmpY (pc' := 86) X109 hx (hb hby d4_53) (flt hc53_110).2.1 (by decide) (by decide) ?_
                  have q := J53_82 T109   X109
                  rw [show (f4R_j86_l7_2 p2 p3 p4 v2 v3 v4) = (f4R_j80_l7_4 p4 v2 v3) from by rw [f4R_j86_l7_2, if_pos hc53_104, if_neg hc59_105, if_pos hc53_107, if_neg hc59_108, if_neg hc53_110]] at q
                  rw [show (f4R_j86_l8_2 p2 p3 p4 v2 v3 v4) = (f4R_j80_l8_4 p4 v2 v3) from by rw [f4R_j86_l8_2, if_pos hc53_104, if_neg hc59_105, if_pos hc53_107, if_neg hc59_108, if_neg hc53_110]] at q
                  rw [show (f4R_j86_l9_2 p2 p3 p4 v2 v3) = (4 : Int32) from by rw [f4R_j86_l9_2, if_pos hc53_104, if_neg hc59_105, if_pos hc53_107, if_neg hc59_108, if_neg hc53_110]] at q
                  exact q
              by_cases hc67_114 : p4 < v3
              · refine Rt.icmpN (pc' := 70) X106 hx (hb hby d4_67) (tlt hc67_114).2.2.2 rfl ?_
                refine Rt.iload (pc' := 72) X106 hx (hb hby d4_70) rfl rfl ?_
                refine Rt.istore (pc' := 74) (v := (3 : Int32)) (l' := #[.val (.ref a1), .val (.int p2), .val (.int p3), .val (.int p4), .val (.ref a5), .val (.int cnt), .val (.int (1 : Int32)), .val (.int (3 : Int32)), .val (.int (f4R_j80_l8_3 p4 v2)), .val (.int (3 : Int32))]) X106 hx (hb hby d4_72) rfl rfl ?_
                refine Rt.goto (pc' := 80) X106 hx (hb hby d4_74) (by decide) (by decide) ?_
                have q := J67_109 T106   X106
                rw [show (f4R_j80_l7_4 p4 v2 v3) = (3 : Int32) from by rw [f4R_j80_l7_4, if_pos hc67_114]] at q
                rw [show (f4R_j80_l8_4 p4 v2 v3) = (f4R_j80_l8_3 p4 v2) from by rw [f4R_j80_l8_4, if_pos hc67_114]] at q
                exact q
              · refine Rt.icmpY (pc' := 77) X106 hx (hb hby d4_67) (flt hc67_114).2.2.2 (by decide) (by decide) ?_
                refine Rt.iinc (pc' := 80) (r := (f4R_v77_1 p4 v2)) (l' := #[.val (.ref a1), .val (.int p2), .val (.int p3), .val (.int p4), .val (.ref a5), .val (.int cnt), .val (.int (1 : Int32)), .val (.int (f4R_j80_l7_3 p4 v2)), .val (.int (f4R_v77_1 p4 v2)), .val (.int (3 : Int32))]) X106 hx (hb hby d4_77) rfl rfl rfl rfl ?_
                have q := J67_109 T106   X106
                rw [show (f4R_j80_l7_4 p4 v2 v3) = (f4R_j80_l7_3 p4 v2) from by rw [f4R_j80_l7_4, if_neg hc67_114]] at q
                rw [show (f4R_j80_l8_4 p4 v2 v3) = (f4R_v77_1 p4 v2) from by rw [f4R_j80_l8_4, if_neg hc67_114]] at q
                exact q
          · refine Rt.icmpY (pc' := 86) X106 hx (hb hby d4_53) (flt hc53_107).2.1 (by decide) (by decide) ?_
            have q := J53_82 T106   X106
            rw [show (f4R_j86_l7_2 p2 p3 p4 v2 v3 v4) = (f4R_j80_l7_3 p4 v2) from by rw [f4R_j86_l7_2, if_pos hc53_104, if_neg hc59_105, if_neg hc53_107]] at q
            rw [show (f4R_j86_l8_2 p2 p3 p4 v2 v3 v4) = (f4R_j80_l8_3 p4 v2) from by rw [f4R_j86_l8_2, if_pos hc53_104, if_neg hc59_105, if_neg hc53_107]] at q
            rw [show (f4R_j86_l9_2 p2 p3 p4 v2 v3) = (3 : Int32) from by rw [f4R_j86_l9_2, if_pos hc53_104, if_neg hc59_105, if_neg hc53_107]] at q
            exact q
        by_cases hc67_115 : p4 < v2
        · refine Rt.icmpN (pc' := 70) X0 hx (hb hby d4_67) (tlt hc67_115).2.2.2 rfl ?_
          refine Rt.iload (pc' := 72) X0 hx (hb hby d4_70) rfl rfl ?_
          refine Rt.istore (pc' := 74) (v := (2 : Int32)) (l' := #[.val (.ref a1), .val (.int p2), .val (.int p3), .val (.int p4), .val (.ref a5), .val (.int cnt), .val (.int (1 : Int32)), .val (.int (2 : Int32)), .val (.int (0 : Int32)), .val (.int (2 : Int32))]) X0 hx (hb hby d4_72) rfl rfl ?_
          refine Rt.goto (pc' := 80) X0 hx (hb hby d4_74) (by decide) (by decide) ?_
          have q := J67_106 T0   X0
          rw [show (f4R_j80_l7_3 p4 v2) = (2 : Int32) from by rw [f4R_j80_l7_3, if_pos hc67_115]] at q
          rw [show (f4R_j80_l8_3 p4 v2) = (0 : Int32) from by rw [f4R_j80_l8_3, if_pos hc67_115]] at q
          exact q
        · refine Rt.icmpY (pc' := 77) X0 hx (hb hby d4_67) (flt hc67_115).2.2.2 (by decide) (by decide) ?_
          refine Rt.iinc (pc' := 80) (r := (1 : Int32)) (l' := #[.val (.ref a1), .val (.int p2), .val (.int p3), .val (.int p4), .val (.ref a5), .val (.int cnt), .val (.int (1 : Int32)), .val (.int (1 : Int32)), .val (.int (1 : Int32)), .val (.int (2 : Int32))]) X0 hx (hb hby d4_77) rfl (by decide) rfl rfl ?_
          have q := J67_106 T0   X0
          rw [show (f4R_j80_l7_3 p4 v2) = (1 : Int32) from by rw [f4R_j80_l7_3, if_neg hc67_115]] at q
          rw [show (f4R_j80_l8_3 p4 v2) = (1 : Int32) from by rw [f4R_j80_l8_3, if_neg hc67_115]] at q
          exact q
    · refine Rt.icmpY (pc' := 86) X0 hx (hb hby d4_53) (flt hc53_104).2.1 (by decide) (by decide) ?_
      have q := J53_82 T0   X0
      rw [show (f4R_j86_l7_2 p2 p3 p4 v2 v3 v4) = (1 : Int32) from by rw [f4R_j86_l7_2, if_neg hc53_104]] at q
      rw [show (f4R_j86_l8_2 p2 p3 p4 v2 v3 v4) = (0 : Int32) from by rw [f4R_j86_l8_2, if_neg hc53_104]] at q
      rw [show (f4R_j86_l9_2 p2 p3 p4 v2 v3) = (2 : Int32) from by rw [f4R_j86_l9_2, if_neg hc53_104]] at q
      exact q
  · refine Rt.icmpN (pc' := 21) X0 hx (hb hby d4_18) (flt hk).2.2.1 rfl ?_
    refine Rt.iinc (pc' := 24) (r := (2 : Int32)) (l' := #[.val (.ref a1), .val (.int p2), .val (.int p3), .val (.int p4), .val (.ref a5), .val (.int cnt), .val (.int (2 : Int32)), s7, s8, s9]) X0 hx (hb hby d4_21) rfl (by decide) rfl rfl ?_
    refine Rt.goto (pc' := 6) X0 hx (hb hby d4_24) (by decide) (by decide) ?_
    exact sgR2 hx hZ hby hret hlk wI F Pq (by have q := hlen; rw [psR1, if_neg hk] at q; exact q) hcnt hbd ga hne Z0 (by omega) (by omega) hkk hnn T0 s7 s8 s9 hs7 hs8 hs9 X0 (fun h L N K q => by have z := hP h L N K (by rw [psR1, if_neg hk]; exact q); rw [gR1, if_neg hk] at z; exact z)
def f4R_j80_l7_6 (p4 : Int32) (v1 : Int32) : Int32 := (if p4 < v1 then (1 : Int32) else (0 : Int32))
def f4R_j80_l8_6 (p4 : Int32) (v1 : Int32) : Int32 := (if p4 < v1 then (0 : Int32) else (1 : Int32))
def f4R_v77_3 (p4 : Int32) (v1 : Int32) : Int32 := ((f4R_j80_l8_6 p4 v1) + (1 : Int32))
def f4R_j80_l7_7 (p4 : Int32) (v1 : Int32) (v2 : Int32) : Int32 := (if p4 < v2 then (2 : Int32) else (f4R_j80_l7_6 p4 v1))
def f4R_j80_l8_7 (p4 : Int32) (v1 : Int32) (v2 : Int32) : Int32 := (if p4 < v2 then (f4R_j80_l8_6 p4 v1) else (f4R_v77_3 p4 v1))
def f4R_v77_4 (p4 : Int32) (v1 : Int32) (v2 : Int32) : Int32 := ((f4R_j80_l8_7 p4 v1 v2) + (1 : Int32))
def f4R_j80_l7_8 (p4 : Int32) (v1 : Int32) (v2 : Int32) (v3 : Int32) : Int32 := (if p4 < v3 then (3 : Int32) else (f4R_j80_l7_7 p4 v1 v2))
def f4R_j80_l8_8 (p4 : Int32) (v1 : Int32) (v2 : Int32) (v3 : Int32) : Int32 := (if p4 < v3 then (f4R_j80_l8_7 p4 v1 v2) else (f4R_v77_4 p4 v1 v2))
def f4R_v77_5 (p4 : Int32) (v1 : Int32) (v2 : Int32) (v3 : Int32) : Int32 := ((f4R_j80_l8_8 p4 v1 v2 v3) + (1 : Int32))
def f4R_j80_l7_9 (p4 : Int32) (v1 : Int32) (v2 : Int32) (v3 : Int32) (v4 : Int32) : Int32 := (if p4 < v4 then (4 : Int32) else (f4R_j80_l7_8 p4 v1 v2 v3))
def f4R_j80_l8_9 (p4 : Int32) (v1 : Int32) (v2 : Int32) (v3 : Int32) (v4 : Int32) : Int32 := (if p4 < v4 then (f4R_j80_l8_8 p4 v1 v2 v3) else (f4R_v77_5 p4 v1 v2 v3))
def f4R_j86_l7_3 (p2 : Int32) (p3 : Int32) (p4 : Int32) (v1 : Int32) (v2 : Int32) (v3 : Int32) (v4 : Int32) : Int32 := (if (1 : Int32) < p2 then (if p3 < (0 : Int32) then (0 : Int32) else (if (2 : Int32) < p2 then (if p3 < (f4R_j80_l8_6 p4 v1) then (f4R_j80_l7_6 p4 v1) else (if (3 : Int32) < p2 then (if p3 < (f4R_j80_l8_7 p4 v1 v2) then (f4R_j80_l7_7 p4 v1 v2) else (if (4 : Int32) < p2 then (if p3 < (f4R_j80_l8_8 p4 v1 v2 v3) then (f4R_j80_l7_8 p4 v1 v2 v3) else (f4R_j80_l7_9 p4 v1 v2 v3 v4)) else (f4R_j80_l7_8 p4 v1 v2 v3))) else (f4R_j80_l7_7 p4 v1 v2))) else (f4R_j80_l7_6 p4 v1))) else (0 : Int32))
def f4R_j86_l8_3 (p2 : Int32) (p3 : Int32) (p4 : Int32) (v1 : Int32) (v2 : Int32) (v3 : Int32) (v4 : Int32) : Int32 := (if (1 : Int32) < p2 then (if p3 < (0 : Int32) then (0 : Int32) else (if (2 : Int32) < p2 then (if p3 < (f4R_j80_l8_6 p4 v1) then (f4R_j80_l8_6 p4 v1) else (if (3 : Int32) < p2 then (if p3 < (f4R_j80_l8_7 p4 v1 v2) then (f4R_j80_l8_7 p4 v1 v2) else (if (4 : Int32) < p2 then (if p3 < (f4R_j80_l8_8 p4 v1 v2 v3) then (f4R_j80_l8_8 p4 v1 v2 v3) else (f4R_j80_l8_9 p4 v1 v2 v3 v4)) else (f4R_j80_l8_8 p4 v1 v2 v3))) else (f4R_j80_l8_7 p4 v1 v2))) else (f4R_j80_l8_6 p4 v1))) else (0 : Int32))
def f4R_j86_l9_3 (p2 : Int32) (p3 : Int32) (p4 : Int32) (v1 : Int32) (v2 : Int32) (v3 : Int32) : Int32 := (if (1 : Int32) < p2 then (if p3 < (0 : Int32) then (1 : Int32) else (if (2 : Int32) < p2 then (if p3 < (f4R_j80_l8_6 p4 v1) then (2 : Int32) else (if (3 : Int32) < p2 then (if p3 < (f4R_j80_l8_7 p4 v1 v2) then (3 : Int32) else (if (4 : Int32) < p2 then (if p3 < (f4R_j80_l8_8 p4 v1 v2 v3) then (4 : Int32) else (5 : Int32)) else (4 : Int32))) else (3 : Int32))) else (2 : Int32))) else (1 : Int32))
def f4R_w107_3 (p2 : Int32) (p3 : Int32) (p4 : Int32) (v1 : Int32) (v2 : Int32) (v3 : Int32) (v4 : Int32) : Int32 := (f4R_j86_l7_3 p2 p3 p4 v1 v2 v3 v4)
def f4R_v116_3 (p2 : Int32) (p3 : Int32) (p4 : Int32) (v1 : Int32) (v2 : Int32) (v3 : Int32) (v4 : Int32) : Int32 := ((f4R_j86_l7_3 p2 p3 p4 v1 v2 v3 v4) + (1 : Int32))
theorem own_lastR0 (p2 p3 p4 v0 v1 v2 v3 v4 : Int32) : (f4R_j86_l7_3 p2 p3 p4 v1 v2 v3 v4) = 0 ∨ (f4R_j86_l7_3 p2 p3 p4 v1 v2 v3 v4) = 1 ∨ (f4R_j86_l7_3 p2 p3 p4 v1 v2 v3 v4) = 2 ∨ (f4R_j86_l7_3 p2 p3 p4 v1 v2 v3 v4) = 3 ∨ (f4R_j86_l7_3 p2 p3 p4 v1 v2 v3 v4) = 4 := by
  show (fun x : Int32 => x = 0 ∨ x = 1 ∨ x = 2 ∨ x = 3 ∨ x = 4) (f4R_j86_l7_3 p2 p3 p4 v1 v2 v3 v4)
  unfold f4R_j86_l7_3 f4R_j80_l7_9 f4R_j80_l7_8 f4R_j80_l7_7 f4R_j80_l7_6
  repeat' first | refine own_ite (P := fun x : Int32 => x = 0 ∨ x = 1 ∨ x = 2 ∨ x = 3 ∨ x = 4) ?_ ?_ | simp
def gR0 (cnt p2 p3 p4 v0 v1 v2 v3 v4 : Int32) : Int32 := if p4 < v0 then (if (f4R_j86_l7_3 p2 p3 p4 v1 v2 v3 v4) = 0 then gR1 (cnt + 1) p2 p3 p4 v0 v1 v2 v3 v4 else (if (f4R_j86_l7_3 p2 p3 p4 v1 v2 v3 v4) = 1 then gR2 (cnt + 1) p2 p3 p4 v0 v1 v2 v3 v4 else (if (f4R_j86_l7_3 p2 p3 p4 v1 v2 v3 v4) = 2 then gR3 (cnt + 1) p2 p3 p4 v0 v1 v2 v3 v4 else (if (f4R_j86_l7_3 p2 p3 p4 v1 v2 v3 v4) = 3 then gR4 (cnt + 1) p2 p3 p4 v0 v1 v2 v3 v4 else (gR5 (cnt + 1) p2 p3 p4 v0 v1 v2 v3 v4))))) else gR1 cnt p2 p3 p4 v0 v1 v2 v3 v4
def psR0 (p2 p3 p4 v0 v1 v2 v3 v4 : Int32) : List (Int32 × Int32) := if p4 < v0 then ((0 : Int32), (f4R_j86_l7_3 p2 p3 p4 v1 v2 v3 v4)) :: (if (f4R_j86_l7_3 p2 p3 p4 v1 v2 v3 v4) = 0 then psR1 p2 p3 p4 v0 v1 v2 v3 v4 else (if (f4R_j86_l7_3 p2 p3 p4 v1 v2 v3 v4) = 1 then psR2 p2 p3 p4 v0 v1 v2 v3 v4 else (if (f4R_j86_l7_3 p2 p3 p4 v1 v2 v3 v4) = 2 then psR3 p2 p3 p4 v0 v1 v2 v3 v4 else (if (f4R_j86_l7_3 p2 p3 p4 v1 v2 v3 v4) = 3 then psR4 p2 p3 p4 v0 v1 v2 v3 v4 else (psR5 p2 p3 p4 v0 v1 v2 v3 v4))))) else psR1 p2 p3 p4 v0 v1 v2 v3 v4
set_option maxRecDepth 65536 in
theorem sgR0 {p : Program} {l : Launch} {e : Env} {R : Room} {s : State} {m : MethodId} {args : Array Value} {below : List Frame} {meth : Method} {c : Code} {n0 cells slots : Nat} {h0 : Heap} {k n : Nat} {P : Option Value → Heap → List Loc → Prop} {Z : State} {a0 : Array Value} (hx : p.tables.exec = Jvm.exec) (hZ : Z.Warmed39 s.vm) (hby : c.code = prog_2_method_4_code) (hret : meth.sig.returnType = some .int) (hlk : meth.locks = false) (wI : (Cond.arrayClass .int).before a0 Z = true) {a1 a5 : Addr} {p2 p3 p4 v0 v1 v2 v3 v4 : Int32} {nn : Nat} {ps : List (Int32 × Int32)} (F : IA Z h0 a1 .int [(.int v0), (.int v1), (.int v2), (.int v3), (.int v4)]) (Pq : Pr Z h0 a5 nn ps) (hlen : ps.length + (psR0 p2 p3 p4 v0 v1 v2 v3 v4).length = nn) {cnt : Int32} (hcnt : ¬ cnt < 0 ∧ cnt.toNatClampNeg = ps.length) (hbd : nn ≤ 5) (ga : n0 ≤ a5) (hne : a1 ≠ a5) (Z0 : n0 ≤ h0.size) (hcl : cells + 5 ≤ R.cells) (hsl : slots + 10 ≤ R.slots) (hkk : R.cells ≤ k) (hnn : R.slots ≤ n) (T0 : State) (s7 s8 s9 : Slot) (hs7 : s7 = .unset ∨ ∃ w, s7 = .val w ∧ w.category = 1) (hs8 : s8 = .unset ∨ ∃ w, s8 = .val w ∧ w.category = 1) (hs9 : s9 = .unset ∨ ∃ w, s9 = .val w ∧ w.category = 1) (X0 : Sd p l e R s m args below meth c T0 n0 cells slots h0) (hP : ∀ h L, Fr n0 L → Keep h0 h [a5] → Pr Z h a5 nn (ps ++ psR0 p2 p3 p4 v0 v1 v2 v3 v4) → P (some (.int (gR0 cnt p2 p3 p4 v0 v1 v2 v3 v4))) h L) : Rt p e below s k n P (T0.setTop (mkF m 6 #[.val (.ref a1), .val (.int p2), .val (.int p3), .val (.int p4), .val (.ref a5), .val (.int cnt), .val (.int (0 : Int32)), s7, s8, s9] [])) := by
  have K0 := Keep.refl h0 [a5]
  have hlt5 : a5 < h0.size := by obtain ⟨_, A, -⟩ := Pq; exact A.ia.lt
  refine Rt.iload (pc' := 8) X0 hx (hb hby d4_6) rfl rfl ?_
  refine Rt.aloadN (pc' := 9) X0 hx (hb hby d4_8) rfl rfl rfl ?_
  refine Rt.arraylength (pc' := 10) X0 hx hZ F (v := (5 : Int32)) rfl (hb hby d4_9) rfl ?_
  refine Rt.icmpN (pc' := 13) X0 hx (hb hby d4_10) (tlt (by decide : (0 : Int32) < (5 : Int32))).2.1 rfl ?_
  refine Rt.aloadN (pc' := 14) X0 hx (hb hby d4_13) rfl rfl rfl ?_
  refine Rt.iload (pc' := 16) X0 hx (hb hby d4_14) rfl rfl ?_
  refine Rt.iaload (pc' := 17) X0 hx hZ F (i := 0) (by decide) (by decide) (v := (.int v0)) rfl (hb hby d4_16) rfl ?_
  refine Rt.iloadN (pc' := 18) X0 hx (hb hby d4_17) rfl rfl ?_
  by_cases hk : p4 < v0
  · refine Rt.icmpY (pc' := 27) X0 hx (hb hby d4_18) (tlt hk).2.2.1 (by decide) (by decide) ?_
    refine Rt.iload (pc' := 29) X0 hx (hb hby d4_27) rfl rfl ?_
    refine Rt.istore (pc' := 31) (v := (0 : Int32)) (l' := #[.val (.ref a1), .val (.int p2), .val (.int p3), .val (.int p4), .val (.ref a5), .val (.int cnt), .val (.int (0 : Int32)), .val (.int (0 : Int32)), s8, s9]) X0 hx (hb hby d4_29) (by rw [XS.store1 (o := s7) rfl hs7 rfl]; rfl) rfl ?_
    refine Rt.iconst (pc' := 32) (v := (0 : Int32)) X0 hx (hb hby d4_31) rfl rfl ?_
    refine Rt.istore (pc' := 34) (v := (0 : Int32)) (l' := #[.val (.ref a1), .val (.int p2), .val (.int p3), .val (.int p4), .val (.ref a5), .val (.int cnt), .val (.int (0 : Int32)), .val (.int (0 : Int32)), .val (.int (0 : Int32)), s9]) X0 hx (hb hby d4_32) (by rw [XS.store1 (o := s8) rfl hs8 rfl]; rfl) rfl ?_
    refine Rt.iload (pc' := 36) X0 hx (hb hby d4_34) rfl rfl ?_
    refine Rt.iconst (pc' := 37) (v := (1 : Int32)) X0 hx (hb hby d4_36) rfl rfl ?_
    refine Rt.iadd (pc' := 38) (r := (1 : Int32)) X0 hx (hb hby d4_37) (by decide) rfl ?_
    refine Rt.istore (pc' := 40) (v := (1 : Int32)) (l' := #[.val (.ref a1), .val (.int p2), .val (.int p3), .val (.int p4), .val (.ref a5), .val (.int cnt), .val (.int (0 : Int32)), .val (.int (0 : Int32)), .val (.int (0 : Int32)), .val (.int (1 : Int32))]) X0 hx (hb hby d4_38) (by rw [XS.store1 (o := s9) rfl hs9 rfl]; rfl) rfl ?_
    refine Rt.iload (pc' := 42) X0 hx (hb hby d4_40) rfl rfl ?_
    refine Rt.aloadN (pc' := 43) X0 hx (hb hby d4_42) rfl rfl rfl ?_
    refine Rt.arraylength (pc' := 44) X0 hx hZ F (v := (5 : Int32)) rfl (hb hby d4_43) rfl ?_
    refine Rt.icmpN (pc' := 47) X0 hx (hb hby d4_44) (tlt (by decide : (1 : Int32) < (5 : Int32))).2.1 rfl ?_
    refine Rt.iload (pc' := 49) X0 hx (hb hby d4_47) rfl rfl ?_
    refine Rt.iload (pc' := 51) X0 hx (hb hby d4_49) rfl rfl ?_
    refine Rt.isub (pc' := 52) (r := (1 : Int32)) X0 hx (hb hby d4_51) (by decide) rfl ?_
    refine Rt.iloadN (pc' := 53) X0 hx (hb hby d4_52) rfl rfl ?_
    have J53_117 : ∀ T117  , Sd p l e R s m args below meth c T117 n0 cells slots h0 → Rt p e below s k n P (T117.setTop (mkF m 86 #[.val (.ref a1), .val (.int p2), .val (.int p3), .val (.int p4), .val (.ref a5), .val (.int cnt), .val (.int (0 : Int32)), .val (.int (f4R_j86_l7_3 p2 p3 p4 v1 v2 v3 v4)), .val (.int (f4R_j86_l8_3 p2 p3 p4 v1 v2 v3 v4)), .val (.int (f4R_j86_l9_3 p2 p3 p4 v1 v2 v3))] [])) := by
      intro T117   X117 
      refine Rt.aload (pc' := 88) X117 hx (hb hby d4_86) rfl rfl rfl ?_
      refine Rt.ifnullN (pc' := 91) X117 hx (hb hby d4_88) rfl ?_
      refine Rt.aload (pc' := 93) X117 hx (hb hby d4_91) rfl rfl rfl ?_
      refine Rt.iload (pc' := 95) X117 hx (hb hby d4_93) rfl rfl ?_
      refine Rt.iconst (pc' := 96) (v := (2 : Int32)) X117 hx (hb hby d4_95) rfl rfl ?_
      refine Rt.newPX (pc' := 98) X117 hx hZ wI (i := 2) (by decide) (by decide) (cap := 2) (by decide) (by decide) (hb hby d4_96) (by omega) (by omega) rfl ?_
      intro T118 h118 b96 ha118 X118 E118 A118 Ex118
      have g119 : n0 ≤ b96 := by rw [ha118]; exact Z0
      have s120 : h0.size ≤ b96 := by rw [ha118]; exact K0.1
      have ne121 : a1 ≠ b96 := by rw [ha118]; exact Nat.ne_of_lt F.lt
      have nea : b96 ≠ a5 := fun q => by rw [ha118] at q; exact absurd q (Nat.ne_of_gt hlt5)
      have F122 := F.ext E118
      have K123 := K0.ext E118
      have Z124 := Nat.le_trans Z0 E118.1
      refine Rt.dup (pc' := 99) X118 hx (hb hby d4_98) rfl rfl ?_
      refine Rt.iconst (pc' := 100) (v := (0 : Int32)) X118 hx (hb hby d4_99) rfl rfl ?_
      refine Rt.iload (pc' := 102) X118 hx (hb hby d4_100) rfl rfl ?_
      refine Rt.iastore (pc' := 103) X118 hx hZ A118 (i := 0) (by decide) (by decide) (Nat.le_of_ble_eq_true rfl) (w := (.int (0 : Int32))) rfl g119 (hb hby d4_102) rfl ?_
      intro T125 h125 X125 W125 F125
      have F125 : IA Z h125 b96 .int [(.int (0 : Int32)), (.int (0 : Int32))] := F125
      have F126 := F122.other W125 ne121
      have F127 := Ex118.wr W125
      have K128 := K123.wr W125 (Or.inr s120)
      have Z129 := Nat.le_trans Z124 (Keep.of_wr W125).1
      refine Rt.dup (pc' := 104) X125 hx (hb hby d4_103) rfl rfl ?_
      refine Rt.iconst (pc' := 105) (v := (1 : Int32)) X125 hx (hb hby d4_104) rfl rfl ?_
      refine Rt.iload (pc' := 107) X125 hx (hb hby d4_105) rfl rfl ?_
      refine Rt.iastore (pc' := 108) X125 hx hZ F125 (i := 1) (by decide) (by decide) (Nat.le_of_ble_eq_true rfl) (w := (.int (f4R_w107_3 p2 p3 p4 v1 v2 v3 v4))) rfl g119 (hb hby d4_107) rfl ?_
      intro T130 h130 X130 W130 F130
      have F130 : IA Z h130 b96 .int [(.int (0 : Int32)), (.int (f4R_w107_3 p2 p3 p4 v1 v2 v3 v4))] := F130
      have F131 := F126.other W130 ne121
      have F132 := F127.wr W130
      have K133 := K128.wr W130 (Or.inr s120)
      have Z134 := Nat.le_trans Z129 (Keep.of_wr W130).1
      have hlt : ps.length < nn := by have q := hlen; rw [psR0, if_pos hk] at q; simp only [List.length_cons] at q; omega
      refine Rt.aastoreP (pc' := 109) X130 hx hZ (Pq.keep0 ((((Keep.refl h0 []).ext E118).wr W125 (Or.inr s120)).wr W130 (Or.inr s120))) hlt F130 F132 nea hcnt.1 hcnt.2 ga (hb hby d4_108) rfl ?_
      intro T135 h135 X135 W135 Pq135
      have F136 := F131.other W135 hne
      have K137 := K133.wr W135 (Or.inl (List.mem_of_getElem? (i := 0) rfl))
      have Z138 := Nat.le_trans Z134 (Keep.of_wr W135).1
      refine Rt.iinc (pc' := 112) (r := (f4R_v109 cnt)) (l' := #[.val (.ref a1), .val (.int p2), .val (.int p3), .val (.int p4), .val (.ref a5), .val (.int (f4R_v109 cnt)), .val (.int (0 : Int32)), .val (.int (f4R_j86_l7_3 p2 p3 p4 v1 v2 v3 v4)), .val (.int (f4R_j86_l8_3 p2 p3 p4 v1 v2 v3 v4)), .val (.int (f4R_j86_l9_3 p2 p3 p4 v1 v2 v3))]) X135 hx (hb hby d4_109) rfl rfl rfl rfl ?_
      refine Rt.iload (pc' := 114) X135 hx (hb hby d4_112) rfl rfl ?_
      refine Rt.iconst (pc' := 115) (v := (1 : Int32)) X135 hx (hb hby d4_114) rfl rfl ?_
      refine Rt.iadd (pc' := 116) (r := ((f4R_j86_l7_3 p2 p3 p4 v1 v2 v3 v4) + (1 : Int32))) X135 hx (hb hby d4_115) rfl rfl ?_
      refine Rt.istore (pc' := 118) (v := (f4R_v116_3 p2 p3 p4 v1 v2 v3 v4)) (l' := #[.val (.ref a1), .val (.int p2), .val (.int p3), .val (.int p4), .val (.ref a5), .val (.int (f4R_v109 cnt)), .val (.int (f4R_v116_3 p2 p3 p4 v1 v2 v3 v4)), .val (.int (f4R_j86_l7_3 p2 p3 p4 v1 v2 v3 v4)), .val (.int (f4R_j86_l8_3 p2 p3 p4 v1 v2 v3 v4)), .val (.int (f4R_j86_l9_3 p2 p3 p4 v1 v2 v3))]) X135 hx (hb hby d4_116) rfl rfl ?_
      refine Rt.goto (pc' := 6) X135 hx (hb hby d4_118) (by decide) (by decide) ?_
      rcases own_lastR0 p2 p3 p4 v0 v1 v2 v3 v4 with el | el | el | el | el
      · rw [show (f4R_v116_3 p2 p3 p4 v1 v2 v3 v4) = (1 : Int32) from by rw [f4R_v116_3, el]; decide]
        exact sgR1 hx hZ hby hret hlk wI F136 Pq135 (by have q := hlen; rw [psR0, if_pos hk, if_pos el] at q; simp only [List.length_cons, List.length_append, List.length_nil] at q ⊢; omega) (by rw [List.length_append]; exact own_c1 hcnt (by omega)) hbd ga hne Z138 (by omega) (by omega) hkk hnn T135 _ _ _ (Or.inr ⟨_, rfl, rfl⟩) (Or.inr ⟨_, rfl, rfl⟩) (Or.inr ⟨_, rfl, rfl⟩) X135 (fun h L N K q => by have z := hP h L N (K137.trans K (allS (Or.inl (List.mem_of_getElem? (i := 0) rfl)) all0)) (by rw [psR0, if_pos hk, if_pos el]; rw [List.append_assoc] at q; exact q); rw [gR0, if_pos hk, if_pos el] at z; exact z)
      · rw [show (f4R_v116_3 p2 p3 p4 v1 v2 v3 v4) = (2 : Int32) from by rw [f4R_v116_3, el]; decide]
        exact sgR2 hx hZ hby hret hlk wI F136 Pq135 (by have q := hlen; rw [psR0, if_pos hk, if_neg (by rw [el]; decide), if_pos el] at q; simp only [List.length_cons, List.length_append, List.length_nil] at q ⊢; omega) (by rw [List.length_append]; exact own_c1 hcnt (by omega)) hbd ga hne Z138 (by omega) (by omega) hkk hnn T135 _ _ _ (Or.inr ⟨_, rfl, rfl⟩) (Or.inr ⟨_, rfl, rfl⟩) (Or.inr ⟨_, rfl, rfl⟩) X135 (fun h L N K q => by have z := hP h L N (K137.trans K (allS (Or.inl (List.mem_of_getElem? (i := 0) rfl)) all0)) (by rw [psR0, if_pos hk, if_neg (by rw [el]; decide), if_pos el]; rw [List.append_assoc] at q; exact q); rw [gR0, if_pos hk, if_neg (by rw [el]; decide), if_pos el] at z; exact z)
      · rw [show (f4R_v116_3 p2 p3 p4 v1 v2 v3 v4) = (3 : Int32) from by rw [f4R_v116_3, el]; decide]
        exact sgR3 hx hZ hby hret hlk wI F136 Pq135 (by have q := hlen; rw [psR0, if_pos hk, if_neg (by rw [el]; decide), if_neg (by rw [el]; decide), if_pos el] at q; simp only [List.length_cons, List.length_append, List.length_nil] at q ⊢; omega) (by rw [List.length_append]; exact own_c1 hcnt (by omega)) hbd ga hne Z138 (by omega) (by omega) hkk hnn T135 _ _ _ (Or.inr ⟨_, rfl, rfl⟩) (Or.inr ⟨_, rfl, rfl⟩) (Or.inr ⟨_, rfl, rfl⟩) X135 (fun h L N K q => by have z := hP h L N (K137.trans K (allS (Or.inl (List.mem_of_getElem? (i := 0) rfl)) all0)) (by rw [psR0, if_pos hk, if_neg (by rw [el]; decide), if_neg (by rw [el]; decide), if_pos el]; rw [List.append_assoc] at q; exact q); rw [gR0, if_pos hk, if_neg (by rw [el]; decide), if_neg (by rw [el]; decide), if_pos el] at z; exact z)
      · rw [show (f4R_v116_3 p2 p3 p4 v1 v2 v3 v4) = (4 : Int32) from by rw [f4R_v116_3, el]; decide]
        exact sgR4 hx hZ hby hret hlk wI F136 Pq135 (by have q := hlen; rw [psR0, if_pos hk, if_neg (by rw [el]; decide), if_neg (by rw [el]; decide), if_neg (by rw [el]; decide), if_pos el] at q; simp only [List.length_cons, List.length_append, List.length_nil] at q ⊢; omega) (by rw [List.length_append]; exact own_c1 hcnt (by omega)) hbd ga hne Z138 (by omega) (by omega) hkk hnn T135 _ _ _ (Or.inr ⟨_, rfl, rfl⟩) (Or.inr ⟨_, rfl, rfl⟩) (Or.inr ⟨_, rfl, rfl⟩) X135 (fun h L N K q => by have z := hP h L N (K137.trans K (allS (Or.inl (List.mem_of_getElem? (i := 0) rfl)) all0)) (by rw [psR0, if_pos hk, if_neg (by rw [el]; decide), if_neg (by rw [el]; decide), if_neg (by rw [el]; decide), if_pos el]; rw [List.append_assoc] at q; exact q); rw [gR0, if_pos hk, if_neg (by rw [el]; decide), if_neg (by rw [el]; decide), if_neg (by rw [el]; decide), if_pos el] at z; exact z)
      · rw [show (f4R_v116_3 p2 p3 p4 v1 v2 v3 v4) = (5 : Int32) from by rw [f4R_v116_3, el]; decide]
        exact sgR5 hx hZ hby hret hlk wI F136 Pq135 (by have q := hlen; rw [psR0, if_pos hk, if_neg (by rw [el]; decide), if_neg (by rw [el]; decide), if_neg (by rw [el]; decide), if_neg (by rw [el]; decide)] at q; simp only [List.length_cons, List.length_append, List.length_nil] at q ⊢; omega) (by rw [List.length_append]; exact own_c1 hcnt (by omega)) hbd ga hne Z138 (by omega) (by omega) hkk hnn T135 _ _ _ (Or.inr ⟨_, rfl, rfl⟩) (Or.inr ⟨_, rfl, rfl⟩) (Or.inr ⟨_, rfl, rfl⟩) X135 (fun h L N K q => by have z := hP h L N (K137.trans K (allS (Or.inl (List.mem_of_getElem? (i := 0) rfl)) all0)) (by rw [psR0, if_pos hk, if_neg (by rw [el]; decide), if_neg (by rw [el]; decide), if_neg (by rw [el]; decide), if_neg (by rw [el]; decide)]; rw [List.append_assoc] at q; exact q); rw [gR0, if_pos hk, if_neg (by rw [el]; decide), if_neg (by rw [el]; decide), if_neg (by rw [el]; decide), if_neg (by rw [el]; decide)] at z; exact z)
    by_cases hc53_139 : (1 : Int32) < p2
    · refine Rt.icmpN (pc' := 56) X0 hx (hb hby d4_53) (tlt hc53_139).2.1 rfl ?_
      refine Rt.iload (pc' := 58) X0 hx (hb hby d4_56) rfl rfl ?_
      refine Rt.iloadN (pc' := 59) X0 hx (hb hby d4_58) rfl rfl ?_
      by_cases hc59_140 : p3 < (0 : Int32)
      · refine Rt.icmpY (pc' := 86) X0 hx (hb hby d4_59) (tlt hc59_140).2.2.1 (by decide) (by decide) ?_
        have q := J53_117 T0   X0
        rw [show (f4R_j86_l7_3 p2 p3 p4 v1 v2 v3 v4) = (0 : Int32) from by rw [f4R_j86_l7_3, if_pos hc53_139, if_pos hc59_140]] at q
        rw [show (f4R_j86_l8_3 p2 p3 p4 v1 v2 v3 v4) = (0 : Int32) from by rw [f4R_j86_l8_3, if_pos hc53_139, if_pos hc59_140]] at q
        rw [show (f4R_j86_l9_3 p2 p3 p4 v1 v2 v3) = (1 : Int32) from by rw [f4R_j86_l9_3, if_pos hc53_139, if_pos hc59_140]] at q
        exact q
      · refine Rt.icmpN (pc' := 62) X0 hx (hb hby d4_59) (flt hc59_140).2.2.1 rfl ?_
        refine Rt.aloadN (pc' := 63) X0 hx (hb hby d4_62) rfl rfl rfl ?_
        refine Rt.iload (pc' := 65) X0 hx (hb hby d4_63) rfl rfl ?_
        refine Rt.iaload (pc' := 66) X0 hx hZ F (i := 1) (by decide) (by decide) (v := (.int v1)) rfl (hb hby d4_65) rfl ?_
        refine Rt.iloadN (pc' := 67) X0 hx (hb hby d4_66) rfl rfl ?_
        have J67_141 : ∀ T141  , Sd p l e R s m args below meth c T141 n0 cells slots h0 → Rt p e below s k n P (T141.setTop (mkF m 80 #[.val (.ref a1), .val (.int p2), .val (.int p3), .val (.int p4), .val (.ref a5), .val (.int cnt), .val (.int (0 : Int32)), .val (.int (f4R_j80_l7_6 p4 v1)), .val (.int (f4R_j80_l8_6 p4 v1)), .val (.int (1 : Int32))] [])) := by
          intro T141   X141 
          refine Rt.iinc (pc' := 83) (r := (2 : Int32)) (l' := #[.val (.ref a1), .val (.int p2), .val (.int p3), .val (.int p4), .val (.ref a5), .val (.int cnt), .val (.int (0 : Int32)), .val (.int (f4R_j80_l7_6 p4 v1)), .val (.int (f4R_j80_l8_6 p4 v1)), .val (.int (2 : Int32))]) X141 hx (hb hby d4_80) rfl (by decide) rfl rfl ?_
          refine Rt.goto (pc' := 40) X141 hx (hb hby d4_83) (by decide) (by decide) ?_
          refine Rt.iload (pc' := 42) X141 hx (hb hby d4_40) rfl rfl ?_
          refine Rt.aloadN (pc' := 43) X141 hx (hb hby d4_42) rfl rfl rfl ?_
          refine Rt.arraylength (pc' := 44) X141 hx hZ F (v := (5 : Int32)) rfl (hb hby d4_43) rfl ?_
          refine Rt.icmpN (pc' := 47) X141 hx (hb hby d4_44) (tlt (by decide : (2 : Int32) < (5 : Int32))).2.1 rfl ?_
          refine Rt.iload (pc' := 49) X141 hx (hb hby d4_47) rfl rfl ?_
          refine Rt.iload (pc' := 51) X141 hx (hb hby d4_49) rfl rfl ?_
          refine Rt.isub (pc' := 52) (r := (2 : Int32)) X141 hx (hb hby d4_51) (by decide) rfl ?_
          refine Rt.iloadN (pc' := 53) X141 hx (hb hby d4_52) rfl rfl ?_
          by_cases hc53_142 : (2 : Int32) < p2
          · refine Rt.icmpN (pc' := 56) X141 hx (hb hby d4_53) (tlt hc53_142).2.1 rfl ?_
            refine Rt.iload (pc' := 58) X141 hx (hb hby d4_56) rfl rfl ?_
            refine Rt.iloadN (pc' := 59) X141 hx (hb hby d4_58) rfl rfl ?_
            by_cases hc59_143 : p3 < (f4R_j80_l8_6 p4 v1)
            · refine Rt.icmpY (pc' := 86) X141 hx (hb hby d4_59) (tlt hc59_143).2.2.1 (by decide) (by decide) ?_
              have q := J53_117 T141   X141
              rw [show (f4R_j86_l7_3 p2 p3 p4 v1 v2 v3 v4) = (f4R_j80_l7_6 p4 v1) from by rw [f4R_j86_l7_3, if_pos hc53_139, if_neg hc59_140, if_pos hc53_142, if_pos hc59_143]] at q
              rw [show (f4R_j86_l8_3 p2 p3 p4 v1 v2 v3 v4) = (f4R_j80_l8_6 p4 v1) from by rw [f4R_j86_l8_3, if_pos hc53_139, if_neg hc59_140, if_pos hc53_142, if_pos hc59_143]] at q
              rw [show (f4R_j86_l9_3 p2 p3 p4 v1 v2 v3) = (2 : Int32) from by rw [f4R_j86_l9_3, if_pos hc53_139, if_neg hc59_140, if_pos hc53_142, if_pos hc59_143]] at q
              exact q
            · refine Rt.icmpN (pc' := 62) X141 hx (hb hby d4_59) (flt hc59_143).2.2.1 rfl ?_
              refine Rt.aloadN (pc' := 63) X141 hx (hb hby d4_62) rfl rfl rfl ?_
              refine Rt.iload (pc' := 65) X141 hx (hb hby d4_63) rfl rfl ?_
              refine Rt.iaload (pc' := 66) X141 hx hZ F (i := 2) (by decide) (by decide) (v := (.int v2)) rfl (hb hby d4_65) rfl ?_
              refine Rt.iloadN (pc' := 67) X141 hx (hb hby d4_66) rfl rfl ?_
              have J67_144 : ∀ T144  , Sd p l e R s m args below meth c T144 n0 cells slots h0 → Rt p e below s k n P (T144.setTop (mkF m 80 #[.val (.ref a1), .val (.int p2), .val (.int p3), .val (.int p4), .val (.ref a5), .val (.int cnt), .val (.int (0 : Int32)), .val (.int (f4R_j80_l7_7 p4 v1 v2)), .val (.int (f4R_j80_l8_7 p4 v1 v2)), .val (.int (2 : Int32))] [])) := by
                intro T144   X144 
                refine Rt.iinc (pc' := 83) (r := (3 : Int32)) (l' := #[.val (.ref a1), .val (.int p2), .val (.int p3), .val (.int p4), .val (.ref a5), .val (.int cnt), .val (.int (0 : Int32)), .val (.int (f4R_j80_l7_7 p4 v1 v2)), .val (.int (f4R_j80_l8_7 p4 v1 v2)), .val (.int (3 : Int32))]) X144 hx (hb hby d4_80) rfl (by decide) rfl rfl ?_
                refine Rt.goto (pc' := 40) X144 hx (hb hby d4_83) (by decide) (by decide) ?_
                refine Rt.iload (pc' := 42) X144 hx (hb hby d4_40) rfl rfl ?_
                refine Rt.aloadN (pc' := 43) X144 hx (hb hby d4_42) rfl rfl rfl ?_
                refine Rt.arraylength (pc' := 44) X144 hx hZ F (v := (5 : Int32)) rfl (hb hby d4_43) rfl ?_
                refine Rt.icmpN (pc' := 47) X144 hx (hb hby d4_44) (tlt (by decide : (3 : Int32) < (5 : Int32))).2.1 rfl ?_
                refine Rt.iload (pc' := 49) X144 hx (hb hby d4_47) rfl rfl ?_
                refine Rt.iload (pc' := 51) X144 hx (hb hby d4_49) rfl rfl ?_
                refine Rt.isub (pc' := 52) (r := (3 : Int32)) X144 hx (hb hby d4_51) (by decide) rfl ?_
                refine Rt.iloadN (pc' := 53) X144 hx (hb hby d4_52) rfl rfl ?_
                by_cases hc53_145 : (3 : Int32) < p2
                · refine Rt.icmpN (pc' := 56) X144 hx (hb hby d4_53) (tlt hc53_145).2.1 rfl ?_
                  refine Rt.iload (pc' := 58) X144 hx (hb hby d4_56) rfl rfl ?_
                  refine Rt.iloadN (pc' := 59) X144 hx (hb hby d4_58) rfl rfl ?_
                  by_cases hc59_146 : p3 < (f4R_j80_l8_7 p4 v1 v2)
                  · refine Rt.icmpY (pc' := 86) X144 hx (hb hby d4_59) (tlt hc59_146).2.2.1 (by decide) (by decide) ?_
                    have q := J53_117 T144   X144
                    rw [show (f4R_j86_l7_3 p2 p3 p4 v1 v2 v3 v4) = (f4R_j80_l7_7 p4 v1 v2) from by rw [f4R_j86_l7_3, if_pos hc53_139, if_neg hc59_140, if_pos hc53_142, if_neg hc59_143, if_pos hc53_145, if_pos hc59_146]] at q
                    rw [show (f4R_j86_l8_3 p2 p3 p4 v1 v2 v3 v4) = (f4R_j80_l8_7 p4 v1 v2) from by rw [f4R_j86_l8_3, if_pos hc53_139, if_neg hc59_140, if_pos hc53_142, if_neg hc59_143, if_pos hc53_145, if_pos hc59_146]] at q
                    rw [show (f4R_j86_l9_3 p2 p3 p4 v1 v2 v3) = (3 : Int32) from by rw [f4R_j86_l9_3, if_pos hc53_139, if_neg hc59_140, if_pos hc53_142, if_neg hc59_143, if_pos hc53_145, if_pos hc59_146]] at q
                    exact q
                  · refine Rt.icmpN (pc' := 62) X144 hx (hb hby d4_59) (flt hc59_146).2.2.1 rfl ?_
                    refine Rt.aloadN (pc' := 63) X144 hx (hb hby d4_62) rfl rfl rfl ?_
                    refine Rt.iload (pc' := 65) X144 hx (hb hby d4_63) rfl rfl ?_
                    refine Rt.iaload (pc' := 66) X144 hx hZ F (i := 3) (by decide) (by decide) (v := (.int v3)) rfl (hb hby d4_65) rfl ?_
                    refine Rt.iloadN (pc' := 67) X144 hx (hb hby d4_66) rfl rfl ?_
                    have J67_147 : ∀ T147  , Sd p l e R s m args below meth c T147 n0 cells slots h0 → Rt p e below s k n P (T147.setTop (mkF m 80 #[.val (.ref a1), .val (.int p2), .val (.int p3), .val (.int p4), .val (.ref a5), .val (.int cnt), .val (.int (0 : Int32)), .val (.int (f4R_j80_l7_8 p4 v1 v2 v3)), .val (.int (f4R_j80_l8_8 p4 v1 v2 v3)), .val (.int (3 : Int32))] [])) := by
                      intro T147   X147 
                      refine Rt.iinc (pc' := 83) (r := (4 : Int32)) (l' := #[.val (.ref a1), .val (.int p2), .val (.int p3), .val (.int p4), .val (.ref a5), .val (.int cnt), .val (.int (0 : Int32)), .val (.int (f4R_j80_l7_8 p4 v1 v2 v3)), .val (.int (f4R_j80_l8_8 p4 v1 v2 v3)), .val (.int (4 : Int32))]) X147 hx (hb hby d4_80) rfl (by decide) rfl rfl ?_
                      refine Rt.goto (pc' := 40) X147 hx (hb hby d4_83) (by decide) (by decide) ?_
                      refine Rt.iload (pc' := 42) X147 hx (hb hby d4_40) rfl rfl ?_
                      refine Rt.aloadN (pc' := 43) X147 hx (hb hby d4_42) rfl rfl rfl ?_
                      refine Rt.arraylength (pc' := 44) X147 hx hZ F (v := (5 : Int32)) rfl (hb hby d4_43) rfl ?_
                      refine Rt.icmpN (pc' := 47) X147 hx (hb hby d4_44) (tlt (by decide : (4 : Int32) < (5 : Int32))).2.1 rfl ?_
                      refine Rt.iload (pc' := 49) X147 hx (hb hby d4_47) rfl rfl ?_
                      refine Rt.iload (pc' := 51) X147 hx (hb hby d4_49) rfl rfl ?_
                      refine Rt.isub (pc' := 52) (r := (4 : Int32)) X147 hx (hb hby d4_51) (by decide) rfl ?_
                      refine Rt.iloadN (pc' := 53) X147 hx (hb hby d4_52) rfl rfl ?_
                      by_cases hc53_148 : (4 : Int32) < p2
                      · refine Rt.icmpN (pc' := 56) X147 hx (hb hby d4_53) (tlt hc53_148).2.1 rfl ?_
                        refine Rt.iload (pc' := 58) X147 hx (hb hby d4_56) rfl rfl ?_
                        refine Rt.iloadN (pc' := 59) X147 hx (hb hby d4_58) rfl rfl ?_
                        by_cases hc59_149 : p3 < (f4R_j80_l8_8 p4 v1 v2 v3)
                        · refine Rt.icmpY (pc' := 86) X147 hx (hb hby d4_59) (tlt hc59_149).2.2.1 (by decide) (by decide) ?_
                          have q := J53_117 T147   X147
                          rw [show (f4R_j86_l7_3 p2 p3 p4 v1 v2 v3 v4) = (f4R_j80_l7_8 p4 v1 v2 v3) from by rw [f4R_j86_l7_3, if_pos hc53_139, if_neg hc59_140, if_pos hc53_142, if_neg hc59_143, if_pos hc53_145, if_neg hc59_146, if_pos hc53_148, if_pos hc59_149]] at q
                          rw [show (f4R_j86_l8_3 p2 p3 p4 v1 v2 v3 v4) = (f4R_j80_l8_8 p4 v1 v2 v3) from by rw [f4R_j86_l8_3, if_pos hc53_139, if_neg hc59_140, if_pos hc53_142, if_neg hc59_143, if_pos hc53_145, if_neg hc59_146, if_pos hc53_148, if_pos hc59_149]] at q
                          rw [show (f4R_j86_l9_3 p2 p3 p4 v1 v2 v3) = (4 : Int32) from by rw [f4R_j86_l9_3, if_pos hc53_139, if_neg hc59_140, if_pos hc53_142, if_neg hc59_143, if_pos hc53_145, if_neg hc59_146, if_pos hc53_148, if_pos hc59_149]] at q
                          exact q
                        · refine Rt.icmpN (pc' := 62) X147 hx (hb hby d4_59) (flt hc59_149).2.2.1 rfl ?_
                          refine Rt.aloadN (pc' := 63) X147 hx (hb hby d4_62) rfl rfl rfl ?_
                          refine Rt.iload (pc' := 65) X147 hx (hb hby d4_63) rfl rfl ?_
                          refine Rt.iaload (pc' := 66) X147 hx hZ F (i := 4) (by decide) (by decide) (v := (.int v4)) rfl (hb hby d4_65) rfl ?_
                          refine Rt.iloadN (pc' := 67) X147 hx (hb hby d4_66) rfl rfl ?_
                          have J67_150 : ∀ T150  , Sd p l e R s m args below meth c T150 n0 cells slots h0 → Rt p e below s k n P (T150.setTop (mkF m 80 #[.val (.ref a1), .val (.int p2), .val (.int p3), .val (.int p4), .val (.ref a5), .val (.int cnt), .val (.int (0 : Int32)), .val (.int (f4R_j80_l7_9 p4 v1 v2 v3 v4)), .val (.int (f4R_j80_l8_9 p4 v1 v2 v3 v4)), .val (.int (4 : Int32))] [])) := by
                            intro T150   X150 
                            refine Rt.iinc (pc' := 83) (r := (5 : Int32)) (l' := #[.val (.ref a1), .val (.int p2), .val (.int p3), .val (.int p4), .val (.ref a5), .val (.int cnt), .val (.int (0 : Int32)), .val (.int (f4R_j80_l7_9 p4 v1 v2 v3 v4)), .val (.int (f4R_j80_l8_9 p4 v1 v2 v3 v4)), .val (.int (5 : Int32))]) X150 hx (hb hby d4_80) rfl (by decide) rfl rfl ?_
                            refine Rt.goto (pc' := 40) X150 hx (hb hby d4_83) (by decide) (by decide) ?_
                            refine Rt.iload (pc' := 42) X150 hx (hb hby d4_40) rfl rfl ?_
                            refine Rt.aloadN (pc' := 43) X150 hx (hb hby d4_42) rfl rfl rfl ?_
                            refine Rt.arraylength (pc' := 44) X150 hx hZ F (v := (5 : Int32)) rfl (hb hby d4_43) rfl ?_
                            refine Rt.icmpY (pc' := 86) X150 hx (hb hby d4_44) (flt (by decide : ¬ ((5 : Int32) < (5 : Int32)))).2.1 (by decide) (by decide) ?_
                            have q := J53_117 T150   X150
                            rw [show (f4R_j86_l7_3 p2 p3 p4 v1 v2 v3 v4) = (f4R_j80_l7_9 p4 v1 v2 v3 v4) from by rw [f4R_j86_l7_3, if_pos hc53_139, if_neg hc59_140, if_pos hc53_142, if_neg hc59_143, if_pos hc53_145, if_neg hc59_146, if_pos hc53_148, if_neg hc59_149]] at q
                            rw [show (f4R_j86_l8_3 p2 p3 p4 v1 v2 v3 v4) = (f4R_j80_l8_9 p4 v1 v2 v3 v4) from by rw [f4R_j86_l8_3, if_pos hc53_139, if_neg hc59_140, if_pos hc53_142, if_neg hc59_143, if_pos hc53_145, if_neg hc59_146, if_pos hc53_148, if_neg hc59_149]] at q
                            rw [show (f4R_j86_l9_3 p2 p3 p4 v1 v2 v3) = (5 : Int32) from by rw [f4R_j86_l9_3, if_pos hc53_139, if_neg hc59_140, if_pos hc53_142, if_neg hc59_143, if_pos hc53_145, if_neg hc59_146, if_pos hc53_148, if_neg hc59_149]] at q
                            exact q
                          by_cases hc67_151 : p4 < v4
                          · refine Rt.icmpN (pc' := 70) X147 hx (hb hby d4_67) (tlt hc67_151).2.2.2 rfl ?_
                            refine Rt.iload (pc' := 72) X147 hx (hb hby d4_70) rfl rfl ?_
                            refine Rt.istore (pc' := 74) (v := (4 : Int32)) (l' := #[.val (.ref a1), .val (.int p2), .val (.int p3), .val (.int p4), .val (.ref a5), .val (.int cnt), .val (.int (0 : Int32)), .val (.int (4 : Int32)), .val (.int (f4R_j80_l8_8 p4 v1 v2 v3)), .val (.int (4 : Int32))]) X147 hx (hb hby d4_72) rfl rfl ?_
                            refine Rt.goto (pc' := 80) X147 hx (hb hby d4_74) (by decide) (by decide) ?_
                            have q := J67_150 T147   X147
                            rw [show (f4R_j80_l7_9 p4 v1 v2 v3 v4) = (4 : Int32) from by rw [f4R_j80_l7_9, if_pos hc67_151]] at q
                            rw [show (f4R_j80_l8_9 p4 v1 v2 v3 v4) = (f4R_j80_l8_8 p4 v1 v2 v3) from by rw [f4R_j80_l8_9, if_pos hc67_151]] at q
                            exact q
                          · refine Rt.icmpY (pc' := 77) X147 hx (hb hby d4_67) (flt hc67_151).2.2.2 (by decide) (by decide) ?_
                            refine Rt.iinc (pc' := 80) (r := (f4R_v77_5 p4 v1 v2 v3)) (l' := #[.val (.ref a1), .val (.int p2), .val (.int p3), .val (.int p4), .val (.ref a5), .val (.int cnt), .val (.int (0 : Int32)), .val (.int (f4R_j80_l7_8 p4 v1 v2 v3)), .val (.int (f4R_v77_5 p4 v1 v2 v3)), .val (.int (4 : Int32))]) X147 hx (hb hby d4_77) rfl rfl rfl rfl ?_
                            have q := J67_150 T147   X147
                            rw [show (f4R_j80_l7_9 p4 v1 v2 v3 v4) = (f4R_j80_l7_8 p4 v1 v2 v3) from by rw [f4R_j80_l7_9, if_neg hc67_151]] at q
                            rw [show (f4R_j80_l8_9 p4 v1 v2 v3 v4) = (f4R_v77_5 p4 v1 v2 v3) from by rw [f4R_j80_l8_9, if_neg hc67_151]] at q
                            exact q
                      · refine Rt.icmpY (pc' := 86) X147 hx (hb hby d4_53) (flt hc53_148).2.1 (by decide) (by decide) ?_
                        have q := J53_117 T147   X147
                        rw [show (f4R_j86_l7_3 p2 p3 p4 v1 v2 v3 v4) = (f4R_j80_l7_8 p4 v1 v2 v3) from by rw [f4R_j86_l7_3, if_pos hc53_139, if_neg hc59_140, if_pos hc53_142, if_neg hc59_143, if_pos hc53_145, if_neg hc59_146, if_neg hc53_148]] at q
                        rw [show (f4R_j86_l8_3 p2 p3 p4 v1 v2 v3 v4) = (f4R_j80_l8_8 p4 v1 v2 v3) from by rw [f4R_j86_l8_3, if_pos hc53_139, if_neg hc59_140, if_pos hc53_142, if_neg hc59_143, if_pos hc53_145, if_neg hc59_146, if_neg hc53_148]] at q
                        rw [show (f4R_j86_l9_3 p2 p3 p4 v1 v2 v3) = (4 : Int32) from by rw [f4R_j86_l9_3, if_pos hc53_139, if_neg hc59_140, if_pos hc53_142, if_neg hc59_143, if_pos hc53_145, if_neg hc59_146, if_neg hc53_148]] at q
                        exact q
                    by_cases hc67_152 : p4 < v3
                    · refine Rt.icmpN (pc' := 70) X144 hx (hb hby d4_67) (tlt hc67_152).2.2.2 rfl ?_
                      refine Rt.iload (pc' := 72) X144 hx (hb hby d4_70) rfl rfl ?_
                      refine Rt.istore (pc' := 74) (v := (3 : Int32)) (l' := #[.val (.ref a1), .val (.int p2), .val (.int p3), .val (.int p4), .val (.ref a5), .val (.int cnt), .val (.int (0 : Int32)), .val (.int (3 : Int32)), .val (.int (f4R_j80_l8_7 p4 v1 v2)), .val (.int (3 : Int32))]) X144 hx (hb hby d4_72) rfl rfl ?_
                      refine Rt.goto (pc' := 80) X144 hx (hb hby d4_74) (by decide) (by decide) ?_
                      have q := J67_147 T144   X144
                      rw [show (f4R_j80_l7_8 p4 v1 v2 v3) = (3 : Int32) from by rw [f4R_j80_l7_8, if_pos hc67_152]] at q
                      rw [show (f4R_j80_l8_8 p4 v1 v2 v3) = (f4R_j80_l8_7 p4 v1 v2) from by rw [f4R_j80_l8_8, if_pos hc67_152]] at q
                      exact q
                    · refine Rt.icmpY (pc' := 77) X144 hx (hb hby d4_67) (flt hc67_152).2.2.2 (by decide) (by decide) ?_
                      refine Rt.iinc (pc' := 80) (r := (f4R_v77_4 p4 v1 v2)) (l' := #[.val (.ref a1), .val (.int p2), .val (.int p3), .val (.int p4), .val (.ref a5), .val (.int cnt), .val (.int (0 : Int32)), .val (.int (f4R_j80_l7_7 p4 v1 v2)), .val (.int (f4R_v77_4 p4 v1 v2)), .val (.int (3 : Int32))]) X144 hx (hb hby d4_77) rfl rfl rfl rfl ?_
                      have q := J67_147 T144   X144
                      rw [show (f4R_j80_l7_8 p4 v1 v2 v3) = (f4R_j80_l7_7 p4 v1 v2) from by rw [f4R_j80_l7_8, if_neg hc67_152]] at q
                      rw [show (f4R_j80_l8_8 p4 v1 v2 v3) = (f4R_v77_4 p4 v1 v2) from by rw [f4R_j80_l8_8, if_neg hc67_152]] at q
                      exact q
                · refine Rt.icmpY (pc' := 86) X144 hx (hb hby d4_53) (flt hc53_145).2.1 (by decide) (by decide) ?_
                  have q := J53_117 T144   X144
                  rw [show (f4R_j86_l7_3 p2 p3 p4 v1 v2 v3 v4) = (f4R_j80_l7_7 p4 v1 v2) from by rw [f4R_j86_l7_3, if_pos hc53_139, if_neg hc59_140, if_pos hc53_142, if_neg hc59_143, if_neg hc53_145]] at q
                  rw [show (f4R_j86_l8_3 p2 p3 p4 v1 v2 v3 v4) = (f4R_j80_l8_7 p4 v1 v2) from by rw [f4R_j86_l8_3, if_pos hc53_139, if_neg hc59_140, if_pos hc53_142, if_neg hc59_143, if_neg hc53_145]] at q
                  rw [show (f4R_j86_l9_3 p2 p3 p4 v1 v2 v3) = (3 : Int32) from by rw [f4R_j86_l9_3, if_pos hc53_139, if_neg hc59_140, if_pos hc53_142, if_neg hc59_143, if_neg hc53_145]] at q
                  exact q
              by_cases hc67_153 : p4 < v2
              · refine Rt.icmpN (pc' := 70) X141 hx (hb hby d4_67) (tlt hc67_153).2.2.2 rfl ?_
                refine Rt.iload (pc' := 72) X141 hx (hb hby d4_70) rfl rfl ?_
                refine Rt.istore (pc' := 74) (v := (2 : Int32)) (l' := #[.val (.ref a1), .val (.int p2), .val (.int p3), .val (.int p4), .val (.ref a5), .val (.int cnt), .val (.int (0 : Int32)), .val (.int (2 : Int32)), .val (.int (f4R_j80_l8_6 p4 v1)), .val (.int (2 : Int32))]) X141 hx (hb hby d4_72) rfl rfl ?_
                refine Rt.goto (pc' := 80) X141 hx (hb hby d4_74) (by decide) (by decide) ?_
                have q := J67_144 T141   X141
                rw [show (f4R_j80_l7_7 p4 v1 v2) = (2 : Int32) from by rw [f4R_j80_l7_7, if_pos hc67_153]] at q
                rw [show (f4R_j80_l8_7 p4 v1 v2) = (f4R_j80_l8_6 p4 v1) from by rw [f4R_j80_l8_7, if_pos hc67_153]] at q
                exact q
              · refine Rt.icmpY (pc' := 77) X141 hx (hb hby d4_67) (flt hc67_153).2.2.2 (by decide) (by decide) ?_
                refine Rt.iinc (pc' := 80) (r := (f4R_v77_3 p4 v1)) (l' := #[.val (.ref a1), .val (.int p2), .val (.int p3), .val (.int p4), .val (.ref a5), .val (.int cnt), .val (.int (0 : Int32)), .val (.int (f4R_j80_l7_6 p4 v1)), .val (.int (f4R_v77_3 p4 v1)), .val (.int (2 : Int32))]) X141 hx (hb hby d4_77) rfl rfl rfl rfl ?_
                have q := J67_144 T141   X141
                rw [show (f4R_j80_l7_7 p4 v1 v2) = (f4R_j80_l7_6 p4 v1) from by rw [f4R_j80_l7_7, if_neg hc67_153]] at q
                rw [show (f4R_j80_l8_7 p4 v1 v2) = (f4R_v77_3 p4 v1) from by rw [f4R_j80_l8_7, if_neg hc67_153]] at q
                exact q
          · refine Rt.icmpY (pc' := 86) X141 hx (hb hby d4_53) (flt hc53_142).2.1 (by decide) (by decide) ?_
            have q := J53_117 T141   X141
            rw [show (f4R_j86_l7_3 p2 p3 p4 v1 v2 v3 v4) = (f4R_j80_l7_6 p4 v1) from by rw [f4R_j86_l7_3, if_pos hc53_139, if_neg hc59_140, if_neg hc53_142]] at q
            rw [show (f4R_j86_l8_3 p2 p3 p4 v1 v2 v3 v4) = (f4R_j80_l8_6 p4 v1) from by rw [f4R_j86_l8_3, if_pos hc53_139, if_neg hc59_140, if_neg hc53_142]] at q
            rw [show (f4R_j86_l9_3 p2 p3 p4 v1 v2 v3) = (2 : Int32) from by rw [f4R_j86_l9_3, if_pos hc53_139, if_neg hc59_140, if_neg hc53_142]] at q
            exact q
        by_cases hc67_154 : p4 < v1
        · refine Rt.icmpN (pc' := 70) X0 hx (hb hby d4_67) (tlt hc67_154).2.2.2 rfl ?_
          refine Rt.iload (pc' := 72) X0 hx (hb hby d4_70) rfl rfl ?_
          refine Rt.istore (pc' := 74) (v := (1 : Int32)) (l' := #[.val (.ref a1), .val (.int p2), .val (.int p3), .val (.int p4), .val (.ref a5), .val (.int cnt), .val (.int (0 : Int32)), .val (.int (1 : Int32)), .val (.int (0 : Int32)), .val (.int (1 : Int32))]) X0 hx (hb hby d4_72) rfl rfl ?_
          refine Rt.goto (pc' := 80) X0 hx (hb hby d4_74) (by decide) (by decide) ?_
          have q := J67_141 T0   X0
          rw [show (f4R_j80_l7_6 p4 v1) = (1 : Int32) from by rw [f4R_j80_l7_6, if_pos hc67_154]] at q
          rw [show (f4R_j80_l8_6 p4 v1) = (0 : Int32) from by rw [f4R_j80_l8_6, if_pos hc67_154]] at q
          exact q
        · refine Rt.icmpY (pc' := 77) X0 hx (hb hby d4_67) (flt hc67_154).2.2.2 (by decide) (by decide) ?_
          refine Rt.iinc (pc' := 80) (r := (1 : Int32)) (l' := #[.val (.ref a1), .val (.int p2), .val (.int p3), .val (.int p4), .val (.ref a5), .val (.int cnt), .val (.int (0 : Int32)), .val (.int (0 : Int32)), .val (.int (1 : Int32)), .val (.int (1 : Int32))]) X0 hx (hb hby d4_77) rfl (by decide) rfl rfl ?_
          have q := J67_141 T0   X0
          rw [show (f4R_j80_l7_6 p4 v1) = (0 : Int32) from by rw [f4R_j80_l7_6, if_neg hc67_154]] at q
          rw [show (f4R_j80_l8_6 p4 v1) = (1 : Int32) from by rw [f4R_j80_l8_6, if_neg hc67_154]] at q
          exact q
    · refine Rt.icmpY (pc' := 86) X0 hx (hb hby d4_53) (flt hc53_139).2.1 (by decide) (by decide) ?_
      have q := J53_117 T0   X0
      rw [show (f4R_j86_l7_3 p2 p3 p4 v1 v2 v3 v4) = (0 : Int32) from by rw [f4R_j86_l7_3, if_neg hc53_139]] at q
      rw [show (f4R_j86_l8_3 p2 p3 p4 v1 v2 v3 v4) = (0 : Int32) from by rw [f4R_j86_l8_3, if_neg hc53_139]] at q
      rw [show (f4R_j86_l9_3 p2 p3 p4 v1 v2 v3) = (1 : Int32) from by rw [f4R_j86_l9_3, if_neg hc53_139]] at q
      exact q
  · refine Rt.icmpN (pc' := 21) X0 hx (hb hby d4_18) (flt hk).2.2.1 rfl ?_
    refine Rt.iinc (pc' := 24) (r := (1 : Int32)) (l' := #[.val (.ref a1), .val (.int p2), .val (.int p3), .val (.int p4), .val (.ref a5), .val (.int cnt), .val (.int (1 : Int32)), s7, s8, s9]) X0 hx (hb hby d4_21) rfl (by decide) rfl rfl ?_
    refine Rt.goto (pc' := 6) X0 hx (hb hby d4_24) (by decide) (by decide) ?_
    exact sgR1 hx hZ hby hret hlk wI F Pq (by have q := hlen; rw [psR0, if_neg hk] at q; exact q) hcnt hbd ga hne Z0 (by omega) (by omega) hkk hnn T0 s7 s8 s9 hs7 hs8 hs9 X0 (fun h L N K q => by have z := hP h L N K (by rw [psR0, if_neg hk]; exact q); rw [gR0, if_neg hk] at z; exact z)
theorem own_GL5 (p2 p3 p4 v0 v1 v2 v3 v4 : Int32) : (∀ cnt : Int32, 0 ≤ cnt.toInt → cnt.toInt ≤ 105 → (gR5 cnt p2 p3 p4 v0 v1 v2 v3 v4).toInt = cnt.toInt + (psR5 p2 p3 p4 v0 v1 v2 v3 v4).length) ∧ (psR5 p2 p3 p4 v0 v1 v2 v3 v4).length ≤ 0 := by
  refine ⟨fun cnt _ _ => ?_, ?_⟩
  · simp [gR5, psR5]
  · simp [psR5]
theorem own_GL4 (p2 p3 p4 v0 v1 v2 v3 v4 : Int32) : (∀ cnt : Int32, 0 ≤ cnt.toInt → cnt.toInt ≤ 104 → (gR4 cnt p2 p3 p4 v0 v1 v2 v3 v4).toInt = cnt.toInt + (psR4 p2 p3 p4 v0 v1 v2 v3 v4).length) ∧ (psR4 p2 p3 p4 v0 v1 v2 v3 v4).length ≤ 1 := by
  have k5 := own_GL5 p2 p3 p4 v0 v1 v2 v3 v4
  refine ⟨fun cnt h1 h2 => ?_, ?_⟩
  · unfold gR4 psR4
    by_cases hk : p4 < v4
    · rw [if_pos hk, if_pos hk]
      have g := c_iadd cnt 1
      have l1 : (1 : Int32).toInt = 1 := by decide
      have b1 := (cnt + 1).le_toInt
      have b2 := (cnt + 1).toInt_lt
      have w : (cnt + 1).toInt = cnt.toInt + 1 := by omega
      have q5 := k5.1 (cnt + 1) (by omega) (by omega)
      simp only [List.length_cons]
      repeat' split
      all_goals first | omega | contradiction
    · rw [if_neg hk, if_neg hk]; exact k5.1 cnt h1 (by omega)
  · unfold psR4
    split
    · simp only [List.length_cons]
      repeat' split
      all_goals first | omega | contradiction
    · omega
theorem own_GL3 (p2 p3 p4 v0 v1 v2 v3 v4 : Int32) : (∀ cnt : Int32, 0 ≤ cnt.toInt → cnt.toInt ≤ 103 → (gR3 cnt p2 p3 p4 v0 v1 v2 v3 v4).toInt = cnt.toInt + (psR3 p2 p3 p4 v0 v1 v2 v3 v4).length) ∧ (psR3 p2 p3 p4 v0 v1 v2 v3 v4).length ≤ 2 := by
  have k4 := own_GL4 p2 p3 p4 v0 v1 v2 v3 v4
  have k5 := own_GL5 p2 p3 p4 v0 v1 v2 v3 v4
  refine ⟨fun cnt h1 h2 => ?_, ?_⟩
  · unfold gR3 psR3
    by_cases hk : p4 < v3
    · rw [if_pos hk, if_pos hk]
      have g := c_iadd cnt 1
      have l1 : (1 : Int32).toInt = 1 := by decide
      have b1 := (cnt + 1).le_toInt
      have b2 := (cnt + 1).toInt_lt
      have w : (cnt + 1).toInt = cnt.toInt + 1 := by omega
      have q4 := k4.1 (cnt + 1) (by omega) (by omega)
      have q5 := k5.1 (cnt + 1) (by omega) (by omega)
      simp only [List.length_cons]
      repeat' split
      all_goals first | omega | contradiction
    · rw [if_neg hk, if_neg hk]; exact k4.1 cnt h1 (by omega)
  · unfold psR3
    split
    · simp only [List.length_cons]
      repeat' split
      all_goals first | omega | contradiction
    · omega
theorem own_GL2 (p2 p3 p4 v0 v1 v2 v3 v4 : Int32) : (∀ cnt : Int32, 0 ≤ cnt.toInt → cnt.toInt ≤ 102 → (gR2 cnt p2 p3 p4 v0 v1 v2 v3 v4).toInt = cnt.toInt + (psR2 p2 p3 p4 v0 v1 v2 v3 v4).length) ∧ (psR2 p2 p3 p4 v0 v1 v2 v3 v4).length ≤ 3 := by
  have k3 := own_GL3 p2 p3 p4 v0 v1 v2 v3 v4
  have k4 := own_GL4 p2 p3 p4 v0 v1 v2 v3 v4
  have k5 := own_GL5 p2 p3 p4 v0 v1 v2 v3 v4
  refine ⟨fun cnt h1 h2 => ?_, ?_⟩
  · unfold gR2 psR2
    by_cases hk : p4 < v2
    · rw [if_pos hk, if_pos hk]
      have g := c_iadd cnt 1
      have l1 : (1 : Int32).toInt = 1 := by decide
      have b1 := (cnt + 1).le_toInt
      have b2 := (cnt + 1).toInt_lt
      have w : (cnt + 1).toInt = cnt.toInt + 1 := by omega
      have q3 := k3.1 (cnt + 1) (by omega) (by omega)
      have q4 := k4.1 (cnt + 1) (by omega) (by omega)
      have q5 := k5.1 (cnt + 1) (by omega) (by omega)
      simp only [List.length_cons]
      repeat' split
      all_goals first | omega | contradiction
    · rw [if_neg hk, if_neg hk]; exact k3.1 cnt h1 (by omega)
  · unfold psR2
    split
    · simp only [List.length_cons]
      repeat' split
      all_goals first | omega | contradiction
    · omega
theorem own_GL1 (p2 p3 p4 v0 v1 v2 v3 v4 : Int32) : (∀ cnt : Int32, 0 ≤ cnt.toInt → cnt.toInt ≤ 101 → (gR1 cnt p2 p3 p4 v0 v1 v2 v3 v4).toInt = cnt.toInt + (psR1 p2 p3 p4 v0 v1 v2 v3 v4).length) ∧ (psR1 p2 p3 p4 v0 v1 v2 v3 v4).length ≤ 4 := by
  have k2 := own_GL2 p2 p3 p4 v0 v1 v2 v3 v4
  have k3 := own_GL3 p2 p3 p4 v0 v1 v2 v3 v4
  have k4 := own_GL4 p2 p3 p4 v0 v1 v2 v3 v4
  have k5 := own_GL5 p2 p3 p4 v0 v1 v2 v3 v4
  refine ⟨fun cnt h1 h2 => ?_, ?_⟩
  · unfold gR1 psR1
    by_cases hk : p4 < v1
    · rw [if_pos hk, if_pos hk]
      have g := c_iadd cnt 1
      have l1 : (1 : Int32).toInt = 1 := by decide
      have b1 := (cnt + 1).le_toInt
      have b2 := (cnt + 1).toInt_lt
      have w : (cnt + 1).toInt = cnt.toInt + 1 := by omega
      have q2 := k2.1 (cnt + 1) (by omega) (by omega)
      have q3 := k3.1 (cnt + 1) (by omega) (by omega)
      have q4 := k4.1 (cnt + 1) (by omega) (by omega)
      have q5 := k5.1 (cnt + 1) (by omega) (by omega)
      simp only [List.length_cons]
      repeat' split
      all_goals first | omega | contradiction
    · rw [if_neg hk, if_neg hk]; exact k2.1 cnt h1 (by omega)
  · unfold psR1
    split
    · simp only [List.length_cons]
      repeat' split
      all_goals first | omega | contradiction
    · omega
theorem own_GL0 (p2 p3 p4 v0 v1 v2 v3 v4 : Int32) : (∀ cnt : Int32, 0 ≤ cnt.toInt → cnt.toInt ≤ 100 → (gR0 cnt p2 p3 p4 v0 v1 v2 v3 v4).toInt = cnt.toInt + (psR0 p2 p3 p4 v0 v1 v2 v3 v4).length) ∧ (psR0 p2 p3 p4 v0 v1 v2 v3 v4).length ≤ 5 := by
  have k1 := own_GL1 p2 p3 p4 v0 v1 v2 v3 v4
  have k2 := own_GL2 p2 p3 p4 v0 v1 v2 v3 v4
  have k3 := own_GL3 p2 p3 p4 v0 v1 v2 v3 v4
  have k4 := own_GL4 p2 p3 p4 v0 v1 v2 v3 v4
  have k5 := own_GL5 p2 p3 p4 v0 v1 v2 v3 v4
  refine ⟨fun cnt h1 h2 => ?_, ?_⟩
  · unfold gR0 psR0
    by_cases hk : p4 < v0
    · rw [if_pos hk, if_pos hk]
      have g := c_iadd cnt 1
      have l1 : (1 : Int32).toInt = 1 := by decide
      have b1 := (cnt + 1).le_toInt
      have b2 := (cnt + 1).toInt_lt
      have w : (cnt + 1).toInt = cnt.toInt + 1 := by omega
      have q1 := k1.1 (cnt + 1) (by omega) (by omega)
      have q2 := k2.1 (cnt + 1) (by omega) (by omega)
      have q3 := k3.1 (cnt + 1) (by omega) (by omega)
      have q4 := k4.1 (cnt + 1) (by omega) (by omega)
      have q5 := k5.1 (cnt + 1) (by omega) (by omega)
      simp only [List.length_cons]
      repeat' split
      all_goals first | omega | contradiction
    · rw [if_neg hk, if_neg hk]; exact k1.1 cnt h1 (by omega)
  · unfold psR0
    split
    · simp only [List.length_cons]
      repeat' split
      all_goals first | omega | contradiction
    · omega
theorem own_NR5 (cnt p2 p3 p4 v0 v1 v2 v3 v4 : Int32) : gN5 cnt p2 p3 p4 v0 v1 v2 v3 v4 = gR5 cnt p2 p3 p4 v0 v1 v2 v3 v4 := rfl
theorem own_NR4 (cnt p2 p3 p4 v0 v1 v2 v3 v4 : Int32) : gN4 cnt p2 p3 p4 v0 v1 v2 v3 v4 = gR4 cnt p2 p3 p4 v0 v1 v2 v3 v4 := by
  unfold gN4 gR4
  simp only [own_NR5] <;> rfl
theorem own_NR3 (cnt p2 p3 p4 v0 v1 v2 v3 v4 : Int32) : gN3 cnt p2 p3 p4 v0 v1 v2 v3 v4 = gR3 cnt p2 p3 p4 v0 v1 v2 v3 v4 := by
  unfold gN3 gR3
  simp only [own_NR5, own_NR4] <;> rfl
theorem own_NR2 (cnt p2 p3 p4 v0 v1 v2 v3 v4 : Int32) : gN2 cnt p2 p3 p4 v0 v1 v2 v3 v4 = gR2 cnt p2 p3 p4 v0 v1 v2 v3 v4 := by
  unfold gN2 gR2
  simp only [own_NR5, own_NR4, own_NR3] <;> rfl
theorem own_NR1 (cnt p2 p3 p4 v0 v1 v2 v3 v4 : Int32) : gN1 cnt p2 p3 p4 v0 v1 v2 v3 v4 = gR1 cnt p2 p3 p4 v0 v1 v2 v3 v4 := by
  unfold gN1 gR1
  simp only [own_NR5, own_NR4, own_NR3, own_NR2] <;> rfl
theorem own_NR0 (cnt p2 p3 p4 v0 v1 v2 v3 v4 : Int32) : gN0 cnt p2 p3 p4 v0 v1 v2 v3 v4 = gR0 cnt p2 p3 p4 v0 v1 v2 v3 v4 := by
  unfold gN0 gR0
  simp only [own_NR5, own_NR4, own_NR3, own_NR2, own_NR1] <;> rfl
theorem own_z (p2 p3 p4 v0 v1 v2 v3 v4 : Int32) : ¬ (gN0 0 p2 p3 p4 v0 v1 v2 v3 v4) < 0 ∧ (gN0 0 p2 p3 p4 v0 v1 v2 v3 v4).toNatClampNeg = (psR0 p2 p3 p4 v0 v1 v2 v3 v4).length := by
  rw [own_NR0]
  have q := (own_GL0 p2 p3 p4 v0 v1 v2 v3 v4).1 0 (by decide) (by decide)
  have l0 : (0 : Int32).toInt = 0 := by decide
  have e : (gR0 0 p2 p3 p4 v0 v1 v2 v3 v4).toNatClampNeg = (gR0 0 p2 p3 p4 v0 v1 v2 v3 v4).toInt.toNat := rfl
  rw [Int32.lt_iff_toInt_lt]
  omega
def Q4R (Z : State) (a1 : Addr) (p2 : Int32) (p3 : Int32) (p4 : Int32) (a5 : Addr) (v0 : Int32) (v1 : Int32) (v2 : Int32) (v3 : Int32) (v4 : Int32) (h0 : Heap) (n0 : Nat) (v : Option Value) (h : Heap) (L : List Loc) : Prop := v = some (.int (gR0 (0 : Int32) p2 p3 p4 v0 v1 v2 v3 v4)) ∧ Fr n0 L ∧ Keep h0 h [a5] ∧ Pr Z h a5 ((psR0 p2 p3 p4 v0 v1 v2 v3 v4)).length (psR0 p2 p3 p4 v0 v1 v2 v3 v4)
def rmR4R : Room := { frames := 0, cells := 5, slots := 10, locals := 0 }
theorem ef_4R (m : MethodId) (a1 : Addr) (p2 : Int32) (p3 : Int32) (p4 : Int32) (a5 : Addr) : entryFrame m #[(.ref a1), (.int p2), (.int p3), (.int p4), (.ref a5)] 10 = mkF m 0 #[.val (.ref a1), .val (.int p2), .val (.int p3), .val (.int p4), .val (.ref a5), .unset, .unset, .unset, .unset, .unset] [] := by first | (simp [entryFrame, mkF, argsToLocals, Value.category]; done) | rfl
set_option maxRecDepth 65536 in
set_option maxHeartbeats 40000000 in
theorem rm4R (l : Launch) (Z : State) (a0 : Array Value) (hw : ∀ d ∈ tables_1, d.before a0 Z = true) (ws : List Jvm.Cond) (a1 : Addr) (p2 : Int32) (p3 : Int32) (p4 : Int32) (a5 : Addr) (v0 : Int32) (v1 : Int32) (v2 : Int32) (v3 : Int32) (v4 : Int32) (h0 : Heap) (n0 : Nat) (Z0 : n0 ≤ h0.size) (F_A_a1 : IA Z h0 a1 .int [(.int v0), (.int v1), (.int v2), (.int v3), (.int v4)]) (F_Q_a5 : Pr Z h0 a5 ((psR0 p2 p3 p4 v0 v1 v2 v3 v4)).length []) (g_a5 : n0 ≤ a5) (ne_a1_a5 : a1 ≠ a5) :
    Mt l Z mt2 (Jvm.Cond.code mt2 prog_2_method_4_code 10 (some .int) :: ws) rmR4R #[(.ref a1), (.int p2), (.int p3), (.int p4), (.ref a5)] h0 (Q4R Z a1 p2 p3 p4 a5 v0 v1 v2 v3 v4 h0 n0) := by
  refine Mt.of n0 (plainFor_of_name pn_com_example_tightfold_tightfold_FocusCover) ?_
  intro p e s m below meth c T0 X0 hx hZ hby hml hown hret hlk hnm hs0
  have hown : s.vm.findClass "com/example/tightfold/tightfold/FocusCover" = some m.cls := hown
  rw [ef_4R]
  show Rt p e below s rmR4R.cells rmR4R.slots (Q4R Z a1 p2 p3 p4 a5 v0 v1 v2 v3 v4 h0 n0) (T0.setTop (mkF m 0 #[.val (.ref a1), .val (.int p2), .val (.int p3), .val (.int p4), .val (.ref a5), .unset, .unset, .unset, .unset, .unset] []))
  refine Rt.iconst (pc' := 1) (v := (0 : Int32)) X0 hx (hb hby d4_0) rfl rfl ?_
  refine Rt.istore (pc' := 3) (v := (0 : Int32)) (l' := #[.val (.ref a1), .val (.int p2), .val (.int p3), .val (.int p4), .val (.ref a5), .val (.int (0 : Int32)), .unset, .unset, .unset, .unset]) X0 hx (hb hby d4_1) rfl rfl ?_
  refine Rt.iconst (pc' := 4) (v := (0 : Int32)) X0 hx (hb hby d4_3) rfl rfl ?_
  refine Rt.istore (pc' := 6) (v := (0 : Int32)) (l' := #[.val (.ref a1), .val (.int p2), .val (.int p3), .val (.int p4), .val (.ref a5), .val (.int (0 : Int32)), .val (.int (0 : Int32)), .unset, .unset, .unset]) X0 hx (hb hby d4_4) rfl rfl ?_
  exact sgR0 hx hZ hby hret hlk (own_g hw 0 rfl) F_A_a1 F_Q_a5 (Nat.zero_add _) ⟨by decide, rfl⟩ (own_GL0 p2 p3 p4 v0 v1 v2 v3 v4).2 g_a5 ne_a1_a5 Z0 (by decide) (by decide) (Nat.le_refl _) (Nat.le_refl _) T0 _ _ _ (Or.inl rfl) (Or.inl rfl) (Or.inl rfl) X0 (fun h L N K q => ⟨rfl, N, K, q⟩)
theorem d2_0 : decode prog_2_method_3_code 0 = .ok (.aload_n 0, 1) := by decide +kernel
theorem d2_1 : decode prog_2_method_3_code 1 = .ok (.iload_n 1, 1) := by decide +kernel
theorem d2_2 : decode prog_2_method_3_code 2 = .ok (.iload_n 2, 1) := by decide +kernel
theorem d2_3 : decode prog_2_method_3_code 3 = .ok (.iload_n 3, 1) := by decide +kernel
theorem pd_1 : parseMethodDescriptor "([IIII)I" = some ⟨[(.array .int), .int, .int, .int], some .int⟩ := by decide +kernel
theorem d2_4 : decode prog_2_method_3_code 4 = .ok (.invokestatic 13, 3) := by decide +kernel
theorem d2_7 : decode prog_2_method_3_code 7 = .ok (.anewarray 17, 3) := by decide +kernel
theorem d2_10 : decode prog_2_method_3_code 10 = .ok (.astore 4, 2) := by decide +kernel
theorem d2_12 : decode prog_2_method_3_code 12 = .ok (.aload_n 0, 1) := by decide +kernel
theorem d2_13 : decode prog_2_method_3_code 13 = .ok (.iload_n 1, 1) := by decide +kernel
theorem d2_14 : decode prog_2_method_3_code 14 = .ok (.iload_n 2, 1) := by decide +kernel
theorem d2_15 : decode prog_2_method_3_code 15 = .ok (.iload_n 3, 1) := by decide +kernel
theorem d2_16 : decode prog_2_method_3_code 16 = .ok (.aload 4, 2) := by decide +kernel
theorem d2_18 : decode prog_2_method_3_code 18 = .ok (.invokestatic 7, 3) := by decide +kernel
theorem d2_21 : decode prog_2_method_3_code 21 = .ok (.pop, 1) := by decide +kernel
theorem d2_22 : decode prog_2_method_3_code 22 = .ok (.aload 4, 2) := by decide +kernel
theorem d2_24 : decode prog_2_method_3_code 24 = .ok (.areturn, 1) := by decide +kernel
def Q2 (Z : State) (a1 : Addr) (p2 : Int32) (p3 : Int32) (p4 : Int32) (v0 : Int32) (v1 : Int32) (v2 : Int32) (v3 : Int32) (v4 : Int32) (h0 : Heap) (n0 : Nat) (v : Option Value) (h : Heap) (L : List Loc) : Prop := ∃ nw : Addr, h0.size ≤ nw ∧ v = some (.ref nw) ∧ Fr n0 L ∧ Keep h0 h [] ∧ Pr Z h nw ((psR0 p2 p3 p4 v0 v1 v2 v3 v4)).length (psR0 p2 p3 p4 v0 v1 v2 v3 v4)
def rmR2 : Room := { frames := 2, cells := 6, slots := 15, locals := 36 }
theorem ef_2 (m : MethodId) (a1 : Addr) (p2 : Int32) (p3 : Int32) (p4 : Int32) : entryFrame m #[(.ref a1), (.int p2), (.int p3), (.int p4)] 5 = mkF m 0 #[.val (.ref a1), .val (.int p2), .val (.int p3), .val (.int p4), .unset] [] := by first | (simp [entryFrame, mkF, argsToLocals, Value.category]; done) | rfl
set_option maxRecDepth 65536 in
set_option maxHeartbeats 40000000 in
theorem rm2 (l : Launch) (Z : State) (a0 : Array Value) (hw : ∀ d ∈ tables_1, d.before a0 Z = true) (ws : List Jvm.Cond) (a1 : Addr) (p2 : Int32) (p3 : Int32) (p4 : Int32) (v0 : Int32) (v1 : Int32) (v2 : Int32) (v3 : Int32) (v4 : Int32) (h0 : Heap) (n0 : Nat) (Z0 : n0 ≤ h0.size) (F_A_a1 : IA Z h0 a1 .int [(.int v0), (.int v1), (.int v2), (.int v3), (.int v4)]) :
    Mt l Z mt4 (Jvm.Cond.code mt4 prog_2_method_3_code 5 (some (.array (.array .int))) :: ws) rmR2 #[(.ref a1), (.int p2), (.int p3), (.int p4)] h0 (Q2 Z a1 p2 p3 p4 v0 v1 v2 v3 v4 h0 n0) := by
  refine Mt.of n0 (plainFor_of_name pn_com_example_tightfold_tightfold_FocusCover) ?_
  intro p e s m below meth c T0 X0 hx hZ hby hml hown hret hlk hnm hs0
  have hown : s.vm.findClass "com/example/tightfold/tightfold/FocusCover" = some m.cls := hown
  rw [ef_2]
  show Rt p e below s rmR2.cells rmR2.slots (Q2 Z a1 p2 p3 p4 v0 v1 v2 v3 v4 h0 n0) (T0.setTop (mkF m 0 #[.val (.ref a1), .val (.int p2), .val (.int p3), .val (.int p4), .unset] []))
  refine Rt.aloadN (pc' := 1) X0 hx (hb hby d2_0) rfl rfl rfl ?_
  refine Rt.iloadN (pc' := 2) X0 hx (hb hby d2_1) rfl rfl ?_
  refine Rt.iloadN (pc' := 3) X0 hx (hb hby d2_2) rfl rfl ?_
  refine Rt.iloadN (pc' := 4) X0 hx (hb hby d2_3) rfl rfl ?_
  refine Rt.callP (pc' := 7) (r := (.int (f3 p2 p3 p4 v0 v1 v2 v3 v4))) X0 hx hZ (y := mt3) hown (own_g hw 10 rfl) (own_g hw 11 rfl) (own_g hw 8 rfl) (own_g hw 12 rfl) (by decide) (rm3 l Z a0 hw [] a1 p2 p3 p4 v0 v1 v2 v3 v4 h0 n0 F_A_a1) (W := 0) (by decide) (by decide) (by decide) (by decide) rfl rfl (argsL := [(.ref a1), (.int p2), (.int p3), (.int p4)]) (rest := []) (by rw [hml]; rfl) (lenOf pd_1 rfl) rfl rfl (Nat.le_of_eq rfl) (hb hby d2_4) rfl ?_
  intro T1 X1
  refine Rt.newRA (pc' := 10) X1 hx hZ hown (own_g hw 16 rfl) (own_g hw 17 rfl) (i := (psR0 p2 p3 p4 v0 v1 v2 v3 v4).length) (own_z p2 p3 p4 v0 v1 v2 v3 v4).2 (own_z p2 p3 p4 v0 v1 v2 v3 v4).1 (cap := 5) (own_GL0 p2 p3 p4 v0 v1 v2 v3 v4).2 (by decide) (hb hby d2_7) (by decide) (by decide) rfl ?_
  intro T2 h2 b7 ha2 X2 E2 A2
  have g3 : n0 ≤ b7 := by rw [ha2]; exact Z0
  have s4 : h0.size ≤ b7 := by rw [ha2]; exact (Keep.refl h0 []).1
  have ne5 : a1 ≠ b7 := by rw [ha2]; exact Nat.ne_of_lt F_A_a1.lt
  have F6 := F_A_a1.ext E2
  have K7 := (Keep.refl h0 []).ext E2
  have Z8 := Nat.le_trans Z0 E2.1
  refine Rt.astore (pc' := 12) (v := (.ref b7)) (l' := #[.val (.ref a1), .val (.int p2), .val (.int p3), .val (.int p4), .val (.ref b7)]) X2 hx (hb hby d2_10) rfl rfl rfl ?_
  refine Rt.aloadN (pc' := 13) X2 hx (hb hby d2_12) rfl rfl rfl ?_
  refine Rt.iloadN (pc' := 14) X2 hx (hb hby d2_13) rfl rfl ?_
  refine Rt.iloadN (pc' := 15) X2 hx (hb hby d2_14) rfl rfl ?_
  refine Rt.iloadN (pc' := 16) X2 hx (hb hby d2_15) rfl rfl ?_
  refine Rt.aload (pc' := 18) X2 hx (hb hby d2_16) rfl rfl rfl ?_
  refine Rt.callS (pc' := 21) X2 hx hZ (y := mt2) hown (own_g hw 13 rfl) (own_g hw 14 rfl) (own_g hw 8 rfl) (own_g hw 15 rfl) (by decide) (rm4R l Z a0 hw [] a1 p2 p3 p4 b7 v0 v1 v2 v3 v4 h2 n0 Z8 F6 A2 g3 ne5) (fun _ _ _ q => q.2.1) (W := 0) (by decide) (by decide) (by decide) (by decide) (argsL := [(.ref a1), (.int p2), (.int p3), (.int p4), (.ref b7)]) (rest := []) (by rw [hml]; rfl) (lenOf pd_0 rfl) rfl rfl (Nat.le_of_eq rfl) (hb hby d2_18) rfl ?_
  rintro _ T9 h9 L9 X9 ⟨rfl, N9, K9, F10⟩
  have F11 := F6.keep K9 (ninS ne5 nin0)
  have K12 := K7.trans K9 (allS (Or.inr s4) all0)
  have Z13 := Nat.le_trans Z8 K9.1
  show Rt _ _ _ _ _ _ _ (T9.setTop (mkF m 21 #[.val (.ref a1), .val (.int p2), .val (.int p3), .val (.int p4), .val (.ref b7)] [(.int (gR0 (0 : Int32) p2 p3 p4 v0 v1 v2 v3 v4))]))
  refine Rt.pop (pc' := 22) X9 hx (hb hby d2_21) rfl rfl ?_
  refine Rt.aload (pc' := 24) X9 hx (hb hby d2_22) rfl rfl rfl ?_
  exact Rt.retA X9 hx hlk (t := (.array (.array .int))) rfl hret rfl (hb hby d2_24) (by decide) (by decide) (fun L N => ⟨b7, s4, rfl, N, K12, F10⟩)
theorem d5_0 : decode method_4_code 0 = .ok (.iconst (-1), 1) := by decide +kernel
theorem d5_1 : decode method_4_code 1 = .ok (.istore_n 3, 1) := by decide +kernel
theorem d5_2 : decode method_4_code 2 = .ok (.iload_n 2, 1) := by decide +kernel
theorem d5_3 : decode method_4_code 3 = .ok (.iconst 4, 1) := by decide +kernel
theorem d5_16 : decode method_4_code 16 = .ok (.iload_n 2, 1) := by decide +kernel
theorem d5_17 : decode method_4_code 17 = .ok (.iconst 3, 1) := by decide +kernel
theorem d5_30 : decode method_4_code 30 = .ok (.iload_n 2, 1) := by decide +kernel
theorem d5_31 : decode method_4_code 31 = .ok (.iconst 2, 1) := by decide +kernel
theorem d5_44 : decode method_4_code 44 = .ok (.iload_n 2, 1) := by decide +kernel
theorem d5_45 : decode method_4_code 45 = .ok (.iconst 1, 1) := by decide +kernel
theorem d5_58 : decode method_4_code 58 = .ok (.iload_n 2, 1) := by decide +kernel
theorem d5_71 : decode method_4_code 71 = .ok (.iload_n 3, 1) := by decide +kernel
theorem d5_72 : decode method_4_code 72 = .ok (.ireturn, 1) := by decide +kernel
theorem d5_59 : decode method_4_code 59 = .ok (.ifCond .ge 12, 3) := by decide +kernel
theorem d5_62 : decode method_4_code 62 = .ok (.aload_n 0, 1) := by decide +kernel
theorem d5_63 : decode method_4_code 63 = .ok (.iconst 0, 1) := by decide +kernel
theorem d5_64 : decode method_4_code 64 = .ok (.iaload, 1) := by decide +kernel
theorem d5_65 : decode method_4_code 65 = .ok (.iload_n 1, 1) := by decide +kernel
theorem d5_66 : decode method_4_code 66 = .ok (.if_icmp .le 5, 3) := by decide +kernel
theorem d5_69 : decode method_4_code 69 = .ok (.iconst 0, 1) := by decide +kernel
theorem d5_70 : decode method_4_code 70 = .ok (.istore_n 3, 1) := by decide +kernel
theorem d5_46 : decode method_4_code 46 = .ok (.if_icmp .ge 12, 3) := by decide +kernel
theorem d5_49 : decode method_4_code 49 = .ok (.aload_n 0, 1) := by decide +kernel
theorem d5_50 : decode method_4_code 50 = .ok (.iconst 1, 1) := by decide +kernel
theorem d5_51 : decode method_4_code 51 = .ok (.iaload, 1) := by decide +kernel
theorem d5_52 : decode method_4_code 52 = .ok (.iload_n 1, 1) := by decide +kernel
theorem d5_53 : decode method_4_code 53 = .ok (.if_icmp .le 5, 3) := by decide +kernel
theorem d5_56 : decode method_4_code 56 = .ok (.iconst 1, 1) := by decide +kernel
theorem d5_57 : decode method_4_code 57 = .ok (.istore_n 3, 1) := by decide +kernel
theorem d5_32 : decode method_4_code 32 = .ok (.if_icmp .ge 12, 3) := by decide +kernel
theorem d5_35 : decode method_4_code 35 = .ok (.aload_n 0, 1) := by decide +kernel
theorem d5_36 : decode method_4_code 36 = .ok (.iconst 2, 1) := by decide +kernel
theorem d5_37 : decode method_4_code 37 = .ok (.iaload, 1) := by decide +kernel
theorem d5_38 : decode method_4_code 38 = .ok (.iload_n 1, 1) := by decide +kernel
theorem d5_39 : decode method_4_code 39 = .ok (.if_icmp .le 5, 3) := by decide +kernel
theorem d5_42 : decode method_4_code 42 = .ok (.iconst 2, 1) := by decide +kernel
theorem d5_43 : decode method_4_code 43 = .ok (.istore_n 3, 1) := by decide +kernel
theorem d5_18 : decode method_4_code 18 = .ok (.if_icmp .ge 12, 3) := by decide +kernel
theorem d5_21 : decode method_4_code 21 = .ok (.aload_n 0, 1) := by decide +kernel
theorem d5_22 : decode method_4_code 22 = .ok (.iconst 3, 1) := by decide +kernel
theorem d5_23 : decode method_4_code 23 = .ok (.iaload, 1) := by decide +kernel
theorem d5_24 : decode method_4_code 24 = .ok (.iload_n 1, 1) := by decide +kernel
theorem d5_25 : decode method_4_code 25 = .ok (.if_icmp .le 5, 3) := by decide +kernel
theorem d5_28 : decode method_4_code 28 = .ok (.iconst 3, 1) := by decide +kernel
theorem d5_29 : decode method_4_code 29 = .ok (.istore_n 3, 1) := by decide +kernel
theorem d5_4 : decode method_4_code 4 = .ok (.if_icmp .ge 12, 3) := by decide +kernel
theorem d5_7 : decode method_4_code 7 = .ok (.aload_n 0, 1) := by decide +kernel
theorem d5_8 : decode method_4_code 8 = .ok (.iconst 4, 1) := by decide +kernel
theorem d5_9 : decode method_4_code 9 = .ok (.iaload, 1) := by decide +kernel
theorem d5_10 : decode method_4_code 10 = .ok (.iload_n 1, 1) := by decide +kernel
theorem d5_11 : decode method_4_code 11 = .ok (.if_icmp .le 5, 3) := by decide +kernel
theorem d5_14 : decode method_4_code 14 = .ok (.iconst 4, 1) := by decide +kernel
theorem d5_15 : decode method_4_code 15 = .ok (.istore_n 3, 1) := by decide +kernel
def f5_j16_l3 (p2 : Int32) (p3 : Int32) (v4 : Int32) : Int32 := (if p3 < (4 : Int32) then (if p2 < v4 then (4 : Int32) else (-1 : Int32)) else (-1 : Int32))
def f5_j30_l3 (p2 : Int32) (p3 : Int32) (v3 : Int32) (v4 : Int32) : Int32 := (if p3 < (3 : Int32) then (if p2 < v3 then (3 : Int32) else (f5_j16_l3 p2 p3 v4)) else (f5_j16_l3 p2 p3 v4))
def f5_j44_l3 (p2 : Int32) (p3 : Int32) (v2 : Int32) (v3 : Int32) (v4 : Int32) : Int32 := (if p3 < (2 : Int32) then (if p2 < v2 then (2 : Int32) else (f5_j30_l3 p2 p3 v3 v4)) else (f5_j30_l3 p2 p3 v3 v4))
def f5_j58_l3 (p2 : Int32) (p3 : Int32) (v1 : Int32) (v2 : Int32) (v3 : Int32) (v4 : Int32) : Int32 := (if p3 < (1 : Int32) then (if p2 < v1 then (1 : Int32) else (f5_j44_l3 p2 p3 v2 v3 v4)) else (f5_j44_l3 p2 p3 v2 v3 v4))
def f5_j71_l3 (p2 : Int32) (p3 : Int32) (v0 : Int32) (v1 : Int32) (v2 : Int32) (v3 : Int32) (v4 : Int32) : Int32 := (if p3 < (0 : Int32) then (if p2 < v0 then (0 : Int32) else (f5_j58_l3 p2 p3 v1 v2 v3 v4)) else (f5_j58_l3 p2 p3 v1 v2 v3 v4))
def f5 (p2 : Int32) (p3 : Int32) (v0 : Int32) (v1 : Int32) (v2 : Int32) (v3 : Int32) (v4 : Int32) : Int32 := (f5_j71_l3 p2 p3 v0 v1 v2 v3 v4)
def Q5 (a1 : Addr) (p2 : Int32) (p3 : Int32) (v0 : Int32) (v1 : Int32) (v2 : Int32) (v3 : Int32) (v4 : Int32) (h0 : Heap) (n0 : Nat) (v : Option Value) (h : Heap) (L : List Loc) : Prop := v = some (.int (f5 p2 p3 v0 v1 v2 v3 v4)) ∧ Fr n0 L ∧ h = h0
def rmR5 : Room := { frames := 0, cells := 0, slots := 0, locals := 0 }
theorem ef_5 (m : MethodId) (a1 : Addr) (p2 : Int32) (p3 : Int32) : entryFrame m #[(.ref a1), (.int p2), (.int p3)] 4 = mkF m 0 #[.val (.ref a1), .val (.int p2), .val (.int p3), .unset] [] := by first | (simp [entryFrame, mkF, argsToLocals, Value.category]; done) | rfl
theorem pn_com_example_tightfold_tightfold_FocusCoverRunsPinLaw : plainName "com/example/tightfold/tightfold/FocusCoverRunsPinLaw" = true := by first | (simp [plainName, overriddenIn]; done) | decide +kernel
set_option maxRecDepth 65536 in
set_option maxHeartbeats 40000000 in
theorem rm5 (l : Launch) (Z : State) (a0 : Array Value) (hw : ∀ d ∈ tables_1, d.before a0 Z = true) (ws : List Jvm.Cond) (a1 : Addr) (p2 : Int32) (p3 : Int32) (v0 : Int32) (v1 : Int32) (v2 : Int32) (v3 : Int32) (v4 : Int32) (h0 : Heap) (n0 : Nat) (F_A_a1 : IA Z h0 a1 .int [(.int v0), (.int v1), (.int v2), (.int v3), (.int v4)]) :
    Mt l Z mt5 (Jvm.Cond.code mt5 method_4_code 4 (some .int) :: ws) rmR5 #[(.ref a1), (.int p2), (.int p3)] h0 (Q5 a1 p2 p3 v0 v1 v2 v3 v4 h0 n0) := by
  refine Mt.of n0 (plainFor_of_name pn_com_example_tightfold_tightfold_FocusCoverRunsPinLaw) ?_
  intro p e s m below meth c T0 X0 hx hZ hby hml hown hret hlk hnm hs0
  have hown : s.vm.findClass "com/example/tightfold/tightfold/FocusCoverRunsPinLaw" = some m.cls := hown
  rw [ef_5]
  show Rt p e below s rmR5.cells rmR5.slots (Q5 a1 p2 p3 v0 v1 v2 v3 v4 h0 n0) (T0.setTop (mkF m 0 #[.val (.ref a1), .val (.int p2), .val (.int p3), .unset] []))
  refine Rt.iconst (pc' := 1) (v := (-1 : Int32)) X0 hx (hb hby d5_0) rfl rfl ?_
  refine Rt.istoreN (pc' := 2) (v := (-1 : Int32)) (l' := #[.val (.ref a1), .val (.int p2), .val (.int p3), .val (.int (-1 : Int32))]) X0 hx (hb hby d5_1) rfl rfl ?_
  refine Rt.iloadN (pc' := 3) X0 hx (hb hby d5_2) rfl rfl ?_
  refine Rt.iconst (pc' := 4) (v := (4 : Int32)) X0 hx (hb hby d5_3) rfl rfl ?_
  have J4_1 : ∀ T1  , Sd p l e rmR5 s m #[(.ref a1), (.int p2), (.int p3)] below meth c T1 n0 0 0 h0 → Rt p e below s rmR5.cells rmR5.slots (Q5 a1 p2 p3 v0 v1 v2 v3 v4 h0 n0) (T1.setTop (mkF m 16 #[.val (.ref a1), .val (.int p2), .val (.int p3), .val (.int (f5_j16_l3 p2 p3 v4))] [])) := by
    intro T1   X1 
    refine Rt.iloadN (pc' := 17) X1 hx (hb hby d5_16) rfl rfl ?_
    refine Rt.iconst (pc' := 18) (v := (3 : Int32)) X1 hx (hb hby d5_17) rfl rfl ?_
    have J18_2 : ∀ T2  , Sd p l e rmR5 s m #[(.ref a1), (.int p2), (.int p3)] below meth c T2 n0 0 0 h0 → Rt p e below s rmR5.cells rmR5.slots (Q5 a1 p2 p3 v0 v1 v2 v3 v4 h0 n0) (T2.setTop (mkF m 30 #[.val (.ref a1), .val (.int p2), .val (.int p3), .val (.int (f5_j30_l3 p2 p3 v3 v4))] [])) := by
      intro T2   X2 
      refine Rt.iloadN (pc' := 31) X2 hx (hb hby d5_30) rfl rfl ?_
      refine Rt.iconst (pc' := 32) (v := (2 : Int32)) X2 hx (hb hby d5_31) rfl rfl ?_
      have J32_3 : ∀ T3  , Sd p l e rmR5 s m #[(.ref a1), (.int p2), (.int p3)] below meth c T3 n0 0 0 h0 → Rt p e below s rmR5.cells rmR5.slots (Q5 a1 p2 p3 v0 v1 v2 v3 v4 h0 n0) (T3.setTop (mkF m 44 #[.val (.ref a1), .val (.int p2), .val (.int p3), .val (.int (f5_j44_l3 p2 p3 v2 v3 v4))] [])) := by
        intro T3   X3 
        refine Rt.iloadN (pc' := 45) X3 hx (hb hby d5_44) rfl rfl ?_
        refine Rt.iconst (pc' := 46) (v := (1 : Int32)) X3 hx (hb hby d5_45) rfl rfl ?_
        have J46_4 : ∀ T4  , Sd p l e rmR5 s m #[(.ref a1), (.int p2), (.int p3)] below meth c T4 n0 0 0 h0 → Rt p e below s rmR5.cells rmR5.slots (Q5 a1 p2 p3 v0 v1 v2 v3 v4 h0 n0) (T4.setTop (mkF m 58 #[.val (.ref a1), .val (.int p2), .val (.int p3), .val (.int (f5_j58_l3 p2 p3 v1 v2 v3 v4))] [])) := by
          intro T4   X4 
          refine Rt.iloadN (pc' := 59) X4 hx (hb hby d5_58) rfl rfl ?_
          have J59_5 : ∀ T5  , Sd p l e rmR5 s m #[(.ref a1), (.int p2), (.int p3)] below meth c T5 n0 0 0 h0 → Rt p e below s rmR5.cells rmR5.slots (Q5 a1 p2 p3 v0 v1 v2 v3 v4 h0 n0) (T5.setTop (mkF m 71 #[.val (.ref a1), .val (.int p2), .val (.int p3), .val (.int (f5_j71_l3 p2 p3 v0 v1 v2 v3 v4))] [])) := by
            intro T5   X5 
            refine Rt.iloadN (pc' := 72) X5 hx (hb hby d5_71) rfl rfl ?_
            exact Rt.retI X5 hx hlk hret (hb hby d5_72) (by decide) (by decide) (fun L N => ⟨congrArg some (congrArg Value.int (by rw [f5])), N, rfl⟩)
          by_cases hc59_6 : p3 < (0 : Int32)
          · refine Rt.ifN (pc' := 62) X4 hx (hb hby d5_59) ((if0 _ _).trans (tlt hc59_6).2.1) rfl ?_
            refine Rt.aloadN (pc' := 63) X4 hx (hb hby d5_62) rfl rfl rfl ?_
            refine Rt.iconst (pc' := 64) (v := (0 : Int32)) X4 hx (hb hby d5_63) rfl rfl ?_
            refine Rt.iaload (pc' := 65) X4 hx hZ F_A_a1 (i := 0) (by decide) (by decide) (v := (.int v0)) rfl (hb hby d5_64) rfl ?_
            refine Rt.iloadN (pc' := 66) X4 hx (hb hby d5_65) rfl rfl ?_
            by_cases hc66_7 : p2 < v0
            · refine Rt.icmpN (pc' := 69) X4 hx (hb hby d5_66) (tlt hc66_7).2.2.2 rfl ?_
              refine Rt.iconst (pc' := 70) (v := (0 : Int32)) X4 hx (hb hby d5_69) rfl rfl ?_
              refine Rt.istoreN (pc' := 71) (v := (0 : Int32)) (l' := #[.val (.ref a1), .val (.int p2), .val (.int p3), .val (.int (0 : Int32))]) X4 hx (hb hby d5_70) rfl rfl ?_
              have q := J59_5 T4   X4
              rw [show (f5_j71_l3 p2 p3 v0 v1 v2 v3 v4) = (0 : Int32) from by rw [f5_j71_l3, if_pos hc59_6, if_pos hc66_7]] at q
              exact q
            · refine Rt.icmpY (pc' := 71) X4 hx (hb hby d5_66) (flt hc66_7).2.2.2 (by decide) (by decide) ?_
              have q := J59_5 T4   X4
              rw [show (f5_j71_l3 p2 p3 v0 v1 v2 v3 v4) = (f5_j58_l3 p2 p3 v1 v2 v3 v4) from by rw [f5_j71_l3, if_pos hc59_6, if_neg hc66_7]] at q
              exact q
          · refine Rt.ifY (pc' := 71) X4 hx (hb hby d5_59) ((if0 _ _).trans (flt hc59_6).2.1) (by decide) (by decide) ?_
            have q := J59_5 T4   X4
            rw [show (f5_j71_l3 p2 p3 v0 v1 v2 v3 v4) = (f5_j58_l3 p2 p3 v1 v2 v3 v4) from by rw [f5_j71_l3, if_neg hc59_6]] at q
            exact q
        by_cases hc46_8 : p3 < (1 : Int32)
        · refine Rt.icmpN (pc' := 49) X3 hx (hb hby d5_46) (tlt hc46_8).2.1 rfl ?_
          refine Rt.aloadN (pc' := 50) X3 hx (hb hby d5_49) rfl rfl rfl ?_
          refine Rt.iconst (pc' := 51) (v := (1 : Int32)) X3 hx (hb hby d5_50) rfl rfl ?_
          refine Rt.iaload (pc' := 52) X3 hx hZ F_A_a1 (i := 1) (by decide) (by decide) (v := (.int v1)) rfl (hb hby d5_51) rfl ?_
          refine Rt.iloadN (pc' := 53) X3 hx (hb hby d5_52) rfl rfl ?_
          by_cases hc53_9 : p2 < v1
          · refine Rt.icmpN (pc' := 56) X3 hx (hb hby d5_53) (tlt hc53_9).2.2.2 rfl ?_
            refine Rt.iconst (pc' := 57) (v := (1 : Int32)) X3 hx (hb hby d5_56) rfl rfl ?_
            refine Rt.istoreN (pc' := 58) (v := (1 : Int32)) (l' := #[.val (.ref a1), .val (.int p2), .val (.int p3), .val (.int (1 : Int32))]) X3 hx (hb hby d5_57) rfl rfl ?_
            have q := J46_4 T3   X3
            rw [show (f5_j58_l3 p2 p3 v1 v2 v3 v4) = (1 : Int32) from by rw [f5_j58_l3, if_pos hc46_8, if_pos hc53_9]] at q
            exact q
          · refine Rt.icmpY (pc' := 58) X3 hx (hb hby d5_53) (flt hc53_9).2.2.2 (by decide) (by decide) ?_
            have q := J46_4 T3   X3
            rw [show (f5_j58_l3 p2 p3 v1 v2 v3 v4) = (f5_j44_l3 p2 p3 v2 v3 v4) from by rw [f5_j58_l3, if_pos hc46_8, if_neg hc53_9]] at q
            exact q
        · refine Rt.icmpY (pc' := 58) X3 hx (hb hby d5_46) (flt hc46_8).2.1 (by decide) (by decide) ?_
          have q := J46_4 T3   X3
          rw [show (f5_j58_l3 p2 p3 v1 v2 v3 v4) = (f5_j44_l3 p2 p3 v2 v3 v4) from by rw [f5_j58_l3, if_neg hc46_8]] at q
          exact q
      by_cases hc32_10 : p3 < (2 : Int32)
      · refine Rt.icmpN (pc' := 35) X2 hx (hb hby d5_32) (tlt hc32_10).2.1 rfl ?_
        refine Rt.aloadN (pc' := 36) X2 hx (hb hby d5_35) rfl rfl rfl ?_
        refine Rt.iconst (pc' := 37) (v := (2 : Int32)) X2 hx (hb hby d5_36) rfl rfl ?_
        refine Rt.iaload (pc' := 38) X2 hx hZ F_A_a1 (i := 2) (by decide) (by decide) (v := (.int v2)) rfl (hb hby d5_37) rfl ?_
        refine Rt.iloadN (pc' := 39) X2 hx (hb hby d5_38) rfl rfl ?_
        by_cases hc39_11 : p2 < v2
        · refine Rt.icmpN (pc' := 42) X2 hx (hb hby d5_39) (tlt hc39_11).2.2.2 rfl ?_
          refine Rt.iconst (pc' := 43) (v := (2 : Int32)) X2 hx (hb hby d5_42) rfl rfl ?_
          refine Rt.istoreN (pc' := 44) (v := (2 : Int32)) (l' := #[.val (.ref a1), .val (.int p2), .val (.int p3), .val (.int (2 : Int32))]) X2 hx (hb hby d5_43) rfl rfl ?_
          have q := J32_3 T2   X2
          rw [show (f5_j44_l3 p2 p3 v2 v3 v4) = (2 : Int32) from by rw [f5_j44_l3, if_pos hc32_10, if_pos hc39_11]] at q
          exact q
        · refine Rt.icmpY (pc' := 44) X2 hx (hb hby d5_39) (flt hc39_11).2.2.2 (by decide) (by decide) ?_
          have q := J32_3 T2   X2
          rw [show (f5_j44_l3 p2 p3 v2 v3 v4) = (f5_j30_l3 p2 p3 v3 v4) from by rw [f5_j44_l3, if_pos hc32_10, if_neg hc39_11]] at q
          exact q
      · refine Rt.icmpY (pc' := 44) X2 hx (hb hby d5_32) (flt hc32_10).2.1 (by decide) (by decide) ?_
        have q := J32_3 T2   X2
        rw [show (f5_j44_l3 p2 p3 v2 v3 v4) = (f5_j30_l3 p2 p3 v3 v4) from by rw [f5_j44_l3, if_neg hc32_10]] at q
        exact q
    by_cases hc18_12 : p3 < (3 : Int32)
    · refine Rt.icmpN (pc' := 21) X1 hx (hb hby d5_18) (tlt hc18_12).2.1 rfl ?_
      refine Rt.aloadN (pc' := 22) X1 hx (hb hby d5_21) rfl rfl rfl ?_
      refine Rt.iconst (pc' := 23) (v := (3 : Int32)) X1 hx (hb hby d5_22) rfl rfl ?_
      refine Rt.iaload (pc' := 24) X1 hx hZ F_A_a1 (i := 3) (by decide) (by decide) (v := (.int v3)) rfl (hb hby d5_23) rfl ?_
      refine Rt.iloadN (pc' := 25) X1 hx (hb hby d5_24) rfl rfl ?_
      by_cases hc25_13 : p2 < v3
      · refine Rt.icmpN (pc' := 28) X1 hx (hb hby d5_25) (tlt hc25_13).2.2.2 rfl ?_
        refine Rt.iconst (pc' := 29) (v := (3 : Int32)) X1 hx (hb hby d5_28) rfl rfl ?_
        refine Rt.istoreN (pc' := 30) (v := (3 : Int32)) (l' := #[.val (.ref a1), .val (.int p2), .val (.int p3), .val (.int (3 : Int32))]) X1 hx (hb hby d5_29) rfl rfl ?_
        have q := J18_2 T1   X1
        rw [show (f5_j30_l3 p2 p3 v3 v4) = (3 : Int32) from by rw [f5_j30_l3, if_pos hc18_12, if_pos hc25_13]] at q
        exact q
      · refine Rt.icmpY (pc' := 30) X1 hx (hb hby d5_25) (flt hc25_13).2.2.2 (by decide) (by decide) ?_
        have q := J18_2 T1   X1
        rw [show (f5_j30_l3 p2 p3 v3 v4) = (f5_j16_l3 p2 p3 v4) from by rw [f5_j30_l3, if_pos hc18_12, if_neg hc25_13]] at q
        exact q
    · refine Rt.icmpY (pc' := 30) X1 hx (hb hby d5_18) (flt hc18_12).2.1 (by decide) (by decide) ?_
      have q := J18_2 T1   X1
      rw [show (f5_j30_l3 p2 p3 v3 v4) = (f5_j16_l3 p2 p3 v4) from by rw [f5_j30_l3, if_neg hc18_12]] at q
      exact q
  by_cases hc4_14 : p3 < (4 : Int32)
  · refine Rt.icmpN (pc' := 7) X0 hx (hb hby d5_4) (tlt hc4_14).2.1 rfl ?_
    refine Rt.aloadN (pc' := 8) X0 hx (hb hby d5_7) rfl rfl rfl ?_
    refine Rt.iconst (pc' := 9) (v := (4 : Int32)) X0 hx (hb hby d5_8) rfl rfl ?_
    refine Rt.iaload (pc' := 10) X0 hx hZ F_A_a1 (i := 4) (by decide) (by decide) (v := (.int v4)) rfl (hb hby d5_9) rfl ?_
    refine Rt.iloadN (pc' := 11) X0 hx (hb hby d5_10) rfl rfl ?_
    by_cases hc11_15 : p2 < v4
    · refine Rt.icmpN (pc' := 14) X0 hx (hb hby d5_11) (tlt hc11_15).2.2.2 rfl ?_
      refine Rt.iconst (pc' := 15) (v := (4 : Int32)) X0 hx (hb hby d5_14) rfl rfl ?_
      refine Rt.istoreN (pc' := 16) (v := (4 : Int32)) (l' := #[.val (.ref a1), .val (.int p2), .val (.int p3), .val (.int (4 : Int32))]) X0 hx (hb hby d5_15) rfl rfl ?_
      have q := J4_1 T0   X0
      rw [show (f5_j16_l3 p2 p3 v4) = (4 : Int32) from by rw [f5_j16_l3, if_pos hc4_14, if_pos hc11_15]] at q
      exact q
    · refine Rt.icmpY (pc' := 16) X0 hx (hb hby d5_11) (flt hc11_15).2.2.2 (by decide) (by decide) ?_
      have q := J4_1 T0   X0
      rw [show (f5_j16_l3 p2 p3 v4) = (-1 : Int32) from by rw [f5_j16_l3, if_pos hc4_14, if_neg hc11_15]] at q
      exact q
  · refine Rt.icmpY (pc' := 16) X0 hx (hb hby d5_4) (flt hc4_14).2.1 (by decide) (by decide) ?_
    have q := J4_1 T0   X0
    rw [show (f5_j16_l3 p2 p3 v4) = (-1 : Int32) from by rw [f5_j16_l3, if_neg hc4_14]] at q
    exact q
theorem d8_0 : decode method_5_code 0 = .ok (.iload_n 2, 1) := by decide +kernel
theorem d8_1 : decode method_5_code 1 = .ok (.iload 4, 2) := by decide +kernel
theorem d8_3 : decode method_5_code 3 = .ok (.if_icmp .gt 21, 3) := by decide +kernel
theorem d8_24 : decode method_5_code 24 = .ok (.iconst 0, 1) := by decide +kernel
theorem d8_25 : decode method_5_code 25 = .ok (.ireturn, 1) := by decide +kernel
theorem d8_6 : decode method_5_code 6 = .ok (.iload 4, 2) := by decide +kernel
theorem d8_8 : decode method_5_code 8 = .ok (.iload_n 3, 1) := by decide +kernel
theorem d8_9 : decode method_5_code 9 = .ok (.if_icmp .gt 15, 3) := by decide +kernel
theorem d8_12 : decode method_5_code 12 = .ok (.aload_n 0, 1) := by decide +kernel
theorem d8_13 : decode method_5_code 13 = .ok (.iload 4, 2) := by decide +kernel
theorem d8_15 : decode method_5_code 15 = .ok (.iaload, 1) := by decide +kernel
theorem d8_16 : decode method_5_code 16 = .ok (.iload_n 1, 1) := by decide +kernel
theorem d8_17 : decode method_5_code 17 = .ok (.if_icmp .gt 7, 3) := by decide +kernel
theorem d8_20 : decode method_5_code 20 = .ok (.iconst 1, 1) := by decide +kernel
theorem d8_21 : decode method_5_code 21 = .ok (.goto 4, 3) := by decide +kernel
def f8_0 (p2 : Int32) (p3 : Int32) (p4 : Int32) (v0 : Int32) : Int32 := (if (0 : Int32) < p3 then (0 : Int32) else (if p4 < (0 : Int32) then (0 : Int32) else (if p2 < v0 then (0 : Int32) else (1 : Int32))))
def Q8_0 (a1 : Addr) (p2 : Int32) (p3 : Int32) (p4 : Int32) (v0 : Int32) (v1 : Int32) (v2 : Int32) (v3 : Int32) (v4 : Int32) (h0 : Heap) (n0 : Nat) (v : Option Value) (h : Heap) (L : List Loc) : Prop := v = some (.int (f8_0 p2 p3 p4 v0)) ∧ Fr n0 L ∧ h = h0
def rmR8_0 : Room := { frames := 0, cells := 0, slots := 0, locals := 0 }
theorem ef_8_0 (m : MethodId) (a1 : Addr) (p2 : Int32) (p3 : Int32) (p4 : Int32) : entryFrame m #[(.ref a1), (.int p2), (.int p3), (.int p4), (.int (0 : Int32))] 5 = mkF m 0 #[.val (.ref a1), .val (.int p2), .val (.int p3), .val (.int p4), .val (.int (0 : Int32))] [] := by first | (simp [entryFrame, mkF, argsToLocals, Value.category]; done) | rfl
set_option maxRecDepth 65536 in
set_option maxHeartbeats 40000000 in
theorem rm8_0 (l : Launch) (Z : State) (a0 : Array Value) (hw : ∀ d ∈ tables_1, d.before a0 Z = true) (ws : List Jvm.Cond) (a1 : Addr) (p2 : Int32) (p3 : Int32) (p4 : Int32) (v0 : Int32) (v1 : Int32) (v2 : Int32) (v3 : Int32) (v4 : Int32) (h0 : Heap) (n0 : Nat) (F_A_a1 : IA Z h0 a1 .int [(.int v0), (.int v1), (.int v2), (.int v3), (.int v4)]) :
    Mt l Z mt6 (Jvm.Cond.code mt6 method_5_code 5 (some .int) :: ws) rmR8_0 #[(.ref a1), (.int p2), (.int p3), (.int p4), (.int (0 : Int32))] h0 (Q8_0 a1 p2 p3 p4 v0 v1 v2 v3 v4 h0 n0) := by
  refine Mt.of n0 (plainFor_of_name pn_com_example_tightfold_tightfold_FocusCoverRunsPinLaw) ?_
  intro p e s m below meth c T0 X0 hx hZ hby hml hown hret hlk hnm hs0
  have hown : s.vm.findClass "com/example/tightfold/tightfold/FocusCoverRunsPinLaw" = some m.cls := hown
  rw [ef_8_0]
  show Rt p e below s rmR8_0.cells rmR8_0.slots (Q8_0 a1 p2 p3 p4 v0 v1 v2 v3 v4 h0 n0) (T0.setTop (mkF m 0 #[.val (.ref a1), .val (.int p2), .val (.int p3), .val (.int p4), .val (.int (0 : Int32))] []))
  refine Rt.iloadN (pc' := 1) X0 hx (hb hby d8_0) rfl rfl ?_
  refine Rt.iload (pc' := 3) X0 hx (hb hby d8_1) rfl rfl ?_
  by_cases hc3_1 : (0 : Int32) < p3
  · refine Rt.icmpY (pc' := 24) X0 hx (hb hby d8_3) (tlt hc3_1).2.2.1 (by decide) (by decide) ?_
    refine Rt.iconst (pc' := 25) (v := (0 : Int32)) X0 hx (hb hby d8_24) rfl rfl ?_
    exact Rt.retI X0 hx hlk hret (hb hby d8_25) (by decide) (by decide) (fun L N => ⟨congrArg some (congrArg Value.int (by rw [f8_0, if_pos hc3_1])), N, rfl⟩)
  · refine Rt.icmpN (pc' := 6) X0 hx (hb hby d8_3) (flt hc3_1).2.2.1 rfl ?_
    refine Rt.iload (pc' := 8) X0 hx (hb hby d8_6) rfl rfl ?_
    refine Rt.iloadN (pc' := 9) X0 hx (hb hby d8_8) rfl rfl ?_
    by_cases hc9_2 : p4 < (0 : Int32)
    · refine Rt.icmpY (pc' := 24) X0 hx (hb hby d8_9) (tlt hc9_2).2.2.1 (by decide) (by decide) ?_
      refine Rt.iconst (pc' := 25) (v := (0 : Int32)) X0 hx (hb hby d8_24) rfl rfl ?_
      exact Rt.retI X0 hx hlk hret (hb hby d8_25) (by decide) (by decide) (fun L N => ⟨congrArg some (congrArg Value.int (by rw [f8_0, if_neg hc3_1, if_pos hc9_2])), N, rfl⟩)
    · refine Rt.icmpN (pc' := 12) X0 hx (hb hby d8_9) (flt hc9_2).2.2.1 rfl ?_
      refine Rt.aloadN (pc' := 13) X0 hx (hb hby d8_12) rfl rfl rfl ?_
      refine Rt.iload (pc' := 15) X0 hx (hb hby d8_13) rfl rfl ?_
      refine Rt.iaload (pc' := 16) X0 hx hZ F_A_a1 (i := 0) (by decide) (by decide) (v := (.int v0)) rfl (hb hby d8_15) rfl ?_
      refine Rt.iloadN (pc' := 17) X0 hx (hb hby d8_16) rfl rfl ?_
      by_cases hc17_3 : p2 < v0
      · refine Rt.icmpY (pc' := 24) X0 hx (hb hby d8_17) (tlt hc17_3).2.2.1 (by decide) (by decide) ?_
        refine Rt.iconst (pc' := 25) (v := (0 : Int32)) X0 hx (hb hby d8_24) rfl rfl ?_
        exact Rt.retI X0 hx hlk hret (hb hby d8_25) (by decide) (by decide) (fun L N => ⟨congrArg some (congrArg Value.int (by rw [f8_0, if_neg hc3_1, if_neg hc9_2, if_pos hc17_3])), N, rfl⟩)
      · refine Rt.icmpN (pc' := 20) X0 hx (hb hby d8_17) (flt hc17_3).2.2.1 rfl ?_
        refine Rt.iconst (pc' := 21) (v := (1 : Int32)) X0 hx (hb hby d8_20) rfl rfl ?_
        refine Rt.goto (pc' := 25) X0 hx (hb hby d8_21) (by decide) (by decide) ?_
        exact Rt.retI X0 hx hlk hret (hb hby d8_25) (by decide) (by decide) (fun L N => ⟨congrArg some (congrArg Value.int (by rw [f8_0, if_neg hc3_1, if_neg hc9_2, if_neg hc17_3])), N, rfl⟩)
def f8_1 (p2 : Int32) (p3 : Int32) (p4 : Int32) (v1 : Int32) : Int32 := (if (1 : Int32) < p3 then (0 : Int32) else (if p4 < (1 : Int32) then (0 : Int32) else (if p2 < v1 then (0 : Int32) else (1 : Int32))))
def Q8_1 (a1 : Addr) (p2 : Int32) (p3 : Int32) (p4 : Int32) (v0 : Int32) (v1 : Int32) (v2 : Int32) (v3 : Int32) (v4 : Int32) (h0 : Heap) (n0 : Nat) (v : Option Value) (h : Heap) (L : List Loc) : Prop := v = some (.int (f8_1 p2 p3 p4 v1)) ∧ Fr n0 L ∧ h = h0
def rmR8_1 : Room := { frames := 0, cells := 0, slots := 0, locals := 0 }
theorem ef_8_1 (m : MethodId) (a1 : Addr) (p2 : Int32) (p3 : Int32) (p4 : Int32) : entryFrame m #[(.ref a1), (.int p2), (.int p3), (.int p4), (.int (1 : Int32))] 5 = mkF m 0 #[.val (.ref a1), .val (.int p2), .val (.int p3), .val (.int p4), .val (.int (1 : Int32))] [] := by first | (simp [entryFrame, mkF, argsToLocals, Value.category]; done) | rfl
set_option maxRecDepth 65536 in
set_option maxHeartbeats 40000000 in
theorem rm8_1 (l : Launch) (Z : State) (a0 : Array Value) (hw : ∀ d ∈ tables_1, d.before a0 Z = true) (ws : List Jvm.Cond) (a1 : Addr) (p2 : Int32) (p3 : Int32) (p4 : Int32) (v0 : Int32) (v1 : Int32) (v2 : Int32) (v3 : Int32) (v4 : Int32) (h0 : Heap) (n0 : Nat) (F_A_a1 : IA Z h0 a1 .int [(.int v0), (.int v1), (.int v2), (.int v3), (.int v4)]) :
    Mt l Z mt6 (Jvm.Cond.code mt6 method_5_code 5 (some .int) :: ws) rmR8_1 #[(.ref a1), (.int p2), (.int p3), (.int p4), (.int (1 : Int32))] h0 (Q8_1 a1 p2 p3 p4 v0 v1 v2 v3 v4 h0 n0) := by
  refine Mt.of n0 (plainFor_of_name pn_com_example_tightfold_tightfold_FocusCoverRunsPinLaw) ?_
  intro p e s m below meth c T0 X0 hx hZ hby hml hown hret hlk hnm hs0
  have hown : s.vm.findClass "com/example/tightfold/tightfold/FocusCoverRunsPinLaw" = some m.cls := hown
  rw [ef_8_1]
  show Rt p e below s rmR8_1.cells rmR8_1.slots (Q8_1 a1 p2 p3 p4 v0 v1 v2 v3 v4 h0 n0) (T0.setTop (mkF m 0 #[.val (.ref a1), .val (.int p2), .val (.int p3), .val (.int p4), .val (.int (1 : Int32))] []))
  refine Rt.iloadN (pc' := 1) X0 hx (hb hby d8_0) rfl rfl ?_
  refine Rt.iload (pc' := 3) X0 hx (hb hby d8_1) rfl rfl ?_
  by_cases hc3_1 : (1 : Int32) < p3
  · refine Rt.icmpY (pc' := 24) X0 hx (hb hby d8_3) (tlt hc3_1).2.2.1 (by decide) (by decide) ?_
    refine Rt.iconst (pc' := 25) (v := (0 : Int32)) X0 hx (hb hby d8_24) rfl rfl ?_
    exact Rt.retI X0 hx hlk hret (hb hby d8_25) (by decide) (by decide) (fun L N => ⟨congrArg some (congrArg Value.int (by rw [f8_1, if_pos hc3_1])), N, rfl⟩)
  · refine Rt.icmpN (pc' := 6) X0 hx (hb hby d8_3) (flt hc3_1).2.2.1 rfl ?_
    refine Rt.iload (pc' := 8) X0 hx (hb hby d8_6) rfl rfl ?_
    refine Rt.iloadN (pc' := 9) X0 hx (hb hby d8_8) rfl rfl ?_
    by_cases hc9_2 : p4 < (1 : Int32)
    · refine Rt.icmpY (pc' := 24) X0 hx (hb hby d8_9) (tlt hc9_2).2.2.1 (by decide) (by decide) ?_
      refine Rt.iconst (pc' := 25) (v := (0 : Int32)) X0 hx (hb hby d8_24) rfl rfl ?_
      exact Rt.retI X0 hx hlk hret (hb hby d8_25) (by decide) (by decide) (fun L N => ⟨congrArg some (congrArg Value.int (by rw [f8_1, if_neg hc3_1, if_pos hc9_2])), N, rfl⟩)
    · refine Rt.icmpN (pc' := 12) X0 hx (hb hby d8_9) (flt hc9_2).2.2.1 rfl ?_
      refine Rt.aloadN (pc' := 13) X0 hx (hb hby d8_12) rfl rfl rfl ?_
      refine Rt.iload (pc' := 15) X0 hx (hb hby d8_13) rfl rfl ?_
      refine Rt.iaload (pc' := 16) X0 hx hZ F_A_a1 (i := 1) (by decide) (by decide) (v := (.int v1)) rfl (hb hby d8_15) rfl ?_
      refine Rt.iloadN (pc' := 17) X0 hx (hb hby d8_16) rfl rfl ?_
      by_cases hc17_3 : p2 < v1
      · refine Rt.icmpY (pc' := 24) X0 hx (hb hby d8_17) (tlt hc17_3).2.2.1 (by decide) (by decide) ?_
        refine Rt.iconst (pc' := 25) (v := (0 : Int32)) X0 hx (hb hby d8_24) rfl rfl ?_
        exact Rt.retI X0 hx hlk hret (hb hby d8_25) (by decide) (by decide) (fun L N => ⟨congrArg some (congrArg Value.int (by rw [f8_1, if_neg hc3_1, if_neg hc9_2, if_pos hc17_3])), N, rfl⟩)
      · refine Rt.icmpN (pc' := 20) X0 hx (hb hby d8_17) (flt hc17_3).2.2.1 rfl ?_
        refine Rt.iconst (pc' := 21) (v := (1 : Int32)) X0 hx (hb hby d8_20) rfl rfl ?_
        refine Rt.goto (pc' := 25) X0 hx (hb hby d8_21) (by decide) (by decide) ?_
        exact Rt.retI X0 hx hlk hret (hb hby d8_25) (by decide) (by decide) (fun L N => ⟨congrArg some (congrArg Value.int (by rw [f8_1, if_neg hc3_1, if_neg hc9_2, if_neg hc17_3])), N, rfl⟩)
def f8_2 (p2 : Int32) (p3 : Int32) (p4 : Int32) (v2 : Int32) : Int32 := (if (2 : Int32) < p3 then (0 : Int32) else (if p4 < (2 : Int32) then (0 : Int32) else (if p2 < v2 then (0 : Int32) else (1 : Int32))))
def Q8_2 (a1 : Addr) (p2 : Int32) (p3 : Int32) (p4 : Int32) (v0 : Int32) (v1 : Int32) (v2 : Int32) (v3 : Int32) (v4 : Int32) (h0 : Heap) (n0 : Nat) (v : Option Value) (h : Heap) (L : List Loc) : Prop := v = some (.int (f8_2 p2 p3 p4 v2)) ∧ Fr n0 L ∧ h = h0
def rmR8_2 : Room := { frames := 0, cells := 0, slots := 0, locals := 0 }
theorem ef_8_2 (m : MethodId) (a1 : Addr) (p2 : Int32) (p3 : Int32) (p4 : Int32) : entryFrame m #[(.ref a1), (.int p2), (.int p3), (.int p4), (.int (2 : Int32))] 5 = mkF m 0 #[.val (.ref a1), .val (.int p2), .val (.int p3), .val (.int p4), .val (.int (2 : Int32))] [] := by first | (simp [entryFrame, mkF, argsToLocals, Value.category]; done) | rfl
set_option maxRecDepth 65536 in
set_option maxHeartbeats 40000000 in
theorem rm8_2 (l : Launch) (Z : State) (a0 : Array Value) (hw : ∀ d ∈ tables_1, d.before a0 Z = true) (ws : List Jvm.Cond) (a1 : Addr) (p2 : Int32) (p3 : Int32) (p4 : Int32) (v0 : Int32) (v1 : Int32) (v2 : Int32) (v3 : Int32) (v4 : Int32) (h0 : Heap) (n0 : Nat) (F_A_a1 : IA Z h0 a1 .int [(.int v0), (.int v1), (.int v2), (.int v3), (.int v4)]) :
    Mt l Z mt6 (Jvm.Cond.code mt6 method_5_code 5 (some .int) :: ws) rmR8_2 #[(.ref a1), (.int p2), (.int p3), (.int p4), (.int (2 : Int32))] h0 (Q8_2 a1 p2 p3 p4 v0 v1 v2 v3 v4 h0 n0) := by
  refine Mt.of n0 (plainFor_of_name pn_com_example_tightfold_tightfold_FocusCoverRunsPinLaw) ?_
  intro p e s m below meth c T0 X0 hx hZ hby hml hown hret hlk hnm hs0
  have hown : s.vm.findClass "com/example/tightfold/tightfold/FocusCoverRunsPinLaw" = some m.cls := hown
  rw [ef_8_2]
  show Rt p e below s rmR8_2.cells rmR8_2.slots (Q8_2 a1 p2 p3 p4 v0 v1 v2 v3 v4 h0 n0) (T0.setTop (mkF m 0 #[.val (.ref a1), .val (.int p2), .val (.int p3), .val (.int p4), .val (.int (2 : Int32))] []))
  refine Rt.iloadN (pc' := 1) X0 hx (hb hby d8_0) rfl rfl ?_
  refine Rt.iload (pc' := 3) X0 hx (hb hby d8_1) rfl rfl ?_
  by_cases hc3_1 : (2 : Int32) < p3
  · refine Rt.icmpY (pc' := 24) X0 hx (hb hby d8_3) (tlt hc3_1).2.2.1 (by decide) (by decide) ?_
    refine Rt.iconst (pc' := 25) (v := (0 : Int32)) X0 hx (hb hby d8_24) rfl rfl ?_
    exact Rt.retI X0 hx hlk hret (hb hby d8_25) (by decide) (by decide) (fun L N => ⟨congrArg some (congrArg Value.int (by rw [f8_2, if_pos hc3_1])), N, rfl⟩)
  · refine Rt.icmpN (pc' := 6) X0 hx (hb hby d8_3) (flt hc3_1).2.2.1 rfl ?_
    refine Rt.iload (pc' := 8) X0 hx (hb hby d8_6) rfl rfl ?_
    refine Rt.iloadN (pc' := 9) X0 hx (hb hby d8_8) rfl rfl ?_
    by_cases hc9_2 : p4 < (2 : Int32)
    · refine Rt.icmpY (pc' := 24) X0 hx (hb hby d8_9) (tlt hc9_2).2.2.1 (by decide) (by decide) ?_
      refine Rt.iconst (pc' := 25) (v := (0 : Int32)) X0 hx (hb hby d8_24) rfl rfl ?_
      exact Rt.retI X0 hx hlk hret (hb hby d8_25) (by decide) (by decide) (fun L N => ⟨congrArg some (congrArg Value.int (by rw [f8_2, if_neg hc3_1, if_pos hc9_2])), N, rfl⟩)
    · refine Rt.icmpN (pc' := 12) X0 hx (hb hby d8_9) (flt hc9_2).2.2.1 rfl ?_
      refine Rt.aloadN (pc' := 13) X0 hx (hb hby d8_12) rfl rfl rfl ?_
      refine Rt.iload (pc' := 15) X0 hx (hb hby d8_13) rfl rfl ?_
      refine Rt.iaload (pc' := 16) X0 hx hZ F_A_a1 (i := 2) (by decide) (by decide) (v := (.int v2)) rfl (hb hby d8_15) rfl ?_
      refine Rt.iloadN (pc' := 17) X0 hx (hb hby d8_16) rfl rfl ?_
      by_cases hc17_3 : p2 < v2
      · refine Rt.icmpY (pc' := 24) X0 hx (hb hby d8_17) (tlt hc17_3).2.2.1 (by decide) (by decide) ?_
        refine Rt.iconst (pc' := 25) (v := (0 : Int32)) X0 hx (hb hby d8_24) rfl rfl ?_
        exact Rt.retI X0 hx hlk hret (hb hby d8_25) (by decide) (by decide) (fun L N => ⟨congrArg some (congrArg Value.int (by rw [f8_2, if_neg hc3_1, if_neg hc9_2, if_pos hc17_3])), N, rfl⟩)
      · refine Rt.icmpN (pc' := 20) X0 hx (hb hby d8_17) (flt hc17_3).2.2.1 rfl ?_
        refine Rt.iconst (pc' := 21) (v := (1 : Int32)) X0 hx (hb hby d8_20) rfl rfl ?_
        refine Rt.goto (pc' := 25) X0 hx (hb hby d8_21) (by decide) (by decide) ?_
        exact Rt.retI X0 hx hlk hret (hb hby d8_25) (by decide) (by decide) (fun L N => ⟨congrArg some (congrArg Value.int (by rw [f8_2, if_neg hc3_1, if_neg hc9_2, if_neg hc17_3])), N, rfl⟩)
def f8_3 (p2 : Int32) (p3 : Int32) (p4 : Int32) (v3 : Int32) : Int32 := (if (3 : Int32) < p3 then (0 : Int32) else (if p4 < (3 : Int32) then (0 : Int32) else (if p2 < v3 then (0 : Int32) else (1 : Int32))))
def Q8_3 (a1 : Addr) (p2 : Int32) (p3 : Int32) (p4 : Int32) (v0 : Int32) (v1 : Int32) (v2 : Int32) (v3 : Int32) (v4 : Int32) (h0 : Heap) (n0 : Nat) (v : Option Value) (h : Heap) (L : List Loc) : Prop := v = some (.int (f8_3 p2 p3 p4 v3)) ∧ Fr n0 L ∧ h = h0
def rmR8_3 : Room := { frames := 0, cells := 0, slots := 0, locals := 0 }
theorem ef_8_3 (m : MethodId) (a1 : Addr) (p2 : Int32) (p3 : Int32) (p4 : Int32) : entryFrame m #[(.ref a1), (.int p2), (.int p3), (.int p4), (.int (3 : Int32))] 5 = mkF m 0 #[.val (.ref a1), .val (.int p2), .val (.int p3), .val (.int p4), .val (.int (3 : Int32))] [] := by first | (simp [entryFrame, mkF, argsToLocals, Value.category]; done) | rfl
set_option maxRecDepth 65536 in
set_option maxHeartbeats 40000000 in
theorem rm8_3 (l : Launch) (Z : State) (a0 : Array Value) (hw : ∀ d ∈ tables_1, d.before a0 Z = true) (ws : List Jvm.Cond) (a1 : Addr) (p2 : Int32) (p3 : Int32) (p4 : Int32) (v0 : Int32) (v1 : Int32) (v2 : Int32) (v3 : Int32) (v4 : Int32) (h0 : Heap) (n0 : Nat) (F_A_a1 : IA Z h0 a1 .int [(.int v0), (.int v1), (.int v2), (.int v3), (.int v4)]) :
    Mt l Z mt6 (Jvm.Cond.code mt6 method_5_code 5 (some .int) :: ws) rmR8_3 #[(.ref a1), (.int p2), (.int p3), (.int p4), (.int (3 : Int32))] h0 (Q8_3 a1 p2 p3 p4 v0 v1 v2 v3 v4 h0 n0) := by
  refine Mt.of n0 (plainFor_of_name pn_com_example_tightfold_tightfold_FocusCoverRunsPinLaw) ?_
  intro p e s m below meth c T0 X0 hx hZ hby hml hown hret hlk hnm hs0
  have hown : s.vm.findClass "com/example/tightfold/tightfold/FocusCoverRunsPinLaw" = some m.cls := hown
  rw [ef_8_3]
  show Rt p e below s rmR8_3.cells rmR8_3.slots (Q8_3 a1 p2 p3 p4 v0 v1 v2 v3 v4 h0 n0) (T0.setTop (mkF m 0 #[.val (.ref a1), .val (.int p2), .val (.int p3), .val (.int p4), .val (.int (3 : Int32))] []))
  refine Rt.iloadN (pc' := 1) X0 hx (hb hby d8_0) rfl rfl ?_
  refine Rt.iload (pc' := 3) X0 hx (hb hby d8_1) rfl rfl ?_
  by_cases hc3_1 : (3 : Int32) < p3
  · refine Rt.icmpY (pc' := 24) X0 hx (hb hby d8_3) (tlt hc3_1).2.2.1 (by decide) (by decide) ?_
    refine Rt.iconst (pc' := 25) (v := (0 : Int32)) X0 hx (hb hby d8_24) rfl rfl ?_
    exact Rt.retI X0 hx hlk hret (hb hby d8_25) (by decide) (by decide) (fun L N => ⟨congrArg some (congrArg Value.int (by rw [f8_3, if_pos hc3_1])), N, rfl⟩)
  · refine Rt.icmpN (pc' := 6) X0 hx (hb hby d8_3) (flt hc3_1).2.2.1 rfl ?_
    refine Rt.iload (pc' := 8) X0 hx (hb hby d8_6) rfl rfl ?_
    refine Rt.iloadN (pc' := 9) X0 hx (hb hby d8_8) rfl rfl ?_
    by_cases hc9_2 : p4 < (3 : Int32)
    · refine Rt.icmpY (pc' := 24) X0 hx (hb hby d8_9) (tlt hc9_2).2.2.1 (by decide) (by decide) ?_
      refine Rt.iconst (pc' := 25) (v := (0 : Int32)) X0 hx (hb hby d8_24) rfl rfl ?_
      exact Rt.retI X0 hx hlk hret (hb hby d8_25) (by decide) (by decide) (fun L N => ⟨congrArg some (congrArg Value.int (by rw [f8_3, if_neg hc3_1, if_pos hc9_2])), N, rfl⟩)
    · refine Rt.icmpN (pc' := 12) X0 hx (hb hby d8_9) (flt hc9_2).2.2.1 rfl ?_
      refine Rt.aloadN (pc' := 13) X0 hx (hb hby d8_12) rfl rfl rfl ?_
      refine Rt.iload (pc' := 15) X0 hx (hb hby d8_13) rfl rfl ?_
      refine Rt.iaload (pc' := 16) X0 hx hZ F_A_a1 (i := 3) (by decide) (by decide) (v := (.int v3)) rfl (hb hby d8_15) rfl ?_
      refine Rt.iloadN (pc' := 17) X0 hx (hb hby d8_16) rfl rfl ?_
      by_cases hc17_3 : p2 < v3
      · refine Rt.icmpY (pc' := 24) X0 hx (hb hby d8_17) (tlt hc17_3).2.2.1 (by decide) (by decide) ?_
        refine Rt.iconst (pc' := 25) (v := (0 : Int32)) X0 hx (hb hby d8_24) rfl rfl ?_
        exact Rt.retI X0 hx hlk hret (hb hby d8_25) (by decide) (by decide) (fun L N => ⟨congrArg some (congrArg Value.int (by rw [f8_3, if_neg hc3_1, if_neg hc9_2, if_pos hc17_3])), N, rfl⟩)
      · refine Rt.icmpN (pc' := 20) X0 hx (hb hby d8_17) (flt hc17_3).2.2.1 rfl ?_
        refine Rt.iconst (pc' := 21) (v := (1 : Int32)) X0 hx (hb hby d8_20) rfl rfl ?_
        refine Rt.goto (pc' := 25) X0 hx (hb hby d8_21) (by decide) (by decide) ?_
        exact Rt.retI X0 hx hlk hret (hb hby d8_25) (by decide) (by decide) (fun L N => ⟨congrArg some (congrArg Value.int (by rw [f8_3, if_neg hc3_1, if_neg hc9_2, if_neg hc17_3])), N, rfl⟩)
def f8_4 (p2 : Int32) (p3 : Int32) (p4 : Int32) (v4 : Int32) : Int32 := (if (4 : Int32) < p3 then (0 : Int32) else (if p4 < (4 : Int32) then (0 : Int32) else (if p2 < v4 then (0 : Int32) else (1 : Int32))))
def Q8_4 (a1 : Addr) (p2 : Int32) (p3 : Int32) (p4 : Int32) (v0 : Int32) (v1 : Int32) (v2 : Int32) (v3 : Int32) (v4 : Int32) (h0 : Heap) (n0 : Nat) (v : Option Value) (h : Heap) (L : List Loc) : Prop := v = some (.int (f8_4 p2 p3 p4 v4)) ∧ Fr n0 L ∧ h = h0
def rmR8_4 : Room := { frames := 0, cells := 0, slots := 0, locals := 0 }
theorem ef_8_4 (m : MethodId) (a1 : Addr) (p2 : Int32) (p3 : Int32) (p4 : Int32) : entryFrame m #[(.ref a1), (.int p2), (.int p3), (.int p4), (.int (4 : Int32))] 5 = mkF m 0 #[.val (.ref a1), .val (.int p2), .val (.int p3), .val (.int p4), .val (.int (4 : Int32))] [] := by first | (simp [entryFrame, mkF, argsToLocals, Value.category]; done) | rfl
set_option maxRecDepth 65536 in
set_option maxHeartbeats 40000000 in
theorem rm8_4 (l : Launch) (Z : State) (a0 : Array Value) (hw : ∀ d ∈ tables_1, d.before a0 Z = true) (ws : List Jvm.Cond) (a1 : Addr) (p2 : Int32) (p3 : Int32) (p4 : Int32) (v0 : Int32) (v1 : Int32) (v2 : Int32) (v3 : Int32) (v4 : Int32) (h0 : Heap) (n0 : Nat) (F_A_a1 : IA Z h0 a1 .int [(.int v0), (.int v1), (.int v2), (.int v3), (.int v4)]) :
    Mt l Z mt6 (Jvm.Cond.code mt6 method_5_code 5 (some .int) :: ws) rmR8_4 #[(.ref a1), (.int p2), (.int p3), (.int p4), (.int (4 : Int32))] h0 (Q8_4 a1 p2 p3 p4 v0 v1 v2 v3 v4 h0 n0) := by
  refine Mt.of n0 (plainFor_of_name pn_com_example_tightfold_tightfold_FocusCoverRunsPinLaw) ?_
  intro p e s m below meth c T0 X0 hx hZ hby hml hown hret hlk hnm hs0
  have hown : s.vm.findClass "com/example/tightfold/tightfold/FocusCoverRunsPinLaw" = some m.cls := hown
  rw [ef_8_4]
  show Rt p e below s rmR8_4.cells rmR8_4.slots (Q8_4 a1 p2 p3 p4 v0 v1 v2 v3 v4 h0 n0) (T0.setTop (mkF m 0 #[.val (.ref a1), .val (.int p2), .val (.int p3), .val (.int p4), .val (.int (4 : Int32))] []))
  refine Rt.iloadN (pc' := 1) X0 hx (hb hby d8_0) rfl rfl ?_
  refine Rt.iload (pc' := 3) X0 hx (hb hby d8_1) rfl rfl ?_
  by_cases hc3_1 : (4 : Int32) < p3
  · refine Rt.icmpY (pc' := 24) X0 hx (hb hby d8_3) (tlt hc3_1).2.2.1 (by decide) (by decide) ?_
    refine Rt.iconst (pc' := 25) (v := (0 : Int32)) X0 hx (hb hby d8_24) rfl rfl ?_
    exact Rt.retI X0 hx hlk hret (hb hby d8_25) (by decide) (by decide) (fun L N => ⟨congrArg some (congrArg Value.int (by rw [f8_4, if_pos hc3_1])), N, rfl⟩)
  · refine Rt.icmpN (pc' := 6) X0 hx (hb hby d8_3) (flt hc3_1).2.2.1 rfl ?_
    refine Rt.iload (pc' := 8) X0 hx (hb hby d8_6) rfl rfl ?_
    refine Rt.iloadN (pc' := 9) X0 hx (hb hby d8_8) rfl rfl ?_
    by_cases hc9_2 : p4 < (4 : Int32)
    · refine Rt.icmpY (pc' := 24) X0 hx (hb hby d8_9) (tlt hc9_2).2.2.1 (by decide) (by decide) ?_
      refine Rt.iconst (pc' := 25) (v := (0 : Int32)) X0 hx (hb hby d8_24) rfl rfl ?_
      exact Rt.retI X0 hx hlk hret (hb hby d8_25) (by decide) (by decide) (fun L N => ⟨congrArg some (congrArg Value.int (by rw [f8_4, if_neg hc3_1, if_pos hc9_2])), N, rfl⟩)
    · refine Rt.icmpN (pc' := 12) X0 hx (hb hby d8_9) (flt hc9_2).2.2.1 rfl ?_
      refine Rt.aloadN (pc' := 13) X0 hx (hb hby d8_12) rfl rfl rfl ?_
      refine Rt.iload (pc' := 15) X0 hx (hb hby d8_13) rfl rfl ?_
      refine Rt.iaload (pc' := 16) X0 hx hZ F_A_a1 (i := 4) (by decide) (by decide) (v := (.int v4)) rfl (hb hby d8_15) rfl ?_
      refine Rt.iloadN (pc' := 17) X0 hx (hb hby d8_16) rfl rfl ?_
      by_cases hc17_3 : p2 < v4
      · refine Rt.icmpY (pc' := 24) X0 hx (hb hby d8_17) (tlt hc17_3).2.2.1 (by decide) (by decide) ?_
        refine Rt.iconst (pc' := 25) (v := (0 : Int32)) X0 hx (hb hby d8_24) rfl rfl ?_
        exact Rt.retI X0 hx hlk hret (hb hby d8_25) (by decide) (by decide) (fun L N => ⟨congrArg some (congrArg Value.int (by rw [f8_4, if_neg hc3_1, if_neg hc9_2, if_pos hc17_3])), N, rfl⟩)
      · refine Rt.icmpN (pc' := 20) X0 hx (hb hby d8_17) (flt hc17_3).2.2.1 rfl ?_
        refine Rt.iconst (pc' := 21) (v := (1 : Int32)) X0 hx (hb hby d8_20) rfl rfl ?_
        refine Rt.goto (pc' := 25) X0 hx (hb hby d8_21) (by decide) (by decide) ?_
        exact Rt.retI X0 hx hlk hret (hb hby d8_25) (by decide) (by decide) (fun L N => ⟨congrArg some (congrArg Value.int (by rw [f8_4, if_neg hc3_1, if_neg hc9_2, if_neg hc17_3])), N, rfl⟩)
theorem d7_0 : decode method_6_code 0 = .ok (.aload_n 0, 1) := by decide +kernel
theorem d7_1 : decode method_6_code 1 = .ok (.iload_n 1, 1) := by decide +kernel
theorem d7_2 : decode method_6_code 2 = .ok (.iload_n 2, 1) := by decide +kernel
theorem d7_3 : decode method_6_code 3 = .ok (.iload_n 3, 1) := by decide +kernel
theorem d7_4 : decode method_6_code 4 = .ok (.iconst 0, 1) := by decide +kernel
theorem pd_2 : parseMethodDescriptor "([IIIII)I" = some ⟨[(.array .int), .int, .int, .int, .int], some .int⟩ := by decide +kernel
theorem d7_5 : decode method_6_code 5 = .ok (.invokestatic 34, 3) := by decide +kernel
theorem d7_8 : decode method_6_code 8 = .ok (.aload_n 0, 1) := by decide +kernel
theorem d7_9 : decode method_6_code 9 = .ok (.iload_n 1, 1) := by decide +kernel
theorem d7_10 : decode method_6_code 10 = .ok (.iload_n 2, 1) := by decide +kernel
theorem d7_11 : decode method_6_code 11 = .ok (.iload_n 3, 1) := by decide +kernel
theorem d7_12 : decode method_6_code 12 = .ok (.iconst 1, 1) := by decide +kernel
theorem d7_13 : decode method_6_code 13 = .ok (.invokestatic 34, 3) := by decide +kernel
theorem d7_16 : decode method_6_code 16 = .ok (.iadd, 1) := by decide +kernel
theorem d7_17 : decode method_6_code 17 = .ok (.aload_n 0, 1) := by decide +kernel
theorem d7_18 : decode method_6_code 18 = .ok (.iload_n 1, 1) := by decide +kernel
theorem d7_19 : decode method_6_code 19 = .ok (.iload_n 2, 1) := by decide +kernel
theorem d7_20 : decode method_6_code 20 = .ok (.iload_n 3, 1) := by decide +kernel
theorem d7_21 : decode method_6_code 21 = .ok (.iconst 2, 1) := by decide +kernel
theorem d7_22 : decode method_6_code 22 = .ok (.invokestatic 34, 3) := by decide +kernel
theorem d7_25 : decode method_6_code 25 = .ok (.iadd, 1) := by decide +kernel
theorem d7_26 : decode method_6_code 26 = .ok (.aload_n 0, 1) := by decide +kernel
theorem d7_27 : decode method_6_code 27 = .ok (.iload_n 1, 1) := by decide +kernel
theorem d7_28 : decode method_6_code 28 = .ok (.iload_n 2, 1) := by decide +kernel
theorem d7_29 : decode method_6_code 29 = .ok (.iload_n 3, 1) := by decide +kernel
theorem d7_30 : decode method_6_code 30 = .ok (.iconst 3, 1) := by decide +kernel
theorem d7_31 : decode method_6_code 31 = .ok (.invokestatic 34, 3) := by decide +kernel
theorem d7_34 : decode method_6_code 34 = .ok (.iadd, 1) := by decide +kernel
theorem d7_35 : decode method_6_code 35 = .ok (.aload_n 0, 1) := by decide +kernel
theorem d7_36 : decode method_6_code 36 = .ok (.iload_n 1, 1) := by decide +kernel
theorem d7_37 : decode method_6_code 37 = .ok (.iload_n 2, 1) := by decide +kernel
theorem d7_38 : decode method_6_code 38 = .ok (.iload_n 3, 1) := by decide +kernel
theorem d7_39 : decode method_6_code 39 = .ok (.iconst 4, 1) := by decide +kernel
theorem d7_40 : decode method_6_code 40 = .ok (.invokestatic 34, 3) := by decide +kernel
theorem d7_43 : decode method_6_code 43 = .ok (.iadd, 1) := by decide +kernel
theorem d7_44 : decode method_6_code 44 = .ok (.ireturn, 1) := by decide +kernel
def f7 (p2 : Int32) (p3 : Int32) (p4 : Int32) (v0 : Int32) (v1 : Int32) (v2 : Int32) (v3 : Int32) (v4 : Int32) : Int32 := (((((f8_0 p2 p3 p4 v0) + (f8_1 p2 p3 p4 v1)) + (f8_2 p2 p3 p4 v2)) + (f8_3 p2 p3 p4 v3)) + (f8_4 p2 p3 p4 v4))
def Q7 (a1 : Addr) (p2 : Int32) (p3 : Int32) (p4 : Int32) (v0 : Int32) (v1 : Int32) (v2 : Int32) (v3 : Int32) (v4 : Int32) (h0 : Heap) (n0 : Nat) (v : Option Value) (h : Heap) (L : List Loc) : Prop := v = some (.int (f7 p2 p3 p4 v0 v1 v2 v3 v4)) ∧ Fr n0 L ∧ h = h0
def rmR7 : Room := { frames := 1, cells := 0, slots := 0, locals := 17 }
theorem ef_7 (m : MethodId) (a1 : Addr) (p2 : Int32) (p3 : Int32) (p4 : Int32) : entryFrame m #[(.ref a1), (.int p2), (.int p3), (.int p4)] 4 = mkF m 0 #[.val (.ref a1), .val (.int p2), .val (.int p3), .val (.int p4)] [] := by first | (simp [entryFrame, mkF, argsToLocals, Value.category]; done) | rfl
set_option maxRecDepth 65536 in
set_option maxHeartbeats 40000000 in
theorem rm7 (l : Launch) (Z : State) (a0 : Array Value) (hw : ∀ d ∈ tables_1, d.before a0 Z = true) (ws : List Jvm.Cond) (a1 : Addr) (p2 : Int32) (p3 : Int32) (p4 : Int32) (v0 : Int32) (v1 : Int32) (v2 : Int32) (v3 : Int32) (v4 : Int32) (h0 : Heap) (n0 : Nat) (F_A_a1 : IA Z h0 a1 .int [(.int v0), (.int v1), (.int v2), (.int v3), (.int v4)]) :
    Mt l Z mt7 (Jvm.Cond.code mt7 method_6_code 4 (some .int) :: ws) rmR7 #[(.ref a1), (.int p2), (.int p3), (.int p4)] h0 (Q7 a1 p2 p3 p4 v0 v1 v2 v3 v4 h0 n0) := by
  refine Mt.of n0 (plainFor_of_name pn_com_example_tightfold_tightfold_FocusCoverRunsPinLaw) ?_
  intro p e s m below meth c T0 X0 hx hZ hby hml hown hret hlk hnm hs0
  have hown : s.vm.findClass "com/example/tightfold/tightfold/FocusCoverRunsPinLaw" = some m.cls := hown
  rw [ef_7]
  show Rt p e below s rmR7.cells rmR7.slots (Q7 a1 p2 p3 p4 v0 v1 v2 v3 v4 h0 n0) (T0.setTop (mkF m 0 #[.val (.ref a1), .val (.int p2), .val (.int p3), .val (.int p4)] []))
  refine Rt.aloadN (pc' := 1) X0 hx (hb hby d7_0) rfl rfl rfl ?_
  refine Rt.iloadN (pc' := 2) X0 hx (hb hby d7_1) rfl rfl ?_
  refine Rt.iloadN (pc' := 3) X0 hx (hb hby d7_2) rfl rfl ?_
  refine Rt.iloadN (pc' := 4) X0 hx (hb hby d7_3) rfl rfl ?_
  refine Rt.iconst (pc' := 5) (v := (0 : Int32)) X0 hx (hb hby d7_4) rfl rfl ?_
  refine Rt.callP (pc' := 8) (r := (.int (f8_0 p2 p3 p4 v0))) X0 hx hZ (y := mt6) hown (own_g hw 29 rfl) (own_g hw 30 rfl) (own_g hw 20 rfl) (own_g hw 31 rfl) (by decide) (rm8_0 l Z a0 hw [] a1 p2 p3 p4 v0 v1 v2 v3 v4 h0 n0 F_A_a1) (W := 0) (by decide) (by decide) (by decide) (by decide) rfl rfl (argsL := [(.ref a1), (.int p2), (.int p3), (.int p4), (.int (0 : Int32))]) (rest := []) (by rw [hml]; rfl) (lenOf pd_2 rfl) rfl rfl (Nat.le_of_eq rfl) (hb hby d7_5) rfl ?_
  intro T1 X1
  refine Rt.aloadN (pc' := 9) X1 hx (hb hby d7_8) rfl rfl rfl ?_
  refine Rt.iloadN (pc' := 10) X1 hx (hb hby d7_9) rfl rfl ?_
  refine Rt.iloadN (pc' := 11) X1 hx (hb hby d7_10) rfl rfl ?_
  refine Rt.iloadN (pc' := 12) X1 hx (hb hby d7_11) rfl rfl ?_
  refine Rt.iconst (pc' := 13) (v := (1 : Int32)) X1 hx (hb hby d7_12) rfl rfl ?_
  refine Rt.callP (pc' := 16) (r := (.int (f8_1 p2 p3 p4 v1))) X1 hx hZ (y := mt6) hown (own_g hw 29 rfl) (own_g hw 30 rfl) (own_g hw 20 rfl) (own_g hw 31 rfl) (by decide) (rm8_1 l Z a0 hw [] a1 p2 p3 p4 v0 v1 v2 v3 v4 h0 n0 F_A_a1) (W := 1) (by decide) (by decide) (by decide) (by decide) rfl rfl (argsL := [(.ref a1), (.int p2), (.int p3), (.int p4), (.int (1 : Int32))]) (rest := [(.int (f8_0 p2 p3 p4 v0))]) (by rw [hml]; rfl) (lenOf pd_2 rfl) rfl rfl (Nat.le_of_eq rfl) (hb hby d7_13) rfl ?_
  intro T2 X2
  refine Rt.iadd (pc' := 17) (r := ((f8_0 p2 p3 p4 v0) + (f8_1 p2 p3 p4 v1))) X2 hx (hb hby d7_16) rfl rfl ?_
  refine Rt.aloadN (pc' := 18) X2 hx (hb hby d7_17) rfl rfl rfl ?_
  refine Rt.iloadN (pc' := 19) X2 hx (hb hby d7_18) rfl rfl ?_
  refine Rt.iloadN (pc' := 20) X2 hx (hb hby d7_19) rfl rfl ?_
  refine Rt.iloadN (pc' := 21) X2 hx (hb hby d7_20) rfl rfl ?_
  refine Rt.iconst (pc' := 22) (v := (2 : Int32)) X2 hx (hb hby d7_21) rfl rfl ?_
  refine Rt.callP (pc' := 25) (r := (.int (f8_2 p2 p3 p4 v2))) X2 hx hZ (y := mt6) hown (own_g hw 29 rfl) (own_g hw 30 rfl) (own_g hw 20 rfl) (own_g hw 31 rfl) (by decide) (rm8_2 l Z a0 hw [] a1 p2 p3 p4 v0 v1 v2 v3 v4 h0 n0 F_A_a1) (W := 1) (by decide) (by decide) (by decide) (by decide) rfl rfl (argsL := [(.ref a1), (.int p2), (.int p3), (.int p4), (.int (2 : Int32))]) (rest := [(.int ((f8_0 p2 p3 p4 v0) + (f8_1 p2 p3 p4 v1)))]) (by rw [hml]; rfl) (lenOf pd_2 rfl) rfl rfl (Nat.le_of_eq rfl) (hb hby d7_22) rfl ?_
  intro T3 X3
  refine Rt.iadd (pc' := 26) (r := (((f8_0 p2 p3 p4 v0) + (f8_1 p2 p3 p4 v1)) + (f8_2 p2 p3 p4 v2))) X3 hx (hb hby d7_25) rfl rfl ?_
  refine Rt.aloadN (pc' := 27) X3 hx (hb hby d7_26) rfl rfl rfl ?_
  refine Rt.iloadN (pc' := 28) X3 hx (hb hby d7_27) rfl rfl ?_
  refine Rt.iloadN (pc' := 29) X3 hx (hb hby d7_28) rfl rfl ?_
  refine Rt.iloadN (pc' := 30) X3 hx (hb hby d7_29) rfl rfl ?_
  refine Rt.iconst (pc' := 31) (v := (3 : Int32)) X3 hx (hb hby d7_30) rfl rfl ?_
  refine Rt.callP (pc' := 34) (r := (.int (f8_3 p2 p3 p4 v3))) X3 hx hZ (y := mt6) hown (own_g hw 29 rfl) (own_g hw 30 rfl) (own_g hw 20 rfl) (own_g hw 31 rfl) (by decide) (rm8_3 l Z a0 hw [] a1 p2 p3 p4 v0 v1 v2 v3 v4 h0 n0 F_A_a1) (W := 1) (by decide) (by decide) (by decide) (by decide) rfl rfl (argsL := [(.ref a1), (.int p2), (.int p3), (.int p4), (.int (3 : Int32))]) (rest := [(.int (((f8_0 p2 p3 p4 v0) + (f8_1 p2 p3 p4 v1)) + (f8_2 p2 p3 p4 v2)))]) (by rw [hml]; rfl) (lenOf pd_2 rfl) rfl rfl (Nat.le_of_eq rfl) (hb hby d7_31) rfl ?_
  intro T4 X4
  refine Rt.iadd (pc' := 35) (r := ((((f8_0 p2 p3 p4 v0) + (f8_1 p2 p3 p4 v1)) + (f8_2 p2 p3 p4 v2)) + (f8_3 p2 p3 p4 v3))) X4 hx (hb hby d7_34) rfl rfl ?_
  refine Rt.aloadN (pc' := 36) X4 hx (hb hby d7_35) rfl rfl rfl ?_
  refine Rt.iloadN (pc' := 37) X4 hx (hb hby d7_36) rfl rfl ?_
  refine Rt.iloadN (pc' := 38) X4 hx (hb hby d7_37) rfl rfl ?_
  refine Rt.iloadN (pc' := 39) X4 hx (hb hby d7_38) rfl rfl ?_
  refine Rt.iconst (pc' := 40) (v := (4 : Int32)) X4 hx (hb hby d7_39) rfl rfl ?_
  refine Rt.callP (pc' := 43) (r := (.int (f8_4 p2 p3 p4 v4))) X4 hx hZ (y := mt6) hown (own_g hw 29 rfl) (own_g hw 30 rfl) (own_g hw 20 rfl) (own_g hw 31 rfl) (by decide) (rm8_4 l Z a0 hw [] a1 p2 p3 p4 v0 v1 v2 v3 v4 h0 n0 F_A_a1) (W := 1) (by decide) (by decide) (by decide) (by decide) rfl rfl (argsL := [(.ref a1), (.int p2), (.int p3), (.int p4), (.int (4 : Int32))]) (rest := [(.int ((((f8_0 p2 p3 p4 v0) + (f8_1 p2 p3 p4 v1)) + (f8_2 p2 p3 p4 v2)) + (f8_3 p2 p3 p4 v3)))]) (by rw [hml]; rfl) (lenOf pd_2 rfl) rfl rfl (Nat.le_of_eq rfl) (hb hby d7_40) rfl ?_
  intro T5 X5
  refine Rt.iadd (pc' := 44) (r := (((((f8_0 p2 p3 p4 v0) + (f8_1 p2 p3 p4 v1)) + (f8_2 p2 p3 p4 v2)) + (f8_3 p2 p3 p4 v3)) + (f8_4 p2 p3 p4 v4))) X5 hx (hb hby d7_43) rfl rfl ?_
  exact Rt.retI X5 hx hlk hret (hb hby d7_44) (by decide) (by decide) (fun L N => ⟨congrArg some (congrArg Value.int (by rw [f7])), N, rfl⟩)
def own_at (v0 v1 v2 v3 v4 i : Int32) : Int32 := if i = 0 then v0 else if i = 1 then v1 else if i = 2 then v2 else if i = 3 then v3 else v4
theorem own_ix {v0 v1 v2 v3 v4 i : Int32} (h1 : ¬ i < (0 : Int32)) (h2 : ¬ (4 : Int32) < i) : [Value.int v0, .int v1, .int v2, .int v3, .int v4][i.toNatClampNeg]? = some (.int (own_at v0 v1 v2 v3 v4 i)) := by
  have l0 : (0 : Int32).toInt = 0 := by decide
  have l1 : (1 : Int32).toInt = 1 := by decide
  have l2 : (2 : Int32).toInt = 2 := by decide
  have l3 : (3 : Int32).toInt = 3 := by decide
  have l4 : (4 : Int32).toInt = 4 := by decide
  have q : i = 0 ∨ i = 1 ∨ i = 2 ∨ i = 3 ∨ i = 4 := by
    simp only [Int32.lt_iff_toInt_lt, ← Int32.toInt_inj] at *
    omega
  rcases q with rfl | rfl | rfl | rfl | rfl <;> rfl
theorem own_le {s e : Int32} (h1 : ¬ s < (0 : Int32)) (h2 : ¬ e < s) : ¬ e < (0 : Int32) := by
  simp only [Int32.lt_iff_toInt_lt] at *
  omega
theorem own_ge {s e : Int32} (h2 : ¬ e < s) (h3 : ¬ (4 : Int32) < e) : ¬ (4 : Int32) < s := by
  simp only [Int32.lt_iff_toInt_lt] at *
  omega
theorem own_tl {t : Int32} {N : Nat} (hb : N ≤ 5) (h : t < N.toInt32) (h0 : ¬ t < 0) : t.toNatClampNeg < N := by
  have e : t.toNatClampNeg = t.toInt.toNat := rfl
  have w : N.toInt32.toInt = N := by
    have q : N = 0 ∨ N = 1 ∨ N = 2 ∨ N = 3 ∨ N = 4 ∨ N = 5 := by omega
    rcases q with rfl | rfl | rfl | rfl | rfl | rfl <;> decide
  have l0 : (0 : Int32).toInt = 0 := by decide
  simp only [Int32.lt_iff_toInt_lt] at *
  omega
theorem own_pt {ps : List (Int32 × Int32)} {t : Nat} (h : t < ps.length) : ps[t]? = some (ps.getD t ((0 : Int32), (0 : Int32))) := by
  rw [List.getD_eq_getElem?_getD, List.getElem?_eq_getElem h]; rfl
theorem d6_0 : decode method_3_code 0 = .ok (.iload_n 1, 1) := by decide +kernel
theorem d6_1 : decode method_3_code 1 = .ok (.aload_n 0, 1) := by decide +kernel
theorem d6_2 : decode method_3_code 2 = .ok (.arraylength, 1) := by decide +kernel
theorem d6_3 : decode method_3_code 3 = .ok (.if_icmp .lt 5, 3) := by decide +kernel
theorem d6_8 : decode method_3_code 8 = .ok (.aload_n 0, 1) := by decide +kernel
theorem d6_9 : decode method_3_code 9 = .ok (.iload_n 1, 1) := by decide +kernel
theorem d6_10 : decode method_3_code 10 = .ok (.aaload, 1) := by decide +kernel
theorem d6_11 : decode method_3_code 11 = .ok (.astore 6, 2) := by decide +kernel
theorem d6_13 : decode method_3_code 13 = .ok (.aload 6, 2) := by decide +kernel
theorem d6_15 : decode method_3_code 15 = .ok (.ifnull 10, 3) := by decide +kernel
theorem d6_18 : decode method_3_code 18 = .ok (.aload 6, 2) := by decide +kernel
theorem d6_20 : decode method_3_code 20 = .ok (.arraylength, 1) := by decide +kernel
theorem d6_21 : decode method_3_code 21 = .ok (.iconst 2, 1) := by decide +kernel
theorem d6_22 : decode method_3_code 22 = .ok (.if_icmp .eq 5, 3) := by decide +kernel
theorem d6_27 : decode method_3_code 27 = .ok (.aload 6, 2) := by decide +kernel
theorem d6_29 : decode method_3_code 29 = .ok (.iconst 0, 1) := by decide +kernel
theorem d6_30 : decode method_3_code 30 = .ok (.iaload, 1) := by decide +kernel
theorem d6_31 : decode method_3_code 31 = .ok (.istore 7, 2) := by decide +kernel
theorem d6_33 : decode method_3_code 33 = .ok (.aload 6, 2) := by decide +kernel
theorem d6_35 : decode method_3_code 35 = .ok (.iconst 1, 1) := by decide +kernel
theorem d6_36 : decode method_3_code 36 = .ok (.iaload, 1) := by decide +kernel
theorem d6_37 : decode method_3_code 37 = .ok (.istore 8, 2) := by decide +kernel
theorem d6_39 : decode method_3_code 39 = .ok (.iload 7, 2) := by decide +kernel
theorem d6_41 : decode method_3_code 41 = .ok (.ifCond .lt 16, 3) := by decide +kernel
theorem d6_57 : decode method_3_code 57 = .ok (.iconst 0, 1) := by decide +kernel
theorem d6_58 : decode method_3_code 58 = .ok (.ireturn, 1) := by decide +kernel
theorem d6_44 : decode method_3_code 44 = .ok (.iload 7, 2) := by decide +kernel
theorem d6_46 : decode method_3_code 46 = .ok (.iload 8, 2) := by decide +kernel
theorem d6_48 : decode method_3_code 48 = .ok (.if_icmp .gt 9, 3) := by decide +kernel
theorem d6_51 : decode method_3_code 51 = .ok (.iload 8, 2) := by decide +kernel
theorem d6_53 : decode method_3_code 53 = .ok (.iconst 4, 1) := by decide +kernel
theorem d6_54 : decode method_3_code 54 = .ok (.if_icmp .le 5, 3) := by decide +kernel
theorem d6_59 : decode method_3_code 59 = .ok (.aload_n 2, 1) := by decide +kernel
theorem d6_60 : decode method_3_code 60 = .ok (.iload 7, 2) := by decide +kernel
theorem d6_62 : decode method_3_code 62 = .ok (.iaload, 1) := by decide +kernel
theorem d6_63 : decode method_3_code 63 = .ok (.iload 5, 2) := by decide +kernel
theorem d6_65 : decode method_3_code 65 = .ok (.if_icmp .le 12, 3) := by decide +kernel
theorem d6_68 : decode method_3_code 68 = .ok (.aload_n 2, 1) := by decide +kernel
theorem d6_69 : decode method_3_code 69 = .ok (.iload 8, 2) := by decide +kernel
theorem d6_71 : decode method_3_code 71 = .ok (.iaload, 1) := by decide +kernel
theorem d6_72 : decode method_3_code 72 = .ok (.iload 5, 2) := by decide +kernel
theorem d6_74 : decode method_3_code 74 = .ok (.if_icmp .gt 5, 3) := by decide +kernel
theorem d6_79 : decode method_3_code 79 = .ok (.iload 8, 2) := by decide +kernel
theorem d6_81 : decode method_3_code 81 = .ok (.iload 7, 2) := by decide +kernel
theorem d6_83 : decode method_3_code 83 = .ok (.isub, 1) := by decide +kernel
theorem d6_84 : decode method_3_code 84 = .ok (.iload_n 3, 1) := by decide +kernel
theorem d6_85 : decode method_3_code 85 = .ok (.if_icmp .lt 5, 3) := by decide +kernel
theorem d6_90 : decode method_3_code 90 = .ok (.aload_n 2, 1) := by decide +kernel
theorem d6_91 : decode method_3_code 91 = .ok (.iload 5, 2) := by decide +kernel
theorem d6_93 : decode method_3_code 93 = .ok (.iload 7, 2) := by decide +kernel
theorem d6_95 : decode method_3_code 95 = .ok (.iload 8, 2) := by decide +kernel
theorem d6_97 : decode method_3_code 97 = .ok (.invokestatic 30, 3) := by decide +kernel
theorem d6_100 : decode method_3_code 100 = .ok (.iload 4, 2) := by decide +kernel
theorem d6_102 : decode method_3_code 102 = .ok (.if_icmp .le 5, 3) := by decide +kernel
theorem d6_105 : decode method_3_code 105 = .ok (.iconst 0, 1) := by decide +kernel
theorem d6_106 : decode method_3_code 106 = .ok (.ireturn, 1) := by decide +kernel
theorem d6_107 : decode method_3_code 107 = .ok (.iconst (-1), 1) := by decide +kernel
theorem d6_108 : decode method_3_code 108 = .ok (.istore 9, 2) := by decide +kernel
theorem d6_110 : decode method_3_code 110 = .ok (.iload_n 1, 1) := by decide +kernel
theorem d6_111 : decode method_3_code 111 = .ok (.iconst 1, 1) := by decide +kernel
theorem d6_112 : decode method_3_code 112 = .ok (.iadd, 1) := by decide +kernel
theorem d6_113 : decode method_3_code 113 = .ok (.aload_n 0, 1) := by decide +kernel
theorem d6_114 : decode method_3_code 114 = .ok (.arraylength, 1) := by decide +kernel
theorem d6_115 : decode method_3_code 115 = .ok (.if_icmp .ge 30, 3) := by decide +kernel
theorem d6_118 : decode method_3_code 118 = .ok (.aload_n 0, 1) := by decide +kernel
theorem d6_119 : decode method_3_code 119 = .ok (.iload_n 1, 1) := by decide +kernel
theorem d6_120 : decode method_3_code 120 = .ok (.iconst 1, 1) := by decide +kernel
theorem d6_121 : decode method_3_code 121 = .ok (.iadd, 1) := by decide +kernel
theorem d6_122 : decode method_3_code 122 = .ok (.aaload, 1) := by decide +kernel
theorem d6_123 : decode method_3_code 123 = .ok (.astore 10, 2) := by decide +kernel
theorem d6_125 : decode method_3_code 125 = .ok (.aload 10, 2) := by decide +kernel
theorem d6_127 : decode method_3_code 127 = .ok (.ifnull 10, 3) := by decide +kernel
theorem d6_130 : decode method_3_code 130 = .ok (.aload 10, 2) := by decide +kernel
theorem d6_132 : decode method_3_code 132 = .ok (.arraylength, 1) := by decide +kernel
theorem d6_133 : decode method_3_code 133 = .ok (.iconst 1, 1) := by decide +kernel
theorem d6_134 : decode method_3_code 134 = .ok (.if_icmp .ge 5, 3) := by decide +kernel
theorem d6_139 : decode method_3_code 139 = .ok (.aload 10, 2) := by decide +kernel
theorem d6_141 : decode method_3_code 141 = .ok (.iconst 0, 1) := by decide +kernel
theorem d6_142 : decode method_3_code 142 = .ok (.iaload, 1) := by decide +kernel
theorem d6_143 : decode method_3_code 143 = .ok (.istore 9, 2) := by decide +kernel
theorem d6_145 : decode method_3_code 145 = .ok (.aload_n 2, 1) := by decide +kernel
theorem d6_146 : decode method_3_code 146 = .ok (.iload 5, 2) := by decide +kernel
theorem d6_148 : decode method_3_code 148 = .ok (.iload 8, 2) := by decide +kernel
theorem d6_150 : decode method_3_code 150 = .ok (.invokestatic 20, 3) := by decide +kernel
theorem pd_3 : parseMethodDescriptor "([III)I" = some ⟨[(.array .int), .int, .int], some .int⟩ := by decide +kernel
theorem d6_153 : decode method_3_code 153 = .ok (.istore 10, 2) := by decide +kernel
theorem d6_155 : decode method_3_code 155 = .ok (.iload 9, 2) := by decide +kernel
theorem d6_157 : decode method_3_code 157 = .ok (.iload 10, 2) := by decide +kernel
theorem d6_159 : decode method_3_code 159 = .ok (.if_icmp .eq 5, 3) := by decide +kernel
theorem d6_164 : decode method_3_code 164 = .ok (.iload 10, 2) := by decide +kernel
theorem d6_166 : decode method_3_code 166 = .ok (.iconst (-1), 1) := by decide +kernel
theorem d6_167 : decode method_3_code 167 = .ok (.if_icmp .eq 29, 3) := by decide +kernel
theorem d6_196 : decode method_3_code 196 = .ok (.iconst 1, 1) := by decide +kernel
theorem d6_197 : decode method_3_code 197 = .ok (.ireturn, 1) := by decide +kernel
theorem d6_170 : decode method_3_code 170 = .ok (.iload 10, 2) := by decide +kernel
theorem d6_172 : decode method_3_code 172 = .ok (.iload 7, 2) := by decide +kernel
theorem d6_174 : decode method_3_code 174 = .ok (.isub, 1) := by decide +kernel
theorem d6_175 : decode method_3_code 175 = .ok (.iload_n 3, 1) := by decide +kernel
theorem d6_176 : decode method_3_code 176 = .ok (.if_icmp .ge 20, 3) := by decide +kernel
theorem d6_179 : decode method_3_code 179 = .ok (.aload_n 2, 1) := by decide +kernel
theorem d6_180 : decode method_3_code 180 = .ok (.iload 5, 2) := by decide +kernel
theorem d6_182 : decode method_3_code 182 = .ok (.iload 7, 2) := by decide +kernel
theorem d6_184 : decode method_3_code 184 = .ok (.iload 10, 2) := by decide +kernel
theorem d6_186 : decode method_3_code 186 = .ok (.invokestatic 30, 3) := by decide +kernel
theorem d6_189 : decode method_3_code 189 = .ok (.iload 4, 2) := by decide +kernel
theorem d6_191 : decode method_3_code 191 = .ok (.if_icmp .gt 5, 3) := by decide +kernel
theorem d6_194 : decode method_3_code 194 = .ok (.iconst 0, 1) := by decide +kernel
theorem d6_195 : decode method_3_code 195 = .ok (.ireturn, 1) := by decide +kernel
theorem d6_162 : decode method_3_code 162 = .ok (.iconst 0, 1) := by decide +kernel
theorem d6_163 : decode method_3_code 163 = .ok (.ireturn, 1) := by decide +kernel
theorem d6_88 : decode method_3_code 88 = .ok (.iconst 0, 1) := by decide +kernel
theorem d6_89 : decode method_3_code 89 = .ok (.ireturn, 1) := by decide +kernel
theorem d6_77 : decode method_3_code 77 = .ok (.iconst 0, 1) := by decide +kernel
theorem d6_78 : decode method_3_code 78 = .ok (.ireturn, 1) := by decide +kernel
theorem d6_6 : decode method_3_code 6 = .ok (.iconst 1, 1) := by decide +kernel
theorem d6_7 : decode method_3_code 7 = .ok (.ireturn, 1) := by decide +kernel
def f6_0_v31 (ps : List (Int32 × Int32)) : Int32 := ((ps).getD 0 ((0 : Int32), (0 : Int32))).1
def f6_0_v37 (ps : List (Int32 × Int32)) : Int32 := ((ps).getD 0 ((0 : Int32), (0 : Int32))).2
def f6_0_v143 (ps : List (Int32 × Int32)) : Int32 := ((ps).getD 1 ((0 : Int32), (0 : Int32))).1
def f6_0_v153 (p6 : Int32) (v0 : Int32) (v1 : Int32) (v2 : Int32) (v3 : Int32) (v4 : Int32) (ps : List (Int32 × Int32)) : Int32 := (f5 p6 (f6_0_v37 ps) v0 v1 v2 v3 v4)
def f6_0 (p4 : Int32) (p5 : Int32) (p6 : Int32) (v0 : Int32) (v1 : Int32) (v2 : Int32) (v3 : Int32) (v4 : Int32) (ps : List (Int32 × Int32)) : Int32 := (if (0 : Int32) < ((ps).length.toInt32) then (if (f6_0_v31 ps) < (0 : Int32) then (0 : Int32) else (if (f6_0_v37 ps) < (f6_0_v31 ps) then (0 : Int32) else (if (4 : Int32) < (f6_0_v37 ps) then (0 : Int32) else (if p6 < (own_at v0 v1 v2 v3 v4 (f6_0_v31 ps)) then (if p6 < (own_at v0 v1 v2 v3 v4 (f6_0_v37 ps)) then (if ((f6_0_v37 ps) - (f6_0_v31 ps)) < p4 then (if p5 < (f7 p6 (f6_0_v31 ps) (f6_0_v37 ps) v0 v1 v2 v3 v4) then (0 : Int32) else (if (1 : Int32) < ((ps).length.toInt32) then (if (f6_0_v143 ps) = (f6_0_v153 p6 v0 v1 v2 v3 v4 ps) then (if (f6_0_v153 p6 v0 v1 v2 v3 v4 ps) = (-1 : Int32) then (1 : Int32) else (if ((f6_0_v153 p6 v0 v1 v2 v3 v4 ps) - (f6_0_v31 ps)) < p4 then (if p5 < (f7 p6 (f6_0_v31 ps) (f6_0_v153 p6 v0 v1 v2 v3 v4 ps) v0 v1 v2 v3 v4) then (1 : Int32) else (0 : Int32)) else (1 : Int32))) else (0 : Int32)) else (if (-1 : Int32) = (f6_0_v153 p6 v0 v1 v2 v3 v4 ps) then (if (f6_0_v153 p6 v0 v1 v2 v3 v4 ps) = (-1 : Int32) then (1 : Int32) else (if ((f6_0_v153 p6 v0 v1 v2 v3 v4 ps) - (f6_0_v31 ps)) < p4 then (if p5 < (f7 p6 (f6_0_v31 ps) (f6_0_v153 p6 v0 v1 v2 v3 v4 ps) v0 v1 v2 v3 v4) then (1 : Int32) else (0 : Int32)) else (1 : Int32))) else (0 : Int32)))) else (0 : Int32)) else (0 : Int32)) else (0 : Int32))))) else (1 : Int32))
def Q6_0 (a1 : Addr) (a3 : Addr) (p4 : Int32) (p5 : Int32) (p6 : Int32) (v0 : Int32) (v1 : Int32) (v2 : Int32) (v3 : Int32) (v4 : Int32) (ps : List (Int32 × Int32)) (h0 : Heap) (n0 : Nat) (v : Option Value) (h : Heap) (L : List Loc) : Prop := v = some (.int (f6_0 p4 p5 p6 v0 v1 v2 v3 v4 ps)) ∧ Fr n0 L ∧ h = h0
def rmR6_0 : Room := { frames := 2, cells := 0, slots := 0, locals := 32 }
theorem ef_6_0 (m : MethodId) (a1 : Addr) (a3 : Addr) (p4 : Int32) (p5 : Int32) (p6 : Int32) : entryFrame m #[(.ref a1), (.int (0 : Int32)), (.ref a3), (.int p4), (.int p5), (.int p6)] 11 = mkF m 0 #[.val (.ref a1), .val (.int (0 : Int32)), .val (.ref a3), .val (.int p4), .val (.int p5), .val (.int p6), .unset, .unset, .unset, .unset, .unset] [] := by first | (simp [entryFrame, mkF, argsToLocals, Value.category]; done) | rfl
set_option maxRecDepth 65536 in
set_option maxHeartbeats 40000000 in
theorem rm6_0 (l : Launch) (Z : State) (a0 : Array Value) (hw : ∀ d ∈ tables_1, d.before a0 Z = true) (ws : List Jvm.Cond) (a1 : Addr) (a3 : Addr) (p4 : Int32) (p5 : Int32) (p6 : Int32) (v0 : Int32) (v1 : Int32) (v2 : Int32) (v3 : Int32) (v4 : Int32) (ps : List (Int32 × Int32)) (h0 : Heap) (n0 : Nat) (F_P_a1 : Pr Z h0 a1 (ps).length ps) (F_A_a3 : IA Z h0 a3 .int [(.int v0), (.int v1), (.int v2), (.int v3), (.int v4)]) (hps : ps.length ≤ 5) :
    Mt l Z mt8 (Jvm.Cond.code mt8 method_3_code 11 (some .boolean) :: ws) rmR6_0 #[(.ref a1), (.int (0 : Int32)), (.ref a3), (.int p4), (.int p5), (.int p6)] h0 (Q6_0 a1 a3 p4 p5 p6 v0 v1 v2 v3 v4 ps h0 n0) := by
  refine Mt.of n0 (plainFor_of_name pn_com_example_tightfold_tightfold_FocusCoverRunsPinLaw) ?_
  intro p e s m below meth c T0 X0 hx hZ hby hml hown hret hlk hnm hs0
  have hown : s.vm.findClass "com/example/tightfold/tightfold/FocusCoverRunsPinLaw" = some m.cls := hown
  rw [ef_6_0]
  show Rt p e below s rmR6_0.cells rmR6_0.slots (Q6_0 a1 a3 p4 p5 p6 v0 v1 v2 v3 v4 ps h0 n0) (T0.setTop (mkF m 0 #[.val (.ref a1), .val (.int (0 : Int32)), .val (.ref a3), .val (.int p4), .val (.int p5), .val (.int p6), .unset, .unset, .unset, .unset, .unset] []))
  refine Rt.iloadN (pc' := 1) X0 hx (hb hby d6_0) rfl rfl ?_
  refine Rt.aloadN (pc' := 2) X0 hx (hb hby d6_1) rfl rfl rfl ?_
  refine Rt.arraylengthP (pc' := 3) X0 hx hZ F_P_a1 (v := ((ps).length.toInt32)) rfl (hb hby d6_2) rfl ?_
  by_cases hc3_1 : (0 : Int32) < ((ps).length.toInt32)
  · refine Rt.icmpY (pc' := 8) X0 hx (hb hby d6_3) (tlt hc3_1).1 (by decide) (by decide) ?_
    refine Rt.aloadN (pc' := 9) X0 hx (hb hby d6_8) rfl rfl rfl ?_
    refine Rt.iloadN (pc' := 10) X0 hx (hb hby d6_9) rfl rfl ?_
    refine Rt.aaloadP (pc' := 11) X0 hx hZ F_P_a1 (t := 0) (by decide) (by decide) (own_pt (own_tl hps hc3_1 (by decide))) (hb hby d6_10) rfl ?_
    intro y2 Fy2
    refine Rt.astore (pc' := 13) (v := (.ref y2)) (l' := #[.val (.ref a1), .val (.int (0 : Int32)), .val (.ref a3), .val (.int p4), .val (.int p5), .val (.int p6), .val (.ref y2), .unset, .unset, .unset, .unset]) X0 hx (hb hby d6_11) rfl rfl rfl ?_
    refine Rt.aload (pc' := 15) X0 hx (hb hby d6_13) rfl rfl rfl ?_
    refine Rt.ifnullN (pc' := 18) X0 hx (hb hby d6_15) rfl ?_
    refine Rt.aload (pc' := 20) X0 hx (hb hby d6_18) rfl rfl rfl ?_
    refine Rt.arraylength (pc' := 21) X0 hx hZ Fy2 (v := (2 : Int32)) rfl (hb hby d6_20) rfl ?_
    refine Rt.iconst (pc' := 22) (v := (2 : Int32)) X0 hx (hb hby d6_21) rfl rfl ?_
    refine Rt.icmpY (pc' := 27) X0 hx (hb hby d6_22) (teq (by decide : (2 : Int32) = (2 : Int32))).1 (by decide) (by decide) ?_
    refine Rt.aload (pc' := 29) X0 hx (hb hby d6_27) rfl rfl rfl ?_
    refine Rt.iconst (pc' := 30) (v := (0 : Int32)) X0 hx (hb hby d6_29) rfl rfl ?_
    refine Rt.iaload (pc' := 31) X0 hx hZ Fy2 (i := 0) (by decide) (by decide) (v := (.int ((ps).getD 0 ((0 : Int32), (0 : Int32))).1)) rfl (hb hby d6_30) rfl ?_
    refine Rt.istore (pc' := 33) (v := (f6_0_v31 ps)) (l' := #[.val (.ref a1), .val (.int (0 : Int32)), .val (.ref a3), .val (.int p4), .val (.int p5), .val (.int p6), .val (.ref y2), .val (.int (f6_0_v31 ps)), .unset, .unset, .unset]) X0 hx (hb hby d6_31) rfl rfl ?_
    refine Rt.aload (pc' := 35) X0 hx (hb hby d6_33) rfl rfl rfl ?_
    refine Rt.iconst (pc' := 36) (v := (1 : Int32)) X0 hx (hb hby d6_35) rfl rfl ?_
    refine Rt.iaload (pc' := 37) X0 hx hZ Fy2 (i := 1) (by decide) (by decide) (v := (.int ((ps).getD 0 ((0 : Int32), (0 : Int32))).2)) rfl (hb hby d6_36) rfl ?_
    refine Rt.istore (pc' := 39) (v := (f6_0_v37 ps)) (l' := #[.val (.ref a1), .val (.int (0 : Int32)), .val (.ref a3), .val (.int p4), .val (.int p5), .val (.int p6), .val (.ref y2), .val (.int (f6_0_v31 ps)), .val (.int (f6_0_v37 ps)), .unset, .unset]) X0 hx (hb hby d6_37) rfl rfl ?_
    refine Rt.iload (pc' := 41) X0 hx (hb hby d6_39) rfl rfl ?_
    by_cases hc41_3 : (f6_0_v31 ps) < (0 : Int32)
    · refine Rt.ifY (pc' := 57) X0 hx (hb hby d6_41) ((if0 _ _).trans (tlt hc41_3).1) (by decide) (by decide) ?_
      refine Rt.iconst (pc' := 58) (v := (0 : Int32)) X0 hx (hb hby d6_57) rfl rfl ?_
      exact Rt.retZ (w := (0 : Int32)) X0 hx hlk hret (by simp) (hb hby d6_58) (by decide) (by decide) (by decide) (fun L N => ⟨congrArg some (congrArg Value.int (by rw [f6_0, if_pos hc3_1, if_pos hc41_3])), N, rfl⟩)
    · refine Rt.ifN (pc' := 44) X0 hx (hb hby d6_41) ((if0 _ _).trans (flt hc41_3).1) rfl ?_
      refine Rt.iload (pc' := 46) X0 hx (hb hby d6_44) rfl rfl ?_
      refine Rt.iload (pc' := 48) X0 hx (hb hby d6_46) rfl rfl ?_
      by_cases hc48_4 : (f6_0_v37 ps) < (f6_0_v31 ps)
      · refine Rt.icmpY (pc' := 57) X0 hx (hb hby d6_48) (tlt hc48_4).2.2.1 (by decide) (by decide) ?_
        refine Rt.iconst (pc' := 58) (v := (0 : Int32)) X0 hx (hb hby d6_57) rfl rfl ?_
        exact Rt.retZ (w := (0 : Int32)) X0 hx hlk hret (by simp) (hb hby d6_58) (by decide) (by decide) (by decide) (fun L N => ⟨congrArg some (congrArg Value.int (by rw [f6_0, if_pos hc3_1, if_neg hc41_3, if_pos hc48_4])), N, rfl⟩)
      · refine Rt.icmpN (pc' := 51) X0 hx (hb hby d6_48) (flt hc48_4).2.2.1 rfl ?_
        refine Rt.iload (pc' := 53) X0 hx (hb hby d6_51) rfl rfl ?_
        refine Rt.iconst (pc' := 54) (v := (4 : Int32)) X0 hx (hb hby d6_53) rfl rfl ?_
        by_cases hc54_5 : (4 : Int32) < (f6_0_v37 ps)
        · refine Rt.icmpN (pc' := 57) X0 hx (hb hby d6_54) (tlt hc54_5).2.2.2 rfl ?_
          refine Rt.iconst (pc' := 58) (v := (0 : Int32)) X0 hx (hb hby d6_57) rfl rfl ?_
          exact Rt.retZ (w := (0 : Int32)) X0 hx hlk hret (by simp) (hb hby d6_58) (by decide) (by decide) (by decide) (fun L N => ⟨congrArg some (congrArg Value.int (by rw [f6_0, if_pos hc3_1, if_neg hc41_3, if_neg hc48_4, if_pos hc54_5])), N, rfl⟩)
        · refine Rt.icmpY (pc' := 59) X0 hx (hb hby d6_54) (flt hc54_5).2.2.2 (by decide) (by decide) ?_
          refine Rt.aloadN (pc' := 60) X0 hx (hb hby d6_59) rfl rfl rfl ?_
          refine Rt.iload (pc' := 62) X0 hx (hb hby d6_60) rfl rfl ?_
          refine Rt.iaload (pc' := 63) X0 hx hZ F_A_a3 (i := ((f6_0_v31 ps)).toNatClampNeg) rfl hc41_3 (v := (.int (own_at v0 v1 v2 v3 v4 (f6_0_v31 ps)))) (own_ix hc41_3 (own_ge hc48_4 hc54_5)) (hb hby d6_62) rfl ?_
          refine Rt.iload (pc' := 65) X0 hx (hb hby d6_63) rfl rfl ?_
          by_cases hc65_6 : p6 < (own_at v0 v1 v2 v3 v4 (f6_0_v31 ps))
          · refine Rt.icmpN (pc' := 68) X0 hx (hb hby d6_65) (tlt hc65_6).2.2.2 rfl ?_
            refine Rt.aloadN (pc' := 69) X0 hx (hb hby d6_68) rfl rfl rfl ?_
            refine Rt.iload (pc' := 71) X0 hx (hb hby d6_69) rfl rfl ?_
            refine Rt.iaload (pc' := 72) X0 hx hZ F_A_a3 (i := ((f6_0_v37 ps)).toNatClampNeg) rfl (own_le hc41_3 hc48_4) (v := (.int (own_at v0 v1 v2 v3 v4 (f6_0_v37 ps)))) (own_ix (own_le hc41_3 hc48_4) hc54_5) (hb hby d6_71) rfl ?_
            refine Rt.iload (pc' := 74) X0 hx (hb hby d6_72) rfl rfl ?_
            by_cases hc74_7 : p6 < (own_at v0 v1 v2 v3 v4 (f6_0_v37 ps))
            · refine Rt.icmpY (pc' := 79) X0 hx (hb hby d6_74) (tlt hc74_7).2.2.1 (by decide) (by decide) ?_
              refine Rt.iload (pc' := 81) X0 hx (hb hby d6_79) rfl rfl ?_
              refine Rt.iload (pc' := 83) X0 hx (hb hby d6_81) rfl rfl ?_
              refine Rt.isub (pc' := 84) (r := ((f6_0_v37 ps) - (f6_0_v31 ps))) X0 hx (hb hby d6_83) rfl rfl ?_
              refine Rt.iloadN (pc' := 85) X0 hx (hb hby d6_84) rfl rfl ?_
              by_cases hc85_8 : ((f6_0_v37 ps) - (f6_0_v31 ps)) < p4
              · refine Rt.icmpY (pc' := 90) X0 hx (hb hby d6_85) (tlt hc85_8).1 (by decide) (by decide) ?_
                refine Rt.aloadN (pc' := 91) X0 hx (hb hby d6_90) rfl rfl rfl ?_
                refine Rt.iload (pc' := 93) X0 hx (hb hby d6_91) rfl rfl ?_
                refine Rt.iload (pc' := 95) X0 hx (hb hby d6_93) rfl rfl ?_
                refine Rt.iload (pc' := 97) X0 hx (hb hby d6_95) rfl rfl ?_
                refine Rt.callP (pc' := 100) (r := (.int (f7 p6 (f6_0_v31 ps) (f6_0_v37 ps) v0 v1 v2 v3 v4))) X0 hx hZ (y := mt7) hown (own_g hw 26 rfl) (own_g hw 27 rfl) (own_g hw 20 rfl) (own_g hw 28 rfl) (by decide) (rm7 l Z a0 hw [] a3 p6 (f6_0_v31 ps) (f6_0_v37 ps) v0 v1 v2 v3 v4 h0 n0 F_A_a3) (W := 0) (by decide) (by decide) (by decide) (by decide) rfl rfl (argsL := [(.ref a3), (.int p6), (.int (f6_0_v31 ps)), (.int (f6_0_v37 ps))]) (rest := []) (by rw [hml]; rfl) (lenOf pd_1 rfl) rfl rfl (Nat.le_of_eq rfl) (hb hby d6_97) rfl ?_
                intro T9 X9
                refine Rt.iload (pc' := 102) X9 hx (hb hby d6_100) rfl rfl ?_
                by_cases hc102_10 : p5 < (f7 p6 (f6_0_v31 ps) (f6_0_v37 ps) v0 v1 v2 v3 v4)
                · refine Rt.icmpN (pc' := 105) X9 hx (hb hby d6_102) (tlt hc102_10).2.2.2 rfl ?_
                  refine Rt.iconst (pc' := 106) (v := (0 : Int32)) X9 hx (hb hby d6_105) rfl rfl ?_
                  exact Rt.retZ (w := (0 : Int32)) X9 hx hlk hret (by simp) (hb hby d6_106) (by decide) (by decide) (by decide) (fun L N => ⟨congrArg some (congrArg Value.int (by rw [f6_0, if_pos hc3_1, if_neg hc41_3, if_neg hc48_4, if_neg hc54_5, if_pos hc65_6, if_pos hc74_7, if_pos hc85_8, if_pos hc102_10])), N, rfl⟩)
                · refine Rt.icmpY (pc' := 107) X9 hx (hb hby d6_102) (flt hc102_10).2.2.2 (by decide) (by decide) ?_
                  refine Rt.iconst (pc' := 108) (v := (-1 : Int32)) X9 hx (hb hby d6_107) rfl rfl ?_
                  refine Rt.istore (pc' := 110) (v := (-1 : Int32)) (l' := #[.val (.ref a1), .val (.int (0 : Int32)), .val (.ref a3), .val (.int p4), .val (.int p5), .val (.int p6), .val (.ref y2), .val (.int (f6_0_v31 ps)), .val (.int (f6_0_v37 ps)), .val (.int (-1 : Int32)), .unset]) X9 hx (hb hby d6_108) rfl rfl ?_
                  refine Rt.iloadN (pc' := 111) X9 hx (hb hby d6_110) rfl rfl ?_
                  refine Rt.iconst (pc' := 112) (v := (1 : Int32)) X9 hx (hb hby d6_111) rfl rfl ?_
                  refine Rt.iadd (pc' := 113) (r := (1 : Int32)) X9 hx (hb hby d6_112) (by decide) rfl ?_
                  refine Rt.aloadN (pc' := 114) X9 hx (hb hby d6_113) rfl rfl rfl ?_
                  refine Rt.arraylengthP (pc' := 115) X9 hx hZ F_P_a1 (v := ((ps).length.toInt32)) rfl (hb hby d6_114) rfl ?_
                  by_cases hc115_11 : (1 : Int32) < ((ps).length.toInt32)
                  · refine Rt.icmpN (pc' := 118) X9 hx (hb hby d6_115) (tlt hc115_11).2.1 rfl ?_
                    refine Rt.aloadN (pc' := 119) X9 hx (hb hby d6_118) rfl rfl rfl ?_
                    refine Rt.iloadN (pc' := 120) X9 hx (hb hby d6_119) rfl rfl ?_
                    refine Rt.iconst (pc' := 121) (v := (1 : Int32)) X9 hx (hb hby d6_120) rfl rfl ?_
                    refine Rt.iadd (pc' := 122) (r := (1 : Int32)) X9 hx (hb hby d6_121) (by decide) rfl ?_
                    refine Rt.aaloadP (pc' := 123) X9 hx hZ F_P_a1 (t := 1) (by decide) (by decide) (own_pt (own_tl hps hc115_11 (by decide))) (hb hby d6_122) rfl ?_
                    intro y12 Fy12
                    refine Rt.astore (pc' := 125) (v := (.ref y12)) (l' := #[.val (.ref a1), .val (.int (0 : Int32)), .val (.ref a3), .val (.int p4), .val (.int p5), .val (.int p6), .val (.ref y2), .val (.int (f6_0_v31 ps)), .val (.int (f6_0_v37 ps)), .val (.int (-1 : Int32)), .val (.ref y12)]) X9 hx (hb hby d6_123) rfl rfl rfl ?_
                    refine Rt.aload (pc' := 127) X9 hx (hb hby d6_125) rfl rfl rfl ?_
                    refine Rt.ifnullN (pc' := 130) X9 hx (hb hby d6_127) rfl ?_
                    refine Rt.aload (pc' := 132) X9 hx (hb hby d6_130) rfl rfl rfl ?_
                    refine Rt.arraylength (pc' := 133) X9 hx hZ Fy12 (v := (2 : Int32)) rfl (hb hby d6_132) rfl ?_
                    refine Rt.iconst (pc' := 134) (v := (1 : Int32)) X9 hx (hb hby d6_133) rfl rfl ?_
                    refine Rt.icmpY (pc' := 139) X9 hx (hb hby d6_134) (flt (by decide : ¬ ((2 : Int32) < (1 : Int32)))).2.1 (by decide) (by decide) ?_
                    refine Rt.aload (pc' := 141) X9 hx (hb hby d6_139) rfl rfl rfl ?_
                    refine Rt.iconst (pc' := 142) (v := (0 : Int32)) X9 hx (hb hby d6_141) rfl rfl ?_
                    refine Rt.iaload (pc' := 143) X9 hx hZ Fy12 (i := 0) (by decide) (by decide) (v := (.int ((ps).getD 1 ((0 : Int32), (0 : Int32))).1)) rfl (hb hby d6_142) rfl ?_
                    refine Rt.istore (pc' := 145) (v := (f6_0_v143 ps)) (l' := #[.val (.ref a1), .val (.int (0 : Int32)), .val (.ref a3), .val (.int p4), .val (.int p5), .val (.int p6), .val (.ref y2), .val (.int (f6_0_v31 ps)), .val (.int (f6_0_v37 ps)), .val (.int (f6_0_v143 ps)), .val (.ref y12)]) X9 hx (hb hby d6_143) rfl rfl ?_
                    refine Rt.aloadN (pc' := 146) X9 hx (hb hby d6_145) rfl rfl rfl ?_
                    refine Rt.iload (pc' := 148) X9 hx (hb hby d6_146) rfl rfl ?_
                    refine Rt.iload (pc' := 150) X9 hx (hb hby d6_148) rfl rfl ?_
                    refine Rt.callP (pc' := 153) (r := (.int (f5 p6 (f6_0_v37 ps) v0 v1 v2 v3 v4))) X9 hx hZ (y := mt5) hown (own_g hw 18 rfl) (own_g hw 19 rfl) (own_g hw 20 rfl) (own_g hw 21 rfl) (by decide) (rm5 l Z a0 hw [] a3 p6 (f6_0_v37 ps) v0 v1 v2 v3 v4 h0 n0 F_A_a3) (W := 0) (by decide) (by decide) (by decide) (by decide) rfl rfl (argsL := [(.ref a3), (.int p6), (.int (f6_0_v37 ps))]) (rest := []) (by rw [hml]; rfl) (lenOf pd_3 rfl) rfl rfl (Nat.le_of_eq rfl) (hb hby d6_150) rfl ?_
                    intro T13 X13
                    refine Rt.istore (pc' := 155) (v := (f6_0_v153 p6 v0 v1 v2 v3 v4 ps)) (l' := #[.val (.ref a1), .val (.int (0 : Int32)), .val (.ref a3), .val (.int p4), .val (.int p5), .val (.int p6), .val (.ref y2), .val (.int (f6_0_v31 ps)), .val (.int (f6_0_v37 ps)), .val (.int (f6_0_v143 ps)), .val (.int (f6_0_v153 p6 v0 v1 v2 v3 v4 ps))]) X13 hx (hb hby d6_153) rfl rfl ?_
                    refine Rt.iload (pc' := 157) X13 hx (hb hby d6_155) rfl rfl ?_
                    refine Rt.iload (pc' := 159) X13 hx (hb hby d6_157) rfl rfl ?_
                    by_cases hc159_14 : (f6_0_v143 ps) = (f6_0_v153 p6 v0 v1 v2 v3 v4 ps)
                    · refine Rt.icmpY (pc' := 164) X13 hx (hb hby d6_159) (teq hc159_14).1 (by decide) (by decide) ?_
                      refine Rt.iload (pc' := 166) X13 hx (hb hby d6_164) rfl rfl ?_
                      refine Rt.iconst (pc' := 167) (v := (-1 : Int32)) X13 hx (hb hby d6_166) rfl rfl ?_
                      by_cases hc167_15 : (f6_0_v153 p6 v0 v1 v2 v3 v4 ps) = (-1 : Int32)
                      · refine Rt.icmpY (pc' := 196) X13 hx (hb hby d6_167) (teq hc167_15).1 (by decide) (by decide) ?_
                        refine Rt.iconst (pc' := 197) (v := (1 : Int32)) X13 hx (hb hby d6_196) rfl rfl ?_
                        exact Rt.retZ (w := (1 : Int32)) X13 hx hlk hret (by simp) (hb hby d6_197) (by decide) (by decide) (by decide) (fun L N => ⟨congrArg some (congrArg Value.int (by rw [f6_0, if_pos hc3_1, if_neg hc41_3, if_neg hc48_4, if_neg hc54_5, if_pos hc65_6, if_pos hc74_7, if_pos hc85_8, if_neg hc102_10, if_pos hc115_11, if_pos hc159_14, if_pos hc167_15])), N, rfl⟩)
                      · refine Rt.icmpN (pc' := 170) X13 hx (hb hby d6_167) (feq hc167_15).1 rfl ?_
                        refine Rt.iload (pc' := 172) X13 hx (hb hby d6_170) rfl rfl ?_
                        refine Rt.iload (pc' := 174) X13 hx (hb hby d6_172) rfl rfl ?_
                        refine Rt.isub (pc' := 175) (r := ((f6_0_v153 p6 v0 v1 v2 v3 v4 ps) - (f6_0_v31 ps))) X13 hx (hb hby d6_174) rfl rfl ?_
                        refine Rt.iloadN (pc' := 176) X13 hx (hb hby d6_175) rfl rfl ?_
                        by_cases hc176_16 : ((f6_0_v153 p6 v0 v1 v2 v3 v4 ps) - (f6_0_v31 ps)) < p4
                        · refine Rt.icmpN (pc' := 179) X13 hx (hb hby d6_176) (tlt hc176_16).2.1 rfl ?_
                          refine Rt.aloadN (pc' := 180) X13 hx (hb hby d6_179) rfl rfl rfl ?_
                          refine Rt.iload (pc' := 182) X13 hx (hb hby d6_180) rfl rfl ?_
                          refine Rt.iload (pc' := 184) X13 hx (hb hby d6_182) rfl rfl ?_
                          refine Rt.iload (pc' := 186) X13 hx (hb hby d6_184) rfl rfl ?_
                          refine Rt.callP (pc' := 189) (r := (.int (f7 p6 (f6_0_v31 ps) (f6_0_v153 p6 v0 v1 v2 v3 v4 ps) v0 v1 v2 v3 v4))) X13 hx hZ (y := mt7) hown (own_g hw 26 rfl) (own_g hw 27 rfl) (own_g hw 20 rfl) (own_g hw 28 rfl) (by decide) (rm7 l Z a0 hw [] a3 p6 (f6_0_v31 ps) (f6_0_v153 p6 v0 v1 v2 v3 v4 ps) v0 v1 v2 v3 v4 h0 n0 F_A_a3) (W := 0) (by decide) (by decide) (by decide) (by decide) rfl rfl (argsL := [(.ref a3), (.int p6), (.int (f6_0_v31 ps)), (.int (f6_0_v153 p6 v0 v1 v2 v3 v4 ps))]) (rest := []) (by rw [hml]; rfl) (lenOf pd_1 rfl) rfl rfl (Nat.le_of_eq rfl) (hb hby d6_186) rfl ?_
                          intro T17 X17
                          refine Rt.iload (pc' := 191) X17 hx (hb hby d6_189) rfl rfl ?_
                          by_cases hc191_18 : p5 < (f7 p6 (f6_0_v31 ps) (f6_0_v153 p6 v0 v1 v2 v3 v4 ps) v0 v1 v2 v3 v4)
                          · refine Rt.icmpY (pc' := 196) X17 hx (hb hby d6_191) (tlt hc191_18).2.2.1 (by decide) (by decide) ?_
                            refine Rt.iconst (pc' := 197) (v := (1 : Int32)) X17 hx (hb hby d6_196) rfl rfl ?_
                            exact Rt.retZ (w := (1 : Int32)) X17 hx hlk hret (by simp) (hb hby d6_197) (by decide) (by decide) (by decide) (fun L N => ⟨congrArg some (congrArg Value.int (by rw [f6_0, if_pos hc3_1, if_neg hc41_3, if_neg hc48_4, if_neg hc54_5, if_pos hc65_6, if_pos hc74_7, if_pos hc85_8, if_neg hc102_10, if_pos hc115_11, if_pos hc159_14, if_neg hc167_15, if_pos hc176_16, if_pos hc191_18])), N, rfl⟩)
                          · refine Rt.icmpN (pc' := 194) X17 hx (hb hby d6_191) (flt hc191_18).2.2.1 rfl ?_
                            refine Rt.iconst (pc' := 195) (v := (0 : Int32)) X17 hx (hb hby d6_194) rfl rfl ?_
                            exact Rt.retZ (w := (0 : Int32)) X17 hx hlk hret (by simp) (hb hby d6_195) (by decide) (by decide) (by decide) (fun L N => ⟨congrArg some (congrArg Value.int (by rw [f6_0, if_pos hc3_1, if_neg hc41_3, if_neg hc48_4, if_neg hc54_5, if_pos hc65_6, if_pos hc74_7, if_pos hc85_8, if_neg hc102_10, if_pos hc115_11, if_pos hc159_14, if_neg hc167_15, if_pos hc176_16, if_neg hc191_18])), N, rfl⟩)
                        · refine Rt.icmpY (pc' := 196) X13 hx (hb hby d6_176) (flt hc176_16).2.1 (by decide) (by decide) ?_
                          refine Rt.iconst (pc' := 197) (v := (1 : Int32)) X13 hx (hb hby d6_196) rfl rfl ?_
                          exact Rt.retZ (w := (1 : Int32)) X13 hx hlk hret (by simp) (hb hby d6_197) (by decide) (by decide) (by decide) (fun L N => ⟨congrArg some (congrArg Value.int (by rw [f6_0, if_pos hc3_1, if_neg hc41_3, if_neg hc48_4, if_neg hc54_5, if_pos hc65_6, if_pos hc74_7, if_pos hc85_8, if_neg hc102_10, if_pos hc115_11, if_pos hc159_14, if_neg hc167_15, if_neg hc176_16])), N, rfl⟩)
                    · refine Rt.icmpN (pc' := 162) X13 hx (hb hby d6_159) (feq hc159_14).1 rfl ?_
                      refine Rt.iconst (pc' := 163) (v := (0 : Int32)) X13 hx (hb hby d6_162) rfl rfl ?_
                      exact Rt.retZ (w := (0 : Int32)) X13 hx hlk hret (by simp) (hb hby d6_163) (by decide) (by decide) (by decide) (fun L N => ⟨congrArg some (congrArg Value.int (by rw [f6_0, if_pos hc3_1, if_neg hc41_3, if_neg hc48_4, if_neg hc54_5, if_pos hc65_6, if_pos hc74_7, if_pos hc85_8, if_neg hc102_10, if_pos hc115_11, if_neg hc159_14])), N, rfl⟩)
                  · refine Rt.icmpY (pc' := 145) X9 hx (hb hby d6_115) (flt hc115_11).2.1 (by decide) (by decide) ?_
                    refine Rt.aloadN (pc' := 146) X9 hx (hb hby d6_145) rfl rfl rfl ?_
                    refine Rt.iload (pc' := 148) X9 hx (hb hby d6_146) rfl rfl ?_
                    refine Rt.iload (pc' := 150) X9 hx (hb hby d6_148) rfl rfl ?_
                    refine Rt.callP (pc' := 153) (r := (.int (f5 p6 (f6_0_v37 ps) v0 v1 v2 v3 v4))) X9 hx hZ (y := mt5) hown (own_g hw 18 rfl) (own_g hw 19 rfl) (own_g hw 20 rfl) (own_g hw 21 rfl) (by decide) (rm5 l Z a0 hw [] a3 p6 (f6_0_v37 ps) v0 v1 v2 v3 v4 h0 n0 F_A_a3) (W := 0) (by decide) (by decide) (by decide) (by decide) rfl rfl (argsL := [(.ref a3), (.int p6), (.int (f6_0_v37 ps))]) (rest := []) (by rw [hml]; rfl) (lenOf pd_3 rfl) rfl rfl (Nat.le_of_eq rfl) (hb hby d6_150) rfl ?_
                    intro T19 X19
                    refine Rt.istore (pc' := 155) (v := (f6_0_v153 p6 v0 v1 v2 v3 v4 ps)) (l' := #[.val (.ref a1), .val (.int (0 : Int32)), .val (.ref a3), .val (.int p4), .val (.int p5), .val (.int p6), .val (.ref y2), .val (.int (f6_0_v31 ps)), .val (.int (f6_0_v37 ps)), .val (.int (-1 : Int32)), .val (.int (f6_0_v153 p6 v0 v1 v2 v3 v4 ps))]) X19 hx (hb hby d6_153) rfl rfl ?_
                    refine Rt.iload (pc' := 157) X19 hx (hb hby d6_155) rfl rfl ?_
                    refine Rt.iload (pc' := 159) X19 hx (hb hby d6_157) rfl rfl ?_
                    by_cases hc159_20 : (-1 : Int32) = (f6_0_v153 p6 v0 v1 v2 v3 v4 ps)
                    · refine Rt.icmpY (pc' := 164) X19 hx (hb hby d6_159) (teq hc159_20).1 (by decide) (by decide) ?_
                      refine Rt.iload (pc' := 166) X19 hx (hb hby d6_164) rfl rfl ?_
                      refine Rt.iconst (pc' := 167) (v := (-1 : Int32)) X19 hx (hb hby d6_166) rfl rfl ?_
                      by_cases hc167_21 : (f6_0_v153 p6 v0 v1 v2 v3 v4 ps) = (-1 : Int32)
                      · refine Rt.icmpY (pc' := 196) X19 hx (hb hby d6_167) (teq hc167_21).1 (by decide) (by decide) ?_
                        refine Rt.iconst (pc' := 197) (v := (1 : Int32)) X19 hx (hb hby d6_196) rfl rfl ?_
                        exact Rt.retZ (w := (1 : Int32)) X19 hx hlk hret (by simp) (hb hby d6_197) (by decide) (by decide) (by decide) (fun L N => ⟨congrArg some (congrArg Value.int (by rw [f6_0, if_pos hc3_1, if_neg hc41_3, if_neg hc48_4, if_neg hc54_5, if_pos hc65_6, if_pos hc74_7, if_pos hc85_8, if_neg hc102_10, if_neg hc115_11, if_pos hc159_20, if_pos hc167_21])), N, rfl⟩)
                      · refine Rt.icmpN (pc' := 170) X19 hx (hb hby d6_167) (feq hc167_21).1 rfl ?_
                        refine Rt.iload (pc' := 172) X19 hx (hb hby d6_170) rfl rfl ?_
                        refine Rt.iload (pc' := 174) X19 hx (hb hby d6_172) rfl rfl ?_
                        refine Rt.isub (pc' := 175) (r := ((f6_0_v153 p6 v0 v1 v2 v3 v4 ps) - (f6_0_v31 ps))) X19 hx (hb hby d6_174) rfl rfl ?_
                        refine Rt.iloadN (pc' := 176) X19 hx (hb hby d6_175) rfl rfl ?_
                        by_cases hc176_22 : ((f6_0_v153 p6 v0 v1 v2 v3 v4 ps) - (f6_0_v31 ps)) < p4
                        · refine Rt.icmpN (pc' := 179) X19 hx (hb hby d6_176) (tlt hc176_22).2.1 rfl ?_
                          refine Rt.aloadN (pc' := 180) X19 hx (hb hby d6_179) rfl rfl rfl ?_
                          refine Rt.iload (pc' := 182) X19 hx (hb hby d6_180) rfl rfl ?_
                          refine Rt.iload (pc' := 184) X19 hx (hb hby d6_182) rfl rfl ?_
                          refine Rt.iload (pc' := 186) X19 hx (hb hby d6_184) rfl rfl ?_
                          refine Rt.callP (pc' := 189) (r := (.int (f7 p6 (f6_0_v31 ps) (f6_0_v153 p6 v0 v1 v2 v3 v4 ps) v0 v1 v2 v3 v4))) X19 hx hZ (y := mt7) hown (own_g hw 26 rfl) (own_g hw 27 rfl) (own_g hw 20 rfl) (own_g hw 28 rfl) (by decide) (rm7 l Z a0 hw [] a3 p6 (f6_0_v31 ps) (f6_0_v153 p6 v0 v1 v2 v3 v4 ps) v0 v1 v2 v3 v4 h0 n0 F_A_a3) (W := 0) (by decide) (by decide) (by decide) (by decide) rfl rfl (argsL := [(.ref a3), (.int p6), (.int (f6_0_v31 ps)), (.int (f6_0_v153 p6 v0 v1 v2 v3 v4 ps))]) (rest := []) (by rw [hml]; rfl) (lenOf pd_1 rfl) rfl rfl (Nat.le_of_eq rfl) (hb hby d6_186) rfl ?_
                          intro T23 X23
                          refine Rt.iload (pc' := 191) X23 hx (hb hby d6_189) rfl rfl ?_
                          by_cases hc191_24 : p5 < (f7 p6 (f6_0_v31 ps) (f6_0_v153 p6 v0 v1 v2 v3 v4 ps) v0 v1 v2 v3 v4)
                          · refine Rt.icmpY (pc' := 196) X23 hx (hb hby d6_191) (tlt hc191_24).2.2.1 (by decide) (by decide) ?_
                            refine Rt.iconst (pc' := 197) (v := (1 : Int32)) X23 hx (hb hby d6_196) rfl rfl ?_
                            exact Rt.retZ (w := (1 : Int32)) X23 hx hlk hret (by simp) (hb hby d6_197) (by decide) (by decide) (by decide) (fun L N => ⟨congrArg some (congrArg Value.int (by rw [f6_0, if_pos hc3_1, if_neg hc41_3, if_neg hc48_4, if_neg hc54_5, if_pos hc65_6, if_pos hc74_7, if_pos hc85_8, if_neg hc102_10, if_neg hc115_11, if_pos hc159_20, if_neg hc167_21, if_pos hc176_22, if_pos hc191_24])), N, rfl⟩)
                          · refine Rt.icmpN (pc' := 194) X23 hx (hb hby d6_191) (flt hc191_24).2.2.1 rfl ?_
                            refine Rt.iconst (pc' := 195) (v := (0 : Int32)) X23 hx (hb hby d6_194) rfl rfl ?_
                            exact Rt.retZ (w := (0 : Int32)) X23 hx hlk hret (by simp) (hb hby d6_195) (by decide) (by decide) (by decide) (fun L N => ⟨congrArg some (congrArg Value.int (by rw [f6_0, if_pos hc3_1, if_neg hc41_3, if_neg hc48_4, if_neg hc54_5, if_pos hc65_6, if_pos hc74_7, if_pos hc85_8, if_neg hc102_10, if_neg hc115_11, if_pos hc159_20, if_neg hc167_21, if_pos hc176_22, if_neg hc191_24])), N, rfl⟩)
                        · refine Rt.icmpY (pc' := 196) X19 hx (hb hby d6_176) (flt hc176_22).2.1 (by decide) (by decide) ?_
                          refine Rt.iconst (pc' := 197) (v := (1 : Int32)) X19 hx (hb hby d6_196) rfl rfl ?_
                          exact Rt.retZ (w := (1 : Int32)) X19 hx hlk hret (by simp) (hb hby d6_197) (by decide) (by decide) (by decide) (fun L N => ⟨congrArg some (congrArg Value.int (by rw [f6_0, if_pos hc3_1, if_neg hc41_3, if_neg hc48_4, if_neg hc54_5, if_pos hc65_6, if_pos hc74_7, if_pos hc85_8, if_neg hc102_10, if_neg hc115_11, if_pos hc159_20, if_neg hc167_21, if_neg hc176_22])), N, rfl⟩)
                    · refine Rt.icmpN (pc' := 162) X19 hx (hb hby d6_159) (feq hc159_20).1 rfl ?_
                      refine Rt.iconst (pc' := 163) (v := (0 : Int32)) X19 hx (hb hby d6_162) rfl rfl ?_
                      exact Rt.retZ (w := (0 : Int32)) X19 hx hlk hret (by simp) (hb hby d6_163) (by decide) (by decide) (by decide) (fun L N => ⟨congrArg some (congrArg Value.int (by rw [f6_0, if_pos hc3_1, if_neg hc41_3, if_neg hc48_4, if_neg hc54_5, if_pos hc65_6, if_pos hc74_7, if_pos hc85_8, if_neg hc102_10, if_neg hc115_11, if_neg hc159_20])), N, rfl⟩)
              · refine Rt.icmpN (pc' := 88) X0 hx (hb hby d6_85) (flt hc85_8).1 rfl ?_
                refine Rt.iconst (pc' := 89) (v := (0 : Int32)) X0 hx (hb hby d6_88) rfl rfl ?_
                exact Rt.retZ (w := (0 : Int32)) X0 hx hlk hret (by simp) (hb hby d6_89) (by decide) (by decide) (by decide) (fun L N => ⟨congrArg some (congrArg Value.int (by rw [f6_0, if_pos hc3_1, if_neg hc41_3, if_neg hc48_4, if_neg hc54_5, if_pos hc65_6, if_pos hc74_7, if_neg hc85_8])), N, rfl⟩)
            · refine Rt.icmpN (pc' := 77) X0 hx (hb hby d6_74) (flt hc74_7).2.2.1 rfl ?_
              refine Rt.iconst (pc' := 78) (v := (0 : Int32)) X0 hx (hb hby d6_77) rfl rfl ?_
              exact Rt.retZ (w := (0 : Int32)) X0 hx hlk hret (by simp) (hb hby d6_78) (by decide) (by decide) (by decide) (fun L N => ⟨congrArg some (congrArg Value.int (by rw [f6_0, if_pos hc3_1, if_neg hc41_3, if_neg hc48_4, if_neg hc54_5, if_pos hc65_6, if_neg hc74_7])), N, rfl⟩)
          · refine Rt.icmpY (pc' := 77) X0 hx (hb hby d6_65) (flt hc65_6).2.2.2 (by decide) (by decide) ?_
            refine Rt.iconst (pc' := 78) (v := (0 : Int32)) X0 hx (hb hby d6_77) rfl rfl ?_
            exact Rt.retZ (w := (0 : Int32)) X0 hx hlk hret (by simp) (hb hby d6_78) (by decide) (by decide) (by decide) (fun L N => ⟨congrArg some (congrArg Value.int (by rw [f6_0, if_pos hc3_1, if_neg hc41_3, if_neg hc48_4, if_neg hc54_5, if_neg hc65_6])), N, rfl⟩)
  · refine Rt.icmpN (pc' := 6) X0 hx (hb hby d6_3) (flt hc3_1).1 rfl ?_
    refine Rt.iconst (pc' := 7) (v := (1 : Int32)) X0 hx (hb hby d6_6) rfl rfl ?_
    exact Rt.retZ (w := (1 : Int32)) X0 hx hlk hret (by simp) (hb hby d6_7) (by decide) (by decide) (by decide) (fun L N => ⟨congrArg some (congrArg Value.int (by rw [f6_0, if_neg hc3_1])), N, rfl⟩)
def f6_1_v31 (ps : List (Int32 × Int32)) : Int32 := ((ps).getD 1 ((0 : Int32), (0 : Int32))).1
def f6_1_v37 (ps : List (Int32 × Int32)) : Int32 := ((ps).getD 1 ((0 : Int32), (0 : Int32))).2
def f6_1_v143 (ps : List (Int32 × Int32)) : Int32 := ((ps).getD 2 ((0 : Int32), (0 : Int32))).1
def f6_1_v153 (p6 : Int32) (v0 : Int32) (v1 : Int32) (v2 : Int32) (v3 : Int32) (v4 : Int32) (ps : List (Int32 × Int32)) : Int32 := (f5 p6 (f6_1_v37 ps) v0 v1 v2 v3 v4)
def f6_1 (p4 : Int32) (p5 : Int32) (p6 : Int32) (v0 : Int32) (v1 : Int32) (v2 : Int32) (v3 : Int32) (v4 : Int32) (ps : List (Int32 × Int32)) : Int32 := (if (1 : Int32) < ((ps).length.toInt32) then (if (f6_1_v31 ps) < (0 : Int32) then (0 : Int32) else (if (f6_1_v37 ps) < (f6_1_v31 ps) then (0 : Int32) else (if (4 : Int32) < (f6_1_v37 ps) then (0 : Int32) else (if p6 < (own_at v0 v1 v2 v3 v4 (f6_1_v31 ps)) then (if p6 < (own_at v0 v1 v2 v3 v4 (f6_1_v37 ps)) then (if ((f6_1_v37 ps) - (f6_1_v31 ps)) < p4 then (if p5 < (f7 p6 (f6_1_v31 ps) (f6_1_v37 ps) v0 v1 v2 v3 v4) then (0 : Int32) else (if (2 : Int32) < ((ps).length.toInt32) then (if (f6_1_v143 ps) = (f6_1_v153 p6 v0 v1 v2 v3 v4 ps) then (if (f6_1_v153 p6 v0 v1 v2 v3 v4 ps) = (-1 : Int32) then (1 : Int32) else (if ((f6_1_v153 p6 v0 v1 v2 v3 v4 ps) - (f6_1_v31 ps)) < p4 then (if p5 < (f7 p6 (f6_1_v31 ps) (f6_1_v153 p6 v0 v1 v2 v3 v4 ps) v0 v1 v2 v3 v4) then (1 : Int32) else (0 : Int32)) else (1 : Int32))) else (0 : Int32)) else (if (-1 : Int32) = (f6_1_v153 p6 v0 v1 v2 v3 v4 ps) then (if (f6_1_v153 p6 v0 v1 v2 v3 v4 ps) = (-1 : Int32) then (1 : Int32) else (if ((f6_1_v153 p6 v0 v1 v2 v3 v4 ps) - (f6_1_v31 ps)) < p4 then (if p5 < (f7 p6 (f6_1_v31 ps) (f6_1_v153 p6 v0 v1 v2 v3 v4 ps) v0 v1 v2 v3 v4) then (1 : Int32) else (0 : Int32)) else (1 : Int32))) else (0 : Int32)))) else (0 : Int32)) else (0 : Int32)) else (0 : Int32))))) else (1 : Int32))
def Q6_1 (a1 : Addr) (a3 : Addr) (p4 : Int32) (p5 : Int32) (p6 : Int32) (v0 : Int32) (v1 : Int32) (v2 : Int32) (v3 : Int32) (v4 : Int32) (ps : List (Int32 × Int32)) (h0 : Heap) (n0 : Nat) (v : Option Value) (h : Heap) (L : List Loc) : Prop := v = some (.int (f6_1 p4 p5 p6 v0 v1 v2 v3 v4 ps)) ∧ Fr n0 L ∧ h = h0
def rmR6_1 : Room := { frames := 2, cells := 0, slots := 0, locals := 32 }
theorem ef_6_1 (m : MethodId) (a1 : Addr) (a3 : Addr) (p4 : Int32) (p5 : Int32) (p6 : Int32) : entryFrame m #[(.ref a1), (.int (1 : Int32)), (.ref a3), (.int p4), (.int p5), (.int p6)] 11 = mkF m 0 #[.val (.ref a1), .val (.int (1 : Int32)), .val (.ref a3), .val (.int p4), .val (.int p5), .val (.int p6), .unset, .unset, .unset, .unset, .unset] [] := by first | (simp [entryFrame, mkF, argsToLocals, Value.category]; done) | rfl
set_option maxRecDepth 65536 in
set_option maxHeartbeats 40000000 in
theorem rm6_1 (l : Launch) (Z : State) (a0 : Array Value) (hw : ∀ d ∈ tables_1, d.before a0 Z = true) (ws : List Jvm.Cond) (a1 : Addr) (a3 : Addr) (p4 : Int32) (p5 : Int32) (p6 : Int32) (v0 : Int32) (v1 : Int32) (v2 : Int32) (v3 : Int32) (v4 : Int32) (ps : List (Int32 × Int32)) (h0 : Heap) (n0 : Nat) (F_P_a1 : Pr Z h0 a1 (ps).length ps) (F_A_a3 : IA Z h0 a3 .int [(.int v0), (.int v1), (.int v2), (.int v3), (.int v4)]) (hps : ps.length ≤ 5) :
    Mt l Z mt8 (Jvm.Cond.code mt8 method_3_code 11 (some .boolean) :: ws) rmR6_1 #[(.ref a1), (.int (1 : Int32)), (.ref a3), (.int p4), (.int p5), (.int p6)] h0 (Q6_1 a1 a3 p4 p5 p6 v0 v1 v2 v3 v4 ps h0 n0) := by
  refine Mt.of n0 (plainFor_of_name pn_com_example_tightfold_tightfold_FocusCoverRunsPinLaw) ?_
  intro p e s m below meth c T0 X0 hx hZ hby hml hown hret hlk hnm hs0
  have hown : s.vm.findClass "com/example/tightfold/tightfold/FocusCoverRunsPinLaw" = some m.cls := hown
  rw [ef_6_1]
  show Rt p e below s rmR6_1.cells rmR6_1.slots (Q6_1 a1 a3 p4 p5 p6 v0 v1 v2 v3 v4 ps h0 n0) (T0.setTop (mkF m 0 #[.val (.ref a1), .val (.int (1 : Int32)), .val (.ref a3), .val (.int p4), .val (.int p5), .val (.int p6), .unset, .unset, .unset, .unset, .unset] []))
  refine Rt.iloadN (pc' := 1) X0 hx (hb hby d6_0) rfl rfl ?_
  refine Rt.aloadN (pc' := 2) X0 hx (hb hby d6_1) rfl rfl rfl ?_
  refine Rt.arraylengthP (pc' := 3) X0 hx hZ F_P_a1 (v := ((ps).length.toInt32)) rfl (hb hby d6_2) rfl ?_
  by_cases hc3_1 : (1 : Int32) < ((ps).length.toInt32)
  · refine Rt.icmpY (pc' := 8) X0 hx (hb hby d6_3) (tlt hc3_1).1 (by decide) (by decide) ?_
    refine Rt.aloadN (pc' := 9) X0 hx (hb hby d6_8) rfl rfl rfl ?_
    refine Rt.iloadN (pc' := 10) X0 hx (hb hby d6_9) rfl rfl ?_
    refine Rt.aaloadP (pc' := 11) X0 hx hZ F_P_a1 (t := 1) (by decide) (by decide) (own_pt (own_tl hps hc3_1 (by decide))) (hb hby d6_10) rfl ?_
    intro y2 Fy2
    refine Rt.astore (pc' := 13) (v := (.ref y2)) (l' := #[.val (.ref a1), .val (.int (1 : Int32)), .val (.ref a3), .val (.int p4), .val (.int p5), .val (.int p6), .val (.ref y2), .unset, .unset, .unset, .unset]) X0 hx (hb hby d6_11) rfl rfl rfl ?_
    refine Rt.aload (pc' := 15) X0 hx (hb hby d6_13) rfl rfl rfl ?_
    refine Rt.ifnullN (pc' := 18) X0 hx (hb hby d6_15) rfl ?_
    refine Rt.aload (pc' := 20) X0 hx (hb hby d6_18) rfl rfl rfl ?_
    refine Rt.arraylength (pc' := 21) X0 hx hZ Fy2 (v := (2 : Int32)) rfl (hb hby d6_20) rfl ?_
    refine Rt.iconst (pc' := 22) (v := (2 : Int32)) X0 hx (hb hby d6_21) rfl rfl ?_
    refine Rt.icmpY (pc' := 27) X0 hx (hb hby d6_22) (teq (by decide : (2 : Int32) = (2 : Int32))).1 (by decide) (by decide) ?_
    refine Rt.aload (pc' := 29) X0 hx (hb hby d6_27) rfl rfl rfl ?_
    refine Rt.iconst (pc' := 30) (v := (0 : Int32)) X0 hx (hb hby d6_29) rfl rfl ?_
    refine Rt.iaload (pc' := 31) X0 hx hZ Fy2 (i := 0) (by decide) (by decide) (v := (.int ((ps).getD 1 ((0 : Int32), (0 : Int32))).1)) rfl (hb hby d6_30) rfl ?_
    refine Rt.istore (pc' := 33) (v := (f6_1_v31 ps)) (l' := #[.val (.ref a1), .val (.int (1 : Int32)), .val (.ref a3), .val (.int p4), .val (.int p5), .val (.int p6), .val (.ref y2), .val (.int (f6_1_v31 ps)), .unset, .unset, .unset]) X0 hx (hb hby d6_31) rfl rfl ?_
    refine Rt.aload (pc' := 35) X0 hx (hb hby d6_33) rfl rfl rfl ?_
    refine Rt.iconst (pc' := 36) (v := (1 : Int32)) X0 hx (hb hby d6_35) rfl rfl ?_
    refine Rt.iaload (pc' := 37) X0 hx hZ Fy2 (i := 1) (by decide) (by decide) (v := (.int ((ps).getD 1 ((0 : Int32), (0 : Int32))).2)) rfl (hb hby d6_36) rfl ?_
    refine Rt.istore (pc' := 39) (v := (f6_1_v37 ps)) (l' := #[.val (.ref a1), .val (.int (1 : Int32)), .val (.ref a3), .val (.int p4), .val (.int p5), .val (.int p6), .val (.ref y2), .val (.int (f6_1_v31 ps)), .val (.int (f6_1_v37 ps)), .unset, .unset]) X0 hx (hb hby d6_37) rfl rfl ?_
    refine Rt.iload (pc' := 41) X0 hx (hb hby d6_39) rfl rfl ?_
    by_cases hc41_3 : (f6_1_v31 ps) < (0 : Int32)
    · refine Rt.ifY (pc' := 57) X0 hx (hb hby d6_41) ((if0 _ _).trans (tlt hc41_3).1) (by decide) (by decide) ?_
      refine Rt.iconst (pc' := 58) (v := (0 : Int32)) X0 hx (hb hby d6_57) rfl rfl ?_
      exact Rt.retZ (w := (0 : Int32)) X0 hx hlk hret (by simp) (hb hby d6_58) (by decide) (by decide) (by decide) (fun L N => ⟨congrArg some (congrArg Value.int (by rw [f6_1, if_pos hc3_1, if_pos hc41_3])), N, rfl⟩)
    · refine Rt.ifN (pc' := 44) X0 hx (hb hby d6_41) ((if0 _ _).trans (flt hc41_3).1) rfl ?_
      refine Rt.iload (pc' := 46) X0 hx (hb hby d6_44) rfl rfl ?_
      refine Rt.iload (pc' := 48) X0 hx (hb hby d6_46) rfl rfl ?_
      by_cases hc48_4 : (f6_1_v37 ps) < (f6_1_v31 ps)
      · refine Rt.icmpY (pc' := 57) X0 hx (hb hby d6_48) (tlt hc48_4).2.2.1 (by decide) (by decide) ?_
        refine Rt.iconst (pc' := 58) (v := (0 : Int32)) X0 hx (hb hby d6_57) rfl rfl ?_
        exact Rt.retZ (w := (0 : Int32)) X0 hx hlk hret (by simp) (hb hby d6_58) (by decide) (by decide) (by decide) (fun L N => ⟨congrArg some (congrArg Value.int (by rw [f6_1, if_pos hc3_1, if_neg hc41_3, if_pos hc48_4])), N, rfl⟩)
      · refine Rt.icmpN (pc' := 51) X0 hx (hb hby d6_48) (flt hc48_4).2.2.1 rfl ?_
        refine Rt.iload (pc' := 53) X0 hx (hb hby d6_51) rfl rfl ?_
        refine Rt.iconst (pc' := 54) (v := (4 : Int32)) X0 hx (hb hby d6_53) rfl rfl ?_
        by_cases hc54_5 : (4 : Int32) < (f6_1_v37 ps)
        · refine Rt.icmpN (pc' := 57) X0 hx (hb hby d6_54) (tlt hc54_5).2.2.2 rfl ?_
          refine Rt.iconst (pc' := 58) (v := (0 : Int32)) X0 hx (hb hby d6_57) rfl rfl ?_
          exact Rt.retZ (w := (0 : Int32)) X0 hx hlk hret (by simp) (hb hby d6_58) (by decide) (by decide) (by decide) (fun L N => ⟨congrArg some (congrArg Value.int (by rw [f6_1, if_pos hc3_1, if_neg hc41_3, if_neg hc48_4, if_pos hc54_5])), N, rfl⟩)
        · refine Rt.icmpY (pc' := 59) X0 hx (hb hby d6_54) (flt hc54_5).2.2.2 (by decide) (by decide) ?_
          refine Rt.aloadN (pc' := 60) X0 hx (hb hby d6_59) rfl rfl rfl ?_
          refine Rt.iload (pc' := 62) X0 hx (hb hby d6_60) rfl rfl ?_
          refine Rt.iaload (pc' := 63) X0 hx hZ F_A_a3 (i := ((f6_1_v31 ps)).toNatClampNeg) rfl hc41_3 (v := (.int (own_at v0 v1 v2 v3 v4 (f6_1_v31 ps)))) (own_ix hc41_3 (own_ge hc48_4 hc54_5)) (hb hby d6_62) rfl ?_
          refine Rt.iload (pc' := 65) X0 hx (hb hby d6_63) rfl rfl ?_
          by_cases hc65_6 : p6 < (own_at v0 v1 v2 v3 v4 (f6_1_v31 ps))
          · refine Rt.icmpN (pc' := 68) X0 hx (hb hby d6_65) (tlt hc65_6).2.2.2 rfl ?_
            refine Rt.aloadN (pc' := 69) X0 hx (hb hby d6_68) rfl rfl rfl ?_
            refine Rt.iload (pc' := 71) X0 hx (hb hby d6_69) rfl rfl ?_
            refine Rt.iaload (pc' := 72) X0 hx hZ F_A_a3 (i := ((f6_1_v37 ps)).toNatClampNeg) rfl (own_le hc41_3 hc48_4) (v := (.int (own_at v0 v1 v2 v3 v4 (f6_1_v37 ps)))) (own_ix (own_le hc41_3 hc48_4) hc54_5) (hb hby d6_71) rfl ?_
            refine Rt.iload (pc' := 74) X0 hx (hb hby d6_72) rfl rfl ?_
            by_cases hc74_7 : p6 < (own_at v0 v1 v2 v3 v4 (f6_1_v37 ps))
            · refine Rt.icmpY (pc' := 79) X0 hx (hb hby d6_74) (tlt hc74_7).2.2.1 (by decide) (by decide) ?_
              refine Rt.iload (pc' := 81) X0 hx (hb hby d6_79) rfl rfl ?_
              refine Rt.iload (pc' := 83) X0 hx (hb hby d6_81) rfl rfl ?_
              refine Rt.isub (pc' := 84) (r := ((f6_1_v37 ps) - (f6_1_v31 ps))) X0 hx (hb hby d6_83) rfl rfl ?_
              refine Rt.iloadN (pc' := 85) X0 hx (hb hby d6_84) rfl rfl ?_
              by_cases hc85_8 : ((f6_1_v37 ps) - (f6_1_v31 ps)) < p4
              · refine Rt.icmpY (pc' := 90) X0 hx (hb hby d6_85) (tlt hc85_8).1 (by decide) (by decide) ?_
                refine Rt.aloadN (pc' := 91) X0 hx (hb hby d6_90) rfl rfl rfl ?_
                refine Rt.iload (pc' := 93) X0 hx (hb hby d6_91) rfl rfl ?_
                refine Rt.iload (pc' := 95) X0 hx (hb hby d6_93) rfl rfl ?_
                refine Rt.iload (pc' := 97) X0 hx (hb hby d6_95) rfl rfl ?_
                refine Rt.callP (pc' := 100) (r := (.int (f7 p6 (f6_1_v31 ps) (f6_1_v37 ps) v0 v1 v2 v3 v4))) X0 hx hZ (y := mt7) hown (own_g hw 26 rfl) (own_g hw 27 rfl) (own_g hw 20 rfl) (own_g hw 28 rfl) (by decide) (rm7 l Z a0 hw [] a3 p6 (f6_1_v31 ps) (f6_1_v37 ps) v0 v1 v2 v3 v4 h0 n0 F_A_a3) (W := 0) (by decide) (by decide) (by decide) (by decide) rfl rfl (argsL := [(.ref a3), (.int p6), (.int (f6_1_v31 ps)), (.int (f6_1_v37 ps))]) (rest := []) (by rw [hml]; rfl) (lenOf pd_1 rfl) rfl rfl (Nat.le_of_eq rfl) (hb hby d6_97) rfl ?_
                intro T9 X9
                refine Rt.iload (pc' := 102) X9 hx (hb hby d6_100) rfl rfl ?_
                by_cases hc102_10 : p5 < (f7 p6 (f6_1_v31 ps) (f6_1_v37 ps) v0 v1 v2 v3 v4)
                · refine Rt.icmpN (pc' := 105) X9 hx (hb hby d6_102) (tlt hc102_10).2.2.2 rfl ?_
                  refine Rt.iconst (pc' := 106) (v := (0 : Int32)) X9 hx (hb hby d6_105) rfl rfl ?_
                  exact Rt.retZ (w := (0 : Int32)) X9 hx hlk hret (by simp) (hb hby d6_106) (by decide) (by decide) (by decide) (fun L N => ⟨congrArg some (congrArg Value.int (by rw [f6_1, if_pos hc3_1, if_neg hc41_3, if_neg hc48_4, if_neg hc54_5, if_pos hc65_6, if_pos hc74_7, if_pos hc85_8, if_pos hc102_10])), N, rfl⟩)
                · refine Rt.icmpY (pc' := 107) X9 hx (hb hby d6_102) (flt hc102_10).2.2.2 (by decide) (by decide) ?_
                  refine Rt.iconst (pc' := 108) (v := (-1 : Int32)) X9 hx (hb hby d6_107) rfl rfl ?_
                  refine Rt.istore (pc' := 110) (v := (-1 : Int32)) (l' := #[.val (.ref a1), .val (.int (1 : Int32)), .val (.ref a3), .val (.int p4), .val (.int p5), .val (.int p6), .val (.ref y2), .val (.int (f6_1_v31 ps)), .val (.int (f6_1_v37 ps)), .val (.int (-1 : Int32)), .unset]) X9 hx (hb hby d6_108) rfl rfl ?_
                  refine Rt.iloadN (pc' := 111) X9 hx (hb hby d6_110) rfl rfl ?_
                  refine Rt.iconst (pc' := 112) (v := (1 : Int32)) X9 hx (hb hby d6_111) rfl rfl ?_
                  refine Rt.iadd (pc' := 113) (r := (2 : Int32)) X9 hx (hb hby d6_112) (by decide) rfl ?_
                  refine Rt.aloadN (pc' := 114) X9 hx (hb hby d6_113) rfl rfl rfl ?_
                  refine Rt.arraylengthP (pc' := 115) X9 hx hZ F_P_a1 (v := ((ps).length.toInt32)) rfl (hb hby d6_114) rfl ?_
                  by_cases hc115_11 : (2 : Int32) < ((ps).length.toInt32)
                  · refine Rt.icmpN (pc' := 118) X9 hx (hb hby d6_115) (tlt hc115_11).2.1 rfl ?_
                    refine Rt.aloadN (pc' := 119) X9 hx (hb hby d6_118) rfl rfl rfl ?_
                    refine Rt.iloadN (pc' := 120) X9 hx (hb hby d6_119) rfl rfl ?_
                    refine Rt.iconst (pc' := 121) (v := (1 : Int32)) X9 hx (hb hby d6_120) rfl rfl ?_
                    refine Rt.iadd (pc' := 122) (r := (2 : Int32)) X9 hx (hb hby d6_121) (by decide) rfl ?_
                    refine Rt.aaloadP (pc' := 123) X9 hx hZ F_P_a1 (t := 2) (by decide) (by decide) (own_pt (own_tl hps hc115_11 (by decide))) (hb hby d6_122) rfl ?_
                    intro y12 Fy12
                    refine Rt.astore (pc' := 125) (v := (.ref y12)) (l' := #[.val (.ref a1), .val (.int (1 : Int32)), .val (.ref a3), .val (.int p4), .val (.int p5), .val (.int p6), .val (.ref y2), .val (.int (f6_1_v31 ps)), .val (.int (f6_1_v37 ps)), .val (.int (-1 : Int32)), .val (.ref y12)]) X9 hx (hb hby d6_123) rfl rfl rfl ?_
                    refine Rt.aload (pc' := 127) X9 hx (hb hby d6_125) rfl rfl rfl ?_
                    refine Rt.ifnullN (pc' := 130) X9 hx (hb hby d6_127) rfl ?_
                    refine Rt.aload (pc' := 132) X9 hx (hb hby d6_130) rfl rfl rfl ?_
                    refine Rt.arraylength (pc' := 133) X9 hx hZ Fy12 (v := (2 : Int32)) rfl (hb hby d6_132) rfl ?_
                    refine Rt.iconst (pc' := 134) (v := (1 : Int32)) X9 hx (hb hby d6_133) rfl rfl ?_
                    refine Rt.icmpY (pc' := 139) X9 hx (hb hby d6_134) (flt (by decide : ¬ ((2 : Int32) < (1 : Int32)))).2.1 (by decide) (by decide) ?_
                    refine Rt.aload (pc' := 141) X9 hx (hb hby d6_139) rfl rfl rfl ?_
                    refine Rt.iconst (pc' := 142) (v := (0 : Int32)) X9 hx (hb hby d6_141) rfl rfl ?_
                    refine Rt.iaload (pc' := 143) X9 hx hZ Fy12 (i := 0) (by decide) (by decide) (v := (.int ((ps).getD 2 ((0 : Int32), (0 : Int32))).1)) rfl (hb hby d6_142) rfl ?_
                    refine Rt.istore (pc' := 145) (v := (f6_1_v143 ps)) (l' := #[.val (.ref a1), .val (.int (1 : Int32)), .val (.ref a3), .val (.int p4), .val (.int p5), .val (.int p6), .val (.ref y2), .val (.int (f6_1_v31 ps)), .val (.int (f6_1_v37 ps)), .val (.int (f6_1_v143 ps)), .val (.ref y12)]) X9 hx (hb hby d6_143) rfl rfl ?_
                    refine Rt.aloadN (pc' := 146) X9 hx (hb hby d6_145) rfl rfl rfl ?_
                    refine Rt.iload (pc' := 148) X9 hx (hb hby d6_146) rfl rfl ?_
                    refine Rt.iload (pc' := 150) X9 hx (hb hby d6_148) rfl rfl ?_
                    refine Rt.callP (pc' := 153) (r := (.int (f5 p6 (f6_1_v37 ps) v0 v1 v2 v3 v4))) X9 hx hZ (y := mt5) hown (own_g hw 18 rfl) (own_g hw 19 rfl) (own_g hw 20 rfl) (own_g hw 21 rfl) (by decide) (rm5 l Z a0 hw [] a3 p6 (f6_1_v37 ps) v0 v1 v2 v3 v4 h0 n0 F_A_a3) (W := 0) (by decide) (by decide) (by decide) (by decide) rfl rfl (argsL := [(.ref a3), (.int p6), (.int (f6_1_v37 ps))]) (rest := []) (by rw [hml]; rfl) (lenOf pd_3 rfl) rfl rfl (Nat.le_of_eq rfl) (hb hby d6_150) rfl ?_
                    intro T13 X13
                    refine Rt.istore (pc' := 155) (v := (f6_1_v153 p6 v0 v1 v2 v3 v4 ps)) (l' := #[.val (.ref a1), .val (.int (1 : Int32)), .val (.ref a3), .val (.int p4), .val (.int p5), .val (.int p6), .val (.ref y2), .val (.int (f6_1_v31 ps)), .val (.int (f6_1_v37 ps)), .val (.int (f6_1_v143 ps)), .val (.int (f6_1_v153 p6 v0 v1 v2 v3 v4 ps))]) X13 hx (hb hby d6_153) rfl rfl ?_
                    refine Rt.iload (pc' := 157) X13 hx (hb hby d6_155) rfl rfl ?_
                    refine Rt.iload (pc' := 159) X13 hx (hb hby d6_157) rfl rfl ?_
                    by_cases hc159_14 : (f6_1_v143 ps) = (f6_1_v153 p6 v0 v1 v2 v3 v4 ps)
                    · refine Rt.icmpY (pc' := 164) X13 hx (hb hby d6_159) (teq hc159_14).1 (by decide) (by decide) ?_
                      refine Rt.iload (pc' := 166) X13 hx (hb hby d6_164) rfl rfl ?_
                      refine Rt.iconst (pc' := 167) (v := (-1 : Int32)) X13 hx (hb hby d6_166) rfl rfl ?_
                      by_cases hc167_15 : (f6_1_v153 p6 v0 v1 v2 v3 v4 ps) = (-1 : Int32)
                      · refine Rt.icmpY (pc' := 196) X13 hx (hb hby d6_167) (teq hc167_15).1 (by decide) (by decide) ?_
                        refine Rt.iconst (pc' := 197) (v := (1 : Int32)) X13 hx (hb hby d6_196) rfl rfl ?_
                        exact Rt.retZ (w := (1 : Int32)) X13 hx hlk hret (by simp) (hb hby d6_197) (by decide) (by decide) (by decide) (fun L N => ⟨congrArg some (congrArg Value.int (by rw [f6_1, if_pos hc3_1, if_neg hc41_3, if_neg hc48_4, if_neg hc54_5, if_pos hc65_6, if_pos hc74_7, if_pos hc85_8, if_neg hc102_10, if_pos hc115_11, if_pos hc159_14, if_pos hc167_15])), N, rfl⟩)
                      · refine Rt.icmpN (pc' := 170) X13 hx (hb hby d6_167) (feq hc167_15).1 rfl ?_
                        refine Rt.iload (pc' := 172) X13 hx (hb hby d6_170) rfl rfl ?_
                        refine Rt.iload (pc' := 174) X13 hx (hb hby d6_172) rfl rfl ?_
                        refine Rt.isub (pc' := 175) (r := ((f6_1_v153 p6 v0 v1 v2 v3 v4 ps) - (f6_1_v31 ps))) X13 hx (hb hby d6_174) rfl rfl ?_
                        refine Rt.iloadN (pc' := 176) X13 hx (hb hby d6_175) rfl rfl ?_
                        by_cases hc176_16 : ((f6_1_v153 p6 v0 v1 v2 v3 v4 ps) - (f6_1_v31 ps)) < p4
                        · refine Rt.icmpN (pc' := 179) X13 hx (hb hby d6_176) (tlt hc176_16).2.1 rfl ?_
                          refine Rt.aloadN (pc' := 180) X13 hx (hb hby d6_179) rfl rfl rfl ?_
                          refine Rt.iload (pc' := 182) X13 hx (hb hby d6_180) rfl rfl ?_
                          refine Rt.iload (pc' := 184) X13 hx (hb hby d6_182) rfl rfl ?_
                          refine Rt.iload (pc' := 186) X13 hx (hb hby d6_184) rfl rfl ?_
                          refine Rt.callP (pc' := 189) (r := (.int (f7 p6 (f6_1_v31 ps) (f6_1_v153 p6 v0 v1 v2 v3 v4 ps) v0 v1 v2 v3 v4))) X13 hx hZ (y := mt7) hown (own_g hw 26 rfl) (own_g hw 27 rfl) (own_g hw 20 rfl) (own_g hw 28 rfl) (by decide) (rm7 l Z a0 hw [] a3 p6 (f6_1_v31 ps) (f6_1_v153 p6 v0 v1 v2 v3 v4 ps) v0 v1 v2 v3 v4 h0 n0 F_A_a3) (W := 0) (by decide) (by decide) (by decide) (by decide) rfl rfl (argsL := [(.ref a3), (.int p6), (.int (f6_1_v31 ps)), (.int (f6_1_v153 p6 v0 v1 v2 v3 v4 ps))]) (rest := []) (by rw [hml]; rfl) (lenOf pd_1 rfl) rfl rfl (Nat.le_of_eq rfl) (hb hby d6_186) rfl ?_
                          intro T17 X17
                          refine Rt.iload (pc' := 191) X17 hx (hb hby d6_189) rfl rfl ?_
                          by_cases hc191_18 : p5 < (f7 p6 (f6_1_v31 ps) (f6_1_v153 p6 v0 v1 v2 v3 v4 ps) v0 v1 v2 v3 v4)
                          · refine Rt.icmpY (pc' := 196) X17 hx (hb hby d6_191) (tlt hc191_18).2.2.1 (by decide) (by decide) ?_
                            refine Rt.iconst (pc' := 197) (v := (1 : Int32)) X17 hx (hb hby d6_196) rfl rfl ?_
                            exact Rt.retZ (w := (1 : Int32)) X17 hx hlk hret (by simp) (hb hby d6_197) (by decide) (by decide) (by decide) (fun L N => ⟨congrArg some (congrArg Value.int (by rw [f6_1, if_pos hc3_1, if_neg hc41_3, if_neg hc48_4, if_neg hc54_5, if_pos hc65_6, if_pos hc74_7, if_pos hc85_8, if_neg hc102_10, if_pos hc115_11, if_pos hc159_14, if_neg hc167_15, if_pos hc176_16, if_pos hc191_18])), N, rfl⟩)
                          · refine Rt.icmpN (pc' := 194) X17 hx (hb hby d6_191) (flt hc191_18).2.2.1 rfl ?_
                            refine Rt.iconst (pc' := 195) (v := (0 : Int32)) X17 hx (hb hby d6_194) rfl rfl ?_
                            exact Rt.retZ (w := (0 : Int32)) X17 hx hlk hret (by simp) (hb hby d6_195) (by decide) (by decide) (by decide) (fun L N => ⟨congrArg some (congrArg Value.int (by rw [f6_1, if_pos hc3_1, if_neg hc41_3, if_neg hc48_4, if_neg hc54_5, if_pos hc65_6, if_pos hc74_7, if_pos hc85_8, if_neg hc102_10, if_pos hc115_11, if_pos hc159_14, if_neg hc167_15, if_pos hc176_16, if_neg hc191_18])), N, rfl⟩)
                        · refine Rt.icmpY (pc' := 196) X13 hx (hb hby d6_176) (flt hc176_16).2.1 (by decide) (by decide) ?_
                          refine Rt.iconst (pc' := 197) (v := (1 : Int32)) X13 hx (hb hby d6_196) rfl rfl ?_
                          exact Rt.retZ (w := (1 : Int32)) X13 hx hlk hret (by simp) (hb hby d6_197) (by decide) (by decide) (by decide) (fun L N => ⟨congrArg some (congrArg Value.int (by rw [f6_1, if_pos hc3_1, if_neg hc41_3, if_neg hc48_4, if_neg hc54_5, if_pos hc65_6, if_pos hc74_7, if_pos hc85_8, if_neg hc102_10, if_pos hc115_11, if_pos hc159_14, if_neg hc167_15, if_neg hc176_16])), N, rfl⟩)
                    · refine Rt.icmpN (pc' := 162) X13 hx (hb hby d6_159) (feq hc159_14).1 rfl ?_
                      refine Rt.iconst (pc' := 163) (v := (0 : Int32)) X13 hx (hb hby d6_162) rfl rfl ?_
                      exact Rt.retZ (w := (0 : Int32)) X13 hx hlk hret (by simp) (hb hby d6_163) (by decide) (by decide) (by decide) (fun L N => ⟨congrArg some (congrArg Value.int (by rw [f6_1, if_pos hc3_1, if_neg hc41_3, if_neg hc48_4, if_neg hc54_5, if_pos hc65_6, if_pos hc74_7, if_pos hc85_8, if_neg hc102_10, if_pos hc115_11, if_neg hc159_14])), N, rfl⟩)
                  · refine Rt.icmpY (pc' := 145) X9 hx (hb hby d6_115) (flt hc115_11).2.1 (by decide) (by decide) ?_
                    refine Rt.aloadN (pc' := 146) X9 hx (hb hby d6_145) rfl rfl rfl ?_
                    refine Rt.iload (pc' := 148) X9 hx (hb hby d6_146) rfl rfl ?_
                    refine Rt.iload (pc' := 150) X9 hx (hb hby d6_148) rfl rfl ?_
                    refine Rt.callP (pc' := 153) (r := (.int (f5 p6 (f6_1_v37 ps) v0 v1 v2 v3 v4))) X9 hx hZ (y := mt5) hown (own_g hw 18 rfl) (own_g hw 19 rfl) (own_g hw 20 rfl) (own_g hw 21 rfl) (by decide) (rm5 l Z a0 hw [] a3 p6 (f6_1_v37 ps) v0 v1 v2 v3 v4 h0 n0 F_A_a3) (W := 0) (by decide) (by decide) (by decide) (by decide) rfl rfl (argsL := [(.ref a3), (.int p6), (.int (f6_1_v37 ps))]) (rest := []) (by rw [hml]; rfl) (lenOf pd_3 rfl) rfl rfl (Nat.le_of_eq rfl) (hb hby d6_150) rfl ?_
                    intro T19 X19
                    refine Rt.istore (pc' := 155) (v := (f6_1_v153 p6 v0 v1 v2 v3 v4 ps)) (l' := #[.val (.ref a1), .val (.int (1 : Int32)), .val (.ref a3), .val (.int p4), .val (.int p5), .val (.int p6), .val (.ref y2), .val (.int (f6_1_v31 ps)), .val (.int (f6_1_v37 ps)), .val (.int (-1 : Int32)), .val (.int (f6_1_v153 p6 v0 v1 v2 v3 v4 ps))]) X19 hx (hb hby d6_153) rfl rfl ?_
                    refine Rt.iload (pc' := 157) X19 hx (hb hby d6_155) rfl rfl ?_
                    refine Rt.iload (pc' := 159) X19 hx (hb hby d6_157) rfl rfl ?_
                    by_cases hc159_20 : (-1 : Int32) = (f6_1_v153 p6 v0 v1 v2 v3 v4 ps)
                    · refine Rt.icmpY (pc' := 164) X19 hx (hb hby d6_159) (teq hc159_20).1 (by decide) (by decide) ?_
                      refine Rt.iload (pc' := 166) X19 hx (hb hby d6_164) rfl rfl ?_
                      refine Rt.iconst (pc' := 167) (v := (-1 : Int32)) X19 hx (hb hby d6_166) rfl rfl ?_
                      by_cases hc167_21 : (f6_1_v153 p6 v0 v1 v2 v3 v4 ps) = (-1 : Int32)
                      · refine Rt.icmpY (pc' := 196) X19 hx (hb hby d6_167) (teq hc167_21).1 (by decide) (by decide) ?_
                        refine Rt.iconst (pc' := 197) (v := (1 : Int32)) X19 hx (hb hby d6_196) rfl rfl ?_
                        exact Rt.retZ (w := (1 : Int32)) X19 hx hlk hret (by simp) (hb hby d6_197) (by decide) (by decide) (by decide) (fun L N => ⟨congrArg some (congrArg Value.int (by rw [f6_1, if_pos hc3_1, if_neg hc41_3, if_neg hc48_4, if_neg hc54_5, if_pos hc65_6, if_pos hc74_7, if_pos hc85_8, if_neg hc102_10, if_neg hc115_11, if_pos hc159_20, if_pos hc167_21])), N, rfl⟩)
                      · refine Rt.icmpN (pc' := 170) X19 hx (hb hby d6_167) (feq hc167_21).1 rfl ?_
                        refine Rt.iload (pc' := 172) X19 hx (hb hby d6_170) rfl rfl ?_
                        refine Rt.iload (pc' := 174) X19 hx (hb hby d6_172) rfl rfl ?_
                        refine Rt.isub (pc' := 175) (r := ((f6_1_v153 p6 v0 v1 v2 v3 v4 ps) - (f6_1_v31 ps))) X19 hx (hb hby d6_174) rfl rfl ?_
                        refine Rt.iloadN (pc' := 176) X19 hx (hb hby d6_175) rfl rfl ?_
                        by_cases hc176_22 : ((f6_1_v153 p6 v0 v1 v2 v3 v4 ps) - (f6_1_v31 ps)) < p4
                        · refine Rt.icmpN (pc' := 179) X19 hx (hb hby d6_176) (tlt hc176_22).2.1 rfl ?_
                          refine Rt.aloadN (pc' := 180) X19 hx (hb hby d6_179) rfl rfl rfl ?_
                          refine Rt.iload (pc' := 182) X19 hx (hb hby d6_180) rfl rfl ?_
                          refine Rt.iload (pc' := 184) X19 hx (hb hby d6_182) rfl rfl ?_
                          refine Rt.iload (pc' := 186) X19 hx (hb hby d6_184) rfl rfl ?_
                          refine Rt.callP (pc' := 189) (r := (.int (f7 p6 (f6_1_v31 ps) (f6_1_v153 p6 v0 v1 v2 v3 v4 ps) v0 v1 v2 v3 v4))) X19 hx hZ (y := mt7) hown (own_g hw 26 rfl) (own_g hw 27 rfl) (own_g hw 20 rfl) (own_g hw 28 rfl) (by decide) (rm7 l Z a0 hw [] a3 p6 (f6_1_v31 ps) (f6_1_v153 p6 v0 v1 v2 v3 v4 ps) v0 v1 v2 v3 v4 h0 n0 F_A_a3) (W := 0) (by decide) (by decide) (by decide) (by decide) rfl rfl (argsL := [(.ref a3), (.int p6), (.int (f6_1_v31 ps)), (.int (f6_1_v153 p6 v0 v1 v2 v3 v4 ps))]) (rest := []) (by rw [hml]; rfl) (lenOf pd_1 rfl) rfl rfl (Nat.le_of_eq rfl) (hb hby d6_186) rfl ?_
                          intro T23 X23
                          refine Rt.iload (pc' := 191) X23 hx (hb hby d6_189) rfl rfl ?_
                          by_cases hc191_24 : p5 < (f7 p6 (f6_1_v31 ps) (f6_1_v153 p6 v0 v1 v2 v3 v4 ps) v0 v1 v2 v3 v4)
                          · refine Rt.icmpY (pc' := 196) X23 hx (hb hby d6_191) (tlt hc191_24).2.2.1 (by decide) (by decide) ?_
                            refine Rt.iconst (pc' := 197) (v := (1 : Int32)) X23 hx (hb hby d6_196) rfl rfl ?_
                            exact Rt.retZ (w := (1 : Int32)) X23 hx hlk hret (by simp) (hb hby d6_197) (by decide) (by decide) (by decide) (fun L N => ⟨congrArg some (congrArg Value.int (by rw [f6_1, if_pos hc3_1, if_neg hc41_3, if_neg hc48_4, if_neg hc54_5, if_pos hc65_6, if_pos hc74_7, if_pos hc85_8, if_neg hc102_10, if_neg hc115_11, if_pos hc159_20, if_neg hc167_21, if_pos hc176_22, if_pos hc191_24])), N, rfl⟩)
                          · refine Rt.icmpN (pc' := 194) X23 hx (hb hby d6_191) (flt hc191_24).2.2.1 rfl ?_
                            refine Rt.iconst (pc' := 195) (v := (0 : Int32)) X23 hx (hb hby d6_194) rfl rfl ?_
                            exact Rt.retZ (w := (0 : Int32)) X23 hx hlk hret (by simp) (hb hby d6_195) (by decide) (by decide) (by decide) (fun L N => ⟨congrArg some (congrArg Value.int (by rw [f6_1, if_pos hc3_1, if_neg hc41_3, if_neg hc48_4, if_neg hc54_5, if_pos hc65_6, if_pos hc74_7, if_pos hc85_8, if_neg hc102_10, if_neg hc115_11, if_pos hc159_20, if_neg hc167_21, if_pos hc176_22, if_neg hc191_24])), N, rfl⟩)
                        · refine Rt.icmpY (pc' := 196) X19 hx (hb hby d6_176) (flt hc176_22).2.1 (by decide) (by decide) ?_
                          refine Rt.iconst (pc' := 197) (v := (1 : Int32)) X19 hx (hb hby d6_196) rfl rfl ?_
                          exact Rt.retZ (w := (1 : Int32)) X19 hx hlk hret (by simp) (hb hby d6_197) (by decide) (by decide) (by decide) (fun L N => ⟨congrArg some (congrArg Value.int (by rw [f6_1, if_pos hc3_1, if_neg hc41_3, if_neg hc48_4, if_neg hc54_5, if_pos hc65_6, if_pos hc74_7, if_pos hc85_8, if_neg hc102_10, if_neg hc115_11, if_pos hc159_20, if_neg hc167_21, if_neg hc176_22])), N, rfl⟩)
                    · refine Rt.icmpN (pc' := 162) X19 hx (hb hby d6_159) (feq hc159_20).1 rfl ?_
                      refine Rt.iconst (pc' := 163) (v := (0 : Int32)) X19 hx (hb hby d6_162) rfl rfl ?_
                      exact Rt.retZ (w := (0 : Int32)) X19 hx hlk hret (by simp) (hb hby d6_163) (by decide) (by decide) (by decide) (fun L N => ⟨congrArg some (congrArg Value.int (by rw [f6_1, if_pos hc3_1, if_neg hc41_3, if_neg hc48_4, if_neg hc54_5, if_pos hc65_6, if_pos hc74_7, if_pos hc85_8, if_neg hc102_10, if_neg hc115_11, if_neg hc159_20])), N, rfl⟩)
              · refine Rt.icmpN (pc' := 88) X0 hx (hb hby d6_85) (flt hc85_8).1 rfl ?_
                refine Rt.iconst (pc' := 89) (v := (0 : Int32)) X0 hx (hb hby d6_88) rfl rfl ?_
                exact Rt.retZ (w := (0 : Int32)) X0 hx hlk hret (by simp) (hb hby d6_89) (by decide) (by decide) (by decide) (fun L N => ⟨congrArg some (congrArg Value.int (by rw [f6_1, if_pos hc3_1, if_neg hc41_3, if_neg hc48_4, if_neg hc54_5, if_pos hc65_6, if_pos hc74_7, if_neg hc85_8])), N, rfl⟩)
            · refine Rt.icmpN (pc' := 77) X0 hx (hb hby d6_74) (flt hc74_7).2.2.1 rfl ?_
              refine Rt.iconst (pc' := 78) (v := (0 : Int32)) X0 hx (hb hby d6_77) rfl rfl ?_
              exact Rt.retZ (w := (0 : Int32)) X0 hx hlk hret (by simp) (hb hby d6_78) (by decide) (by decide) (by decide) (fun L N => ⟨congrArg some (congrArg Value.int (by rw [f6_1, if_pos hc3_1, if_neg hc41_3, if_neg hc48_4, if_neg hc54_5, if_pos hc65_6, if_neg hc74_7])), N, rfl⟩)
          · refine Rt.icmpY (pc' := 77) X0 hx (hb hby d6_65) (flt hc65_6).2.2.2 (by decide) (by decide) ?_
            refine Rt.iconst (pc' := 78) (v := (0 : Int32)) X0 hx (hb hby d6_77) rfl rfl ?_
            exact Rt.retZ (w := (0 : Int32)) X0 hx hlk hret (by simp) (hb hby d6_78) (by decide) (by decide) (by decide) (fun L N => ⟨congrArg some (congrArg Value.int (by rw [f6_1, if_pos hc3_1, if_neg hc41_3, if_neg hc48_4, if_neg hc54_5, if_neg hc65_6])), N, rfl⟩)
  · refine Rt.icmpN (pc' := 6) X0 hx (hb hby d6_3) (flt hc3_1).1 rfl ?_
    refine Rt.iconst (pc' := 7) (v := (1 : Int32)) X0 hx (hb hby d6_6) rfl rfl ?_
    exact Rt.retZ (w := (1 : Int32)) X0 hx hlk hret (by simp) (hb hby d6_7) (by decide) (by decide) (by decide) (fun L N => ⟨congrArg some (congrArg Value.int (by rw [f6_1, if_neg hc3_1])), N, rfl⟩)
def f6_2_v31 (ps : List (Int32 × Int32)) : Int32 := ((ps).getD 2 ((0 : Int32), (0 : Int32))).1
def f6_2_v37 (ps : List (Int32 × Int32)) : Int32 := ((ps).getD 2 ((0 : Int32), (0 : Int32))).2
def f6_2_v143 (ps : List (Int32 × Int32)) : Int32 := ((ps).getD 3 ((0 : Int32), (0 : Int32))).1
def f6_2_v153 (p6 : Int32) (v0 : Int32) (v1 : Int32) (v2 : Int32) (v3 : Int32) (v4 : Int32) (ps : List (Int32 × Int32)) : Int32 := (f5 p6 (f6_2_v37 ps) v0 v1 v2 v3 v4)
def f6_2 (p4 : Int32) (p5 : Int32) (p6 : Int32) (v0 : Int32) (v1 : Int32) (v2 : Int32) (v3 : Int32) (v4 : Int32) (ps : List (Int32 × Int32)) : Int32 := (if (2 : Int32) < ((ps).length.toInt32) then (if (f6_2_v31 ps) < (0 : Int32) then (0 : Int32) else (if (f6_2_v37 ps) < (f6_2_v31 ps) then (0 : Int32) else (if (4 : Int32) < (f6_2_v37 ps) then (0 : Int32) else (if p6 < (own_at v0 v1 v2 v3 v4 (f6_2_v31 ps)) then (if p6 < (own_at v0 v1 v2 v3 v4 (f6_2_v37 ps)) then (if ((f6_2_v37 ps) - (f6_2_v31 ps)) < p4 then (if p5 < (f7 p6 (f6_2_v31 ps) (f6_2_v37 ps) v0 v1 v2 v3 v4) then (0 : Int32) else (if (3 : Int32) < ((ps).length.toInt32) then (if (f6_2_v143 ps) = (f6_2_v153 p6 v0 v1 v2 v3 v4 ps) then (if (f6_2_v153 p6 v0 v1 v2 v3 v4 ps) = (-1 : Int32) then (1 : Int32) else (if ((f6_2_v153 p6 v0 v1 v2 v3 v4 ps) - (f6_2_v31 ps)) < p4 then (if p5 < (f7 p6 (f6_2_v31 ps) (f6_2_v153 p6 v0 v1 v2 v3 v4 ps) v0 v1 v2 v3 v4) then (1 : Int32) else (0 : Int32)) else (1 : Int32))) else (0 : Int32)) else (if (-1 : Int32) = (f6_2_v153 p6 v0 v1 v2 v3 v4 ps) then (if (f6_2_v153 p6 v0 v1 v2 v3 v4 ps) = (-1 : Int32) then (1 : Int32) else (if ((f6_2_v153 p6 v0 v1 v2 v3 v4 ps) - (f6_2_v31 ps)) < p4 then (if p5 < (f7 p6 (f6_2_v31 ps) (f6_2_v153 p6 v0 v1 v2 v3 v4 ps) v0 v1 v2 v3 v4) then (1 : Int32) else (0 : Int32)) else (1 : Int32))) else (0 : Int32)))) else (0 : Int32)) else (0 : Int32)) else (0 : Int32))))) else (1 : Int32))
def Q6_2 (a1 : Addr) (a3 : Addr) (p4 : Int32) (p5 : Int32) (p6 : Int32) (v0 : Int32) (v1 : Int32) (v2 : Int32) (v3 : Int32) (v4 : Int32) (ps : List (Int32 × Int32)) (h0 : Heap) (n0 : Nat) (v : Option Value) (h : Heap) (L : List Loc) : Prop := v = some (.int (f6_2 p4 p5 p6 v0 v1 v2 v3 v4 ps)) ∧ Fr n0 L ∧ h = h0
def rmR6_2 : Room := { frames := 2, cells := 0, slots := 0, locals := 32 }
theorem ef_6_2 (m : MethodId) (a1 : Addr) (a3 : Addr) (p4 : Int32) (p5 : Int32) (p6 : Int32) : entryFrame m #[(.ref a1), (.int (2 : Int32)), (.ref a3), (.int p4), (.int p5), (.int p6)] 11 = mkF m 0 #[.val (.ref a1), .val (.int (2 : Int32)), .val (.ref a3), .val (.int p4), .val (.int p5), .val (.int p6), .unset, .unset, .unset, .unset, .unset] [] := by first | (simp [entryFrame, mkF, argsToLocals, Value.category]; done) | rfl
set_option maxRecDepth 65536 in
set_option maxHeartbeats 40000000 in
theorem rm6_2 (l : Launch) (Z : State) (a0 : Array Value) (hw : ∀ d ∈ tables_1, d.before a0 Z = true) (ws : List Jvm.Cond) (a1 : Addr) (a3 : Addr) (p4 : Int32) (p5 : Int32) (p6 : Int32) (v0 : Int32) (v1 : Int32) (v2 : Int32) (v3 : Int32) (v4 : Int32) (ps : List (Int32 × Int32)) (h0 : Heap) (n0 : Nat) (F_P_a1 : Pr Z h0 a1 (ps).length ps) (F_A_a3 : IA Z h0 a3 .int [(.int v0), (.int v1), (.int v2), (.int v3), (.int v4)]) (hps : ps.length ≤ 5) :
    Mt l Z mt8 (Jvm.Cond.code mt8 method_3_code 11 (some .boolean) :: ws) rmR6_2 #[(.ref a1), (.int (2 : Int32)), (.ref a3), (.int p4), (.int p5), (.int p6)] h0 (Q6_2 a1 a3 p4 p5 p6 v0 v1 v2 v3 v4 ps h0 n0) := by
  refine Mt.of n0 (plainFor_of_name pn_com_example_tightfold_tightfold_FocusCoverRunsPinLaw) ?_
  intro p e s m below meth c T0 X0 hx hZ hby hml hown hret hlk hnm hs0
  have hown : s.vm.findClass "com/example/tightfold/tightfold/FocusCoverRunsPinLaw" = some m.cls := hown
  rw [ef_6_2]
  show Rt p e below s rmR6_2.cells rmR6_2.slots (Q6_2 a1 a3 p4 p5 p6 v0 v1 v2 v3 v4 ps h0 n0) (T0.setTop (mkF m 0 #[.val (.ref a1), .val (.int (2 : Int32)), .val (.ref a3), .val (.int p4), .val (.int p5), .val (.int p6), .unset, .unset, .unset, .unset, .unset] []))
  refine Rt.iloadN (pc' := 1) X0 hx (hb hby d6_0) rfl rfl ?_
  refine Rt.aloadN (pc' := 2) X0 hx (hb hby d6_1) rfl rfl rfl ?_
  refine Rt.arraylengthP (pc' := 3) X0 hx hZ F_P_a1 (v := ((ps).length.toInt32)) rfl (hb hby d6_2) rfl ?_
  by_cases hc3_1 : (2 : Int32) < ((ps).length.toInt32)
  · refine Rt.icmpY (pc' := 8) X0 hx (hb hby d6_3) (tlt hc3_1).1 (by decide) (by decide) ?_
    refine Rt.aloadN (pc' := 9) X0 hx (hb hby d6_8) rfl rfl rfl ?_
    refine Rt.iloadN (pc' := 10) X0 hx (hb hby d6_9) rfl rfl ?_
    refine Rt.aaloadP (pc' := 11) X0 hx hZ F_P_a1 (t := 2) (by decide) (by decide) (own_pt (own_tl hps hc3_1 (by decide))) (hb hby d6_10) rfl ?_
    intro y2 Fy2
    refine Rt.astore (pc' := 13) (v := (.ref y2)) (l' := #[.val (.ref a1), .val (.int (2 : Int32)), .val (.ref a3), .val (.int p4), .val (.int p5), .val (.int p6), .val (.ref y2), .unset, .unset, .unset, .unset]) X0 hx (hb hby d6_11) rfl rfl rfl ?_
    refine Rt.aload (pc' := 15) X0 hx (hb hby d6_13) rfl rfl rfl ?_
    refine Rt.ifnullN (pc' := 18) X0 hx (hb hby d6_15) rfl ?_
    refine Rt.aload (pc' := 20) X0 hx (hb hby d6_18) rfl rfl rfl ?_
    refine Rt.arraylength (pc' := 21) X0 hx hZ Fy2 (v := (2 : Int32)) rfl (hb hby d6_20) rfl ?_
    refine Rt.iconst (pc' := 22) (v := (2 : Int32)) X0 hx (hb hby d6_21) rfl rfl ?_
    refine Rt.icmpY (pc' := 27) X0 hx (hb hby d6_22) (teq (by decide : (2 : Int32) = (2 : Int32))).1 (by decide) (by decide) ?_
    refine Rt.aload (pc' := 29) X0 hx (hb hby d6_27) rfl rfl rfl ?_
    refine Rt.iconst (pc' := 30) (v := (0 : Int32)) X0 hx (hb hby d6_29) rfl rfl ?_
    refine Rt.iaload (pc' := 31) X0 hx hZ Fy2 (i := 0) (by decide) (by decide) (v := (.int ((ps).getD 2 ((0 : Int32), (0 : Int32))).1)) rfl (hb hby d6_30) rfl ?_
    refine Rt.istore (pc' := 33) (v := (f6_2_v31 ps)) (l' := #[.val (.ref a1), .val (.int (2 : Int32)), .val (.ref a3), .val (.int p4), .val (.int p5), .val (.int p6), .val (.ref y2), .val (.int (f6_2_v31 ps)), .unset, .unset, .unset]) X0 hx (hb hby d6_31) rfl rfl ?_
    refine Rt.aload (pc' := 35) X0 hx (hb hby d6_33) rfl rfl rfl ?_
    refine Rt.iconst (pc' := 36) (v := (1 : Int32)) X0 hx (hb hby d6_35) rfl rfl ?_
    refine Rt.iaload (pc' := 37) X0 hx hZ Fy2 (i := 1) (by decide) (by decide) (v := (.int ((ps).getD 2 ((0 : Int32), (0 : Int32))).2)) rfl (hb hby d6_36) rfl ?_
    refine Rt.istore (pc' := 39) (v := (f6_2_v37 ps)) (l' := #[.val (.ref a1), .val (.int (2 : Int32)), .val (.ref a3), .val (.int p4), .val (.int p5), .val (.int p6), .val (.ref y2), .val (.int (f6_2_v31 ps)), .val (.int (f6_2_v37 ps)), .unset, .unset]) X0 hx (hb hby d6_37) rfl rfl ?_
    refine Rt.iload (pc' := 41) X0 hx (hb hby d6_39) rfl rfl ?_
    by_cases hc41_3 : (f6_2_v31 ps) < (0 : Int32)
    · refine Rt.ifY (pc' := 57) X0 hx (hb hby d6_41) ((if0 _ _).trans (tlt hc41_3).1) (by decide) (by decide) ?_
      refine Rt.iconst (pc' := 58) (v := (0 : Int32)) X0 hx (hb hby d6_57) rfl rfl ?_
      exact Rt.retZ (w := (0 : Int32)) X0 hx hlk hret (by simp) (hb hby d6_58) (by decide) (by decide) (by decide) (fun L N => ⟨congrArg some (congrArg Value.int (by rw [f6_2, if_pos hc3_1, if_pos hc41_3])), N, rfl⟩)
    · refine Rt.ifN (pc' := 44) X0 hx (hb hby d6_41) ((if0 _ _).trans (flt hc41_3).1) rfl ?_
      refine Rt.iload (pc' := 46) X0 hx (hb hby d6_44) rfl rfl ?_
      refine Rt.iload (pc' := 48) X0 hx (hb hby d6_46) rfl rfl ?_
      by_cases hc48_4 : (f6_2_v37 ps) < (f6_2_v31 ps)
      · refine Rt.icmpY (pc' := 57) X0 hx (hb hby d6_48) (tlt hc48_4).2.2.1 (by decide) (by decide) ?_
        refine Rt.iconst (pc' := 58) (v := (0 : Int32)) X0 hx (hb hby d6_57) rfl rfl ?_
        exact Rt.retZ (w := (0 : Int32)) X0 hx hlk hret (by simp) (hb hby d6_58) (by decide) (by decide) (by decide) (fun L N => ⟨congrArg some (congrArg Value.int (by rw [f6_2, if_pos hc3_1, if_neg hc41_3, if_pos hc48_4])), N, rfl⟩)
      · refine Rt.icmpN (pc' := 51) X0 hx (hb hby d6_48) (flt hc48_4).2.2.1 rfl ?_
        refine Rt.iload (pc' := 53) X0 hx (hb hby d6_51) rfl rfl ?_
        refine Rt.iconst (pc' := 54) (v := (4 : Int32)) X0 hx (hb hby d6_53) rfl rfl ?_
        by_cases hc54_5 : (4 : Int32) < (f6_2_v37 ps)
        · refine Rt.icmpN (pc' := 57) X0 hx (hb hby d6_54) (tlt hc54_5).2.2.2 rfl ?_
          refine Rt.iconst (pc' := 58) (v := (0 : Int32)) X0 hx (hb hby d6_57) rfl rfl ?_
          exact Rt.retZ (w := (0 : Int32)) X0 hx hlk hret (by simp) (hb hby d6_58) (by decide) (by decide) (by decide) (fun L N => ⟨congrArg some (congrArg Value.int (by rw [f6_2, if_pos hc3_1, if_neg hc41_3, if_neg hc48_4, if_pos hc54_5])), N, rfl⟩)
        · refine Rt.icmpY (pc' := 59) X0 hx (hb hby d6_54) (flt hc54_5).2.2.2 (by decide) (by decide) ?_
          refine Rt.aloadN (pc' := 60) X0 hx (hb hby d6_59) rfl rfl rfl ?_
          refine Rt.iload (pc' := 62) X0 hx (hb hby d6_60) rfl rfl ?_
          refine Rt.iaload (pc' := 63) X0 hx hZ F_A_a3 (i := ((f6_2_v31 ps)).toNatClampNeg) rfl hc41_3 (v := (.int (own_at v0 v1 v2 v3 v4 (f6_2_v31 ps)))) (own_ix hc41_3 (own_ge hc48_4 hc54_5)) (hb hby d6_62) rfl ?_
          refine Rt.iload (pc' := 65) X0 hx (hb hby d6_63) rfl rfl ?_
          by_cases hc65_6 : p6 < (own_at v0 v1 v2 v3 v4 (f6_2_v31 ps))
          · refine Rt.icmpN (pc' := 68) X0 hx (hb hby d6_65) (tlt hc65_6).2.2.2 rfl ?_
            refine Rt.aloadN (pc' := 69) X0 hx (hb hby d6_68) rfl rfl rfl ?_
            refine Rt.iload (pc' := 71) X0 hx (hb hby d6_69) rfl rfl ?_
            refine Rt.iaload (pc' := 72) X0 hx hZ F_A_a3 (i := ((f6_2_v37 ps)).toNatClampNeg) rfl (own_le hc41_3 hc48_4) (v := (.int (own_at v0 v1 v2 v3 v4 (f6_2_v37 ps)))) (own_ix (own_le hc41_3 hc48_4) hc54_5) (hb hby d6_71) rfl ?_
            refine Rt.iload (pc' := 74) X0 hx (hb hby d6_72) rfl rfl ?_
            by_cases hc74_7 : p6 < (own_at v0 v1 v2 v3 v4 (f6_2_v37 ps))
            · refine Rt.icmpY (pc' := 79) X0 hx (hb hby d6_74) (tlt hc74_7).2.2.1 (by decide) (by decide) ?_
              refine Rt.iload (pc' := 81) X0 hx (hb hby d6_79) rfl rfl ?_
              refine Rt.iload (pc' := 83) X0 hx (hb hby d6_81) rfl rfl ?_
              refine Rt.isub (pc' := 84) (r := ((f6_2_v37 ps) - (f6_2_v31 ps))) X0 hx (hb hby d6_83) rfl rfl ?_
              refine Rt.iloadN (pc' := 85) X0 hx (hb hby d6_84) rfl rfl ?_
              by_cases hc85_8 : ((f6_2_v37 ps) - (f6_2_v31 ps)) < p4
              · refine Rt.icmpY (pc' := 90) X0 hx (hb hby d6_85) (tlt hc85_8).1 (by decide) (by decide) ?_
                refine Rt.aloadN (pc' := 91) X0 hx (hb hby d6_90) rfl rfl rfl ?_
                refine Rt.iload (pc' := 93) X0 hx (hb hby d6_91) rfl rfl ?_
                refine Rt.iload (pc' := 95) X0 hx (hb hby d6_93) rfl rfl ?_
                refine Rt.iload (pc' := 97) X0 hx (hb hby d6_95) rfl rfl ?_
                refine Rt.callP (pc' := 100) (r := (.int (f7 p6 (f6_2_v31 ps) (f6_2_v37 ps) v0 v1 v2 v3 v4))) X0 hx hZ (y := mt7) hown (own_g hw 26 rfl) (own_g hw 27 rfl) (own_g hw 20 rfl) (own_g hw 28 rfl) (by decide) (rm7 l Z a0 hw [] a3 p6 (f6_2_v31 ps) (f6_2_v37 ps) v0 v1 v2 v3 v4 h0 n0 F_A_a3) (W := 0) (by decide) (by decide) (by decide) (by decide) rfl rfl (argsL := [(.ref a3), (.int p6), (.int (f6_2_v31 ps)), (.int (f6_2_v37 ps))]) (rest := []) (by rw [hml]; rfl) (lenOf pd_1 rfl) rfl rfl (Nat.le_of_eq rfl) (hb hby d6_97) rfl ?_
                intro T9 X9
                refine Rt.iload (pc' := 102) X9 hx (hb hby d6_100) rfl rfl ?_
                by_cases hc102_10 : p5 < (f7 p6 (f6_2_v31 ps) (f6_2_v37 ps) v0 v1 v2 v3 v4)
                · refine Rt.icmpN (pc' := 105) X9 hx (hb hby d6_102) (tlt hc102_10).2.2.2 rfl ?_
                  refine Rt.iconst (pc' := 106) (v := (0 : Int32)) X9 hx (hb hby d6_105) rfl rfl ?_
                  exact Rt.retZ (w := (0 : Int32)) X9 hx hlk hret (by simp) (hb hby d6_106) (by decide) (by decide) (by decide) (fun L N => ⟨congrArg some (congrArg Value.int (by rw [f6_2, if_pos hc3_1, if_neg hc41_3, if_neg hc48_4, if_neg hc54_5, if_pos hc65_6, if_pos hc74_7, if_pos hc85_8, if_pos hc102_10])), N, rfl⟩)
                · refine Rt.icmpY (pc' := 107) X9 hx (hb hby d6_102) (flt hc102_10).2.2.2 (by decide) (by decide) ?_
                  refine Rt.iconst (pc' := 108) (v := (-1 : Int32)) X9 hx (hb hby d6_107) rfl rfl ?_
                  refine Rt.istore (pc' := 110) (v := (-1 : Int32)) (l' := #[.val (.ref a1), .val (.int (2 : Int32)), .val (.ref a3), .val (.int p4), .val (.int p5), .val (.int p6), .val (.ref y2), .val (.int (f6_2_v31 ps)), .val (.int (f6_2_v37 ps)), .val (.int (-1 : Int32)), .unset]) X9 hx (hb hby d6_108) rfl rfl ?_
                  refine Rt.iloadN (pc' := 111) X9 hx (hb hby d6_110) rfl rfl ?_
                  refine Rt.iconst (pc' := 112) (v := (1 : Int32)) X9 hx (hb hby d6_111) rfl rfl ?_
                  refine Rt.iadd (pc' := 113) (r := (3 : Int32)) X9 hx (hb hby d6_112) (by decide) rfl ?_
                  refine Rt.aloadN (pc' := 114) X9 hx (hb hby d6_113) rfl rfl rfl ?_
                  refine Rt.arraylengthP (pc' := 115) X9 hx hZ F_P_a1 (v := ((ps).length.toInt32)) rfl (hb hby d6_114) rfl ?_
                  by_cases hc115_11 : (3 : Int32) < ((ps).length.toInt32)
                  · refine Rt.icmpN (pc' := 118) X9 hx (hb hby d6_115) (tlt hc115_11).2.1 rfl ?_
                    refine Rt.aloadN (pc' := 119) X9 hx (hb hby d6_118) rfl rfl rfl ?_
                    refine Rt.iloadN (pc' := 120) X9 hx (hb hby d6_119) rfl rfl ?_
                    refine Rt.iconst (pc' := 121) (v := (1 : Int32)) X9 hx (hb hby d6_120) rfl rfl ?_
                    refine Rt.iadd (pc' := 122) (r := (3 : Int32)) X9 hx (hb hby d6_121) (by decide) rfl ?_
                    refine Rt.aaloadP (pc' := 123) X9 hx hZ F_P_a1 (t := 3) (by decide) (by decide) (own_pt (own_tl hps hc115_11 (by decide))) (hb hby d6_122) rfl ?_
                    intro y12 Fy12
                    refine Rt.astore (pc' := 125) (v := (.ref y12)) (l' := #[.val (.ref a1), .val (.int (2 : Int32)), .val (.ref a3), .val (.int p4), .val (.int p5), .val (.int p6), .val (.ref y2), .val (.int (f6_2_v31 ps)), .val (.int (f6_2_v37 ps)), .val (.int (-1 : Int32)), .val (.ref y12)]) X9 hx (hb hby d6_123) rfl rfl rfl ?_
                    refine Rt.aload (pc' := 127) X9 hx (hb hby d6_125) rfl rfl rfl ?_
                    refine Rt.ifnullN (pc' := 130) X9 hx (hb hby d6_127) rfl ?_
                    refine Rt.aload (pc' := 132) X9 hx (hb hby d6_130) rfl rfl rfl ?_
                    refine Rt.arraylength (pc' := 133) X9 hx hZ Fy12 (v := (2 : Int32)) rfl (hb hby d6_132) rfl ?_
                    refine Rt.iconst (pc' := 134) (v := (1 : Int32)) X9 hx (hb hby d6_133) rfl rfl ?_
                    refine Rt.icmpY (pc' := 139) X9 hx (hb hby d6_134) (flt (by decide : ¬ ((2 : Int32) < (1 : Int32)))).2.1 (by decide) (by decide) ?_
                    refine Rt.aload (pc' := 141) X9 hx (hb hby d6_139) rfl rfl rfl ?_
                    refine Rt.iconst (pc' := 142) (v := (0 : Int32)) X9 hx (hb hby d6_141) rfl rfl ?_
                    refine Rt.iaload (pc' := 143) X9 hx hZ Fy12 (i := 0) (by decide) (by decide) (v := (.int ((ps).getD 3 ((0 : Int32), (0 : Int32))).1)) rfl (hb hby d6_142) rfl ?_
                    refine Rt.istore (pc' := 145) (v := (f6_2_v143 ps)) (l' := #[.val (.ref a1), .val (.int (2 : Int32)), .val (.ref a3), .val (.int p4), .val (.int p5), .val (.int p6), .val (.ref y2), .val (.int (f6_2_v31 ps)), .val (.int (f6_2_v37 ps)), .val (.int (f6_2_v143 ps)), .val (.ref y12)]) X9 hx (hb hby d6_143) rfl rfl ?_
                    refine Rt.aloadN (pc' := 146) X9 hx (hb hby d6_145) rfl rfl rfl ?_
                    refine Rt.iload (pc' := 148) X9 hx (hb hby d6_146) rfl rfl ?_
                    refine Rt.iload (pc' := 150) X9 hx (hb hby d6_148) rfl rfl ?_
                    refine Rt.callP (pc' := 153) (r := (.int (f5 p6 (f6_2_v37 ps) v0 v1 v2 v3 v4))) X9 hx hZ (y := mt5) hown (own_g hw 18 rfl) (own_g hw 19 rfl) (own_g hw 20 rfl) (own_g hw 21 rfl) (by decide) (rm5 l Z a0 hw [] a3 p6 (f6_2_v37 ps) v0 v1 v2 v3 v4 h0 n0 F_A_a3) (W := 0) (by decide) (by decide) (by decide) (by decide) rfl rfl (argsL := [(.ref a3), (.int p6), (.int (f6_2_v37 ps))]) (rest := []) (by rw [hml]; rfl) (lenOf pd_3 rfl) rfl rfl (Nat.le_of_eq rfl) (hb hby d6_150) rfl ?_
                    intro T13 X13
                    refine Rt.istore (pc' := 155) (v := (f6_2_v153 p6 v0 v1 v2 v3 v4 ps)) (l' := #[.val (.ref a1), .val (.int (2 : Int32)), .val (.ref a3), .val (.int p4), .val (.int p5), .val (.int p6), .val (.ref y2), .val (.int (f6_2_v31 ps)), .val (.int (f6_2_v37 ps)), .val (.int (f6_2_v143 ps)), .val (.int (f6_2_v153 p6 v0 v1 v2 v3 v4 ps))]) X13 hx (hb hby d6_153) rfl rfl ?_
                    refine Rt.iload (pc' := 157) X13 hx (hb hby d6_155) rfl rfl ?_
                    refine Rt.iload (pc' := 159) X13 hx (hb hby d6_157) rfl rfl ?_
                    by_cases hc159_14 : (f6_2_v143 ps) = (f6_2_v153 p6 v0 v1 v2 v3 v4 ps)
                    · refine Rt.icmpY (pc' := 164) X13 hx (hb hby d6_159) (teq hc159_14).1 (by decide) (by decide) ?_
                      refine Rt.iload (pc' := 166) X13 hx (hb hby d6_164) rfl rfl ?_
                      refine Rt.iconst (pc' := 167) (v := (-1 : Int32)) X13 hx (hb hby d6_166) rfl rfl ?_
                      by_cases hc167_15 : (f6_2_v153 p6 v0 v1 v2 v3 v4 ps) = (-1 : Int32)
                      · refine Rt.icmpY (pc' := 196) X13 hx (hb hby d6_167) (teq hc167_15).1 (by decide) (by decide) ?_
                        refine Rt.iconst (pc' := 197) (v := (1 : Int32)) X13 hx (hb hby d6_196) rfl rfl ?_
                        exact Rt.retZ (w := (1 : Int32)) X13 hx hlk hret (by simp) (hb hby d6_197) (by decide) (by decide) (by decide) (fun L N => ⟨congrArg some (congrArg Value.int (by rw [f6_2, if_pos hc3_1, if_neg hc41_3, if_neg hc48_4, if_neg hc54_5, if_pos hc65_6, if_pos hc74_7, if_pos hc85_8, if_neg hc102_10, if_pos hc115_11, if_pos hc159_14, if_pos hc167_15])), N, rfl⟩)
                      · refine Rt.icmpN (pc' := 170) X13 hx (hb hby d6_167) (feq hc167_15).1 rfl ?_
                        refine Rt.iload (pc' := 172) X13 hx (hb hby d6_170) rfl rfl ?_
                        refine Rt.iload (pc' := 174) X13 hx (hb hby d6_172) rfl rfl ?_
                        refine Rt.isub (pc' := 175) (r := ((f6_2_v153 p6 v0 v1 v2 v3 v4 ps) - (f6_2_v31 ps))) X13 hx (hb hby d6_174) rfl rfl ?_
                        refine Rt.iloadN (pc' := 176) X13 hx (hb hby d6_175) rfl rfl ?_
                        by_cases hc176_16 : ((f6_2_v153 p6 v0 v1 v2 v3 v4 ps) - (f6_2_v31 ps)) < p4
                        · refine Rt.icmpN (pc' := 179) X13 hx (hb hby d6_176) (tlt hc176_16).2.1 rfl ?_
                          refine Rt.aloadN (pc' := 180) X13 hx (hb hby d6_179) rfl rfl rfl ?_
                          refine Rt.iload (pc' := 182) X13 hx (hb hby d6_180) rfl rfl ?_
                          refine Rt.iload (pc' := 184) X13 hx (hb hby d6_182) rfl rfl ?_
                          refine Rt.iload (pc' := 186) X13 hx (hb hby d6_184) rfl rfl ?_
                          refine Rt.callP (pc' := 189) (r := (.int (f7 p6 (f6_2_v31 ps) (f6_2_v153 p6 v0 v1 v2 v3 v4 ps) v0 v1 v2 v3 v4))) X13 hx hZ (y := mt7) hown (own_g hw 26 rfl) (own_g hw 27 rfl) (own_g hw 20 rfl) (own_g hw 28 rfl) (by decide) (rm7 l Z a0 hw [] a3 p6 (f6_2_v31 ps) (f6_2_v153 p6 v0 v1 v2 v3 v4 ps) v0 v1 v2 v3 v4 h0 n0 F_A_a3) (W := 0) (by decide) (by decide) (by decide) (by decide) rfl rfl (argsL := [(.ref a3), (.int p6), (.int (f6_2_v31 ps)), (.int (f6_2_v153 p6 v0 v1 v2 v3 v4 ps))]) (rest := []) (by rw [hml]; rfl) (lenOf pd_1 rfl) rfl rfl (Nat.le_of_eq rfl) (hb hby d6_186) rfl ?_
                          intro T17 X17
                          refine Rt.iload (pc' := 191) X17 hx (hb hby d6_189) rfl rfl ?_
                          by_cases hc191_18 : p5 < (f7 p6 (f6_2_v31 ps) (f6_2_v153 p6 v0 v1 v2 v3 v4 ps) v0 v1 v2 v3 v4)
                          · refine Rt.icmpY (pc' := 196) X17 hx (hb hby d6_191) (tlt hc191_18).2.2.1 (by decide) (by decide) ?_
                            refine Rt.iconst (pc' := 197) (v := (1 : Int32)) X17 hx (hb hby d6_196) rfl rfl ?_
                            exact Rt.retZ (w := (1 : Int32)) X17 hx hlk hret (by simp) (hb hby d6_197) (by decide) (by decide) (by decide) (fun L N => ⟨congrArg some (congrArg Value.int (by rw [f6_2, if_pos hc3_1, if_neg hc41_3, if_neg hc48_4, if_neg hc54_5, if_pos hc65_6, if_pos hc74_7, if_pos hc85_8, if_neg hc102_10, if_pos hc115_11, if_pos hc159_14, if_neg hc167_15, if_pos hc176_16, if_pos hc191_18])), N, rfl⟩)
                          · refine Rt.icmpN (pc' := 194) X17 hx (hb hby d6_191) (flt hc191_18).2.2.1 rfl ?_
                            refine Rt.iconst (pc' := 195) (v := (0 : Int32)) X17 hx (hb hby d6_194) rfl rfl ?_
                            exact Rt.retZ (w := (0 : Int32)) X17 hx hlk hret (by simp) (hb hby d6_195) (by decide) (by decide) (by decide) (fun L N => ⟨congrArg some (congrArg Value.int (by rw [f6_2, if_pos hc3_1, if_neg hc41_3, if_neg hc48_4, if_neg hc54_5, if_pos hc65_6, if_pos hc74_7, if_pos hc85_8, if_neg hc102_10, if_pos hc115_11, if_pos hc159_14, if_neg hc167_15, if_pos hc176_16, if_neg hc191_18])), N, rfl⟩)
                        · refine Rt.icmpY (pc' := 196) X13 hx (hb hby d6_176) (flt hc176_16).2.1 (by decide) (by decide) ?_
                          refine Rt.iconst (pc' := 197) (v := (1 : Int32)) X13 hx (hb hby d6_196) rfl rfl ?_
                          exact Rt.retZ (w := (1 : Int32)) X13 hx hlk hret (by simp) (hb hby d6_197) (by decide) (by decide) (by decide) (fun L N => ⟨congrArg some (congrArg Value.int (by rw [f6_2, if_pos hc3_1, if_neg hc41_3, if_neg hc48_4, if_neg hc54_5, if_pos hc65_6, if_pos hc74_7, if_pos hc85_8, if_neg hc102_10, if_pos hc115_11, if_pos hc159_14, if_neg hc167_15, if_neg hc176_16])), N, rfl⟩)
                    · refine Rt.icmpN (pc' := 162) X13 hx (hb hby d6_159) (feq hc159_14).1 rfl ?_
                      refine Rt.iconst (pc' := 163) (v := (0 : Int32)) X13 hx (hb hby d6_162) rfl rfl ?_
                      exact Rt.retZ (w := (0 : Int32)) X13 hx hlk hret (by simp) (hb hby d6_163) (by decide) (by decide) (by decide) (fun L N => ⟨congrArg some (congrArg Value.int (by rw [f6_2, if_pos hc3_1, if_neg hc41_3, if_neg hc48_4, if_neg hc54_5, if_pos hc65_6, if_pos hc74_7, if_pos hc85_8, if_neg hc102_10, if_pos hc115_11, if_neg hc159_14])), N, rfl⟩)
                  · refine Rt.icmpY (pc' := 145) X9 hx (hb hby d6_115) (flt hc115_11).2.1 (by decide) (by decide) ?_
                    refine Rt.aloadN (pc' := 146) X9 hx (hb hby d6_145) rfl rfl rfl ?_
                    refine Rt.iload (pc' := 148) X9 hx (hb hby d6_146) rfl rfl ?_
                    refine Rt.iload (pc' := 150) X9 hx (hb hby d6_148) rfl rfl ?_
                    refine Rt.callP (pc' := 153) (r := (.int (f5 p6 (f6_2_v37 ps) v0 v1 v2 v3 v4))) X9 hx hZ (y := mt5) hown (own_g hw 18 rfl) (own_g hw 19 rfl) (own_g hw 20 rfl) (own_g hw 21 rfl) (by decide) (rm5 l Z a0 hw [] a3 p6 (f6_2_v37 ps) v0 v1 v2 v3 v4 h0 n0 F_A_a3) (W := 0) (by decide) (by decide) (by decide) (by decide) rfl rfl (argsL := [(.ref a3), (.int p6), (.int (f6_2_v37 ps))]) (rest := []) (by rw [hml]; rfl) (lenOf pd_3 rfl) rfl rfl (Nat.le_of_eq rfl) (hb hby d6_150) rfl ?_
                    intro T19 X19
                    refine Rt.istore (pc' := 155) (v := (f6_2_v153 p6 v0 v1 v2 v3 v4 ps)) (l' := #[.val (.ref a1), .val (.int (2 : Int32)), .val (.ref a3), .val (.int p4), .val (.int p5), .val (.int p6), .val (.ref y2), .val (.int (f6_2_v31 ps)), .val (.int (f6_2_v37 ps)), .val (.int (-1 : Int32)), .val (.int (f6_2_v153 p6 v0 v1 v2 v3 v4 ps))]) X19 hx (hb hby d6_153) rfl rfl ?_
                    refine Rt.iload (pc' := 157) X19 hx (hb hby d6_155) rfl rfl ?_
                    refine Rt.iload (pc' := 159) X19 hx (hb hby d6_157) rfl rfl ?_
                    by_cases hc159_20 : (-1 : Int32) = (f6_2_v153 p6 v0 v1 v2 v3 v4 ps)
                    · refine Rt.icmpY (pc' := 164) X19 hx (hb hby d6_159) (teq hc159_20).1 (by decide) (by decide) ?_
                      refine Rt.iload (pc' := 166) X19 hx (hb hby d6_164) rfl rfl ?_
                      refine Rt.iconst (pc' := 167) (v := (-1 : Int32)) X19 hx (hb hby d6_166) rfl rfl ?_
                      by_cases hc167_21 : (f6_2_v153 p6 v0 v1 v2 v3 v4 ps) = (-1 : Int32)
                      · refine Rt.icmpY (pc' := 196) X19 hx (hb hby d6_167) (teq hc167_21).1 (by decide) (by decide) ?_
                        refine Rt.iconst (pc' := 197) (v := (1 : Int32)) X19 hx (hb hby d6_196) rfl rfl ?_
                        exact Rt.retZ (w := (1 : Int32)) X19 hx hlk hret (by simp) (hb hby d6_197) (by decide) (by decide) (by decide) (fun L N => ⟨congrArg some (congrArg Value.int (by rw [f6_2, if_pos hc3_1, if_neg hc41_3, if_neg hc48_4, if_neg hc54_5, if_pos hc65_6, if_pos hc74_7, if_pos hc85_8, if_neg hc102_10, if_neg hc115_11, if_pos hc159_20, if_pos hc167_21])), N, rfl⟩)
                      · refine Rt.icmpN (pc' := 170) X19 hx (hb hby d6_167) (feq hc167_21).1 rfl ?_
                        refine Rt.iload (pc' := 172) X19 hx (hb hby d6_170) rfl rfl ?_
                        refine Rt.iload (pc' := 174) X19 hx (hb hby d6_172) rfl rfl ?_
                        refine Rt.isub (pc' := 175) (r := ((f6_2_v153 p6 v0 v1 v2 v3 v4 ps) - (f6_2_v31 ps))) X19 hx (hb hby d6_174) rfl rfl ?_
                        refine Rt.iloadN (pc' := 176) X19 hx (hb hby d6_175) rfl rfl ?_
                        by_cases hc176_22 : ((f6_2_v153 p6 v0 v1 v2 v3 v4 ps) - (f6_2_v31 ps)) < p4
                        · refine Rt.icmpN (pc' := 179) X19 hx (hb hby d6_176) (tlt hc176_22).2.1 rfl ?_
                          refine Rt.aloadN (pc' := 180) X19 hx (hb hby d6_179) rfl rfl rfl ?_
                          refine Rt.iload (pc' := 182) X19 hx (hb hby d6_180) rfl rfl ?_
                          refine Rt.iload (pc' := 184) X19 hx (hb hby d6_182) rfl rfl ?_
                          refine Rt.iload (pc' := 186) X19 hx (hb hby d6_184) rfl rfl ?_
                          refine Rt.callP (pc' := 189) (r := (.int (f7 p6 (f6_2_v31 ps) (f6_2_v153 p6 v0 v1 v2 v3 v4 ps) v0 v1 v2 v3 v4))) X19 hx hZ (y := mt7) hown (own_g hw 26 rfl) (own_g hw 27 rfl) (own_g hw 20 rfl) (own_g hw 28 rfl) (by decide) (rm7 l Z a0 hw [] a3 p6 (f6_2_v31 ps) (f6_2_v153 p6 v0 v1 v2 v3 v4 ps) v0 v1 v2 v3 v4 h0 n0 F_A_a3) (W := 0) (by decide) (by decide) (by decide) (by decide) rfl rfl (argsL := [(.ref a3), (.int p6), (.int (f6_2_v31 ps)), (.int (f6_2_v153 p6 v0 v1 v2 v3 v4 ps))]) (rest := []) (by rw [hml]; rfl) (lenOf pd_1 rfl) rfl rfl (Nat.le_of_eq rfl) (hb hby d6_186) rfl ?_
                          intro T23 X23
                          refine Rt.iload (pc' := 191) X23 hx (hb hby d6_189) rfl rfl ?_
                          by_cases hc191_24 : p5 < (f7 p6 (f6_2_v31 ps) (f6_2_v153 p6 v0 v1 v2 v3 v4 ps) v0 v1 v2 v3 v4)
                          · refine Rt.icmpY (pc' := 196) X23 hx (hb hby d6_191) (tlt hc191_24).2.2.1 (by decide) (by decide) ?_
                            refine Rt.iconst (pc' := 197) (v := (1 : Int32)) X23 hx (hb hby d6_196) rfl rfl ?_
                            exact Rt.retZ (w := (1 : Int32)) X23 hx hlk hret (by simp) (hb hby d6_197) (by decide) (by decide) (by decide) (fun L N => ⟨congrArg some (congrArg Value.int (by rw [f6_2, if_pos hc3_1, if_neg hc41_3, if_neg hc48_4, if_neg hc54_5, if_pos hc65_6, if_pos hc74_7, if_pos hc85_8, if_neg hc102_10, if_neg hc115_11, if_pos hc159_20, if_neg hc167_21, if_pos hc176_22, if_pos hc191_24])), N, rfl⟩)
                          · refine Rt.icmpN (pc' := 194) X23 hx (hb hby d6_191) (flt hc191_24).2.2.1 rfl ?_
                            refine Rt.iconst (pc' := 195) (v := (0 : Int32)) X23 hx (hb hby d6_194) rfl rfl ?_
                            exact Rt.retZ (w := (0 : Int32)) X23 hx hlk hret (by simp) (hb hby d6_195) (by decide) (by decide) (by decide) (fun L N => ⟨congrArg some (congrArg Value.int (by rw [f6_2, if_pos hc3_1, if_neg hc41_3, if_neg hc48_4, if_neg hc54_5, if_pos hc65_6, if_pos hc74_7, if_pos hc85_8, if_neg hc102_10, if_neg hc115_11, if_pos hc159_20, if_neg hc167_21, if_pos hc176_22, if_neg hc191_24])), N, rfl⟩)
                        · refine Rt.icmpY (pc' := 196) X19 hx (hb hby d6_176) (flt hc176_22).2.1 (by decide) (by decide) ?_
                          refine Rt.iconst (pc' := 197) (v := (1 : Int32)) X19 hx (hb hby d6_196) rfl rfl ?_
                          exact Rt.retZ (w := (1 : Int32)) X19 hx hlk hret (by simp) (hb hby d6_197) (by decide) (by decide) (by decide) (fun L N => ⟨congrArg some (congrArg Value.int (by rw [f6_2, if_pos hc3_1, if_neg hc41_3, if_neg hc48_4, if_neg hc54_5, if_pos hc65_6, if_pos hc74_7, if_pos hc85_8, if_neg hc102_10, if_neg hc115_11, if_pos hc159_20, if_neg hc167_21, if_neg hc176_22])), N, rfl⟩)
                    · refine Rt.icmpN (pc' := 162) X19 hx (hb hby d6_159) (feq hc159_20).1 rfl ?_
                      refine Rt.iconst (pc' := 163) (v := (0 : Int32)) X19 hx (hb hby d6_162) rfl rfl ?_
                      exact Rt.retZ (w := (0 : Int32)) X19 hx hlk hret (by simp) (hb hby d6_163) (by decide) (by decide) (by decide) (fun L N => ⟨congrArg some (congrArg Value.int (by rw [f6_2, if_pos hc3_1, if_neg hc41_3, if_neg hc48_4, if_neg hc54_5, if_pos hc65_6, if_pos hc74_7, if_pos hc85_8, if_neg hc102_10, if_neg hc115_11, if_neg hc159_20])), N, rfl⟩)
              · refine Rt.icmpN (pc' := 88) X0 hx (hb hby d6_85) (flt hc85_8).1 rfl ?_
                refine Rt.iconst (pc' := 89) (v := (0 : Int32)) X0 hx (hb hby d6_88) rfl rfl ?_
                exact Rt.retZ (w := (0 : Int32)) X0 hx hlk hret (by simp) (hb hby d6_89) (by decide) (by decide) (by decide) (fun L N => ⟨congrArg some (congrArg Value.int (by rw [f6_2, if_pos hc3_1, if_neg hc41_3, if_neg hc48_4, if_neg hc54_5, if_pos hc65_6, if_pos hc74_7, if_neg hc85_8])), N, rfl⟩)
            · refine Rt.icmpN (pc' := 77) X0 hx (hb hby d6_74) (flt hc74_7).2.2.1 rfl ?_
              refine Rt.iconst (pc' := 78) (v := (0 : Int32)) X0 hx (hb hby d6_77) rfl rfl ?_
              exact Rt.retZ (w := (0 : Int32)) X0 hx hlk hret (by simp) (hb hby d6_78) (by decide) (by decide) (by decide) (fun L N => ⟨congrArg some (congrArg Value.int (by rw [f6_2, if_pos hc3_1, if_neg hc41_3, if_neg hc48_4, if_neg hc54_5, if_pos hc65_6, if_neg hc74_7])), N, rfl⟩)
          · refine Rt.icmpY (pc' := 77) X0 hx (hb hby d6_65) (flt hc65_6).2.2.2 (by decide) (by decide) ?_
            refine Rt.iconst (pc' := 78) (v := (0 : Int32)) X0 hx (hb hby d6_77) rfl rfl ?_
            exact Rt.retZ (w := (0 : Int32)) X0 hx hlk hret (by simp) (hb hby d6_78) (by decide) (by decide) (by decide) (fun L N => ⟨congrArg some (congrArg Value.int (by rw [f6_2, if_pos hc3_1, if_neg hc41_3, if_neg hc48_4, if_neg hc54_5, if_neg hc65_6])), N, rfl⟩)
  · refine Rt.icmpN (pc' := 6) X0 hx (hb hby d6_3) (flt hc3_1).1 rfl ?_
    refine Rt.iconst (pc' := 7) (v := (1 : Int32)) X0 hx (hb hby d6_6) rfl rfl ?_
    exact Rt.retZ (w := (1 : Int32)) X0 hx hlk hret (by simp) (hb hby d6_7) (by decide) (by decide) (by decide) (fun L N => ⟨congrArg some (congrArg Value.int (by rw [f6_2, if_neg hc3_1])), N, rfl⟩)
def f6_3_v31 (ps : List (Int32 × Int32)) : Int32 := ((ps).getD 3 ((0 : Int32), (0 : Int32))).1
def f6_3_v37 (ps : List (Int32 × Int32)) : Int32 := ((ps).getD 3 ((0 : Int32), (0 : Int32))).2
def f6_3_v143 (ps : List (Int32 × Int32)) : Int32 := ((ps).getD 4 ((0 : Int32), (0 : Int32))).1
def f6_3_v153 (p6 : Int32) (v0 : Int32) (v1 : Int32) (v2 : Int32) (v3 : Int32) (v4 : Int32) (ps : List (Int32 × Int32)) : Int32 := (f5 p6 (f6_3_v37 ps) v0 v1 v2 v3 v4)
def f6_3 (p4 : Int32) (p5 : Int32) (p6 : Int32) (v0 : Int32) (v1 : Int32) (v2 : Int32) (v3 : Int32) (v4 : Int32) (ps : List (Int32 × Int32)) : Int32 := (if (3 : Int32) < ((ps).length.toInt32) then (if (f6_3_v31 ps) < (0 : Int32) then (0 : Int32) else (if (f6_3_v37 ps) < (f6_3_v31 ps) then (0 : Int32) else (if (4 : Int32) < (f6_3_v37 ps) then (0 : Int32) else (if p6 < (own_at v0 v1 v2 v3 v4 (f6_3_v31 ps)) then (if p6 < (own_at v0 v1 v2 v3 v4 (f6_3_v37 ps)) then (if ((f6_3_v37 ps) - (f6_3_v31 ps)) < p4 then (if p5 < (f7 p6 (f6_3_v31 ps) (f6_3_v37 ps) v0 v1 v2 v3 v4) then (0 : Int32) else (if (4 : Int32) < ((ps).length.toInt32) then (if (f6_3_v143 ps) = (f6_3_v153 p6 v0 v1 v2 v3 v4 ps) then (if (f6_3_v153 p6 v0 v1 v2 v3 v4 ps) = (-1 : Int32) then (1 : Int32) else (if ((f6_3_v153 p6 v0 v1 v2 v3 v4 ps) - (f6_3_v31 ps)) < p4 then (if p5 < (f7 p6 (f6_3_v31 ps) (f6_3_v153 p6 v0 v1 v2 v3 v4 ps) v0 v1 v2 v3 v4) then (1 : Int32) else (0 : Int32)) else (1 : Int32))) else (0 : Int32)) else (if (-1 : Int32) = (f6_3_v153 p6 v0 v1 v2 v3 v4 ps) then (if (f6_3_v153 p6 v0 v1 v2 v3 v4 ps) = (-1 : Int32) then (1 : Int32) else (if ((f6_3_v153 p6 v0 v1 v2 v3 v4 ps) - (f6_3_v31 ps)) < p4 then (if p5 < (f7 p6 (f6_3_v31 ps) (f6_3_v153 p6 v0 v1 v2 v3 v4 ps) v0 v1 v2 v3 v4) then (1 : Int32) else (0 : Int32)) else (1 : Int32))) else (0 : Int32)))) else (0 : Int32)) else (0 : Int32)) else (0 : Int32))))) else (1 : Int32))
def Q6_3 (a1 : Addr) (a3 : Addr) (p4 : Int32) (p5 : Int32) (p6 : Int32) (v0 : Int32) (v1 : Int32) (v2 : Int32) (v3 : Int32) (v4 : Int32) (ps : List (Int32 × Int32)) (h0 : Heap) (n0 : Nat) (v : Option Value) (h : Heap) (L : List Loc) : Prop := v = some (.int (f6_3 p4 p5 p6 v0 v1 v2 v3 v4 ps)) ∧ Fr n0 L ∧ h = h0
def rmR6_3 : Room := { frames := 2, cells := 0, slots := 0, locals := 32 }
theorem ef_6_3 (m : MethodId) (a1 : Addr) (a3 : Addr) (p4 : Int32) (p5 : Int32) (p6 : Int32) : entryFrame m #[(.ref a1), (.int (3 : Int32)), (.ref a3), (.int p4), (.int p5), (.int p6)] 11 = mkF m 0 #[.val (.ref a1), .val (.int (3 : Int32)), .val (.ref a3), .val (.int p4), .val (.int p5), .val (.int p6), .unset, .unset, .unset, .unset, .unset] [] := by first | (simp [entryFrame, mkF, argsToLocals, Value.category]; done) | rfl
set_option maxRecDepth 65536 in
set_option maxHeartbeats 40000000 in
theorem rm6_3 (l : Launch) (Z : State) (a0 : Array Value) (hw : ∀ d ∈ tables_1, d.before a0 Z = true) (ws : List Jvm.Cond) (a1 : Addr) (a3 : Addr) (p4 : Int32) (p5 : Int32) (p6 : Int32) (v0 : Int32) (v1 : Int32) (v2 : Int32) (v3 : Int32) (v4 : Int32) (ps : List (Int32 × Int32)) (h0 : Heap) (n0 : Nat) (F_P_a1 : Pr Z h0 a1 (ps).length ps) (F_A_a3 : IA Z h0 a3 .int [(.int v0), (.int v1), (.int v2), (.int v3), (.int v4)]) (hps : ps.length ≤ 5) :
    Mt l Z mt8 (Jvm.Cond.code mt8 method_3_code 11 (some .boolean) :: ws) rmR6_3 #[(.ref a1), (.int (3 : Int32)), (.ref a3), (.int p4), (.int p5), (.int p6)] h0 (Q6_3 a1 a3 p4 p5 p6 v0 v1 v2 v3 v4 ps h0 n0) := by
  refine Mt.of n0 (plainFor_of_name pn_com_example_tightfold_tightfold_FocusCoverRunsPinLaw) ?_
  intro p e s m below meth c T0 X0 hx hZ hby hml hown hret hlk hnm hs0
  have hown : s.vm.findClass "com/example/tightfold/tightfold/FocusCoverRunsPinLaw" = some m.cls := hown
  rw [ef_6_3]
  show Rt p e below s rmR6_3.cells rmR6_3.slots (Q6_3 a1 a3 p4 p5 p6 v0 v1 v2 v3 v4 ps h0 n0) (T0.setTop (mkF m 0 #[.val (.ref a1), .val (.int (3 : Int32)), .val (.ref a3), .val (.int p4), .val (.int p5), .val (.int p6), .unset, .unset, .unset, .unset, .unset] []))
  refine Rt.iloadN (pc' := 1) X0 hx (hb hby d6_0) rfl rfl ?_
  refine Rt.aloadN (pc' := 2) X0 hx (hb hby d6_1) rfl rfl rfl ?_
  refine Rt.arraylengthP (pc' := 3) X0 hx hZ F_P_a1 (v := ((ps).length.toInt32)) rfl (hb hby d6_2) rfl ?_
  by_cases hc3_1 : (3 : Int32) < ((ps).length.toInt32)
  · refine Rt.icmpY (pc' := 8) X0 hx (hb hby d6_3) (tlt hc3_1).1 (by decide) (by decide) ?_
    refine Rt.aloadN (pc' := 9) X0 hx (hb hby d6_8) rfl rfl rfl ?_
    refine Rt.iloadN (pc' := 10) X0 hx (hb hby d6_9) rfl rfl ?_
    refine Rt.aaloadP (pc' := 11) X0 hx hZ F_P_a1 (t := 3) (by decide) (by decide) (own_pt (own_tl hps hc3_1 (by decide))) (hb hby d6_10) rfl ?_
    intro y2 Fy2
    refine Rt.astore (pc' := 13) (v := (.ref y2)) (l' := #[.val (.ref a1), .val (.int (3 : Int32)), .val (.ref a3), .val (.int p4), .val (.int p5), .val (.int p6), .val (.ref y2), .unset, .unset, .unset, .unset]) X0 hx (hb hby d6_11) rfl rfl rfl ?_
    refine Rt.aload (pc' := 15) X0 hx (hb hby d6_13) rfl rfl rfl ?_
    refine Rt.ifnullN (pc' := 18) X0 hx (hb hby d6_15) rfl ?_
    refine Rt.aload (pc' := 20) X0 hx (hb hby d6_18) rfl rfl rfl ?_
    refine Rt.arraylength (pc' := 21) X0 hx hZ Fy2 (v := (2 : Int32)) rfl (hb hby d6_20) rfl ?_
    refine Rt.iconst (pc' := 22) (v := (2 : Int32)) X0 hx (hb hby d6_21) rfl rfl ?_
    refine Rt.icmpY (pc' := 27) X0 hx (hb hby d6_22) (teq (by decide : (2 : Int32) = (2 : Int32))).1 (by decide) (by decide) ?_
    refine Rt.aload (pc' := 29) X0 hx (hb hby d6_27) rfl rfl rfl ?_
    refine Rt.iconst (pc' := 30) (v := (0 : Int32)) X0 hx (hb hby d6_29) rfl rfl ?_
    refine Rt.iaload (pc' := 31) X0 hx hZ Fy2 (i := 0) (by decide) (by decide) (v := (.int ((ps).getD 3 ((0 : Int32), (0 : Int32))).1)) rfl (hb hby d6_30) rfl ?_
    refine Rt.istore (pc' := 33) (v := (f6_3_v31 ps)) (l' := #[.val (.ref a1), .val (.int (3 : Int32)), .val (.ref a3), .val (.int p4), .val (.int p5), .val (.int p6), .val (.ref y2), .val (.int (f6_3_v31 ps)), .unset, .unset, .unset]) X0 hx (hb hby d6_31) rfl rfl ?_
    refine Rt.aload (pc' := 35) X0 hx (hb hby d6_33) rfl rfl rfl ?_
    refine Rt.iconst (pc' := 36) (v := (1 : Int32)) X0 hx (hb hby d6_35) rfl rfl ?_
    refine Rt.iaload (pc' := 37) X0 hx hZ Fy2 (i := 1) (by decide) (by decide) (v := (.int ((ps).getD 3 ((0 : Int32), (0 : Int32))).2)) rfl (hb hby d6_36) rfl ?_
    refine Rt.istore (pc' := 39) (v := (f6_3_v37 ps)) (l' := #[.val (.ref a1), .val (.int (3 : Int32)), .val (.ref a3), .val (.int p4), .val (.int p5), .val (.int p6), .val (.ref y2), .val (.int (f6_3_v31 ps)), .val (.int (f6_3_v37 ps)), .unset, .unset]) X0 hx (hb hby d6_37) rfl rfl ?_
    refine Rt.iload (pc' := 41) X0 hx (hb hby d6_39) rfl rfl ?_
    by_cases hc41_3 : (f6_3_v31 ps) < (0 : Int32)
    · refine Rt.ifY (pc' := 57) X0 hx (hb hby d6_41) ((if0 _ _).trans (tlt hc41_3).1) (by decide) (by decide) ?_
      refine Rt.iconst (pc' := 58) (v := (0 : Int32)) X0 hx (hb hby d6_57) rfl rfl ?_
      exact Rt.retZ (w := (0 : Int32)) X0 hx hlk hret (by simp) (hb hby d6_58) (by decide) (by decide) (by decide) (fun L N => ⟨congrArg some (congrArg Value.int (by rw [f6_3, if_pos hc3_1, if_pos hc41_3])), N, rfl⟩)
    · refine Rt.ifN (pc' := 44) X0 hx (hb hby d6_41) ((if0 _ _).trans (flt hc41_3).1) rfl ?_
      refine Rt.iload (pc' := 46) X0 hx (hb hby d6_44) rfl rfl ?_
      refine Rt.iload (pc' := 48) X0 hx (hb hby d6_46) rfl rfl ?_
      by_cases hc48_4 : (f6_3_v37 ps) < (f6_3_v31 ps)
      · refine Rt.icmpY (pc' := 57) X0 hx (hb hby d6_48) (tlt hc48_4).2.2.1 (by decide) (by decide) ?_
        refine Rt.iconst (pc' := 58) (v := (0 : Int32)) X0 hx (hb hby d6_57) rfl rfl ?_
        exact Rt.retZ (w := (0 : Int32)) X0 hx hlk hret (by simp) (hb hby d6_58) (by decide) (by decide) (by decide) (fun L N => ⟨congrArg some (congrArg Value.int (by rw [f6_3, if_pos hc3_1, if_neg hc41_3, if_pos hc48_4])), N, rfl⟩)
      · refine Rt.icmpN (pc' := 51) X0 hx (hb hby d6_48) (flt hc48_4).2.2.1 rfl ?_
        refine Rt.iload (pc' := 53) X0 hx (hb hby d6_51) rfl rfl ?_
        refine Rt.iconst (pc' := 54) (v := (4 : Int32)) X0 hx (hb hby d6_53) rfl rfl ?_
        by_cases hc54_5 : (4 : Int32) < (f6_3_v37 ps)
        · refine Rt.icmpN (pc' := 57) X0 hx (hb hby d6_54) (tlt hc54_5).2.2.2 rfl ?_
          refine Rt.iconst (pc' := 58) (v := (0 : Int32)) X0 hx (hb hby d6_57) rfl rfl ?_
          exact Rt.retZ (w := (0 : Int32)) X0 hx hlk hret (by simp) (hb hby d6_58) (by decide) (by decide) (by decide) (fun L N => ⟨congrArg some (congrArg Value.int (by rw [f6_3, if_pos hc3_1, if_neg hc41_3, if_neg hc48_4, if_pos hc54_5])), N, rfl⟩)
        · refine Rt.icmpY (pc' := 59) X0 hx (hb hby d6_54) (flt hc54_5).2.2.2 (by decide) (by decide) ?_
          refine Rt.aloadN (pc' := 60) X0 hx (hb hby d6_59) rfl rfl rfl ?_
          refine Rt.iload (pc' := 62) X0 hx (hb hby d6_60) rfl rfl ?_
          refine Rt.iaload (pc' := 63) X0 hx hZ F_A_a3 (i := ((f6_3_v31 ps)).toNatClampNeg) rfl hc41_3 (v := (.int (own_at v0 v1 v2 v3 v4 (f6_3_v31 ps)))) (own_ix hc41_3 (own_ge hc48_4 hc54_5)) (hb hby d6_62) rfl ?_
          refine Rt.iload (pc' := 65) X0 hx (hb hby d6_63) rfl rfl ?_
          by_cases hc65_6 : p6 < (own_at v0 v1 v2 v3 v4 (f6_3_v31 ps))
          · refine Rt.icmpN (pc' := 68) X0 hx (hb hby d6_65) (tlt hc65_6).2.2.2 rfl ?_
            refine Rt.aloadN (pc' := 69) X0 hx (hb hby d6_68) rfl rfl rfl ?_
            refine Rt.iload (pc' := 71) X0 hx (hb hby d6_69) rfl rfl ?_
            refine Rt.iaload (pc' := 72) X0 hx hZ F_A_a3 (i := ((f6_3_v37 ps)).toNatClampNeg) rfl (own_le hc41_3 hc48_4) (v := (.int (own_at v0 v1 v2 v3 v4 (f6_3_v37 ps)))) (own_ix (own_le hc41_3 hc48_4) hc54_5) (hb hby d6_71) rfl ?_
            refine Rt.iload (pc' := 74) X0 hx (hb hby d6_72) rfl rfl ?_
            by_cases hc74_7 : p6 < (own_at v0 v1 v2 v3 v4 (f6_3_v37 ps))
            · refine Rt.icmpY (pc' := 79) X0 hx (hb hby d6_74) (tlt hc74_7).2.2.1 (by decide) (by decide) ?_
              refine Rt.iload (pc' := 81) X0 hx (hb hby d6_79) rfl rfl ?_
              refine Rt.iload (pc' := 83) X0 hx (hb hby d6_81) rfl rfl ?_
              refine Rt.isub (pc' := 84) (r := ((f6_3_v37 ps) - (f6_3_v31 ps))) X0 hx (hb hby d6_83) rfl rfl ?_
              refine Rt.iloadN (pc' := 85) X0 hx (hb hby d6_84) rfl rfl ?_
              by_cases hc85_8 : ((f6_3_v37 ps) - (f6_3_v31 ps)) < p4
              · refine Rt.icmpY (pc' := 90) X0 hx (hb hby d6_85) (tlt hc85_8).1 (by decide) (by decide) ?_
                refine Rt.aloadN (pc' := 91) X0 hx (hb hby d6_90) rfl rfl rfl ?_
                refine Rt.iload (pc' := 93) X0 hx (hb hby d6_91) rfl rfl ?_
                refine Rt.iload (pc' := 95) X0 hx (hb hby d6_93) rfl rfl ?_
                refine Rt.iload (pc' := 97) X0 hx (hb hby d6_95) rfl rfl ?_
                refine Rt.callP (pc' := 100) (r := (.int (f7 p6 (f6_3_v31 ps) (f6_3_v37 ps) v0 v1 v2 v3 v4))) X0 hx hZ (y := mt7) hown (own_g hw 26 rfl) (own_g hw 27 rfl) (own_g hw 20 rfl) (own_g hw 28 rfl) (by decide) (rm7 l Z a0 hw [] a3 p6 (f6_3_v31 ps) (f6_3_v37 ps) v0 v1 v2 v3 v4 h0 n0 F_A_a3) (W := 0) (by decide) (by decide) (by decide) (by decide) rfl rfl (argsL := [(.ref a3), (.int p6), (.int (f6_3_v31 ps)), (.int (f6_3_v37 ps))]) (rest := []) (by rw [hml]; rfl) (lenOf pd_1 rfl) rfl rfl (Nat.le_of_eq rfl) (hb hby d6_97) rfl ?_
                intro T9 X9
                refine Rt.iload (pc' := 102) X9 hx (hb hby d6_100) rfl rfl ?_
                by_cases hc102_10 : p5 < (f7 p6 (f6_3_v31 ps) (f6_3_v37 ps) v0 v1 v2 v3 v4)
                · refine Rt.icmpN (pc' := 105) X9 hx (hb hby d6_102) (tlt hc102_10).2.2.2 rfl ?_
                  refine Rt.iconst (pc' := 106) (v := (0 : Int32)) X9 hx (hb hby d6_105) rfl rfl ?_
                  exact Rt.retZ (w := (0 : Int32)) X9 hx hlk hret (by simp) (hb hby d6_106) (by decide) (by decide) (by decide) (fun L N => ⟨congrArg some (congrArg Value.int (by rw [f6_3, if_pos hc3_1, if_neg hc41_3, if_neg hc48_4, if_neg hc54_5, if_pos hc65_6, if_pos hc74_7, if_pos hc85_8, if_pos hc102_10])), N, rfl⟩)
                · refine Rt.icmpY (pc' := 107) X9 hx (hb hby d6_102) (flt hc102_10).2.2.2 (by decide) (by decide) ?_
                  refine Rt.iconst (pc' := 108) (v := (-1 : Int32)) X9 hx (hb hby d6_107) rfl rfl ?_
                  refine Rt.istore (pc' := 110) (v := (-1 : Int32)) (l' := #[.val (.ref a1), .val (.int (3 : Int32)), .val (.ref a3), .val (.int p4), .val (.int p5), .val (.int p6), .val (.ref y2), .val (.int (f6_3_v31 ps)), .val (.int (f6_3_v37 ps)), .val (.int (-1 : Int32)), .unset]) X9 hx (hb hby d6_108) rfl rfl ?_
                  refine Rt.iloadN (pc' := 111) X9 hx (hb hby d6_110) rfl rfl ?_
                  refine Rt.iconst (pc' := 112) (v := (1 : Int32)) X9 hx (hb hby d6_111) rfl rfl ?_
                  refine Rt.iadd (pc' := 113) (r := (4 : Int32)) X9 hx (hb hby d6_112) (by decide) rfl ?_
                  refine Rt.aloadN (pc' := 114) X9 hx (hb hby d6_113) rfl rfl rfl ?_
                  refine Rt.arraylengthP (pc' := 115) X9 hx hZ F_P_a1 (v := ((ps).length.toInt32)) rfl (hb hby d6_114) rfl ?_
                  by_cases hc115_11 : (4 : Int32) < ((ps).length.toInt32)
                  · refine Rt.icmpN (pc' := 118) X9 hx (hb hby d6_115) (tlt hc115_11).2.1 rfl ?_
                    refine Rt.aloadN (pc' := 119) X9 hx (hb hby d6_118) rfl rfl rfl ?_
                    refine Rt.iloadN (pc' := 120) X9 hx (hb hby d6_119) rfl rfl ?_
                    refine Rt.iconst (pc' := 121) (v := (1 : Int32)) X9 hx (hb hby d6_120) rfl rfl ?_
                    refine Rt.iadd (pc' := 122) (r := (4 : Int32)) X9 hx (hb hby d6_121) (by decide) rfl ?_
                    refine Rt.aaloadP (pc' := 123) X9 hx hZ F_P_a1 (t := 4) (by decide) (by decide) (own_pt (own_tl hps hc115_11 (by decide))) (hb hby d6_122) rfl ?_
                    intro y12 Fy12
                    refine Rt.astore (pc' := 125) (v := (.ref y12)) (l' := #[.val (.ref a1), .val (.int (3 : Int32)), .val (.ref a3), .val (.int p4), .val (.int p5), .val (.int p6), .val (.ref y2), .val (.int (f6_3_v31 ps)), .val (.int (f6_3_v37 ps)), .val (.int (-1 : Int32)), .val (.ref y12)]) X9 hx (hb hby d6_123) rfl rfl rfl ?_
                    refine Rt.aload (pc' := 127) X9 hx (hb hby d6_125) rfl rfl rfl ?_
                    refine Rt.ifnullN (pc' := 130) X9 hx (hb hby d6_127) rfl ?_
                    refine Rt.aload (pc' := 132) X9 hx (hb hby d6_130) rfl rfl rfl ?_
                    refine Rt.arraylength (pc' := 133) X9 hx hZ Fy12 (v := (2 : Int32)) rfl (hb hby d6_132) rfl ?_
                    refine Rt.iconst (pc' := 134) (v := (1 : Int32)) X9 hx (hb hby d6_133) rfl rfl ?_
                    refine Rt.icmpY (pc' := 139) X9 hx (hb hby d6_134) (flt (by decide : ¬ ((2 : Int32) < (1 : Int32)))).2.1 (by decide) (by decide) ?_
                    refine Rt.aload (pc' := 141) X9 hx (hb hby d6_139) rfl rfl rfl ?_
                    refine Rt.iconst (pc' := 142) (v := (0 : Int32)) X9 hx (hb hby d6_141) rfl rfl ?_
                    refine Rt.iaload (pc' := 143) X9 hx hZ Fy12 (i := 0) (by decide) (by decide) (v := (.int ((ps).getD 4 ((0 : Int32), (0 : Int32))).1)) rfl (hb hby d6_142) rfl ?_
                    refine Rt.istore (pc' := 145) (v := (f6_3_v143 ps)) (l' := #[.val (.ref a1), .val (.int (3 : Int32)), .val (.ref a3), .val (.int p4), .val (.int p5), .val (.int p6), .val (.ref y2), .val (.int (f6_3_v31 ps)), .val (.int (f6_3_v37 ps)), .val (.int (f6_3_v143 ps)), .val (.ref y12)]) X9 hx (hb hby d6_143) rfl rfl ?_
                    refine Rt.aloadN (pc' := 146) X9 hx (hb hby d6_145) rfl rfl rfl ?_
                    refine Rt.iload (pc' := 148) X9 hx (hb hby d6_146) rfl rfl ?_
                    refine Rt.iload (pc' := 150) X9 hx (hb hby d6_148) rfl rfl ?_
                    refine Rt.callP (pc' := 153) (r := (.int (f5 p6 (f6_3_v37 ps) v0 v1 v2 v3 v4))) X9 hx hZ (y := mt5) hown (own_g hw 18 rfl) (own_g hw 19 rfl) (own_g hw 20 rfl) (own_g hw 21 rfl) (by decide) (rm5 l Z a0 hw [] a3 p6 (f6_3_v37 ps) v0 v1 v2 v3 v4 h0 n0 F_A_a3) (W := 0) (by decide) (by decide) (by decide) (by decide) rfl rfl (argsL := [(.ref a3), (.int p6), (.int (f6_3_v37 ps))]) (rest := []) (by rw [hml]; rfl) (lenOf pd_3 rfl) rfl rfl (Nat.le_of_eq rfl) (hb hby d6_150) rfl ?_
                    intro T13 X13
                    refine Rt.istore (pc' := 155) (v := (f6_3_v153 p6 v0 v1 v2 v3 v4 ps)) (l' := #[.val (.ref a1), .val (.int (3 : Int32)), .val (.ref a3), .val (.int p4), .val (.int p5), .val (.int p6), .val (.ref y2), .val (.int (f6_3_v31 ps)), .val (.int (f6_3_v37 ps)), .val (.int (f6_3_v143 ps)), .val (.int (f6_3_v153 p6 v0 v1 v2 v3 v4 ps))]) X13 hx (hb hby d6_153) rfl rfl ?_
                    refine Rt.iload (pc' := 157) X13 hx (hb hby d6_155) rfl rfl ?_
                    refine Rt.iload (pc' := 159) X13 hx (hb hby d6_157) rfl rfl ?_
                    by_cases hc159_14 : (f6_3_v143 ps) = (f6_3_v153 p6 v0 v1 v2 v3 v4 ps)
                    · refine Rt.icmpY (pc' := 164) X13 hx (hb hby d6_159) (teq hc159_14).1 (by decide) (by decide) ?_
                      refine Rt.iload (pc' := 166) X13 hx (hb hby d6_164) rfl rfl ?_
                      refine Rt.iconst (pc' := 167) (v := (-1 : Int32)) X13 hx (hb hby d6_166) rfl rfl ?_
                      by_cases hc167_15 : (f6_3_v153 p6 v0 v1 v2 v3 v4 ps) = (-1 : Int32)
                      · refine Rt.icmpY (pc' := 196) X13 hx (hb hby d6_167) (teq hc167_15).1 (by decide) (by decide) ?_
                        refine Rt.iconst (pc' := 197) (v := (1 : Int32)) X13 hx (hb hby d6_196) rfl rfl ?_
                        exact Rt.retZ (w := (1 : Int32)) X13 hx hlk hret (by simp) (hb hby d6_197) (by decide) (by decide) (by decide) (fun L N => ⟨congrArg some (congrArg Value.int (by rw [f6_3, if_pos hc3_1, if_neg hc41_3, if_neg hc48_4, if_neg hc54_5, if_pos hc65_6, if_pos hc74_7, if_pos hc85_8, if_neg hc102_10, if_pos hc115_11, if_pos hc159_14, if_pos hc167_15])), N, rfl⟩)
                      · refine Rt.icmpN (pc' := 170) X13 hx (hb hby d6_167) (feq hc167_15).1 rfl ?_
                        refine Rt.iload (pc' := 172) X13 hx (hb hby d6_170) rfl rfl ?_
                        refine Rt.iload (pc' := 174) X13 hx (hb hby d6_172) rfl rfl ?_
                        refine Rt.isub (pc' := 175) (r := ((f6_3_v153 p6 v0 v1 v2 v3 v4 ps) - (f6_3_v31 ps))) X13 hx (hb hby d6_174) rfl rfl ?_
                        refine Rt.iloadN (pc' := 176) X13 hx (hb hby d6_175) rfl rfl ?_
                        by_cases hc176_16 : ((f6_3_v153 p6 v0 v1 v2 v3 v4 ps) - (f6_3_v31 ps)) < p4
                        · refine Rt.icmpN (pc' := 179) X13 hx (hb hby d6_176) (tlt hc176_16).2.1 rfl ?_
                          refine Rt.aloadN (pc' := 180) X13 hx (hb hby d6_179) rfl rfl rfl ?_
                          refine Rt.iload (pc' := 182) X13 hx (hb hby d6_180) rfl rfl ?_
                          refine Rt.iload (pc' := 184) X13 hx (hb hby d6_182) rfl rfl ?_
                          refine Rt.iload (pc' := 186) X13 hx (hb hby d6_184) rfl rfl ?_
                          refine Rt.callP (pc' := 189) (r := (.int (f7 p6 (f6_3_v31 ps) (f6_3_v153 p6 v0 v1 v2 v3 v4 ps) v0 v1 v2 v3 v4))) X13 hx hZ (y := mt7) hown (own_g hw 26 rfl) (own_g hw 27 rfl) (own_g hw 20 rfl) (own_g hw 28 rfl) (by decide) (rm7 l Z a0 hw [] a3 p6 (f6_3_v31 ps) (f6_3_v153 p6 v0 v1 v2 v3 v4 ps) v0 v1 v2 v3 v4 h0 n0 F_A_a3) (W := 0) (by decide) (by decide) (by decide) (by decide) rfl rfl (argsL := [(.ref a3), (.int p6), (.int (f6_3_v31 ps)), (.int (f6_3_v153 p6 v0 v1 v2 v3 v4 ps))]) (rest := []) (by rw [hml]; rfl) (lenOf pd_1 rfl) rfl rfl (Nat.le_of_eq rfl) (hb hby d6_186) rfl ?_
                          intro T17 X17
                          refine Rt.iload (pc' := 191) X17 hx (hb hby d6_189) rfl rfl ?_
                          by_cases hc191_18 : p5 < (f7 p6 (f6_3_v31 ps) (f6_3_v153 p6 v0 v1 v2 v3 v4 ps) v0 v1 v2 v3 v4)
                          · refine Rt.icmpY (pc' := 196) X17 hx (hb hby d6_191) (tlt hc191_18).2.2.1 (by decide) (by decide) ?_
                            refine Rt.iconst (pc' := 197) (v := (1 : Int32)) X17 hx (hb hby d6_196) rfl rfl ?_
                            exact Rt.retZ (w := (1 : Int32)) X17 hx hlk hret (by simp) (hb hby d6_197) (by decide) (by decide) (by decide) (fun L N => ⟨congrArg some (congrArg Value.int (by rw [f6_3, if_pos hc3_1, if_neg hc41_3, if_neg hc48_4, if_neg hc54_5, if_pos hc65_6, if_pos hc74_7, if_pos hc85_8, if_neg hc102_10, if_pos hc115_11, if_pos hc159_14, if_neg hc167_15, if_pos hc176_16, if_pos hc191_18])), N, rfl⟩)
                          · refine Rt.icmpN (pc' := 194) X17 hx (hb hby d6_191) (flt hc191_18).2.2.1 rfl ?_
                            refine Rt.iconst (pc' := 195) (v := (0 : Int32)) X17 hx (hb hby d6_194) rfl rfl ?_
                            exact Rt.retZ (w := (0 : Int32)) X17 hx hlk hret (by simp) (hb hby d6_195) (by decide) (by decide) (by decide) (fun L N => ⟨congrArg some (congrArg Value.int (by rw [f6_3, if_pos hc3_1, if_neg hc41_3, if_neg hc48_4, if_neg hc54_5, if_pos hc65_6, if_pos hc74_7, if_pos hc85_8, if_neg hc102_10, if_pos hc115_11, if_pos hc159_14, if_neg hc167_15, if_pos hc176_16, if_neg hc191_18])), N, rfl⟩)
                        · refine Rt.icmpY (pc' := 196) X13 hx (hb hby d6_176) (flt hc176_16).2.1 (by decide) (by decide) ?_
                          refine Rt.iconst (pc' := 197) (v := (1 : Int32)) X13 hx (hb hby d6_196) rfl rfl ?_
                          exact Rt.retZ (w := (1 : Int32)) X13 hx hlk hret (by simp) (hb hby d6_197) (by decide) (by decide) (by decide) (fun L N => ⟨congrArg some (congrArg Value.int (by rw [f6_3, if_pos hc3_1, if_neg hc41_3, if_neg hc48_4, if_neg hc54_5, if_pos hc65_6, if_pos hc74_7, if_pos hc85_8, if_neg hc102_10, if_pos hc115_11, if_pos hc159_14, if_neg hc167_15, if_neg hc176_16])), N, rfl⟩)
                    · refine Rt.icmpN (pc' := 162) X13 hx (hb hby d6_159) (feq hc159_14).1 rfl ?_
                      refine Rt.iconst (pc' := 163) (v := (0 : Int32)) X13 hx (hb hby d6_162) rfl rfl ?_
                      exact Rt.retZ (w := (0 : Int32)) X13 hx hlk hret (by simp) (hb hby d6_163) (by decide) (by decide) (by decide) (fun L N => ⟨congrArg some (congrArg Value.int (by rw [f6_3, if_pos hc3_1, if_neg hc41_3, if_neg hc48_4, if_neg hc54_5, if_pos hc65_6, if_pos hc74_7, if_pos hc85_8, if_neg hc102_10, if_pos hc115_11, if_neg hc159_14])), N, rfl⟩)
                  · refine Rt.icmpY (pc' := 145) X9 hx (hb hby d6_115) (flt hc115_11).2.1 (by decide) (by decide) ?_
                    refine Rt.aloadN (pc' := 146) X9 hx (hb hby d6_145) rfl rfl rfl ?_
                    refine Rt.iload (pc' := 148) X9 hx (hb hby d6_146) rfl rfl ?_
                    refine Rt.iload (pc' := 150) X9 hx (hb hby d6_148) rfl rfl ?_
                    refine Rt.callP (pc' := 153) (r := (.int (f5 p6 (f6_3_v37 ps) v0 v1 v2 v3 v4))) X9 hx hZ (y := mt5) hown (own_g hw 18 rfl) (own_g hw 19 rfl) (own_g hw 20 rfl) (own_g hw 21 rfl) (by decide) (rm5 l Z a0 hw [] a3 p6 (f6_3_v37 ps) v0 v1 v2 v3 v4 h0 n0 F_A_a3) (W := 0) (by decide) (by decide) (by decide) (by decide) rfl rfl (argsL := [(.ref a3), (.int p6), (.int (f6_3_v37 ps))]) (rest := []) (by rw [hml]; rfl) (lenOf pd_3 rfl) rfl rfl (Nat.le_of_eq rfl) (hb hby d6_150) rfl ?_
                    intro T19 X19
                    refine Rt.istore (pc' := 155) (v := (f6_3_v153 p6 v0 v1 v2 v3 v4 ps)) (l' := #[.val (.ref a1), .val (.int (3 : Int32)), .val (.ref a3), .val (.int p4), .val (.int p5), .val (.int p6), .val (.ref y2), .val (.int (f6_3_v31 ps)), .val (.int (f6_3_v37 ps)), .val (.int (-1 : Int32)), .val (.int (f6_3_v153 p6 v0 v1 v2 v3 v4 ps))]) X19 hx (hb hby d6_153) rfl rfl ?_
                    refine Rt.iload (pc' := 157) X19 hx (hb hby d6_155) rfl rfl ?_
                    refine Rt.iload (pc' := 159) X19 hx (hb hby d6_157) rfl rfl ?_
                    by_cases hc159_20 : (-1 : Int32) = (f6_3_v153 p6 v0 v1 v2 v3 v4 ps)
                    · refine Rt.icmpY (pc' := 164) X19 hx (hb hby d6_159) (teq hc159_20).1 (by decide) (by decide) ?_
                      refine Rt.iload (pc' := 166) X19 hx (hb hby d6_164) rfl rfl ?_
                      refine Rt.iconst (pc' := 167) (v := (-1 : Int32)) X19 hx (hb hby d6_166) rfl rfl ?_
                      by_cases hc167_21 : (f6_3_v153 p6 v0 v1 v2 v3 v4 ps) = (-1 : Int32)
                      · refine Rt.icmpY (pc' := 196) X19 hx (hb hby d6_167) (teq hc167_21).1 (by decide) (by decide) ?_
                        refine Rt.iconst (pc' := 197) (v := (1 : Int32)) X19 hx (hb hby d6_196) rfl rfl ?_
                        exact Rt.retZ (w := (1 : Int32)) X19 hx hlk hret (by simp) (hb hby d6_197) (by decide) (by decide) (by decide) (fun L N => ⟨congrArg some (congrArg Value.int (by rw [f6_3, if_pos hc3_1, if_neg hc41_3, if_neg hc48_4, if_neg hc54_5, if_pos hc65_6, if_pos hc74_7, if_pos hc85_8, if_neg hc102_10, if_neg hc115_11, if_pos hc159_20, if_pos hc167_21])), N, rfl⟩)
                      · refine Rt.icmpN (pc' := 170) X19 hx (hb hby d6_167) (feq hc167_21).1 rfl ?_
                        refine Rt.iload (pc' := 172) X19 hx (hb hby d6_170) rfl rfl ?_
                        refine Rt.iload (pc' := 174) X19 hx (hb hby d6_172) rfl rfl ?_
                        refine Rt.isub (pc' := 175) (r := ((f6_3_v153 p6 v0 v1 v2 v3 v4 ps) - (f6_3_v31 ps))) X19 hx (hb hby d6_174) rfl rfl ?_
                        refine Rt.iloadN (pc' := 176) X19 hx (hb hby d6_175) rfl rfl ?_
                        by_cases hc176_22 : ((f6_3_v153 p6 v0 v1 v2 v3 v4 ps) - (f6_3_v31 ps)) < p4
                        · refine Rt.icmpN (pc' := 179) X19 hx (hb hby d6_176) (tlt hc176_22).2.1 rfl ?_
                          refine Rt.aloadN (pc' := 180) X19 hx (hb hby d6_179) rfl rfl rfl ?_
                          refine Rt.iload (pc' := 182) X19 hx (hb hby d6_180) rfl rfl ?_
                          refine Rt.iload (pc' := 184) X19 hx (hb hby d6_182) rfl rfl ?_
                          refine Rt.iload (pc' := 186) X19 hx (hb hby d6_184) rfl rfl ?_
                          refine Rt.callP (pc' := 189) (r := (.int (f7 p6 (f6_3_v31 ps) (f6_3_v153 p6 v0 v1 v2 v3 v4 ps) v0 v1 v2 v3 v4))) X19 hx hZ (y := mt7) hown (own_g hw 26 rfl) (own_g hw 27 rfl) (own_g hw 20 rfl) (own_g hw 28 rfl) (by decide) (rm7 l Z a0 hw [] a3 p6 (f6_3_v31 ps) (f6_3_v153 p6 v0 v1 v2 v3 v4 ps) v0 v1 v2 v3 v4 h0 n0 F_A_a3) (W := 0) (by decide) (by decide) (by decide) (by decide) rfl rfl (argsL := [(.ref a3), (.int p6), (.int (f6_3_v31 ps)), (.int (f6_3_v153 p6 v0 v1 v2 v3 v4 ps))]) (rest := []) (by rw [hml]; rfl) (lenOf pd_1 rfl) rfl rfl (Nat.le_of_eq rfl) (hb hby d6_186) rfl ?_
                          intro T23 X23
                          refine Rt.iload (pc' := 191) X23 hx (hb hby d6_189) rfl rfl ?_
                          by_cases hc191_24 : p5 < (f7 p6 (f6_3_v31 ps) (f6_3_v153 p6 v0 v1 v2 v3 v4 ps) v0 v1 v2 v3 v4)
                          · refine Rt.icmpY (pc' := 196) X23 hx (hb hby d6_191) (tlt hc191_24).2.2.1 (by decide) (by decide) ?_
                            refine Rt.iconst (pc' := 197) (v := (1 : Int32)) X23 hx (hb hby d6_196) rfl rfl ?_
                            exact Rt.retZ (w := (1 : Int32)) X23 hx hlk hret (by simp) (hb hby d6_197) (by decide) (by decide) (by decide) (fun L N => ⟨congrArg some (congrArg Value.int (by rw [f6_3, if_pos hc3_1, if_neg hc41_3, if_neg hc48_4, if_neg hc54_5, if_pos hc65_6, if_pos hc74_7, if_pos hc85_8, if_neg hc102_10, if_neg hc115_11, if_pos hc159_20, if_neg hc167_21, if_pos hc176_22, if_pos hc191_24])), N, rfl⟩)
                          · refine Rt.icmpN (pc' := 194) X23 hx (hb hby d6_191) (flt hc191_24).2.2.1 rfl ?_
                            refine Rt.iconst (pc' := 195) (v := (0 : Int32)) X23 hx (hb hby d6_194) rfl rfl ?_
                            exact Rt.retZ (w := (0 : Int32)) X23 hx hlk hret (by simp) (hb hby d6_195) (by decide) (by decide) (by decide) (fun L N => ⟨congrArg some (congrArg Value.int (by rw [f6_3, if_pos hc3_1, if_neg hc41_3, if_neg hc48_4, if_neg hc54_5, if_pos hc65_6, if_pos hc74_7, if_pos hc85_8, if_neg hc102_10, if_neg hc115_11, if_pos hc159_20, if_neg hc167_21, if_pos hc176_22, if_neg hc191_24])), N, rfl⟩)
                        · refine Rt.icmpY (pc' := 196) X19 hx (hb hby d6_176) (flt hc176_22).2.1 (by decide) (by decide) ?_
                          refine Rt.iconst (pc' := 197) (v := (1 : Int32)) X19 hx (hb hby d6_196) rfl rfl ?_
                          exact Rt.retZ (w := (1 : Int32)) X19 hx hlk hret (by simp) (hb hby d6_197) (by decide) (by decide) (by decide) (fun L N => ⟨congrArg some (congrArg Value.int (by rw [f6_3, if_pos hc3_1, if_neg hc41_3, if_neg hc48_4, if_neg hc54_5, if_pos hc65_6, if_pos hc74_7, if_pos hc85_8, if_neg hc102_10, if_neg hc115_11, if_pos hc159_20, if_neg hc167_21, if_neg hc176_22])), N, rfl⟩)
                    · refine Rt.icmpN (pc' := 162) X19 hx (hb hby d6_159) (feq hc159_20).1 rfl ?_
                      refine Rt.iconst (pc' := 163) (v := (0 : Int32)) X19 hx (hb hby d6_162) rfl rfl ?_
                      exact Rt.retZ (w := (0 : Int32)) X19 hx hlk hret (by simp) (hb hby d6_163) (by decide) (by decide) (by decide) (fun L N => ⟨congrArg some (congrArg Value.int (by rw [f6_3, if_pos hc3_1, if_neg hc41_3, if_neg hc48_4, if_neg hc54_5, if_pos hc65_6, if_pos hc74_7, if_pos hc85_8, if_neg hc102_10, if_neg hc115_11, if_neg hc159_20])), N, rfl⟩)
              · refine Rt.icmpN (pc' := 88) X0 hx (hb hby d6_85) (flt hc85_8).1 rfl ?_
                refine Rt.iconst (pc' := 89) (v := (0 : Int32)) X0 hx (hb hby d6_88) rfl rfl ?_
                exact Rt.retZ (w := (0 : Int32)) X0 hx hlk hret (by simp) (hb hby d6_89) (by decide) (by decide) (by decide) (fun L N => ⟨congrArg some (congrArg Value.int (by rw [f6_3, if_pos hc3_1, if_neg hc41_3, if_neg hc48_4, if_neg hc54_5, if_pos hc65_6, if_pos hc74_7, if_neg hc85_8])), N, rfl⟩)
            · refine Rt.icmpN (pc' := 77) X0 hx (hb hby d6_74) (flt hc74_7).2.2.1 rfl ?_
              refine Rt.iconst (pc' := 78) (v := (0 : Int32)) X0 hx (hb hby d6_77) rfl rfl ?_
              exact Rt.retZ (w := (0 : Int32)) X0 hx hlk hret (by simp) (hb hby d6_78) (by decide) (by decide) (by decide) (fun L N => ⟨congrArg some (congrArg Value.int (by rw [f6_3, if_pos hc3_1, if_neg hc41_3, if_neg hc48_4, if_neg hc54_5, if_pos hc65_6, if_neg hc74_7])), N, rfl⟩)
          · refine Rt.icmpY (pc' := 77) X0 hx (hb hby d6_65) (flt hc65_6).2.2.2 (by decide) (by decide) ?_
            refine Rt.iconst (pc' := 78) (v := (0 : Int32)) X0 hx (hb hby d6_77) rfl rfl ?_
            exact Rt.retZ (w := (0 : Int32)) X0 hx hlk hret (by simp) (hb hby d6_78) (by decide) (by decide) (by decide) (fun L N => ⟨congrArg some (congrArg Value.int (by rw [f6_3, if_pos hc3_1, if_neg hc41_3, if_neg hc48_4, if_neg hc54_5, if_neg hc65_6])), N, rfl⟩)
  · refine Rt.icmpN (pc' := 6) X0 hx (hb hby d6_3) (flt hc3_1).1 rfl ?_
    refine Rt.iconst (pc' := 7) (v := (1 : Int32)) X0 hx (hb hby d6_6) rfl rfl ?_
    exact Rt.retZ (w := (1 : Int32)) X0 hx hlk hret (by simp) (hb hby d6_7) (by decide) (by decide) (by decide) (fun L N => ⟨congrArg some (congrArg Value.int (by rw [f6_3, if_neg hc3_1])), N, rfl⟩)
def f6_4_v31 (ps : List (Int32 × Int32)) : Int32 := ((ps).getD 4 ((0 : Int32), (0 : Int32))).1
def f6_4_v37 (ps : List (Int32 × Int32)) : Int32 := ((ps).getD 4 ((0 : Int32), (0 : Int32))).2
def f6_4_v143 (ps : List (Int32 × Int32)) : Int32 := ((ps).getD 5 ((0 : Int32), (0 : Int32))).1
def f6_4_v153 (p6 : Int32) (v0 : Int32) (v1 : Int32) (v2 : Int32) (v3 : Int32) (v4 : Int32) (ps : List (Int32 × Int32)) : Int32 := (f5 p6 (f6_4_v37 ps) v0 v1 v2 v3 v4)
def f6_4 (p4 : Int32) (p5 : Int32) (p6 : Int32) (v0 : Int32) (v1 : Int32) (v2 : Int32) (v3 : Int32) (v4 : Int32) (ps : List (Int32 × Int32)) : Int32 := (if (4 : Int32) < ((ps).length.toInt32) then (if (f6_4_v31 ps) < (0 : Int32) then (0 : Int32) else (if (f6_4_v37 ps) < (f6_4_v31 ps) then (0 : Int32) else (if (4 : Int32) < (f6_4_v37 ps) then (0 : Int32) else (if p6 < (own_at v0 v1 v2 v3 v4 (f6_4_v31 ps)) then (if p6 < (own_at v0 v1 v2 v3 v4 (f6_4_v37 ps)) then (if ((f6_4_v37 ps) - (f6_4_v31 ps)) < p4 then (if p5 < (f7 p6 (f6_4_v31 ps) (f6_4_v37 ps) v0 v1 v2 v3 v4) then (0 : Int32) else (if (5 : Int32) < ((ps).length.toInt32) then (if (f6_4_v143 ps) = (f6_4_v153 p6 v0 v1 v2 v3 v4 ps) then (if (f6_4_v153 p6 v0 v1 v2 v3 v4 ps) = (-1 : Int32) then (1 : Int32) else (if ((f6_4_v153 p6 v0 v1 v2 v3 v4 ps) - (f6_4_v31 ps)) < p4 then (if p5 < (f7 p6 (f6_4_v31 ps) (f6_4_v153 p6 v0 v1 v2 v3 v4 ps) v0 v1 v2 v3 v4) then (1 : Int32) else (0 : Int32)) else (1 : Int32))) else (0 : Int32)) else (if (-1 : Int32) = (f6_4_v153 p6 v0 v1 v2 v3 v4 ps) then (if (f6_4_v153 p6 v0 v1 v2 v3 v4 ps) = (-1 : Int32) then (1 : Int32) else (if ((f6_4_v153 p6 v0 v1 v2 v3 v4 ps) - (f6_4_v31 ps)) < p4 then (if p5 < (f7 p6 (f6_4_v31 ps) (f6_4_v153 p6 v0 v1 v2 v3 v4 ps) v0 v1 v2 v3 v4) then (1 : Int32) else (0 : Int32)) else (1 : Int32))) else (0 : Int32)))) else (0 : Int32)) else (0 : Int32)) else (0 : Int32))))) else (1 : Int32))
def Q6_4 (a1 : Addr) (a3 : Addr) (p4 : Int32) (p5 : Int32) (p6 : Int32) (v0 : Int32) (v1 : Int32) (v2 : Int32) (v3 : Int32) (v4 : Int32) (ps : List (Int32 × Int32)) (h0 : Heap) (n0 : Nat) (v : Option Value) (h : Heap) (L : List Loc) : Prop := v = some (.int (f6_4 p4 p5 p6 v0 v1 v2 v3 v4 ps)) ∧ Fr n0 L ∧ h = h0
def rmR6_4 : Room := { frames := 2, cells := 0, slots := 0, locals := 32 }
theorem ef_6_4 (m : MethodId) (a1 : Addr) (a3 : Addr) (p4 : Int32) (p5 : Int32) (p6 : Int32) : entryFrame m #[(.ref a1), (.int (4 : Int32)), (.ref a3), (.int p4), (.int p5), (.int p6)] 11 = mkF m 0 #[.val (.ref a1), .val (.int (4 : Int32)), .val (.ref a3), .val (.int p4), .val (.int p5), .val (.int p6), .unset, .unset, .unset, .unset, .unset] [] := by first | (simp [entryFrame, mkF, argsToLocals, Value.category]; done) | rfl
set_option maxRecDepth 65536 in
set_option maxHeartbeats 40000000 in
theorem rm6_4 (l : Launch) (Z : State) (a0 : Array Value) (hw : ∀ d ∈ tables_1, d.before a0 Z = true) (ws : List Jvm.Cond) (a1 : Addr) (a3 : Addr) (p4 : Int32) (p5 : Int32) (p6 : Int32) (v0 : Int32) (v1 : Int32) (v2 : Int32) (v3 : Int32) (v4 : Int32) (ps : List (Int32 × Int32)) (h0 : Heap) (n0 : Nat) (F_P_a1 : Pr Z h0 a1 (ps).length ps) (F_A_a3 : IA Z h0 a3 .int [(.int v0), (.int v1), (.int v2), (.int v3), (.int v4)]) (hps : ps.length ≤ 5) :
    Mt l Z mt8 (Jvm.Cond.code mt8 method_3_code 11 (some .boolean) :: ws) rmR6_4 #[(.ref a1), (.int (4 : Int32)), (.ref a3), (.int p4), (.int p5), (.int p6)] h0 (Q6_4 a1 a3 p4 p5 p6 v0 v1 v2 v3 v4 ps h0 n0) := by
  refine Mt.of n0 (plainFor_of_name pn_com_example_tightfold_tightfold_FocusCoverRunsPinLaw) ?_
  intro p e s m below meth c T0 X0 hx hZ hby hml hown hret hlk hnm hs0
  have hown : s.vm.findClass "com/example/tightfold/tightfold/FocusCoverRunsPinLaw" = some m.cls := hown
  rw [ef_6_4]
  show Rt p e below s rmR6_4.cells rmR6_4.slots (Q6_4 a1 a3 p4 p5 p6 v0 v1 v2 v3 v4 ps h0 n0) (T0.setTop (mkF m 0 #[.val (.ref a1), .val (.int (4 : Int32)), .val (.ref a3), .val (.int p4), .val (.int p5), .val (.int p6), .unset, .unset, .unset, .unset, .unset] []))
  refine Rt.iloadN (pc' := 1) X0 hx (hb hby d6_0) rfl rfl ?_
  refine Rt.aloadN (pc' := 2) X0 hx (hb hby d6_1) rfl rfl rfl ?_
  refine Rt.arraylengthP (pc' := 3) X0 hx hZ F_P_a1 (v := ((ps).length.toInt32)) rfl (hb hby d6_2) rfl ?_
  by_cases hc3_1 : (4 : Int32) < ((ps).length.toInt32)
  · refine Rt.icmpY (pc' := 8) X0 hx (hb hby d6_3) (tlt hc3_1).1 (by decide) (by decide) ?_
    refine Rt.aloadN (pc' := 9) X0 hx (hb hby d6_8) rfl rfl rfl ?_
    refine Rt.iloadN (pc' := 10) X0 hx (hb hby d6_9) rfl rfl ?_
    refine Rt.aaloadP (pc' := 11) X0 hx hZ F_P_a1 (t := 4) (by decide) (by decide) (own_pt (own_tl hps hc3_1 (by decide))) (hb hby d6_10) rfl ?_
    intro y2 Fy2
    refine Rt.astore (pc' := 13) (v := (.ref y2)) (l' := #[.val (.ref a1), .val (.int (4 : Int32)), .val (.ref a3), .val (.int p4), .val (.int p5), .val (.int p6), .val (.ref y2), .unset, .unset, .unset, .unset]) X0 hx (hb hby d6_11) rfl rfl rfl ?_
    refine Rt.aload (pc' := 15) X0 hx (hb hby d6_13) rfl rfl rfl ?_
    refine Rt.ifnullN (pc' := 18) X0 hx (hb hby d6_15) rfl ?_
    refine Rt.aload (pc' := 20) X0 hx (hb hby d6_18) rfl rfl rfl ?_
    refine Rt.arraylength (pc' := 21) X0 hx hZ Fy2 (v := (2 : Int32)) rfl (hb hby d6_20) rfl ?_
    refine Rt.iconst (pc' := 22) (v := (2 : Int32)) X0 hx (hb hby d6_21) rfl rfl ?_
    refine Rt.icmpY (pc' := 27) X0 hx (hb hby d6_22) (teq (by decide : (2 : Int32) = (2 : Int32))).1 (by decide) (by decide) ?_
    refine Rt.aload (pc' := 29) X0 hx (hb hby d6_27) rfl rfl rfl ?_
    refine Rt.iconst (pc' := 30) (v := (0 : Int32)) X0 hx (hb hby d6_29) rfl rfl ?_
    refine Rt.iaload (pc' := 31) X0 hx hZ Fy2 (i := 0) (by decide) (by decide) (v := (.int ((ps).getD 4 ((0 : Int32), (0 : Int32))).1)) rfl (hb hby d6_30) rfl ?_
    refine Rt.istore (pc' := 33) (v := (f6_4_v31 ps)) (l' := #[.val (.ref a1), .val (.int (4 : Int32)), .val (.ref a3), .val (.int p4), .val (.int p5), .val (.int p6), .val (.ref y2), .val (.int (f6_4_v31 ps)), .unset, .unset, .unset]) X0 hx (hb hby d6_31) rfl rfl ?_
    refine Rt.aload (pc' := 35) X0 hx (hb hby d6_33) rfl rfl rfl ?_
    refine Rt.iconst (pc' := 36) (v := (1 : Int32)) X0 hx (hb hby d6_35) rfl rfl ?_
    refine Rt.iaload (pc' := 37) X0 hx hZ Fy2 (i := 1) (by decide) (by decide) (v := (.int ((ps).getD 4 ((0 : Int32), (0 : Int32))).2)) rfl (hb hby d6_36) rfl ?_
    refine Rt.istore (pc' := 39) (v := (f6_4_v37 ps)) (l' := #[.val (.ref a1), .val (.int (4 : Int32)), .val (.ref a3), .val (.int p4), .val (.int p5), .val (.int p6), .val (.ref y2), .val (.int (f6_4_v31 ps)), .val (.int (f6_4_v37 ps)), .unset, .unset]) X0 hx (hb hby d6_37) rfl rfl ?_
    refine Rt.iload (pc' := 41) X0 hx (hb hby d6_39) rfl rfl ?_
    by_cases hc41_3 : (f6_4_v31 ps) < (0 : Int32)
    · refine Rt.ifY (pc' := 57) X0 hx (hb hby d6_41) ((if0 _ _).trans (tlt hc41_3).1) (by decide) (by decide) ?_
      refine Rt.iconst (pc' := 58) (v := (0 : Int32)) X0 hx (hb hby d6_57) rfl rfl ?_
      exact Rt.retZ (w := (0 : Int32)) X0 hx hlk hret (by simp) (hb hby d6_58) (by decide) (by decide) (by decide) (fun L N => ⟨congrArg some (congrArg Value.int (by rw [f6_4, if_pos hc3_1, if_pos hc41_3])), N, rfl⟩)
    · refine Rt.ifN (pc' := 44) X0 hx (hb hby d6_41) ((if0 _ _).trans (flt hc41_3).1) rfl ?_
      refine Rt.iload (pc' := 46) X0 hx (hb hby d6_44) rfl rfl ?_
      refine Rt.iload (pc' := 48) X0 hx (hb hby d6_46) rfl rfl ?_
      by_cases hc48_4 : (f6_4_v37 ps) < (f6_4_v31 ps)
      · refine Rt.icmpY (pc' := 57) X0 hx (hb hby d6_48) (tlt hc48_4).2.2.1 (by decide) (by decide) ?_
        refine Rt.iconst (pc' := 58) (v := (0 : Int32)) X0 hx (hb hby d6_57) rfl rfl ?_
        exact Rt.retZ (w := (0 : Int32)) X0 hx hlk hret (by simp) (hb hby d6_58) (by decide) (by decide) (by decide) (fun L N => ⟨congrArg some (congrArg Value.int (by rw [f6_4, if_pos hc3_1, if_neg hc41_3, if_pos hc48_4])), N, rfl⟩)
      · refine Rt.icmpN (pc' := 51) X0 hx (hb hby d6_48) (flt hc48_4).2.2.1 rfl ?_
        refine Rt.iload (pc' := 53) X0 hx (hb hby d6_51) rfl rfl ?_
        refine Rt.iconst (pc' := 54) (v := (4 : Int32)) X0 hx (hb hby d6_53) rfl rfl ?_
        by_cases hc54_5 : (4 : Int32) < (f6_4_v37 ps)
        · refine Rt.icmpN (pc' := 57) X0 hx (hb hby d6_54) (tlt hc54_5).2.2.2 rfl ?_
          refine Rt.iconst (pc' := 58) (v := (0 : Int32)) X0 hx (hb hby d6_57) rfl rfl ?_
          exact Rt.retZ (w := (0 : Int32)) X0 hx hlk hret (by simp) (hb hby d6_58) (by decide) (by decide) (by decide) (fun L N => ⟨congrArg some (congrArg Value.int (by rw [f6_4, if_pos hc3_1, if_neg hc41_3, if_neg hc48_4, if_pos hc54_5])), N, rfl⟩)
        · refine Rt.icmpY (pc' := 59) X0 hx (hb hby d6_54) (flt hc54_5).2.2.2 (by decide) (by decide) ?_
          refine Rt.aloadN (pc' := 60) X0 hx (hb hby d6_59) rfl rfl rfl ?_
          refine Rt.iload (pc' := 62) X0 hx (hb hby d6_60) rfl rfl ?_
          refine Rt.iaload (pc' := 63) X0 hx hZ F_A_a3 (i := ((f6_4_v31 ps)).toNatClampNeg) rfl hc41_3 (v := (.int (own_at v0 v1 v2 v3 v4 (f6_4_v31 ps)))) (own_ix hc41_3 (own_ge hc48_4 hc54_5)) (hb hby d6_62) rfl ?_
          refine Rt.iload (pc' := 65) X0 hx (hb hby d6_63) rfl rfl ?_
          by_cases hc65_6 : p6 < (own_at v0 v1 v2 v3 v4 (f6_4_v31 ps))
          · refine Rt.icmpN (pc' := 68) X0 hx (hb hby d6_65) (tlt hc65_6).2.2.2 rfl ?_
            refine Rt.aloadN (pc' := 69) X0 hx (hb hby d6_68) rfl rfl rfl ?_
            refine Rt.iload (pc' := 71) X0 hx (hb hby d6_69) rfl rfl ?_
            refine Rt.iaload (pc' := 72) X0 hx hZ F_A_a3 (i := ((f6_4_v37 ps)).toNatClampNeg) rfl (own_le hc41_3 hc48_4) (v := (.int (own_at v0 v1 v2 v3 v4 (f6_4_v37 ps)))) (own_ix (own_le hc41_3 hc48_4) hc54_5) (hb hby d6_71) rfl ?_
            refine Rt.iload (pc' := 74) X0 hx (hb hby d6_72) rfl rfl ?_
            by_cases hc74_7 : p6 < (own_at v0 v1 v2 v3 v4 (f6_4_v37 ps))
            · refine Rt.icmpY (pc' := 79) X0 hx (hb hby d6_74) (tlt hc74_7).2.2.1 (by decide) (by decide) ?_
              refine Rt.iload (pc' := 81) X0 hx (hb hby d6_79) rfl rfl ?_
              refine Rt.iload (pc' := 83) X0 hx (hb hby d6_81) rfl rfl ?_
              refine Rt.isub (pc' := 84) (r := ((f6_4_v37 ps) - (f6_4_v31 ps))) X0 hx (hb hby d6_83) rfl rfl ?_
              refine Rt.iloadN (pc' := 85) X0 hx (hb hby d6_84) rfl rfl ?_
              by_cases hc85_8 : ((f6_4_v37 ps) - (f6_4_v31 ps)) < p4
              · refine Rt.icmpY (pc' := 90) X0 hx (hb hby d6_85) (tlt hc85_8).1 (by decide) (by decide) ?_
                refine Rt.aloadN (pc' := 91) X0 hx (hb hby d6_90) rfl rfl rfl ?_
                refine Rt.iload (pc' := 93) X0 hx (hb hby d6_91) rfl rfl ?_
                refine Rt.iload (pc' := 95) X0 hx (hb hby d6_93) rfl rfl ?_
                refine Rt.iload (pc' := 97) X0 hx (hb hby d6_95) rfl rfl ?_
                refine Rt.callP (pc' := 100) (r := (.int (f7 p6 (f6_4_v31 ps) (f6_4_v37 ps) v0 v1 v2 v3 v4))) X0 hx hZ (y := mt7) hown (own_g hw 26 rfl) (own_g hw 27 rfl) (own_g hw 20 rfl) (own_g hw 28 rfl) (by decide) (rm7 l Z a0 hw [] a3 p6 (f6_4_v31 ps) (f6_4_v37 ps) v0 v1 v2 v3 v4 h0 n0 F_A_a3) (W := 0) (by decide) (by decide) (by decide) (by decide) rfl rfl (argsL := [(.ref a3), (.int p6), (.int (f6_4_v31 ps)), (.int (f6_4_v37 ps))]) (rest := []) (by rw [hml]; rfl) (lenOf pd_1 rfl) rfl rfl (Nat.le_of_eq rfl) (hb hby d6_97) rfl ?_
                intro T9 X9
                refine Rt.iload (pc' := 102) X9 hx (hb hby d6_100) rfl rfl ?_
                by_cases hc102_10 : p5 < (f7 p6 (f6_4_v31 ps) (f6_4_v37 ps) v0 v1 v2 v3 v4)
                · refine Rt.icmpN (pc' := 105) X9 hx (hb hby d6_102) (tlt hc102_10).2.2.2 rfl ?_
                  refine Rt.iconst (pc' := 106) (v := (0 : Int32)) X9 hx (hb hby d6_105) rfl rfl ?_
                  exact Rt.retZ (w := (0 : Int32)) X9 hx hlk hret (by simp) (hb hby d6_106) (by decide) (by decide) (by decide) (fun L N => ⟨congrArg some (congrArg Value.int (by rw [f6_4, if_pos hc3_1, if_neg hc41_3, if_neg hc48_4, if_neg hc54_5, if_pos hc65_6, if_pos hc74_7, if_pos hc85_8, if_pos hc102_10])), N, rfl⟩)
                · refine Rt.icmpY (pc' := 107) X9 hx (hb hby d6_102) (flt hc102_10).2.2.2 (by decide) (by decide) ?_
                  refine Rt.iconst (pc' := 108) (v := (-1 : Int32)) X9 hx (hb hby d6_107) rfl rfl ?_
                  refine Rt.istore (pc' := 110) (v := (-1 : Int32)) (l' := #[.val (.ref a1), .val (.int (4 : Int32)), .val (.ref a3), .val (.int p4), .val (.int p5), .val (.int p6), .val (.ref y2), .val (.int (f6_4_v31 ps)), .val (.int (f6_4_v37 ps)), .val (.int (-1 : Int32)), .unset]) X9 hx (hb hby d6_108) rfl rfl ?_
                  refine Rt.iloadN (pc' := 111) X9 hx (hb hby d6_110) rfl rfl ?_
                  refine Rt.iconst (pc' := 112) (v := (1 : Int32)) X9 hx (hb hby d6_111) rfl rfl ?_
                  refine Rt.iadd (pc' := 113) (r := (5 : Int32)) X9 hx (hb hby d6_112) (by decide) rfl ?_
                  refine Rt.aloadN (pc' := 114) X9 hx (hb hby d6_113) rfl rfl rfl ?_
                  refine Rt.arraylengthP (pc' := 115) X9 hx hZ F_P_a1 (v := ((ps).length.toInt32)) rfl (hb hby d6_114) rfl ?_
                  by_cases hc115_11 : (5 : Int32) < ((ps).length.toInt32)
                  · refine Rt.icmpN (pc' := 118) X9 hx (hb hby d6_115) (tlt hc115_11).2.1 rfl ?_
                    refine Rt.aloadN (pc' := 119) X9 hx (hb hby d6_118) rfl rfl rfl ?_
                    refine Rt.iloadN (pc' := 120) X9 hx (hb hby d6_119) rfl rfl ?_
                    refine Rt.iconst (pc' := 121) (v := (1 : Int32)) X9 hx (hb hby d6_120) rfl rfl ?_
                    refine Rt.iadd (pc' := 122) (r := (5 : Int32)) X9 hx (hb hby d6_121) (by decide) rfl ?_
                    refine Rt.aaloadP (pc' := 123) X9 hx hZ F_P_a1 (t := 5) (by decide) (by decide) (own_pt (own_tl hps hc115_11 (by decide))) (hb hby d6_122) rfl ?_
                    intro y12 Fy12
                    refine Rt.astore (pc' := 125) (v := (.ref y12)) (l' := #[.val (.ref a1), .val (.int (4 : Int32)), .val (.ref a3), .val (.int p4), .val (.int p5), .val (.int p6), .val (.ref y2), .val (.int (f6_4_v31 ps)), .val (.int (f6_4_v37 ps)), .val (.int (-1 : Int32)), .val (.ref y12)]) X9 hx (hb hby d6_123) rfl rfl rfl ?_
                    refine Rt.aload (pc' := 127) X9 hx (hb hby d6_125) rfl rfl rfl ?_
                    refine Rt.ifnullN (pc' := 130) X9 hx (hb hby d6_127) rfl ?_
                    refine Rt.aload (pc' := 132) X9 hx (hb hby d6_130) rfl rfl rfl ?_
                    refine Rt.arraylength (pc' := 133) X9 hx hZ Fy12 (v := (2 : Int32)) rfl (hb hby d6_132) rfl ?_
                    refine Rt.iconst (pc' := 134) (v := (1 : Int32)) X9 hx (hb hby d6_133) rfl rfl ?_
                    refine Rt.icmpY (pc' := 139) X9 hx (hb hby d6_134) (flt (by decide : ¬ ((2 : Int32) < (1 : Int32)))).2.1 (by decide) (by decide) ?_
                    refine Rt.aload (pc' := 141) X9 hx (hb hby d6_139) rfl rfl rfl ?_
                    refine Rt.iconst (pc' := 142) (v := (0 : Int32)) X9 hx (hb hby d6_141) rfl rfl ?_
                    refine Rt.iaload (pc' := 143) X9 hx hZ Fy12 (i := 0) (by decide) (by decide) (v := (.int ((ps).getD 5 ((0 : Int32), (0 : Int32))).1)) rfl (hb hby d6_142) rfl ?_
                    refine Rt.istore (pc' := 145) (v := (f6_4_v143 ps)) (l' := #[.val (.ref a1), .val (.int (4 : Int32)), .val (.ref a3), .val (.int p4), .val (.int p5), .val (.int p6), .val (.ref y2), .val (.int (f6_4_v31 ps)), .val (.int (f6_4_v37 ps)), .val (.int (f6_4_v143 ps)), .val (.ref y12)]) X9 hx (hb hby d6_143) rfl rfl ?_
                    refine Rt.aloadN (pc' := 146) X9 hx (hb hby d6_145) rfl rfl rfl ?_
                    refine Rt.iload (pc' := 148) X9 hx (hb hby d6_146) rfl rfl ?_
                    refine Rt.iload (pc' := 150) X9 hx (hb hby d6_148) rfl rfl ?_
                    refine Rt.callP (pc' := 153) (r := (.int (f5 p6 (f6_4_v37 ps) v0 v1 v2 v3 v4))) X9 hx hZ (y := mt5) hown (own_g hw 18 rfl) (own_g hw 19 rfl) (own_g hw 20 rfl) (own_g hw 21 rfl) (by decide) (rm5 l Z a0 hw [] a3 p6 (f6_4_v37 ps) v0 v1 v2 v3 v4 h0 n0 F_A_a3) (W := 0) (by decide) (by decide) (by decide) (by decide) rfl rfl (argsL := [(.ref a3), (.int p6), (.int (f6_4_v37 ps))]) (rest := []) (by rw [hml]; rfl) (lenOf pd_3 rfl) rfl rfl (Nat.le_of_eq rfl) (hb hby d6_150) rfl ?_
                    intro T13 X13
                    refine Rt.istore (pc' := 155) (v := (f6_4_v153 p6 v0 v1 v2 v3 v4 ps)) (l' := #[.val (.ref a1), .val (.int (4 : Int32)), .val (.ref a3), .val (.int p4), .val (.int p5), .val (.int p6), .val (.ref y2), .val (.int (f6_4_v31 ps)), .val (.int (f6_4_v37 ps)), .val (.int (f6_4_v143 ps)), .val (.int (f6_4_v153 p6 v0 v1 v2 v3 v4 ps))]) X13 hx (hb hby d6_153) rfl rfl ?_
                    refine Rt.iload (pc' := 157) X13 hx (hb hby d6_155) rfl rfl ?_
                    refine Rt.iload (pc' := 159) X13 hx (hb hby d6_157) rfl rfl ?_
                    by_cases hc159_14 : (f6_4_v143 ps) = (f6_4_v153 p6 v0 v1 v2 v3 v4 ps)
                    · refine Rt.icmpY (pc' := 164) X13 hx (hb hby d6_159) (teq hc159_14).1 (by decide) (by decide) ?_
                      refine Rt.iload (pc' := 166) X13 hx (hb hby d6_164) rfl rfl ?_
                      refine Rt.iconst (pc' := 167) (v := (-1 : Int32)) X13 hx (hb hby d6_166) rfl rfl ?_
                      by_cases hc167_15 : (f6_4_v153 p6 v0 v1 v2 v3 v4 ps) = (-1 : Int32)
                      · refine Rt.icmpY (pc' := 196) X13 hx (hb hby d6_167) (teq hc167_15).1 (by decide) (by decide) ?_
                        refine Rt.iconst (pc' := 197) (v := (1 : Int32)) X13 hx (hb hby d6_196) rfl rfl ?_
                        exact Rt.retZ (w := (1 : Int32)) X13 hx hlk hret (by simp) (hb hby d6_197) (by decide) (by decide) (by decide) (fun L N => ⟨congrArg some (congrArg Value.int (by rw [f6_4, if_pos hc3_1, if_neg hc41_3, if_neg hc48_4, if_neg hc54_5, if_pos hc65_6, if_pos hc74_7, if_pos hc85_8, if_neg hc102_10, if_pos hc115_11, if_pos hc159_14, if_pos hc167_15])), N, rfl⟩)
                      · refine Rt.icmpN (pc' := 170) X13 hx (hb hby d6_167) (feq hc167_15).1 rfl ?_
                        refine Rt.iload (pc' := 172) X13 hx (hb hby d6_170) rfl rfl ?_
                        refine Rt.iload (pc' := 174) X13 hx (hb hby d6_172) rfl rfl ?_
                        refine Rt.isub (pc' := 175) (r := ((f6_4_v153 p6 v0 v1 v2 v3 v4 ps) - (f6_4_v31 ps))) X13 hx (hb hby d6_174) rfl rfl ?_
                        refine Rt.iloadN (pc' := 176) X13 hx (hb hby d6_175) rfl rfl ?_
                        by_cases hc176_16 : ((f6_4_v153 p6 v0 v1 v2 v3 v4 ps) - (f6_4_v31 ps)) < p4
                        · refine Rt.icmpN (pc' := 179) X13 hx (hb hby d6_176) (tlt hc176_16).2.1 rfl ?_
                          refine Rt.aloadN (pc' := 180) X13 hx (hb hby d6_179) rfl rfl rfl ?_
                          refine Rt.iload (pc' := 182) X13 hx (hb hby d6_180) rfl rfl ?_
                          refine Rt.iload (pc' := 184) X13 hx (hb hby d6_182) rfl rfl ?_
                          refine Rt.iload (pc' := 186) X13 hx (hb hby d6_184) rfl rfl ?_
                          refine Rt.callP (pc' := 189) (r := (.int (f7 p6 (f6_4_v31 ps) (f6_4_v153 p6 v0 v1 v2 v3 v4 ps) v0 v1 v2 v3 v4))) X13 hx hZ (y := mt7) hown (own_g hw 26 rfl) (own_g hw 27 rfl) (own_g hw 20 rfl) (own_g hw 28 rfl) (by decide) (rm7 l Z a0 hw [] a3 p6 (f6_4_v31 ps) (f6_4_v153 p6 v0 v1 v2 v3 v4 ps) v0 v1 v2 v3 v4 h0 n0 F_A_a3) (W := 0) (by decide) (by decide) (by decide) (by decide) rfl rfl (argsL := [(.ref a3), (.int p6), (.int (f6_4_v31 ps)), (.int (f6_4_v153 p6 v0 v1 v2 v3 v4 ps))]) (rest := []) (by rw [hml]; rfl) (lenOf pd_1 rfl) rfl rfl (Nat.le_of_eq rfl) (hb hby d6_186) rfl ?_
                          intro T17 X17
                          refine Rt.iload (pc' := 191) X17 hx (hb hby d6_189) rfl rfl ?_
                          by_cases hc191_18 : p5 < (f7 p6 (f6_4_v31 ps) (f6_4_v153 p6 v0 v1 v2 v3 v4 ps) v0 v1 v2 v3 v4)
                          · refine Rt.icmpY (pc' := 196) X17 hx (hb hby d6_191) (tlt hc191_18).2.2.1 (by decide) (by decide) ?_
                            refine Rt.iconst (pc' := 197) (v := (1 : Int32)) X17 hx (hb hby d6_196) rfl rfl ?_
                            exact Rt.retZ (w := (1 : Int32)) X17 hx hlk hret (by simp) (hb hby d6_197) (by decide) (by decide) (by decide) (fun L N => ⟨congrArg some (congrArg Value.int (by rw [f6_4, if_pos hc3_1, if_neg hc41_3, if_neg hc48_4, if_neg hc54_5, if_pos hc65_6, if_pos hc74_7, if_pos hc85_8, if_neg hc102_10, if_pos hc115_11, if_pos hc159_14, if_neg hc167_15, if_pos hc176_16, if_pos hc191_18])), N, rfl⟩)
                          · refine Rt.icmpN (pc' := 194) X17 hx (hb hby d6_191) (flt hc191_18).2.2.1 rfl ?_
                            refine Rt.iconst (pc' := 195) (v := (0 : Int32)) X17 hx (hb hby d6_194) rfl rfl ?_
                            exact Rt.retZ (w := (0 : Int32)) X17 hx hlk hret (by simp) (hb hby d6_195) (by decide) (by decide) (by decide) (fun L N => ⟨congrArg some (congrArg Value.int (by rw [f6_4, if_pos hc3_1, if_neg hc41_3, if_neg hc48_4, if_neg hc54_5, if_pos hc65_6, if_pos hc74_7, if_pos hc85_8, if_neg hc102_10, if_pos hc115_11, if_pos hc159_14, if_neg hc167_15, if_pos hc176_16, if_neg hc191_18])), N, rfl⟩)
                        · refine Rt.icmpY (pc' := 196) X13 hx (hb hby d6_176) (flt hc176_16).2.1 (by decide) (by decide) ?_
                          refine Rt.iconst (pc' := 197) (v := (1 : Int32)) X13 hx (hb hby d6_196) rfl rfl ?_
                          exact Rt.retZ (w := (1 : Int32)) X13 hx hlk hret (by simp) (hb hby d6_197) (by decide) (by decide) (by decide) (fun L N => ⟨congrArg some (congrArg Value.int (by rw [f6_4, if_pos hc3_1, if_neg hc41_3, if_neg hc48_4, if_neg hc54_5, if_pos hc65_6, if_pos hc74_7, if_pos hc85_8, if_neg hc102_10, if_pos hc115_11, if_pos hc159_14, if_neg hc167_15, if_neg hc176_16])), N, rfl⟩)
                    · refine Rt.icmpN (pc' := 162) X13 hx (hb hby d6_159) (feq hc159_14).1 rfl ?_
                      refine Rt.iconst (pc' := 163) (v := (0 : Int32)) X13 hx (hb hby d6_162) rfl rfl ?_
                      exact Rt.retZ (w := (0 : Int32)) X13 hx hlk hret (by simp) (hb hby d6_163) (by decide) (by decide) (by decide) (fun L N => ⟨congrArg some (congrArg Value.int (by rw [f6_4, if_pos hc3_1, if_neg hc41_3, if_neg hc48_4, if_neg hc54_5, if_pos hc65_6, if_pos hc74_7, if_pos hc85_8, if_neg hc102_10, if_pos hc115_11, if_neg hc159_14])), N, rfl⟩)
                  · refine Rt.icmpY (pc' := 145) X9 hx (hb hby d6_115) (flt hc115_11).2.1 (by decide) (by decide) ?_
                    refine Rt.aloadN (pc' := 146) X9 hx (hb hby d6_145) rfl rfl rfl ?_
                    refine Rt.iload (pc' := 148) X9 hx (hb hby d6_146) rfl rfl ?_
                    refine Rt.iload (pc' := 150) X9 hx (hb hby d6_148) rfl rfl ?_
                    refine Rt.callP (pc' := 153) (r := (.int (f5 p6 (f6_4_v37 ps) v0 v1 v2 v3 v4))) X9 hx hZ (y := mt5) hown (own_g hw 18 rfl) (own_g hw 19 rfl) (own_g hw 20 rfl) (own_g hw 21 rfl) (by decide) (rm5 l Z a0 hw [] a3 p6 (f6_4_v37 ps) v0 v1 v2 v3 v4 h0 n0 F_A_a3) (W := 0) (by decide) (by decide) (by decide) (by decide) rfl rfl (argsL := [(.ref a3), (.int p6), (.int (f6_4_v37 ps))]) (rest := []) (by rw [hml]; rfl) (lenOf pd_3 rfl) rfl rfl (Nat.le_of_eq rfl) (hb hby d6_150) rfl ?_
                    intro T19 X19
                    refine Rt.istore (pc' := 155) (v := (f6_4_v153 p6 v0 v1 v2 v3 v4 ps)) (l' := #[.val (.ref a1), .val (.int (4 : Int32)), .val (.ref a3), .val (.int p4), .val (.int p5), .val (.int p6), .val (.ref y2), .val (.int (f6_4_v31 ps)), .val (.int (f6_4_v37 ps)), .val (.int (-1 : Int32)), .val (.int (f6_4_v153 p6 v0 v1 v2 v3 v4 ps))]) X19 hx (hb hby d6_153) rfl rfl ?_
                    refine Rt.iload (pc' := 157) X19 hx (hb hby d6_155) rfl rfl ?_
                    refine Rt.iload (pc' := 159) X19 hx (hb hby d6_157) rfl rfl ?_
                    by_cases hc159_20 : (-1 : Int32) = (f6_4_v153 p6 v0 v1 v2 v3 v4 ps)
                    · refine Rt.icmpY (pc' := 164) X19 hx (hb hby d6_159) (teq hc159_20).1 (by decide) (by decide) ?_
                      refine Rt.iload (pc' := 166) X19 hx (hb hby d6_164) rfl rfl ?_
                      refine Rt.iconst (pc' := 167) (v := (-1 : Int32)) X19 hx (hb hby d6_166) rfl rfl ?_
                      by_cases hc167_21 : (f6_4_v153 p6 v0 v1 v2 v3 v4 ps) = (-1 : Int32)
                      · refine Rt.icmpY (pc' := 196) X19 hx (hb hby d6_167) (teq hc167_21).1 (by decide) (by decide) ?_
                        refine Rt.iconst (pc' := 197) (v := (1 : Int32)) X19 hx (hb hby d6_196) rfl rfl ?_
                        exact Rt.retZ (w := (1 : Int32)) X19 hx hlk hret (by simp) (hb hby d6_197) (by decide) (by decide) (by decide) (fun L N => ⟨congrArg some (congrArg Value.int (by rw [f6_4, if_pos hc3_1, if_neg hc41_3, if_neg hc48_4, if_neg hc54_5, if_pos hc65_6, if_pos hc74_7, if_pos hc85_8, if_neg hc102_10, if_neg hc115_11, if_pos hc159_20, if_pos hc167_21])), N, rfl⟩)
                      · refine Rt.icmpN (pc' := 170) X19 hx (hb hby d6_167) (feq hc167_21).1 rfl ?_
                        refine Rt.iload (pc' := 172) X19 hx (hb hby d6_170) rfl rfl ?_
                        refine Rt.iload (pc' := 174) X19 hx (hb hby d6_172) rfl rfl ?_
                        refine Rt.isub (pc' := 175) (r := ((f6_4_v153 p6 v0 v1 v2 v3 v4 ps) - (f6_4_v31 ps))) X19 hx (hb hby d6_174) rfl rfl ?_
                        refine Rt.iloadN (pc' := 176) X19 hx (hb hby d6_175) rfl rfl ?_
                        by_cases hc176_22 : ((f6_4_v153 p6 v0 v1 v2 v3 v4 ps) - (f6_4_v31 ps)) < p4
                        · refine Rt.icmpN (pc' := 179) X19 hx (hb hby d6_176) (tlt hc176_22).2.1 rfl ?_
                          refine Rt.aloadN (pc' := 180) X19 hx (hb hby d6_179) rfl rfl rfl ?_
                          refine Rt.iload (pc' := 182) X19 hx (hb hby d6_180) rfl rfl ?_
                          refine Rt.iload (pc' := 184) X19 hx (hb hby d6_182) rfl rfl ?_
                          refine Rt.iload (pc' := 186) X19 hx (hb hby d6_184) rfl rfl ?_
                          refine Rt.callP (pc' := 189) (r := (.int (f7 p6 (f6_4_v31 ps) (f6_4_v153 p6 v0 v1 v2 v3 v4 ps) v0 v1 v2 v3 v4))) X19 hx hZ (y := mt7) hown (own_g hw 26 rfl) (own_g hw 27 rfl) (own_g hw 20 rfl) (own_g hw 28 rfl) (by decide) (rm7 l Z a0 hw [] a3 p6 (f6_4_v31 ps) (f6_4_v153 p6 v0 v1 v2 v3 v4 ps) v0 v1 v2 v3 v4 h0 n0 F_A_a3) (W := 0) (by decide) (by decide) (by decide) (by decide) rfl rfl (argsL := [(.ref a3), (.int p6), (.int (f6_4_v31 ps)), (.int (f6_4_v153 p6 v0 v1 v2 v3 v4 ps))]) (rest := []) (by rw [hml]; rfl) (lenOf pd_1 rfl) rfl rfl (Nat.le_of_eq rfl) (hb hby d6_186) rfl ?_
                          intro T23 X23
                          refine Rt.iload (pc' := 191) X23 hx (hb hby d6_189) rfl rfl ?_
                          by_cases hc191_24 : p5 < (f7 p6 (f6_4_v31 ps) (f6_4_v153 p6 v0 v1 v2 v3 v4 ps) v0 v1 v2 v3 v4)
                          · refine Rt.icmpY (pc' := 196) X23 hx (hb hby d6_191) (tlt hc191_24).2.2.1 (by decide) (by decide) ?_
                            refine Rt.iconst (pc' := 197) (v := (1 : Int32)) X23 hx (hb hby d6_196) rfl rfl ?_
                            exact Rt.retZ (w := (1 : Int32)) X23 hx hlk hret (by simp) (hb hby d6_197) (by decide) (by decide) (by decide) (fun L N => ⟨congrArg some (congrArg Value.int (by rw [f6_4, if_pos hc3_1, if_neg hc41_3, if_neg hc48_4, if_neg hc54_5, if_pos hc65_6, if_pos hc74_7, if_pos hc85_8, if_neg hc102_10, if_neg hc115_11, if_pos hc159_20, if_neg hc167_21, if_pos hc176_22, if_pos hc191_24])), N, rfl⟩)
                          · refine Rt.icmpN (pc' := 194) X23 hx (hb hby d6_191) (flt hc191_24).2.2.1 rfl ?_
                            refine Rt.iconst (pc' := 195) (v := (0 : Int32)) X23 hx (hb hby d6_194) rfl rfl ?_
                            exact Rt.retZ (w := (0 : Int32)) X23 hx hlk hret (by simp) (hb hby d6_195) (by decide) (by decide) (by decide) (fun L N => ⟨congrArg some (congrArg Value.int (by rw [f6_4, if_pos hc3_1, if_neg hc41_3, if_neg hc48_4, if_neg hc54_5, if_pos hc65_6, if_pos hc74_7, if_pos hc85_8, if_neg hc102_10, if_neg hc115_11, if_pos hc159_20, if_neg hc167_21, if_pos hc176_22, if_neg hc191_24])), N, rfl⟩)
                        · refine Rt.icmpY (pc' := 196) X19 hx (hb hby d6_176) (flt hc176_22).2.1 (by decide) (by decide) ?_
                          refine Rt.iconst (pc' := 197) (v := (1 : Int32)) X19 hx (hb hby d6_196) rfl rfl ?_
                          exact Rt.retZ (w := (1 : Int32)) X19 hx hlk hret (by simp) (hb hby d6_197) (by decide) (by decide) (by decide) (fun L N => ⟨congrArg some (congrArg Value.int (by rw [f6_4, if_pos hc3_1, if_neg hc41_3, if_neg hc48_4, if_neg hc54_5, if_pos hc65_6, if_pos hc74_7, if_pos hc85_8, if_neg hc102_10, if_neg hc115_11, if_pos hc159_20, if_neg hc167_21, if_neg hc176_22])), N, rfl⟩)
                    · refine Rt.icmpN (pc' := 162) X19 hx (hb hby d6_159) (feq hc159_20).1 rfl ?_
                      refine Rt.iconst (pc' := 163) (v := (0 : Int32)) X19 hx (hb hby d6_162) rfl rfl ?_
                      exact Rt.retZ (w := (0 : Int32)) X19 hx hlk hret (by simp) (hb hby d6_163) (by decide) (by decide) (by decide) (fun L N => ⟨congrArg some (congrArg Value.int (by rw [f6_4, if_pos hc3_1, if_neg hc41_3, if_neg hc48_4, if_neg hc54_5, if_pos hc65_6, if_pos hc74_7, if_pos hc85_8, if_neg hc102_10, if_neg hc115_11, if_neg hc159_20])), N, rfl⟩)
              · refine Rt.icmpN (pc' := 88) X0 hx (hb hby d6_85) (flt hc85_8).1 rfl ?_
                refine Rt.iconst (pc' := 89) (v := (0 : Int32)) X0 hx (hb hby d6_88) rfl rfl ?_
                exact Rt.retZ (w := (0 : Int32)) X0 hx hlk hret (by simp) (hb hby d6_89) (by decide) (by decide) (by decide) (fun L N => ⟨congrArg some (congrArg Value.int (by rw [f6_4, if_pos hc3_1, if_neg hc41_3, if_neg hc48_4, if_neg hc54_5, if_pos hc65_6, if_pos hc74_7, if_neg hc85_8])), N, rfl⟩)
            · refine Rt.icmpN (pc' := 77) X0 hx (hb hby d6_74) (flt hc74_7).2.2.1 rfl ?_
              refine Rt.iconst (pc' := 78) (v := (0 : Int32)) X0 hx (hb hby d6_77) rfl rfl ?_
              exact Rt.retZ (w := (0 : Int32)) X0 hx hlk hret (by simp) (hb hby d6_78) (by decide) (by decide) (by decide) (fun L N => ⟨congrArg some (congrArg Value.int (by rw [f6_4, if_pos hc3_1, if_neg hc41_3, if_neg hc48_4, if_neg hc54_5, if_pos hc65_6, if_neg hc74_7])), N, rfl⟩)
          · refine Rt.icmpY (pc' := 77) X0 hx (hb hby d6_65) (flt hc65_6).2.2.2 (by decide) (by decide) ?_
            refine Rt.iconst (pc' := 78) (v := (0 : Int32)) X0 hx (hb hby d6_77) rfl rfl ?_
            exact Rt.retZ (w := (0 : Int32)) X0 hx hlk hret (by simp) (hb hby d6_78) (by decide) (by decide) (by decide) (fun L N => ⟨congrArg some (congrArg Value.int (by rw [f6_4, if_pos hc3_1, if_neg hc41_3, if_neg hc48_4, if_neg hc54_5, if_neg hc65_6])), N, rfl⟩)
  · refine Rt.icmpN (pc' := 6) X0 hx (hb hby d6_3) (flt hc3_1).1 rfl ?_
    refine Rt.iconst (pc' := 7) (v := (1 : Int32)) X0 hx (hb hby d6_6) rfl rfl ?_
    exact Rt.retZ (w := (1 : Int32)) X0 hx hlk hret (by simp) (hb hby d6_7) (by decide) (by decide) (by decide) (fun L N => ⟨congrArg some (congrArg Value.int (by rw [f6_4, if_neg hc3_1])), N, rfl⟩)
theorem own_w {N : Nat} (hb : N ≤ 5) : N.toInt32.toInt = N := by
  have q : N = 0 ∨ N = 1 ∨ N = 2 ∨ N = 3 ∨ N = 4 ∨ N = 5 := by omega
  rcases q with rfl | rfl | rfl | rfl | rfl | rfl <;> decide
theorem own_5 {N : Nat} (hb : N ≤ 5) : ¬ (5 : Int32) < N.toInt32 := by
  have w := own_w hb
  have l5 : (5 : Int32).toInt = 5 := by decide
  rw [Int32.lt_iff_toInt_lt]
  omega
theorem own_l0 {N : Nat} (hb : N ≤ 5) (h : ¬ N.toInt32 = 0) : 0 < N := by
  rcases Nat.eq_zero_or_pos N with rfl | q
  · exact absurd rfl h
  · exact q
theorem pd_4 : parseMethodDescriptor "(II)I" = some ⟨[.int, .int], some .int⟩ := by decide +kernel
theorem pd_5 : parseMethodDescriptor "([IIII)[[I" = some ⟨[(.array .int), .int, .int, .int], some (.array (.array .int))⟩ := by decide +kernel
theorem pd_6 : parseMethodDescriptor "([[II[IIII)Z" = some ⟨[(.array (.array .int)), .int, (.array .int), .int, .int, .int], some .boolean⟩ := by decide +kernel
def f0_w19 (q1 : Int64) : Int32 := (((q1.toUInt64 >>> ((32 : Int32) &&& 0x3f).toInt64.toUInt64).toInt64).toInt32)
def f0_w34 (q2 : Int64) : Int32 := (((q2.toUInt64 >>> ((32 : Int32) &&& 0x3f).toInt64.toUInt64).toInt64).toInt32)
def f0_a47_1 (p5 : Int32) : Int32 := (p5 &&& (2147483647 : Int32))
def f0_v50 (p5 : Int32) : Int32 := (f1 (1 : Int32) (f0_a47_1 p5))
def f0_v57 (p6 : Int32) : Int32 := (p6 &&& (2147483647 : Int32))
def f0_v94 (q1 : Int64) (q2 : Int64) (p3 : Int32) (p4 : Int32) : Int32 := (f5 p4 (-1 : Int32) (q1.toInt32) (f0_w19 q1) (q2.toInt32) (f0_w34 q2) p3)
def f0 (q1 : Int64) (q2 : Int64) (p3 : Int32) (p4 : Int32) (p5 : Int32) (p6 : Int32) : Int32 := (if (((psR0 (f0_v50 p5) (f0_v57 p6) p4 (q1.toInt32) (f0_w19 q1) (q2.toInt32) (f0_w34 q2) p3)).length.toInt32) = (0 : Int32) then (if (f0_v94 q1 q2 p3 p4) = (-1 : Int32) then (1 : Int32) else (0 : Int32)) else (if (((psR0 (f0_v50 p5) (f0_v57 p6) p4 (q1.toInt32) (f0_w19 q1) (q2.toInt32) (f0_w34 q2) p3)).getD 0 ((0 : Int32), (0 : Int32))).1 = (f0_v94 q1 q2 p3 p4) then (if (f6_0 (f0_v50 p5) (f0_v57 p6) p4 (q1.toInt32) (f0_w19 q1) (q2.toInt32) (f0_w34 q2) p3 (psR0 (f0_v50 p5) (f0_v57 p6) p4 (q1.toInt32) (f0_w19 q1) (q2.toInt32) (f0_w34 q2) p3)) = (0 : Int32) then (0 : Int32) else (if (f6_1 (f0_v50 p5) (f0_v57 p6) p4 (q1.toInt32) (f0_w19 q1) (q2.toInt32) (f0_w34 q2) p3 (psR0 (f0_v50 p5) (f0_v57 p6) p4 (q1.toInt32) (f0_w19 q1) (q2.toInt32) (f0_w34 q2) p3)) = (0 : Int32) then (0 : Int32) else (if (f6_2 (f0_v50 p5) (f0_v57 p6) p4 (q1.toInt32) (f0_w19 q1) (q2.toInt32) (f0_w34 q2) p3 (psR0 (f0_v50 p5) (f0_v57 p6) p4 (q1.toInt32) (f0_w19 q1) (q2.toInt32) (f0_w34 q2) p3)) = (0 : Int32) then (0 : Int32) else (if (f6_3 (f0_v50 p5) (f0_v57 p6) p4 (q1.toInt32) (f0_w19 q1) (q2.toInt32) (f0_w34 q2) p3 (psR0 (f0_v50 p5) (f0_v57 p6) p4 (q1.toInt32) (f0_w19 q1) (q2.toInt32) (f0_w34 q2) p3)) = (0 : Int32) then (0 : Int32) else (if (f6_4 (f0_v50 p5) (f0_v57 p6) p4 (q1.toInt32) (f0_w19 q1) (q2.toInt32) (f0_w34 q2) p3 (psR0 (f0_v50 p5) (f0_v57 p6) p4 (q1.toInt32) (f0_w19 q1) (q2.toInt32) (f0_w34 q2) p3)) = (0 : Int32) then (0 : Int32) else (1 : Int32)))))) else (0 : Int32)))
def Q0 (Z : State) (q1 : Int64) (q2 : Int64) (p3 : Int32) (p4 : Int32) (p5 : Int32) (p6 : Int32) (h0 : Heap) (n0 : Nat) (v : Option Value) (h : Heap) (L : List Loc) : Prop := v = some (.int (f0 q1 q2 p3 p4 p5 p6)) ∧ Fr n0 L ∧ Keep h0 h []
theorem ef_0 (m : MethodId) (q1 : Int64) (q2 : Int64) (p3 : Int32) (p4 : Int32) (p5 : Int32) (p6 : Int32) : entryFrame m #[(.long q1), (.long q2), (.int p3), (.int p4), (.int p5), (.int p6)] maxLocals = mkF m 0 #[.val (.long q1), .second, .val (.long q2), .second, .val (.int p3), .val (.int p4), .val (.int p5), .val (.int p6), .unset, .unset, .unset, .unset, .unset] [] := by first | (simp [entryFrame, mkF, argsToLocals, Value.category, maxLocals]; done) | rfl
set_option maxRecDepth 65536 in
set_option maxHeartbeats 40000000 in
theorem rm0 (l : Launch) (Z : State) (a0 : Array Value) (hw : ∀ d ∈ tables_1, d.before a0 Z = true) (ws : List Jvm.Cond) (q1 : Int64) (q2 : Int64) (p3 : Int32) (p4 : Int32) (p5 : Int32) (p6 : Int32) (h0 : Heap) (n0 : Nat) (Z0 : n0 ≤ h0.size) :
    Mt l Z x (Jvm.Cond.code x code maxLocals ret :: ws) room_1 #[(.long q1), (.long q2), (.int p3), (.int p4), (.int p5), (.int p6)] h0 (Q0 Z q1 q2 p3 p4 p5 p6 h0 n0) := by
  refine Mt.of n0 (plainFor_of_name pn_com_example_tightfold_tightfold_FocusCoverRunsPinLaw) ?_
  intro p e s m below meth c T0 X0 hx hZ hby hml hown hret hlk hnm hs0
  have hml : c.maxLocals = 13 := hml
  have hret : meth.sig.returnType = some .boolean := hret
  have hown : s.vm.findClass "com/example/tightfold/tightfold/FocusCoverRunsPinLaw" = some m.cls := hown
  rw [ef_0]
  show Rt p e below s room_1.cells room_1.slots (Q0 Z q1 q2 p3 p4 p5 p6 h0 n0) (T0.setTop (mkF m 0 #[.val (.long q1), .second, .val (.long q2), .second, .val (.int p3), .val (.int p4), .val (.int p5), .val (.int p6), .unset, .unset, .unset, .unset, .unset] []))
  refine Rt.iconst (pc' := 1) (v := (5 : Int32)) X0 hx (hb hby at_0) rfl rfl ?_
  refine Rt.newP (pc' := 3) X0 hx hZ (ty := .int) rfl (own_g hw 0 rfl) (z := (5 : Int32)) (i := 5) (by decide) (by decide) (cap := 5) (by decide) (by decide) (hb hby at_1) (by decide) (by decide) rfl ?_
  intro T1 h1 b1 ha1 X1 E1 A1
  have g2 : n0 ≤ b1 := by rw [ha1]; exact Z0
  have s3 : h0.size ≤ b1 := by rw [ha1]; exact (Keep.refl h0 []).1
  have K4 := (Keep.refl h0 []).ext E1
  have Z5 := Nat.le_trans Z0 E1.1
  have A1 : IA Z h1 b1 .int [(.int (0 : Int32)), (.int (0 : Int32)), (.int (0 : Int32)), (.int (0 : Int32)), (.int (0 : Int32))] := A1
  refine Rt.astore (pc' := 5) (v := (.ref b1)) (l' := #[.val (.long q1), .second, .val (.long q2), .second, .val (.int p3), .val (.int p4), .val (.int p5), .val (.int p6), .val (.ref b1), .unset, .unset, .unset, .unset]) X1 hx (hb hby at_3) rfl rfl rfl ?_
  refine Rt.aload (pc' := 7) X1 hx (hb hby at_5) rfl rfl rfl ?_
  refine Rt.iconst (pc' := 8) (v := (0 : Int32)) X1 hx (hb hby at_7) rfl rfl ?_
  refine Rt.lloadN (pc' := 9) X1 hx (hb hby at_8) rfl rfl ?_
  refine Rt.l2i (pc' := 10) (r := (q1.toInt32)) X1 hx (hb hby at_9) rfl rfl ?_
  refine Rt.iastore (pc' := 11) X1 hx hZ A1 (i := 0) (by decide) (by decide) (Nat.le_of_ble_eq_true rfl) (w := (.int (q1.toInt32))) rfl g2 (hb hby at_10) rfl ?_
  intro T6 h6 X6 W6 F6
  have F6 : IA Z h6 b1 .int [(.int (q1.toInt32)), (.int (0 : Int32)), (.int (0 : Int32)), (.int (0 : Int32)), (.int (0 : Int32))] := F6
  have K7 := K4.wr W6 (Or.inr s3)
  have Z8 := Nat.le_trans Z5 (Keep.of_wr W6).1
  refine Rt.aload (pc' := 13) X6 hx (hb hby at_11) rfl rfl rfl ?_
  refine Rt.iconst (pc' := 14) (v := (1 : Int32)) X6 hx (hb hby at_13) rfl rfl ?_
  refine Rt.lloadN (pc' := 15) X6 hx (hb hby at_14) rfl rfl ?_
  refine Rt.bipush (pc' := 17) (v := (32 : Int32)) X6 hx (hb hby at_15) rfl rfl ?_
  refine Rt.lushr (pc' := 18) (r := ((q1.toUInt64 >>> ((32 : Int32) &&& 0x3f).toInt64.toUInt64).toInt64)) X6 hx (hb hby at_17) rfl rfl ?_
  refine Rt.l2i (pc' := 19) (r := (((q1.toUInt64 >>> ((32 : Int32) &&& 0x3f).toInt64.toUInt64).toInt64).toInt32)) X6 hx (hb hby at_18) rfl rfl ?_
  refine Rt.iastore (pc' := 20) X6 hx hZ F6 (i := 1) (by decide) (by decide) (Nat.le_of_ble_eq_true rfl) (w := (.int (f0_w19 q1))) rfl g2 (hb hby at_19) rfl ?_
  intro T9 h9 X9 W9 F9
  have F9 : IA Z h9 b1 .int [(.int (q1.toInt32)), (.int (f0_w19 q1)), (.int (0 : Int32)), (.int (0 : Int32)), (.int (0 : Int32))] := F9
  have K10 := K7.wr W9 (Or.inr s3)
  have Z11 := Nat.le_trans Z8 (Keep.of_wr W9).1
  refine Rt.aload (pc' := 22) X9 hx (hb hby at_20) rfl rfl rfl ?_
  refine Rt.iconst (pc' := 23) (v := (2 : Int32)) X9 hx (hb hby at_22) rfl rfl ?_
  refine Rt.lloadN (pc' := 24) X9 hx (hb hby at_23) rfl rfl ?_
  refine Rt.l2i (pc' := 25) (r := (q2.toInt32)) X9 hx (hb hby at_24) rfl rfl ?_
  refine Rt.iastore (pc' := 26) X9 hx hZ F9 (i := 2) (by decide) (by decide) (Nat.le_of_ble_eq_true rfl) (w := (.int (q2.toInt32))) rfl g2 (hb hby at_25) rfl ?_
  intro T12 h12 X12 W12 F12
  have F12 : IA Z h12 b1 .int [(.int (q1.toInt32)), (.int (f0_w19 q1)), (.int (q2.toInt32)), (.int (0 : Int32)), (.int (0 : Int32))] := F12
  have K13 := K10.wr W12 (Or.inr s3)
  have Z14 := Nat.le_trans Z11 (Keep.of_wr W12).1
  refine Rt.aload (pc' := 28) X12 hx (hb hby at_26) rfl rfl rfl ?_
  refine Rt.iconst (pc' := 29) (v := (3 : Int32)) X12 hx (hb hby at_28) rfl rfl ?_
  refine Rt.lloadN (pc' := 30) X12 hx (hb hby at_29) rfl rfl ?_
  refine Rt.bipush (pc' := 32) (v := (32 : Int32)) X12 hx (hb hby at_30) rfl rfl ?_
  refine Rt.lushr (pc' := 33) (r := ((q2.toUInt64 >>> ((32 : Int32) &&& 0x3f).toInt64.toUInt64).toInt64)) X12 hx (hb hby at_32) rfl rfl ?_
  refine Rt.l2i (pc' := 34) (r := (((q2.toUInt64 >>> ((32 : Int32) &&& 0x3f).toInt64.toUInt64).toInt64).toInt32)) X12 hx (hb hby at_33) rfl rfl ?_
  refine Rt.iastore (pc' := 35) X12 hx hZ F12 (i := 3) (by decide) (by decide) (Nat.le_of_ble_eq_true rfl) (w := (.int (f0_w34 q2))) rfl g2 (hb hby at_34) rfl ?_
  intro T15 h15 X15 W15 F15
  have F15 : IA Z h15 b1 .int [(.int (q1.toInt32)), (.int (f0_w19 q1)), (.int (q2.toInt32)), (.int (f0_w34 q2)), (.int (0 : Int32))] := F15
  have K16 := K13.wr W15 (Or.inr s3)
  have Z17 := Nat.le_trans Z14 (Keep.of_wr W15).1
  refine Rt.aload (pc' := 37) X15 hx (hb hby at_35) rfl rfl rfl ?_
  refine Rt.iconst (pc' := 38) (v := (4 : Int32)) X15 hx (hb hby at_37) rfl rfl ?_
  refine Rt.iload (pc' := 40) X15 hx (hb hby at_38) rfl rfl ?_
  refine Rt.iastore (pc' := 41) X15 hx hZ F15 (i := 4) (by decide) (by decide) (Nat.le_of_ble_eq_true rfl) (w := (.int p3)) rfl g2 (hb hby at_40) rfl ?_
  intro T18 h18 X18 W18 F18
  have F18 : IA Z h18 b1 .int [(.int (q1.toInt32)), (.int (f0_w19 q1)), (.int (q2.toInt32)), (.int (f0_w34 q2)), (.int p3)] := F18
  have K19 := K16.wr W18 (Or.inr s3)
  have Z20 := Nat.le_trans Z17 (Keep.of_wr W18).1
  refine Rt.iconst (pc' := 42) (v := (1 : Int32)) X18 hx (hb hby at_41) rfl rfl ?_
  refine Rt.iload (pc' := 44) X18 hx (hb hby at_42) rfl rfl ?_
  refine Rt.ldcInt (pc' := 46) X18 hx hZ hown (own_g hw 1 rfl) (hb hby at_44) rfl ?_
  refine Rt.iand (pc' := 47) (r := (p5 &&& (2147483647 : Int32))) X18 hx (hb hby at_46) rfl rfl ?_
  refine Rt.callP (pc' := 50) (r := (.int (f1 (1 : Int32) (f0_a47_1 p5)))) X18 hx hZ (y := mt1) hown (own_g hw 2 rfl) (own_g hw 3 rfl) (own_g hw 4 rfl) (own_g hw 5 rfl) (by decide) (rm1 l Z a0 hw [] (1 : Int32) (f0_a47_1 p5) h18 n0) (W := 0) (by decide) (by decide) (by decide) (by decide) rfl rfl (argsL := [(.int (1 : Int32)), (.int (f0_a47_1 p5))]) (rest := []) (by rw [hml]; rfl) (lenOf pd_4 rfl) rfl rfl (Nat.le_of_eq rfl) (hb hby at_47) rfl ?_
  intro T21 X21
  refine Rt.istore (pc' := 52) (v := (f0_v50 p5)) (l' := #[.val (.long q1), .second, .val (.long q2), .second, .val (.int p3), .val (.int p4), .val (.int p5), .val (.int p6), .val (.ref b1), .val (.int (f0_v50 p5)), .unset, .unset, .unset]) X21 hx (hb hby at_50) rfl rfl ?_
  refine Rt.iload (pc' := 54) X21 hx (hb hby at_52) rfl rfl ?_
  refine Rt.ldcInt (pc' := 56) X21 hx hZ hown (own_g hw 1 rfl) (hb hby at_54) rfl ?_
  refine Rt.iand (pc' := 57) (r := (p6 &&& (2147483647 : Int32))) X21 hx (hb hby at_56) rfl rfl ?_
  refine Rt.istore (pc' := 59) (v := (f0_v57 p6)) (l' := #[.val (.long q1), .second, .val (.long q2), .second, .val (.int p3), .val (.int p4), .val (.int p5), .val (.int p6), .val (.ref b1), .val (.int (f0_v50 p5)), .val (.int (f0_v57 p6)), .unset, .unset]) X21 hx (hb hby at_57) rfl rfl ?_
  refine Rt.aload (pc' := 61) X21 hx (hb hby at_59) rfl rfl rfl ?_
  refine Rt.iload (pc' := 63) X21 hx (hb hby at_61) rfl rfl ?_
  refine Rt.iload (pc' := 65) X21 hx (hb hby at_63) rfl rfl ?_
  refine Rt.iload (pc' := 67) X21 hx (hb hby at_65) rfl rfl ?_
  refine Rt.callS (pc' := 70) X21 hx hZ (y := mt4) hown (own_g hw 6 rfl) (own_g hw 7 rfl) (own_g hw 8 rfl) (own_g hw 9 rfl) (by decide) (rm2 l Z a0 hw [] b1 (f0_v50 p5) (f0_v57 p6) p4 (q1.toInt32) (f0_w19 q1) (q2.toInt32) (f0_w34 q2) p3 h18 n0 Z20 F18) (fun _ _ _ q => (by obtain ⟨_, _, _, q, _⟩ := q; exact q)) (W := 0) (by decide) (by decide) (by decide) (by decide) (argsL := [(.ref b1), (.int (f0_v50 p5)), (.int (f0_v57 p6)), (.int p4)]) (rest := []) (by rw [hml]; rfl) (lenOf pd_5 rfl) rfl rfl (Nat.le_of_eq rfl) (hb hby at_67) rfl ?_
  rintro _ T22 h22 L22 X22 ⟨b67nw, sb67nw, rfl, N22, K22, F23⟩
  have g24 : n0 ≤ b67nw := Nat.le_trans Z20 sb67nw
  have s25 : h0.size ≤ b67nw := Nat.le_trans K19.1 sb67nw
  have ne26 := Nat.ne_of_lt (Nat.lt_of_lt_of_le F18.lt sb67nw)
  have F27 := F18.keep K22 nin0
  have K28 := K19.trans K22 all0
  have Z29 := Nat.le_trans Z20 K22.1
  show Rt _ _ _ _ _ _ _ (T22.setTop (mkF m 70 #[.val (.long q1), .second, .val (.long q2), .second, .val (.int p3), .val (.int p4), .val (.int p5), .val (.int p6), .val (.ref b1), .val (.int (f0_v50 p5)), .val (.int (f0_v57 p6)), .unset, .unset] [(.ref b67nw)]))
  refine Rt.astore (pc' := 72) (v := (.ref b67nw)) (l' := #[.val (.long q1), .second, .val (.long q2), .second, .val (.int p3), .val (.int p4), .val (.int p5), .val (.int p6), .val (.ref b1), .val (.int (f0_v50 p5)), .val (.int (f0_v57 p6)), .val (.ref b67nw), .unset]) X22 hx (hb hby at_70) rfl rfl rfl ?_
  refine Rt.aload (pc' := 74) X22 hx (hb hby at_72) rfl rfl rfl ?_
  refine Rt.ifnullN (pc' := 77) X22 hx (hb hby at_74) rfl ?_
  refine Rt.aload (pc' := 79) X22 hx (hb hby at_77) rfl rfl rfl ?_
  refine Rt.arraylengthP (pc' := 80) X22 hx hZ F23 (v := (((psR0 (f0_v50 p5) (f0_v57 p6) p4 (q1.toInt32) (f0_w19 q1) (q2.toInt32) (f0_w34 q2) p3)).length.toInt32)) rfl (hb hby at_79) rfl ?_
  refine Rt.iconst (pc' := 81) (v := (5 : Int32)) X22 hx (hb hby at_80) rfl rfl ?_
  refine Rt.icmpY (pc' := 86) X22 hx (hb hby at_81) (flt (own_5 (own_GL0 _ _ _ _ _ _ _ _).2)).2.2.2 (by decide) (by decide) ?_
  refine Rt.aload (pc' := 88) X22 hx (hb hby at_86) rfl rfl rfl ?_
  refine Rt.iload (pc' := 90) X22 hx (hb hby at_88) rfl rfl ?_
  refine Rt.iconst (pc' := 91) (v := (-1 : Int32)) X22 hx (hb hby at_90) rfl rfl ?_
  refine Rt.callP (pc' := 94) (r := (.int (f5 p4 (-1 : Int32) (q1.toInt32) (f0_w19 q1) (q2.toInt32) (f0_w34 q2) p3))) X22 hx hZ (y := mt5) hown (own_g hw 18 rfl) (own_g hw 19 rfl) (own_g hw 20 rfl) (own_g hw 21 rfl) (by decide) (rm5 l Z a0 hw [] b1 p4 (-1 : Int32) (q1.toInt32) (f0_w19 q1) (q2.toInt32) (f0_w34 q2) p3 h22 n0 F27) (W := 0) (by decide) (by decide) (by decide) (by decide) rfl rfl (argsL := [(.ref b1), (.int p4), (.int (-1 : Int32))]) (rest := []) (by rw [hml]; rfl) (lenOf pd_3 rfl) rfl rfl (Nat.le_of_eq rfl) (hb hby at_91) rfl ?_
  intro T30 X30
  refine Rt.istore (pc' := 96) (v := (f0_v94 q1 q2 p3 p4)) (l' := #[.val (.long q1), .second, .val (.long q2), .second, .val (.int p3), .val (.int p4), .val (.int p5), .val (.int p6), .val (.ref b1), .val (.int (f0_v50 p5)), .val (.int (f0_v57 p6)), .val (.ref b67nw), .val (.int (f0_v94 q1 q2 p3 p4))]) X30 hx (hb hby at_94) rfl rfl ?_
  refine Rt.aload (pc' := 98) X30 hx (hb hby at_96) rfl rfl rfl ?_
  refine Rt.arraylengthP (pc' := 99) X30 hx hZ F23 (v := (((psR0 (f0_v50 p5) (f0_v57 p6) p4 (q1.toInt32) (f0_w19 q1) (q2.toInt32) (f0_w34 q2) p3)).length.toInt32)) rfl (hb hby at_98) rfl ?_
  by_cases hc99_31 : (((psR0 (f0_v50 p5) (f0_v57 p6) p4 (q1.toInt32) (f0_w19 q1) (q2.toInt32) (f0_w34 q2) p3)).length.toInt32) = (0 : Int32)
  · refine Rt.ifN (pc' := 102) X30 hx (hb hby at_99) ((if0 _ _).trans (teq hc99_31).2) rfl ?_
    refine Rt.iload (pc' := 104) X30 hx (hb hby at_102) rfl rfl ?_
    refine Rt.iconst (pc' := 105) (v := (-1 : Int32)) X30 hx (hb hby at_104) rfl rfl ?_
    by_cases hc105_32 : (f0_v94 q1 q2 p3 p4) = (-1 : Int32)
    · refine Rt.icmpN (pc' := 108) X30 hx (hb hby at_105) (teq hc105_32).2 rfl ?_
      refine Rt.iconst (pc' := 109) (v := (1 : Int32)) X30 hx (hb hby at_108) rfl rfl ?_
      refine Rt.goto (pc' := 113) X30 hx (hb hby at_109) (by decide) (by decide) ?_
      exact Rt.retZ (w := (1 : Int32)) X30 hx hlk hret (by simp) (hb hby at_113) (by decide) (by decide) (by decide) (fun L N => ⟨congrArg some (congrArg Value.int (by rw [f0, if_pos hc99_31, if_pos hc105_32])), N, K28⟩)
    · refine Rt.icmpY (pc' := 112) X30 hx (hb hby at_105) (feq hc105_32).2 (by decide) (by decide) ?_
      refine Rt.iconst (pc' := 113) (v := (0 : Int32)) X30 hx (hb hby at_112) rfl rfl ?_
      exact Rt.retZ (w := (0 : Int32)) X30 hx hlk hret (by simp) (hb hby at_113) (by decide) (by decide) (by decide) (fun L N => ⟨congrArg some (congrArg Value.int (by rw [f0, if_pos hc99_31, if_neg hc105_32])), N, K28⟩)
  · refine Rt.ifY (pc' := 114) X30 hx (hb hby at_99) ((if0 _ _).trans (feq hc99_31).2) (by decide) (by decide) ?_
    refine Rt.aload (pc' := 116) X30 hx (hb hby at_114) rfl rfl rfl ?_
    refine Rt.iconst (pc' := 117) (v := (0 : Int32)) X30 hx (hb hby at_116) rfl rfl ?_
    refine Rt.aaloadP (pc' := 118) X30 hx hZ F23 (t := 0) (by decide) (by decide) (own_pt (own_l0 (own_GL0 _ _ _ _ _ _ _ _).2 hc99_31)) (hb hby at_117) rfl ?_
    intro y33 Fy33
    refine Rt.ifnullN (pc' := 121) X30 hx (hb hby at_118) rfl ?_
    refine Rt.aload (pc' := 123) X30 hx (hb hby at_121) rfl rfl rfl ?_
    refine Rt.iconst (pc' := 124) (v := (0 : Int32)) X30 hx (hb hby at_123) rfl rfl ?_
    refine Rt.aaloadP (pc' := 125) X30 hx hZ F23 (t := 0) (by decide) (by decide) (own_pt (own_l0 (own_GL0 _ _ _ _ _ _ _ _).2 hc99_31)) (hb hby at_124) rfl ?_
    intro y34 Fy34
    refine Rt.arraylength (pc' := 126) X30 hx hZ Fy34 (v := (2 : Int32)) rfl (hb hby at_125) rfl ?_
    refine Rt.iconst (pc' := 127) (v := (1 : Int32)) X30 hx (hb hby at_126) rfl rfl ?_
    refine Rt.icmpN (pc' := 130) X30 hx (hb hby at_127) (flt (by decide : ¬ ((2 : Int32) < (1 : Int32)))).1 rfl ?_
    refine Rt.aload (pc' := 132) X30 hx (hb hby at_130) rfl rfl rfl ?_
    refine Rt.iconst (pc' := 133) (v := (0 : Int32)) X30 hx (hb hby at_132) rfl rfl ?_
    refine Rt.aaloadP (pc' := 134) X30 hx hZ F23 (t := 0) (by decide) (by decide) (own_pt (own_l0 (own_GL0 _ _ _ _ _ _ _ _).2 hc99_31)) (hb hby at_133) rfl ?_
    intro y35 Fy35
    refine Rt.iconst (pc' := 135) (v := (0 : Int32)) X30 hx (hb hby at_134) rfl rfl ?_
    refine Rt.iaload (pc' := 136) X30 hx hZ Fy35 (i := 0) (by decide) (by decide) (v := (.int (((psR0 (f0_v50 p5) (f0_v57 p6) p4 (q1.toInt32) (f0_w19 q1) (q2.toInt32) (f0_w34 q2) p3)).getD 0 ((0 : Int32), (0 : Int32))).1)) rfl (hb hby at_135) rfl ?_
    refine Rt.iload (pc' := 138) X30 hx (hb hby at_136) rfl rfl ?_
    by_cases hc138_36 : (((psR0 (f0_v50 p5) (f0_v57 p6) p4 (q1.toInt32) (f0_w19 q1) (q2.toInt32) (f0_w34 q2) p3)).getD 0 ((0 : Int32), (0 : Int32))).1 = (f0_v94 q1 q2 p3 p4)
    · refine Rt.icmpY (pc' := 143) X30 hx (hb hby at_138) (teq hc138_36).1 (by decide) (by decide) ?_
      refine Rt.aload (pc' := 145) X30 hx (hb hby at_143) rfl rfl rfl ?_
      refine Rt.iconst (pc' := 146) (v := (0 : Int32)) X30 hx (hb hby at_145) rfl rfl ?_
      refine Rt.aload (pc' := 148) X30 hx (hb hby at_146) rfl rfl rfl ?_
      refine Rt.iload (pc' := 150) X30 hx (hb hby at_148) rfl rfl ?_
      refine Rt.iload (pc' := 152) X30 hx (hb hby at_150) rfl rfl ?_
      refine Rt.iload (pc' := 154) X30 hx (hb hby at_152) rfl rfl ?_
      refine Rt.callP (pc' := 157) (r := (.int (f6_0 (f0_v50 p5) (f0_v57 p6) p4 (q1.toInt32) (f0_w19 q1) (q2.toInt32) (f0_w34 q2) p3 (psR0 (f0_v50 p5) (f0_v57 p6) p4 (q1.toInt32) (f0_w19 q1) (q2.toInt32) (f0_w34 q2) p3)))) X30 hx hZ (y := mt8) hown (own_g hw 23 rfl) (own_g hw 24 rfl) (own_g hw 20 rfl) (own_g hw 25 rfl) (by decide) (rm6_0 l Z a0 hw [] b67nw b1 (f0_v50 p5) (f0_v57 p6) p4 (q1.toInt32) (f0_w19 q1) (q2.toInt32) (f0_w34 q2) p3 (psR0 (f0_v50 p5) (f0_v57 p6) p4 (q1.toInt32) (f0_w19 q1) (q2.toInt32) (f0_w34 q2) p3) h22 n0 F23 F27 (own_GL0 _ _ _ _ _ _ _ _).2) (W := 0) (by decide) (by decide) (by decide) (by decide) rfl rfl (argsL := [(.ref b67nw), (.int (0 : Int32)), (.ref b1), (.int (f0_v50 p5)), (.int (f0_v57 p6)), (.int p4)]) (rest := []) (by rw [hml]; rfl) (lenOf pd_6 rfl) rfl rfl (Nat.le_of_eq rfl) (hb hby at_154) rfl ?_
      intro T37 X37
      by_cases hc157_38 : (f6_0 (f0_v50 p5) (f0_v57 p6) p4 (q1.toInt32) (f0_w19 q1) (q2.toInt32) (f0_w34 q2) p3 (psR0 (f0_v50 p5) (f0_v57 p6) p4 (q1.toInt32) (f0_w19 q1) (q2.toInt32) (f0_w34 q2) p3)) = (0 : Int32)
      · refine Rt.ifY (pc' := 232) X37 hx (hb hby at_157) ((if0 _ _).trans (teq hc157_38).1) (by decide) (by decide) ?_
        refine Rt.iconst (pc' := 233) (v := (0 : Int32)) X37 hx (hb hby at_232) rfl rfl ?_
        exact Rt.retZ (w := (0 : Int32)) X37 hx hlk hret (by simp) (hb hby at_233) (by decide) (by decide) (by decide) (fun L N => ⟨congrArg some (congrArg Value.int (by rw [f0, if_neg hc99_31, if_pos hc138_36, if_pos hc157_38])), N, K28⟩)
      · refine Rt.ifN (pc' := 160) X37 hx (hb hby at_157) ((if0 _ _).trans (feq hc157_38).1) rfl ?_
        refine Rt.aload (pc' := 162) X37 hx (hb hby at_160) rfl rfl rfl ?_
        refine Rt.iconst (pc' := 163) (v := (1 : Int32)) X37 hx (hb hby at_162) rfl rfl ?_
        refine Rt.aload (pc' := 165) X37 hx (hb hby at_163) rfl rfl rfl ?_
        refine Rt.iload (pc' := 167) X37 hx (hb hby at_165) rfl rfl ?_
        refine Rt.iload (pc' := 169) X37 hx (hb hby at_167) rfl rfl ?_
        refine Rt.iload (pc' := 171) X37 hx (hb hby at_169) rfl rfl ?_
        refine Rt.callP (pc' := 174) (r := (.int (f6_1 (f0_v50 p5) (f0_v57 p6) p4 (q1.toInt32) (f0_w19 q1) (q2.toInt32) (f0_w34 q2) p3 (psR0 (f0_v50 p5) (f0_v57 p6) p4 (q1.toInt32) (f0_w19 q1) (q2.toInt32) (f0_w34 q2) p3)))) X37 hx hZ (y := mt8) hown (own_g hw 23 rfl) (own_g hw 24 rfl) (own_g hw 20 rfl) (own_g hw 25 rfl) (by decide) (rm6_1 l Z a0 hw [] b67nw b1 (f0_v50 p5) (f0_v57 p6) p4 (q1.toInt32) (f0_w19 q1) (q2.toInt32) (f0_w34 q2) p3 (psR0 (f0_v50 p5) (f0_v57 p6) p4 (q1.toInt32) (f0_w19 q1) (q2.toInt32) (f0_w34 q2) p3) h22 n0 F23 F27 (own_GL0 _ _ _ _ _ _ _ _).2) (W := 0) (by decide) (by decide) (by decide) (by decide) rfl rfl (argsL := [(.ref b67nw), (.int (1 : Int32)), (.ref b1), (.int (f0_v50 p5)), (.int (f0_v57 p6)), (.int p4)]) (rest := []) (by rw [hml]; rfl) (lenOf pd_6 rfl) rfl rfl (Nat.le_of_eq rfl) (hb hby at_171) rfl ?_
        intro T39 X39
        by_cases hc174_40 : (f6_1 (f0_v50 p5) (f0_v57 p6) p4 (q1.toInt32) (f0_w19 q1) (q2.toInt32) (f0_w34 q2) p3 (psR0 (f0_v50 p5) (f0_v57 p6) p4 (q1.toInt32) (f0_w19 q1) (q2.toInt32) (f0_w34 q2) p3)) = (0 : Int32)
        · refine Rt.ifY (pc' := 232) X39 hx (hb hby at_174) ((if0 _ _).trans (teq hc174_40).1) (by decide) (by decide) ?_
          refine Rt.iconst (pc' := 233) (v := (0 : Int32)) X39 hx (hb hby at_232) rfl rfl ?_
          exact Rt.retZ (w := (0 : Int32)) X39 hx hlk hret (by simp) (hb hby at_233) (by decide) (by decide) (by decide) (fun L N => ⟨congrArg some (congrArg Value.int (by rw [f0, if_neg hc99_31, if_pos hc138_36, if_neg hc157_38, if_pos hc174_40])), N, K28⟩)
        · refine Rt.ifN (pc' := 177) X39 hx (hb hby at_174) ((if0 _ _).trans (feq hc174_40).1) rfl ?_
          refine Rt.aload (pc' := 179) X39 hx (hb hby at_177) rfl rfl rfl ?_
          refine Rt.iconst (pc' := 180) (v := (2 : Int32)) X39 hx (hb hby at_179) rfl rfl ?_
          refine Rt.aload (pc' := 182) X39 hx (hb hby at_180) rfl rfl rfl ?_
          refine Rt.iload (pc' := 184) X39 hx (hb hby at_182) rfl rfl ?_
          refine Rt.iload (pc' := 186) X39 hx (hb hby at_184) rfl rfl ?_
          refine Rt.iload (pc' := 188) X39 hx (hb hby at_186) rfl rfl ?_
          refine Rt.callP (pc' := 191) (r := (.int (f6_2 (f0_v50 p5) (f0_v57 p6) p4 (q1.toInt32) (f0_w19 q1) (q2.toInt32) (f0_w34 q2) p3 (psR0 (f0_v50 p5) (f0_v57 p6) p4 (q1.toInt32) (f0_w19 q1) (q2.toInt32) (f0_w34 q2) p3)))) X39 hx hZ (y := mt8) hown (own_g hw 23 rfl) (own_g hw 24 rfl) (own_g hw 20 rfl) (own_g hw 25 rfl) (by decide) (rm6_2 l Z a0 hw [] b67nw b1 (f0_v50 p5) (f0_v57 p6) p4 (q1.toInt32) (f0_w19 q1) (q2.toInt32) (f0_w34 q2) p3 (psR0 (f0_v50 p5) (f0_v57 p6) p4 (q1.toInt32) (f0_w19 q1) (q2.toInt32) (f0_w34 q2) p3) h22 n0 F23 F27 (own_GL0 _ _ _ _ _ _ _ _).2) (W := 0) (by decide) (by decide) (by decide) (by decide) rfl rfl (argsL := [(.ref b67nw), (.int (2 : Int32)), (.ref b1), (.int (f0_v50 p5)), (.int (f0_v57 p6)), (.int p4)]) (rest := []) (by rw [hml]; rfl) (lenOf pd_6 rfl) rfl rfl (Nat.le_of_eq rfl) (hb hby at_188) rfl ?_
          intro T41 X41
          by_cases hc191_42 : (f6_2 (f0_v50 p5) (f0_v57 p6) p4 (q1.toInt32) (f0_w19 q1) (q2.toInt32) (f0_w34 q2) p3 (psR0 (f0_v50 p5) (f0_v57 p6) p4 (q1.toInt32) (f0_w19 q1) (q2.toInt32) (f0_w34 q2) p3)) = (0 : Int32)
          · refine Rt.ifY (pc' := 232) X41 hx (hb hby at_191) ((if0 _ _).trans (teq hc191_42).1) (by decide) (by decide) ?_
            refine Rt.iconst (pc' := 233) (v := (0 : Int32)) X41 hx (hb hby at_232) rfl rfl ?_
            exact Rt.retZ (w := (0 : Int32)) X41 hx hlk hret (by simp) (hb hby at_233) (by decide) (by decide) (by decide) (fun L N => ⟨congrArg some (congrArg Value.int (by rw [f0, if_neg hc99_31, if_pos hc138_36, if_neg hc157_38, if_neg hc174_40, if_pos hc191_42])), N, K28⟩)
          · refine Rt.ifN (pc' := 194) X41 hx (hb hby at_191) ((if0 _ _).trans (feq hc191_42).1) rfl ?_
            refine Rt.aload (pc' := 196) X41 hx (hb hby at_194) rfl rfl rfl ?_
            refine Rt.iconst (pc' := 197) (v := (3 : Int32)) X41 hx (hb hby at_196) rfl rfl ?_
            refine Rt.aload (pc' := 199) X41 hx (hb hby at_197) rfl rfl rfl ?_
            refine Rt.iload (pc' := 201) X41 hx (hb hby at_199) rfl rfl ?_
            refine Rt.iload (pc' := 203) X41 hx (hb hby at_201) rfl rfl ?_
            refine Rt.iload (pc' := 205) X41 hx (hb hby at_203) rfl rfl ?_
            refine Rt.callP (pc' := 208) (r := (.int (f6_3 (f0_v50 p5) (f0_v57 p6) p4 (q1.toInt32) (f0_w19 q1) (q2.toInt32) (f0_w34 q2) p3 (psR0 (f0_v50 p5) (f0_v57 p6) p4 (q1.toInt32) (f0_w19 q1) (q2.toInt32) (f0_w34 q2) p3)))) X41 hx hZ (y := mt8) hown (own_g hw 23 rfl) (own_g hw 24 rfl) (own_g hw 20 rfl) (own_g hw 25 rfl) (by decide) (rm6_3 l Z a0 hw [] b67nw b1 (f0_v50 p5) (f0_v57 p6) p4 (q1.toInt32) (f0_w19 q1) (q2.toInt32) (f0_w34 q2) p3 (psR0 (f0_v50 p5) (f0_v57 p6) p4 (q1.toInt32) (f0_w19 q1) (q2.toInt32) (f0_w34 q2) p3) h22 n0 F23 F27 (own_GL0 _ _ _ _ _ _ _ _).2) (W := 0) (by decide) (by decide) (by decide) (by decide) rfl rfl (argsL := [(.ref b67nw), (.int (3 : Int32)), (.ref b1), (.int (f0_v50 p5)), (.int (f0_v57 p6)), (.int p4)]) (rest := []) (by rw [hml]; rfl) (lenOf pd_6 rfl) rfl rfl (Nat.le_of_eq rfl) (hb hby at_205) rfl ?_
            intro T43 X43
            by_cases hc208_44 : (f6_3 (f0_v50 p5) (f0_v57 p6) p4 (q1.toInt32) (f0_w19 q1) (q2.toInt32) (f0_w34 q2) p3 (psR0 (f0_v50 p5) (f0_v57 p6) p4 (q1.toInt32) (f0_w19 q1) (q2.toInt32) (f0_w34 q2) p3)) = (0 : Int32)
            · refine Rt.ifY (pc' := 232) X43 hx (hb hby at_208) ((if0 _ _).trans (teq hc208_44).1) (by decide) (by decide) ?_
              refine Rt.iconst (pc' := 233) (v := (0 : Int32)) X43 hx (hb hby at_232) rfl rfl ?_
              exact Rt.retZ (w := (0 : Int32)) X43 hx hlk hret (by simp) (hb hby at_233) (by decide) (by decide) (by decide) (fun L N => ⟨congrArg some (congrArg Value.int (by rw [f0, if_neg hc99_31, if_pos hc138_36, if_neg hc157_38, if_neg hc174_40, if_neg hc191_42, if_pos hc208_44])), N, K28⟩)
            · refine Rt.ifN (pc' := 211) X43 hx (hb hby at_208) ((if0 _ _).trans (feq hc208_44).1) rfl ?_
              refine Rt.aload (pc' := 213) X43 hx (hb hby at_211) rfl rfl rfl ?_
              refine Rt.iconst (pc' := 214) (v := (4 : Int32)) X43 hx (hb hby at_213) rfl rfl ?_
              refine Rt.aload (pc' := 216) X43 hx (hb hby at_214) rfl rfl rfl ?_
              refine Rt.iload (pc' := 218) X43 hx (hb hby at_216) rfl rfl ?_
              refine Rt.iload (pc' := 220) X43 hx (hb hby at_218) rfl rfl ?_
              refine Rt.iload (pc' := 222) X43 hx (hb hby at_220) rfl rfl ?_
              refine Rt.callP (pc' := 225) (r := (.int (f6_4 (f0_v50 p5) (f0_v57 p6) p4 (q1.toInt32) (f0_w19 q1) (q2.toInt32) (f0_w34 q2) p3 (psR0 (f0_v50 p5) (f0_v57 p6) p4 (q1.toInt32) (f0_w19 q1) (q2.toInt32) (f0_w34 q2) p3)))) X43 hx hZ (y := mt8) hown (own_g hw 23 rfl) (own_g hw 24 rfl) (own_g hw 20 rfl) (own_g hw 25 rfl) (by decide) (rm6_4 l Z a0 hw [] b67nw b1 (f0_v50 p5) (f0_v57 p6) p4 (q1.toInt32) (f0_w19 q1) (q2.toInt32) (f0_w34 q2) p3 (psR0 (f0_v50 p5) (f0_v57 p6) p4 (q1.toInt32) (f0_w19 q1) (q2.toInt32) (f0_w34 q2) p3) h22 n0 F23 F27 (own_GL0 _ _ _ _ _ _ _ _).2) (W := 0) (by decide) (by decide) (by decide) (by decide) rfl rfl (argsL := [(.ref b67nw), (.int (4 : Int32)), (.ref b1), (.int (f0_v50 p5)), (.int (f0_v57 p6)), (.int p4)]) (rest := []) (by rw [hml]; rfl) (lenOf pd_6 rfl) rfl rfl (Nat.le_of_eq rfl) (hb hby at_222) rfl ?_
              intro T45 X45
              by_cases hc225_46 : (f6_4 (f0_v50 p5) (f0_v57 p6) p4 (q1.toInt32) (f0_w19 q1) (q2.toInt32) (f0_w34 q2) p3 (psR0 (f0_v50 p5) (f0_v57 p6) p4 (q1.toInt32) (f0_w19 q1) (q2.toInt32) (f0_w34 q2) p3)) = (0 : Int32)
              · refine Rt.ifY (pc' := 232) X45 hx (hb hby at_225) ((if0 _ _).trans (teq hc225_46).1) (by decide) (by decide) ?_
                refine Rt.iconst (pc' := 233) (v := (0 : Int32)) X45 hx (hb hby at_232) rfl rfl ?_
                exact Rt.retZ (w := (0 : Int32)) X45 hx hlk hret (by simp) (hb hby at_233) (by decide) (by decide) (by decide) (fun L N => ⟨congrArg some (congrArg Value.int (by rw [f0, if_neg hc99_31, if_pos hc138_36, if_neg hc157_38, if_neg hc174_40, if_neg hc191_42, if_neg hc208_44, if_pos hc225_46])), N, K28⟩)
              · refine Rt.ifN (pc' := 228) X45 hx (hb hby at_225) ((if0 _ _).trans (feq hc225_46).1) rfl ?_
                refine Rt.iconst (pc' := 229) (v := (1 : Int32)) X45 hx (hb hby at_228) rfl rfl ?_
                refine Rt.goto (pc' := 233) X45 hx (hb hby at_229) (by decide) (by decide) ?_
                exact Rt.retZ (w := (1 : Int32)) X45 hx hlk hret (by simp) (hb hby at_233) (by decide) (by decide) (by decide) (fun L N => ⟨congrArg some (congrArg Value.int (by rw [f0, if_neg hc99_31, if_pos hc138_36, if_neg hc157_38, if_neg hc174_40, if_neg hc191_42, if_neg hc208_44, if_neg hc225_46])), N, K28⟩)
    · refine Rt.icmpN (pc' := 141) X30 hx (hb hby at_138) (feq hc138_36).1 rfl ?_
      refine Rt.iconst (pc' := 142) (v := (0 : Int32)) X30 hx (hb hby at_141) rfl rfl ?_
      exact Rt.retZ (w := (0 : Int32)) X30 hx hlk hret (by simp) (hb hby at_142) (by decide) (by decide) (by decide) (fun L N => ⟨congrArg some (congrArg Value.int (by rw [f0, if_neg hc99_31, if_neg hc138_36])), N, K28⟩)
def bd (i : Int) (x : Int32) : Prop := 0 ≤ x.toInt ∧ x.toInt ≤ i
theorem bd_mono {i j : Int} {x : Int32} (q : bd i x) (h : i ≤ j) : bd j x := ⟨q.1, Int.le_trans q.2 h⟩
theorem bd_add1 {i : Int} {x : Int32} (q : bd i x) (h : i ≤ 1000) : bd (i + 1) (x + 1) := by
  have g := c_iadd x 1
  have l : (1 : Int32).toInt = 1 := by decide
  have b1 := (x + 1).le_toInt
  have b2 := (x + 1).toInt_lt
  unfold bd at *
  omega
instance own_bdD (i : Int) (x : Int32) : Decidable (bd i x) := by unfold bd; infer_instance
def own_cap (L L' H H' k k' v0 v1 v2 v3 v4 w0 w1 w2 w3 w4 : Int32) : Prop := (k < v0 ↔ k' < w0) ∧ (k < v1 ↔ k' < w1) ∧ (k < v2 ↔ k' < w2) ∧ (k < v3 ↔ k' < w3) ∧ (k < v4 ↔ k' < w4) ∧ (∀ x : Int32, x.toInt ≤ 4 → (x < L ↔ x < L')) ∧ (∀ x : Int32, x.toInt ≤ 5 → (H < x ↔ H' < x))
theorem own_b_f4R_j80_l8 {p4 : Int32} {v4 : Int32} : bd 1 (f4R_j80_l8 p4 v4) := by unfold f4R_j80_l8; exact own_ite (P := bd 1) (by decide) (by decide)
theorem own_b_f4R_j80_l8_1 {p4 : Int32} {v3 : Int32} : bd 1 (f4R_j80_l8_1 p4 v3) := by unfold f4R_j80_l8_1; exact own_ite (P := bd 1) (by decide) (by decide)
theorem own_b_f4R_v77 {p4 : Int32} {v3 : Int32} : bd 2 (f4R_v77 p4 v3) := by unfold f4R_v77; exact bd_add1 (i := 1) (bd_mono own_b_f4R_j80_l8_1 (by decide)) (by decide)
theorem own_b_f4R_j80_l8_2 {p4 : Int32} {v3 : Int32} {v4 : Int32} : bd 2 (f4R_j80_l8_2 p4 v3 v4) := by unfold f4R_j80_l8_2; exact own_ite (P := bd 2) (bd_mono own_b_f4R_j80_l8_1 (by decide)) (bd_mono own_b_f4R_v77 (by decide))
theorem own_b_f4R_j80_l8_3 {p4 : Int32} {v2 : Int32} : bd 1 (f4R_j80_l8_3 p4 v2) := by unfold f4R_j80_l8_3; exact own_ite (P := bd 1) (by decide) (by decide)
theorem own_b_f4R_v77_1 {p4 : Int32} {v2 : Int32} : bd 2 (f4R_v77_1 p4 v2) := by unfold f4R_v77_1; exact bd_add1 (i := 1) (bd_mono own_b_f4R_j80_l8_3 (by decide)) (by decide)
theorem own_b_f4R_j80_l8_4 {p4 : Int32} {v2 : Int32} {v3 : Int32} : bd 2 (f4R_j80_l8_4 p4 v2 v3) := by unfold f4R_j80_l8_4; exact own_ite (P := bd 2) (bd_mono own_b_f4R_j80_l8_3 (by decide)) (bd_mono own_b_f4R_v77_1 (by decide))
theorem own_b_f4R_v77_2 {p4 : Int32} {v2 : Int32} {v3 : Int32} : bd 3 (f4R_v77_2 p4 v2 v3) := by unfold f4R_v77_2; exact bd_add1 (i := 2) (bd_mono own_b_f4R_j80_l8_4 (by decide)) (by decide)
theorem own_b_f4R_j80_l8_5 {p4 : Int32} {v2 : Int32} {v3 : Int32} {v4 : Int32} : bd 3 (f4R_j80_l8_5 p4 v2 v3 v4) := by unfold f4R_j80_l8_5; exact own_ite (P := bd 3) (bd_mono own_b_f4R_j80_l8_4 (by decide)) (bd_mono own_b_f4R_v77_2 (by decide))
theorem own_b_f4R_j80_l8_6 {p4 : Int32} {v1 : Int32} : bd 1 (f4R_j80_l8_6 p4 v1) := by unfold f4R_j80_l8_6; exact own_ite (P := bd 1) (by decide) (by decide)
theorem own_b_f4R_v77_3 {p4 : Int32} {v1 : Int32} : bd 2 (f4R_v77_3 p4 v1) := by unfold f4R_v77_3; exact bd_add1 (i := 1) (bd_mono own_b_f4R_j80_l8_6 (by decide)) (by decide)
theorem own_b_f4R_j80_l8_7 {p4 : Int32} {v1 : Int32} {v2 : Int32} : bd 2 (f4R_j80_l8_7 p4 v1 v2) := by unfold f4R_j80_l8_7; exact own_ite (P := bd 2) (bd_mono own_b_f4R_j80_l8_6 (by decide)) (bd_mono own_b_f4R_v77_3 (by decide))
theorem own_b_f4R_v77_4 {p4 : Int32} {v1 : Int32} {v2 : Int32} : bd 3 (f4R_v77_4 p4 v1 v2) := by unfold f4R_v77_4; exact bd_add1 (i := 2) (bd_mono own_b_f4R_j80_l8_7 (by decide)) (by decide)
theorem own_b_f4R_j80_l8_8 {p4 : Int32} {v1 : Int32} {v2 : Int32} {v3 : Int32} : bd 3 (f4R_j80_l8_8 p4 v1 v2 v3) := by unfold f4R_j80_l8_8; exact own_ite (P := bd 3) (bd_mono own_b_f4R_j80_l8_7 (by decide)) (bd_mono own_b_f4R_v77_4 (by decide))
theorem own_b_f4R_v77_5 {p4 : Int32} {v1 : Int32} {v2 : Int32} {v3 : Int32} : bd 4 (f4R_v77_5 p4 v1 v2 v3) := by unfold f4R_v77_5; exact bd_add1 (i := 3) (bd_mono own_b_f4R_j80_l8_8 (by decide)) (by decide)
theorem own_b_f4R_j80_l8_9 {p4 : Int32} {v1 : Int32} {v2 : Int32} {v3 : Int32} {v4 : Int32} : bd 4 (f4R_j80_l8_9 p4 v1 v2 v3 v4) := by unfold f4R_j80_l8_9; exact own_ite (P := bd 4) (bd_mono own_b_f4R_j80_l8_8 (by decide)) (bd_mono own_b_f4R_v77_5 (by decide))
theorem own_e_psR5 {L L' H H' k k' v0 v1 v2 v3 v4 w0 w1 w2 w3 w4 : Int32} (K : own_cap L L' H H' k k' v0 v1 v2 v3 v4 w0 w1 w2 w3 w4) : (psR5 L H k v0 v1 v2 v3 v4) = (psR5 L' H' k' w0 w1 w2 w3 w4) := rfl
theorem own_e_psR4 {L L' H H' k k' v0 v1 v2 v3 v4 w0 w1 w2 w3 w4 : Int32} (K : own_cap L L' H H' k k' v0 v1 v2 v3 v4 w0 w1 w2 w3 w4) : (psR4 L H k v0 v1 v2 v3 v4) = (psR4 L' H' k' w0 w1 w2 w3 w4) := by unfold psR4; simp only [K.1, K.2.1, K.2.2.1, K.2.2.2.1, K.2.2.2.2.1, own_e_psR5 K]
theorem own_e_f4R_j80_l7 {L L' H H' k k' v0 v1 v2 v3 v4 w0 w1 w2 w3 w4 : Int32} (K : own_cap L L' H H' k k' v0 v1 v2 v3 v4 w0 w1 w2 w3 w4) : (f4R_j80_l7 k v4) = (f4R_j80_l7 k' w4) := by unfold f4R_j80_l7; simp only [K.1, K.2.1, K.2.2.1, K.2.2.2.1, K.2.2.2.2.1]
theorem own_e_f4R_j80_l8 {L L' H H' k k' v0 v1 v2 v3 v4 w0 w1 w2 w3 w4 : Int32} (K : own_cap L L' H H' k k' v0 v1 v2 v3 v4 w0 w1 w2 w3 w4) : (f4R_j80_l8 k v4) = (f4R_j80_l8 k' w4) := by unfold f4R_j80_l8; simp only [K.1, K.2.1, K.2.2.1, K.2.2.2.1, K.2.2.2.2.1]
theorem own_e_f4R_j86_l7 {L L' H H' k k' v0 v1 v2 v3 v4 w0 w1 w2 w3 w4 : Int32} (K : own_cap L L' H H' k k' v0 v1 v2 v3 v4 w0 w1 w2 w3 w4) : (f4R_j86_l7 L H k v4) = (f4R_j86_l7 L' H' k' w4) := by unfold f4R_j86_l7; simp only [K.1, K.2.1, K.2.2.1, K.2.2.2.1, K.2.2.2.2.1, own_e_f4R_j80_l7 K, K.2.2.2.2.2.1 (1 : Int32) (by decide), K.2.2.2.2.2.2 (0 : Int32) (by decide)]
theorem own_e_psR3 {L L' H H' k k' v0 v1 v2 v3 v4 w0 w1 w2 w3 w4 : Int32} (K : own_cap L L' H H' k k' v0 v1 v2 v3 v4 w0 w1 w2 w3 w4) : (psR3 L H k v0 v1 v2 v3 v4) = (psR3 L' H' k' w0 w1 w2 w3 w4) := by unfold psR3; simp only [K.1, K.2.1, K.2.2.1, K.2.2.2.1, K.2.2.2.2.1, own_e_psR5 K, own_e_psR4 K, own_e_f4R_j86_l7 K]
theorem own_e_f4R_j80_l7_1 {L L' H H' k k' v0 v1 v2 v3 v4 w0 w1 w2 w3 w4 : Int32} (K : own_cap L L' H H' k k' v0 v1 v2 v3 v4 w0 w1 w2 w3 w4) : (f4R_j80_l7_1 k v3) = (f4R_j80_l7_1 k' w3) := by unfold f4R_j80_l7_1; simp only [K.1, K.2.1, K.2.2.1, K.2.2.2.1, K.2.2.2.2.1]
theorem own_e_f4R_j80_l8_1 {L L' H H' k k' v0 v1 v2 v3 v4 w0 w1 w2 w3 w4 : Int32} (K : own_cap L L' H H' k k' v0 v1 v2 v3 v4 w0 w1 w2 w3 w4) : (f4R_j80_l8_1 k v3) = (f4R_j80_l8_1 k' w3) := by unfold f4R_j80_l8_1; simp only [K.1, K.2.1, K.2.2.1, K.2.2.2.1, K.2.2.2.2.1]
theorem own_e_f4R_v77 {L L' H H' k k' v0 v1 v2 v3 v4 w0 w1 w2 w3 w4 : Int32} (K : own_cap L L' H H' k k' v0 v1 v2 v3 v4 w0 w1 w2 w3 w4) : (f4R_v77 k v3) = (f4R_v77 k' w3) := by unfold f4R_v77; simp only [K.1, K.2.1, K.2.2.1, K.2.2.2.1, K.2.2.2.2.1, own_e_f4R_j80_l8_1 K]
theorem own_e_f4R_j80_l7_2 {L L' H H' k k' v0 v1 v2 v3 v4 w0 w1 w2 w3 w4 : Int32} (K : own_cap L L' H H' k k' v0 v1 v2 v3 v4 w0 w1 w2 w3 w4) : (f4R_j80_l7_2 k v3 v4) = (f4R_j80_l7_2 k' w3 w4) := by unfold f4R_j80_l7_2; simp only [K.1, K.2.1, K.2.2.1, K.2.2.2.1, K.2.2.2.2.1, own_e_f4R_j80_l7_1 K]
theorem own_e_f4R_j80_l8_2 {L L' H H' k k' v0 v1 v2 v3 v4 w0 w1 w2 w3 w4 : Int32} (K : own_cap L L' H H' k k' v0 v1 v2 v3 v4 w0 w1 w2 w3 w4) : (f4R_j80_l8_2 k v3 v4) = (f4R_j80_l8_2 k' w3 w4) := by unfold f4R_j80_l8_2; simp only [K.1, K.2.1, K.2.2.1, K.2.2.2.1, K.2.2.2.2.1, own_e_f4R_j80_l8_1 K, own_e_f4R_v77 K]
theorem own_e_f4R_j86_l7_1 {L L' H H' k k' v0 v1 v2 v3 v4 w0 w1 w2 w3 w4 : Int32} (K : own_cap L L' H H' k k' v0 v1 v2 v3 v4 w0 w1 w2 w3 w4) : (f4R_j86_l7_1 L H k v3 v4) = (f4R_j86_l7_1 L' H' k' w3 w4) := by unfold f4R_j86_l7_1; simp only [K.1, K.2.1, K.2.2.1, K.2.2.2.1, K.2.2.2.2.1, own_e_f4R_j80_l7_1 K, own_e_f4R_j80_l8_1 K, own_e_f4R_j80_l7_2 K, K.2.2.2.2.2.1 (1 : Int32) (by decide), K.2.2.2.2.2.1 (2 : Int32) (by decide), K.2.2.2.2.2.2 (0 : Int32) (by decide), K.2.2.2.2.2.2 (f4R_j80_l8_1 k' w3) (Int.le_trans own_b_f4R_j80_l8_1.2 (by decide))]
theorem own_e_psR2 {L L' H H' k k' v0 v1 v2 v3 v4 w0 w1 w2 w3 w4 : Int32} (K : own_cap L L' H H' k k' v0 v1 v2 v3 v4 w0 w1 w2 w3 w4) : (psR2 L H k v0 v1 v2 v3 v4) = (psR2 L' H' k' w0 w1 w2 w3 w4) := by unfold psR2; simp only [K.1, K.2.1, K.2.2.1, K.2.2.2.1, K.2.2.2.2.1, own_e_psR5 K, own_e_psR4 K, own_e_psR3 K, own_e_f4R_j86_l7_1 K]
theorem own_e_f4R_j80_l7_3 {L L' H H' k k' v0 v1 v2 v3 v4 w0 w1 w2 w3 w4 : Int32} (K : own_cap L L' H H' k k' v0 v1 v2 v3 v4 w0 w1 w2 w3 w4) : (f4R_j80_l7_3 k v2) = (f4R_j80_l7_3 k' w2) := by unfold f4R_j80_l7_3; simp only [K.1, K.2.1, K.2.2.1, K.2.2.2.1, K.2.2.2.2.1]
theorem own_e_f4R_j80_l8_3 {L L' H H' k k' v0 v1 v2 v3 v4 w0 w1 w2 w3 w4 : Int32} (K : own_cap L L' H H' k k' v0 v1 v2 v3 v4 w0 w1 w2 w3 w4) : (f4R_j80_l8_3 k v2) = (f4R_j80_l8_3 k' w2) := by unfold f4R_j80_l8_3; simp only [K.1, K.2.1, K.2.2.1, K.2.2.2.1, K.2.2.2.2.1]
theorem own_e_f4R_v77_1 {L L' H H' k k' v0 v1 v2 v3 v4 w0 w1 w2 w3 w4 : Int32} (K : own_cap L L' H H' k k' v0 v1 v2 v3 v4 w0 w1 w2 w3 w4) : (f4R_v77_1 k v2) = (f4R_v77_1 k' w2) := by unfold f4R_v77_1; simp only [K.1, K.2.1, K.2.2.1, K.2.2.2.1, K.2.2.2.2.1, own_e_f4R_j80_l8_3 K]
theorem own_e_f4R_j80_l7_4 {L L' H H' k k' v0 v1 v2 v3 v4 w0 w1 w2 w3 w4 : Int32} (K : own_cap L L' H H' k k' v0 v1 v2 v3 v4 w0 w1 w2 w3 w4) : (f4R_j80_l7_4 k v2 v3) = (f4R_j80_l7_4 k' w2 w3) := by unfold f4R_j80_l7_4; simp only [K.1, K.2.1, K.2.2.1, K.2.2.2.1, K.2.2.2.2.1, own_e_f4R_j80_l7_3 K]
theorem own_e_f4R_j80_l8_4 {L L' H H' k k' v0 v1 v2 v3 v4 w0 w1 w2 w3 w4 : Int32} (K : own_cap L L' H H' k k' v0 v1 v2 v3 v4 w0 w1 w2 w3 w4) : (f4R_j80_l8_4 k v2 v3) = (f4R_j80_l8_4 k' w2 w3) := by unfold f4R_j80_l8_4; simp only [K.1, K.2.1, K.2.2.1, K.2.2.2.1, K.2.2.2.2.1, own_e_f4R_j80_l8_3 K, own_e_f4R_v77_1 K]
theorem own_e_f4R_v77_2 {L L' H H' k k' v0 v1 v2 v3 v4 w0 w1 w2 w3 w4 : Int32} (K : own_cap L L' H H' k k' v0 v1 v2 v3 v4 w0 w1 w2 w3 w4) : (f4R_v77_2 k v2 v3) = (f4R_v77_2 k' w2 w3) := by unfold f4R_v77_2; simp only [K.1, K.2.1, K.2.2.1, K.2.2.2.1, K.2.2.2.2.1, own_e_f4R_j80_l8_4 K]
theorem own_e_f4R_j80_l7_5 {L L' H H' k k' v0 v1 v2 v3 v4 w0 w1 w2 w3 w4 : Int32} (K : own_cap L L' H H' k k' v0 v1 v2 v3 v4 w0 w1 w2 w3 w4) : (f4R_j80_l7_5 k v2 v3 v4) = (f4R_j80_l7_5 k' w2 w3 w4) := by unfold f4R_j80_l7_5; simp only [K.1, K.2.1, K.2.2.1, K.2.2.2.1, K.2.2.2.2.1, own_e_f4R_j80_l7_4 K]
theorem own_e_f4R_j80_l8_5 {L L' H H' k k' v0 v1 v2 v3 v4 w0 w1 w2 w3 w4 : Int32} (K : own_cap L L' H H' k k' v0 v1 v2 v3 v4 w0 w1 w2 w3 w4) : (f4R_j80_l8_5 k v2 v3 v4) = (f4R_j80_l8_5 k' w2 w3 w4) := by unfold f4R_j80_l8_5; simp only [K.1, K.2.1, K.2.2.1, K.2.2.2.1, K.2.2.2.2.1, own_e_f4R_j80_l8_4 K, own_e_f4R_v77_2 K]
theorem own_e_f4R_j86_l7_2 {L L' H H' k k' v0 v1 v2 v3 v4 w0 w1 w2 w3 w4 : Int32} (K : own_cap L L' H H' k k' v0 v1 v2 v3 v4 w0 w1 w2 w3 w4) : (f4R_j86_l7_2 L H k v2 v3 v4) = (f4R_j86_l7_2 L' H' k' w2 w3 w4) := by unfold f4R_j86_l7_2; simp only [K.1, K.2.1, K.2.2.1, K.2.2.2.1, K.2.2.2.2.1, own_e_f4R_j80_l7_3 K, own_e_f4R_j80_l8_3 K, own_e_f4R_j80_l7_4 K, own_e_f4R_j80_l8_4 K, own_e_f4R_j80_l7_5 K, K.2.2.2.2.2.1 (1 : Int32) (by decide), K.2.2.2.2.2.1 (2 : Int32) (by decide), K.2.2.2.2.2.1 (3 : Int32) (by decide), K.2.2.2.2.2.2 (0 : Int32) (by decide), K.2.2.2.2.2.2 (f4R_j80_l8_3 k' w2) (Int.le_trans own_b_f4R_j80_l8_3.2 (by decide)), K.2.2.2.2.2.2 (f4R_j80_l8_4 k' w2 w3) (Int.le_trans own_b_f4R_j80_l8_4.2 (by decide))]
theorem own_e_psR1 {L L' H H' k k' v0 v1 v2 v3 v4 w0 w1 w2 w3 w4 : Int32} (K : own_cap L L' H H' k k' v0 v1 v2 v3 v4 w0 w1 w2 w3 w4) : (psR1 L H k v0 v1 v2 v3 v4) = (psR1 L' H' k' w0 w1 w2 w3 w4) := by unfold psR1; simp only [K.1, K.2.1, K.2.2.1, K.2.2.2.1, K.2.2.2.2.1, own_e_psR5 K, own_e_psR4 K, own_e_psR3 K, own_e_psR2 K, own_e_f4R_j86_l7_2 K]
theorem own_e_f4R_j80_l7_6 {L L' H H' k k' v0 v1 v2 v3 v4 w0 w1 w2 w3 w4 : Int32} (K : own_cap L L' H H' k k' v0 v1 v2 v3 v4 w0 w1 w2 w3 w4) : (f4R_j80_l7_6 k v1) = (f4R_j80_l7_6 k' w1) := by unfold f4R_j80_l7_6; simp only [K.1, K.2.1, K.2.2.1, K.2.2.2.1, K.2.2.2.2.1]
theorem own_e_f4R_j80_l8_6 {L L' H H' k k' v0 v1 v2 v3 v4 w0 w1 w2 w3 w4 : Int32} (K : own_cap L L' H H' k k' v0 v1 v2 v3 v4 w0 w1 w2 w3 w4) : (f4R_j80_l8_6 k v1) = (f4R_j80_l8_6 k' w1) := by unfold f4R_j80_l8_6; simp only [K.1, K.2.1, K.2.2.1, K.2.2.2.1, K.2.2.2.2.1]
theorem own_e_f4R_v77_3 {L L' H H' k k' v0 v1 v2 v3 v4 w0 w1 w2 w3 w4 : Int32} (K : own_cap L L' H H' k k' v0 v1 v2 v3 v4 w0 w1 w2 w3 w4) : (f4R_v77_3 k v1) = (f4R_v77_3 k' w1) := by unfold f4R_v77_3; simp only [K.1, K.2.1, K.2.2.1, K.2.2.2.1, K.2.2.2.2.1, own_e_f4R_j80_l8_6 K]
theorem own_e_f4R_j80_l7_7 {L L' H H' k k' v0 v1 v2 v3 v4 w0 w1 w2 w3 w4 : Int32} (K : own_cap L L' H H' k k' v0 v1 v2 v3 v4 w0 w1 w2 w3 w4) : (f4R_j80_l7_7 k v1 v2) = (f4R_j80_l7_7 k' w1 w2) := by unfold f4R_j80_l7_7; simp only [K.1, K.2.1, K.2.2.1, K.2.2.2.1, K.2.2.2.2.1, own_e_f4R_j80_l7_6 K]
theorem own_e_f4R_j80_l8_7 {L L' H H' k k' v0 v1 v2 v3 v4 w0 w1 w2 w3 w4 : Int32} (K : own_cap L L' H H' k k' v0 v1 v2 v3 v4 w0 w1 w2 w3 w4) : (f4R_j80_l8_7 k v1 v2) = (f4R_j80_l8_7 k' w1 w2) := by unfold f4R_j80_l8_7; simp only [K.1, K.2.1, K.2.2.1, K.2.2.2.1, K.2.2.2.2.1, own_e_f4R_j80_l8_6 K, own_e_f4R_v77_3 K]
theorem own_e_f4R_v77_4 {L L' H H' k k' v0 v1 v2 v3 v4 w0 w1 w2 w3 w4 : Int32} (K : own_cap L L' H H' k k' v0 v1 v2 v3 v4 w0 w1 w2 w3 w4) : (f4R_v77_4 k v1 v2) = (f4R_v77_4 k' w1 w2) := by unfold f4R_v77_4; simp only [K.1, K.2.1, K.2.2.1, K.2.2.2.1, K.2.2.2.2.1, own_e_f4R_j80_l8_7 K]
theorem own_e_f4R_j80_l7_8 {L L' H H' k k' v0 v1 v2 v3 v4 w0 w1 w2 w3 w4 : Int32} (K : own_cap L L' H H' k k' v0 v1 v2 v3 v4 w0 w1 w2 w3 w4) : (f4R_j80_l7_8 k v1 v2 v3) = (f4R_j80_l7_8 k' w1 w2 w3) := by unfold f4R_j80_l7_8; simp only [K.1, K.2.1, K.2.2.1, K.2.2.2.1, K.2.2.2.2.1, own_e_f4R_j80_l7_7 K]
theorem own_e_f4R_j80_l8_8 {L L' H H' k k' v0 v1 v2 v3 v4 w0 w1 w2 w3 w4 : Int32} (K : own_cap L L' H H' k k' v0 v1 v2 v3 v4 w0 w1 w2 w3 w4) : (f4R_j80_l8_8 k v1 v2 v3) = (f4R_j80_l8_8 k' w1 w2 w3) := by unfold f4R_j80_l8_8; simp only [K.1, K.2.1, K.2.2.1, K.2.2.2.1, K.2.2.2.2.1, own_e_f4R_j80_l8_7 K, own_e_f4R_v77_4 K]
theorem own_e_f4R_v77_5 {L L' H H' k k' v0 v1 v2 v3 v4 w0 w1 w2 w3 w4 : Int32} (K : own_cap L L' H H' k k' v0 v1 v2 v3 v4 w0 w1 w2 w3 w4) : (f4R_v77_5 k v1 v2 v3) = (f4R_v77_5 k' w1 w2 w3) := by unfold f4R_v77_5; simp only [K.1, K.2.1, K.2.2.1, K.2.2.2.1, K.2.2.2.2.1, own_e_f4R_j80_l8_8 K]
theorem own_e_f4R_j80_l7_9 {L L' H H' k k' v0 v1 v2 v3 v4 w0 w1 w2 w3 w4 : Int32} (K : own_cap L L' H H' k k' v0 v1 v2 v3 v4 w0 w1 w2 w3 w4) : (f4R_j80_l7_9 k v1 v2 v3 v4) = (f4R_j80_l7_9 k' w1 w2 w3 w4) := by unfold f4R_j80_l7_9; simp only [K.1, K.2.1, K.2.2.1, K.2.2.2.1, K.2.2.2.2.1, own_e_f4R_j80_l7_8 K]
theorem own_e_f4R_j80_l8_9 {L L' H H' k k' v0 v1 v2 v3 v4 w0 w1 w2 w3 w4 : Int32} (K : own_cap L L' H H' k k' v0 v1 v2 v3 v4 w0 w1 w2 w3 w4) : (f4R_j80_l8_9 k v1 v2 v3 v4) = (f4R_j80_l8_9 k' w1 w2 w3 w4) := by unfold f4R_j80_l8_9; simp only [K.1, K.2.1, K.2.2.1, K.2.2.2.1, K.2.2.2.2.1, own_e_f4R_j80_l8_8 K, own_e_f4R_v77_5 K]
theorem own_e_f4R_j86_l7_3 {L L' H H' k k' v0 v1 v2 v3 v4 w0 w1 w2 w3 w4 : Int32} (K : own_cap L L' H H' k k' v0 v1 v2 v3 v4 w0 w1 w2 w3 w4) : (f4R_j86_l7_3 L H k v1 v2 v3 v4) = (f4R_j86_l7_3 L' H' k' w1 w2 w3 w4) := by unfold f4R_j86_l7_3; simp only [K.1, K.2.1, K.2.2.1, K.2.2.2.1, K.2.2.2.2.1, own_e_f4R_j80_l7_6 K, own_e_f4R_j80_l8_6 K, own_e_f4R_j80_l7_7 K, own_e_f4R_j80_l8_7 K, own_e_f4R_j80_l7_8 K, own_e_f4R_j80_l8_8 K, own_e_f4R_j80_l7_9 K, K.2.2.2.2.2.1 (1 : Int32) (by decide), K.2.2.2.2.2.1 (2 : Int32) (by decide), K.2.2.2.2.2.1 (3 : Int32) (by decide), K.2.2.2.2.2.1 (4 : Int32) (by decide), K.2.2.2.2.2.2 (0 : Int32) (by decide), K.2.2.2.2.2.2 (f4R_j80_l8_6 k' w1) (Int.le_trans own_b_f4R_j80_l8_6.2 (by decide)), K.2.2.2.2.2.2 (f4R_j80_l8_7 k' w1 w2) (Int.le_trans own_b_f4R_j80_l8_7.2 (by decide)), K.2.2.2.2.2.2 (f4R_j80_l8_8 k' w1 w2 w3) (Int.le_trans own_b_f4R_j80_l8_8.2 (by decide))]
theorem own_e_psR0 {L L' H H' k k' v0 v1 v2 v3 v4 w0 w1 w2 w3 w4 : Int32} (K : own_cap L L' H H' k k' v0 v1 v2 v3 v4 w0 w1 w2 w3 w4) : (psR0 L H k v0 v1 v2 v3 v4) = (psR0 L' H' k' w0 w1 w2 w3 w4) := by unfold psR0; simp only [K.1, K.2.1, K.2.2.1, K.2.2.2.1, K.2.2.2.2.1, own_e_psR5 K, own_e_psR4 K, own_e_psR3 K, own_e_psR2 K, own_e_psR1 K, own_e_f4R_j86_l7_3 K]
theorem own_e_f5 {L L' H H' k k' v0 v1 v2 v3 v4 w0 w1 w2 w3 w4 : Int32} (K : own_cap L L' H H' k k' v0 v1 v2 v3 v4 w0 w1 w2 w3 w4) (e : Int32) : f5 k e v0 v1 v2 v3 v4 = f5 k' e w0 w1 w2 w3 w4 := by unfold f5 f5_j71_l3 f5_j58_l3 f5_j44_l3 f5_j30_l3 f5_j16_l3; simp only [K.1, K.2.1, K.2.2.1, K.2.2.2.1, K.2.2.2.2.1]
def own_q (x : Int32) : Prop := -1 ≤ x.toInt ∧ x.toInt ≤ 4
instance own_qD (x : Int32) : Decidable (own_q x) := by unfold own_q; infer_instance
theorem own_q_f5_j16_l3 {p2 : Int32} {p3 : Int32} {v4 : Int32} : own_q (f5_j16_l3 p2 p3 v4) := by unfold f5_j16_l3; exact own_ite (P := own_q) (own_ite (P := own_q) (by decide) (by decide)) (by decide)
theorem own_q_f5_j30_l3 {p2 : Int32} {p3 : Int32} {v3 : Int32} {v4 : Int32} : own_q (f5_j30_l3 p2 p3 v3 v4) := by unfold f5_j30_l3; exact own_ite (P := own_q) (own_ite (P := own_q) (by decide) own_q_f5_j16_l3) own_q_f5_j16_l3
theorem own_q_f5_j44_l3 {p2 : Int32} {p3 : Int32} {v2 : Int32} {v3 : Int32} {v4 : Int32} : own_q (f5_j44_l3 p2 p3 v2 v3 v4) := by unfold f5_j44_l3; exact own_ite (P := own_q) (own_ite (P := own_q) (by decide) own_q_f5_j30_l3) own_q_f5_j30_l3
theorem own_q_f5_j58_l3 {p2 : Int32} {p3 : Int32} {v1 : Int32} {v2 : Int32} {v3 : Int32} {v4 : Int32} : own_q (f5_j58_l3 p2 p3 v1 v2 v3 v4) := by unfold f5_j58_l3; exact own_ite (P := own_q) (own_ite (P := own_q) (by decide) own_q_f5_j44_l3) own_q_f5_j44_l3
theorem own_q_f5_j71_l3 {p2 : Int32} {p3 : Int32} {v0 : Int32} {v1 : Int32} {v2 : Int32} {v3 : Int32} {v4 : Int32} : own_q (f5_j71_l3 p2 p3 v0 v1 v2 v3 v4) := by unfold f5_j71_l3; exact own_ite (P := own_q) (own_ite (P := own_q) (by decide) own_q_f5_j58_l3) own_q_f5_j58_l3
theorem own_q_f5 {p2 : Int32} {p3 : Int32} {v0 : Int32} {v1 : Int32} {v2 : Int32} {v3 : Int32} {v4 : Int32} : own_q (f5 p2 p3 v0 v1 v2 v3 v4) := by unfold f5; exact own_q_f5_j71_l3
theorem own_f5b (k e v0 v1 v2 v3 v4 : Int32) : -1 ≤ (f5 k e v0 v1 v2 v3 v4).toInt ∧ (f5 k e v0 v1 v2 v3 v4).toInt ≤ 4 := own_q_f5
theorem own_e_f7 {L L' H H' k k' v0 v1 v2 v3 v4 w0 w1 w2 w3 w4 : Int32} (K : own_cap L L' H H' k k' v0 v1 v2 v3 v4 w0 w1 w2 w3 w4) (s e : Int32) : f7 k s e v0 v1 v2 v3 v4 = f7 k' s e w0 w1 w2 w3 w4 := by unfold f7 f8_0 f8_1 f8_2 f8_3 f8_4; simp only [K.1, K.2.1, K.2.2.1, K.2.2.2.1, K.2.2.2.2.1]
theorem own_f8_0 (k s e v : Int32) : bd 1 (f8_0 k s e v) := by unfold f8_0; exact own_ite (P := bd 1) (by decide) (own_ite (P := bd 1) (by decide) (own_ite (P := bd 1) (by decide) (by decide)))
theorem own_f8_1 (k s e v : Int32) : bd 1 (f8_1 k s e v) := by unfold f8_1; exact own_ite (P := bd 1) (by decide) (own_ite (P := bd 1) (by decide) (own_ite (P := bd 1) (by decide) (by decide)))
theorem own_f8_2 (k s e v : Int32) : bd 1 (f8_2 k s e v) := by unfold f8_2; exact own_ite (P := bd 1) (by decide) (own_ite (P := bd 1) (by decide) (own_ite (P := bd 1) (by decide) (by decide)))
theorem own_f8_3 (k s e v : Int32) : bd 1 (f8_3 k s e v) := by unfold f8_3; exact own_ite (P := bd 1) (by decide) (own_ite (P := bd 1) (by decide) (own_ite (P := bd 1) (by decide) (by decide)))
theorem own_f8_4 (k s e v : Int32) : bd 1 (f8_4 k s e v) := by unfold f8_4; exact own_ite (P := bd 1) (by decide) (own_ite (P := bd 1) (by decide) (own_ite (P := bd 1) (by decide) (by decide)))
theorem own_f7b (k s e v0 v1 v2 v3 v4 : Int32) : (f7 k s e v0 v1 v2 v3 v4).toInt ≤ 5 := by
  unfold f7
  have h0 := own_f8_0 k s e v0
  have h1 := own_f8_1 k s e v1
  have h2 := own_f8_2 k s e v2
  have h3 := own_f8_3 k s e v3
  have h4 := own_f8_4 k s e v4
  generalize f8_0 k s e v0 = a at *
  generalize f8_1 k s e v1 = b at *
  generalize f8_2 k s e v2 = c at *
  generalize f8_3 k s e v3 = d at *
  generalize f8_4 k s e v4 = g at *
  have g1 := c_iadd a b
  have g2 := c_iadd (a + b) c
  have g3 := c_iadd (a + b + c) d
  have g4 := c_iadd (a + b + c + d) g
  have x1 := (a + b).le_toInt
  have x2 := (a + b).toInt_lt
  have x3 := (a + b + c).le_toInt
  have x4 := (a + b + c).toInt_lt
  have x5 := (a + b + c + d).le_toInt
  have x6 := (a + b + c + d).toInt_lt
  have x7 := (a + b + c + d + g).le_toInt
  have x8 := (a + b + c + d + g).toInt_lt
  unfold bd at *
  omega
theorem own_ate {L L' H H' k k' v0 v1 v2 v3 v4 w0 w1 w2 w3 w4 : Int32} (K : own_cap L L' H H' k k' v0 v1 v2 v3 v4 w0 w1 w2 w3 w4) (i : Int32) : (k < own_at v0 v1 v2 v3 v4 i ↔ k' < own_at w0 w1 w2 w3 w4 i) := by
  obtain ⟨k0, k1, k2, k3, k4, -⟩ := K
  unfold own_at
  repeat' split
  all_goals assumption
theorem own_sub {a b : Int32} (h1 : -1 ≤ a.toInt ∧ a.toInt ≤ 4) (h2 : bd 4 b) : (a - b).toInt ≤ 4 := by
  have g := c_isub a b
  have x1 := (a - b).le_toInt
  have x2 := (a - b).toInt_lt
  unfold bd at *
  omega
theorem own_bd1 {a : Int32} (h : bd 4 a) : -1 ≤ a.toInt ∧ a.toInt ≤ 4 := by unfold bd at h; omega
def own_ok (ps : List (Int32 × Int32)) : Prop := ∀ t, bd 4 (ps.getD t ((0 : Int32), (0 : Int32))).1 ∧ bd 4 (ps.getD t ((0 : Int32), (0 : Int32))).2
theorem own_okm {ps : List (Int32 × Int32)} (h : ∀ q ∈ ps, bd 4 q.1 ∧ bd 4 q.2) : own_ok ps := fun t => by
  rw [List.getD_eq_getElem?_getD]
  cases e : ps[t]? with
  | none => exact ⟨by decide, by decide⟩
  | some q => exact h q (List.mem_of_getElem? e)
theorem own_e_f6_0 {L L' H H' k k' v0 v1 v2 v3 v4 w0 w1 w2 w3 w4 : Int32} (K : own_cap L L' H H' k k' v0 v1 v2 v3 v4 w0 w1 w2 w3 w4) {ps : List (Int32 × Int32)} (hp : own_ok ps) : (f6_0 L H k v0 v1 v2 v3 v4 ps) = (f6_0 L' H' k' w0 w1 w2 w3 w4 ps) := by
  have eq : (f6_0_v153 k v0 v1 v2 v3 v4 ps) = (f6_0_v153 k' w0 w1 w2 w3 w4 ps) := own_e_f5 K _
  have e1 := K.2.2.2.2.2.1 ((f6_0_v37 ps) - (f6_0_v31 ps)) (own_sub (own_bd1 (hp 0).2) (hp 0).1)
  have e2 := K.2.2.2.2.2.1 ((f6_0_v153 k' w0 w1 w2 w3 w4 ps) - (f6_0_v31 ps)) (own_sub (own_f5b _ _ _ _ _ _ _) (hp 0).1)
  have h1 := K.2.2.2.2.2.2 (f7 k' (f6_0_v31 ps) (f6_0_v37 ps) w0 w1 w2 w3 w4) (own_f7b _ _ _ _ _ _ _ _)
  have h2 := K.2.2.2.2.2.2 (f7 k' (f6_0_v31 ps) (f6_0_v153 k' w0 w1 w2 w3 w4 ps) w0 w1 w2 w3 w4) (own_f7b _ _ _ _ _ _ _ _)
  unfold f6_0
  simp only [eq, own_ate K, own_e_f7 K, e1, e2, h1, h2]
theorem own_e_f6_1 {L L' H H' k k' v0 v1 v2 v3 v4 w0 w1 w2 w3 w4 : Int32} (K : own_cap L L' H H' k k' v0 v1 v2 v3 v4 w0 w1 w2 w3 w4) {ps : List (Int32 × Int32)} (hp : own_ok ps) : (f6_1 L H k v0 v1 v2 v3 v4 ps) = (f6_1 L' H' k' w0 w1 w2 w3 w4 ps) := by
  have eq : (f6_1_v153 k v0 v1 v2 v3 v4 ps) = (f6_1_v153 k' w0 w1 w2 w3 w4 ps) := own_e_f5 K _
  have e1 := K.2.2.2.2.2.1 ((f6_1_v37 ps) - (f6_1_v31 ps)) (own_sub (own_bd1 (hp 1).2) (hp 1).1)
  have e2 := K.2.2.2.2.2.1 ((f6_1_v153 k' w0 w1 w2 w3 w4 ps) - (f6_1_v31 ps)) (own_sub (own_f5b _ _ _ _ _ _ _) (hp 1).1)
  have h1 := K.2.2.2.2.2.2 (f7 k' (f6_1_v31 ps) (f6_1_v37 ps) w0 w1 w2 w3 w4) (own_f7b _ _ _ _ _ _ _ _)
  have h2 := K.2.2.2.2.2.2 (f7 k' (f6_1_v31 ps) (f6_1_v153 k' w0 w1 w2 w3 w4 ps) w0 w1 w2 w3 w4) (own_f7b _ _ _ _ _ _ _ _)
  unfold f6_1
  simp only [eq, own_ate K, own_e_f7 K, e1, e2, h1, h2]
theorem own_e_f6_2 {L L' H H' k k' v0 v1 v2 v3 v4 w0 w1 w2 w3 w4 : Int32} (K : own_cap L L' H H' k k' v0 v1 v2 v3 v4 w0 w1 w2 w3 w4) {ps : List (Int32 × Int32)} (hp : own_ok ps) : (f6_2 L H k v0 v1 v2 v3 v4 ps) = (f6_2 L' H' k' w0 w1 w2 w3 w4 ps) := by
  have eq : (f6_2_v153 k v0 v1 v2 v3 v4 ps) = (f6_2_v153 k' w0 w1 w2 w3 w4 ps) := own_e_f5 K _
  have e1 := K.2.2.2.2.2.1 ((f6_2_v37 ps) - (f6_2_v31 ps)) (own_sub (own_bd1 (hp 2).2) (hp 2).1)
  have e2 := K.2.2.2.2.2.1 ((f6_2_v153 k' w0 w1 w2 w3 w4 ps) - (f6_2_v31 ps)) (own_sub (own_f5b _ _ _ _ _ _ _) (hp 2).1)
  have h1 := K.2.2.2.2.2.2 (f7 k' (f6_2_v31 ps) (f6_2_v37 ps) w0 w1 w2 w3 w4) (own_f7b _ _ _ _ _ _ _ _)
  have h2 := K.2.2.2.2.2.2 (f7 k' (f6_2_v31 ps) (f6_2_v153 k' w0 w1 w2 w3 w4 ps) w0 w1 w2 w3 w4) (own_f7b _ _ _ _ _ _ _ _)
  unfold f6_2
  simp only [eq, own_ate K, own_e_f7 K, e1, e2, h1, h2]
theorem own_e_f6_3 {L L' H H' k k' v0 v1 v2 v3 v4 w0 w1 w2 w3 w4 : Int32} (K : own_cap L L' H H' k k' v0 v1 v2 v3 v4 w0 w1 w2 w3 w4) {ps : List (Int32 × Int32)} (hp : own_ok ps) : (f6_3 L H k v0 v1 v2 v3 v4 ps) = (f6_3 L' H' k' w0 w1 w2 w3 w4 ps) := by
  have eq : (f6_3_v153 k v0 v1 v2 v3 v4 ps) = (f6_3_v153 k' w0 w1 w2 w3 w4 ps) := own_e_f5 K _
  have e1 := K.2.2.2.2.2.1 ((f6_3_v37 ps) - (f6_3_v31 ps)) (own_sub (own_bd1 (hp 3).2) (hp 3).1)
  have e2 := K.2.2.2.2.2.1 ((f6_3_v153 k' w0 w1 w2 w3 w4 ps) - (f6_3_v31 ps)) (own_sub (own_f5b _ _ _ _ _ _ _) (hp 3).1)
  have h1 := K.2.2.2.2.2.2 (f7 k' (f6_3_v31 ps) (f6_3_v37 ps) w0 w1 w2 w3 w4) (own_f7b _ _ _ _ _ _ _ _)
  have h2 := K.2.2.2.2.2.2 (f7 k' (f6_3_v31 ps) (f6_3_v153 k' w0 w1 w2 w3 w4 ps) w0 w1 w2 w3 w4) (own_f7b _ _ _ _ _ _ _ _)
  unfold f6_3
  simp only [eq, own_ate K, own_e_f7 K, e1, e2, h1, h2]
theorem own_e_f6_4 {L L' H H' k k' v0 v1 v2 v3 v4 w0 w1 w2 w3 w4 : Int32} (K : own_cap L L' H H' k k' v0 v1 v2 v3 v4 w0 w1 w2 w3 w4) {ps : List (Int32 × Int32)} (hp : own_ok ps) : (f6_4 L H k v0 v1 v2 v3 v4 ps) = (f6_4 L' H' k' w0 w1 w2 w3 w4 ps) := by
  have eq : (f6_4_v153 k v0 v1 v2 v3 v4 ps) = (f6_4_v153 k' w0 w1 w2 w3 w4 ps) := own_e_f5 K _
  have e1 := K.2.2.2.2.2.1 ((f6_4_v37 ps) - (f6_4_v31 ps)) (own_sub (own_bd1 (hp 4).2) (hp 4).1)
  have e2 := K.2.2.2.2.2.1 ((f6_4_v153 k' w0 w1 w2 w3 w4 ps) - (f6_4_v31 ps)) (own_sub (own_f5b _ _ _ _ _ _ _) (hp 4).1)
  have h1 := K.2.2.2.2.2.2 (f7 k' (f6_4_v31 ps) (f6_4_v37 ps) w0 w1 w2 w3 w4) (own_f7b _ _ _ _ _ _ _ _)
  have h2 := K.2.2.2.2.2.2 (f7 k' (f6_4_v31 ps) (f6_4_v153 k' w0 w1 w2 w3 w4 ps) w0 w1 w2 w3 w4) (own_f7b _ _ _ _ _ _ _ _)
  unfold f6_4
  simp only [eq, own_ate K, own_e_f7 K, e1, e2, h1, h2]
theorem own_m5 (p2 p3 p4 v0 v1 v2 v3 v4 : Int32) : ∀ q ∈ psR5 p2 p3 p4 v0 v1 v2 v3 v4, bd 4 q.1 ∧ bd 4 q.2 := fun q h => by unfold psR5 at h; cases h
theorem own_m4 (p2 p3 p4 v0 v1 v2 v3 v4 : Int32) : ∀ q ∈ psR4 p2 p3 p4 v0 v1 v2 v3 v4, bd 4 q.1 ∧ bd 4 q.2 := by
  unfold psR4
  split
  · intro q hq
    rcases List.mem_cons.mp hq with rfl | hq
    · exact ⟨(by decide : bd 4 (4 : Int32)), by decide⟩
    · first | exact own_m5 p2 p3 p4 v0 v1 v2 v3 v4 q hq
  · exact own_m5 p2 p3 p4 v0 v1 v2 v3 v4
theorem own_m3 (p2 p3 p4 v0 v1 v2 v3 v4 : Int32) : ∀ q ∈ psR3 p2 p3 p4 v0 v1 v2 v3 v4, bd 4 q.1 ∧ bd 4 q.2 := by
  unfold psR3
  split
  · intro q hq
    rcases List.mem_cons.mp hq with rfl | hq
    · exact ⟨(by decide : bd 4 (3 : Int32)), by rcases own_lastR3 p2 p3 p4 v0 v1 v2 v3 v4 with h | h <;> rw [h] <;> decide⟩
    · (repeat' split at hq) <;> first | exact own_m4 p2 p3 p4 v0 v1 v2 v3 v4 q hq | exact own_m5 p2 p3 p4 v0 v1 v2 v3 v4 q hq
  · exact own_m4 p2 p3 p4 v0 v1 v2 v3 v4
theorem own_m2 (p2 p3 p4 v0 v1 v2 v3 v4 : Int32) : ∀ q ∈ psR2 p2 p3 p4 v0 v1 v2 v3 v4, bd 4 q.1 ∧ bd 4 q.2 := by
  unfold psR2
  split
  · intro q hq
    rcases List.mem_cons.mp hq with rfl | hq
    · exact ⟨(by decide : bd 4 (2 : Int32)), by rcases own_lastR2 p2 p3 p4 v0 v1 v2 v3 v4 with h | h | h <;> rw [h] <;> decide⟩
    · (repeat' split at hq) <;> first | exact own_m3 p2 p3 p4 v0 v1 v2 v3 v4 q hq | exact own_m4 p2 p3 p4 v0 v1 v2 v3 v4 q hq | exact own_m5 p2 p3 p4 v0 v1 v2 v3 v4 q hq
  · exact own_m3 p2 p3 p4 v0 v1 v2 v3 v4
theorem own_m1 (p2 p3 p4 v0 v1 v2 v3 v4 : Int32) : ∀ q ∈ psR1 p2 p3 p4 v0 v1 v2 v3 v4, bd 4 q.1 ∧ bd 4 q.2 := by
  unfold psR1
  split
  · intro q hq
    rcases List.mem_cons.mp hq with rfl | hq
    · exact ⟨(by decide : bd 4 (1 : Int32)), by rcases own_lastR1 p2 p3 p4 v0 v1 v2 v3 v4 with h | h | h | h <;> rw [h] <;> decide⟩
    · (repeat' split at hq) <;> first | exact own_m2 p2 p3 p4 v0 v1 v2 v3 v4 q hq | exact own_m3 p2 p3 p4 v0 v1 v2 v3 v4 q hq | exact own_m4 p2 p3 p4 v0 v1 v2 v3 v4 q hq | exact own_m5 p2 p3 p4 v0 v1 v2 v3 v4 q hq
  · exact own_m2 p2 p3 p4 v0 v1 v2 v3 v4
theorem own_m0 (p2 p3 p4 v0 v1 v2 v3 v4 : Int32) : ∀ q ∈ psR0 p2 p3 p4 v0 v1 v2 v3 v4, bd 4 q.1 ∧ bd 4 q.2 := by
  unfold psR0
  split
  · intro q hq
    rcases List.mem_cons.mp hq with rfl | hq
    · exact ⟨(by decide : bd 4 (0 : Int32)), by rcases own_lastR0 p2 p3 p4 v0 v1 v2 v3 v4 with h | h | h | h | h <;> rw [h] <;> decide⟩
    · (repeat' split at hq) <;> first | exact own_m1 p2 p3 p4 v0 v1 v2 v3 v4 q hq | exact own_m2 p2 p3 p4 v0 v1 v2 v3 v4 q hq | exact own_m3 p2 p3 p4 v0 v1 v2 v3 v4 q hq | exact own_m4 p2 p3 p4 v0 v1 v2 v3 v4 q hq | exact own_m5 p2 p3 p4 v0 v1 v2 v3 v4 q hq
  · exact own_m1 p2 p3 p4 v0 v1 v2 v3 v4
def own_chk (L H k v0 v1 v2 v3 v4 : Int32) (ps : List (Int32 × Int32)) : Int32 := (if ((ps).length.toInt32) = (0 : Int32) then (if (f5 k (-1 : Int32) v0 v1 v2 v3 v4) = (-1 : Int32) then (1 : Int32) else (0 : Int32)) else (if ((ps).getD 0 ((0 : Int32), (0 : Int32))).1 = (f5 k (-1 : Int32) v0 v1 v2 v3 v4) then (if (f6_0 L H k v0 v1 v2 v3 v4 ps) = (0 : Int32) then (0 : Int32) else (if (f6_1 L H k v0 v1 v2 v3 v4 ps) = (0 : Int32) then (0 : Int32) else (if (f6_2 L H k v0 v1 v2 v3 v4 ps) = (0 : Int32) then (0 : Int32) else (if (f6_3 L H k v0 v1 v2 v3 v4 ps) = (0 : Int32) then (0 : Int32) else (if (f6_4 L H k v0 v1 v2 v3 v4 ps) = (0 : Int32) then (0 : Int32) else (1 : Int32)))))) else (0 : Int32)))
def own_res (L H k v0 v1 v2 v3 v4 : Int32) : Int32 := own_chk L H k v0 v1 v2 v3 v4 (psR0 L H k v0 v1 v2 v3 v4)
theorem own_resE (a b : Int64) (c k lp hp : Int32) : f0 a b c k lp hp = own_res (f0_v50 lp) (f0_v57 hp) k (a.toInt32) (f0_w19 a) (b.toInt32) (f0_w34 b) c := rfl
theorem own_resC {L L' H H' k k' v0 v1 v2 v3 v4 w0 w1 w2 w3 w4 : Int32} (K : own_cap L L' H H' k k' v0 v1 v2 v3 v4 w0 w1 w2 w3 w4) : own_res L H k v0 v1 v2 v3 v4 = own_res L' H' k' w0 w1 w2 w3 w4 := by
  unfold own_res
  rw [own_e_psR0 K]
  have hp : own_ok (psR0 L' H' k' w0 w1 w2 w3 w4) := own_okm (own_m0 _ _ _ _ _ _ _ _)
  unfold own_chk
  rw [own_e_f5 K, own_e_f6_0 K hp, own_e_f6_1 K hp, own_e_f6_2 K hp, own_e_f6_3 K hp, own_e_f6_4 K hp]
def own_01 : List Int32 := [0, 1]
def own_L : List Int32 := [1, 2, 3, 4, 5]
def own_H : List Int32 := [0, 1, 2, 3, 4, 5]
def own_all : Bool := own_L.all fun L => own_H.all fun H => own_01.all fun a => own_01.all fun b => own_01.all fun c => own_01.all fun d => own_01.all fun e => own_res L H 0 a b c d e == 1
theorem own_allT : own_all = true := by decide +kernel
theorem own_small (L H a b c d e : Int32) (hL : L ∈ own_L) (hH : H ∈ own_H) (ha : a ∈ own_01) (hb : b ∈ own_01) (hc : c ∈ own_01) (hd : d ∈ own_01) (he : e ∈ own_01) : own_res L H 0 a b c d e = 1 := by
  have q := own_allT
  unfold own_all at q
  rw [List.all_eq_true] at q
  have q := q L hL
  rw [List.all_eq_true] at q
  have q := q H hH
  rw [List.all_eq_true] at q
  have q := q a ha
  rw [List.all_eq_true] at q
  have q := q b hb
  rw [List.all_eq_true] at q
  have q := q c hc
  rw [List.all_eq_true] at q
  have q := q d hd
  rw [List.all_eq_true] at q
  have q := q e he
  exact eq_of_beq q
theorem own_v (k v : Int32) : ∃ w : Int32, w ∈ own_01 ∧ (k < v ↔ (0 : Int32) < w) := by
  by_cases q : k < v
  · exact ⟨1, by decide, ⟨fun _ => by decide, fun _ => q⟩⟩
  · exact ⟨0, by decide, ⟨fun h => absurd h q, fun h => absurd h (by decide)⟩⟩
theorem own_law (a b : Int64) (c k lp hp : Int32) : f0 a b c k lp hp = 1 := by
  have l0 : (0 : Int32).toInt = 0 := by decide
  have l1 : (1 : Int32).toInt = 1 := by decide
  have l2 : (2 : Int32).toInt = 2 := by decide
  have l3 : (3 : Int32).toInt = 3 := by decide
  have l4 : (4 : Int32).toInt = 4 := by decide
  have l5 : (5 : Int32).toInt = 5 := by decide
  have bL : 1 ≤ (f0_v50 lp).toInt := by
    unfold f0_v50 f1 f0_a47_1
    have g := c_mask lp 2147483647 31 (by decide) (by decide)
    split
    · rename_i q
      rw [Int32.lt_iff_toInt_lt] at q
      omega
    · omega
  have bH : 0 ≤ (f0_v57 hp).toInt := by
    unfold f0_v57
    have g := c_mask hp 2147483647 31 (by decide) (by decide)
    omega
  rw [own_resE]
  generalize f0_v50 lp = L at *
  generalize f0_v57 hp = H at *
  obtain ⟨L', hL, PL⟩ : ∃ L' : Int32, L' ∈ own_L ∧ (∀ x : Int32, x.toInt ≤ 4 → (x < L ↔ x < L')) := by
    by_cases q : L.toInt ≤ 5
    · refine ⟨L, ?_, fun _ _ => Iff.rfl⟩
      simp only [own_L, List.mem_cons, List.not_mem_nil, or_false, ← Int32.toInt_inj]
      omega
    · refine ⟨5, by decide, fun y b => ?_⟩
      simp only [Int32.lt_iff_toInt_lt]
      omega
  obtain ⟨H', hH, PH⟩ : ∃ H' : Int32, H' ∈ own_H ∧ (∀ x : Int32, x.toInt ≤ 5 → (H < x ↔ H' < x)) := by
    by_cases q : H.toInt ≤ 5
    · refine ⟨H, ?_, fun _ _ => Iff.rfl⟩
      simp only [own_H, List.mem_cons, List.not_mem_nil, or_false, ← Int32.toInt_inj]
      omega
    · refine ⟨5, by decide, fun y b => ?_⟩
      simp only [Int32.lt_iff_toInt_lt]
      omega
  obtain ⟨x0, m0, e0⟩ := own_v k a.toInt32
  obtain ⟨x1, m1, e1⟩ := own_v k (f0_w19 a)
  obtain ⟨x2, m2, e2⟩ := own_v k b.toInt32
  obtain ⟨x3, m3, e3⟩ := own_v k (f0_w34 b)
  obtain ⟨x4, m4, e4⟩ := own_v k c
  rw [own_resC (⟨e0, e1, e2, e3, e4, PL, PH⟩ : own_cap L L' H H' k 0 _ _ _ _ _ x0 x1 x2 x3 x4)]
  exact own_small _ _ _ _ _ _ _ hL hH m0 m1 m2 m3 m4
set_option maxRecDepth 65536 in
set_option maxHeartbeats 40000000 in
theorem comes_1 {Post : Tables → Env → Array Value → State → Outcome → State → Prop} (hpost : ∀ tb e args s v u, (limb_1_1.after args s (.returned v) u = true ∧ limb_1_2.after args s (.returned v) u = true ∧ True) → FrameEnd s (.returned v) u (Jvm.fieldLocs frame_1_writes args s ++ Jvm.arrayLocs frame_1_arrays args s ++ Jvm.staticLocs frame_1_statics s) 24 128 → Post tb e args s (.returned v) u) :
    ArmFor flags0 classFile x code maxLocals ret World_1 tables_1 room_1 Calls_1 rest_1 Pre_1 Post := by
  intro l hfl _ _ p e ha hc hk s m args below hf hA hF happ hP
  obtain ⟨hcalls, hrest, hpre⟩ := hP
  obtain ⟨-, -, -, hnamed, -, -, -, hat⟩ := (Spec.applies_iff hf).mp happ
  obtain ⟨hg, hn⟩ := and_e (Cond.before_iff.mp (show (Jvm.Cond.and given_1 narrow_1).before args s = true from hpre))
  obtain ⟨g1, g2⟩ := and_e hg
  obtain ⟨g3, g4⟩ := and_e g2
  obtain ⟨g5, g6⟩ := and_e g4
  obtain ⟨g7, g8⟩ := and_e g6
  obtain ⟨g9, g10⟩ := and_e g8
  obtain ⟨g11, g12⟩ := and_e g10
  obtain ⟨w0, w1, w2, w3, w4, w5, rfl⟩ : ∃ w0 w1 w2 w3 w4 w5 : Value, args = #[w0, w1, w2, w3, w4, w5] := by
    have hs : args.size = 6 := by simpa [Cond.value, given_1] using g1
    obtain ⟨L⟩ := args
    match L, hs with
    | [w0, w1, w2, w3, w4, w5], _ => exact ⟨w0, w1, w2, w3, w4, w5, rfl⟩
  have hw := fun d (hd : d ∈ tables_1) => atoms_spec (ws := Jvm.Cond.code x code maxLocals ret :: tables_1) hat d (List.mem_cons_of_mem _ hd)
  have hfit : Fit s := fun {y c} hc i hi => by
    obtain ⟨ha, rfl⟩ := Array.getElem?_eq_some_iff.mp hc
    have q := List.all_eq_true.mp ((Array.all_eq_true_iff_forall_mem.mp hF) _ (Array.getElem_mem ha)) i (List.mem_range.mpr hi)
    simpa [Array.getElem?_eq_getElem hi] using q
  obtain ⟨i0, ei0⟩ := isL_v g3
  obtain rfl : w0 = (.long i0) := Option.some.inj ei0
  obtain ⟨i1, ei1⟩ := isL_v g5
  obtain rfl : w1 = (.long i1) := Option.some.inj ei1
  obtain ⟨i2, ei2⟩ := is_v g7
  obtain rfl : w2 = (.int i2) := Option.some.inj ei2
  obtain ⟨i3, ei3⟩ := is_v g9
  obtain rfl : w3 = (.int i3) := Option.some.inj ei3
  obtain ⟨i4, ei4⟩ := is_v g11
  obtain rfl : w4 = (.int i4) := Option.some.inj ei4
  obtain ⟨i5, ei5⟩ := is_v g12
  obtain rfl : w5 = (.int i5) := Option.some.inj ei5
  obtain ⟨n, o, h1, h2, h3, _, L, rfl, ⟨rfl, N, -⟩, hq⟩ := rm0 l s _ hw tables_1 i0 i1 i2 i3 i4 i5 s.heap s.heap.size (Nat.le_refl _) p e ha hc hk s m _ below hf ((Spec.applies_iff_loose hf).mp happ).1 ⟨rfl, State.Warmed39.refl s, rfl⟩ trivial
  rw [own_law i0 i1 i2 i3 i4 i5] at *
  refine ⟨n, _, h1, h2, h3, hpost _ _ _ _ _ _ ⟨Cond.after_iff.mpr rfl, Cond.after_iff.mpr (eq_i res_at (Term.int_eval (1)) rfl), trivial⟩ ⟨hq.1, hq.2.1, (hq.2.2.sift fun y hy => Or.inr (N y hy)).mono (by decide) (by decide)⟩⟩
theorem main_1_1 : Claimed_1_1 := comes_1 fun _ _ _ _ _ _ h hF => ⟨h.1, hF⟩
theorem main_1_2 : Claimed_1_2 := comes_1 fun _ _ _ _ _ _ h hF => ⟨h.2.1, hF⟩
end Jvm.Pilot.@@N@@
namespace Jvm.Pilot.@@N@@
open Jvm Jvm.ClassFile Sem Op Lib Jvm.Free Jvm.Stand Jvm.Pilot.@@N@@.Jvm.D
/-! MADE BY PROGRAM (witnessworld.py) out of the Statement's table words and the real class files: 10 classes; the members and pool entries that the words name. The judged class is class 1, her method 1. -/
namespace start1
open Jvm.ClassFile
def u (s : String) : CpInfo := .utf8 (stringToUtf16 s)
/-- a pool by its gaps: so many unusable entries, then the entry; so many at the end -/
def gap : Nat → List CpInfo → List CpInfo
  | 0, r => r
  | n + 1, r => .unusable :: gap n r
def poolList (es : List (Nat × CpInfo)) (last : Nat) : List CpInfo := es.foldr (fun e r => gap e.1 (e.2 :: r)) (gap last [])
def pool (es : List (Nat × CpInfo)) (last : Nat) : Array CpInfo := ⟨poolList es last⟩
def fileOf (pool : Array CpInfo) (this : Nat) (attrs : Array Attribute := #[]) (ms : Array MethodInfo := #[]) (fl : Nat := 33) (sup : Nat := 0) (ifs : Array Nat := #[]) (fds : Array FieldInfo := #[]) : ClassFile where
  minorVersion := 0
  majorVersion := 65
  constantPool := pool
  accessFlags := fl
  thisClass := this
  superClass := sup
  interfaces := ifs
  fields := fds
  methods := ms
  attributes := attrs
def plain (name : String) (sup : Option ClassId) : Class where
  name := name
  kind := .ordinary
  loader := none
  accessFlags := 33
  super := sup
  interfaces := #[]
  cf := none
  fields := #[]
  methods := #[]
  instanceTypes := #[]
  staticTypes := #[]
  resolved := #[]
  callSites := []
  init := .initialized
  statics := none
  mirror := none

def pool0 : Array CpInfo := pool [(5, u "<init>"), (0, u "()V"), (1, .class_ 10), (1, u "java/lang/Object")] 113

def k0m0 : Method := { name := "<init>", desc := "()V", sig := { parameters := [], returnType := none }, accessFlags := 1, code := none }
/-- java/lang/Object -/
def k0 : Class := { plain "java/lang/Object" none with
  accessFlags := 33
  interfaces := #[]
  cf := some (fileOf pool0 8 #[] #[{ accessFlags := 1, nameIndex := 5, descriptorIndex := 6, attributes := #[] }] 33 0 #[] #[])
  fields := #[]
  methods := #[k0m0]
  instanceTypes := #[]
  staticTypes := #[]
  resolved := Array.replicate 124 none
  statics := none }

def pool1 : Array CpInfo := pool [(2, .class_ 4), (1, u "java/lang/Object"), (0, u "<init>"), (0, u "()V"), (0, .integer 2147483647), (0, .methodref 9 10), (0, .class_ 11), (0, .nameAndType 12 13), (0, u "java/lang/Math"), (0, u "max"), (0, u "(II)I"), (0, .methodref 15 16), (0, .class_ 17), (0, .nameAndType 18 19), (0, u "com/example/tightfold/tightfold/FocusCover"), (0, u "runs"), (0, u "([IIII)[[I"), (0, .methodref 21 22), (0, .class_ 23), (0, .nameAndType 24 25), (0, u "com/example/tightfold/tightfold/FocusCoverRunsPinLaw"), (0, u "highAfter"), (0, u "([III)I"), (0, .methodref 21 27), (0, .nameAndType 28 29), (0, u "runOk"), (0, u "([[II[IIII)Z"), (0, .methodref 21 31), (0, .nameAndType 32 33), (0, u "lows"), (0, u "([IIII)I"), (0, .methodref 21 35), (0, .nameAndType 36 37), (0, u "low"), (0, u "([IIIII)I"), (2, u "law"), (0, u "(JJIIII)Z")] 7

def k1m0 : Method := { name := "<init>", desc := "()V", sig := { parameters := [], returnType := none }, accessFlags := 2, code := none }
def k1c1 : Code := { maxStack := 6, maxLocals := 13, code := code, exceptionTable := #[], attributes := #[] }
def k1m1 : Method := { name := "law", desc := "(JJIIII)Z", sig := { parameters := [.long, .long, .int, .int, .int, .int], returnType := some .boolean }, accessFlags := 9, code := some k1c1 }
def k1c2 : Code := { maxStack := 4, maxLocals := 11, code := method_3_code, exceptionTable := #[], attributes := #[] }
def k1m2 : Method := { name := "runOk", desc := "([[II[IIII)Z", sig := { parameters := [(.array (.array .int)), .int, (.array .int), .int, .int, .int], returnType := some .boolean }, accessFlags := 10, code := some k1c2 }
def k1c3 : Code := { maxStack := 2, maxLocals := 4, code := method_4_code, exceptionTable := #[], attributes := #[] }
def k1m3 : Method := { name := "highAfter", desc := "([III)I", sig := { parameters := [(.array .int), .int, .int], returnType := some .int }, accessFlags := 10, code := some k1c3 }
def k1c4 : Code := { maxStack := 2, maxLocals := 5, code := method_5_code, exceptionTable := #[], attributes := #[] }
def k1m4 : Method := { name := "low", desc := "([IIIII)I", sig := { parameters := [(.array .int), .int, .int, .int, .int], returnType := some .int }, accessFlags := 10, code := some k1c4 }
def k1c5 : Code := { maxStack := 6, maxLocals := 4, code := method_6_code, exceptionTable := #[], attributes := #[] }
def k1m5 : Method := { name := "lows", desc := "([IIII)I", sig := { parameters := [(.array .int), .int, .int, .int], returnType := some .int }, accessFlags := 10, code := some k1c5 }
/-- com/example/tightfold/tightfold/FocusCoverRunsPinLaw -/
def k1 : Class := { plain "com/example/tightfold/tightfold/FocusCoverRunsPinLaw" (some 0) with
  accessFlags := 49
  interfaces := #[]
  cf := some (fileOf pool1 21 #[] #[{ accessFlags := 2, nameIndex := 5, descriptorIndex := 6, attributes := #[] }, { accessFlags := 9, nameIndex := 40, descriptorIndex := 41, attributes := #[] }, { accessFlags := 10, nameIndex := 28, descriptorIndex := 29, attributes := #[] }, { accessFlags := 10, nameIndex := 24, descriptorIndex := 25, attributes := #[] }, { accessFlags := 10, nameIndex := 36, descriptorIndex := 37, attributes := #[] }, { accessFlags := 10, nameIndex := 32, descriptorIndex := 33, attributes := #[] }] 49 2 #[] #[])
  fields := #[]
  methods := #[k1m0, k1m1, k1m2, k1m3, k1m4, k1m5]
  instanceTypes := #[]
  staticTypes := #[]
  resolved := Array.replicate 49 none
  statics := none }

def pool2 : Array CpInfo := pool [(1, .class_ 2), (0, u "java/lang/Math"), (1, .class_ 6), (1, u "java/lang/Object"), (0, u "<init>"), (0, u "()V"), (89, .class_ 100), (1, u "java/lang/Math$RandomNumberGeneratorHolder"), (71, u "negativeZeroFloatBits"), (0, u "J"), (2, u "negativeZeroDoubleBits"), (21, u "max"), (46, u "$assertionsDisabled"), (0, u "Z"), (88, u "(II)I"), (2, u "twoToTheDoubleScaleDown"), (0, u "D"), (4, u "twoToTheDoubleScaleUp"), (9, u "E"), (3, u "PI"), (2, u "TAU"), (2, u "DEGREES_TO_RADIANS"), (0, u "RADIANS_TO_DEGREES")] 94

def k2m0 : Method := { name := "<init>", desc := "()V", sig := { parameters := [], returnType := none }, accessFlags := 2, code := none }
def k2c1 : Code := { maxStack := 2, maxLocals := 2, code := jdk_29_method_65_code, exceptionTable := #[], attributes := #[] }
def k2m1 : Method := { name := "max", desc := "(II)I", sig := { parameters := [.int, .int], returnType := some .int }, accessFlags := 9, code := some k2c1 }
/-- java/lang/Math -/
def k2 : Class := { plain "java/lang/Math" (some 0) with
  accessFlags := 49
  interfaces := #[]
  cf := some (fileOf pool2 1 #[.nestMembers #[98]] #[{ accessFlags := 2, nameIndex := 7, descriptorIndex := 8, attributes := #[] }, { accessFlags := 9, nameIndex := 198, descriptorIndex := 335, attributes := #[] }] 49 4 #[] #[{ accessFlags := 25, nameIndex := 354, descriptorIndex := 339, attributes := #[] }, { accessFlags := 25, nameIndex := 358, descriptorIndex := 339, attributes := #[] }, { accessFlags := 25, nameIndex := 361, descriptorIndex := 339, attributes := #[] }, { accessFlags := 26, nameIndex := 364, descriptorIndex := 339, attributes := #[] }, { accessFlags := 26, nameIndex := 365, descriptorIndex := 339, attributes := #[] }, { accessFlags := 26, nameIndex := 172, descriptorIndex := 173, attributes := #[] }, { accessFlags := 26, nameIndex := 176, descriptorIndex := 173, attributes := #[] }, { accessFlags := 8, nameIndex := 344, descriptorIndex := 339, attributes := #[] }, { accessFlags := 8, nameIndex := 338, descriptorIndex := 339, attributes := #[] }, { accessFlags := 4120, nameIndex := 245, descriptorIndex := 246, attributes := #[] }])
  fields := #[{ name := "E", type := .double, accessFlags := 25, slot := 0, constantValue := 0 }, { name := "PI", type := .double, accessFlags := 25, slot := 1, constantValue := 0 }, { name := "TAU", type := .double, accessFlags := 25, slot := 2, constantValue := 0 }, { name := "DEGREES_TO_RADIANS", type := .double, accessFlags := 26, slot := 3, constantValue := 0 }, { name := "RADIANS_TO_DEGREES", type := .double, accessFlags := 26, slot := 4, constantValue := 0 }, { name := "negativeZeroFloatBits", type := .long, accessFlags := 26, slot := 5, constantValue := 0 }, { name := "negativeZeroDoubleBits", type := .long, accessFlags := 26, slot := 6, constantValue := 0 }, { name := "twoToTheDoubleScaleUp", type := .double, accessFlags := 8, slot := 7, constantValue := 0 }, { name := "twoToTheDoubleScaleDown", type := .double, accessFlags := 8, slot := 8, constantValue := 0 }, { name := "$assertionsDisabled", type := .boolean, accessFlags := 4120, slot := 9, constantValue := 0 }]
  methods := #[k2m0, k2m1]
  instanceTypes := #[]
  staticTypes := #[.double, .double, .double, .double, .double, .long, .long, .double, .double, .boolean]
  resolved := Array.replicate 460 none
  statics := none }

def pool3 : Array CpInfo := pool [(2, .class_ 4), (1, u "java/lang/Object"), (0, u "<init>"), (0, u "()V"), (0, .methodref 8 9), (0, .class_ 10), (0, .nameAndType 11 12), (0, u "com/example/tightfold/tightfold/FocusCover"), (0, u "cover"), (0, u "([IIII[[I)I"), (0, .methodref 8 14), (0, .nameAndType 15 16), (0, u "cardinality"), (0, u "([IIII)I"), (0, .class_ 18), (0, u "[I"), (2, u "runs"), (0, u "([IIII)[[I")] 3

def k3m0 : Method := { name := "<init>", desc := "()V", sig := { parameters := [], returnType := none }, accessFlags := 2, code := none }
def k3c1 : Code := { maxStack := 5, maxLocals := 4, code := prog_2_method_2_code, exceptionTable := #[], attributes := #[] }
def k3m1 : Method := { name := "cardinality", desc := "([IIII)I", sig := { parameters := [(.array .int), .int, .int, .int], returnType := some .int }, accessFlags := 8, code := some k3c1 }
def k3c2 : Code := { maxStack := 5, maxLocals := 5, code := prog_2_method_3_code, exceptionTable := #[], attributes := #[] }
def k3m2 : Method := { name := "runs", desc := "([IIII)[[I", sig := { parameters := [(.array .int), .int, .int, .int], returnType := some (.array (.array .int)) }, accessFlags := 8, code := some k3c2 }
def k3c3 : Code := { maxStack := 6, maxLocals := 10, code := prog_2_method_4_code, exceptionTable := #[], attributes := #[] }
def k3m3 : Method := { name := "cover", desc := "([IIII[[I)I", sig := { parameters := [(.array .int), .int, .int, .int, (.array (.array .int))], returnType := some .int }, accessFlags := 10, code := some k3c3 }
/-- com/example/tightfold/tightfold/FocusCover -/
def k3 : Class := { plain "com/example/tightfold/tightfold/FocusCover" (some 0) with
  accessFlags := 48
  interfaces := #[]
  cf := some (fileOf pool3 8 #[] #[{ accessFlags := 2, nameIndex := 5, descriptorIndex := 6, attributes := #[] }, { accessFlags := 8, nameIndex := 15, descriptorIndex := 16, attributes := #[] }, { accessFlags := 8, nameIndex := 21, descriptorIndex := 22, attributes := #[] }, { accessFlags := 10, nameIndex := 11, descriptorIndex := 12, attributes := #[] }] 48 2 #[] #[])
  fields := #[]
  methods := #[k3m0, k3m1, k3m2, k3m3]
  instanceTypes := #[]
  staticTypes := #[]
  resolved := Array.replicate 26 none
  statics := none }

def pool4 : Array CpInfo := pool [(1, u "java/lang/Cloneable"), (0, .class_ 1), (0, u "java/lang/Object"), (0, .class_ 3)] 3

/-- java/lang/Cloneable -/
def k4 : Class := { plain "java/lang/Cloneable" (some 0) with
  accessFlags := 1537
  interfaces := #[]
  cf := some (fileOf pool4 2 #[] #[] 1537 4 #[] #[])
  fields := #[]
  methods := #[]
  instanceTypes := #[]
  staticTypes := #[]
  resolved := Array.replicate 8 none
  statics := none }

def pool5 : Array CpInfo := pool [(1, u "java/io/Serializable"), (0, .class_ 1), (0, u "java/lang/Object"), (0, .class_ 3)] 3

/-- java/io/Serializable -/
def k5 : Class := { plain "java/io/Serializable" (some 0) with
  accessFlags := 1537
  interfaces := #[]
  cf := some (fileOf pool5 2 #[] #[] 1537 4 #[] #[])
  fields := #[]
  methods := #[]
  instanceTypes := #[]
  staticTypes := #[]
  resolved := Array.replicate 8 none
  statics := none }

/-- the primitive byte -/
def k6 : Class := { plain "byte" none with kind := .primitive 'B', accessFlags := 0x411 }
/-- [B -/
def k7 : Class := { plain "[B" (some 0) with kind := .array 6 .byte, interfaces := #[4, 5], accessFlags := 1041 }

/-- the primitive int -/
def k8 : Class := { plain "int" none with kind := .primitive 'I', accessFlags := 0x411 }
/-- [I -/
def k9 : Class := { plain "[I" (some 0) with kind := .array 8 .int, interfaces := #[4, 5], accessFlags := 1041 }
/-- [[I -/
def k10 : Class := { plain "[[I" (some 0) with kind := .array 9 (.array .int), interfaces := #[4, 5], accessFlags := 1041 }

def heap : Heap := #[]
def classes : Array Class := #[k0, k1, k2, k3, k4, k5, k6, k7, k8, k9, k10]
def interned : List (Array UInt16 × Addr) := []
def slotsUsed : Nat := 0
def theMethod : MethodId := ⟨1, 1⟩
def args0 : Array Value := #[.long 5, .long 7, .int 3, .int 1, .int 2, .int 1]
def aboutOver (below : List Frame) : State where
  vm := { classes := classes, interned := interned.toArray }
  heap := heap
  slotsUsed := slotsUsed
  threads := #[{ frames := .invoking theMethod args0 :: below }]
def below0 : List Frame := [.native { method := ⟨0, 0⟩, args := #[] }]
def about1 : State := aboutOver below0
def p0 : Program := .bare "" "" ""
def e0 : Env := launch0.env 0 0 0
theorem w_frames : about1.frames = Frame.invoking theMethod args0 :: below0 := rfl
set_option maxRecDepth 65536 in
theorem w_args : argsFit about1.vm theMethod args0 = true := by decide +kernel
set_option maxRecDepth 65536 in
theorem w_heap : heapFits about1 = true := by decide +kernel
set_option maxRecDepth 65536 in
theorem w_runnable : about1.curStatus? = some .runnable := by decide +kernel
set_option maxRecDepth 65536 in
theorem w_alone : about1.alone = true := by decide +kernel
set_option maxRecDepth 65536 in
theorem w_named : about1.methodNamed? x = some theMethod := by decide +kernel
set_option maxRecDepth 65536 in
theorem w_hears : about1.hears theMethod below0 = true := by decide +kernel
set_option maxRecDepth 65536 in
theorem w_ripe : about1.ripe theMethod args0 below0 = true := by decide +kernel
theorem w_running : about1.status = .running := rfl
set_option maxRecDepth 65536 in
theorem w_room : about1.hasRoom e0.platform room_1 = true :=
  launch0.hasRoom_least _ room_1 (by decide +kernel) (by decide +kernel) (by decide +kernel) (by decide +kernel) (by decide +kernel) (by decide +kernel)
theorem allAtoms_all (ts : List Jvm.Cond) (a : Array Jvm.Value) (st : Jvm.State) : (allAtoms ts).before a st = ts.all (fun c => c.before a st) := by
  induction ts with
  | nil => rfl
  | cons c t ih =>
    show (Jvm.Cond.and c (allAtoms t)).before a st = _
    rw [Jvm.Cond.before_and, ih, List.all_cons]
def words1 : List Jvm.Cond := Jvm.Cond.code x code maxLocals ret :: tables_1
/-- a 'code' word, met by the world's own term for the bytes: nothing is compared byte by byte -/
theorem code_word {y : MethodName} {bytes : ByteArray} {mx : Nat} {rt : Option FieldType} {a : Array Value} {s : State} {m : MethodId} {meth : Method} {c : Code} (h1 : s.methodNamed? y = some m) (h2 : s.vm.method? m = some meth) (h3 : meth.code = some c) (h4 : c.code = bytes)
    (h5 : (c.maxLocals == mx && c.exceptionTable.isEmpty && decide (c.maxStack ≤ mostOperands) && decide (meth.sig.returnType = rt) && !meth.locks && decide (parseMethodDescriptor y.desc = some meth.sig)) = true) : (Jvm.Cond.code y bytes mx rt).before a s = true := by
  simp only [Bool.and_eq_true, beq_iff_eq, Bool.not_eq_true', decide_eq_true_eq] at h5
  obtain ⟨⟨⟨⟨⟨g1, g2⟩, g3⟩, g4⟩, g5⟩, g6⟩ := h5
  simp [Cond.before, Cond.holds, Cond.value, h1, h2, h3, h4, g1, g2, g3, g4, g5, g6]
def isCode : Jvm.Cond → Bool
  | .code _ _ _ _ => true
  | _ => false
theorem all_split {L : List Jvm.Cond} {P : Jvm.Cond → Bool} (h1 : L.all (fun c => isCode c || P c) = true) (h2 : ∀ c ∈ L.filter isCode, P c = true) : L.all P = true := by
  refine List.all_eq_true.mpr fun c hc => ?_
  have h := List.all_eq_true.mp h1 c hc
  rcases Bool.eq_false_or_eq_true (isCode c) with hi | hi
  · exact h2 c (List.mem_filter.mpr ⟨hc, hi⟩)
  · simpa [hi] using h
set_option maxRecDepth 65536 in
theorem w_c0 : (Jvm.Cond.code x code maxLocals ret).before args0 about1 = true := code_word (m := ⟨1, 1⟩) (meth := k1m1) (c := k1c1) (by decide +kernel) rfl rfl rfl (by decide +kernel)
set_option maxRecDepth 65536 in
theorem w_c1 : (Jvm.Cond.code ({ cls := "java/lang/Math", name := "max", desc := "(II)I" } : Jvm.MethodName) jdk_29_method_65_code (2 : Nat) (Option.some Jvm.ClassFile.FieldType.int)).before args0 about1 = true := code_word (m := ⟨2, 1⟩) (meth := k2m1) (c := k2c1) (by decide +kernel) rfl rfl rfl (by decide +kernel)
set_option maxRecDepth 65536 in
theorem w_c2 : (Jvm.Cond.code ({ cls := "com/example/tightfold/tightfold/FocusCover", name := "runs", desc := "([IIII)[[I" } : Jvm.MethodName) prog_2_method_3_code (5 : Nat) (Option.some (Jvm.ClassFile.FieldType.array (Jvm.ClassFile.FieldType.array Jvm.ClassFile.FieldType.int)))).before args0 about1 = true := code_word (m := ⟨3, 2⟩) (meth := k3m2) (c := k3c2) (by decide +kernel) rfl rfl rfl (by decide +kernel)
set_option maxRecDepth 65536 in
theorem w_c3 : (Jvm.Cond.code ({ cls := "com/example/tightfold/tightfold/FocusCover", name := "cardinality", desc := "([IIII)I" } : Jvm.MethodName) prog_2_method_2_code (4 : Nat) (Option.some Jvm.ClassFile.FieldType.int)).before args0 about1 = true := code_word (m := ⟨3, 1⟩) (meth := k3m1) (c := k3c1) (by decide +kernel) rfl rfl rfl (by decide +kernel)
set_option maxRecDepth 65536 in
theorem w_c4 : (Jvm.Cond.code ({ cls := "com/example/tightfold/tightfold/FocusCover", name := "cover", desc := "([IIII[[I)I" } : Jvm.MethodName) prog_2_method_4_code (10 : Nat) (Option.some Jvm.ClassFile.FieldType.int)).before args0 about1 = true := code_word (m := ⟨3, 3⟩) (meth := k3m3) (c := k3c3) (by decide +kernel) rfl rfl rfl (by decide +kernel)
set_option maxRecDepth 65536 in
theorem w_c5 : (Jvm.Cond.code ({ cls := "com/example/tightfold/tightfold/FocusCoverRunsPinLaw", name := "highAfter", desc := "([III)I" } : Jvm.MethodName) method_4_code (4 : Nat) (Option.some Jvm.ClassFile.FieldType.int)).before args0 about1 = true := code_word (m := ⟨1, 3⟩) (meth := k1m3) (c := k1c3) (by decide +kernel) rfl rfl rfl (by decide +kernel)
set_option maxRecDepth 65536 in
theorem w_c6 : (Jvm.Cond.code ({ cls := "com/example/tightfold/tightfold/FocusCoverRunsPinLaw", name := "runOk", desc := "([[II[IIII)Z" } : Jvm.MethodName) method_3_code (11 : Nat) (Option.some Jvm.ClassFile.FieldType.boolean)).before args0 about1 = true := code_word (m := ⟨1, 2⟩) (meth := k1m2) (c := k1c2) (by decide +kernel) rfl rfl rfl (by decide +kernel)
set_option maxRecDepth 65536 in
theorem w_c7 : (Jvm.Cond.code ({ cls := "com/example/tightfold/tightfold/FocusCoverRunsPinLaw", name := "lows", desc := "([IIII)I" } : Jvm.MethodName) method_6_code (4 : Nat) (Option.some Jvm.ClassFile.FieldType.int)).before args0 about1 = true := code_word (m := ⟨1, 5⟩) (meth := k1m5) (c := k1c5) (by decide +kernel) rfl rfl rfl (by decide +kernel)
set_option maxRecDepth 65536 in
theorem w_c8 : (Jvm.Cond.code ({ cls := "com/example/tightfold/tightfold/FocusCoverRunsPinLaw", name := "low", desc := "([IIIII)I" } : Jvm.MethodName) method_5_code (5 : Nat) (Option.some Jvm.ClassFile.FieldType.int)).before args0 about1 = true := code_word (m := ⟨1, 4⟩) (meth := k1m4) (c := k1c4) (by decide +kernel) rfl rfl rfl (by decide +kernel)
def codes1 : List Jvm.Cond := [Jvm.Cond.code x code maxLocals ret, Jvm.Cond.code ({ cls := "java/lang/Math", name := "max", desc := "(II)I" } : Jvm.MethodName) jdk_29_method_65_code (2 : Nat) (Option.some Jvm.ClassFile.FieldType.int), Jvm.Cond.code ({ cls := "com/example/tightfold/tightfold/FocusCover", name := "runs", desc := "([IIII)[[I" } : Jvm.MethodName) prog_2_method_3_code (5 : Nat) (Option.some (Jvm.ClassFile.FieldType.array (Jvm.ClassFile.FieldType.array Jvm.ClassFile.FieldType.int))), Jvm.Cond.code ({ cls := "com/example/tightfold/tightfold/FocusCover", name := "cardinality", desc := "([IIII)I" } : Jvm.MethodName) prog_2_method_2_code (4 : Nat) (Option.some Jvm.ClassFile.FieldType.int), Jvm.Cond.code ({ cls := "com/example/tightfold/tightfold/FocusCover", name := "cover", desc := "([IIII[[I)I" } : Jvm.MethodName) prog_2_method_4_code (10 : Nat) (Option.some Jvm.ClassFile.FieldType.int), Jvm.Cond.code ({ cls := "com/example/tightfold/tightfold/FocusCoverRunsPinLaw", name := "highAfter", desc := "([III)I" } : Jvm.MethodName) method_4_code (4 : Nat) (Option.some Jvm.ClassFile.FieldType.int), Jvm.Cond.code ({ cls := "com/example/tightfold/tightfold/FocusCoverRunsPinLaw", name := "runOk", desc := "([[II[IIII)Z" } : Jvm.MethodName) method_3_code (11 : Nat) (Option.some Jvm.ClassFile.FieldType.boolean), Jvm.Cond.code ({ cls := "com/example/tightfold/tightfold/FocusCoverRunsPinLaw", name := "lows", desc := "([IIII)I" } : Jvm.MethodName) method_6_code (4 : Nat) (Option.some Jvm.ClassFile.FieldType.int), Jvm.Cond.code ({ cls := "com/example/tightfold/tightfold/FocusCoverRunsPinLaw", name := "low", desc := "([IIIII)I" } : Jvm.MethodName) method_5_code (5 : Nat) (Option.some Jvm.ClassFile.FieldType.int)]
set_option maxRecDepth 65536 in
theorem codes_eq : words1.filter isCode = codes1 := rfl
theorem w_codes : ∀ c ∈ words1.filter isCode, c.before args0 about1 = true := by
  rw [codes_eq]
  intro c hc
  simp only [codes1, List.mem_cons, List.not_mem_nil, or_false] at hc
  rcases hc with rfl | rfl | rfl | rfl | rfl | rfl | rfl | rfl | rfl
  · exact w_c0
  · exact w_c1
  · exact w_c2
  · exact w_c3
  · exact w_c4
  · exact w_c5
  · exact w_c6
  · exact w_c7
  · exact w_c8
set_option maxRecDepth 65536 in
theorem w_t1 : (words1.take 24).all (fun c => isCode c || c.before args0 about1) = true := by decide +kernel
set_option maxRecDepth 65536 in
theorem w_t2 : (words1.drop 24).all (fun c => isCode c || c.before args0 about1) = true := by decide +kernel
theorem w_tables : (allAtoms (Jvm.Cond.code x code maxLocals ret :: tables_1)).before args0 about1 = true := by
  rw [allAtoms_all]
  show words1.all (fun c => c.before args0 about1) = true
  refine all_split ?_ w_codes
  rw [← List.take_append_drop 24 words1, List.all_append, w_t1, w_t2]
  rfl
set_option maxRecDepth 65536 in
theorem w_case : (Jvm.Cond.and given_1 narrow_1).before args0 about1 = true := by decide +kernel
theorem w_applies : (headSpec (Jvm.Cond.code x code maxLocals ret :: tables_1) room_1).applies x e0.platform about1 = true :=
  (Spec.applies_iff w_frames).mpr ⟨w_running, w_runnable, w_alone, w_named, w_hears, w_ripe, w_room, w_tables⟩
theorem atStart : AtStart classFile x code maxLocals ret World_1 tables_1 room_1 Calls_1 rest_1 Pre_1 launch0 p0 e0 about1 theMethod args0 below0 :=
  ⟨lists_1, trivial, launch0.admits_env _ _ _, launch0.least_env, fairChoices_fair.cas, fairChoices_fair.clock, w_frames, w_args, w_heap, w_applies, trivial, trivial, w_case⟩
end start1
theorem witness_1 : WitnessClaimed_1 := ⟨start1.p0, start1.e0, start1.about1, start1.theMethod, start1.args0, start1.below0, start1.atStart⟩
end Jvm.Pilot.@@N@@
